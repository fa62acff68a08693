import JvmDerived
import JvmDerived.Pilot.@@N@@Statement
import JvmDerived.Pilot.@@N@@Code
set_option linter.unusedVariables false
set_option linter.unusedSimpArgs false
@@BLOCK:NumsL.lean.txt@@
namespace Jvm.RoadKit
open Sem ClassFile Op Lib Jvm.Stand Jvm.Free Jvm.LawKit
section New
variable {p : Program} {l : Launch} {e : Env} {R : Room} {s : State} {m : MethodId} {args : Array Value} {below : List Frame} {meth : Method} {c : Code} {T : State} {locs : List Loc} {cells slots : Nat}
theorem retI (X : Stand p l e R s m args below meth c T locs cells slots) (hx : p.tables.exec = Jvm.exec) {pc : Nat} {Ls : Array Slot} {z : Int32} {rest : List Value} (hret : meth.sig.returnType = some .int) (hd : decode c.code pc = .ok (.ireturn, 1)) {fs : List Frame}
    (hl : ∀ (f : JFrame) (acts : List Action), f.method = m → f.locked = none → f.entered = [] → (doReturn e (T.setTop f) acts (some (.int z))).1 = T.setFrames fs) : Steps p.tables e below (T.setTop (mkF m pc Ls (.int z :: rest))) (T.setFrames fs) := by
  have hm' : T.vm.method? m = some meth := X.method'
  have hn : narrow .int (.int z) = .int z := rfl
  show Steps p.tables e below (T.setTop { method := m, pc := pc, locals := Ls, stack := _ :: rest, locked := none }) _
  jvm_step X.here [X.here.top, hx, hd, hm', hret, hn]
  first | (intro acts; rw [hl _ acts rfl rfl rfl]) | rw [hl _ _ rfl rfl rfl]
  exact Steps.refl _
end New
end Jvm.RoadKit
namespace Jvm.Pilot.@@N@@
open Jvm Jvm.ClassFile Sem Op Lib Jvm.Free Jvm.Stand Jvm.LawKit Jvm.RoadKit Bundle Jvm.Pilot.@@N@@.Jvm.D
abbrev Gx (p : Program) (e : Env) (below : List Frame) (T0 : State) (f0 : JFrame) (T : State) (f : JFrame) : Prop := ∀ t, Steps p.tables e below (T.setTop f) t → Steps p.tables e below (T0.setTop f0) t
theorem own_selp {Z s : State} {a0 args : Array Value} {y : MethodName} {n : Nat} (hZ : Z.Warmed39 s.vm) (wi : (Jvm.Cond.instantiable y.cls n).before a0 Z = true) (wp : (Jvm.Cond.privateMethod y).before a0 Z = true) (wm : (Jvm.Cond.instanceMethod y).before a0 Z = true) (hy : y.cls ≠ "java/lang/invoke/MethodHandle" ∧ y.cls ≠ "java/lang/invoke/VarHandle") : (Jvm.Cond.selects y.cls y y).before args s = true := by
  have wi' : (Jvm.Cond.instantiable y.cls n).before args s = true := mvT hZ wi
  obtain ⟨c, k, h1, h2, -, h4, -⟩ := Cond.instantiable_spec wi'
  have h5 : k.isInterface = false := by simp only [Bool.or_eq_false_iff] at h4; exact h4.1
  exact Jvm.Stand.selects_self_of_private h1 h2 h5 (Cond.privateMethod_at (mvP hZ wp (args := args))) (mvT hZ wm) hy
theorem own_fin (v : Int32) (n : Nat) (h0 : 0 ≤ v.toInt) (h1 : v.toInt < n) (hn : n ≤ 100000) : ∃ i : Fin n, v = Int32.ofNat i.1 := by
  refine ⟨⟨v.toInt.toNat, by omega⟩, ?_⟩
  apply Int32.toInt_inj.mp
  show _ = (Int32.ofNat v.toInt.toNat).toInt
  rw [toInt_of (n := Int32.ofNat v.toInt.toNat) rfl (by omega)]
  omega
theorem own_and3 (x : Int32) : x &&& (3 : Int32) = 0 ∨ x &&& (3 : Int32) = 1 ∨ x &&& (3 : Int32) = 2 ∨ x &&& (3 : Int32) = 3 := by
  have h := Jvm.Kit.i32_mask x 3 (k := 2) (by decide) (by decide)
  obtain ⟨i, hi⟩ := own_fin (x &&& (3 : Int32)) 4 (by omega) (by omega) (by decide)
  rw [hi]
  clear hi h
  revert i
  decide
theorem own_k0 (x : Int32) : ((x &&& (3 : Int32)) % (1 : Int32)) = (0 : Int32) := by
  rcases own_and3 x with h | h | h | h <;> rw [h] <;> decide
theorem own_k1 (x : Int32) : ((x &&& (3 : Int32)) % (2 : Int32)) = (0 : Int32) ∨ ((x &&& (3 : Int32)) % (2 : Int32)) = (1 : Int32) := by
  rcases own_and3 x with h | h | h | h <;> rw [h] <;> decide
theorem own_k2 (x : Int32) : ((x &&& (3 : Int32)) % (3 : Int32)) = (0 : Int32) ∨ ((x &&& (3 : Int32)) % (3 : Int32)) = (1 : Int32) ∨ ((x &&& (3 : Int32)) % (3 : Int32)) = (2 : Int32) := by
  rcases own_and3 x with h | h | h | h <;> rw [h] <;> decide
theorem own_k3 (x : Int32) : ((x &&& (3 : Int32)) % (4 : Int32)) = (0 : Int32) ∨ ((x &&& (3 : Int32)) % (4 : Int32)) = (1 : Int32) ∨ ((x &&& (3 : Int32)) % (4 : Int32)) = (2 : Int32) ∨ ((x &&& (3 : Int32)) % (4 : Int32)) = (3 : Int32) := by
  rcases own_and3 x with h | h | h | h <;> rw [h] <;> decide
theorem d1_0 : decode prog_6_method_1_code 0 = .ok (.aload_n 0, 1) := by decide +kernel
theorem d1_1 : decode prog_6_method_1_code 1 = .ok (.invokespecial 1, 3) := by decide +kernel
theorem d1_4 : decode prog_6_method_1_code 4 = .ok (.aload_n 0, 1) := by decide +kernel
theorem d1_5 : decode prog_6_method_1_code 5 = .ok (.aload_n 1, 1) := by decide +kernel
theorem d1_6 : decode prog_6_method_1_code 6 = .ok (.putfield 7, 3) := by decide +kernel
theorem d1_9 : decode prog_6_method_1_code 9 = .ok (.return_, 1) := by decide +kernel
theorem pn_1 : plainName "com/example/looseleaf/looseleaf/pgwire/MessageBody" = true := by first | (simp [plainName, overriddenIn]; done) | decide +kernel
theorem ef_Ini (m : MethodId) (a1 : Addr) (a2 : Addr) : entryFrame m #[(.ref a1), (.ref a2)] 2 = mkF m 0 #[.val (.ref a1), .val (.ref a2)] [] := by first | (simp [entryFrame, mkF, argsToLocals, Value.category]; done) | rfl
def QIni (Z : State) (a1 : Addr) (a2 : Addr) (h0 : Heap) (n0 : Nat) (v : Option Value) (h : Heap) (L : List Loc) : Prop := v = none ∧ Fr n0 L ∧ Keep h0 h [a1] ∧ Exa Z h a1 "com/example/looseleaf/looseleaf/pgwire/MessageBody" ∧ Fld Z h a1 "com/example/looseleaf/looseleaf/pgwire/MessageBody" "bytes" "[B" (.ref a2) ∧ Fld Z h a1 "com/example/looseleaf/looseleaf/pgwire/MessageBody" "at" "I" (.int (0 : Int32))
set_option maxRecDepth 65536 in
set_option maxHeartbeats 40000000 in
theorem rmIni (l : Launch) (Z : State) (a0 : Array Value) (hw : ∀ d ∈ tables_1, d.before a0 Z = true) (ws : List Jvm.Cond) (a1 : Addr) (a2 : Addr) (h0 : Heap) (n0 : Nat) (Z0 : n0 ≤ h0.size) (pr0 : Exa Z h0 a1 "com/example/looseleaf/looseleaf/pgwire/MessageBody") (pr1 : n0 ≤ a1) (pr2 : Fld Z h0 a1 "com/example/looseleaf/looseleaf/pgwire/MessageBody" "bytes" "[B" .null) (pr3 : Fld Z h0 a1 "com/example/looseleaf/looseleaf/pgwire/MessageBody" "at" "I" (.int (0 : Int32))) :
    MetFree l (⟨"com/example/looseleaf/looseleaf/pgwire/MessageBody", "<init>", "([B)V"⟩ : MethodName) (head1 (Jvm.Cond.code (⟨"com/example/looseleaf/looseleaf/pgwire/MessageBody", "<init>", "([B)V"⟩ : MethodName) prog_6_method_1_code 2 none :: ws) ({ frames := 1, cells := 0, slots := 0, locals := 12 } : Room)) (fun a U => a = #[(.ref a1), (.ref a2)] ∧ Z.Warmed39 U.vm ∧ U.heap = h0) (fun _ _ _ _ _ => True) (fun _ U o U' => ∃ v L, o = .returned v ∧ QIni Z a1 a2 h0 n0 v U'.heap L ∧ FrameEnd U o U' L ({ frames := 1, cells := 0, slots := 0, locals := 12 } : Room).cells ({ frames := 1, cells := 0, slots := 0, locals := 12 } : Room).slots) := by
  refine MetFree.of_bodySF (plainFor_of_name pn_1) hisR ?_
  intro p e s m args below meth c s₁ Bd hml0 hP hK
  obtain ⟨rfl, hZ, hh⟩ := hP
  have hx := Bd.exec
  have hby := Bd.bytes
  have hml : c.maxLocals = 2 := hml0
  have hown : s.vm.findClass "com/example/looseleaf/looseleaf/pgwire/MessageBody" = some m.cls := findClass_of_methodNamed Bd.named
  have hnm := (name_of_methodNamed Bd.named Bd.method).1
  have X0 : Stand p l e ({ frames := 1, cells := 0, slots := 0, locals := 12 } : Room) s m #[(.ref a1), (.ref a2)] below meth c s₁ [] 0 0 := Stand.of_body Bd
  have hs0 : h0 = s.heap := hh.symm
  have e0 : s₁.heap = h0 := by rw [← hh, Bd.state]; rfl
  have N0 := Fr.nil n0
  obtain ⟨f0, hf0⟩ : ∃ f, f = entryFrame m #[(.ref a1), (.ref a2)] 2 := ⟨_, rfl⟩
  have pre0 : ∀ t, Steps p.tables e below (s₁.setTop f0) t → Steps p.tables e below (s₁.setTop (entryFrame m #[(.ref a1), (.ref a2)] 2)) t := fun t k => hf0 ▸ k
  have K0 : Gx p e below s₁ f0 s₁ (mkF m 0 #[.val (.ref a1), .val (.ref a2)] []) := fun t kt => by rw [hf0]; exact castTop (ef_Ini m a1 a2) kt
  have K1 : Gx p e below s₁ f0 s₁ (mkF m 1 #[.val (.ref a1), .val (.ref a2)] [(.ref a1)]) := fun t kt => K0 t (by
    show Steps p.tables e below (s₁.setTop (mkF m 0 #[.val (.ref a1), .val (.ref a2)] [])) _
    refine XS.aloadN X0.here hx rfl (hb hby d1_0) rfl rfl ?_
    exact kt)
  obtain ⟨T2, X2, e2, st2⟩ := initO X0 hx hZ hown (hw _ (List.mem_of_getElem? (i := 7) rfl)) (hw _ (List.mem_of_getElem? (i := 8) rfl)) (hw _ (List.mem_of_getElem? (i := 9) rfl)) e0 (g := (mkF m 1 #[.val (.ref a1), .val (.ref a2)] [(.ref a1)])) rfl (by rw [hml]; rfl) rfl (hb hby d1_1) (by decide) (W := 0) (by show 2 * 0 + _ ≤ _; exact Nat.le_of_eq rfl) (by decide)
  have K3 : Gx p e below s₁ f0 T2 (mkF m 4 #[.val (.ref a1), .val (.ref a2)] []) := fun t kt => K1 t (st2 t kt)
  have K4 : Gx p e below s₁ f0 T2 (mkF m 6 #[.val (.ref a1), .val (.ref a2)] [(.ref a2), (.ref a1)]) := fun t kt => K3 t (by
    show Steps p.tables e below (T2.setTop (mkF m 4 #[.val (.ref a1), .val (.ref a2)] [])) _
    refine XS.aloadN X2.here hx rfl (hb hby d1_4) rfl rfl ?_
    show Steps p.tables e below (T2.setTop (mkF m 5 #[.val (.ref a1), .val (.ref a2)] [(.ref a1)])) _
    refine XS.aloadN X2.here hx rfl (hb hby d1_5) rfl rfl ?_
    exact kt)
  obtain ⟨T5, h5, X5', e5, W5, st5⟩ := putF X2 hx hZ hown (host := "") (Or.inl (hw _ (List.mem_of_getElem? (i := 10) rfl))) Via.refl e2 pr2 pr0 (Or.inr ⟨(hw _ (List.mem_of_getElem? (i := 11) rfl)), rfl, hnm⟩) (hw _ (List.mem_of_getElem? (i := 2) rfl)) (ty := (.array .byte)) (by decide) rfl rfl (g := (mkF m 6 #[.val (.ref a1), .val (.ref a2)] [(.ref a2), (.ref a1)])) rfl rfl (hb hby d1_6)
  obtain ⟨lc5, X5, N5⟩ : ∃ lc, Stand p l e ({ frames := 1, cells := 0, slots := 0, locals := 12 } : Room) s m #[(.ref a1), (.ref a2)] below meth c T5 lc 0 0 ∧ Fr n0 lc := ⟨_, X5', Fr.snoc X5' N0 pr1⟩
  have f5_ : Fld Z h5 a1 "com/example/looseleaf/looseleaf/pgwire/MessageBody" "bytes" "[B" (.ref a2) := pr2.same W5
  have K6 : Gx p e below s₁ f0 T5 (mkF m 9 #[.val (.ref a1), .val (.ref a2)] []) := fun t kt => K4 t (st5 t kt)
  have kp8 : Keep h0 h5 [a1] := ((Keep.refl h0 [a1]).wr W5 (Or.inl (List.mem_of_getElem? (i := 0) rfl)))
  have f9 : Exa Z h5 a1 "com/example/looseleaf/looseleaf/pgwire/MessageBody" := (pr0.wr W5)
  have f10 : Fld Z h5 a1 "com/example/looseleaf/looseleaf/pgwire/MessageBody" "at" "I" (.int (0 : Int32)) := (pr3.other W5 (Or.inr (slot_ne (Or.inl (hw _ (List.mem_of_getElem? (i := 18) rfl))) (Or.inr (hw _ (List.mem_of_getElem? (i := 11) rfl))) (by decide) (t := .int) (t' := (.array .byte)) (by decide) (by decide))))
  obtain ⟨fs7, hr7, hrun7, hended7, hW7, hsame7⟩ := X5.leave (v := none) (fun _ => rfl)
  refine ⟨_, _, pre0 _ (K6 _ ?_), hrun7, hended7, _, _, rfl, ?_, ⟨_, rfl⟩, hW7, hsame7.mono (by decide) (by decide)⟩
  · exact X5.returnOut hx Bd.returns (hb hby d1_9) hr7
  · show QIni Z a1 a2 h0 n0 _ T5.heap _
    rw [e5]
    exact ⟨rfl, N5, kp8, f9, f5_, f10⟩
theorem d5_0 : decode prog_6_method_11_code 0 = .ok (.aload_n 0, 1) := by decide +kernel
theorem d5_1 : decode prog_6_method_11_code 1 = .ok (.getfield 7, 3) := by decide +kernel
theorem d5_4 : decode prog_6_method_11_code 4 = .ok (.arraylength, 1) := by decide +kernel
theorem d5_5 : decode prog_6_method_11_code 5 = .ok (.aload_n 0, 1) := by decide +kernel
theorem d5_6 : decode prog_6_method_11_code 6 = .ok (.getfield 17, 3) := by decide +kernel
theorem d5_9 : decode prog_6_method_11_code 9 = .ok (.isub, 1) := by decide +kernel
theorem d5_10 : decode prog_6_method_11_code 10 = .ok (.iload_n 1, 1) := by decide +kernel
theorem d5_11 : decode prog_6_method_11_code 11 = .ok (.if_icmp .ge 7, 3) := by decide +kernel
theorem d5_18 : decode prog_6_method_11_code 18 = .ok (.return_, 1) := by decide +kernel
theorem pn_5 : plainName "com/example/looseleaf/looseleaf/pgwire/MessageBody" = true := by first | (simp [plainName, overriddenIn]; done) | decide +kernel
theorem ef_Req (m : MethodId) (a1 : Addr) (p1 : Int32) : entryFrame m #[(.ref a1), (.int p1)] 2 = mkF m 0 #[.val (.ref a1), .val (.int p1)] [] := by first | (simp [entryFrame, mkF, argsToLocals, Value.category]; done) | rfl
def QReq (Z : State) (a1 : Addr) (p1 : Int32) (a2 : Addr) (w : Int32) (k : ClassId) (z : Int32) (vs : List Value) (h0 : Heap) (n0 : Nat) (v : Option Value) (h : Heap) (L : List Loc) : Prop := v = none ∧ Fr n0 L ∧ h = h0
set_option maxRecDepth 65536 in
set_option maxHeartbeats 40000000 in
theorem rmReq (l : Launch) (Z : State) (a0 : Array Value) (hw : ∀ d ∈ tables_1, d.before a0 Z = true) (ws : List Jvm.Cond) (a1 : Addr) (p1 : Int32) (a2 : Addr) (w : Int32) (k : ClassId) (z : Int32) (vs : List Value) (h0 : Heap) (n0 : Nat) (Z0 : n0 ≤ h0.size) (pr0 : Fld Z h0 a1 "com/example/looseleaf/looseleaf/pgwire/MessageBody" "bytes" "[B" (.ref a2)) (pr1 : Fld Z h0 a1 "com/example/looseleaf/looseleaf/pgwire/MessageBody" "at" "I" (.int w)) (pr2 : Arv Z h0 a2 k .byte z vs (.int (0 : Int32))) (h1 : ¬ ((z - w) < p1)) :
    MetFree l (⟨"com/example/looseleaf/looseleaf/pgwire/MessageBody", "require", "(I)V"⟩ : MethodName) (head1 (Jvm.Cond.code (⟨"com/example/looseleaf/looseleaf/pgwire/MessageBody", "require", "(I)V"⟩ : MethodName) prog_6_method_11_code 2 none :: ws) ({ frames := 0, cells := 0, slots := 0, locals := 0 } : Room)) (fun a U => a = #[(.ref a1), (.int p1)] ∧ Z.Warmed39 U.vm ∧ U.heap = h0) (fun _ _ _ _ _ => True) (fun _ U o U' => ∃ v L, o = .returned v ∧ QReq Z a1 p1 a2 w k z vs h0 n0 v U'.heap L ∧ FrameEnd U o U' L ({ frames := 0, cells := 0, slots := 0, locals := 0 } : Room).cells ({ frames := 0, cells := 0, slots := 0, locals := 0 } : Room).slots) := by
  refine MetFree.of_bodySF (plainFor_of_name pn_5) hisR ?_
  intro p e s m args below meth c s₁ Bd hml0 hP hK
  obtain ⟨rfl, hZ, hh⟩ := hP
  have hx := Bd.exec
  have hby := Bd.bytes
  have hml : c.maxLocals = 2 := hml0
  have hown : s.vm.findClass "com/example/looseleaf/looseleaf/pgwire/MessageBody" = some m.cls := findClass_of_methodNamed Bd.named
  have hnm := (name_of_methodNamed Bd.named Bd.method).1
  have X0 : Stand p l e ({ frames := 0, cells := 0, slots := 0, locals := 0 } : Room) s m #[(.ref a1), (.int p1)] below meth c s₁ [] 0 0 := Stand.of_body Bd
  have hs0 : h0 = s.heap := hh.symm
  have e0 : s₁.heap = h0 := by rw [← hh, Bd.state]; rfl
  have N0 := Fr.nil n0
  obtain ⟨f0, hf0⟩ : ∃ f, f = entryFrame m #[(.ref a1), (.int p1)] 2 := ⟨_, rfl⟩
  have pre0 : ∀ t, Steps p.tables e below (s₁.setTop f0) t → Steps p.tables e below (s₁.setTop (entryFrame m #[(.ref a1), (.int p1)] 2)) t := fun t k => hf0 ▸ k
  have K0 : Gx p e below s₁ f0 s₁ (mkF m 0 #[.val (.ref a1), .val (.int p1)] []) := fun t kt => by rw [hf0]; exact castTop (ef_Req m a1 p1) kt
  have K1 : Gx p e below s₁ f0 s₁ (mkF m 1 #[.val (.ref a1), .val (.int p1)] [(.ref a1)]) := fun t kt => K0 t (by
    show Steps p.tables e below (s₁.setTop (mkF m 0 #[.val (.ref a1), .val (.int p1)] [])) _
    refine XS.aloadN X0.here hx rfl (hb hby d5_0) rfl rfl ?_
    exact kt)
  obtain ⟨T2, X2, e2, st2⟩ := getF X0 hx hZ hown (host := "") (Or.inl (hw _ (List.mem_of_getElem? (i := 10) rfl))) Via.refl e0 pr0 (g := (mkF m 1 #[.val (.ref a1), .val (.int p1)] [(.ref a1)])) rfl rfl (hb hby d5_1)
  have K3 : Gx p e below s₁ f0 T2 (mkF m 4 #[.val (.ref a1), .val (.int p1)] [(.ref a2)]) := fun t kt => K1 t (st2 t kt)
  obtain ⟨clq4, Arq4, ckq4, cSq4, cNq4, cHq4, cGq4⟩ := id pr2
  have K5 : Gx p e below s₁ f0 T2 (mkF m 6 #[.val (.ref a1), .val (.int p1)] [(.ref a1), (.int z)]) := fun t kt => K3 t (by
    show Steps p.tables e below (T2.setTop (mkF m 4 #[.val (.ref a1), .val (.int p1)] [(.ref a2)])) _
    refine X2.arraylength hx (by rw [e2]; exact Arq4.1) (State.isArrayOf_alike hZ.alike Arq4.2.1) (g := (mkF m 4 #[.val (.ref a1), .val (.int p1)] [(.ref a2)])) rfl rfl (hb hby d5_4) _ ?_
    rw [len_of cSq4 cNq4]
    show Steps p.tables e below (T2.setTop (mkF m 5 #[.val (.ref a1), .val (.int p1)] [(.int z)])) _
    refine XS.aloadN X2.here hx rfl (hb hby d5_5) rfl rfl ?_
    exact kt)
  obtain ⟨T6, X6, e6, st6⟩ := getF X2 hx hZ hown (host := "") (Or.inl (hw _ (List.mem_of_getElem? (i := 17) rfl))) Via.refl e2 pr1 (g := (mkF m 6 #[.val (.ref a1), .val (.int p1)] [(.ref a1), (.int z)])) rfl rfl (hb hby d5_6)
  have K7 : Gx p e below s₁ f0 T6 (mkF m 9 #[.val (.ref a1), .val (.int p1)] [(.int w), (.int z)]) := fun t kt => K5 t (st6 t kt)
  have K8 : Gx p e below s₁ f0 T6 (mkF m 18 #[.val (.ref a1), .val (.int p1)] []) := fun t kt => K7 t (by
    show Steps p.tables e below (T6.setTop (mkF m 9 #[.val (.ref a1), .val (.int p1)] [(.int w), (.int z)])) _
    refine XS.isub X6.here hx rfl (hb hby d5_9) rfl ?_
    show Steps p.tables e below (T6.setTop (mkF m 10 #[.val (.ref a1), .val (.int p1)] [(.int (z - w))])) _
    refine XS.iloadN X6.here hx rfl (hb hby d5_10) rfl ?_
    show Steps p.tables e below (T6.setTop (mkF m 11 #[.val (.ref a1), .val (.int p1)] [(.int p1), (.int (z - w))])) _
    refine XS.icmpYes X6.here hx rfl (pc0 := 11) (pc' := 18) rfl (hb hby d5_11) rfl (flt h1).2.1 (by decide) (by decide) ?_
    exact kt)
  obtain ⟨fs9, hr9, hrun9, hended9, hW9, hsame9⟩ := X6.leave (v := none) (fun _ => rfl)
  refine ⟨_, _, pre0 _ (K8 _ ?_), hrun9, hended9, _, _, rfl, ?_, ⟨_, rfl⟩, hW9, hsame9.mono (by decide) (by decide)⟩
  · exact X6.returnOut hx Bd.returns (hb hby d5_18) hr9
  · show QReq Z a1 p1 a2 w k z vs h0 n0 _ T6.heap _
    rw [e6]
    exact ⟨rfl, N0, rfl⟩
theorem d4_0 : decode prog_6_method_2_code 0 = .ok (.aload_n 0, 1) := by decide +kernel
theorem d4_1 : decode prog_6_method_2_code 1 = .ok (.iconst 1, 1) := by decide +kernel
theorem d4_2 : decode prog_6_method_2_code 2 = .ok (.invokevirtual 13, 3) := by decide +kernel
theorem d4_5 : decode prog_6_method_2_code 5 = .ok (.aload_n 0, 1) := by decide +kernel
theorem d4_6 : decode prog_6_method_2_code 6 = .ok (.getfield 7, 3) := by decide +kernel
theorem d4_9 : decode prog_6_method_2_code 9 = .ok (.aload_n 0, 1) := by decide +kernel
theorem d4_10 : decode prog_6_method_2_code 10 = .ok (.dup, 1) := by decide +kernel
theorem d4_11 : decode prog_6_method_2_code 11 = .ok (.getfield 17, 3) := by decide +kernel
theorem d4_14 : decode prog_6_method_2_code 14 = .ok (.dup_x1, 1) := by decide +kernel
theorem d4_15 : decode prog_6_method_2_code 15 = .ok (.iconst 1, 1) := by decide +kernel
theorem d4_16 : decode prog_6_method_2_code 16 = .ok (.iadd, 1) := by decide +kernel
theorem d4_17 : decode prog_6_method_2_code 17 = .ok (.putfield 17, 3) := by decide +kernel
theorem d4_20 : decode prog_6_method_2_code 20 = .ok (.baload, 1) := by decide +kernel
theorem d4_21 : decode prog_6_method_2_code 21 = .ok (.sipush 255, 3) := by decide +kernel
theorem d4_24 : decode prog_6_method_2_code 24 = .ok (.iand, 1) := by decide +kernel
theorem d4_25 : decode prog_6_method_2_code 25 = .ok (.ireturn, 1) := by decide +kernel
theorem pn_4 : plainName "com/example/looseleaf/looseleaf/pgwire/MessageBody" = true := by first | (simp [plainName, overriddenIn]; done) | decide +kernel
theorem pd__I_V : parseMethodDescriptor "(I)V" = some ⟨[.int], none⟩ := by decide +kernel
theorem ef_By1 (m : MethodId) (a1 : Addr) : entryFrame m #[(.ref a1)] 1 = mkF m 0 #[.val (.ref a1)] [] := by first | (simp [entryFrame, mkF, argsToLocals, Value.category]; done) | rfl
def QBy1 (Z : State) (a1 : Addr) (a2 : Addr) (w : Int32) (k : ClassId) (z : Int32) (vs : List Value) (x : Int32) (wn : Int32) (h0 : Heap) (n0 : Nat) (v : Option Value) (h : Heap) (L : List Loc) : Prop := v = some (.int (x &&& (255 : Int32))) ∧ Fr n0 L ∧ Keep h0 h [a1] ∧ Exa Z h a1 "com/example/looseleaf/looseleaf/pgwire/MessageBody" ∧ Fld Z h a1 "com/example/looseleaf/looseleaf/pgwire/MessageBody" "bytes" "[B" (.ref a2) ∧ Fld Z h a1 "com/example/looseleaf/looseleaf/pgwire/MessageBody" "at" "I" (.int wn)
set_option maxRecDepth 65536 in
set_option maxHeartbeats 40000000 in
theorem rmBy1 (l : Launch) (Z : State) (a0 : Array Value) (hw : ∀ d ∈ tables_1, d.before a0 Z = true) (ws : List Jvm.Cond) (a1 : Addr) (a2 : Addr) (w : Int32) (k : ClassId) (z : Int32) (vs : List Value) (x : Int32) (wn : Int32) (h0 : Heap) (n0 : Nat) (Z0 : n0 ≤ h0.size) (pr0 : Exa Z h0 a1 "com/example/looseleaf/looseleaf/pgwire/MessageBody") (pr1 : n0 ≤ a1) (pr2 : Fld Z h0 a1 "com/example/looseleaf/looseleaf/pgwire/MessageBody" "bytes" "[B" (.ref a2)) (pr3 : Fld Z h0 a1 "com/example/looseleaf/looseleaf/pgwire/MessageBody" "at" "I" (.int w)) (pr4 : Arv Z h0 a2 k .byte z vs (.int (0 : Int32))) (pr5 : a1 ≠ a2) (h1 : ¬ ((z - w) < (1 : Int32))) (hr_ : ¬ (w < (0 : Int32)) ∧ w < z) (hx_ : vs.getD w.toNatClampNeg (.int (0 : Int32)) = .int x) (hwn : (w + (1 : Int32)) = wn) :
    MetFree l (⟨"com/example/looseleaf/looseleaf/pgwire/MessageBody", "byte1", "()I"⟩ : MethodName) (head1 (Jvm.Cond.code (⟨"com/example/looseleaf/looseleaf/pgwire/MessageBody", "byte1", "()I"⟩ : MethodName) prog_6_method_2_code 1 (some .int) :: ws) ({ frames := 1, cells := 0, slots := 0, locals := 13 } : Room)) (fun a U => a = #[(.ref a1)] ∧ Z.Warmed39 U.vm ∧ U.heap = h0) (fun _ _ _ _ _ => True) (fun _ U o U' => ∃ v L, o = .returned v ∧ QBy1 Z a1 a2 w k z vs x wn h0 n0 v U'.heap L ∧ FrameEnd U o U' L ({ frames := 1, cells := 0, slots := 0, locals := 13 } : Room).cells ({ frames := 1, cells := 0, slots := 0, locals := 13 } : Room).slots) := by
  refine MetFree.of_bodySF (plainFor_of_name pn_4) hisR ?_
  intro p e s m args below meth c s₁ Bd hml0 hP hK
  obtain ⟨rfl, hZ, hh⟩ := hP
  have hx := Bd.exec
  have hby := Bd.bytes
  have hml : c.maxLocals = 1 := hml0
  have hown : s.vm.findClass "com/example/looseleaf/looseleaf/pgwire/MessageBody" = some m.cls := findClass_of_methodNamed Bd.named
  have hnm := (name_of_methodNamed Bd.named Bd.method).1
  have X0 : Stand p l e ({ frames := 1, cells := 0, slots := 0, locals := 13 } : Room) s m #[(.ref a1)] below meth c s₁ [] 0 0 := Stand.of_body Bd
  have hs0 : h0 = s.heap := hh.symm
  have e0 : s₁.heap = h0 := by rw [← hh, Bd.state]; rfl
  have N0 := Fr.nil n0
  obtain ⟨f0, hf0⟩ : ∃ f, f = entryFrame m #[(.ref a1)] 1 := ⟨_, rfl⟩
  have pre0 : ∀ t, Steps p.tables e below (s₁.setTop f0) t → Steps p.tables e below (s₁.setTop (entryFrame m #[(.ref a1)] 1)) t := fun t k => hf0 ▸ k
  have K0 : Gx p e below s₁ f0 s₁ (mkF m 0 #[.val (.ref a1)] []) := fun t kt => by rw [hf0]; exact castTop (ef_By1 m a1) kt
  have K1 : Gx p e below s₁ f0 s₁ (mkF m 2 #[.val (.ref a1)] [(.int (1 : Int32)), (.ref a1)]) := fun t kt => K0 t (by
    show Steps p.tables e below (s₁.setTop (mkF m 0 #[.val (.ref a1)] [])) _
    refine XS.aloadN X0.here hx rfl (hb hby d4_0) rfl rfl ?_
    show Steps p.tables e below (s₁.setTop (mkF m 1 #[.val (.ref a1)] [(.ref a1)])) _
    refine XS.iconst X0.here hx rfl (hb hby d4_1) ?_
    exact kt)
  obtain ⟨cq2, q2, q2'⟩ := pr0.cell
  obtain ⟨_, _, ⟨T2, L2, k2, n2⟩, -, X2', ⟨Lc2, hQ2, l2, y2, z2⟩, st2⟩ := X0.privateBack hx (y := (⟨"com/example/looseleaf/looseleaf/pgwire/MessageBody", "require", "(I)V"⟩ : MethodName)) hown (mvT hZ (hw _ (List.mem_of_getElem? (i := 24) rfl))) (mvT hZ (hw _ (List.mem_of_getElem? (i := 25) rfl))) (own_selp hZ (hw _ (List.mem_of_getElem? (i := 2) rfl)) (hw _ (List.mem_of_getElem? (i := 26) rfl)) (hw _ (List.mem_of_getElem? (i := 25) rfl)) (by decide)) (Cond.privateMethod_at (mvP hZ (hw _ (List.mem_of_getElem? (i := 26) rfl)) (args := #[]))) (mvT hZ (hw _ (List.mem_of_getElem? (i := 27) rfl))) (by decide) (backOf (W := 0) (rmReq l Z a0 hw [] a1 (1 : Int32) a2 w k z vs h0 n0 (Nat.le_trans Z0 (Keep.refl h0 [a1]).1) pr2 pr3 pr4 h1) hZ (hw _ (List.mem_of_getElem? (i := 27) rfl)) (hw _ (List.mem_of_getElem? (i := 3) rfl)) (by decide) (by decide)) (g := (mkF m 2 #[.val (.ref a1)] [(.int (1 : Int32)), (.ref a1)])) rfl (by rw [hml]; rfl) (Steps.refl _) (a := a1) (by rw [e0]; exact q2) q2' (argsL := [(.int (1 : Int32))]) (rest := []) (lenOf pd__I_V rfl) rfl (by show 2 * 0 + _ ≤ _; exact Nat.le_of_eq rfl) (hb hby d4_2) (fun _ _ => ⟨rfl, e0, (by decide : 0 + 0 ≤ _), (by decide : 0 + 0 ≤ _)⟩)
  dsimp only [Pt.U, Pt.locs, Pt.cells, Pt.slots] at X2' l2 y2 z2 st2 hQ2
  subst l2 y2 z2
  obtain ⟨rfl, N2q, e2⟩ := hQ2
  obtain ⟨lc2, X2, N2⟩ : ∃ lc, Stand p l e ({ frames := 1, cells := 0, slots := 0, locals := 13 } : Room) s m #[(.ref a1)] below meth c T2 lc 0 0 ∧ Fr n0 lc := ⟨_, X2', Fr.app N0 N2q⟩
  have K3 : Gx p e below s₁ f0 T2 (mkF m 5 #[.val (.ref a1)] []) := fun t kt => K1 t (st2.trans kt)
  have K4 : Gx p e below s₁ f0 T2 (mkF m 6 #[.val (.ref a1)] [(.ref a1)]) := fun t kt => K3 t (by
    show Steps p.tables e below (T2.setTop (mkF m 5 #[.val (.ref a1)] [])) _
    refine XS.aloadN X2.here hx rfl (hb hby d4_5) rfl rfl ?_
    exact kt)
  obtain ⟨T5, X5, e5, st5⟩ := getF X2 hx hZ hown (host := "") (Or.inl (hw _ (List.mem_of_getElem? (i := 10) rfl))) Via.refl e2 pr2 (g := (mkF m 6 #[.val (.ref a1)] [(.ref a1)])) rfl rfl (hb hby d4_6)
  have K6 : Gx p e below s₁ f0 T5 (mkF m 9 #[.val (.ref a1)] [(.ref a2)]) := fun t kt => K4 t (st5 t kt)
  have K7 : Gx p e below s₁ f0 T5 (mkF m 11 #[.val (.ref a1)] [(.ref a1), (.ref a1), (.ref a2)]) := fun t kt => K6 t (by
    show Steps p.tables e below (T5.setTop (mkF m 9 #[.val (.ref a1)] [(.ref a2)])) _
    refine XS.aloadN X5.here hx rfl (hb hby d4_9) rfl rfl ?_
    show Steps p.tables e below (T5.setTop (mkF m 10 #[.val (.ref a1)] [(.ref a1), (.ref a2)])) _
    refine XS.dup X5.here hx rfl (hb hby d4_10) rfl rfl ?_
    exact kt)
  obtain ⟨T8, X8, e8, st8⟩ := getF X5 hx hZ hown (host := "") (Or.inl (hw _ (List.mem_of_getElem? (i := 17) rfl))) Via.refl e5 pr3 (g := (mkF m 11 #[.val (.ref a1)] [(.ref a1), (.ref a1), (.ref a2)])) rfl rfl (hb hby d4_11)
  have K9 : Gx p e below s₁ f0 T8 (mkF m 14 #[.val (.ref a1)] [(.int w), (.ref a1), (.ref a2)]) := fun t kt => K7 t (st8 t kt)
  have K10 : Gx p e below s₁ f0 T8 (mkF m 17 #[.val (.ref a1)] [(.int (w + (1 : Int32))), (.ref a1), (.int w), (.ref a2)]) := fun t kt => K9 t (by
    show Steps p.tables e below (T8.setTop (mkF m 14 #[.val (.ref a1)] [(.int w), (.ref a1), (.ref a2)])) _
    refine XS.dupX1 X8.here hx rfl (hb hby d4_14) rfl rfl rfl ?_
    show Steps p.tables e below (T8.setTop (mkF m 15 #[.val (.ref a1)] [(.int w), (.ref a1), (.int w), (.ref a2)])) _
    refine XS.iconst X8.here hx rfl (hb hby d4_15) ?_
    show Steps p.tables e below (T8.setTop (mkF m 16 #[.val (.ref a1)] [(.int (1 : Int32)), (.int w), (.ref a1), (.int w), (.ref a2)])) _
    refine XS.iadd X8.here hx rfl (hb hby d4_16) rfl ?_
    exact kt)
  obtain ⟨T11, h11, X11', e11, W11, st11⟩ := putF X8 hx hZ hown (host := "") (Or.inl (hw _ (List.mem_of_getElem? (i := 17) rfl))) Via.refl e8 pr3 pr0 (Or.inl (hw _ (List.mem_of_getElem? (i := 18) rfl))) (hw _ (List.mem_of_getElem? (i := 2) rfl)) (ty := .int) (by decide) rfl rfl (g := (mkF m 17 #[.val (.ref a1)] [(.int (w + (1 : Int32))), (.ref a1), (.int w), (.ref a2)])) rfl rfl (hb hby d4_17)
  obtain ⟨lc11, X11, N11⟩ : ∃ lc, Stand p l e ({ frames := 1, cells := 0, slots := 0, locals := 13 } : Room) s m #[(.ref a1)] below meth c T11 lc 0 0 ∧ Fr n0 lc := ⟨_, X11', Fr.snoc X11' N2 pr1⟩
  have f11_ : Fld Z h11 a1 "com/example/looseleaf/looseleaf/pgwire/MessageBody" "at" "I" (.int (w + (1 : Int32))) := pr3.same W11
  have K12 : Gx p e below s₁ f0 T11 (mkF m 20 #[.val (.ref a1)] [(.int w), (.ref a2)]) := fun t kt => K10 t (st11 t kt)
  have f13 : Arv Z h11 a2 k .byte z vs (.int (0 : Int32)) := (pr4.other W11 (Ne.symm pr5))
  obtain ⟨clq14, Arq14, ckq14, cSq14, cNq14, cHq14, cGq14⟩ := id f13
  have K15 : Gx p e below s₁ f0 T11 (mkF m 25 #[.val (.ref a1)] [(.int (x &&& (255 : Int32)))]) := fun t kt => K12 t (by
    show Steps p.tables e below (T11.setTop (mkF m 20 #[.val (.ref a1)] [(.int w), (.ref a2)])) _
    refine X11.baloadBytes hx (j := w) (v := (.int x)) (by rw [e11]; exact Arq14.1) (State.isArrayOf_alike hZ.alike Arq14.2.1) Arq14.2.2 (inb_of cSq14 hr_) (Has.at cHq14 (inb_of cSq14 hr_) hx_) (g := (mkF m 20 #[.val (.ref a1)] [(.int w), (.ref a2)])) rfl rfl (hb hby d4_20) _ ?_
    show Steps p.tables e below (T11.setTop (mkF m 21 #[.val (.ref a1)] [(.int x)])) _
    refine XS.sipush X11.here hx rfl (hb hby d4_21) ?_
    show Steps p.tables e below (T11.setTop (mkF m 24 #[.val (.ref a1)] [(.int (255 : Int32)), (.int x)])) _
    refine XS.iand X11.here hx rfl (hb hby d4_24) rfl ?_
    exact kt)
  have kp17 : Keep h0 h11 [a1] := ((Keep.refl h0 [a1]).wr W11 (Or.inl (List.mem_of_getElem? (i := 0) rfl)))
  have f18 : Exa Z h11 a1 "com/example/looseleaf/looseleaf/pgwire/MessageBody" := (pr0.wr W11)
  have f19 : Fld Z h11 a1 "com/example/looseleaf/looseleaf/pgwire/MessageBody" "bytes" "[B" (.ref a2) := (pr2.other W11 (Or.inr (slot_ne (Or.inr (hw _ (List.mem_of_getElem? (i := 11) rfl))) (Or.inl (hw _ (List.mem_of_getElem? (i := 18) rfl))) (by decide) (t := (.array .byte)) (t' := .int) (by decide) (by decide))))
  obtain ⟨fs16, hr16, hrun16, hended16, hW16, hsame16⟩ := X11.leave (v := some (.int (x &&& (255 : Int32)))) (fun h => by rw [Bd.returns] at h; cases h)
  refine ⟨_, _, pre0 _ (K15 _ ?_), hrun16, hended16, _, _, rfl, ?_, ⟨_, rfl⟩, hW16, hsame16.mono (by decide) (by decide)⟩
  · exact retI X11 hx Bd.returns (hb hby d4_25) hr16
  · show QBy1 Z a1 a2 w k z vs x wn h0 n0 _ T11.heap _
    rw [e11]
    exact ⟨rfl, N11, kp17, f18, f19, (hwn ▸ f11_)⟩
theorem d3_0 : decode prog_6_method_8_code 0 = .ok (.aload_n 0, 1) := by decide +kernel
theorem d3_1 : decode prog_6_method_8_code 1 = .ok (.getfield 17, 3) := by decide +kernel
theorem d3_4 : decode prog_6_method_8_code 4 = .ok (.aload_n 0, 1) := by decide +kernel
theorem d3_5 : decode prog_6_method_8_code 5 = .ok (.getfield 7, 3) := by decide +kernel
theorem d3_8 : decode prog_6_method_8_code 8 = .ok (.arraylength, 1) := by decide +kernel
theorem d3_9 : decode prog_6_method_8_code 9 = .ok (.if_icmp .ge 19, 3) := by decide +kernel
theorem d3_12 : decode prog_6_method_8_code 12 = .ok (.aload_n 0, 1) := by decide +kernel
theorem d3_13 : decode prog_6_method_8_code 13 = .ok (.getfield 7, 3) := by decide +kernel
theorem d3_16 : decode prog_6_method_8_code 16 = .ok (.aload_n 0, 1) := by decide +kernel
theorem d3_17 : decode prog_6_method_8_code 17 = .ok (.getfield 17, 3) := by decide +kernel
theorem d3_20 : decode prog_6_method_8_code 20 = .ok (.baload, 1) := by decide +kernel
theorem d3_21 : decode prog_6_method_8_code 21 = .ok (.ifCond .ne 7, 3) := by decide +kernel
theorem d3_24 : decode prog_6_method_8_code 24 = .ok (.iconst 1, 1) := by decide +kernel
theorem d3_25 : decode prog_6_method_8_code 25 = .ok (.goto 4, 3) := by decide +kernel
theorem d3_28 : decode prog_6_method_8_code 28 = .ok (.iconst 0, 1) := by decide +kernel
theorem d3_29 : decode prog_6_method_8_code 29 = .ok (.ireturn, 1) := by decide +kernel
theorem pn_3 : plainName "com/example/looseleaf/looseleaf/pgwire/MessageBody" = true := by first | (simp [plainName, overriddenIn]; done) | decide +kernel
theorem ef_At1 (m : MethodId) (a1 : Addr) : entryFrame m #[(.ref a1)] 1 = mkF m 0 #[.val (.ref a1)] [] := by first | (simp [entryFrame, mkF, argsToLocals, Value.category]; done) | rfl
def QAt1 (Z : State) (a1 : Addr) (a2 : Addr) (w : Int32) (k : ClassId) (z : Int32) (vs : List Value) (x : Int32) (h0 : Heap) (n0 : Nat) (v : Option Value) (h : Heap) (L : List Loc) : Prop := v = some (.int (if x = (0 : Int32) then (1 : Int32) else (0 : Int32))) ∧ Fr n0 L ∧ h = h0
set_option maxRecDepth 65536 in
set_option maxHeartbeats 40000000 in
theorem rmAt1 (l : Launch) (Z : State) (a0 : Array Value) (hw : ∀ d ∈ tables_1, d.before a0 Z = true) (ws : List Jvm.Cond) (a1 : Addr) (a2 : Addr) (w : Int32) (k : ClassId) (z : Int32) (vs : List Value) (x : Int32) (h0 : Heap) (n0 : Nat) (Z0 : n0 ≤ h0.size) (pr0 : Fld Z h0 a1 "com/example/looseleaf/looseleaf/pgwire/MessageBody" "bytes" "[B" (.ref a2)) (pr1 : Fld Z h0 a1 "com/example/looseleaf/looseleaf/pgwire/MessageBody" "at" "I" (.int w)) (pr2 : Arv Z h0 a2 k .byte z vs (.int (0 : Int32))) (hl_ : w < z) (hr_ : ¬ (w < (0 : Int32)) ∧ w < z) (hx_ : vs.getD w.toNatClampNeg (.int (0 : Int32)) = .int x) :
    MetFree l (⟨"com/example/looseleaf/looseleaf/pgwire/MessageBody", "atNul", "()Z"⟩ : MethodName) (head1 (Jvm.Cond.code (⟨"com/example/looseleaf/looseleaf/pgwire/MessageBody", "atNul", "()Z"⟩ : MethodName) prog_6_method_8_code 1 (some .boolean) :: ws) ({ frames := 0, cells := 0, slots := 0, locals := 0 } : Room)) (fun a U => a = #[(.ref a1)] ∧ Z.Warmed39 U.vm ∧ U.heap = h0) (fun _ _ _ _ _ => True) (fun _ U o U' => ∃ v L, o = .returned v ∧ QAt1 Z a1 a2 w k z vs x h0 n0 v U'.heap L ∧ FrameEnd U o U' L ({ frames := 0, cells := 0, slots := 0, locals := 0 } : Room).cells ({ frames := 0, cells := 0, slots := 0, locals := 0 } : Room).slots) := by
  refine MetFree.of_bodySF (plainFor_of_name pn_3) hisR ?_
  intro p e s m args below meth c s₁ Bd hml0 hP hK
  obtain ⟨rfl, hZ, hh⟩ := hP
  have hx := Bd.exec
  have hby := Bd.bytes
  have hml : c.maxLocals = 1 := hml0
  have hown : s.vm.findClass "com/example/looseleaf/looseleaf/pgwire/MessageBody" = some m.cls := findClass_of_methodNamed Bd.named
  have hnm := (name_of_methodNamed Bd.named Bd.method).1
  have X0 : Stand p l e ({ frames := 0, cells := 0, slots := 0, locals := 0 } : Room) s m #[(.ref a1)] below meth c s₁ [] 0 0 := Stand.of_body Bd
  have hs0 : h0 = s.heap := hh.symm
  have e0 : s₁.heap = h0 := by rw [← hh, Bd.state]; rfl
  have N0 := Fr.nil n0
  obtain ⟨f0, hf0⟩ : ∃ f, f = entryFrame m #[(.ref a1)] 1 := ⟨_, rfl⟩
  have pre0 : ∀ t, Steps p.tables e below (s₁.setTop f0) t → Steps p.tables e below (s₁.setTop (entryFrame m #[(.ref a1)] 1)) t := fun t k => hf0 ▸ k
  have K0 : Gx p e below s₁ f0 s₁ (mkF m 0 #[.val (.ref a1)] []) := fun t kt => by rw [hf0]; exact castTop (ef_At1 m a1) kt
  have K1 : Gx p e below s₁ f0 s₁ (mkF m 1 #[.val (.ref a1)] [(.ref a1)]) := fun t kt => K0 t (by
    show Steps p.tables e below (s₁.setTop (mkF m 0 #[.val (.ref a1)] [])) _
    refine XS.aloadN X0.here hx rfl (hb hby d3_0) rfl rfl ?_
    exact kt)
  obtain ⟨T2, X2, e2, st2⟩ := getF X0 hx hZ hown (host := "") (Or.inl (hw _ (List.mem_of_getElem? (i := 17) rfl))) Via.refl e0 pr1 (g := (mkF m 1 #[.val (.ref a1)] [(.ref a1)])) rfl rfl (hb hby d3_1)
  have K3 : Gx p e below s₁ f0 T2 (mkF m 4 #[.val (.ref a1)] [(.int w)]) := fun t kt => K1 t (st2 t kt)
  have K4 : Gx p e below s₁ f0 T2 (mkF m 5 #[.val (.ref a1)] [(.ref a1), (.int w)]) := fun t kt => K3 t (by
    show Steps p.tables e below (T2.setTop (mkF m 4 #[.val (.ref a1)] [(.int w)])) _
    refine XS.aloadN X2.here hx rfl (hb hby d3_4) rfl rfl ?_
    exact kt)
  obtain ⟨T5, X5, e5, st5⟩ := getF X2 hx hZ hown (host := "") (Or.inl (hw _ (List.mem_of_getElem? (i := 10) rfl))) Via.refl e2 pr0 (g := (mkF m 5 #[.val (.ref a1)] [(.ref a1), (.int w)])) rfl rfl (hb hby d3_5)
  have K6 : Gx p e below s₁ f0 T5 (mkF m 8 #[.val (.ref a1)] [(.ref a2), (.int w)]) := fun t kt => K4 t (st5 t kt)
  obtain ⟨clq7, Arq7, ckq7, cSq7, cNq7, cHq7, cGq7⟩ := id pr2
  have K8 : Gx p e below s₁ f0 T5 (mkF m 13 #[.val (.ref a1)] [(.ref a1)]) := fun t kt => K6 t (by
    show Steps p.tables e below (T5.setTop (mkF m 8 #[.val (.ref a1)] [(.ref a2), (.int w)])) _
    refine X5.arraylength hx (by rw [e5]; exact Arq7.1) (State.isArrayOf_alike hZ.alike Arq7.2.1) (g := (mkF m 8 #[.val (.ref a1)] [(.ref a2), (.int w)])) rfl rfl (hb hby d3_8) _ ?_
    rw [len_of cSq7 cNq7]
    show Steps p.tables e below (T5.setTop (mkF m 9 #[.val (.ref a1)] [(.int z), (.int w)])) _
    refine XS.icmpNo X5.here hx rfl (hb hby d3_9) rfl (tlt hl_).2.1 ?_
    show Steps p.tables e below (T5.setTop (mkF m 12 #[.val (.ref a1)] [])) _
    refine XS.aloadN X5.here hx rfl (hb hby d3_12) rfl rfl ?_
    exact kt)
  obtain ⟨T9, X9, e9, st9⟩ := getF X5 hx hZ hown (host := "") (Or.inl (hw _ (List.mem_of_getElem? (i := 10) rfl))) Via.refl e5 pr0 (g := (mkF m 13 #[.val (.ref a1)] [(.ref a1)])) rfl rfl (hb hby d3_13)
  have K10 : Gx p e below s₁ f0 T9 (mkF m 16 #[.val (.ref a1)] [(.ref a2)]) := fun t kt => K8 t (st9 t kt)
  have K11 : Gx p e below s₁ f0 T9 (mkF m 17 #[.val (.ref a1)] [(.ref a1), (.ref a2)]) := fun t kt => K10 t (by
    show Steps p.tables e below (T9.setTop (mkF m 16 #[.val (.ref a1)] [(.ref a2)])) _
    refine XS.aloadN X9.here hx rfl (hb hby d3_16) rfl rfl ?_
    exact kt)
  obtain ⟨T12, X12, e12, st12⟩ := getF X9 hx hZ hown (host := "") (Or.inl (hw _ (List.mem_of_getElem? (i := 17) rfl))) Via.refl e9 pr1 (g := (mkF m 17 #[.val (.ref a1)] [(.ref a1), (.ref a2)])) rfl rfl (hb hby d3_17)
  have K13 : Gx p e below s₁ f0 T12 (mkF m 20 #[.val (.ref a1)] [(.int w), (.ref a2)]) := fun t kt => K11 t (st12 t kt)
  have K14 : Gx p e below s₁ f0 T12 (mkF m 21 #[.val (.ref a1)] [(.int x)]) := fun t kt => K13 t (by
    show Steps p.tables e below (T12.setTop (mkF m 20 #[.val (.ref a1)] [(.int w), (.ref a2)])) _
    refine X12.baloadBytes hx (j := w) (v := (.int x)) (by rw [e12]; exact Arq7.1) (State.isArrayOf_alike hZ.alike Arq7.2.1) Arq7.2.2 (inb_of cSq7 hr_) (Has.at cHq7 (inb_of cSq7 hr_) hx_) (g := (mkF m 20 #[.val (.ref a1)] [(.int w), (.ref a2)])) rfl rfl (hb hby d3_20) _ ?_
    exact kt)
  by_cases hb15 : x = (0 : Int32)
  · skip
    have K16 : Gx p e below s₁ f0 T12 (mkF m 29 #[.val (.ref a1)] [(.int (1 : Int32))]) := fun t kt => K14 t (by
      show Steps p.tables e below (T12.setTop (mkF m 21 #[.val (.ref a1)] [(.int x)])) _
      refine XS.ifNo X12.here hx rfl (hb hby d3_21) rfl ((if0 _ _).trans (teq hb15).2) ?_
      show Steps p.tables e below (T12.setTop (mkF m 24 #[.val (.ref a1)] [])) _
      refine XS.iconst X12.here hx rfl (hb hby d3_24) ?_
      show Steps p.tables e below (T12.setTop (mkF m 25 #[.val (.ref a1)] [(.int (1 : Int32))])) _
      refine XS.goto X12.here hx rfl (pc0 := 25) (pc' := 29) rfl (hb hby d3_25) (by decide) (by decide) ?_
      exact kt)
    obtain ⟨fs17, hr17, hrun17, hended17, hW17, hsame17⟩ := X12.leave (v := some (.int (1 : Int32))) (fun h => by rw [Bd.returns] at h; cases h)
    refine ⟨_, _, pre0 _ (K16 _ ?_), hrun17, hended17, _, _, rfl, ?_, ⟨_, rfl⟩, hW17, hsame17.mono (by decide) (by decide)⟩
    · exact retN X12 hx (t := .boolean) Bd.returns (by simp) (hb hby d3_29) hr17
    · show QAt1 Z a1 a2 w k z vs x h0 n0 _ T12.heap _
      rw [e12]
      exact ⟨(congrArg some (congrArg Value.int (by first | (simp only [if_pos hl_, if_pos hr_, if_pos hx_, if_pos hb15]; done)))), N0, rfl⟩
  · skip
    have K18 : Gx p e below s₁ f0 T12 (mkF m 29 #[.val (.ref a1)] [(.int (0 : Int32))]) := fun t kt => K14 t (by
      show Steps p.tables e below (T12.setTop (mkF m 21 #[.val (.ref a1)] [(.int x)])) _
      refine XS.ifYes X12.here hx rfl (pc0 := 21) (pc' := 28) rfl (hb hby d3_21) rfl ((if0 _ _).trans (feq hb15).2) (by decide) (by decide) ?_
      show Steps p.tables e below (T12.setTop (mkF m 28 #[.val (.ref a1)] [])) _
      refine XS.iconst X12.here hx rfl (hb hby d3_28) ?_
      exact kt)
    obtain ⟨fs19, hr19, hrun19, hended19, hW19, hsame19⟩ := X12.leave (v := some (.int (0 : Int32))) (fun h => by rw [Bd.returns] at h; cases h)
    refine ⟨_, _, pre0 _ (K18 _ ?_), hrun19, hended19, _, _, rfl, ?_, ⟨_, rfl⟩, hW19, hsame19.mono (by decide) (by decide)⟩
    · exact retN X12 hx (t := .boolean) Bd.returns (by simp) (hb hby d3_29) hr19
    · show QAt1 Z a1 a2 w k z vs x h0 n0 _ T12.heap _
      rw [e12]
      exact ⟨(congrArg some (congrArg Value.int (by first | (simp only [if_pos hl_, if_pos hr_, if_pos hx_, if_neg hb15]; done)))), N0, rfl⟩
theorem ef_At0 (m : MethodId) (a1 : Addr) : entryFrame m #[(.ref a1)] 1 = mkF m 0 #[.val (.ref a1)] [] := by first | (simp [entryFrame, mkF, argsToLocals, Value.category]; done) | rfl
def QAt0 (Z : State) (a1 : Addr) (a2 : Addr) (w : Int32) (k : ClassId) (z : Int32) (vs : List Value) (h0 : Heap) (n0 : Nat) (v : Option Value) (h : Heap) (L : List Loc) : Prop := v = some (.int (0 : Int32)) ∧ Fr n0 L ∧ h = h0
set_option maxRecDepth 65536 in
set_option maxHeartbeats 40000000 in
theorem rmAt0 (l : Launch) (Z : State) (a0 : Array Value) (hw : ∀ d ∈ tables_1, d.before a0 Z = true) (ws : List Jvm.Cond) (a1 : Addr) (a2 : Addr) (w : Int32) (k : ClassId) (z : Int32) (vs : List Value) (h0 : Heap) (n0 : Nat) (Z0 : n0 ≤ h0.size) (pr0 : Fld Z h0 a1 "com/example/looseleaf/looseleaf/pgwire/MessageBody" "bytes" "[B" (.ref a2)) (pr1 : Fld Z h0 a1 "com/example/looseleaf/looseleaf/pgwire/MessageBody" "at" "I" (.int w)) (pr2 : Arv Z h0 a2 k .byte z vs (.int (0 : Int32))) (hl_ : ¬ (w < z)) :
    MetFree l (⟨"com/example/looseleaf/looseleaf/pgwire/MessageBody", "atNul", "()Z"⟩ : MethodName) (head1 (Jvm.Cond.code (⟨"com/example/looseleaf/looseleaf/pgwire/MessageBody", "atNul", "()Z"⟩ : MethodName) prog_6_method_8_code 1 (some .boolean) :: ws) ({ frames := 0, cells := 0, slots := 0, locals := 0 } : Room)) (fun a U => a = #[(.ref a1)] ∧ Z.Warmed39 U.vm ∧ U.heap = h0) (fun _ _ _ _ _ => True) (fun _ U o U' => ∃ v L, o = .returned v ∧ QAt0 Z a1 a2 w k z vs h0 n0 v U'.heap L ∧ FrameEnd U o U' L ({ frames := 0, cells := 0, slots := 0, locals := 0 } : Room).cells ({ frames := 0, cells := 0, slots := 0, locals := 0 } : Room).slots) := by
  refine MetFree.of_bodySF (plainFor_of_name pn_3) hisR ?_
  intro p e s m args below meth c s₁ Bd hml0 hP hK
  obtain ⟨rfl, hZ, hh⟩ := hP
  have hx := Bd.exec
  have hby := Bd.bytes
  have hml : c.maxLocals = 1 := hml0
  have hown : s.vm.findClass "com/example/looseleaf/looseleaf/pgwire/MessageBody" = some m.cls := findClass_of_methodNamed Bd.named
  have hnm := (name_of_methodNamed Bd.named Bd.method).1
  have X0 : Stand p l e ({ frames := 0, cells := 0, slots := 0, locals := 0 } : Room) s m #[(.ref a1)] below meth c s₁ [] 0 0 := Stand.of_body Bd
  have hs0 : h0 = s.heap := hh.symm
  have e0 : s₁.heap = h0 := by rw [← hh, Bd.state]; rfl
  have N0 := Fr.nil n0
  obtain ⟨f0, hf0⟩ : ∃ f, f = entryFrame m #[(.ref a1)] 1 := ⟨_, rfl⟩
  have pre0 : ∀ t, Steps p.tables e below (s₁.setTop f0) t → Steps p.tables e below (s₁.setTop (entryFrame m #[(.ref a1)] 1)) t := fun t k => hf0 ▸ k
  have K0 : Gx p e below s₁ f0 s₁ (mkF m 0 #[.val (.ref a1)] []) := fun t kt => by rw [hf0]; exact castTop (ef_At0 m a1) kt
  have K1 : Gx p e below s₁ f0 s₁ (mkF m 1 #[.val (.ref a1)] [(.ref a1)]) := fun t kt => K0 t (by
    show Steps p.tables e below (s₁.setTop (mkF m 0 #[.val (.ref a1)] [])) _
    refine XS.aloadN X0.here hx rfl (hb hby d3_0) rfl rfl ?_
    exact kt)
  obtain ⟨T2, X2, e2, st2⟩ := getF X0 hx hZ hown (host := "") (Or.inl (hw _ (List.mem_of_getElem? (i := 17) rfl))) Via.refl e0 pr1 (g := (mkF m 1 #[.val (.ref a1)] [(.ref a1)])) rfl rfl (hb hby d3_1)
  have K3 : Gx p e below s₁ f0 T2 (mkF m 4 #[.val (.ref a1)] [(.int w)]) := fun t kt => K1 t (st2 t kt)
  have K4 : Gx p e below s₁ f0 T2 (mkF m 5 #[.val (.ref a1)] [(.ref a1), (.int w)]) := fun t kt => K3 t (by
    show Steps p.tables e below (T2.setTop (mkF m 4 #[.val (.ref a1)] [(.int w)])) _
    refine XS.aloadN X2.here hx rfl (hb hby d3_4) rfl rfl ?_
    exact kt)
  obtain ⟨T5, X5, e5, st5⟩ := getF X2 hx hZ hown (host := "") (Or.inl (hw _ (List.mem_of_getElem? (i := 10) rfl))) Via.refl e2 pr0 (g := (mkF m 5 #[.val (.ref a1)] [(.ref a1), (.int w)])) rfl rfl (hb hby d3_5)
  have K6 : Gx p e below s₁ f0 T5 (mkF m 8 #[.val (.ref a1)] [(.ref a2), (.int w)]) := fun t kt => K4 t (st5 t kt)
  obtain ⟨clq7, Arq7, ckq7, cSq7, cNq7, cHq7, cGq7⟩ := id pr2
  have K8 : Gx p e below s₁ f0 T5 (mkF m 29 #[.val (.ref a1)] [(.int (0 : Int32))]) := fun t kt => K6 t (by
    show Steps p.tables e below (T5.setTop (mkF m 8 #[.val (.ref a1)] [(.ref a2), (.int w)])) _
    refine X5.arraylength hx (by rw [e5]; exact Arq7.1) (State.isArrayOf_alike hZ.alike Arq7.2.1) (g := (mkF m 8 #[.val (.ref a1)] [(.ref a2), (.int w)])) rfl rfl (hb hby d3_8) _ ?_
    rw [len_of cSq7 cNq7]
    show Steps p.tables e below (T5.setTop (mkF m 9 #[.val (.ref a1)] [(.int z), (.int w)])) _
    refine XS.icmpYes X5.here hx rfl (pc0 := 9) (pc' := 28) rfl (hb hby d3_9) rfl (flt hl_).2.1 (by decide) (by decide) ?_
    show Steps p.tables e below (T5.setTop (mkF m 28 #[.val (.ref a1)] [])) _
    refine XS.iconst X5.here hx rfl (hb hby d3_28) ?_
    exact kt)
  obtain ⟨fs9, hr9, hrun9, hended9, hW9, hsame9⟩ := X5.leave (v := some (.int (0 : Int32))) (fun h => by rw [Bd.returns] at h; cases h)
  refine ⟨_, _, pre0 _ (K8 _ ?_), hrun9, hended9, _, _, rfl, ?_, ⟨_, rfl⟩, hW9, hsame9.mono (by decide) (by decide)⟩
  · exact retN X5 hx (t := .boolean) Bd.returns (by simp) (hb hby d3_29) hr9
  · show QAt0 Z a1 a2 w k z vs h0 n0 _ T5.heap _
    rw [e5]
    exact ⟨rfl, N0, rfl⟩
theorem pn_0 : plainName "com/example/looseleaf/looseleaf/pgwire/MessageBodyAtNulPinLaw" = true := by first | (simp [plainName, overriddenIn]; done) | decide +kernel
theorem pd___B_V : parseMethodDescriptor "([B)V" = some ⟨[(.array .byte)], none⟩ := by decide +kernel
theorem pd___Z : parseMethodDescriptor "()Z" = some ⟨[], some .boolean⟩ := by decide +kernel
theorem ef_0_00 (m : MethodId) (p1 : Int32) (p2 : Int32) (p3 : Int32) (p4 : Int32) (p5 : Int32) : entryFrame m #[(.int p1), (.int p2), (.int p3), (.int p4), (.int p5)] maxLocals = mkF m 0 #[.val (.int p1), .val (.int p2), .val (.int p3), .val (.int p4), .val (.int p5), .unset, .unset, .unset, .unset, .unset, .unset, .unset] [] := by first | (simp [entryFrame, mkF, argsToLocals, Value.category, maxLocals]; done) | rfl
def Q0 (Z : State) (p1 : Int32) (p2 : Int32) (p3 : Int32) (p4 : Int32) (p5 : Int32) (h0 : Heap) (n0 : Nat) (v : Option Value) (h : Heap) (L : List Loc) : Prop := v = some (.int (1 : Int32)) ∧ Fr n0 L
set_option maxRecDepth 65536 in
set_option maxHeartbeats 40000000 in
theorem rm0_00 (l : Launch) (Z : State) (a0 : Array Value) (hw : ∀ d ∈ tables_1, d.before a0 Z = true) (ws : List Jvm.Cond) (p1 : Int32) (p2 : Int32) (p3 : Int32) (p4 : Int32) (p5 : Int32) (h0 : Heap) (n0 : Nat) (Z0 : n0 ≤ h0.size) (hn_ : (p1 &&& (3 : Int32)) = (0 : Int32)) (hk_ : ((p2 &&& (3 : Int32)) % (1 : Int32)) = (0 : Int32)) :
    MetFree l x (head1 (Jvm.Cond.code x code maxLocals ret :: ws) room_1) (fun a U => a = #[(.int p1), (.int p2), (.int p3), (.int p4), (.int p5)] ∧ Z.Warmed39 U.vm ∧ U.heap = h0) (fun _ _ _ _ _ => True) (fun _ U o U' => ∃ v L, o = .returned v ∧ Q0 Z p1 p2 p3 p4 p5 h0 n0 v U'.heap L ∧ FrameEnd U o U' L room_1.cells room_1.slots) := by
  refine MetFree.of_bodySF (plainFor_of_name pn_0) hisR ?_
  intro p e s m args below meth c s₁ Bd hml0 hP hK
  obtain ⟨rfl, hZ, hh⟩ := hP
  have hx := Bd.exec
  have hby := Bd.bytes
  have hml : c.maxLocals = 12 := hml0
  have hown : s.vm.findClass "com/example/looseleaf/looseleaf/pgwire/MessageBodyAtNulPinLaw" = some m.cls := findClass_of_methodNamed Bd.named
  have hnm := (name_of_methodNamed Bd.named Bd.method).1
  have X0 : Stand p l e room_1 s m #[(.int p1), (.int p2), (.int p3), (.int p4), (.int p5)] below meth c s₁ [] 0 0 := Stand.of_body Bd
  have hs0 : h0 = s.heap := hh.symm
  have e0 : s₁.heap = h0 := by rw [← hh, Bd.state]; rfl
  have N0 := Fr.nil n0
  obtain ⟨f0, hf0⟩ : ∃ f, f = entryFrame m #[(.int p1), (.int p2), (.int p3), (.int p4), (.int p5)] maxLocals := ⟨_, rfl⟩
  have pre0 : ∀ t, Steps p.tables e below (s₁.setTop f0) t → Steps p.tables e below (s₁.setTop (entryFrame m #[(.int p1), (.int p2), (.int p3), (.int p4), (.int p5)] maxLocals)) t := fun t k => hf0 ▸ k
  have K0 : Gx p e below s₁ f0 s₁ (mkF m 0 #[.val (.int p1), .val (.int p2), .val (.int p3), .val (.int p4), .val (.int p5), .unset, .unset, .unset, .unset, .unset, .unset, .unset] []) := fun t kt => by rw [hf0]; exact castTop (ef_0_00 m p1 p2 p3 p4 p5) kt
  have K1 : Gx p e below s₁ f0 s₁ (mkF m 5 #[.val (.int p1), .val (.int p2), .val (.int p3), .val (.int p4), .val (.int p5), .val (.int (p1 &&& (3 : Int32))), .unset, .unset, .unset, .unset, .unset, .unset] []) := fun t kt => K0 t (by
    show Steps p.tables e below (s₁.setTop (mkF m 0 #[.val (.int p1), .val (.int p2), .val (.int p3), .val (.int p4), .val (.int p5), .unset, .unset, .unset, .unset, .unset, .unset, .unset] [])) _
    refine XS.iloadN X0.here hx rfl (hb hby at_0) rfl ?_
    show Steps p.tables e below (s₁.setTop (mkF m 1 #[.val (.int p1), .val (.int p2), .val (.int p3), .val (.int p4), .val (.int p5), .unset, .unset, .unset, .unset, .unset, .unset, .unset] [(.int p1)])) _
    refine XS.iconst X0.here hx rfl (hb hby at_1) ?_
    show Steps p.tables e below (s₁.setTop (mkF m 2 #[.val (.int p1), .val (.int p2), .val (.int p3), .val (.int p4), .val (.int p5), .unset, .unset, .unset, .unset, .unset, .unset, .unset] [(.int (3 : Int32)), (.int p1)])) _
    refine XS.iand X0.here hx rfl (hb hby at_2) rfl ?_
    show Steps p.tables e below (s₁.setTop (mkF m 3 #[.val (.int p1), .val (.int p2), .val (.int p3), .val (.int p4), .val (.int p5), .unset, .unset, .unset, .unset, .unset, .unset, .unset] [(.int (p1 &&& (3 : Int32)))])) _
    refine XS.istore X0.here hx rfl (hb hby at_3) rfl (l' := #[.val (.int p1), .val (.int p2), .val (.int p3), .val (.int p4), .val (.int p5), .val (.int (p1 &&& (3 : Int32))), .unset, .unset, .unset, .unset, .unset, .unset]) rfl ?_
    exact kt)
  rw [hn_] at K1
  have K2 : Gx p e below s₁ f0 s₁ (mkF m 15 #[.val (.int p1), .val (.int p2), .val (.int p3), .val (.int p4), .val (.int p5), .val (.int (0 : Int32)), .val (.int ((p2 &&& (3 : Int32)) % (1 : Int32))), .unset, .unset, .unset, .unset, .unset] []) := fun t kt => K1 t (by
    show Steps p.tables e below (s₁.setTop (mkF m 5 #[.val (.int p1), .val (.int p2), .val (.int p3), .val (.int p4), .val (.int p5), .val (.int (0 : Int32)), .unset, .unset, .unset, .unset, .unset, .unset] [])) _
    refine XS.iloadN X0.here hx rfl (hb hby at_5) rfl ?_
    show Steps p.tables e below (s₁.setTop (mkF m 6 #[.val (.int p1), .val (.int p2), .val (.int p3), .val (.int p4), .val (.int p5), .val (.int (0 : Int32)), .unset, .unset, .unset, .unset, .unset, .unset] [(.int p2)])) _
    refine XS.iconst X0.here hx rfl (hb hby at_6) ?_
    show Steps p.tables e below (s₁.setTop (mkF m 7 #[.val (.int p1), .val (.int p2), .val (.int p3), .val (.int p4), .val (.int p5), .val (.int (0 : Int32)), .unset, .unset, .unset, .unset, .unset, .unset] [(.int (3 : Int32)), (.int p2)])) _
    refine XS.iand X0.here hx rfl (hb hby at_7) rfl ?_
    show Steps p.tables e below (s₁.setTop (mkF m 8 #[.val (.int p1), .val (.int p2), .val (.int p3), .val (.int p4), .val (.int p5), .val (.int (0 : Int32)), .unset, .unset, .unset, .unset, .unset, .unset] [(.int (p2 &&& (3 : Int32)))])) _
    refine XS.iload X0.here hx rfl (hb hby at_8) rfl ?_
    show Steps p.tables e below (s₁.setTop (mkF m 10 #[.val (.int p1), .val (.int p2), .val (.int p3), .val (.int p4), .val (.int p5), .val (.int (0 : Int32)), .unset, .unset, .unset, .unset, .unset, .unset] [(.int (0 : Int32)), (.int (p2 &&& (3 : Int32)))])) _
    refine XS.iconst X0.here hx rfl (hb hby at_10) ?_
    show Steps p.tables e below (s₁.setTop (mkF m 11 #[.val (.int p1), .val (.int p2), .val (.int p3), .val (.int p4), .val (.int p5), .val (.int (0 : Int32)), .unset, .unset, .unset, .unset, .unset, .unset] [(.int (1 : Int32)), (.int (0 : Int32)), (.int (p2 &&& (3 : Int32)))])) _
    refine XS.iadd X0.here hx rfl (hb hby at_11) rfl ?_
    show Steps p.tables e below (s₁.setTop (mkF m 12 #[.val (.int p1), .val (.int p2), .val (.int p3), .val (.int p4), .val (.int p5), .val (.int (0 : Int32)), .unset, .unset, .unset, .unset, .unset, .unset] [(.int (1 : Int32)), (.int (p2 &&& (3 : Int32)))])) _
    refine iremM X0 hx rfl (hb hby at_12) rfl (by decide) ?_
    show Steps p.tables e below (s₁.setTop (mkF m 13 #[.val (.int p1), .val (.int p2), .val (.int p3), .val (.int p4), .val (.int p5), .val (.int (0 : Int32)), .unset, .unset, .unset, .unset, .unset, .unset] [(.int ((p2 &&& (3 : Int32)) % (1 : Int32)))])) _
    refine XS.istore X0.here hx rfl (hb hby at_13) rfl (l' := #[.val (.int p1), .val (.int p2), .val (.int p3), .val (.int p4), .val (.int p5), .val (.int (0 : Int32)), .val (.int ((p2 &&& (3 : Int32)) % (1 : Int32))), .unset, .unset, .unset, .unset, .unset]) rfl ?_
    exact kt)
  rw [hk_] at K2
  have K3 : Gx p e below s₁ f0 s₁ (mkF m 17 #[.val (.int p1), .val (.int p2), .val (.int p3), .val (.int p4), .val (.int p5), .val (.int (0 : Int32)), .val (.int (0 : Int32)), .unset, .unset, .unset, .unset, .unset] [(.int (0 : Int32))]) := fun t kt => K2 t (by
    show Steps p.tables e below (s₁.setTop (mkF m 15 #[.val (.int p1), .val (.int p2), .val (.int p3), .val (.int p4), .val (.int p5), .val (.int (0 : Int32)), .val (.int (0 : Int32)), .unset, .unset, .unset, .unset, .unset] [])) _
    refine XS.iload X0.here hx rfl (hb hby at_15) rfl ?_
    exact kt)
  obtain ⟨T4, h4, k4, X4, e4, E4, A4, st4⟩ := newP X0 hx hZ (hw _ (List.mem_of_getElem? (i := 0) rfl)) e0 (g := (mkF m 17 #[.val (.int p1), .val (.int p2), .val (.int p3), .val (.int p4), .val (.int p5), .val (.int (0 : Int32)), .val (.int (0 : Int32)), .unset, .unset, .unset, .unset, .unset] [(.int (0 : Int32))])) rfl (hb hby at_17) rfl (by decide) (cap := 0) (by decide) (by decide) (by decide) (by decide)
  obtain ⟨b4, g4⟩ : ∃ z, z = h0.size := ⟨_, rfl⟩
  rw [← g4] at A4 st4
  have V4 : Arv Z h4 b4 k4 .byte (0 : Int32) [] (.int (0 : Int32)) := (Arv.new A4 (by decide)).pad (pad_rep [] (.int (0 : Int32)) 0)
  have K5 : Gx p e below s₁ f0 T4 (mkF m 19 #[.val (.int p1), .val (.int p2), .val (.int p3), .val (.int p4), .val (.int p5), .val (.int (0 : Int32)), .val (.int (0 : Int32)), .unset, .unset, .unset, .unset, .unset] [(.ref b4)]) := fun t kt => K3 t (st4 t kt)
  have K6 : Gx p e below s₁ f0 T4 (mkF m 57 #[.val (.int p1), .val (.int p2), .val (.int p3), .val (.int p4), .val (.int p5), .val (.int (0 : Int32)), .val (.int (0 : Int32)), .val (.ref b4), .unset, .unset, .unset, .unset] []) := fun t kt => K5 t (by
    show Steps p.tables e below (T4.setTop (mkF m 19 #[.val (.int p1), .val (.int p2), .val (.int p3), .val (.int p4), .val (.int p5), .val (.int (0 : Int32)), .val (.int (0 : Int32)), .unset, .unset, .unset, .unset, .unset] [(.ref b4)])) _
    refine XS.astore X4.here hx rfl (hb hby at_19) rfl rfl (l' := #[.val (.int p1), .val (.int p2), .val (.int p3), .val (.int p4), .val (.int p5), .val (.int (0 : Int32)), .val (.int (0 : Int32)), .val (.ref b4), .unset, .unset, .unset, .unset]) rfl ?_
    show Steps p.tables e below (T4.setTop (mkF m 21 #[.val (.int p1), .val (.int p2), .val (.int p3), .val (.int p4), .val (.int p5), .val (.int (0 : Int32)), .val (.int (0 : Int32)), .val (.ref b4), .unset, .unset, .unset, .unset] [])) _
    refine XS.iload X4.here hx rfl (hb hby at_21) rfl ?_
    show Steps p.tables e below (T4.setTop (mkF m 23 #[.val (.int p1), .val (.int p2), .val (.int p3), .val (.int p4), .val (.int p5), .val (.int (0 : Int32)), .val (.int (0 : Int32)), .val (.ref b4), .unset, .unset, .unset, .unset] [(.int (0 : Int32))])) _
    refine XS.ifYes X4.here hx rfl (pc0 := 23) (pc' := 32) rfl (hb hby at_23) rfl ((if0 _ _).trans (flt (by decide)).2.2.2) (by decide) (by decide) ?_
    show Steps p.tables e below (T4.setTop (mkF m 32 #[.val (.int p1), .val (.int p2), .val (.int p3), .val (.int p4), .val (.int p5), .val (.int (0 : Int32)), .val (.int (0 : Int32)), .val (.ref b4), .unset, .unset, .unset, .unset] [])) _
    refine XS.iload X4.here hx rfl (hb hby at_32) rfl ?_
    show Steps p.tables e below (T4.setTop (mkF m 34 #[.val (.int p1), .val (.int p2), .val (.int p3), .val (.int p4), .val (.int p5), .val (.int (0 : Int32)), .val (.int (0 : Int32)), .val (.ref b4), .unset, .unset, .unset, .unset] [(.int (0 : Int32))])) _
    refine XS.iconst X4.here hx rfl (hb hby at_34) ?_
    show Steps p.tables e below (T4.setTop (mkF m 35 #[.val (.int p1), .val (.int p2), .val (.int p3), .val (.int p4), .val (.int p5), .val (.int (0 : Int32)), .val (.int (0 : Int32)), .val (.ref b4), .unset, .unset, .unset, .unset] [(.int (1 : Int32)), (.int (0 : Int32))])) _
    refine XS.icmpYes X4.here hx rfl (pc0 := 35) (pc' := 44) rfl (hb hby at_35) rfl (flt (by decide)).2.2.2 (by decide) (by decide) ?_
    show Steps p.tables e below (T4.setTop (mkF m 44 #[.val (.int p1), .val (.int p2), .val (.int p3), .val (.int p4), .val (.int p5), .val (.int (0 : Int32)), .val (.int (0 : Int32)), .val (.ref b4), .unset, .unset, .unset, .unset] [])) _
    refine XS.iload X4.here hx rfl (hb hby at_44) rfl ?_
    show Steps p.tables e below (T4.setTop (mkF m 46 #[.val (.int p1), .val (.int p2), .val (.int p3), .val (.int p4), .val (.int p5), .val (.int (0 : Int32)), .val (.int (0 : Int32)), .val (.ref b4), .unset, .unset, .unset, .unset] [(.int (0 : Int32))])) _
    refine XS.iconst X4.here hx rfl (hb hby at_46) ?_
    show Steps p.tables e below (T4.setTop (mkF m 47 #[.val (.int p1), .val (.int p2), .val (.int p3), .val (.int p4), .val (.int p5), .val (.int (0 : Int32)), .val (.int (0 : Int32)), .val (.ref b4), .unset, .unset, .unset, .unset] [(.int (2 : Int32)), (.int (0 : Int32))])) _
    refine XS.icmpYes X4.here hx rfl (pc0 := 47) (pc' := 57) rfl (hb hby at_47) rfl (flt (by decide)).2.2.2 (by decide) (by decide) ?_
    exact kt)
  obtain ⟨T7, h7, X7, e7, E7, A7, D7, -, st7⟩ := newO X4 hx hZ hown (hw _ (List.mem_of_getElem? (i := 1) rfl)) (hw _ (List.mem_of_getElem? (i := 2) rfl)) (hw _ (List.mem_of_getElem? (i := 3) rfl)) e4 (g := (mkF m 57 #[.val (.int p1), .val (.int p2), .val (.int p3), .val (.int p4), .val (.int p5), .val (.int (0 : Int32)), .val (.int (0 : Int32)), .val (.ref b4), .unset, .unset, .unset, .unset] [])) rfl (hb hby at_57) (by decide) (by decide)
  obtain ⟨b7, g7⟩ : ∃ z, z = h4.size := ⟨_, rfl⟩
  rw [← g7] at A7 D7 st7
  have f8 : Fld Z h7 b7 "com/example/looseleaf/looseleaf/pgwire/MessageBody" "bytes" "[B" .null := D7 (Or.inr (hw _ (List.mem_of_getElem? (i := 11) rfl))) (ty := (.array .byte)) (by decide)
  have f9 : Fld Z h7 b7 "com/example/looseleaf/looseleaf/pgwire/MessageBody" "at" "I" (.int (0 : Int32)) := D7 (Or.inl (hw _ (List.mem_of_getElem? (i := 18) rfl))) (ty := .int) (by decide)
  have K10 : Gx p e below s₁ f0 T7 (mkF m 60 #[.val (.int p1), .val (.int p2), .val (.int p3), .val (.int p4), .val (.int p5), .val (.int (0 : Int32)), .val (.int (0 : Int32)), .val (.ref b4), .unset, .unset, .unset, .unset] [(.ref b7)]) := fun t kt => K6 t (st7 t kt)
  have K11 : Gx p e below s₁ f0 T7 (mkF m 63 #[.val (.int p1), .val (.int p2), .val (.int p3), .val (.int p4), .val (.int p5), .val (.int (0 : Int32)), .val (.int (0 : Int32)), .val (.ref b4), .unset, .unset, .unset, .unset] [(.ref b4), (.ref b7), (.ref b7)]) := fun t kt => K10 t (by
    show Steps p.tables e below (T7.setTop (mkF m 60 #[.val (.int p1), .val (.int p2), .val (.int p3), .val (.int p4), .val (.int p5), .val (.int (0 : Int32)), .val (.int (0 : Int32)), .val (.ref b4), .unset, .unset, .unset, .unset] [(.ref b7)])) _
    refine XS.dup X7.here hx rfl (hb hby at_60) rfl rfl ?_
    show Steps p.tables e below (T7.setTop (mkF m 61 #[.val (.int p1), .val (.int p2), .val (.int p3), .val (.int p4), .val (.int p5), .val (.int (0 : Int32)), .val (.int (0 : Int32)), .val (.ref b4), .unset, .unset, .unset, .unset] [(.ref b7), (.ref b7)])) _
    refine XS.aload X7.here hx rfl (hb hby at_61) rfl rfl ?_
    exact kt)
  have kp12 : Keep h0 h7 [] := (((Keep.refl h0 []).ext E4).ext E7)
  obtain ⟨_, _, ⟨T13, L13, k13, n13⟩, -, X13', ⟨Lc13, hQ13, l13, y13, z13⟩, st13⟩ := X7.specialBack hx (y := (⟨"com/example/looseleaf/looseleaf/pgwire/MessageBody", "<init>", "([B)V"⟩ : MethodName)) rfl hown (mvT hZ (hw _ (List.mem_of_getElem? (i := 4) rfl))) (mvT hZ (hw _ (List.mem_of_getElem? (i := 5) rfl))) (mvT hZ (hw _ (List.mem_of_getElem? (i := 6) rfl))) (by decide) (backOf (W := 1) (rmIni l Z a0 hw [] b7 b4 h7 n0 (Nat.le_trans Z0 kp12.1) A7 (Nat.le_trans Z0 (Nat.le_trans ((Keep.refl h0 []).ext E4).1 (Nat.le_of_eq g7.symm))) f8 f9) hZ (hw _ (List.mem_of_getElem? (i := 6) rfl)) (hw _ (List.mem_of_getElem? (i := 3) rfl)) (by decide) (by decide)) (g := (mkF m 63 #[.val (.int p1), .val (.int p2), .val (.int p3), .val (.int p4), .val (.int p5), .val (.int (0 : Int32)), .val (.int (0 : Int32)), .val (.ref b4), .unset, .unset, .unset, .unset] [(.ref b4), (.ref b7), (.ref b7)])) rfl (by rw [hml]; rfl) (Steps.refl _) (a := b7) (argsL := [(.ref b4)]) (rest := [(.ref b7)]) (lenOf pd___B_V rfl) rfl (by show 2 * 0 + _ ≤ _; exact Nat.le_of_eq rfl) (hb hby at_63) (fun _ _ => ⟨rfl, e7, (by decide : 2 + 0 ≤ _), (by decide : 2 + 0 ≤ _)⟩)
  dsimp only [Pt.U, Pt.locs, Pt.cells, Pt.slots] at X13' l13 y13 z13 st13 hQ13
  subst l13 y13 z13
  obtain ⟨h13, e13⟩ : ∃ z, T13.heap = z := ⟨_, rfl⟩
  rw [e13] at hQ13
  obtain ⟨rfl, N13q, Kc13, f14, f15, f16⟩ := hQ13
  obtain ⟨lc13, X13, N13⟩ : ∃ lc, Stand p l e room_1 s m #[(.int p1), (.int p2), (.int p3), (.int p4), (.int p5)] below meth c T13 lc 2 2 ∧ Fr n0 lc := ⟨_, X13', Fr.app N0 N13q⟩
  have K17 : Gx p e below s₁ f0 T13 (mkF m 66 #[.val (.int p1), .val (.int p2), .val (.int p3), .val (.int p4), .val (.int p5), .val (.int (0 : Int32)), .val (.int (0 : Int32)), .val (.ref b4), .unset, .unset, .unset, .unset] [(.ref b7)]) := fun t kt => K11 t (st13.trans kt)
  have K18 : Gx p e below s₁ f0 T13 (mkF m 128 #[.val (.int p1), .val (.int p2), .val (.int p3), .val (.int p4), .val (.int p5), .val (.int (0 : Int32)), .val (.int (0 : Int32)), .val (.ref b4), .val (.ref b7), .val (.int (0 : Int32)), .unset, .unset] [(.ref b7)]) := fun t kt => K17 t (by
    show Steps p.tables e below (T13.setTop (mkF m 66 #[.val (.int p1), .val (.int p2), .val (.int p3), .val (.int p4), .val (.int p5), .val (.int (0 : Int32)), .val (.int (0 : Int32)), .val (.ref b4), .unset, .unset, .unset, .unset] [(.ref b7)])) _
    refine XS.astore X13.here hx rfl (hb hby at_66) rfl rfl (l' := #[.val (.int p1), .val (.int p2), .val (.int p3), .val (.int p4), .val (.int p5), .val (.int (0 : Int32)), .val (.int (0 : Int32)), .val (.ref b4), .val (.ref b7), .unset, .unset, .unset]) rfl ?_
    show Steps p.tables e below (T13.setTop (mkF m 68 #[.val (.int p1), .val (.int p2), .val (.int p3), .val (.int p4), .val (.int p5), .val (.int (0 : Int32)), .val (.int (0 : Int32)), .val (.ref b4), .val (.ref b7), .unset, .unset, .unset] [])) _
    refine XS.iload X13.here hx rfl (hb hby at_68) rfl ?_
    show Steps p.tables e below (T13.setTop (mkF m 70 #[.val (.int p1), .val (.int p2), .val (.int p3), .val (.int p4), .val (.int p5), .val (.int (0 : Int32)), .val (.int (0 : Int32)), .val (.ref b4), .val (.ref b7), .unset, .unset, .unset] [(.int (0 : Int32))])) _
    refine XS.iconst X13.here hx rfl (hb hby at_70) ?_
    show Steps p.tables e below (T13.setTop (mkF m 71 #[.val (.int p1), .val (.int p2), .val (.int p3), .val (.int p4), .val (.int p5), .val (.int (0 : Int32)), .val (.int (0 : Int32)), .val (.ref b4), .val (.ref b7), .unset, .unset, .unset] [(.int (1 : Int32)), (.int (0 : Int32))])) _
    refine XS.icmpYes X13.here hx rfl (pc0 := 71) (pc' := 80) rfl (hb hby at_71) rfl (tlt (by decide)).1 (by decide) (by decide) ?_
    show Steps p.tables e below (T13.setTop (mkF m 80 #[.val (.int p1), .val (.int p2), .val (.int p3), .val (.int p4), .val (.int p5), .val (.int (0 : Int32)), .val (.int (0 : Int32)), .val (.ref b4), .val (.ref b7), .unset, .unset, .unset] [])) _
    refine XS.iload X13.here hx rfl (hb hby at_80) rfl ?_
    show Steps p.tables e below (T13.setTop (mkF m 82 #[.val (.int p1), .val (.int p2), .val (.int p3), .val (.int p4), .val (.int p5), .val (.int (0 : Int32)), .val (.int (0 : Int32)), .val (.ref b4), .val (.ref b7), .unset, .unset, .unset] [(.int (0 : Int32))])) _
    refine XS.iconst X13.here hx rfl (hb hby at_82) ?_
    show Steps p.tables e below (T13.setTop (mkF m 83 #[.val (.int p1), .val (.int p2), .val (.int p3), .val (.int p4), .val (.int p5), .val (.int (0 : Int32)), .val (.int (0 : Int32)), .val (.ref b4), .val (.ref b7), .unset, .unset, .unset] [(.int (2 : Int32)), (.int (0 : Int32))])) _
    refine XS.icmpYes X13.here hx rfl (pc0 := 83) (pc' := 92) rfl (hb hby at_83) rfl (tlt (by decide)).1 (by decide) (by decide) ?_
    show Steps p.tables e below (T13.setTop (mkF m 92 #[.val (.int p1), .val (.int p2), .val (.int p3), .val (.int p4), .val (.int p5), .val (.int (0 : Int32)), .val (.int (0 : Int32)), .val (.ref b4), .val (.ref b7), .unset, .unset, .unset] [])) _
    refine XS.iload X13.here hx rfl (hb hby at_92) rfl ?_
    show Steps p.tables e below (T13.setTop (mkF m 94 #[.val (.int p1), .val (.int p2), .val (.int p3), .val (.int p4), .val (.int p5), .val (.int (0 : Int32)), .val (.int (0 : Int32)), .val (.ref b4), .val (.ref b7), .unset, .unset, .unset] [(.int (0 : Int32))])) _
    refine XS.iconst X13.here hx rfl (hb hby at_94) ?_
    show Steps p.tables e below (T13.setTop (mkF m 95 #[.val (.int p1), .val (.int p2), .val (.int p3), .val (.int p4), .val (.int p5), .val (.int (0 : Int32)), .val (.int (0 : Int32)), .val (.ref b4), .val (.ref b7), .unset, .unset, .unset] [(.int (3 : Int32)), (.int (0 : Int32))])) _
    refine XS.icmpYes X13.here hx rfl (pc0 := 95) (pc' := 104) rfl (hb hby at_95) rfl (tlt (by decide)).1 (by decide) (by decide) ?_
    show Steps p.tables e below (T13.setTop (mkF m 104 #[.val (.int p1), .val (.int p2), .val (.int p3), .val (.int p4), .val (.int p5), .val (.int (0 : Int32)), .val (.int (0 : Int32)), .val (.ref b4), .val (.ref b7), .unset, .unset, .unset] [])) _
    refine XS.iload X13.here hx rfl (hb hby at_104) rfl ?_
    show Steps p.tables e below (T13.setTop (mkF m 106 #[.val (.int p1), .val (.int p2), .val (.int p3), .val (.int p4), .val (.int p5), .val (.int (0 : Int32)), .val (.int (0 : Int32)), .val (.ref b4), .val (.ref b7), .unset, .unset, .unset] [(.int (0 : Int32))])) _
    refine XS.iload X13.here hx rfl (hb hby at_106) rfl ?_
    show Steps p.tables e below (T13.setTop (mkF m 108 #[.val (.int p1), .val (.int p2), .val (.int p3), .val (.int p4), .val (.int p5), .val (.int (0 : Int32)), .val (.int (0 : Int32)), .val (.ref b4), .val (.ref b7), .unset, .unset, .unset] [(.int (0 : Int32)), (.int (0 : Int32))])) _
    refine XS.icmpYes X13.here hx rfl (pc0 := 108) (pc' := 123) rfl (hb hby at_108) rfl (flt (by decide)).2.1 (by decide) (by decide) ?_
    show Steps p.tables e below (T13.setTop (mkF m 123 #[.val (.int p1), .val (.int p2), .val (.int p3), .val (.int p4), .val (.int p5), .val (.int (0 : Int32)), .val (.int (0 : Int32)), .val (.ref b4), .val (.ref b7), .unset, .unset, .unset] [])) _
    refine XS.iconst X13.here hx rfl (hb hby at_123) ?_
    show Steps p.tables e below (T13.setTop (mkF m 124 #[.val (.int p1), .val (.int p2), .val (.int p3), .val (.int p4), .val (.int p5), .val (.int (0 : Int32)), .val (.int (0 : Int32)), .val (.ref b4), .val (.ref b7), .unset, .unset, .unset] [(.int (0 : Int32))])) _
    refine XS.istore X13.here hx rfl (hb hby at_124) rfl (l' := #[.val (.int p1), .val (.int p2), .val (.int p3), .val (.int p4), .val (.int p5), .val (.int (0 : Int32)), .val (.int (0 : Int32)), .val (.ref b4), .val (.ref b7), .val (.int (0 : Int32)), .unset, .unset]) rfl ?_
    show Steps p.tables e below (T13.setTop (mkF m 126 #[.val (.int p1), .val (.int p2), .val (.int p3), .val (.int p4), .val (.int p5), .val (.int (0 : Int32)), .val (.int (0 : Int32)), .val (.ref b4), .val (.ref b7), .val (.int (0 : Int32)), .unset, .unset] [])) _
    refine XS.aload X13.here hx rfl (hb hby at_126) rfl rfl ?_
    exact kt)
  have f19 : Arv Z h13 b4 k4 .byte (0 : Int32) [] (.int (0 : Int32)) := ((V4.ext E7).keep Kc13 (ninS (Nat.ne_of_lt (Nat.lt_of_lt_of_le V4.lt (Nat.le_of_eq g7.symm))) nin0))
  have kp20 : Keep h0 h13 [] := (Keep.trans kp12 Kc13 (allS (Or.inr (Nat.le_trans ((Keep.refl h0 []).ext E4).1 (Nat.le_of_eq g7.symm))) all0))
  obtain ⟨cq21, kq21, q21a, q21b, q21c⟩ := isOf hZ e13 f14
  obtain ⟨_, _, ⟨T21, L21, k21, n21⟩, -, X21', ⟨Lc21, hQ21, l21, y21, z21⟩, st21⟩ := X13.virtualBack hx (y := (⟨"com/example/looseleaf/looseleaf/pgwire/MessageBody", "atNul", "()Z"⟩ : MethodName)) (z := (⟨"com/example/looseleaf/looseleaf/pgwire/MessageBody", "atNul", "()Z"⟩ : MethodName)) hown (mvT hZ (hw _ (List.mem_of_getElem? (i := 12) rfl))) (mvT hZ (hw _ (List.mem_of_getElem? (i := 13) rfl))) (notFace_of_selects (args := #[]) (mvT hZ (hw _ (List.mem_of_getElem? (i := 15) rfl)))) (mvT hZ (hw _ (List.mem_of_getElem? (i := 15) rfl))) (mvT hZ (hw _ (List.mem_of_getElem? (i := 14) rfl))) (by decide) (backOf (W := 0) (rmAt0 l Z a0 hw [] b7 b4 (0 : Int32) k4 (0 : Int32) [] h13 n0 (Nat.le_trans Z0 kp20.1) f15 f16 f19 (by decide)) hZ (hw _ (List.mem_of_getElem? (i := 16) rfl)) (hw _ (List.mem_of_getElem? (i := 3) rfl)) (by decide) (by decide)) q21a q21c (g := (mkF m 128 #[.val (.int p1), .val (.int p2), .val (.int p3), .val (.int p4), .val (.int p5), .val (.int (0 : Int32)), .val (.int (0 : Int32)), .val (.ref b4), .val (.ref b7), .val (.int (0 : Int32)), .unset, .unset] [(.ref b7)])) rfl (by rw [hml]; rfl) (Steps.refl _) (argsL := []) (rest := []) (lenOf pd___Z rfl) rfl (by show 2 * 0 + _ ≤ _; exact Nat.le_of_eq rfl) (hb hby at_128) (fun _ _ => ⟨rfl, e13, (by decide : 2 + 0 ≤ _), (by decide : 2 + 0 ≤ _)⟩)
  dsimp only [Pt.U, Pt.locs, Pt.cells, Pt.slots] at X21' l21 y21 z21 st21 hQ21
  subst l21 y21 z21
  obtain ⟨rfl, N21q, e21⟩ := hQ21
  obtain ⟨lc21, X21, N21⟩ : ∃ lc, Stand p l e room_1 s m #[(.int p1), (.int p2), (.int p3), (.int p4), (.int p5)] below meth c T21 lc 2 2 ∧ Fr n0 lc := ⟨_, X21', Fr.app N13 N21q⟩
  have K22 : Gx p e below s₁ f0 T21 (mkF m 131 #[.val (.int p1), .val (.int p2), .val (.int p3), .val (.int p4), .val (.int p5), .val (.int (0 : Int32)), .val (.int (0 : Int32)), .val (.ref b4), .val (.ref b7), .val (.int (0 : Int32)), .unset, .unset] [(.int (0 : Int32))]) := fun t kt => K18 t (st21.trans kt)
  have K23 : Gx p e below s₁ f0 T21 (mkF m 135 #[.val (.int p1), .val (.int p2), .val (.int p3), .val (.int p4), .val (.int p5), .val (.int (0 : Int32)), .val (.int (0 : Int32)), .val (.ref b4), .val (.ref b7), .val (.int (0 : Int32)), .val (.int (0 : Int32)), .unset] [(.ref b7)]) := fun t kt => K22 t (by
    show Steps p.tables e below (T21.setTop (mkF m 131 #[.val (.int p1), .val (.int p2), .val (.int p3), .val (.int p4), .val (.int p5), .val (.int (0 : Int32)), .val (.int (0 : Int32)), .val (.ref b4), .val (.ref b7), .val (.int (0 : Int32)), .unset, .unset] [(.int (0 : Int32))])) _
    refine XS.istore X21.here hx rfl (hb hby at_131) rfl (l' := #[.val (.int p1), .val (.int p2), .val (.int p3), .val (.int p4), .val (.int p5), .val (.int (0 : Int32)), .val (.int (0 : Int32)), .val (.ref b4), .val (.ref b7), .val (.int (0 : Int32)), .val (.int (0 : Int32)), .unset]) rfl ?_
    show Steps p.tables e below (T21.setTop (mkF m 133 #[.val (.int p1), .val (.int p2), .val (.int p3), .val (.int p4), .val (.int p5), .val (.int (0 : Int32)), .val (.int (0 : Int32)), .val (.ref b4), .val (.ref b7), .val (.int (0 : Int32)), .val (.int (0 : Int32)), .unset] [])) _
    refine XS.aload X21.here hx rfl (hb hby at_133) rfl rfl ?_
    exact kt)
  obtain ⟨cq24, kq24, q24a, q24b, q24c⟩ := isOf hZ e21 f14
  obtain ⟨_, _, ⟨T24, L24, k24, n24⟩, -, X24', ⟨Lc24, hQ24, l24, y24, z24⟩, st24⟩ := X21.virtualBack hx (y := (⟨"com/example/looseleaf/looseleaf/pgwire/MessageBody", "atNul", "()Z"⟩ : MethodName)) (z := (⟨"com/example/looseleaf/looseleaf/pgwire/MessageBody", "atNul", "()Z"⟩ : MethodName)) hown (mvT hZ (hw _ (List.mem_of_getElem? (i := 12) rfl))) (mvT hZ (hw _ (List.mem_of_getElem? (i := 13) rfl))) (notFace_of_selects (args := #[]) (mvT hZ (hw _ (List.mem_of_getElem? (i := 15) rfl)))) (mvT hZ (hw _ (List.mem_of_getElem? (i := 15) rfl))) (mvT hZ (hw _ (List.mem_of_getElem? (i := 14) rfl))) (by decide) (backOf (W := 0) (rmAt0 l Z a0 hw [] b7 b4 (0 : Int32) k4 (0 : Int32) [] h13 n0 (Nat.le_trans Z0 kp20.1) f15 f16 f19 (by decide)) hZ (hw _ (List.mem_of_getElem? (i := 16) rfl)) (hw _ (List.mem_of_getElem? (i := 3) rfl)) (by decide) (by decide)) q24a q24c (g := (mkF m 135 #[.val (.int p1), .val (.int p2), .val (.int p3), .val (.int p4), .val (.int p5), .val (.int (0 : Int32)), .val (.int (0 : Int32)), .val (.ref b4), .val (.ref b7), .val (.int (0 : Int32)), .val (.int (0 : Int32)), .unset] [(.ref b7)])) rfl (by rw [hml]; rfl) (Steps.refl _) (argsL := []) (rest := []) (lenOf pd___Z rfl) rfl (by show 2 * 0 + _ ≤ _; exact Nat.le_of_eq rfl) (hb hby at_135) (fun _ _ => ⟨rfl, e21, (by decide : 2 + 0 ≤ _), (by decide : 2 + 0 ≤ _)⟩)
  dsimp only [Pt.U, Pt.locs, Pt.cells, Pt.slots] at X24' l24 y24 z24 st24 hQ24
  subst l24 y24 z24
  obtain ⟨rfl, N24q, e24⟩ := hQ24
  obtain ⟨lc24, X24, N24⟩ : ∃ lc, Stand p l e room_1 s m #[(.int p1), (.int p2), (.int p3), (.int p4), (.int p5)] below meth c T24 lc 2 2 ∧ Fr n0 lc := ⟨_, X24', Fr.app N21 N24q⟩
  have K25 : Gx p e below s₁ f0 T24 (mkF m 138 #[.val (.int p1), .val (.int p2), .val (.int p3), .val (.int p4), .val (.int p5), .val (.int (0 : Int32)), .val (.int (0 : Int32)), .val (.ref b4), .val (.ref b7), .val (.int (0 : Int32)), .val (.int (0 : Int32)), .unset] [(.int (0 : Int32))]) := fun t kt => K23 t (st24.trans kt)
  have K26 : Gx p e below s₁ f0 T24 (mkF m 187 #[.val (.int p1), .val (.int p2), .val (.int p3), .val (.int p4), .val (.int p5), .val (.int (0 : Int32)), .val (.int (0 : Int32)), .val (.ref b4), .val (.ref b7), .val (.int (0 : Int32)), .val (.int (0 : Int32)), .val (.int (0 : Int32))] [(.int (1 : Int32))]) := fun t kt => K25 t (by
    show Steps p.tables e below (T24.setTop (mkF m 138 #[.val (.int p1), .val (.int p2), .val (.int p3), .val (.int p4), .val (.int p5), .val (.int (0 : Int32)), .val (.int (0 : Int32)), .val (.ref b4), .val (.ref b7), .val (.int (0 : Int32)), .val (.int (0 : Int32)), .unset] [(.int (0 : Int32))])) _
    refine XS.istore X24.here hx rfl (hb hby at_138) rfl (l' := #[.val (.int p1), .val (.int p2), .val (.int p3), .val (.int p4), .val (.int p5), .val (.int (0 : Int32)), .val (.int (0 : Int32)), .val (.ref b4), .val (.ref b7), .val (.int (0 : Int32)), .val (.int (0 : Int32)), .val (.int (0 : Int32))]) rfl ?_
    show Steps p.tables e below (T24.setTop (mkF m 140 #[.val (.int p1), .val (.int p2), .val (.int p3), .val (.int p4), .val (.int p5), .val (.int (0 : Int32)), .val (.int (0 : Int32)), .val (.ref b4), .val (.ref b7), .val (.int (0 : Int32)), .val (.int (0 : Int32)), .val (.int (0 : Int32))] [])) _
    refine XS.iload X24.here hx rfl (hb hby at_140) rfl ?_
    show Steps p.tables e below (T24.setTop (mkF m 142 #[.val (.int p1), .val (.int p2), .val (.int p3), .val (.int p4), .val (.int p5), .val (.int (0 : Int32)), .val (.int (0 : Int32)), .val (.ref b4), .val (.ref b7), .val (.int (0 : Int32)), .val (.int (0 : Int32)), .val (.int (0 : Int32))] [(.int (0 : Int32))])) _
    refine XS.iload X24.here hx rfl (hb hby at_142) rfl ?_
    show Steps p.tables e below (T24.setTop (mkF m 144 #[.val (.int p1), .val (.int p2), .val (.int p3), .val (.int p4), .val (.int p5), .val (.int (0 : Int32)), .val (.int (0 : Int32)), .val (.ref b4), .val (.ref b7), .val (.int (0 : Int32)), .val (.int (0 : Int32)), .val (.int (0 : Int32))] [(.int (0 : Int32)), (.int (0 : Int32))])) _
    refine XS.icmpNo X24.here hx rfl (hb hby at_144) rfl (teq (by decide)).2 ?_
    show Steps p.tables e below (T24.setTop (mkF m 147 #[.val (.int p1), .val (.int p2), .val (.int p3), .val (.int p4), .val (.int p5), .val (.int (0 : Int32)), .val (.int (0 : Int32)), .val (.ref b4), .val (.ref b7), .val (.int (0 : Int32)), .val (.int (0 : Int32)), .val (.int (0 : Int32))] [])) _
    refine XS.iload X24.here hx rfl (hb hby at_147) rfl ?_
    show Steps p.tables e below (T24.setTop (mkF m 149 #[.val (.int p1), .val (.int p2), .val (.int p3), .val (.int p4), .val (.int p5), .val (.int (0 : Int32)), .val (.int (0 : Int32)), .val (.ref b4), .val (.ref b7), .val (.int (0 : Int32)), .val (.int (0 : Int32)), .val (.int (0 : Int32))] [(.int (0 : Int32))])) _
    refine XS.iload X24.here hx rfl (hb hby at_149) rfl ?_
    show Steps p.tables e below (T24.setTop (mkF m 151 #[.val (.int p1), .val (.int p2), .val (.int p3), .val (.int p4), .val (.int p5), .val (.int (0 : Int32)), .val (.int (0 : Int32)), .val (.ref b4), .val (.ref b7), .val (.int (0 : Int32)), .val (.int (0 : Int32)), .val (.int (0 : Int32))] [(.int (0 : Int32)), (.int (0 : Int32))])) _
    refine XS.icmpYes X24.here hx rfl (pc0 := 151) (pc' := 156) rfl (hb hby at_151) rfl (teq (by decide)).1 (by decide) (by decide) ?_
    show Steps p.tables e below (T24.setTop (mkF m 156 #[.val (.int p1), .val (.int p2), .val (.int p3), .val (.int p4), .val (.int p5), .val (.int (0 : Int32)), .val (.int (0 : Int32)), .val (.ref b4), .val (.ref b7), .val (.int (0 : Int32)), .val (.int (0 : Int32)), .val (.int (0 : Int32))] [])) _
    refine XS.iload X24.here hx rfl (hb hby at_156) rfl ?_
    show Steps p.tables e below (T24.setTop (mkF m 158 #[.val (.int p1), .val (.int p2), .val (.int p3), .val (.int p4), .val (.int p5), .val (.int (0 : Int32)), .val (.int (0 : Int32)), .val (.ref b4), .val (.ref b7), .val (.int (0 : Int32)), .val (.int (0 : Int32)), .val (.int (0 : Int32))] [(.int (0 : Int32))])) _
    refine XS.iload X24.here hx rfl (hb hby at_158) rfl ?_
    show Steps p.tables e below (T24.setTop (mkF m 160 #[.val (.int p1), .val (.int p2), .val (.int p3), .val (.int p4), .val (.int p5), .val (.int (0 : Int32)), .val (.int (0 : Int32)), .val (.ref b4), .val (.ref b7), .val (.int (0 : Int32)), .val (.int (0 : Int32)), .val (.int (0 : Int32))] [(.int (0 : Int32)), (.int (0 : Int32))])) _
    refine XS.icmpYes X24.here hx rfl (pc0 := 160) (pc' := 186) rfl (hb hby at_160) rfl (flt (by decide)).2.1 (by decide) (by decide) ?_
    show Steps p.tables e below (T24.setTop (mkF m 186 #[.val (.int p1), .val (.int p2), .val (.int p3), .val (.int p4), .val (.int p5), .val (.int (0 : Int32)), .val (.int (0 : Int32)), .val (.ref b4), .val (.ref b7), .val (.int (0 : Int32)), .val (.int (0 : Int32)), .val (.int (0 : Int32))] [])) _
    refine XS.iconst X24.here hx rfl (hb hby at_186) ?_
    exact kt)
  obtain ⟨fs27, hr27, hrun27, hended27, hW27, hsame27⟩ := X24.leave (v := some (.int (1 : Int32))) (fun h => by rw [Bd.returns] at h; cases h)
  refine ⟨_, _, pre0 _ (K26 _ ?_), hrun27, hended27, _, _, rfl, ?_, ⟨_, rfl⟩, hW27, hsame27.mono (by decide) (by decide)⟩
  · exact retN X24 hx (t := .boolean) Bd.returns (by simp) (hb hby at_187) hr27
  · show Q0 Z p1 p2 p3 p4 p5 h0 n0 _ T24.heap _
    rw [e24]
    exact ⟨rfl, N24⟩
theorem pd___I : parseMethodDescriptor "()I" = some ⟨[], some .int⟩ := by decide +kernel
theorem ef_0_10 (m : MethodId) (p1 : Int32) (p2 : Int32) (p3 : Int32) (p4 : Int32) (p5 : Int32) : entryFrame m #[(.int p1), (.int p2), (.int p3), (.int p4), (.int p5)] maxLocals = mkF m 0 #[.val (.int p1), .val (.int p2), .val (.int p3), .val (.int p4), .val (.int p5), .unset, .unset, .unset, .unset, .unset, .unset, .unset] [] := by first | (simp [entryFrame, mkF, argsToLocals, Value.category, maxLocals]; done) | rfl
set_option maxRecDepth 65536 in
set_option maxHeartbeats 40000000 in
theorem rm0_10 (l : Launch) (Z : State) (a0 : Array Value) (hw : ∀ d ∈ tables_1, d.before a0 Z = true) (ws : List Jvm.Cond) (p1 : Int32) (p2 : Int32) (p3 : Int32) (p4 : Int32) (p5 : Int32) (h0 : Heap) (n0 : Nat) (Z0 : n0 ≤ h0.size) (hn_ : (p1 &&& (3 : Int32)) = (1 : Int32)) (hk_ : ((p2 &&& (3 : Int32)) % (2 : Int32)) = (0 : Int32)) :
    MetFree l x (head1 (Jvm.Cond.code x code maxLocals ret :: ws) room_1) (fun a U => a = #[(.int p1), (.int p2), (.int p3), (.int p4), (.int p5)] ∧ Z.Warmed39 U.vm ∧ U.heap = h0) (fun _ _ _ _ _ => True) (fun _ U o U' => ∃ v L, o = .returned v ∧ Q0 Z p1 p2 p3 p4 p5 h0 n0 v U'.heap L ∧ FrameEnd U o U' L room_1.cells room_1.slots) := by
  refine MetFree.of_bodySF (plainFor_of_name pn_0) hisR ?_
  intro p e s m args below meth c s₁ Bd hml0 hP hK
  obtain ⟨rfl, hZ, hh⟩ := hP
  have hx := Bd.exec
  have hby := Bd.bytes
  have hml : c.maxLocals = 12 := hml0
  have hown : s.vm.findClass "com/example/looseleaf/looseleaf/pgwire/MessageBodyAtNulPinLaw" = some m.cls := findClass_of_methodNamed Bd.named
  have hnm := (name_of_methodNamed Bd.named Bd.method).1
  have X0 : Stand p l e room_1 s m #[(.int p1), (.int p2), (.int p3), (.int p4), (.int p5)] below meth c s₁ [] 0 0 := Stand.of_body Bd
  have hs0 : h0 = s.heap := hh.symm
  have e0 : s₁.heap = h0 := by rw [← hh, Bd.state]; rfl
  have N0 := Fr.nil n0
  obtain ⟨f0, hf0⟩ : ∃ f, f = entryFrame m #[(.int p1), (.int p2), (.int p3), (.int p4), (.int p5)] maxLocals := ⟨_, rfl⟩
  have pre0 : ∀ t, Steps p.tables e below (s₁.setTop f0) t → Steps p.tables e below (s₁.setTop (entryFrame m #[(.int p1), (.int p2), (.int p3), (.int p4), (.int p5)] maxLocals)) t := fun t k => hf0 ▸ k
  have K0 : Gx p e below s₁ f0 s₁ (mkF m 0 #[.val (.int p1), .val (.int p2), .val (.int p3), .val (.int p4), .val (.int p5), .unset, .unset, .unset, .unset, .unset, .unset, .unset] []) := fun t kt => by rw [hf0]; exact castTop (ef_0_10 m p1 p2 p3 p4 p5) kt
  have K1 : Gx p e below s₁ f0 s₁ (mkF m 5 #[.val (.int p1), .val (.int p2), .val (.int p3), .val (.int p4), .val (.int p5), .val (.int (p1 &&& (3 : Int32))), .unset, .unset, .unset, .unset, .unset, .unset] []) := fun t kt => K0 t (by
    show Steps p.tables e below (s₁.setTop (mkF m 0 #[.val (.int p1), .val (.int p2), .val (.int p3), .val (.int p4), .val (.int p5), .unset, .unset, .unset, .unset, .unset, .unset, .unset] [])) _
    refine XS.iloadN X0.here hx rfl (hb hby at_0) rfl ?_
    show Steps p.tables e below (s₁.setTop (mkF m 1 #[.val (.int p1), .val (.int p2), .val (.int p3), .val (.int p4), .val (.int p5), .unset, .unset, .unset, .unset, .unset, .unset, .unset] [(.int p1)])) _
    refine XS.iconst X0.here hx rfl (hb hby at_1) ?_
    show Steps p.tables e below (s₁.setTop (mkF m 2 #[.val (.int p1), .val (.int p2), .val (.int p3), .val (.int p4), .val (.int p5), .unset, .unset, .unset, .unset, .unset, .unset, .unset] [(.int (3 : Int32)), (.int p1)])) _
    refine XS.iand X0.here hx rfl (hb hby at_2) rfl ?_
    show Steps p.tables e below (s₁.setTop (mkF m 3 #[.val (.int p1), .val (.int p2), .val (.int p3), .val (.int p4), .val (.int p5), .unset, .unset, .unset, .unset, .unset, .unset, .unset] [(.int (p1 &&& (3 : Int32)))])) _
    refine XS.istore X0.here hx rfl (hb hby at_3) rfl (l' := #[.val (.int p1), .val (.int p2), .val (.int p3), .val (.int p4), .val (.int p5), .val (.int (p1 &&& (3 : Int32))), .unset, .unset, .unset, .unset, .unset, .unset]) rfl ?_
    exact kt)
  rw [hn_] at K1
  have K2 : Gx p e below s₁ f0 s₁ (mkF m 15 #[.val (.int p1), .val (.int p2), .val (.int p3), .val (.int p4), .val (.int p5), .val (.int (1 : Int32)), .val (.int ((p2 &&& (3 : Int32)) % (2 : Int32))), .unset, .unset, .unset, .unset, .unset] []) := fun t kt => K1 t (by
    show Steps p.tables e below (s₁.setTop (mkF m 5 #[.val (.int p1), .val (.int p2), .val (.int p3), .val (.int p4), .val (.int p5), .val (.int (1 : Int32)), .unset, .unset, .unset, .unset, .unset, .unset] [])) _
    refine XS.iloadN X0.here hx rfl (hb hby at_5) rfl ?_
    show Steps p.tables e below (s₁.setTop (mkF m 6 #[.val (.int p1), .val (.int p2), .val (.int p3), .val (.int p4), .val (.int p5), .val (.int (1 : Int32)), .unset, .unset, .unset, .unset, .unset, .unset] [(.int p2)])) _
    refine XS.iconst X0.here hx rfl (hb hby at_6) ?_
    show Steps p.tables e below (s₁.setTop (mkF m 7 #[.val (.int p1), .val (.int p2), .val (.int p3), .val (.int p4), .val (.int p5), .val (.int (1 : Int32)), .unset, .unset, .unset, .unset, .unset, .unset] [(.int (3 : Int32)), (.int p2)])) _
    refine XS.iand X0.here hx rfl (hb hby at_7) rfl ?_
    show Steps p.tables e below (s₁.setTop (mkF m 8 #[.val (.int p1), .val (.int p2), .val (.int p3), .val (.int p4), .val (.int p5), .val (.int (1 : Int32)), .unset, .unset, .unset, .unset, .unset, .unset] [(.int (p2 &&& (3 : Int32)))])) _
    refine XS.iload X0.here hx rfl (hb hby at_8) rfl ?_
    show Steps p.tables e below (s₁.setTop (mkF m 10 #[.val (.int p1), .val (.int p2), .val (.int p3), .val (.int p4), .val (.int p5), .val (.int (1 : Int32)), .unset, .unset, .unset, .unset, .unset, .unset] [(.int (1 : Int32)), (.int (p2 &&& (3 : Int32)))])) _
    refine XS.iconst X0.here hx rfl (hb hby at_10) ?_
    show Steps p.tables e below (s₁.setTop (mkF m 11 #[.val (.int p1), .val (.int p2), .val (.int p3), .val (.int p4), .val (.int p5), .val (.int (1 : Int32)), .unset, .unset, .unset, .unset, .unset, .unset] [(.int (1 : Int32)), (.int (1 : Int32)), (.int (p2 &&& (3 : Int32)))])) _
    refine XS.iadd X0.here hx rfl (hb hby at_11) rfl ?_
    show Steps p.tables e below (s₁.setTop (mkF m 12 #[.val (.int p1), .val (.int p2), .val (.int p3), .val (.int p4), .val (.int p5), .val (.int (1 : Int32)), .unset, .unset, .unset, .unset, .unset, .unset] [(.int (2 : Int32)), (.int (p2 &&& (3 : Int32)))])) _
    refine iremM X0 hx rfl (hb hby at_12) rfl (by decide) ?_
    show Steps p.tables e below (s₁.setTop (mkF m 13 #[.val (.int p1), .val (.int p2), .val (.int p3), .val (.int p4), .val (.int p5), .val (.int (1 : Int32)), .unset, .unset, .unset, .unset, .unset, .unset] [(.int ((p2 &&& (3 : Int32)) % (2 : Int32)))])) _
    refine XS.istore X0.here hx rfl (hb hby at_13) rfl (l' := #[.val (.int p1), .val (.int p2), .val (.int p3), .val (.int p4), .val (.int p5), .val (.int (1 : Int32)), .val (.int ((p2 &&& (3 : Int32)) % (2 : Int32))), .unset, .unset, .unset, .unset, .unset]) rfl ?_
    exact kt)
  rw [hk_] at K2
  have K3 : Gx p e below s₁ f0 s₁ (mkF m 17 #[.val (.int p1), .val (.int p2), .val (.int p3), .val (.int p4), .val (.int p5), .val (.int (1 : Int32)), .val (.int (0 : Int32)), .unset, .unset, .unset, .unset, .unset] [(.int (1 : Int32))]) := fun t kt => K2 t (by
    show Steps p.tables e below (s₁.setTop (mkF m 15 #[.val (.int p1), .val (.int p2), .val (.int p3), .val (.int p4), .val (.int p5), .val (.int (1 : Int32)), .val (.int (0 : Int32)), .unset, .unset, .unset, .unset, .unset] [])) _
    refine XS.iload X0.here hx rfl (hb hby at_15) rfl ?_
    exact kt)
  obtain ⟨T4, h4, k4, X4, e4, E4, A4, st4⟩ := newP X0 hx hZ (hw _ (List.mem_of_getElem? (i := 0) rfl)) e0 (g := (mkF m 17 #[.val (.int p1), .val (.int p2), .val (.int p3), .val (.int p4), .val (.int p5), .val (.int (1 : Int32)), .val (.int (0 : Int32)), .unset, .unset, .unset, .unset, .unset] [(.int (1 : Int32))])) rfl (hb hby at_17) rfl (by decide) (cap := 1) (by decide) (by decide) (by decide) (by decide)
  obtain ⟨b4, g4⟩ : ∃ z, z = h0.size := ⟨_, rfl⟩
  rw [← g4] at A4 st4
  have V4 : Arv Z h4 b4 k4 .byte (1 : Int32) [(.int (0 : Int32))] (.int (0 : Int32)) := (Arv.new A4 (by decide)).pad (pad_rep [] (.int (0 : Int32)) 1)
  have K5 : Gx p e below s₁ f0 T4 (mkF m 19 #[.val (.int p1), .val (.int p2), .val (.int p3), .val (.int p4), .val (.int p5), .val (.int (1 : Int32)), .val (.int (0 : Int32)), .unset, .unset, .unset, .unset, .unset] [(.ref b4)]) := fun t kt => K3 t (st4 t kt)
  have K6 : Gx p e below s₁ f0 T4 (mkF m 31 #[.val (.int p1), .val (.int p2), .val (.int p3), .val (.int p4), .val (.int p5), .val (.int (1 : Int32)), .val (.int (0 : Int32)), .val (.ref b4), .unset, .unset, .unset, .unset] [(.int (p3.toInt8.toInt32)), (.int (0 : Int32)), (.ref b4)]) := fun t kt => K5 t (by
    show Steps p.tables e below (T4.setTop (mkF m 19 #[.val (.int p1), .val (.int p2), .val (.int p3), .val (.int p4), .val (.int p5), .val (.int (1 : Int32)), .val (.int (0 : Int32)), .unset, .unset, .unset, .unset, .unset] [(.ref b4)])) _
    refine XS.astore X4.here hx rfl (hb hby at_19) rfl rfl (l' := #[.val (.int p1), .val (.int p2), .val (.int p3), .val (.int p4), .val (.int p5), .val (.int (1 : Int32)), .val (.int (0 : Int32)), .val (.ref b4), .unset, .unset, .unset, .unset]) rfl ?_
    show Steps p.tables e below (T4.setTop (mkF m 21 #[.val (.int p1), .val (.int p2), .val (.int p3), .val (.int p4), .val (.int p5), .val (.int (1 : Int32)), .val (.int (0 : Int32)), .val (.ref b4), .unset, .unset, .unset, .unset] [])) _
    refine XS.iload X4.here hx rfl (hb hby at_21) rfl ?_
    show Steps p.tables e below (T4.setTop (mkF m 23 #[.val (.int p1), .val (.int p2), .val (.int p3), .val (.int p4), .val (.int p5), .val (.int (1 : Int32)), .val (.int (0 : Int32)), .val (.ref b4), .unset, .unset, .unset, .unset] [(.int (1 : Int32))])) _
    refine XS.ifNo X4.here hx rfl (hb hby at_23) rfl ((if0 _ _).trans (tlt (by decide)).2.2.2) ?_
    show Steps p.tables e below (T4.setTop (mkF m 26 #[.val (.int p1), .val (.int p2), .val (.int p3), .val (.int p4), .val (.int p5), .val (.int (1 : Int32)), .val (.int (0 : Int32)), .val (.ref b4), .unset, .unset, .unset, .unset] [])) _
    refine XS.aload X4.here hx rfl (hb hby at_26) rfl rfl ?_
    show Steps p.tables e below (T4.setTop (mkF m 28 #[.val (.int p1), .val (.int p2), .val (.int p3), .val (.int p4), .val (.int p5), .val (.int (1 : Int32)), .val (.int (0 : Int32)), .val (.ref b4), .unset, .unset, .unset, .unset] [(.ref b4)])) _
    refine XS.iconst X4.here hx rfl (hb hby at_28) ?_
    show Steps p.tables e below (T4.setTop (mkF m 29 #[.val (.int p1), .val (.int p2), .val (.int p3), .val (.int p4), .val (.int p5), .val (.int (1 : Int32)), .val (.int (0 : Int32)), .val (.ref b4), .unset, .unset, .unset, .unset] [(.int (0 : Int32)), (.ref b4)])) _
    refine XS.iloadN X4.here hx rfl (hb hby at_29) rfl ?_
    show Steps p.tables e below (T4.setTop (mkF m 30 #[.val (.int p1), .val (.int p2), .val (.int p3), .val (.int p4), .val (.int p5), .val (.int (1 : Int32)), .val (.int (0 : Int32)), .val (.ref b4), .unset, .unset, .unset, .unset] [(.int p3), (.int (0 : Int32)), (.ref b4)])) _
    refine XS.i2b X4.here hx rfl (hb hby at_30) rfl ?_
    exact kt)
  obtain ⟨clq7, Arq7, ckq7, cSq7, cNq7, cHq7, cGq7⟩ := id V4
  obtain ⟨T8, h8, X8', e8, W8, st8⟩ := stB X4 hx hZ e4 Arq7 (j := (0 : Int32)) (inb_of cSq7 ⟨by decide, by decide⟩) (g := (mkF m 31 #[.val (.int p1), .val (.int p2), .val (.int p3), .val (.int p4), .val (.int p5), .val (.int (1 : Int32)), .val (.int (0 : Int32)), .val (.ref b4), .unset, .unset, .unset, .unset] [(.int (p3.toInt8.toInt32)), (.int (0 : Int32)), (.ref b4)])) rfl rfl (hb hby at_31)
  obtain ⟨lc8, X8, N8⟩ : ∃ lc, Stand p l e room_1 s m #[(.int p1), (.int p2), (.int p3), (.int p4), (.int p5)] below meth c T8 lc 1 1 ∧ Fr n0 lc := ⟨_, X8', Fr.snoc X8' N0 (Nat.le_trans Z0 (Nat.le_trans (Keep.refl h0 []).1 (Nat.le_of_eq g4.symm)))⟩
  have V8 : Arv Z h8 b4 k4 .byte (1 : Int32) [(.int (nar .byte (p3.toInt8.toInt32)))] (.int (0 : Int32)) := Arv.set Arq7 ckq7 cSq7 cNq7 cHq7 cGq7 (fits_nar_byte _) W8 0 rfl (Nat.le_of_ble_eq_true rfl)
  have K9 : Gx p e below s₁ f0 T8 (mkF m 32 #[.val (.int p1), .val (.int p2), .val (.int p3), .val (.int p4), .val (.int p5), .val (.int (1 : Int32)), .val (.int (0 : Int32)), .val (.ref b4), .unset, .unset, .unset, .unset] []) := fun t kt => K6 t (st8 t kt)
  have K10 : Gx p e below s₁ f0 T8 (mkF m 57 #[.val (.int p1), .val (.int p2), .val (.int p3), .val (.int p4), .val (.int p5), .val (.int (1 : Int32)), .val (.int (0 : Int32)), .val (.ref b4), .unset, .unset, .unset, .unset] []) := fun t kt => K9 t (by
    show Steps p.tables e below (T8.setTop (mkF m 32 #[.val (.int p1), .val (.int p2), .val (.int p3), .val (.int p4), .val (.int p5), .val (.int (1 : Int32)), .val (.int (0 : Int32)), .val (.ref b4), .unset, .unset, .unset, .unset] [])) _
    refine XS.iload X8.here hx rfl (hb hby at_32) rfl ?_
    show Steps p.tables e below (T8.setTop (mkF m 34 #[.val (.int p1), .val (.int p2), .val (.int p3), .val (.int p4), .val (.int p5), .val (.int (1 : Int32)), .val (.int (0 : Int32)), .val (.ref b4), .unset, .unset, .unset, .unset] [(.int (1 : Int32))])) _
    refine XS.iconst X8.here hx rfl (hb hby at_34) ?_
    show Steps p.tables e below (T8.setTop (mkF m 35 #[.val (.int p1), .val (.int p2), .val (.int p3), .val (.int p4), .val (.int p5), .val (.int (1 : Int32)), .val (.int (0 : Int32)), .val (.ref b4), .unset, .unset, .unset, .unset] [(.int (1 : Int32)), (.int (1 : Int32))])) _
    refine XS.icmpYes X8.here hx rfl (pc0 := 35) (pc' := 44) rfl (hb hby at_35) rfl (flt (by decide)).2.2.2 (by decide) (by decide) ?_
    show Steps p.tables e below (T8.setTop (mkF m 44 #[.val (.int p1), .val (.int p2), .val (.int p3), .val (.int p4), .val (.int p5), .val (.int (1 : Int32)), .val (.int (0 : Int32)), .val (.ref b4), .unset, .unset, .unset, .unset] [])) _
    refine XS.iload X8.here hx rfl (hb hby at_44) rfl ?_
    show Steps p.tables e below (T8.setTop (mkF m 46 #[.val (.int p1), .val (.int p2), .val (.int p3), .val (.int p4), .val (.int p5), .val (.int (1 : Int32)), .val (.int (0 : Int32)), .val (.ref b4), .unset, .unset, .unset, .unset] [(.int (1 : Int32))])) _
    refine XS.iconst X8.here hx rfl (hb hby at_46) ?_
    show Steps p.tables e below (T8.setTop (mkF m 47 #[.val (.int p1), .val (.int p2), .val (.int p3), .val (.int p4), .val (.int p5), .val (.int (1 : Int32)), .val (.int (0 : Int32)), .val (.ref b4), .unset, .unset, .unset, .unset] [(.int (2 : Int32)), (.int (1 : Int32))])) _
    refine XS.icmpYes X8.here hx rfl (pc0 := 47) (pc' := 57) rfl (hb hby at_47) rfl (flt (by decide)).2.2.2 (by decide) (by decide) ?_
    exact kt)
  obtain ⟨T11, h11, X11, e11, E11, A11, D11, -, st11⟩ := newO X8 hx hZ hown (hw _ (List.mem_of_getElem? (i := 1) rfl)) (hw _ (List.mem_of_getElem? (i := 2) rfl)) (hw _ (List.mem_of_getElem? (i := 3) rfl)) e8 (g := (mkF m 57 #[.val (.int p1), .val (.int p2), .val (.int p3), .val (.int p4), .val (.int p5), .val (.int (1 : Int32)), .val (.int (0 : Int32)), .val (.ref b4), .unset, .unset, .unset, .unset] [])) rfl (hb hby at_57) (by decide) (by decide)
  obtain ⟨b11, g11⟩ : ∃ z, z = h8.size := ⟨_, rfl⟩
  rw [← g11] at A11 D11 st11
  have f12 : Fld Z h11 b11 "com/example/looseleaf/looseleaf/pgwire/MessageBody" "bytes" "[B" .null := D11 (Or.inr (hw _ (List.mem_of_getElem? (i := 11) rfl))) (ty := (.array .byte)) (by decide)
  have f13 : Fld Z h11 b11 "com/example/looseleaf/looseleaf/pgwire/MessageBody" "at" "I" (.int (0 : Int32)) := D11 (Or.inl (hw _ (List.mem_of_getElem? (i := 18) rfl))) (ty := .int) (by decide)
  have K14 : Gx p e below s₁ f0 T11 (mkF m 60 #[.val (.int p1), .val (.int p2), .val (.int p3), .val (.int p4), .val (.int p5), .val (.int (1 : Int32)), .val (.int (0 : Int32)), .val (.ref b4), .unset, .unset, .unset, .unset] [(.ref b11)]) := fun t kt => K10 t (st11 t kt)
  have K15 : Gx p e below s₁ f0 T11 (mkF m 63 #[.val (.int p1), .val (.int p2), .val (.int p3), .val (.int p4), .val (.int p5), .val (.int (1 : Int32)), .val (.int (0 : Int32)), .val (.ref b4), .unset, .unset, .unset, .unset] [(.ref b4), (.ref b11), (.ref b11)]) := fun t kt => K14 t (by
    show Steps p.tables e below (T11.setTop (mkF m 60 #[.val (.int p1), .val (.int p2), .val (.int p3), .val (.int p4), .val (.int p5), .val (.int (1 : Int32)), .val (.int (0 : Int32)), .val (.ref b4), .unset, .unset, .unset, .unset] [(.ref b11)])) _
    refine XS.dup X11.here hx rfl (hb hby at_60) rfl rfl ?_
    show Steps p.tables e below (T11.setTop (mkF m 61 #[.val (.int p1), .val (.int p2), .val (.int p3), .val (.int p4), .val (.int p5), .val (.int (1 : Int32)), .val (.int (0 : Int32)), .val (.ref b4), .unset, .unset, .unset, .unset] [(.ref b11), (.ref b11)])) _
    refine XS.aload X11.here hx rfl (hb hby at_61) rfl rfl ?_
    exact kt)
  have kp16 : Keep h0 h11 [] := ((((Keep.refl h0 []).ext E4).wr W8 (Or.inr (Nat.le_trans (Keep.refl h0 []).1 (Nat.le_of_eq g4.symm)))).ext E11)
  obtain ⟨_, _, ⟨T17, L17, k17, n17⟩, -, X17', ⟨Lc17, hQ17, l17, y17, z17⟩, st17⟩ := X11.specialBack hx (y := (⟨"com/example/looseleaf/looseleaf/pgwire/MessageBody", "<init>", "([B)V"⟩ : MethodName)) rfl hown (mvT hZ (hw _ (List.mem_of_getElem? (i := 4) rfl))) (mvT hZ (hw _ (List.mem_of_getElem? (i := 5) rfl))) (mvT hZ (hw _ (List.mem_of_getElem? (i := 6) rfl))) (by decide) (backOf (W := 1) (rmIni l Z a0 hw [] b11 b4 h11 n0 (Nat.le_trans Z0 kp16.1) A11 (Nat.le_trans Z0 (Nat.le_trans (((Keep.refl h0 []).ext E4).wr W8 (Or.inr (Nat.le_trans (Keep.refl h0 []).1 (Nat.le_of_eq g4.symm)))).1 (Nat.le_of_eq g11.symm))) f12 f13) hZ (hw _ (List.mem_of_getElem? (i := 6) rfl)) (hw _ (List.mem_of_getElem? (i := 3) rfl)) (by decide) (by decide)) (g := (mkF m 63 #[.val (.int p1), .val (.int p2), .val (.int p3), .val (.int p4), .val (.int p5), .val (.int (1 : Int32)), .val (.int (0 : Int32)), .val (.ref b4), .unset, .unset, .unset, .unset] [(.ref b4), (.ref b11), (.ref b11)])) rfl (by rw [hml]; rfl) (Steps.refl _) (a := b11) (argsL := [(.ref b4)]) (rest := [(.ref b11)]) (lenOf pd___B_V rfl) rfl (by show 2 * 0 + _ ≤ _; exact Nat.le_of_eq rfl) (hb hby at_63) (fun _ _ => ⟨rfl, e11, (by decide : 2 + 0 ≤ _), (by decide : 3 + 0 ≤ _)⟩)
  dsimp only [Pt.U, Pt.locs, Pt.cells, Pt.slots] at X17' l17 y17 z17 st17 hQ17
  subst l17 y17 z17
  obtain ⟨h17, e17⟩ : ∃ z, T17.heap = z := ⟨_, rfl⟩
  rw [e17] at hQ17
  obtain ⟨rfl, N17q, Kc17, f18, f19, f20⟩ := hQ17
  obtain ⟨lc17, X17, N17⟩ : ∃ lc, Stand p l e room_1 s m #[(.int p1), (.int p2), (.int p3), (.int p4), (.int p5)] below meth c T17 lc 2 3 ∧ Fr n0 lc := ⟨_, X17', Fr.app N8 N17q⟩
  have K21 : Gx p e below s₁ f0 T17 (mkF m 66 #[.val (.int p1), .val (.int p2), .val (.int p3), .val (.int p4), .val (.int p5), .val (.int (1 : Int32)), .val (.int (0 : Int32)), .val (.ref b4), .unset, .unset, .unset, .unset] [(.ref b11)]) := fun t kt => K15 t (st17.trans kt)
  have f22 : Arv Z h17 b4 k4 .byte (1 : Int32) [(.int (nar .byte (p3.toInt8.toInt32)))] (.int (0 : Int32)) := ((V8.ext E11).keep Kc17 (ninS (Nat.ne_of_lt (Nat.lt_of_lt_of_le V8.lt (Nat.le_of_eq g11.symm))) nin0))
  obtain ⟨clq23, Arq23, ckq23, cSq23, cNq23, cHq23, cGq23⟩ := id f22
  have K26 : Gx p e below s₁ f0 T17 (mkF m 116 #[.val (.int p1), .val (.int p2), .val (.int p3), .val (.int p4), .val (.int p5), .val (.int (1 : Int32)), .val (.int (0 : Int32)), .val (.ref b4), .val (.ref b11), .unset, .unset, .unset] [(.int (nar .byte (p3.toInt8.toInt32)))]) := fun t kt => K21 t (by
    show Steps p.tables e below (T17.setTop (mkF m 66 #[.val (.int p1), .val (.int p2), .val (.int p3), .val (.int p4), .val (.int p5), .val (.int (1 : Int32)), .val (.int (0 : Int32)), .val (.ref b4), .unset, .unset, .unset, .unset] [(.ref b11)])) _
    refine XS.astore X17.here hx rfl (hb hby at_66) rfl rfl (l' := #[.val (.int p1), .val (.int p2), .val (.int p3), .val (.int p4), .val (.int p5), .val (.int (1 : Int32)), .val (.int (0 : Int32)), .val (.ref b4), .val (.ref b11), .unset, .unset, .unset]) rfl ?_
    show Steps p.tables e below (T17.setTop (mkF m 68 #[.val (.int p1), .val (.int p2), .val (.int p3), .val (.int p4), .val (.int p5), .val (.int (1 : Int32)), .val (.int (0 : Int32)), .val (.ref b4), .val (.ref b11), .unset, .unset, .unset] [])) _
    refine XS.iload X17.here hx rfl (hb hby at_68) rfl ?_
    show Steps p.tables e below (T17.setTop (mkF m 70 #[.val (.int p1), .val (.int p2), .val (.int p3), .val (.int p4), .val (.int p5), .val (.int (1 : Int32)), .val (.int (0 : Int32)), .val (.ref b4), .val (.ref b11), .unset, .unset, .unset] [(.int (0 : Int32))])) _
    refine XS.iconst X17.here hx rfl (hb hby at_70) ?_
    show Steps p.tables e below (T17.setTop (mkF m 71 #[.val (.int p1), .val (.int p2), .val (.int p3), .val (.int p4), .val (.int p5), .val (.int (1 : Int32)), .val (.int (0 : Int32)), .val (.ref b4), .val (.ref b11), .unset, .unset, .unset] [(.int (1 : Int32)), (.int (0 : Int32))])) _
    refine XS.icmpYes X17.here hx rfl (pc0 := 71) (pc' := 80) rfl (hb hby at_71) rfl (tlt (by decide)).1 (by decide) (by decide) ?_
    show Steps p.tables e below (T17.setTop (mkF m 80 #[.val (.int p1), .val (.int p2), .val (.int p3), .val (.int p4), .val (.int p5), .val (.int (1 : Int32)), .val (.int (0 : Int32)), .val (.ref b4), .val (.ref b11), .unset, .unset, .unset] [])) _
    refine XS.iload X17.here hx rfl (hb hby at_80) rfl ?_
    show Steps p.tables e below (T17.setTop (mkF m 82 #[.val (.int p1), .val (.int p2), .val (.int p3), .val (.int p4), .val (.int p5), .val (.int (1 : Int32)), .val (.int (0 : Int32)), .val (.ref b4), .val (.ref b11), .unset, .unset, .unset] [(.int (0 : Int32))])) _
    refine XS.iconst X17.here hx rfl (hb hby at_82) ?_
    show Steps p.tables e below (T17.setTop (mkF m 83 #[.val (.int p1), .val (.int p2), .val (.int p3), .val (.int p4), .val (.int p5), .val (.int (1 : Int32)), .val (.int (0 : Int32)), .val (.ref b4), .val (.ref b11), .unset, .unset, .unset] [(.int (2 : Int32)), (.int (0 : Int32))])) _
    refine XS.icmpYes X17.here hx rfl (pc0 := 83) (pc' := 92) rfl (hb hby at_83) rfl (tlt (by decide)).1 (by decide) (by decide) ?_
    show Steps p.tables e below (T17.setTop (mkF m 92 #[.val (.int p1), .val (.int p2), .val (.int p3), .val (.int p4), .val (.int p5), .val (.int (1 : Int32)), .val (.int (0 : Int32)), .val (.ref b4), .val (.ref b11), .unset, .unset, .unset] [])) _
    refine XS.iload X17.here hx rfl (hb hby at_92) rfl ?_
    show Steps p.tables e below (T17.setTop (mkF m 94 #[.val (.int p1), .val (.int p2), .val (.int p3), .val (.int p4), .val (.int p5), .val (.int (1 : Int32)), .val (.int (0 : Int32)), .val (.ref b4), .val (.ref b11), .unset, .unset, .unset] [(.int (0 : Int32))])) _
    refine XS.iconst X17.here hx rfl (hb hby at_94) ?_
    show Steps p.tables e below (T17.setTop (mkF m 95 #[.val (.int p1), .val (.int p2), .val (.int p3), .val (.int p4), .val (.int p5), .val (.int (1 : Int32)), .val (.int (0 : Int32)), .val (.ref b4), .val (.ref b11), .unset, .unset, .unset] [(.int (3 : Int32)), (.int (0 : Int32))])) _
    refine XS.icmpYes X17.here hx rfl (pc0 := 95) (pc' := 104) rfl (hb hby at_95) rfl (tlt (by decide)).1 (by decide) (by decide) ?_
    show Steps p.tables e below (T17.setTop (mkF m 104 #[.val (.int p1), .val (.int p2), .val (.int p3), .val (.int p4), .val (.int p5), .val (.int (1 : Int32)), .val (.int (0 : Int32)), .val (.ref b4), .val (.ref b11), .unset, .unset, .unset] [])) _
    refine XS.iload X17.here hx rfl (hb hby at_104) rfl ?_
    show Steps p.tables e below (T17.setTop (mkF m 106 #[.val (.int p1), .val (.int p2), .val (.int p3), .val (.int p4), .val (.int p5), .val (.int (1 : Int32)), .val (.int (0 : Int32)), .val (.ref b4), .val (.ref b11), .unset, .unset, .unset] [(.int (0 : Int32))])) _
    refine XS.iload X17.here hx rfl (hb hby at_106) rfl ?_
    show Steps p.tables e below (T17.setTop (mkF m 108 #[.val (.int p1), .val (.int p2), .val (.int p3), .val (.int p4), .val (.int p5), .val (.int (1 : Int32)), .val (.int (0 : Int32)), .val (.ref b4), .val (.ref b11), .unset, .unset, .unset] [(.int (1 : Int32)), (.int (0 : Int32))])) _
    refine XS.icmpNo X17.here hx rfl (hb hby at_108) rfl (tlt (by decide)).2.1 ?_
    show Steps p.tables e below (T17.setTop (mkF m 111 #[.val (.int p1), .val (.int p2), .val (.int p3), .val (.int p4), .val (.int p5), .val (.int (1 : Int32)), .val (.int (0 : Int32)), .val (.ref b4), .val (.ref b11), .unset, .unset, .unset] [])) _
    refine XS.aload X17.here hx rfl (hb hby at_111) rfl rfl ?_
    show Steps p.tables e below (T17.setTop (mkF m 113 #[.val (.int p1), .val (.int p2), .val (.int p3), .val (.int p4), .val (.int p5), .val (.int (1 : Int32)), .val (.int (0 : Int32)), .val (.ref b4), .val (.ref b11), .unset, .unset, .unset] [(.ref b4)])) _
    refine XS.iload X17.here hx rfl (hb hby at_113) rfl ?_
    show Steps p.tables e below (T17.setTop (mkF m 115 #[.val (.int p1), .val (.int p2), .val (.int p3), .val (.int p4), .val (.int p5), .val (.int (1 : Int32)), .val (.int (0 : Int32)), .val (.ref b4), .val (.ref b11), .unset, .unset, .unset] [(.int (0 : Int32)), (.ref b4)])) _
    refine X17.baloadBytes hx (j := (0 : Int32)) (v := (.int (nar .byte (p3.toInt8.toInt32)))) (by rw [e17]; exact Arq23.1) (State.isArrayOf_alike hZ.alike Arq23.2.1) Arq23.2.2 (inb_of cSq23 ⟨by decide, by decide⟩) (Has.at cHq23 (inb_of cSq23 ⟨by decide, by decide⟩) rfl) (g := (mkF m 115 #[.val (.int p1), .val (.int p2), .val (.int p3), .val (.int p4), .val (.int p5), .val (.int (1 : Int32)), .val (.int (0 : Int32)), .val (.ref b4), .val (.ref b11), .unset, .unset, .unset] [(.int (0 : Int32)), (.ref b4)])) rfl rfl (hb hby at_115) _ ?_
    exact kt)
  obtain ⟨v25, hv25⟩ : ∃ z : Int32, z = (if (nar .byte (p3.toInt8.toInt32)) = (0 : Int32) then (1 : Int32) else (0 : Int32)) := ⟨_, rfl⟩
  have K27 : Gx p e below s₁ f0 T17 (mkF m 124 #[.val (.int p1), .val (.int p2), .val (.int p3), .val (.int p4), .val (.int p5), .val (.int (1 : Int32)), .val (.int (0 : Int32)), .val (.ref b4), .val (.ref b11), .unset, .unset, .unset] [(.int v25)]) := fun t kt => K26 t (by
    by_cases hc116_23 : (nar .byte (p3.toInt8.toInt32)) = (0 : Int32)
    · skip
      show Steps p.tables e below (T17.setTop (mkF m 116 #[.val (.int p1), .val (.int p2), .val (.int p3), .val (.int p4), .val (.int p5), .val (.int (1 : Int32)), .val (.int (0 : Int32)), .val (.ref b4), .val (.ref b11), .unset, .unset, .unset] [(.int (nar .byte (p3.toInt8.toInt32)))])) _
      refine XS.ifNo X17.here hx rfl (hb hby at_116) rfl ((if0 _ _).trans (teq hc116_23).2) ?_
      show Steps p.tables e below (T17.setTop (mkF m 119 #[.val (.int p1), .val (.int p2), .val (.int p3), .val (.int p4), .val (.int p5), .val (.int (1 : Int32)), .val (.int (0 : Int32)), .val (.ref b4), .val (.ref b11), .unset, .unset, .unset] [])) _
      refine XS.iconst X17.here hx rfl (hb hby at_119) ?_
      show Steps p.tables e below (T17.setTop (mkF m 120 #[.val (.int p1), .val (.int p2), .val (.int p3), .val (.int p4), .val (.int p5), .val (.int (1 : Int32)), .val (.int (0 : Int32)), .val (.ref b4), .val (.ref b11), .unset, .unset, .unset] [(.int (1 : Int32))])) _
      refine XS.goto X17.here hx rfl (pc0 := 120) (pc' := 124) rfl (hb hby at_120) (by decide) (by decide) ?_
      show Steps p.tables e below (T17.setTop (mkF m 124 #[.val (.int p1), .val (.int p2), .val (.int p3), .val (.int p4), .val (.int p5), .val (.int (1 : Int32)), .val (.int (0 : Int32)), .val (.ref b4), .val (.ref b11), .unset, .unset, .unset] [(.int (1 : Int32))])) _
      exact castTop (by simp only [hv25, if_pos hc116_23]) kt
    · skip
      show Steps p.tables e below (T17.setTop (mkF m 116 #[.val (.int p1), .val (.int p2), .val (.int p3), .val (.int p4), .val (.int p5), .val (.int (1 : Int32)), .val (.int (0 : Int32)), .val (.ref b4), .val (.ref b11), .unset, .unset, .unset] [(.int (nar .byte (p3.toInt8.toInt32)))])) _
      refine XS.ifYes X17.here hx rfl (pc0 := 116) (pc' := 123) rfl (hb hby at_116) rfl ((if0 _ _).trans (feq hc116_23).2) (by decide) (by decide) ?_
      show Steps p.tables e below (T17.setTop (mkF m 123 #[.val (.int p1), .val (.int p2), .val (.int p3), .val (.int p4), .val (.int p5), .val (.int (1 : Int32)), .val (.int (0 : Int32)), .val (.ref b4), .val (.ref b11), .unset, .unset, .unset] [])) _
      refine XS.iconst X17.here hx rfl (hb hby at_123) ?_
      show Steps p.tables e below (T17.setTop (mkF m 124 #[.val (.int p1), .val (.int p2), .val (.int p3), .val (.int p4), .val (.int p5), .val (.int (1 : Int32)), .val (.int (0 : Int32)), .val (.ref b4), .val (.ref b11), .unset, .unset, .unset] [(.int (0 : Int32))])) _
      exact castTop (by simp only [hv25, if_neg hc116_23]) kt)
  have K28 : Gx p e below s₁ f0 T17 (mkF m 128 #[.val (.int p1), .val (.int p2), .val (.int p3), .val (.int p4), .val (.int p5), .val (.int (1 : Int32)), .val (.int (0 : Int32)), .val (.ref b4), .val (.ref b11), .val (.int v25), .unset, .unset] [(.ref b11)]) := fun t kt => K27 t (by
    show Steps p.tables e below (T17.setTop (mkF m 124 #[.val (.int p1), .val (.int p2), .val (.int p3), .val (.int p4), .val (.int p5), .val (.int (1 : Int32)), .val (.int (0 : Int32)), .val (.ref b4), .val (.ref b11), .unset, .unset, .unset] [(.int v25)])) _
    refine XS.istore X17.here hx rfl (hb hby at_124) rfl (l' := #[.val (.int p1), .val (.int p2), .val (.int p3), .val (.int p4), .val (.int p5), .val (.int (1 : Int32)), .val (.int (0 : Int32)), .val (.ref b4), .val (.ref b11), .val (.int v25), .unset, .unset]) rfl ?_
    show Steps p.tables e below (T17.setTop (mkF m 126 #[.val (.int p1), .val (.int p2), .val (.int p3), .val (.int p4), .val (.int p5), .val (.int (1 : Int32)), .val (.int (0 : Int32)), .val (.ref b4), .val (.ref b11), .val (.int v25), .unset, .unset] [])) _
    refine XS.aload X17.here hx rfl (hb hby at_126) rfl rfl ?_
    exact kt)
  have kp29 : Keep h0 h17 [] := (Keep.trans kp16 Kc17 (allS (Or.inr (Nat.le_trans (((Keep.refl h0 []).ext E4).wr W8 (Or.inr (Nat.le_trans (Keep.refl h0 []).1 (Nat.le_of_eq g4.symm)))).1 (Nat.le_of_eq g11.symm))) all0))
  obtain ⟨cq30, kq30, q30a, q30b, q30c⟩ := isOf hZ e17 f18
  obtain ⟨_, _, ⟨T30, L30, k30, n30⟩, -, X30', ⟨Lc30, hQ30, l30, y30, z30⟩, st30⟩ := X17.virtualBack hx (y := (⟨"com/example/looseleaf/looseleaf/pgwire/MessageBody", "atNul", "()Z"⟩ : MethodName)) (z := (⟨"com/example/looseleaf/looseleaf/pgwire/MessageBody", "atNul", "()Z"⟩ : MethodName)) hown (mvT hZ (hw _ (List.mem_of_getElem? (i := 12) rfl))) (mvT hZ (hw _ (List.mem_of_getElem? (i := 13) rfl))) (notFace_of_selects (args := #[]) (mvT hZ (hw _ (List.mem_of_getElem? (i := 15) rfl)))) (mvT hZ (hw _ (List.mem_of_getElem? (i := 15) rfl))) (mvT hZ (hw _ (List.mem_of_getElem? (i := 14) rfl))) (by decide) (backOf (W := 0) (rmAt1 l Z a0 hw [] b11 b4 (0 : Int32) k4 (1 : Int32) [(.int (nar .byte (p3.toInt8.toInt32)))] (nar .byte (p3.toInt8.toInt32)) h17 n0 (Nat.le_trans Z0 kp29.1) f19 f20 f22 (by decide) ⟨by decide, by decide⟩ rfl) hZ (hw _ (List.mem_of_getElem? (i := 16) rfl)) (hw _ (List.mem_of_getElem? (i := 3) rfl)) (by decide) (by decide)) q30a q30c (g := (mkF m 128 #[.val (.int p1), .val (.int p2), .val (.int p3), .val (.int p4), .val (.int p5), .val (.int (1 : Int32)), .val (.int (0 : Int32)), .val (.ref b4), .val (.ref b11), .val (.int v25), .unset, .unset] [(.ref b11)])) rfl (by rw [hml]; rfl) (Steps.refl _) (argsL := []) (rest := []) (lenOf pd___Z rfl) rfl (by show 2 * 0 + _ ≤ _; exact Nat.le_of_eq rfl) (hb hby at_128) (fun _ _ => ⟨rfl, e17, (by decide : 2 + 0 ≤ _), (by decide : 3 + 0 ≤ _)⟩)
  dsimp only [Pt.U, Pt.locs, Pt.cells, Pt.slots] at X30' l30 y30 z30 st30 hQ30
  subst l30 y30 z30
  obtain ⟨rfl, N30q, e30⟩ := hQ30
  obtain ⟨lc30, X30, N30⟩ : ∃ lc, Stand p l e room_1 s m #[(.int p1), (.int p2), (.int p3), (.int p4), (.int p5)] below meth c T30 lc 2 3 ∧ Fr n0 lc := ⟨_, X30', Fr.app N17 N30q⟩
  have K31 : Gx p e below s₁ f0 T30 (mkF m 131 #[.val (.int p1), .val (.int p2), .val (.int p3), .val (.int p4), .val (.int p5), .val (.int (1 : Int32)), .val (.int (0 : Int32)), .val (.ref b4), .val (.ref b11), .val (.int v25), .unset, .unset] [(.int (if (nar .byte (p3.toInt8.toInt32)) = (0 : Int32) then (1 : Int32) else (0 : Int32)))]) := fun t kt => K28 t (st30.trans kt)
  have K32 : Gx p e below s₁ f0 T30 (mkF m 135 #[.val (.int p1), .val (.int p2), .val (.int p3), .val (.int p4), .val (.int p5), .val (.int (1 : Int32)), .val (.int (0 : Int32)), .val (.ref b4), .val (.ref b11), .val (.int v25), .val (.int (if (nar .byte (p3.toInt8.toInt32)) = (0 : Int32) then (1 : Int32) else (0 : Int32))), .unset] [(.ref b11)]) := fun t kt => K31 t (by
    show Steps p.tables e below (T30.setTop (mkF m 131 #[.val (.int p1), .val (.int p2), .val (.int p3), .val (.int p4), .val (.int p5), .val (.int (1 : Int32)), .val (.int (0 : Int32)), .val (.ref b4), .val (.ref b11), .val (.int v25), .unset, .unset] [(.int (if (nar .byte (p3.toInt8.toInt32)) = (0 : Int32) then (1 : Int32) else (0 : Int32)))])) _
    refine XS.istore X30.here hx rfl (hb hby at_131) rfl (l' := #[.val (.int p1), .val (.int p2), .val (.int p3), .val (.int p4), .val (.int p5), .val (.int (1 : Int32)), .val (.int (0 : Int32)), .val (.ref b4), .val (.ref b11), .val (.int v25), .val (.int (if (nar .byte (p3.toInt8.toInt32)) = (0 : Int32) then (1 : Int32) else (0 : Int32))), .unset]) rfl ?_
    show Steps p.tables e below (T30.setTop (mkF m 133 #[.val (.int p1), .val (.int p2), .val (.int p3), .val (.int p4), .val (.int p5), .val (.int (1 : Int32)), .val (.int (0 : Int32)), .val (.ref b4), .val (.ref b11), .val (.int v25), .val (.int (if (nar .byte (p3.toInt8.toInt32)) = (0 : Int32) then (1 : Int32) else (0 : Int32))), .unset] [])) _
    refine XS.aload X30.here hx rfl (hb hby at_133) rfl rfl ?_
    exact kt)
  obtain ⟨cq33, kq33, q33a, q33b, q33c⟩ := isOf hZ e30 f18
  obtain ⟨_, _, ⟨T33, L33, k33, n33⟩, -, X33', ⟨Lc33, hQ33, l33, y33, z33⟩, st33⟩ := X30.virtualBack hx (y := (⟨"com/example/looseleaf/looseleaf/pgwire/MessageBody", "atNul", "()Z"⟩ : MethodName)) (z := (⟨"com/example/looseleaf/looseleaf/pgwire/MessageBody", "atNul", "()Z"⟩ : MethodName)) hown (mvT hZ (hw _ (List.mem_of_getElem? (i := 12) rfl))) (mvT hZ (hw _ (List.mem_of_getElem? (i := 13) rfl))) (notFace_of_selects (args := #[]) (mvT hZ (hw _ (List.mem_of_getElem? (i := 15) rfl)))) (mvT hZ (hw _ (List.mem_of_getElem? (i := 15) rfl))) (mvT hZ (hw _ (List.mem_of_getElem? (i := 14) rfl))) (by decide) (backOf (W := 0) (rmAt1 l Z a0 hw [] b11 b4 (0 : Int32) k4 (1 : Int32) [(.int (nar .byte (p3.toInt8.toInt32)))] (nar .byte (p3.toInt8.toInt32)) h17 n0 (Nat.le_trans Z0 kp29.1) f19 f20 f22 (by decide) ⟨by decide, by decide⟩ rfl) hZ (hw _ (List.mem_of_getElem? (i := 16) rfl)) (hw _ (List.mem_of_getElem? (i := 3) rfl)) (by decide) (by decide)) q33a q33c (g := (mkF m 135 #[.val (.int p1), .val (.int p2), .val (.int p3), .val (.int p4), .val (.int p5), .val (.int (1 : Int32)), .val (.int (0 : Int32)), .val (.ref b4), .val (.ref b11), .val (.int v25), .val (.int (if (nar .byte (p3.toInt8.toInt32)) = (0 : Int32) then (1 : Int32) else (0 : Int32))), .unset] [(.ref b11)])) rfl (by rw [hml]; rfl) (Steps.refl _) (argsL := []) (rest := []) (lenOf pd___Z rfl) rfl (by show 2 * 0 + _ ≤ _; exact Nat.le_of_eq rfl) (hb hby at_135) (fun _ _ => ⟨rfl, e30, (by decide : 2 + 0 ≤ _), (by decide : 3 + 0 ≤ _)⟩)
  dsimp only [Pt.U, Pt.locs, Pt.cells, Pt.slots] at X33' l33 y33 z33 st33 hQ33
  subst l33 y33 z33
  obtain ⟨rfl, N33q, e33⟩ := hQ33
  obtain ⟨lc33, X33, N33⟩ : ∃ lc, Stand p l e room_1 s m #[(.int p1), (.int p2), (.int p3), (.int p4), (.int p5)] below meth c T33 lc 2 3 ∧ Fr n0 lc := ⟨_, X33', Fr.app N30 N33q⟩
  have K34 : Gx p e below s₁ f0 T33 (mkF m 138 #[.val (.int p1), .val (.int p2), .val (.int p3), .val (.int p4), .val (.int p5), .val (.int (1 : Int32)), .val (.int (0 : Int32)), .val (.ref b4), .val (.ref b11), .val (.int v25), .val (.int (if (nar .byte (p3.toInt8.toInt32)) = (0 : Int32) then (1 : Int32) else (0 : Int32))), .unset] [(.int (if (nar .byte (p3.toInt8.toInt32)) = (0 : Int32) then (1 : Int32) else (0 : Int32)))]) := fun t kt => K32 t (st33.trans kt)
  have K35 : Gx p e below s₁ f0 T33 (mkF m 165 #[.val (.int p1), .val (.int p2), .val (.int p3), .val (.int p4), .val (.int p5), .val (.int (1 : Int32)), .val (.int (0 : Int32)), .val (.ref b4), .val (.ref b11), .val (.int v25), .val (.int (if (nar .byte (p3.toInt8.toInt32)) = (0 : Int32) then (1 : Int32) else (0 : Int32))), .val (.int (if (nar .byte (p3.toInt8.toInt32)) = (0 : Int32) then (1 : Int32) else (0 : Int32)))] [(.ref b11)]) := fun t kt => K34 t (by
    show Steps p.tables e below (T33.setTop (mkF m 138 #[.val (.int p1), .val (.int p2), .val (.int p3), .val (.int p4), .val (.int p5), .val (.int (1 : Int32)), .val (.int (0 : Int32)), .val (.ref b4), .val (.ref b11), .val (.int v25), .val (.int (if (nar .byte (p3.toInt8.toInt32)) = (0 : Int32) then (1 : Int32) else (0 : Int32))), .unset] [(.int (if (nar .byte (p3.toInt8.toInt32)) = (0 : Int32) then (1 : Int32) else (0 : Int32)))])) _
    refine XS.istore X33.here hx rfl (hb hby at_138) rfl (l' := #[.val (.int p1), .val (.int p2), .val (.int p3), .val (.int p4), .val (.int p5), .val (.int (1 : Int32)), .val (.int (0 : Int32)), .val (.ref b4), .val (.ref b11), .val (.int v25), .val (.int (if (nar .byte (p3.toInt8.toInt32)) = (0 : Int32) then (1 : Int32) else (0 : Int32))), .val (.int (if (nar .byte (p3.toInt8.toInt32)) = (0 : Int32) then (1 : Int32) else (0 : Int32)))]) rfl ?_
    show Steps p.tables e below (T33.setTop (mkF m 140 #[.val (.int p1), .val (.int p2), .val (.int p3), .val (.int p4), .val (.int p5), .val (.int (1 : Int32)), .val (.int (0 : Int32)), .val (.ref b4), .val (.ref b11), .val (.int v25), .val (.int (if (nar .byte (p3.toInt8.toInt32)) = (0 : Int32) then (1 : Int32) else (0 : Int32))), .val (.int (if (nar .byte (p3.toInt8.toInt32)) = (0 : Int32) then (1 : Int32) else (0 : Int32)))] [])) _
    refine XS.iload X33.here hx rfl (hb hby at_140) rfl ?_
    show Steps p.tables e below (T33.setTop (mkF m 142 #[.val (.int p1), .val (.int p2), .val (.int p3), .val (.int p4), .val (.int p5), .val (.int (1 : Int32)), .val (.int (0 : Int32)), .val (.ref b4), .val (.ref b11), .val (.int v25), .val (.int (if (nar .byte (p3.toInt8.toInt32)) = (0 : Int32) then (1 : Int32) else (0 : Int32))), .val (.int (if (nar .byte (p3.toInt8.toInt32)) = (0 : Int32) then (1 : Int32) else (0 : Int32)))] [(.int (if (nar .byte (p3.toInt8.toInt32)) = (0 : Int32) then (1 : Int32) else (0 : Int32)))])) _
    refine XS.iload X33.here hx rfl (hb hby at_142) rfl ?_
    show Steps p.tables e below (T33.setTop (mkF m 144 #[.val (.int p1), .val (.int p2), .val (.int p3), .val (.int p4), .val (.int p5), .val (.int (1 : Int32)), .val (.int (0 : Int32)), .val (.ref b4), .val (.ref b11), .val (.int v25), .val (.int (if (nar .byte (p3.toInt8.toInt32)) = (0 : Int32) then (1 : Int32) else (0 : Int32))), .val (.int (if (nar .byte (p3.toInt8.toInt32)) = (0 : Int32) then (1 : Int32) else (0 : Int32)))] [(.int v25), (.int (if (nar .byte (p3.toInt8.toInt32)) = (0 : Int32) then (1 : Int32) else (0 : Int32)))])) _
    refine XS.icmpNo X33.here hx rfl (hb hby at_144) rfl (teq (by rw [hv25])).2 ?_
    show Steps p.tables e below (T33.setTop (mkF m 147 #[.val (.int p1), .val (.int p2), .val (.int p3), .val (.int p4), .val (.int p5), .val (.int (1 : Int32)), .val (.int (0 : Int32)), .val (.ref b4), .val (.ref b11), .val (.int v25), .val (.int (if (nar .byte (p3.toInt8.toInt32)) = (0 : Int32) then (1 : Int32) else (0 : Int32))), .val (.int (if (nar .byte (p3.toInt8.toInt32)) = (0 : Int32) then (1 : Int32) else (0 : Int32)))] [])) _
    refine XS.iload X33.here hx rfl (hb hby at_147) rfl ?_
    show Steps p.tables e below (T33.setTop (mkF m 149 #[.val (.int p1), .val (.int p2), .val (.int p3), .val (.int p4), .val (.int p5), .val (.int (1 : Int32)), .val (.int (0 : Int32)), .val (.ref b4), .val (.ref b11), .val (.int v25), .val (.int (if (nar .byte (p3.toInt8.toInt32)) = (0 : Int32) then (1 : Int32) else (0 : Int32))), .val (.int (if (nar .byte (p3.toInt8.toInt32)) = (0 : Int32) then (1 : Int32) else (0 : Int32)))] [(.int (if (nar .byte (p3.toInt8.toInt32)) = (0 : Int32) then (1 : Int32) else (0 : Int32)))])) _
    refine XS.iload X33.here hx rfl (hb hby at_149) rfl ?_
    show Steps p.tables e below (T33.setTop (mkF m 151 #[.val (.int p1), .val (.int p2), .val (.int p3), .val (.int p4), .val (.int p5), .val (.int (1 : Int32)), .val (.int (0 : Int32)), .val (.ref b4), .val (.ref b11), .val (.int v25), .val (.int (if (nar .byte (p3.toInt8.toInt32)) = (0 : Int32) then (1 : Int32) else (0 : Int32))), .val (.int (if (nar .byte (p3.toInt8.toInt32)) = (0 : Int32) then (1 : Int32) else (0 : Int32)))] [(.int v25), (.int (if (nar .byte (p3.toInt8.toInt32)) = (0 : Int32) then (1 : Int32) else (0 : Int32)))])) _
    refine XS.icmpYes X33.here hx rfl (pc0 := 151) (pc' := 156) rfl (hb hby at_151) rfl (teq (by rw [hv25])).1 (by decide) (by decide) ?_
    show Steps p.tables e below (T33.setTop (mkF m 156 #[.val (.int p1), .val (.int p2), .val (.int p3), .val (.int p4), .val (.int p5), .val (.int (1 : Int32)), .val (.int (0 : Int32)), .val (.ref b4), .val (.ref b11), .val (.int v25), .val (.int (if (nar .byte (p3.toInt8.toInt32)) = (0 : Int32) then (1 : Int32) else (0 : Int32))), .val (.int (if (nar .byte (p3.toInt8.toInt32)) = (0 : Int32) then (1 : Int32) else (0 : Int32)))] [])) _
    refine XS.iload X33.here hx rfl (hb hby at_156) rfl ?_
    show Steps p.tables e below (T33.setTop (mkF m 158 #[.val (.int p1), .val (.int p2), .val (.int p3), .val (.int p4), .val (.int p5), .val (.int (1 : Int32)), .val (.int (0 : Int32)), .val (.ref b4), .val (.ref b11), .val (.int v25), .val (.int (if (nar .byte (p3.toInt8.toInt32)) = (0 : Int32) then (1 : Int32) else (0 : Int32))), .val (.int (if (nar .byte (p3.toInt8.toInt32)) = (0 : Int32) then (1 : Int32) else (0 : Int32)))] [(.int (0 : Int32))])) _
    refine XS.iload X33.here hx rfl (hb hby at_158) rfl ?_
    show Steps p.tables e below (T33.setTop (mkF m 160 #[.val (.int p1), .val (.int p2), .val (.int p3), .val (.int p4), .val (.int p5), .val (.int (1 : Int32)), .val (.int (0 : Int32)), .val (.ref b4), .val (.ref b11), .val (.int v25), .val (.int (if (nar .byte (p3.toInt8.toInt32)) = (0 : Int32) then (1 : Int32) else (0 : Int32))), .val (.int (if (nar .byte (p3.toInt8.toInt32)) = (0 : Int32) then (1 : Int32) else (0 : Int32)))] [(.int (1 : Int32)), (.int (0 : Int32))])) _
    refine XS.icmpNo X33.here hx rfl (hb hby at_160) rfl (tlt (by decide)).2.1 ?_
    show Steps p.tables e below (T33.setTop (mkF m 163 #[.val (.int p1), .val (.int p2), .val (.int p3), .val (.int p4), .val (.int p5), .val (.int (1 : Int32)), .val (.int (0 : Int32)), .val (.ref b4), .val (.ref b11), .val (.int v25), .val (.int (if (nar .byte (p3.toInt8.toInt32)) = (0 : Int32) then (1 : Int32) else (0 : Int32))), .val (.int (if (nar .byte (p3.toInt8.toInt32)) = (0 : Int32) then (1 : Int32) else (0 : Int32)))] [])) _
    refine XS.aload X33.here hx rfl (hb hby at_163) rfl rfl ?_
    exact kt)
  obtain ⟨cq36, kq36, q36a, q36b, q36c⟩ := isOf hZ e33 f18
  obtain ⟨_, _, ⟨T36, L36, k36, n36⟩, -, X36', ⟨Lc36, hQ36, l36, y36, z36⟩, st36⟩ := X33.virtualBack hx (y := (⟨"com/example/looseleaf/looseleaf/pgwire/MessageBody", "byte1", "()I"⟩ : MethodName)) (z := (⟨"com/example/looseleaf/looseleaf/pgwire/MessageBody", "byte1", "()I"⟩ : MethodName)) hown (mvT hZ (hw _ (List.mem_of_getElem? (i := 19) rfl))) (mvT hZ (hw _ (List.mem_of_getElem? (i := 20) rfl))) (notFace_of_selects (args := #[]) (mvT hZ (hw _ (List.mem_of_getElem? (i := 22) rfl)))) (mvT hZ (hw _ (List.mem_of_getElem? (i := 22) rfl))) (mvT hZ (hw _ (List.mem_of_getElem? (i := 21) rfl))) (by decide) (backOf (W := 0) (rmBy1 l Z a0 hw [] b11 b4 (0 : Int32) k4 (1 : Int32) [(.int (nar .byte (p3.toInt8.toInt32)))] (nar .byte (p3.toInt8.toInt32)) (1 : Int32) h17 n0 (Nat.le_trans Z0 kp29.1) f18 (Nat.le_trans Z0 (Nat.le_trans (((Keep.refl h0 []).ext E4).wr W8 (Or.inr (Nat.le_trans (Keep.refl h0 []).1 (Nat.le_of_eq g4.symm)))).1 (Nat.le_of_eq g11.symm))) f19 f20 f22 (Ne.symm (Nat.ne_of_lt (Nat.lt_of_lt_of_le V8.lt (Nat.le_of_eq g11.symm)))) (by decide) ⟨by decide, by decide⟩ rfl (by decide)) hZ (hw _ (List.mem_of_getElem? (i := 23) rfl)) (hw _ (List.mem_of_getElem? (i := 3) rfl)) (by decide) (by decide)) q36a q36c (g := (mkF m 165 #[.val (.int p1), .val (.int p2), .val (.int p3), .val (.int p4), .val (.int p5), .val (.int (1 : Int32)), .val (.int (0 : Int32)), .val (.ref b4), .val (.ref b11), .val (.int v25), .val (.int (if (nar .byte (p3.toInt8.toInt32)) = (0 : Int32) then (1 : Int32) else (0 : Int32))), .val (.int (if (nar .byte (p3.toInt8.toInt32)) = (0 : Int32) then (1 : Int32) else (0 : Int32)))] [(.ref b11)])) rfl (by rw [hml]; rfl) (Steps.refl _) (argsL := []) (rest := []) (lenOf pd___I rfl) rfl (by show 2 * 0 + _ ≤ _; exact Nat.le_of_eq rfl) (hb hby at_165) (fun _ _ => ⟨rfl, e33, (by decide : 2 + 0 ≤ _), (by decide : 3 + 0 ≤ _)⟩)
  dsimp only [Pt.U, Pt.locs, Pt.cells, Pt.slots] at X36' l36 y36 z36 st36 hQ36
  subst l36 y36 z36
  obtain ⟨h36, e36⟩ : ∃ z, T36.heap = z := ⟨_, rfl⟩
  rw [e36] at hQ36
  obtain ⟨rfl, N36q, Kc36, f37, f38, f39⟩ := hQ36
  obtain ⟨lc36, X36, N36⟩ : ∃ lc, Stand p l e room_1 s m #[(.int p1), (.int p2), (.int p3), (.int p4), (.int p5)] below meth c T36 lc 2 3 ∧ Fr n0 lc := ⟨_, X36', Fr.app N33 N36q⟩
  have K40 : Gx p e below s₁ f0 T36 (mkF m 168 #[.val (.int p1), .val (.int p2), .val (.int p3), .val (.int p4), .val (.int p5), .val (.int (1 : Int32)), .val (.int (0 : Int32)), .val (.ref b4), .val (.ref b11), .val (.int v25), .val (.int (if (nar .byte (p3.toInt8.toInt32)) = (0 : Int32) then (1 : Int32) else (0 : Int32))), .val (.int (if (nar .byte (p3.toInt8.toInt32)) = (0 : Int32) then (1 : Int32) else (0 : Int32)))] [(.int ((nar .byte (p3.toInt8.toInt32)) &&& (255 : Int32)))]) := fun t kt => K35 t (st36.trans kt)
  have f41 : Arv Z h36 b4 k4 .byte (1 : Int32) [(.int (nar .byte (p3.toInt8.toInt32)))] (.int (0 : Int32)) := (f22.keep Kc36 (ninS (Nat.ne_of_lt (Nat.lt_of_lt_of_le V8.lt (Nat.le_of_eq g11.symm))) nin0))
  obtain ⟨clq42, Arq42, ckq42, cSq42, cNq42, cHq42, cGq42⟩ := id f41
  have K43 : Gx p e below s₁ f0 T36 (mkF m 185 #[.val (.int p1), .val (.int p2), .val (.int p3), .val (.int p4), .val (.int p5), .val (.int (1 : Int32)), .val (.int (0 : Int32)), .val (.ref b4), .val (.ref b11), .val (.int v25), .val (.int (if (nar .byte (p3.toInt8.toInt32)) = (0 : Int32) then (1 : Int32) else (0 : Int32))), .val (.int (if (nar .byte (p3.toInt8.toInt32)) = (0 : Int32) then (1 : Int32) else (0 : Int32)))] [(.int (1 : Int32))]) := fun t kt => K40 t (by
    show Steps p.tables e below (T36.setTop (mkF m 168 #[.val (.int p1), .val (.int p2), .val (.int p3), .val (.int p4), .val (.int p5), .val (.int (1 : Int32)), .val (.int (0 : Int32)), .val (.ref b4), .val (.ref b11), .val (.int v25), .val (.int (if (nar .byte (p3.toInt8.toInt32)) = (0 : Int32) then (1 : Int32) else (0 : Int32))), .val (.int (if (nar .byte (p3.toInt8.toInt32)) = (0 : Int32) then (1 : Int32) else (0 : Int32)))] [(.int ((nar .byte (p3.toInt8.toInt32)) &&& (255 : Int32)))])) _
    refine XS.aload X36.here hx rfl (hb hby at_168) rfl rfl ?_
    show Steps p.tables e below (T36.setTop (mkF m 170 #[.val (.int p1), .val (.int p2), .val (.int p3), .val (.int p4), .val (.int p5), .val (.int (1 : Int32)), .val (.int (0 : Int32)), .val (.ref b4), .val (.ref b11), .val (.int v25), .val (.int (if (nar .byte (p3.toInt8.toInt32)) = (0 : Int32) then (1 : Int32) else (0 : Int32))), .val (.int (if (nar .byte (p3.toInt8.toInt32)) = (0 : Int32) then (1 : Int32) else (0 : Int32)))] [(.ref b4), (.int ((nar .byte (p3.toInt8.toInt32)) &&& (255 : Int32)))])) _
    refine XS.iload X36.here hx rfl (hb hby at_170) rfl ?_
    show Steps p.tables e below (T36.setTop (mkF m 172 #[.val (.int p1), .val (.int p2), .val (.int p3), .val (.int p4), .val (.int p5), .val (.int (1 : Int32)), .val (.int (0 : Int32)), .val (.ref b4), .val (.ref b11), .val (.int v25), .val (.int (if (nar .byte (p3.toInt8.toInt32)) = (0 : Int32) then (1 : Int32) else (0 : Int32))), .val (.int (if (nar .byte (p3.toInt8.toInt32)) = (0 : Int32) then (1 : Int32) else (0 : Int32)))] [(.int (0 : Int32)), (.ref b4), (.int ((nar .byte (p3.toInt8.toInt32)) &&& (255 : Int32)))])) _
    refine X36.baloadBytes hx (j := (0 : Int32)) (v := (.int (nar .byte (p3.toInt8.toInt32)))) (by rw [e36]; exact Arq42.1) (State.isArrayOf_alike hZ.alike Arq42.2.1) Arq42.2.2 (inb_of cSq42 ⟨by decide, by decide⟩) (Has.at cHq42 (inb_of cSq42 ⟨by decide, by decide⟩) rfl) (g := (mkF m 172 #[.val (.int p1), .val (.int p2), .val (.int p3), .val (.int p4), .val (.int p5), .val (.int (1 : Int32)), .val (.int (0 : Int32)), .val (.ref b4), .val (.ref b11), .val (.int v25), .val (.int (if (nar .byte (p3.toInt8.toInt32)) = (0 : Int32) then (1 : Int32) else (0 : Int32))), .val (.int (if (nar .byte (p3.toInt8.toInt32)) = (0 : Int32) then (1 : Int32) else (0 : Int32)))] [(.int (0 : Int32)), (.ref b4), (.int ((nar .byte (p3.toInt8.toInt32)) &&& (255 : Int32)))])) rfl rfl (hb hby at_172) _ ?_
    show Steps p.tables e below (T36.setTop (mkF m 173 #[.val (.int p1), .val (.int p2), .val (.int p3), .val (.int p4), .val (.int p5), .val (.int (1 : Int32)), .val (.int (0 : Int32)), .val (.ref b4), .val (.ref b11), .val (.int v25), .val (.int (if (nar .byte (p3.toInt8.toInt32)) = (0 : Int32) then (1 : Int32) else (0 : Int32))), .val (.int (if (nar .byte (p3.toInt8.toInt32)) = (0 : Int32) then (1 : Int32) else (0 : Int32)))] [(.int (nar .byte (p3.toInt8.toInt32))), (.int ((nar .byte (p3.toInt8.toInt32)) &&& (255 : Int32)))])) _
    refine XS.sipush X36.here hx rfl (hb hby at_173) ?_
    show Steps p.tables e below (T36.setTop (mkF m 176 #[.val (.int p1), .val (.int p2), .val (.int p3), .val (.int p4), .val (.int p5), .val (.int (1 : Int32)), .val (.int (0 : Int32)), .val (.ref b4), .val (.ref b11), .val (.int v25), .val (.int (if (nar .byte (p3.toInt8.toInt32)) = (0 : Int32) then (1 : Int32) else (0 : Int32))), .val (.int (if (nar .byte (p3.toInt8.toInt32)) = (0 : Int32) then (1 : Int32) else (0 : Int32)))] [(.int (255 : Int32)), (.int (nar .byte (p3.toInt8.toInt32))), (.int ((nar .byte (p3.toInt8.toInt32)) &&& (255 : Int32)))])) _
    refine XS.iand X36.here hx rfl (hb hby at_176) rfl ?_
    show Steps p.tables e below (T36.setTop (mkF m 177 #[.val (.int p1), .val (.int p2), .val (.int p3), .val (.int p4), .val (.int p5), .val (.int (1 : Int32)), .val (.int (0 : Int32)), .val (.ref b4), .val (.ref b11), .val (.int v25), .val (.int (if (nar .byte (p3.toInt8.toInt32)) = (0 : Int32) then (1 : Int32) else (0 : Int32))), .val (.int (if (nar .byte (p3.toInt8.toInt32)) = (0 : Int32) then (1 : Int32) else (0 : Int32)))] [(.int ((nar .byte (p3.toInt8.toInt32)) &&& (255 : Int32))), (.int ((nar .byte (p3.toInt8.toInt32)) &&& (255 : Int32)))])) _
    refine XS.icmpNo X36.here hx rfl (hb hby at_177) rfl (teq rfl).2 ?_
    show Steps p.tables e below (T36.setTop (mkF m 180 #[.val (.int p1), .val (.int p2), .val (.int p3), .val (.int p4), .val (.int p5), .val (.int (1 : Int32)), .val (.int (0 : Int32)), .val (.ref b4), .val (.ref b11), .val (.int v25), .val (.int (if (nar .byte (p3.toInt8.toInt32)) = (0 : Int32) then (1 : Int32) else (0 : Int32))), .val (.int (if (nar .byte (p3.toInt8.toInt32)) = (0 : Int32) then (1 : Int32) else (0 : Int32)))] [])) _
    refine XS.iconst X36.here hx rfl (hb hby at_180) ?_
    show Steps p.tables e below (T36.setTop (mkF m 181 #[.val (.int p1), .val (.int p2), .val (.int p3), .val (.int p4), .val (.int p5), .val (.int (1 : Int32)), .val (.int (0 : Int32)), .val (.ref b4), .val (.ref b11), .val (.int v25), .val (.int (if (nar .byte (p3.toInt8.toInt32)) = (0 : Int32) then (1 : Int32) else (0 : Int32))), .val (.int (if (nar .byte (p3.toInt8.toInt32)) = (0 : Int32) then (1 : Int32) else (0 : Int32)))] [(.int (1 : Int32))])) _
    refine XS.goto X36.here hx rfl (pc0 := 181) (pc' := 185) rfl (hb hby at_181) (by decide) (by decide) ?_
    exact kt)
  obtain ⟨fs44, hr44, hrun44, hended44, hW44, hsame44⟩ := X36.leave (v := some (.int (1 : Int32))) (fun h => by rw [Bd.returns] at h; cases h)
  refine ⟨_, _, pre0 _ (K43 _ ?_), hrun44, hended44, _, _, rfl, ?_, ⟨_, rfl⟩, hW44, hsame44.mono (by decide) (by decide)⟩
  · exact retN X36 hx (t := .boolean) Bd.returns (by simp) (hb hby at_185) hr44
  · show Q0 Z p1 p2 p3 p4 p5 h0 n0 _ T36.heap _
    rw [e36]
    exact ⟨rfl, N36⟩
theorem ef_0_11 (m : MethodId) (p1 : Int32) (p2 : Int32) (p3 : Int32) (p4 : Int32) (p5 : Int32) : entryFrame m #[(.int p1), (.int p2), (.int p3), (.int p4), (.int p5)] maxLocals = mkF m 0 #[.val (.int p1), .val (.int p2), .val (.int p3), .val (.int p4), .val (.int p5), .unset, .unset, .unset, .unset, .unset, .unset, .unset] [] := by first | (simp [entryFrame, mkF, argsToLocals, Value.category, maxLocals]; done) | rfl
set_option maxRecDepth 65536 in
set_option maxHeartbeats 40000000 in
theorem rm0_11 (l : Launch) (Z : State) (a0 : Array Value) (hw : ∀ d ∈ tables_1, d.before a0 Z = true) (ws : List Jvm.Cond) (p1 : Int32) (p2 : Int32) (p3 : Int32) (p4 : Int32) (p5 : Int32) (h0 : Heap) (n0 : Nat) (Z0 : n0 ≤ h0.size) (hn_ : (p1 &&& (3 : Int32)) = (1 : Int32)) (hk_ : ((p2 &&& (3 : Int32)) % (2 : Int32)) = (1 : Int32)) :
    MetFree l x (head1 (Jvm.Cond.code x code maxLocals ret :: ws) room_1) (fun a U => a = #[(.int p1), (.int p2), (.int p3), (.int p4), (.int p5)] ∧ Z.Warmed39 U.vm ∧ U.heap = h0) (fun _ _ _ _ _ => True) (fun _ U o U' => ∃ v L, o = .returned v ∧ Q0 Z p1 p2 p3 p4 p5 h0 n0 v U'.heap L ∧ FrameEnd U o U' L room_1.cells room_1.slots) := by
  refine MetFree.of_bodySF (plainFor_of_name pn_0) hisR ?_
  intro p e s m args below meth c s₁ Bd hml0 hP hK
  obtain ⟨rfl, hZ, hh⟩ := hP
  have hx := Bd.exec
  have hby := Bd.bytes
  have hml : c.maxLocals = 12 := hml0
  have hown : s.vm.findClass "com/example/looseleaf/looseleaf/pgwire/MessageBodyAtNulPinLaw" = some m.cls := findClass_of_methodNamed Bd.named
  have hnm := (name_of_methodNamed Bd.named Bd.method).1
  have X0 : Stand p l e room_1 s m #[(.int p1), (.int p2), (.int p3), (.int p4), (.int p5)] below meth c s₁ [] 0 0 := Stand.of_body Bd
  have hs0 : h0 = s.heap := hh.symm
  have e0 : s₁.heap = h0 := by rw [← hh, Bd.state]; rfl
  have N0 := Fr.nil n0
  obtain ⟨f0, hf0⟩ : ∃ f, f = entryFrame m #[(.int p1), (.int p2), (.int p3), (.int p4), (.int p5)] maxLocals := ⟨_, rfl⟩
  have pre0 : ∀ t, Steps p.tables e below (s₁.setTop f0) t → Steps p.tables e below (s₁.setTop (entryFrame m #[(.int p1), (.int p2), (.int p3), (.int p4), (.int p5)] maxLocals)) t := fun t k => hf0 ▸ k
  have K0 : Gx p e below s₁ f0 s₁ (mkF m 0 #[.val (.int p1), .val (.int p2), .val (.int p3), .val (.int p4), .val (.int p5), .unset, .unset, .unset, .unset, .unset, .unset, .unset] []) := fun t kt => by rw [hf0]; exact castTop (ef_0_11 m p1 p2 p3 p4 p5) kt
  have K1 : Gx p e below s₁ f0 s₁ (mkF m 5 #[.val (.int p1), .val (.int p2), .val (.int p3), .val (.int p4), .val (.int p5), .val (.int (p1 &&& (3 : Int32))), .unset, .unset, .unset, .unset, .unset, .unset] []) := fun t kt => K0 t (by
    show Steps p.tables e below (s₁.setTop (mkF m 0 #[.val (.int p1), .val (.int p2), .val (.int p3), .val (.int p4), .val (.int p5), .unset, .unset, .unset, .unset, .unset, .unset, .unset] [])) _
    refine XS.iloadN X0.here hx rfl (hb hby at_0) rfl ?_
    show Steps p.tables e below (s₁.setTop (mkF m 1 #[.val (.int p1), .val (.int p2), .val (.int p3), .val (.int p4), .val (.int p5), .unset, .unset, .unset, .unset, .unset, .unset, .unset] [(.int p1)])) _
    refine XS.iconst X0.here hx rfl (hb hby at_1) ?_
    show Steps p.tables e below (s₁.setTop (mkF m 2 #[.val (.int p1), .val (.int p2), .val (.int p3), .val (.int p4), .val (.int p5), .unset, .unset, .unset, .unset, .unset, .unset, .unset] [(.int (3 : Int32)), (.int p1)])) _
    refine XS.iand X0.here hx rfl (hb hby at_2) rfl ?_
    show Steps p.tables e below (s₁.setTop (mkF m 3 #[.val (.int p1), .val (.int p2), .val (.int p3), .val (.int p4), .val (.int p5), .unset, .unset, .unset, .unset, .unset, .unset, .unset] [(.int (p1 &&& (3 : Int32)))])) _
    refine XS.istore X0.here hx rfl (hb hby at_3) rfl (l' := #[.val (.int p1), .val (.int p2), .val (.int p3), .val (.int p4), .val (.int p5), .val (.int (p1 &&& (3 : Int32))), .unset, .unset, .unset, .unset, .unset, .unset]) rfl ?_
    exact kt)
  rw [hn_] at K1
  have K2 : Gx p e below s₁ f0 s₁ (mkF m 15 #[.val (.int p1), .val (.int p2), .val (.int p3), .val (.int p4), .val (.int p5), .val (.int (1 : Int32)), .val (.int ((p2 &&& (3 : Int32)) % (2 : Int32))), .unset, .unset, .unset, .unset, .unset] []) := fun t kt => K1 t (by
    show Steps p.tables e below (s₁.setTop (mkF m 5 #[.val (.int p1), .val (.int p2), .val (.int p3), .val (.int p4), .val (.int p5), .val (.int (1 : Int32)), .unset, .unset, .unset, .unset, .unset, .unset] [])) _
    refine XS.iloadN X0.here hx rfl (hb hby at_5) rfl ?_
    show Steps p.tables e below (s₁.setTop (mkF m 6 #[.val (.int p1), .val (.int p2), .val (.int p3), .val (.int p4), .val (.int p5), .val (.int (1 : Int32)), .unset, .unset, .unset, .unset, .unset, .unset] [(.int p2)])) _
    refine XS.iconst X0.here hx rfl (hb hby at_6) ?_
    show Steps p.tables e below (s₁.setTop (mkF m 7 #[.val (.int p1), .val (.int p2), .val (.int p3), .val (.int p4), .val (.int p5), .val (.int (1 : Int32)), .unset, .unset, .unset, .unset, .unset, .unset] [(.int (3 : Int32)), (.int p2)])) _
    refine XS.iand X0.here hx rfl (hb hby at_7) rfl ?_
    show Steps p.tables e below (s₁.setTop (mkF m 8 #[.val (.int p1), .val (.int p2), .val (.int p3), .val (.int p4), .val (.int p5), .val (.int (1 : Int32)), .unset, .unset, .unset, .unset, .unset, .unset] [(.int (p2 &&& (3 : Int32)))])) _
    refine XS.iload X0.here hx rfl (hb hby at_8) rfl ?_
    show Steps p.tables e below (s₁.setTop (mkF m 10 #[.val (.int p1), .val (.int p2), .val (.int p3), .val (.int p4), .val (.int p5), .val (.int (1 : Int32)), .unset, .unset, .unset, .unset, .unset, .unset] [(.int (1 : Int32)), (.int (p2 &&& (3 : Int32)))])) _
    refine XS.iconst X0.here hx rfl (hb hby at_10) ?_
    show Steps p.tables e below (s₁.setTop (mkF m 11 #[.val (.int p1), .val (.int p2), .val (.int p3), .val (.int p4), .val (.int p5), .val (.int (1 : Int32)), .unset, .unset, .unset, .unset, .unset, .unset] [(.int (1 : Int32)), (.int (1 : Int32)), (.int (p2 &&& (3 : Int32)))])) _
    refine XS.iadd X0.here hx rfl (hb hby at_11) rfl ?_
    show Steps p.tables e below (s₁.setTop (mkF m 12 #[.val (.int p1), .val (.int p2), .val (.int p3), .val (.int p4), .val (.int p5), .val (.int (1 : Int32)), .unset, .unset, .unset, .unset, .unset, .unset] [(.int (2 : Int32)), (.int (p2 &&& (3 : Int32)))])) _
    refine iremM X0 hx rfl (hb hby at_12) rfl (by decide) ?_
    show Steps p.tables e below (s₁.setTop (mkF m 13 #[.val (.int p1), .val (.int p2), .val (.int p3), .val (.int p4), .val (.int p5), .val (.int (1 : Int32)), .unset, .unset, .unset, .unset, .unset, .unset] [(.int ((p2 &&& (3 : Int32)) % (2 : Int32)))])) _
    refine XS.istore X0.here hx rfl (hb hby at_13) rfl (l' := #[.val (.int p1), .val (.int p2), .val (.int p3), .val (.int p4), .val (.int p5), .val (.int (1 : Int32)), .val (.int ((p2 &&& (3 : Int32)) % (2 : Int32))), .unset, .unset, .unset, .unset, .unset]) rfl ?_
    exact kt)
  rw [hk_] at K2
  have K3 : Gx p e below s₁ f0 s₁ (mkF m 17 #[.val (.int p1), .val (.int p2), .val (.int p3), .val (.int p4), .val (.int p5), .val (.int (1 : Int32)), .val (.int (1 : Int32)), .unset, .unset, .unset, .unset, .unset] [(.int (1 : Int32))]) := fun t kt => K2 t (by
    show Steps p.tables e below (s₁.setTop (mkF m 15 #[.val (.int p1), .val (.int p2), .val (.int p3), .val (.int p4), .val (.int p5), .val (.int (1 : Int32)), .val (.int (1 : Int32)), .unset, .unset, .unset, .unset, .unset] [])) _
    refine XS.iload X0.here hx rfl (hb hby at_15) rfl ?_
    exact kt)
  obtain ⟨T4, h4, k4, X4, e4, E4, A4, st4⟩ := newP X0 hx hZ (hw _ (List.mem_of_getElem? (i := 0) rfl)) e0 (g := (mkF m 17 #[.val (.int p1), .val (.int p2), .val (.int p3), .val (.int p4), .val (.int p5), .val (.int (1 : Int32)), .val (.int (1 : Int32)), .unset, .unset, .unset, .unset, .unset] [(.int (1 : Int32))])) rfl (hb hby at_17) rfl (by decide) (cap := 1) (by decide) (by decide) (by decide) (by decide)
  obtain ⟨b4, g4⟩ : ∃ z, z = h0.size := ⟨_, rfl⟩
  rw [← g4] at A4 st4
  have V4 : Arv Z h4 b4 k4 .byte (1 : Int32) [(.int (0 : Int32))] (.int (0 : Int32)) := (Arv.new A4 (by decide)).pad (pad_rep [] (.int (0 : Int32)) 1)
  have K5 : Gx p e below s₁ f0 T4 (mkF m 19 #[.val (.int p1), .val (.int p2), .val (.int p3), .val (.int p4), .val (.int p5), .val (.int (1 : Int32)), .val (.int (1 : Int32)), .unset, .unset, .unset, .unset, .unset] [(.ref b4)]) := fun t kt => K3 t (st4 t kt)
  have K6 : Gx p e below s₁ f0 T4 (mkF m 31 #[.val (.int p1), .val (.int p2), .val (.int p3), .val (.int p4), .val (.int p5), .val (.int (1 : Int32)), .val (.int (1 : Int32)), .val (.ref b4), .unset, .unset, .unset, .unset] [(.int (p3.toInt8.toInt32)), (.int (0 : Int32)), (.ref b4)]) := fun t kt => K5 t (by
    show Steps p.tables e below (T4.setTop (mkF m 19 #[.val (.int p1), .val (.int p2), .val (.int p3), .val (.int p4), .val (.int p5), .val (.int (1 : Int32)), .val (.int (1 : Int32)), .unset, .unset, .unset, .unset, .unset] [(.ref b4)])) _
    refine XS.astore X4.here hx rfl (hb hby at_19) rfl rfl (l' := #[.val (.int p1), .val (.int p2), .val (.int p3), .val (.int p4), .val (.int p5), .val (.int (1 : Int32)), .val (.int (1 : Int32)), .val (.ref b4), .unset, .unset, .unset, .unset]) rfl ?_
    show Steps p.tables e below (T4.setTop (mkF m 21 #[.val (.int p1), .val (.int p2), .val (.int p3), .val (.int p4), .val (.int p5), .val (.int (1 : Int32)), .val (.int (1 : Int32)), .val (.ref b4), .unset, .unset, .unset, .unset] [])) _
    refine XS.iload X4.here hx rfl (hb hby at_21) rfl ?_
    show Steps p.tables e below (T4.setTop (mkF m 23 #[.val (.int p1), .val (.int p2), .val (.int p3), .val (.int p4), .val (.int p5), .val (.int (1 : Int32)), .val (.int (1 : Int32)), .val (.ref b4), .unset, .unset, .unset, .unset] [(.int (1 : Int32))])) _
    refine XS.ifNo X4.here hx rfl (hb hby at_23) rfl ((if0 _ _).trans (tlt (by decide)).2.2.2) ?_
    show Steps p.tables e below (T4.setTop (mkF m 26 #[.val (.int p1), .val (.int p2), .val (.int p3), .val (.int p4), .val (.int p5), .val (.int (1 : Int32)), .val (.int (1 : Int32)), .val (.ref b4), .unset, .unset, .unset, .unset] [])) _
    refine XS.aload X4.here hx rfl (hb hby at_26) rfl rfl ?_
    show Steps p.tables e below (T4.setTop (mkF m 28 #[.val (.int p1), .val (.int p2), .val (.int p3), .val (.int p4), .val (.int p5), .val (.int (1 : Int32)), .val (.int (1 : Int32)), .val (.ref b4), .unset, .unset, .unset, .unset] [(.ref b4)])) _
    refine XS.iconst X4.here hx rfl (hb hby at_28) ?_
    show Steps p.tables e below (T4.setTop (mkF m 29 #[.val (.int p1), .val (.int p2), .val (.int p3), .val (.int p4), .val (.int p5), .val (.int (1 : Int32)), .val (.int (1 : Int32)), .val (.ref b4), .unset, .unset, .unset, .unset] [(.int (0 : Int32)), (.ref b4)])) _
    refine XS.iloadN X4.here hx rfl (hb hby at_29) rfl ?_
    show Steps p.tables e below (T4.setTop (mkF m 30 #[.val (.int p1), .val (.int p2), .val (.int p3), .val (.int p4), .val (.int p5), .val (.int (1 : Int32)), .val (.int (1 : Int32)), .val (.ref b4), .unset, .unset, .unset, .unset] [(.int p3), (.int (0 : Int32)), (.ref b4)])) _
    refine XS.i2b X4.here hx rfl (hb hby at_30) rfl ?_
    exact kt)
  obtain ⟨clq7, Arq7, ckq7, cSq7, cNq7, cHq7, cGq7⟩ := id V4
  obtain ⟨T8, h8, X8', e8, W8, st8⟩ := stB X4 hx hZ e4 Arq7 (j := (0 : Int32)) (inb_of cSq7 ⟨by decide, by decide⟩) (g := (mkF m 31 #[.val (.int p1), .val (.int p2), .val (.int p3), .val (.int p4), .val (.int p5), .val (.int (1 : Int32)), .val (.int (1 : Int32)), .val (.ref b4), .unset, .unset, .unset, .unset] [(.int (p3.toInt8.toInt32)), (.int (0 : Int32)), (.ref b4)])) rfl rfl (hb hby at_31)
  obtain ⟨lc8, X8, N8⟩ : ∃ lc, Stand p l e room_1 s m #[(.int p1), (.int p2), (.int p3), (.int p4), (.int p5)] below meth c T8 lc 1 1 ∧ Fr n0 lc := ⟨_, X8', Fr.snoc X8' N0 (Nat.le_trans Z0 (Nat.le_trans (Keep.refl h0 []).1 (Nat.le_of_eq g4.symm)))⟩
  have V8 : Arv Z h8 b4 k4 .byte (1 : Int32) [(.int (nar .byte (p3.toInt8.toInt32)))] (.int (0 : Int32)) := Arv.set Arq7 ckq7 cSq7 cNq7 cHq7 cGq7 (fits_nar_byte _) W8 0 rfl (Nat.le_of_ble_eq_true rfl)
  have K9 : Gx p e below s₁ f0 T8 (mkF m 32 #[.val (.int p1), .val (.int p2), .val (.int p3), .val (.int p4), .val (.int p5), .val (.int (1 : Int32)), .val (.int (1 : Int32)), .val (.ref b4), .unset, .unset, .unset, .unset] []) := fun t kt => K6 t (st8 t kt)
  have K10 : Gx p e below s₁ f0 T8 (mkF m 57 #[.val (.int p1), .val (.int p2), .val (.int p3), .val (.int p4), .val (.int p5), .val (.int (1 : Int32)), .val (.int (1 : Int32)), .val (.ref b4), .unset, .unset, .unset, .unset] []) := fun t kt => K9 t (by
    show Steps p.tables e below (T8.setTop (mkF m 32 #[.val (.int p1), .val (.int p2), .val (.int p3), .val (.int p4), .val (.int p5), .val (.int (1 : Int32)), .val (.int (1 : Int32)), .val (.ref b4), .unset, .unset, .unset, .unset] [])) _
    refine XS.iload X8.here hx rfl (hb hby at_32) rfl ?_
    show Steps p.tables e below (T8.setTop (mkF m 34 #[.val (.int p1), .val (.int p2), .val (.int p3), .val (.int p4), .val (.int p5), .val (.int (1 : Int32)), .val (.int (1 : Int32)), .val (.ref b4), .unset, .unset, .unset, .unset] [(.int (1 : Int32))])) _
    refine XS.iconst X8.here hx rfl (hb hby at_34) ?_
    show Steps p.tables e below (T8.setTop (mkF m 35 #[.val (.int p1), .val (.int p2), .val (.int p3), .val (.int p4), .val (.int p5), .val (.int (1 : Int32)), .val (.int (1 : Int32)), .val (.ref b4), .unset, .unset, .unset, .unset] [(.int (1 : Int32)), (.int (1 : Int32))])) _
    refine XS.icmpYes X8.here hx rfl (pc0 := 35) (pc' := 44) rfl (hb hby at_35) rfl (flt (by decide)).2.2.2 (by decide) (by decide) ?_
    show Steps p.tables e below (T8.setTop (mkF m 44 #[.val (.int p1), .val (.int p2), .val (.int p3), .val (.int p4), .val (.int p5), .val (.int (1 : Int32)), .val (.int (1 : Int32)), .val (.ref b4), .unset, .unset, .unset, .unset] [])) _
    refine XS.iload X8.here hx rfl (hb hby at_44) rfl ?_
    show Steps p.tables e below (T8.setTop (mkF m 46 #[.val (.int p1), .val (.int p2), .val (.int p3), .val (.int p4), .val (.int p5), .val (.int (1 : Int32)), .val (.int (1 : Int32)), .val (.ref b4), .unset, .unset, .unset, .unset] [(.int (1 : Int32))])) _
    refine XS.iconst X8.here hx rfl (hb hby at_46) ?_
    show Steps p.tables e below (T8.setTop (mkF m 47 #[.val (.int p1), .val (.int p2), .val (.int p3), .val (.int p4), .val (.int p5), .val (.int (1 : Int32)), .val (.int (1 : Int32)), .val (.ref b4), .unset, .unset, .unset, .unset] [(.int (2 : Int32)), (.int (1 : Int32))])) _
    refine XS.icmpYes X8.here hx rfl (pc0 := 47) (pc' := 57) rfl (hb hby at_47) rfl (flt (by decide)).2.2.2 (by decide) (by decide) ?_
    exact kt)
  obtain ⟨T11, h11, X11, e11, E11, A11, D11, -, st11⟩ := newO X8 hx hZ hown (hw _ (List.mem_of_getElem? (i := 1) rfl)) (hw _ (List.mem_of_getElem? (i := 2) rfl)) (hw _ (List.mem_of_getElem? (i := 3) rfl)) e8 (g := (mkF m 57 #[.val (.int p1), .val (.int p2), .val (.int p3), .val (.int p4), .val (.int p5), .val (.int (1 : Int32)), .val (.int (1 : Int32)), .val (.ref b4), .unset, .unset, .unset, .unset] [])) rfl (hb hby at_57) (by decide) (by decide)
  obtain ⟨b11, g11⟩ : ∃ z, z = h8.size := ⟨_, rfl⟩
  rw [← g11] at A11 D11 st11
  have f12 : Fld Z h11 b11 "com/example/looseleaf/looseleaf/pgwire/MessageBody" "bytes" "[B" .null := D11 (Or.inr (hw _ (List.mem_of_getElem? (i := 11) rfl))) (ty := (.array .byte)) (by decide)
  have f13 : Fld Z h11 b11 "com/example/looseleaf/looseleaf/pgwire/MessageBody" "at" "I" (.int (0 : Int32)) := D11 (Or.inl (hw _ (List.mem_of_getElem? (i := 18) rfl))) (ty := .int) (by decide)
  have K14 : Gx p e below s₁ f0 T11 (mkF m 60 #[.val (.int p1), .val (.int p2), .val (.int p3), .val (.int p4), .val (.int p5), .val (.int (1 : Int32)), .val (.int (1 : Int32)), .val (.ref b4), .unset, .unset, .unset, .unset] [(.ref b11)]) := fun t kt => K10 t (st11 t kt)
  have K15 : Gx p e below s₁ f0 T11 (mkF m 63 #[.val (.int p1), .val (.int p2), .val (.int p3), .val (.int p4), .val (.int p5), .val (.int (1 : Int32)), .val (.int (1 : Int32)), .val (.ref b4), .unset, .unset, .unset, .unset] [(.ref b4), (.ref b11), (.ref b11)]) := fun t kt => K14 t (by
    show Steps p.tables e below (T11.setTop (mkF m 60 #[.val (.int p1), .val (.int p2), .val (.int p3), .val (.int p4), .val (.int p5), .val (.int (1 : Int32)), .val (.int (1 : Int32)), .val (.ref b4), .unset, .unset, .unset, .unset] [(.ref b11)])) _
    refine XS.dup X11.here hx rfl (hb hby at_60) rfl rfl ?_
    show Steps p.tables e below (T11.setTop (mkF m 61 #[.val (.int p1), .val (.int p2), .val (.int p3), .val (.int p4), .val (.int p5), .val (.int (1 : Int32)), .val (.int (1 : Int32)), .val (.ref b4), .unset, .unset, .unset, .unset] [(.ref b11), (.ref b11)])) _
    refine XS.aload X11.here hx rfl (hb hby at_61) rfl rfl ?_
    exact kt)
  have kp16 : Keep h0 h11 [] := ((((Keep.refl h0 []).ext E4).wr W8 (Or.inr (Nat.le_trans (Keep.refl h0 []).1 (Nat.le_of_eq g4.symm)))).ext E11)
  obtain ⟨_, _, ⟨T17, L17, k17, n17⟩, -, X17', ⟨Lc17, hQ17, l17, y17, z17⟩, st17⟩ := X11.specialBack hx (y := (⟨"com/example/looseleaf/looseleaf/pgwire/MessageBody", "<init>", "([B)V"⟩ : MethodName)) rfl hown (mvT hZ (hw _ (List.mem_of_getElem? (i := 4) rfl))) (mvT hZ (hw _ (List.mem_of_getElem? (i := 5) rfl))) (mvT hZ (hw _ (List.mem_of_getElem? (i := 6) rfl))) (by decide) (backOf (W := 1) (rmIni l Z a0 hw [] b11 b4 h11 n0 (Nat.le_trans Z0 kp16.1) A11 (Nat.le_trans Z0 (Nat.le_trans (((Keep.refl h0 []).ext E4).wr W8 (Or.inr (Nat.le_trans (Keep.refl h0 []).1 (Nat.le_of_eq g4.symm)))).1 (Nat.le_of_eq g11.symm))) f12 f13) hZ (hw _ (List.mem_of_getElem? (i := 6) rfl)) (hw _ (List.mem_of_getElem? (i := 3) rfl)) (by decide) (by decide)) (g := (mkF m 63 #[.val (.int p1), .val (.int p2), .val (.int p3), .val (.int p4), .val (.int p5), .val (.int (1 : Int32)), .val (.int (1 : Int32)), .val (.ref b4), .unset, .unset, .unset, .unset] [(.ref b4), (.ref b11), (.ref b11)])) rfl (by rw [hml]; rfl) (Steps.refl _) (a := b11) (argsL := [(.ref b4)]) (rest := [(.ref b11)]) (lenOf pd___B_V rfl) rfl (by show 2 * 0 + _ ≤ _; exact Nat.le_of_eq rfl) (hb hby at_63) (fun _ _ => ⟨rfl, e11, (by decide : 2 + 0 ≤ _), (by decide : 3 + 0 ≤ _)⟩)
  dsimp only [Pt.U, Pt.locs, Pt.cells, Pt.slots] at X17' l17 y17 z17 st17 hQ17
  subst l17 y17 z17
  obtain ⟨h17, e17⟩ : ∃ z, T17.heap = z := ⟨_, rfl⟩
  rw [e17] at hQ17
  obtain ⟨rfl, N17q, Kc17, f18, f19, f20⟩ := hQ17
  obtain ⟨lc17, X17, N17⟩ : ∃ lc, Stand p l e room_1 s m #[(.int p1), (.int p2), (.int p3), (.int p4), (.int p5)] below meth c T17 lc 2 3 ∧ Fr n0 lc := ⟨_, X17', Fr.app N8 N17q⟩
  have K21 : Gx p e below s₁ f0 T17 (mkF m 66 #[.val (.int p1), .val (.int p2), .val (.int p3), .val (.int p4), .val (.int p5), .val (.int (1 : Int32)), .val (.int (1 : Int32)), .val (.ref b4), .unset, .unset, .unset, .unset] [(.ref b11)]) := fun t kt => K15 t (st17.trans kt)
  have K22 : Gx p e below s₁ f0 T17 (mkF m 76 #[.val (.int p1), .val (.int p2), .val (.int p3), .val (.int p4), .val (.int p5), .val (.int (1 : Int32)), .val (.int (1 : Int32)), .val (.ref b4), .val (.ref b11), .unset, .unset, .unset] [(.ref b11)]) := fun t kt => K21 t (by
    show Steps p.tables e below (T17.setTop (mkF m 66 #[.val (.int p1), .val (.int p2), .val (.int p3), .val (.int p4), .val (.int p5), .val (.int (1 : Int32)), .val (.int (1 : Int32)), .val (.ref b4), .unset, .unset, .unset, .unset] [(.ref b11)])) _
    refine XS.astore X17.here hx rfl (hb hby at_66) rfl rfl (l' := #[.val (.int p1), .val (.int p2), .val (.int p3), .val (.int p4), .val (.int p5), .val (.int (1 : Int32)), .val (.int (1 : Int32)), .val (.ref b4), .val (.ref b11), .unset, .unset, .unset]) rfl ?_
    show Steps p.tables e below (T17.setTop (mkF m 68 #[.val (.int p1), .val (.int p2), .val (.int p3), .val (.int p4), .val (.int p5), .val (.int (1 : Int32)), .val (.int (1 : Int32)), .val (.ref b4), .val (.ref b11), .unset, .unset, .unset] [])) _
    refine XS.iload X17.here hx rfl (hb hby at_68) rfl ?_
    show Steps p.tables e below (T17.setTop (mkF m 70 #[.val (.int p1), .val (.int p2), .val (.int p3), .val (.int p4), .val (.int p5), .val (.int (1 : Int32)), .val (.int (1 : Int32)), .val (.ref b4), .val (.ref b11), .unset, .unset, .unset] [(.int (1 : Int32))])) _
    refine XS.iconst X17.here hx rfl (hb hby at_70) ?_
    show Steps p.tables e below (T17.setTop (mkF m 71 #[.val (.int p1), .val (.int p2), .val (.int p3), .val (.int p4), .val (.int p5), .val (.int (1 : Int32)), .val (.int (1 : Int32)), .val (.ref b4), .val (.ref b11), .unset, .unset, .unset] [(.int (1 : Int32)), (.int (1 : Int32))])) _
    refine XS.icmpNo X17.here hx rfl (hb hby at_71) rfl (flt (by decide)).1 ?_
    show Steps p.tables e below (T17.setTop (mkF m 74 #[.val (.int p1), .val (.int p2), .val (.int p3), .val (.int p4), .val (.int p5), .val (.int (1 : Int32)), .val (.int (1 : Int32)), .val (.ref b4), .val (.ref b11), .unset, .unset, .unset] [])) _
    refine XS.aload X17.here hx rfl (hb hby at_74) rfl rfl ?_
    exact kt)
  have f23 : Arv Z h17 b4 k4 .byte (1 : Int32) [(.int (nar .byte (p3.toInt8.toInt32)))] (.int (0 : Int32)) := ((V8.ext E11).keep Kc17 (ninS (Nat.ne_of_lt (Nat.lt_of_lt_of_le V8.lt (Nat.le_of_eq g11.symm))) nin0))
  have kp24 : Keep h0 h17 [] := (Keep.trans kp16 Kc17 (allS (Or.inr (Nat.le_trans (((Keep.refl h0 []).ext E4).wr W8 (Or.inr (Nat.le_trans (Keep.refl h0 []).1 (Nat.le_of_eq g4.symm)))).1 (Nat.le_of_eq g11.symm))) all0))
  obtain ⟨cq25, kq25, q25a, q25b, q25c⟩ := isOf hZ e17 f18
  obtain ⟨_, _, ⟨T25, L25, k25, n25⟩, -, X25', ⟨Lc25, hQ25, l25, y25, z25⟩, st25⟩ := X17.virtualBack hx (y := (⟨"com/example/looseleaf/looseleaf/pgwire/MessageBody", "byte1", "()I"⟩ : MethodName)) (z := (⟨"com/example/looseleaf/looseleaf/pgwire/MessageBody", "byte1", "()I"⟩ : MethodName)) hown (mvT hZ (hw _ (List.mem_of_getElem? (i := 19) rfl))) (mvT hZ (hw _ (List.mem_of_getElem? (i := 20) rfl))) (notFace_of_selects (args := #[]) (mvT hZ (hw _ (List.mem_of_getElem? (i := 22) rfl)))) (mvT hZ (hw _ (List.mem_of_getElem? (i := 22) rfl))) (mvT hZ (hw _ (List.mem_of_getElem? (i := 21) rfl))) (by decide) (backOf (W := 0) (rmBy1 l Z a0 hw [] b11 b4 (0 : Int32) k4 (1 : Int32) [(.int (nar .byte (p3.toInt8.toInt32)))] (nar .byte (p3.toInt8.toInt32)) (1 : Int32) h17 n0 (Nat.le_trans Z0 kp24.1) f18 (Nat.le_trans Z0 (Nat.le_trans (((Keep.refl h0 []).ext E4).wr W8 (Or.inr (Nat.le_trans (Keep.refl h0 []).1 (Nat.le_of_eq g4.symm)))).1 (Nat.le_of_eq g11.symm))) f19 f20 f23 (Ne.symm (Nat.ne_of_lt (Nat.lt_of_lt_of_le V8.lt (Nat.le_of_eq g11.symm)))) (by decide) ⟨by decide, by decide⟩ rfl (by decide)) hZ (hw _ (List.mem_of_getElem? (i := 23) rfl)) (hw _ (List.mem_of_getElem? (i := 3) rfl)) (by decide) (by decide)) q25a q25c (g := (mkF m 76 #[.val (.int p1), .val (.int p2), .val (.int p3), .val (.int p4), .val (.int p5), .val (.int (1 : Int32)), .val (.int (1 : Int32)), .val (.ref b4), .val (.ref b11), .unset, .unset, .unset] [(.ref b11)])) rfl (by rw [hml]; rfl) (Steps.refl _) (argsL := []) (rest := []) (lenOf pd___I rfl) rfl (by show 2 * 0 + _ ≤ _; exact Nat.le_of_eq rfl) (hb hby at_76) (fun _ _ => ⟨rfl, e17, (by decide : 2 + 0 ≤ _), (by decide : 3 + 0 ≤ _)⟩)
  dsimp only [Pt.U, Pt.locs, Pt.cells, Pt.slots] at X25' l25 y25 z25 st25 hQ25
  subst l25 y25 z25
  obtain ⟨h25, e25⟩ : ∃ z, T25.heap = z := ⟨_, rfl⟩
  rw [e25] at hQ25
  obtain ⟨rfl, N25q, Kc25, f26, f27, f28⟩ := hQ25
  obtain ⟨lc25, X25, N25⟩ : ∃ lc, Stand p l e room_1 s m #[(.int p1), (.int p2), (.int p3), (.int p4), (.int p5)] below meth c T25 lc 2 3 ∧ Fr n0 lc := ⟨_, X25', Fr.app N17 N25q⟩
  have K29 : Gx p e below s₁ f0 T25 (mkF m 79 #[.val (.int p1), .val (.int p2), .val (.int p3), .val (.int p4), .val (.int p5), .val (.int (1 : Int32)), .val (.int (1 : Int32)), .val (.ref b4), .val (.ref b11), .unset, .unset, .unset] [(.int ((nar .byte (p3.toInt8.toInt32)) &&& (255 : Int32)))]) := fun t kt => K22 t (st25.trans kt)
  have K30 : Gx p e below s₁ f0 T25 (mkF m 128 #[.val (.int p1), .val (.int p2), .val (.int p3), .val (.int p4), .val (.int p5), .val (.int (1 : Int32)), .val (.int (1 : Int32)), .val (.ref b4), .val (.ref b11), .val (.int (0 : Int32)), .unset, .unset] [(.ref b11)]) := fun t kt => K29 t (by
    show Steps p.tables e below (T25.setTop (mkF m 79 #[.val (.int p1), .val (.int p2), .val (.int p3), .val (.int p4), .val (.int p5), .val (.int (1 : Int32)), .val (.int (1 : Int32)), .val (.ref b4), .val (.ref b11), .unset, .unset, .unset] [(.int ((nar .byte (p3.toInt8.toInt32)) &&& (255 : Int32)))])) _
    refine XS.pop X25.here hx rfl (hb hby at_79) rfl rfl ?_
    show Steps p.tables e below (T25.setTop (mkF m 80 #[.val (.int p1), .val (.int p2), .val (.int p3), .val (.int p4), .val (.int p5), .val (.int (1 : Int32)), .val (.int (1 : Int32)), .val (.ref b4), .val (.ref b11), .unset, .unset, .unset] [])) _
    refine XS.iload X25.here hx rfl (hb hby at_80) rfl ?_
    show Steps p.tables e below (T25.setTop (mkF m 82 #[.val (.int p1), .val (.int p2), .val (.int p3), .val (.int p4), .val (.int p5), .val (.int (1 : Int32)), .val (.int (1 : Int32)), .val (.ref b4), .val (.ref b11), .unset, .unset, .unset] [(.int (1 : Int32))])) _
    refine XS.iconst X25.here hx rfl (hb hby at_82) ?_
    show Steps p.tables e below (T25.setTop (mkF m 83 #[.val (.int p1), .val (.int p2), .val (.int p3), .val (.int p4), .val (.int p5), .val (.int (1 : Int32)), .val (.int (1 : Int32)), .val (.ref b4), .val (.ref b11), .unset, .unset, .unset] [(.int (2 : Int32)), (.int (1 : Int32))])) _
    refine XS.icmpYes X25.here hx rfl (pc0 := 83) (pc' := 92) rfl (hb hby at_83) rfl (tlt (by decide)).1 (by decide) (by decide) ?_
    show Steps p.tables e below (T25.setTop (mkF m 92 #[.val (.int p1), .val (.int p2), .val (.int p3), .val (.int p4), .val (.int p5), .val (.int (1 : Int32)), .val (.int (1 : Int32)), .val (.ref b4), .val (.ref b11), .unset, .unset, .unset] [])) _
    refine XS.iload X25.here hx rfl (hb hby at_92) rfl ?_
    show Steps p.tables e below (T25.setTop (mkF m 94 #[.val (.int p1), .val (.int p2), .val (.int p3), .val (.int p4), .val (.int p5), .val (.int (1 : Int32)), .val (.int (1 : Int32)), .val (.ref b4), .val (.ref b11), .unset, .unset, .unset] [(.int (1 : Int32))])) _
    refine XS.iconst X25.here hx rfl (hb hby at_94) ?_
    show Steps p.tables e below (T25.setTop (mkF m 95 #[.val (.int p1), .val (.int p2), .val (.int p3), .val (.int p4), .val (.int p5), .val (.int (1 : Int32)), .val (.int (1 : Int32)), .val (.ref b4), .val (.ref b11), .unset, .unset, .unset] [(.int (3 : Int32)), (.int (1 : Int32))])) _
    refine XS.icmpYes X25.here hx rfl (pc0 := 95) (pc' := 104) rfl (hb hby at_95) rfl (tlt (by decide)).1 (by decide) (by decide) ?_
    show Steps p.tables e below (T25.setTop (mkF m 104 #[.val (.int p1), .val (.int p2), .val (.int p3), .val (.int p4), .val (.int p5), .val (.int (1 : Int32)), .val (.int (1 : Int32)), .val (.ref b4), .val (.ref b11), .unset, .unset, .unset] [])) _
    refine XS.iload X25.here hx rfl (hb hby at_104) rfl ?_
    show Steps p.tables e below (T25.setTop (mkF m 106 #[.val (.int p1), .val (.int p2), .val (.int p3), .val (.int p4), .val (.int p5), .val (.int (1 : Int32)), .val (.int (1 : Int32)), .val (.ref b4), .val (.ref b11), .unset, .unset, .unset] [(.int (1 : Int32))])) _
    refine XS.iload X25.here hx rfl (hb hby at_106) rfl ?_
    show Steps p.tables e below (T25.setTop (mkF m 108 #[.val (.int p1), .val (.int p2), .val (.int p3), .val (.int p4), .val (.int p5), .val (.int (1 : Int32)), .val (.int (1 : Int32)), .val (.ref b4), .val (.ref b11), .unset, .unset, .unset] [(.int (1 : Int32)), (.int (1 : Int32))])) _
    refine XS.icmpYes X25.here hx rfl (pc0 := 108) (pc' := 123) rfl (hb hby at_108) rfl (flt (by decide)).2.1 (by decide) (by decide) ?_
    show Steps p.tables e below (T25.setTop (mkF m 123 #[.val (.int p1), .val (.int p2), .val (.int p3), .val (.int p4), .val (.int p5), .val (.int (1 : Int32)), .val (.int (1 : Int32)), .val (.ref b4), .val (.ref b11), .unset, .unset, .unset] [])) _
    refine XS.iconst X25.here hx rfl (hb hby at_123) ?_
    show Steps p.tables e below (T25.setTop (mkF m 124 #[.val (.int p1), .val (.int p2), .val (.int p3), .val (.int p4), .val (.int p5), .val (.int (1 : Int32)), .val (.int (1 : Int32)), .val (.ref b4), .val (.ref b11), .unset, .unset, .unset] [(.int (0 : Int32))])) _
    refine XS.istore X25.here hx rfl (hb hby at_124) rfl (l' := #[.val (.int p1), .val (.int p2), .val (.int p3), .val (.int p4), .val (.int p5), .val (.int (1 : Int32)), .val (.int (1 : Int32)), .val (.ref b4), .val (.ref b11), .val (.int (0 : Int32)), .unset, .unset]) rfl ?_
    show Steps p.tables e below (T25.setTop (mkF m 126 #[.val (.int p1), .val (.int p2), .val (.int p3), .val (.int p4), .val (.int p5), .val (.int (1 : Int32)), .val (.int (1 : Int32)), .val (.ref b4), .val (.ref b11), .val (.int (0 : Int32)), .unset, .unset] [])) _
    refine XS.aload X25.here hx rfl (hb hby at_126) rfl rfl ?_
    exact kt)
  have f31 : Arv Z h25 b4 k4 .byte (1 : Int32) [(.int (nar .byte (p3.toInt8.toInt32)))] (.int (0 : Int32)) := (f23.keep Kc25 (ninS (Nat.ne_of_lt (Nat.lt_of_lt_of_le V8.lt (Nat.le_of_eq g11.symm))) nin0))
  have kp32 : Keep h0 h25 [] := (Keep.trans kp24 Kc25 (allS (Or.inr (Nat.le_trans (((Keep.refl h0 []).ext E4).wr W8 (Or.inr (Nat.le_trans (Keep.refl h0 []).1 (Nat.le_of_eq g4.symm)))).1 (Nat.le_of_eq g11.symm))) all0))
  obtain ⟨cq33, kq33, q33a, q33b, q33c⟩ := isOf hZ e25 f26
  obtain ⟨_, _, ⟨T33, L33, k33, n33⟩, -, X33', ⟨Lc33, hQ33, l33, y33, z33⟩, st33⟩ := X25.virtualBack hx (y := (⟨"com/example/looseleaf/looseleaf/pgwire/MessageBody", "atNul", "()Z"⟩ : MethodName)) (z := (⟨"com/example/looseleaf/looseleaf/pgwire/MessageBody", "atNul", "()Z"⟩ : MethodName)) hown (mvT hZ (hw _ (List.mem_of_getElem? (i := 12) rfl))) (mvT hZ (hw _ (List.mem_of_getElem? (i := 13) rfl))) (notFace_of_selects (args := #[]) (mvT hZ (hw _ (List.mem_of_getElem? (i := 15) rfl)))) (mvT hZ (hw _ (List.mem_of_getElem? (i := 15) rfl))) (mvT hZ (hw _ (List.mem_of_getElem? (i := 14) rfl))) (by decide) (backOf (W := 0) (rmAt0 l Z a0 hw [] b11 b4 (1 : Int32) k4 (1 : Int32) [(.int (nar .byte (p3.toInt8.toInt32)))] h25 n0 (Nat.le_trans Z0 kp32.1) f27 f28 f31 (by decide)) hZ (hw _ (List.mem_of_getElem? (i := 16) rfl)) (hw _ (List.mem_of_getElem? (i := 3) rfl)) (by decide) (by decide)) q33a q33c (g := (mkF m 128 #[.val (.int p1), .val (.int p2), .val (.int p3), .val (.int p4), .val (.int p5), .val (.int (1 : Int32)), .val (.int (1 : Int32)), .val (.ref b4), .val (.ref b11), .val (.int (0 : Int32)), .unset, .unset] [(.ref b11)])) rfl (by rw [hml]; rfl) (Steps.refl _) (argsL := []) (rest := []) (lenOf pd___Z rfl) rfl (by show 2 * 0 + _ ≤ _; exact Nat.le_of_eq rfl) (hb hby at_128) (fun _ _ => ⟨rfl, e25, (by decide : 2 + 0 ≤ _), (by decide : 3 + 0 ≤ _)⟩)
  dsimp only [Pt.U, Pt.locs, Pt.cells, Pt.slots] at X33' l33 y33 z33 st33 hQ33
  subst l33 y33 z33
  obtain ⟨rfl, N33q, e33⟩ := hQ33
  obtain ⟨lc33, X33, N33⟩ : ∃ lc, Stand p l e room_1 s m #[(.int p1), (.int p2), (.int p3), (.int p4), (.int p5)] below meth c T33 lc 2 3 ∧ Fr n0 lc := ⟨_, X33', Fr.app N25 N33q⟩
  have K34 : Gx p e below s₁ f0 T33 (mkF m 131 #[.val (.int p1), .val (.int p2), .val (.int p3), .val (.int p4), .val (.int p5), .val (.int (1 : Int32)), .val (.int (1 : Int32)), .val (.ref b4), .val (.ref b11), .val (.int (0 : Int32)), .unset, .unset] [(.int (0 : Int32))]) := fun t kt => K30 t (st33.trans kt)
  have K35 : Gx p e below s₁ f0 T33 (mkF m 135 #[.val (.int p1), .val (.int p2), .val (.int p3), .val (.int p4), .val (.int p5), .val (.int (1 : Int32)), .val (.int (1 : Int32)), .val (.ref b4), .val (.ref b11), .val (.int (0 : Int32)), .val (.int (0 : Int32)), .unset] [(.ref b11)]) := fun t kt => K34 t (by
    show Steps p.tables e below (T33.setTop (mkF m 131 #[.val (.int p1), .val (.int p2), .val (.int p3), .val (.int p4), .val (.int p5), .val (.int (1 : Int32)), .val (.int (1 : Int32)), .val (.ref b4), .val (.ref b11), .val (.int (0 : Int32)), .unset, .unset] [(.int (0 : Int32))])) _
    refine XS.istore X33.here hx rfl (hb hby at_131) rfl (l' := #[.val (.int p1), .val (.int p2), .val (.int p3), .val (.int p4), .val (.int p5), .val (.int (1 : Int32)), .val (.int (1 : Int32)), .val (.ref b4), .val (.ref b11), .val (.int (0 : Int32)), .val (.int (0 : Int32)), .unset]) rfl ?_
    show Steps p.tables e below (T33.setTop (mkF m 133 #[.val (.int p1), .val (.int p2), .val (.int p3), .val (.int p4), .val (.int p5), .val (.int (1 : Int32)), .val (.int (1 : Int32)), .val (.ref b4), .val (.ref b11), .val (.int (0 : Int32)), .val (.int (0 : Int32)), .unset] [])) _
    refine XS.aload X33.here hx rfl (hb hby at_133) rfl rfl ?_
    exact kt)
  obtain ⟨cq36, kq36, q36a, q36b, q36c⟩ := isOf hZ e33 f26
  obtain ⟨_, _, ⟨T36, L36, k36, n36⟩, -, X36', ⟨Lc36, hQ36, l36, y36, z36⟩, st36⟩ := X33.virtualBack hx (y := (⟨"com/example/looseleaf/looseleaf/pgwire/MessageBody", "atNul", "()Z"⟩ : MethodName)) (z := (⟨"com/example/looseleaf/looseleaf/pgwire/MessageBody", "atNul", "()Z"⟩ : MethodName)) hown (mvT hZ (hw _ (List.mem_of_getElem? (i := 12) rfl))) (mvT hZ (hw _ (List.mem_of_getElem? (i := 13) rfl))) (notFace_of_selects (args := #[]) (mvT hZ (hw _ (List.mem_of_getElem? (i := 15) rfl)))) (mvT hZ (hw _ (List.mem_of_getElem? (i := 15) rfl))) (mvT hZ (hw _ (List.mem_of_getElem? (i := 14) rfl))) (by decide) (backOf (W := 0) (rmAt0 l Z a0 hw [] b11 b4 (1 : Int32) k4 (1 : Int32) [(.int (nar .byte (p3.toInt8.toInt32)))] h25 n0 (Nat.le_trans Z0 kp32.1) f27 f28 f31 (by decide)) hZ (hw _ (List.mem_of_getElem? (i := 16) rfl)) (hw _ (List.mem_of_getElem? (i := 3) rfl)) (by decide) (by decide)) q36a q36c (g := (mkF m 135 #[.val (.int p1), .val (.int p2), .val (.int p3), .val (.int p4), .val (.int p5), .val (.int (1 : Int32)), .val (.int (1 : Int32)), .val (.ref b4), .val (.ref b11), .val (.int (0 : Int32)), .val (.int (0 : Int32)), .unset] [(.ref b11)])) rfl (by rw [hml]; rfl) (Steps.refl _) (argsL := []) (rest := []) (lenOf pd___Z rfl) rfl (by show 2 * 0 + _ ≤ _; exact Nat.le_of_eq rfl) (hb hby at_135) (fun _ _ => ⟨rfl, e33, (by decide : 2 + 0 ≤ _), (by decide : 3 + 0 ≤ _)⟩)
  dsimp only [Pt.U, Pt.locs, Pt.cells, Pt.slots] at X36' l36 y36 z36 st36 hQ36
  subst l36 y36 z36
  obtain ⟨rfl, N36q, e36⟩ := hQ36
  obtain ⟨lc36, X36, N36⟩ : ∃ lc, Stand p l e room_1 s m #[(.int p1), (.int p2), (.int p3), (.int p4), (.int p5)] below meth c T36 lc 2 3 ∧ Fr n0 lc := ⟨_, X36', Fr.app N33 N36q⟩
  have K37 : Gx p e below s₁ f0 T36 (mkF m 138 #[.val (.int p1), .val (.int p2), .val (.int p3), .val (.int p4), .val (.int p5), .val (.int (1 : Int32)), .val (.int (1 : Int32)), .val (.ref b4), .val (.ref b11), .val (.int (0 : Int32)), .val (.int (0 : Int32)), .unset] [(.int (0 : Int32))]) := fun t kt => K35 t (st36.trans kt)
  have K38 : Gx p e below s₁ f0 T36 (mkF m 187 #[.val (.int p1), .val (.int p2), .val (.int p3), .val (.int p4), .val (.int p5), .val (.int (1 : Int32)), .val (.int (1 : Int32)), .val (.ref b4), .val (.ref b11), .val (.int (0 : Int32)), .val (.int (0 : Int32)), .val (.int (0 : Int32))] [(.int (1 : Int32))]) := fun t kt => K37 t (by
    show Steps p.tables e below (T36.setTop (mkF m 138 #[.val (.int p1), .val (.int p2), .val (.int p3), .val (.int p4), .val (.int p5), .val (.int (1 : Int32)), .val (.int (1 : Int32)), .val (.ref b4), .val (.ref b11), .val (.int (0 : Int32)), .val (.int (0 : Int32)), .unset] [(.int (0 : Int32))])) _
    refine XS.istore X36.here hx rfl (hb hby at_138) rfl (l' := #[.val (.int p1), .val (.int p2), .val (.int p3), .val (.int p4), .val (.int p5), .val (.int (1 : Int32)), .val (.int (1 : Int32)), .val (.ref b4), .val (.ref b11), .val (.int (0 : Int32)), .val (.int (0 : Int32)), .val (.int (0 : Int32))]) rfl ?_
    show Steps p.tables e below (T36.setTop (mkF m 140 #[.val (.int p1), .val (.int p2), .val (.int p3), .val (.int p4), .val (.int p5), .val (.int (1 : Int32)), .val (.int (1 : Int32)), .val (.ref b4), .val (.ref b11), .val (.int (0 : Int32)), .val (.int (0 : Int32)), .val (.int (0 : Int32))] [])) _
    refine XS.iload X36.here hx rfl (hb hby at_140) rfl ?_
    show Steps p.tables e below (T36.setTop (mkF m 142 #[.val (.int p1), .val (.int p2), .val (.int p3), .val (.int p4), .val (.int p5), .val (.int (1 : Int32)), .val (.int (1 : Int32)), .val (.ref b4), .val (.ref b11), .val (.int (0 : Int32)), .val (.int (0 : Int32)), .val (.int (0 : Int32))] [(.int (0 : Int32))])) _
    refine XS.iload X36.here hx rfl (hb hby at_142) rfl ?_
    show Steps p.tables e below (T36.setTop (mkF m 144 #[.val (.int p1), .val (.int p2), .val (.int p3), .val (.int p4), .val (.int p5), .val (.int (1 : Int32)), .val (.int (1 : Int32)), .val (.ref b4), .val (.ref b11), .val (.int (0 : Int32)), .val (.int (0 : Int32)), .val (.int (0 : Int32))] [(.int (0 : Int32)), (.int (0 : Int32))])) _
    refine XS.icmpNo X36.here hx rfl (hb hby at_144) rfl (teq (by decide)).2 ?_
    show Steps p.tables e below (T36.setTop (mkF m 147 #[.val (.int p1), .val (.int p2), .val (.int p3), .val (.int p4), .val (.int p5), .val (.int (1 : Int32)), .val (.int (1 : Int32)), .val (.ref b4), .val (.ref b11), .val (.int (0 : Int32)), .val (.int (0 : Int32)), .val (.int (0 : Int32))] [])) _
    refine XS.iload X36.here hx rfl (hb hby at_147) rfl ?_
    show Steps p.tables e below (T36.setTop (mkF m 149 #[.val (.int p1), .val (.int p2), .val (.int p3), .val (.int p4), .val (.int p5), .val (.int (1 : Int32)), .val (.int (1 : Int32)), .val (.ref b4), .val (.ref b11), .val (.int (0 : Int32)), .val (.int (0 : Int32)), .val (.int (0 : Int32))] [(.int (0 : Int32))])) _
    refine XS.iload X36.here hx rfl (hb hby at_149) rfl ?_
    show Steps p.tables e below (T36.setTop (mkF m 151 #[.val (.int p1), .val (.int p2), .val (.int p3), .val (.int p4), .val (.int p5), .val (.int (1 : Int32)), .val (.int (1 : Int32)), .val (.ref b4), .val (.ref b11), .val (.int (0 : Int32)), .val (.int (0 : Int32)), .val (.int (0 : Int32))] [(.int (0 : Int32)), (.int (0 : Int32))])) _
    refine XS.icmpYes X36.here hx rfl (pc0 := 151) (pc' := 156) rfl (hb hby at_151) rfl (teq (by decide)).1 (by decide) (by decide) ?_
    show Steps p.tables e below (T36.setTop (mkF m 156 #[.val (.int p1), .val (.int p2), .val (.int p3), .val (.int p4), .val (.int p5), .val (.int (1 : Int32)), .val (.int (1 : Int32)), .val (.ref b4), .val (.ref b11), .val (.int (0 : Int32)), .val (.int (0 : Int32)), .val (.int (0 : Int32))] [])) _
    refine XS.iload X36.here hx rfl (hb hby at_156) rfl ?_
    show Steps p.tables e below (T36.setTop (mkF m 158 #[.val (.int p1), .val (.int p2), .val (.int p3), .val (.int p4), .val (.int p5), .val (.int (1 : Int32)), .val (.int (1 : Int32)), .val (.ref b4), .val (.ref b11), .val (.int (0 : Int32)), .val (.int (0 : Int32)), .val (.int (0 : Int32))] [(.int (1 : Int32))])) _
    refine XS.iload X36.here hx rfl (hb hby at_158) rfl ?_
    show Steps p.tables e below (T36.setTop (mkF m 160 #[.val (.int p1), .val (.int p2), .val (.int p3), .val (.int p4), .val (.int p5), .val (.int (1 : Int32)), .val (.int (1 : Int32)), .val (.ref b4), .val (.ref b11), .val (.int (0 : Int32)), .val (.int (0 : Int32)), .val (.int (0 : Int32))] [(.int (1 : Int32)), (.int (1 : Int32))])) _
    refine XS.icmpYes X36.here hx rfl (pc0 := 160) (pc' := 186) rfl (hb hby at_160) rfl (flt (by decide)).2.1 (by decide) (by decide) ?_
    show Steps p.tables e below (T36.setTop (mkF m 186 #[.val (.int p1), .val (.int p2), .val (.int p3), .val (.int p4), .val (.int p5), .val (.int (1 : Int32)), .val (.int (1 : Int32)), .val (.ref b4), .val (.ref b11), .val (.int (0 : Int32)), .val (.int (0 : Int32)), .val (.int (0 : Int32))] [])) _
    refine XS.iconst X36.here hx rfl (hb hby at_186) ?_
    exact kt)
  obtain ⟨fs39, hr39, hrun39, hended39, hW39, hsame39⟩ := X36.leave (v := some (.int (1 : Int32))) (fun h => by rw [Bd.returns] at h; cases h)
  refine ⟨_, _, pre0 _ (K38 _ ?_), hrun39, hended39, _, _, rfl, ?_, ⟨_, rfl⟩, hW39, hsame39.mono (by decide) (by decide)⟩
  · exact retN X36 hx (t := .boolean) Bd.returns (by simp) (hb hby at_187) hr39
  · show Q0 Z p1 p2 p3 p4 p5 h0 n0 _ T36.heap _
    rw [e36]
    exact ⟨rfl, N36⟩
theorem ef_0_20 (m : MethodId) (p1 : Int32) (p2 : Int32) (p3 : Int32) (p4 : Int32) (p5 : Int32) : entryFrame m #[(.int p1), (.int p2), (.int p3), (.int p4), (.int p5)] maxLocals = mkF m 0 #[.val (.int p1), .val (.int p2), .val (.int p3), .val (.int p4), .val (.int p5), .unset, .unset, .unset, .unset, .unset, .unset, .unset] [] := by first | (simp [entryFrame, mkF, argsToLocals, Value.category, maxLocals]; done) | rfl
set_option maxRecDepth 65536 in
set_option maxHeartbeats 40000000 in
theorem rm0_20 (l : Launch) (Z : State) (a0 : Array Value) (hw : ∀ d ∈ tables_1, d.before a0 Z = true) (ws : List Jvm.Cond) (p1 : Int32) (p2 : Int32) (p3 : Int32) (p4 : Int32) (p5 : Int32) (h0 : Heap) (n0 : Nat) (Z0 : n0 ≤ h0.size) (hn_ : (p1 &&& (3 : Int32)) = (2 : Int32)) (hk_ : ((p2 &&& (3 : Int32)) % (3 : Int32)) = (0 : Int32)) :
    MetFree l x (head1 (Jvm.Cond.code x code maxLocals ret :: ws) room_1) (fun a U => a = #[(.int p1), (.int p2), (.int p3), (.int p4), (.int p5)] ∧ Z.Warmed39 U.vm ∧ U.heap = h0) (fun _ _ _ _ _ => True) (fun _ U o U' => ∃ v L, o = .returned v ∧ Q0 Z p1 p2 p3 p4 p5 h0 n0 v U'.heap L ∧ FrameEnd U o U' L room_1.cells room_1.slots) := by
  refine MetFree.of_bodySF (plainFor_of_name pn_0) hisR ?_
  intro p e s m args below meth c s₁ Bd hml0 hP hK
  obtain ⟨rfl, hZ, hh⟩ := hP
  have hx := Bd.exec
  have hby := Bd.bytes
  have hml : c.maxLocals = 12 := hml0
  have hown : s.vm.findClass "com/example/looseleaf/looseleaf/pgwire/MessageBodyAtNulPinLaw" = some m.cls := findClass_of_methodNamed Bd.named
  have hnm := (name_of_methodNamed Bd.named Bd.method).1
  have X0 : Stand p l e room_1 s m #[(.int p1), (.int p2), (.int p3), (.int p4), (.int p5)] below meth c s₁ [] 0 0 := Stand.of_body Bd
  have hs0 : h0 = s.heap := hh.symm
  have e0 : s₁.heap = h0 := by rw [← hh, Bd.state]; rfl
  have N0 := Fr.nil n0
  obtain ⟨f0, hf0⟩ : ∃ f, f = entryFrame m #[(.int p1), (.int p2), (.int p3), (.int p4), (.int p5)] maxLocals := ⟨_, rfl⟩
  have pre0 : ∀ t, Steps p.tables e below (s₁.setTop f0) t → Steps p.tables e below (s₁.setTop (entryFrame m #[(.int p1), (.int p2), (.int p3), (.int p4), (.int p5)] maxLocals)) t := fun t k => hf0 ▸ k
  have K0 : Gx p e below s₁ f0 s₁ (mkF m 0 #[.val (.int p1), .val (.int p2), .val (.int p3), .val (.int p4), .val (.int p5), .unset, .unset, .unset, .unset, .unset, .unset, .unset] []) := fun t kt => by rw [hf0]; exact castTop (ef_0_20 m p1 p2 p3 p4 p5) kt
  have K1 : Gx p e below s₁ f0 s₁ (mkF m 5 #[.val (.int p1), .val (.int p2), .val (.int p3), .val (.int p4), .val (.int p5), .val (.int (p1 &&& (3 : Int32))), .unset, .unset, .unset, .unset, .unset, .unset] []) := fun t kt => K0 t (by
    show Steps p.tables e below (s₁.setTop (mkF m 0 #[.val (.int p1), .val (.int p2), .val (.int p3), .val (.int p4), .val (.int p5), .unset, .unset, .unset, .unset, .unset, .unset, .unset] [])) _
    refine XS.iloadN X0.here hx rfl (hb hby at_0) rfl ?_
    show Steps p.tables e below (s₁.setTop (mkF m 1 #[.val (.int p1), .val (.int p2), .val (.int p3), .val (.int p4), .val (.int p5), .unset, .unset, .unset, .unset, .unset, .unset, .unset] [(.int p1)])) _
    refine XS.iconst X0.here hx rfl (hb hby at_1) ?_
    show Steps p.tables e below (s₁.setTop (mkF m 2 #[.val (.int p1), .val (.int p2), .val (.int p3), .val (.int p4), .val (.int p5), .unset, .unset, .unset, .unset, .unset, .unset, .unset] [(.int (3 : Int32)), (.int p1)])) _
    refine XS.iand X0.here hx rfl (hb hby at_2) rfl ?_
    show Steps p.tables e below (s₁.setTop (mkF m 3 #[.val (.int p1), .val (.int p2), .val (.int p3), .val (.int p4), .val (.int p5), .unset, .unset, .unset, .unset, .unset, .unset, .unset] [(.int (p1 &&& (3 : Int32)))])) _
    refine XS.istore X0.here hx rfl (hb hby at_3) rfl (l' := #[.val (.int p1), .val (.int p2), .val (.int p3), .val (.int p4), .val (.int p5), .val (.int (p1 &&& (3 : Int32))), .unset, .unset, .unset, .unset, .unset, .unset]) rfl ?_
    exact kt)
  rw [hn_] at K1
  have K2 : Gx p e below s₁ f0 s₁ (mkF m 15 #[.val (.int p1), .val (.int p2), .val (.int p3), .val (.int p4), .val (.int p5), .val (.int (2 : Int32)), .val (.int ((p2 &&& (3 : Int32)) % (3 : Int32))), .unset, .unset, .unset, .unset, .unset] []) := fun t kt => K1 t (by
    show Steps p.tables e below (s₁.setTop (mkF m 5 #[.val (.int p1), .val (.int p2), .val (.int p3), .val (.int p4), .val (.int p5), .val (.int (2 : Int32)), .unset, .unset, .unset, .unset, .unset, .unset] [])) _
    refine XS.iloadN X0.here hx rfl (hb hby at_5) rfl ?_
    show Steps p.tables e below (s₁.setTop (mkF m 6 #[.val (.int p1), .val (.int p2), .val (.int p3), .val (.int p4), .val (.int p5), .val (.int (2 : Int32)), .unset, .unset, .unset, .unset, .unset, .unset] [(.int p2)])) _
    refine XS.iconst X0.here hx rfl (hb hby at_6) ?_
    show Steps p.tables e below (s₁.setTop (mkF m 7 #[.val (.int p1), .val (.int p2), .val (.int p3), .val (.int p4), .val (.int p5), .val (.int (2 : Int32)), .unset, .unset, .unset, .unset, .unset, .unset] [(.int (3 : Int32)), (.int p2)])) _
    refine XS.iand X0.here hx rfl (hb hby at_7) rfl ?_
    show Steps p.tables e below (s₁.setTop (mkF m 8 #[.val (.int p1), .val (.int p2), .val (.int p3), .val (.int p4), .val (.int p5), .val (.int (2 : Int32)), .unset, .unset, .unset, .unset, .unset, .unset] [(.int (p2 &&& (3 : Int32)))])) _
    refine XS.iload X0.here hx rfl (hb hby at_8) rfl ?_
    show Steps p.tables e below (s₁.setTop (mkF m 10 #[.val (.int p1), .val (.int p2), .val (.int p3), .val (.int p4), .val (.int p5), .val (.int (2 : Int32)), .unset, .unset, .unset, .unset, .unset, .unset] [(.int (2 : Int32)), (.int (p2 &&& (3 : Int32)))])) _
    refine XS.iconst X0.here hx rfl (hb hby at_10) ?_
    show Steps p.tables e below (s₁.setTop (mkF m 11 #[.val (.int p1), .val (.int p2), .val (.int p3), .val (.int p4), .val (.int p5), .val (.int (2 : Int32)), .unset, .unset, .unset, .unset, .unset, .unset] [(.int (1 : Int32)), (.int (2 : Int32)), (.int (p2 &&& (3 : Int32)))])) _
    refine XS.iadd X0.here hx rfl (hb hby at_11) rfl ?_
    show Steps p.tables e below (s₁.setTop (mkF m 12 #[.val (.int p1), .val (.int p2), .val (.int p3), .val (.int p4), .val (.int p5), .val (.int (2 : Int32)), .unset, .unset, .unset, .unset, .unset, .unset] [(.int (3 : Int32)), (.int (p2 &&& (3 : Int32)))])) _
    refine iremM X0 hx rfl (hb hby at_12) rfl (by decide) ?_
    show Steps p.tables e below (s₁.setTop (mkF m 13 #[.val (.int p1), .val (.int p2), .val (.int p3), .val (.int p4), .val (.int p5), .val (.int (2 : Int32)), .unset, .unset, .unset, .unset, .unset, .unset] [(.int ((p2 &&& (3 : Int32)) % (3 : Int32)))])) _
    refine XS.istore X0.here hx rfl (hb hby at_13) rfl (l' := #[.val (.int p1), .val (.int p2), .val (.int p3), .val (.int p4), .val (.int p5), .val (.int (2 : Int32)), .val (.int ((p2 &&& (3 : Int32)) % (3 : Int32))), .unset, .unset, .unset, .unset, .unset]) rfl ?_
    exact kt)
  rw [hk_] at K2
  have K3 : Gx p e below s₁ f0 s₁ (mkF m 17 #[.val (.int p1), .val (.int p2), .val (.int p3), .val (.int p4), .val (.int p5), .val (.int (2 : Int32)), .val (.int (0 : Int32)), .unset, .unset, .unset, .unset, .unset] [(.int (2 : Int32))]) := fun t kt => K2 t (by
    show Steps p.tables e below (s₁.setTop (mkF m 15 #[.val (.int p1), .val (.int p2), .val (.int p3), .val (.int p4), .val (.int p5), .val (.int (2 : Int32)), .val (.int (0 : Int32)), .unset, .unset, .unset, .unset, .unset] [])) _
    refine XS.iload X0.here hx rfl (hb hby at_15) rfl ?_
    exact kt)
  obtain ⟨T4, h4, k4, X4, e4, E4, A4, st4⟩ := newP X0 hx hZ (hw _ (List.mem_of_getElem? (i := 0) rfl)) e0 (g := (mkF m 17 #[.val (.int p1), .val (.int p2), .val (.int p3), .val (.int p4), .val (.int p5), .val (.int (2 : Int32)), .val (.int (0 : Int32)), .unset, .unset, .unset, .unset, .unset] [(.int (2 : Int32))])) rfl (hb hby at_17) rfl (by decide) (cap := 2) (by decide) (by decide) (by decide) (by decide)
  obtain ⟨b4, g4⟩ : ∃ z, z = h0.size := ⟨_, rfl⟩
  rw [← g4] at A4 st4
  have V4 : Arv Z h4 b4 k4 .byte (2 : Int32) [(.int (0 : Int32)), (.int (0 : Int32))] (.int (0 : Int32)) := (Arv.new A4 (by decide)).pad (pad_rep [] (.int (0 : Int32)) 2)
  have K5 : Gx p e below s₁ f0 T4 (mkF m 19 #[.val (.int p1), .val (.int p2), .val (.int p3), .val (.int p4), .val (.int p5), .val (.int (2 : Int32)), .val (.int (0 : Int32)), .unset, .unset, .unset, .unset, .unset] [(.ref b4)]) := fun t kt => K3 t (st4 t kt)
  have K6 : Gx p e below s₁ f0 T4 (mkF m 31 #[.val (.int p1), .val (.int p2), .val (.int p3), .val (.int p4), .val (.int p5), .val (.int (2 : Int32)), .val (.int (0 : Int32)), .val (.ref b4), .unset, .unset, .unset, .unset] [(.int (p3.toInt8.toInt32)), (.int (0 : Int32)), (.ref b4)]) := fun t kt => K5 t (by
    show Steps p.tables e below (T4.setTop (mkF m 19 #[.val (.int p1), .val (.int p2), .val (.int p3), .val (.int p4), .val (.int p5), .val (.int (2 : Int32)), .val (.int (0 : Int32)), .unset, .unset, .unset, .unset, .unset] [(.ref b4)])) _
    refine XS.astore X4.here hx rfl (hb hby at_19) rfl rfl (l' := #[.val (.int p1), .val (.int p2), .val (.int p3), .val (.int p4), .val (.int p5), .val (.int (2 : Int32)), .val (.int (0 : Int32)), .val (.ref b4), .unset, .unset, .unset, .unset]) rfl ?_
    show Steps p.tables e below (T4.setTop (mkF m 21 #[.val (.int p1), .val (.int p2), .val (.int p3), .val (.int p4), .val (.int p5), .val (.int (2 : Int32)), .val (.int (0 : Int32)), .val (.ref b4), .unset, .unset, .unset, .unset] [])) _
    refine XS.iload X4.here hx rfl (hb hby at_21) rfl ?_
    show Steps p.tables e below (T4.setTop (mkF m 23 #[.val (.int p1), .val (.int p2), .val (.int p3), .val (.int p4), .val (.int p5), .val (.int (2 : Int32)), .val (.int (0 : Int32)), .val (.ref b4), .unset, .unset, .unset, .unset] [(.int (2 : Int32))])) _
    refine XS.ifNo X4.here hx rfl (hb hby at_23) rfl ((if0 _ _).trans (tlt (by decide)).2.2.2) ?_
    show Steps p.tables e below (T4.setTop (mkF m 26 #[.val (.int p1), .val (.int p2), .val (.int p3), .val (.int p4), .val (.int p5), .val (.int (2 : Int32)), .val (.int (0 : Int32)), .val (.ref b4), .unset, .unset, .unset, .unset] [])) _
    refine XS.aload X4.here hx rfl (hb hby at_26) rfl rfl ?_
    show Steps p.tables e below (T4.setTop (mkF m 28 #[.val (.int p1), .val (.int p2), .val (.int p3), .val (.int p4), .val (.int p5), .val (.int (2 : Int32)), .val (.int (0 : Int32)), .val (.ref b4), .unset, .unset, .unset, .unset] [(.ref b4)])) _
    refine XS.iconst X4.here hx rfl (hb hby at_28) ?_
    show Steps p.tables e below (T4.setTop (mkF m 29 #[.val (.int p1), .val (.int p2), .val (.int p3), .val (.int p4), .val (.int p5), .val (.int (2 : Int32)), .val (.int (0 : Int32)), .val (.ref b4), .unset, .unset, .unset, .unset] [(.int (0 : Int32)), (.ref b4)])) _
    refine XS.iloadN X4.here hx rfl (hb hby at_29) rfl ?_
    show Steps p.tables e below (T4.setTop (mkF m 30 #[.val (.int p1), .val (.int p2), .val (.int p3), .val (.int p4), .val (.int p5), .val (.int (2 : Int32)), .val (.int (0 : Int32)), .val (.ref b4), .unset, .unset, .unset, .unset] [(.int p3), (.int (0 : Int32)), (.ref b4)])) _
    refine XS.i2b X4.here hx rfl (hb hby at_30) rfl ?_
    exact kt)
  obtain ⟨clq7, Arq7, ckq7, cSq7, cNq7, cHq7, cGq7⟩ := id V4
  obtain ⟨T8, h8, X8', e8, W8, st8⟩ := stB X4 hx hZ e4 Arq7 (j := (0 : Int32)) (inb_of cSq7 ⟨by decide, by decide⟩) (g := (mkF m 31 #[.val (.int p1), .val (.int p2), .val (.int p3), .val (.int p4), .val (.int p5), .val (.int (2 : Int32)), .val (.int (0 : Int32)), .val (.ref b4), .unset, .unset, .unset, .unset] [(.int (p3.toInt8.toInt32)), (.int (0 : Int32)), (.ref b4)])) rfl rfl (hb hby at_31)
  obtain ⟨lc8, X8, N8⟩ : ∃ lc, Stand p l e room_1 s m #[(.int p1), (.int p2), (.int p3), (.int p4), (.int p5)] below meth c T8 lc 1 2 ∧ Fr n0 lc := ⟨_, X8', Fr.snoc X8' N0 (Nat.le_trans Z0 (Nat.le_trans (Keep.refl h0 []).1 (Nat.le_of_eq g4.symm)))⟩
  have V8 : Arv Z h8 b4 k4 .byte (2 : Int32) [(.int (nar .byte (p3.toInt8.toInt32))), (.int (0 : Int32))] (.int (0 : Int32)) := Arv.set Arq7 ckq7 cSq7 cNq7 cHq7 cGq7 (fits_nar_byte _) W8 0 rfl (Nat.le_of_ble_eq_true rfl)
  have K9 : Gx p e below s₁ f0 T8 (mkF m 32 #[.val (.int p1), .val (.int p2), .val (.int p3), .val (.int p4), .val (.int p5), .val (.int (2 : Int32)), .val (.int (0 : Int32)), .val (.ref b4), .unset, .unset, .unset, .unset] []) := fun t kt => K6 t (st8 t kt)
  have K10 : Gx p e below s₁ f0 T8 (mkF m 43 #[.val (.int p1), .val (.int p2), .val (.int p3), .val (.int p4), .val (.int p5), .val (.int (2 : Int32)), .val (.int (0 : Int32)), .val (.ref b4), .unset, .unset, .unset, .unset] [(.int (p4.toInt8.toInt32)), (.int (1 : Int32)), (.ref b4)]) := fun t kt => K9 t (by
    show Steps p.tables e below (T8.setTop (mkF m 32 #[.val (.int p1), .val (.int p2), .val (.int p3), .val (.int p4), .val (.int p5), .val (.int (2 : Int32)), .val (.int (0 : Int32)), .val (.ref b4), .unset, .unset, .unset, .unset] [])) _
    refine XS.iload X8.here hx rfl (hb hby at_32) rfl ?_
    show Steps p.tables e below (T8.setTop (mkF m 34 #[.val (.int p1), .val (.int p2), .val (.int p3), .val (.int p4), .val (.int p5), .val (.int (2 : Int32)), .val (.int (0 : Int32)), .val (.ref b4), .unset, .unset, .unset, .unset] [(.int (2 : Int32))])) _
    refine XS.iconst X8.here hx rfl (hb hby at_34) ?_
    show Steps p.tables e below (T8.setTop (mkF m 35 #[.val (.int p1), .val (.int p2), .val (.int p3), .val (.int p4), .val (.int p5), .val (.int (2 : Int32)), .val (.int (0 : Int32)), .val (.ref b4), .unset, .unset, .unset, .unset] [(.int (1 : Int32)), (.int (2 : Int32))])) _
    refine XS.icmpNo X8.here hx rfl (hb hby at_35) rfl (tlt (by decide)).2.2.2 ?_
    show Steps p.tables e below (T8.setTop (mkF m 38 #[.val (.int p1), .val (.int p2), .val (.int p3), .val (.int p4), .val (.int p5), .val (.int (2 : Int32)), .val (.int (0 : Int32)), .val (.ref b4), .unset, .unset, .unset, .unset] [])) _
    refine XS.aload X8.here hx rfl (hb hby at_38) rfl rfl ?_
    show Steps p.tables e below (T8.setTop (mkF m 40 #[.val (.int p1), .val (.int p2), .val (.int p3), .val (.int p4), .val (.int p5), .val (.int (2 : Int32)), .val (.int (0 : Int32)), .val (.ref b4), .unset, .unset, .unset, .unset] [(.ref b4)])) _
    refine XS.iconst X8.here hx rfl (hb hby at_40) ?_
    show Steps p.tables e below (T8.setTop (mkF m 41 #[.val (.int p1), .val (.int p2), .val (.int p3), .val (.int p4), .val (.int p5), .val (.int (2 : Int32)), .val (.int (0 : Int32)), .val (.ref b4), .unset, .unset, .unset, .unset] [(.int (1 : Int32)), (.ref b4)])) _
    refine XS.iloadN X8.here hx rfl (hb hby at_41) rfl ?_
    show Steps p.tables e below (T8.setTop (mkF m 42 #[.val (.int p1), .val (.int p2), .val (.int p3), .val (.int p4), .val (.int p5), .val (.int (2 : Int32)), .val (.int (0 : Int32)), .val (.ref b4), .unset, .unset, .unset, .unset] [(.int p4), (.int (1 : Int32)), (.ref b4)])) _
    refine XS.i2b X8.here hx rfl (hb hby at_42) rfl ?_
    exact kt)
  obtain ⟨clq11, Arq11, ckq11, cSq11, cNq11, cHq11, cGq11⟩ := id V8
  obtain ⟨T12, h12, X12', e12, W12, st12⟩ := stB X8 hx hZ e8 Arq11 (j := (1 : Int32)) (inb_of cSq11 ⟨by decide, by decide⟩) (g := (mkF m 43 #[.val (.int p1), .val (.int p2), .val (.int p3), .val (.int p4), .val (.int p5), .val (.int (2 : Int32)), .val (.int (0 : Int32)), .val (.ref b4), .unset, .unset, .unset, .unset] [(.int (p4.toInt8.toInt32)), (.int (1 : Int32)), (.ref b4)])) rfl rfl (hb hby at_43)
  obtain ⟨lc12, X12, N12⟩ : ∃ lc, Stand p l e room_1 s m #[(.int p1), (.int p2), (.int p3), (.int p4), (.int p5)] below meth c T12 lc 1 2 ∧ Fr n0 lc := ⟨_, X12', Fr.snoc X12' N8 (Nat.le_trans Z0 (Nat.le_trans (Keep.refl h0 []).1 (Nat.le_of_eq g4.symm)))⟩
  have V12 : Arv Z h12 b4 k4 .byte (2 : Int32) [(.int (nar .byte (p3.toInt8.toInt32))), (.int (nar .byte (p4.toInt8.toInt32)))] (.int (0 : Int32)) := Arv.set Arq11 ckq11 cSq11 cNq11 cHq11 cGq11 (fits_nar_byte _) W12 1 rfl (Nat.le_of_ble_eq_true rfl)
  have K13 : Gx p e below s₁ f0 T12 (mkF m 44 #[.val (.int p1), .val (.int p2), .val (.int p3), .val (.int p4), .val (.int p5), .val (.int (2 : Int32)), .val (.int (0 : Int32)), .val (.ref b4), .unset, .unset, .unset, .unset] []) := fun t kt => K10 t (st12 t kt)
  have K14 : Gx p e below s₁ f0 T12 (mkF m 57 #[.val (.int p1), .val (.int p2), .val (.int p3), .val (.int p4), .val (.int p5), .val (.int (2 : Int32)), .val (.int (0 : Int32)), .val (.ref b4), .unset, .unset, .unset, .unset] []) := fun t kt => K13 t (by
    show Steps p.tables e below (T12.setTop (mkF m 44 #[.val (.int p1), .val (.int p2), .val (.int p3), .val (.int p4), .val (.int p5), .val (.int (2 : Int32)), .val (.int (0 : Int32)), .val (.ref b4), .unset, .unset, .unset, .unset] [])) _
    refine XS.iload X12.here hx rfl (hb hby at_44) rfl ?_
    show Steps p.tables e below (T12.setTop (mkF m 46 #[.val (.int p1), .val (.int p2), .val (.int p3), .val (.int p4), .val (.int p5), .val (.int (2 : Int32)), .val (.int (0 : Int32)), .val (.ref b4), .unset, .unset, .unset, .unset] [(.int (2 : Int32))])) _
    refine XS.iconst X12.here hx rfl (hb hby at_46) ?_
    show Steps p.tables e below (T12.setTop (mkF m 47 #[.val (.int p1), .val (.int p2), .val (.int p3), .val (.int p4), .val (.int p5), .val (.int (2 : Int32)), .val (.int (0 : Int32)), .val (.ref b4), .unset, .unset, .unset, .unset] [(.int (2 : Int32)), (.int (2 : Int32))])) _
    refine XS.icmpYes X12.here hx rfl (pc0 := 47) (pc' := 57) rfl (hb hby at_47) rfl (flt (by decide)).2.2.2 (by decide) (by decide) ?_
    exact kt)
  obtain ⟨T15, h15, X15, e15, E15, A15, D15, -, st15⟩ := newO X12 hx hZ hown (hw _ (List.mem_of_getElem? (i := 1) rfl)) (hw _ (List.mem_of_getElem? (i := 2) rfl)) (hw _ (List.mem_of_getElem? (i := 3) rfl)) e12 (g := (mkF m 57 #[.val (.int p1), .val (.int p2), .val (.int p3), .val (.int p4), .val (.int p5), .val (.int (2 : Int32)), .val (.int (0 : Int32)), .val (.ref b4), .unset, .unset, .unset, .unset] [])) rfl (hb hby at_57) (by decide) (by decide)
  obtain ⟨b15, g15⟩ : ∃ z, z = h12.size := ⟨_, rfl⟩
  rw [← g15] at A15 D15 st15
  have f16 : Fld Z h15 b15 "com/example/looseleaf/looseleaf/pgwire/MessageBody" "bytes" "[B" .null := D15 (Or.inr (hw _ (List.mem_of_getElem? (i := 11) rfl))) (ty := (.array .byte)) (by decide)
  have f17 : Fld Z h15 b15 "com/example/looseleaf/looseleaf/pgwire/MessageBody" "at" "I" (.int (0 : Int32)) := D15 (Or.inl (hw _ (List.mem_of_getElem? (i := 18) rfl))) (ty := .int) (by decide)
  have K18 : Gx p e below s₁ f0 T15 (mkF m 60 #[.val (.int p1), .val (.int p2), .val (.int p3), .val (.int p4), .val (.int p5), .val (.int (2 : Int32)), .val (.int (0 : Int32)), .val (.ref b4), .unset, .unset, .unset, .unset] [(.ref b15)]) := fun t kt => K14 t (st15 t kt)
  have K19 : Gx p e below s₁ f0 T15 (mkF m 63 #[.val (.int p1), .val (.int p2), .val (.int p3), .val (.int p4), .val (.int p5), .val (.int (2 : Int32)), .val (.int (0 : Int32)), .val (.ref b4), .unset, .unset, .unset, .unset] [(.ref b4), (.ref b15), (.ref b15)]) := fun t kt => K18 t (by
    show Steps p.tables e below (T15.setTop (mkF m 60 #[.val (.int p1), .val (.int p2), .val (.int p3), .val (.int p4), .val (.int p5), .val (.int (2 : Int32)), .val (.int (0 : Int32)), .val (.ref b4), .unset, .unset, .unset, .unset] [(.ref b15)])) _
    refine XS.dup X15.here hx rfl (hb hby at_60) rfl rfl ?_
    show Steps p.tables e below (T15.setTop (mkF m 61 #[.val (.int p1), .val (.int p2), .val (.int p3), .val (.int p4), .val (.int p5), .val (.int (2 : Int32)), .val (.int (0 : Int32)), .val (.ref b4), .unset, .unset, .unset, .unset] [(.ref b15), (.ref b15)])) _
    refine XS.aload X15.here hx rfl (hb hby at_61) rfl rfl ?_
    exact kt)
  have kp20 : Keep h0 h15 [] := (((((Keep.refl h0 []).ext E4).wr W8 (Or.inr (Nat.le_trans (Keep.refl h0 []).1 (Nat.le_of_eq g4.symm)))).wr W12 (Or.inr (Nat.le_trans (Keep.refl h0 []).1 (Nat.le_of_eq g4.symm)))).ext E15)
  obtain ⟨_, _, ⟨T21, L21, k21, n21⟩, -, X21', ⟨Lc21, hQ21, l21, y21, z21⟩, st21⟩ := X15.specialBack hx (y := (⟨"com/example/looseleaf/looseleaf/pgwire/MessageBody", "<init>", "([B)V"⟩ : MethodName)) rfl hown (mvT hZ (hw _ (List.mem_of_getElem? (i := 4) rfl))) (mvT hZ (hw _ (List.mem_of_getElem? (i := 5) rfl))) (mvT hZ (hw _ (List.mem_of_getElem? (i := 6) rfl))) (by decide) (backOf (W := 1) (rmIni l Z a0 hw [] b15 b4 h15 n0 (Nat.le_trans Z0 kp20.1) A15 (Nat.le_trans Z0 (Nat.le_trans ((((Keep.refl h0 []).ext E4).wr W8 (Or.inr (Nat.le_trans (Keep.refl h0 []).1 (Nat.le_of_eq g4.symm)))).wr W12 (Or.inr (Nat.le_trans (Keep.refl h0 []).1 (Nat.le_of_eq g4.symm)))).1 (Nat.le_of_eq g15.symm))) f16 f17) hZ (hw _ (List.mem_of_getElem? (i := 6) rfl)) (hw _ (List.mem_of_getElem? (i := 3) rfl)) (by decide) (by decide)) (g := (mkF m 63 #[.val (.int p1), .val (.int p2), .val (.int p3), .val (.int p4), .val (.int p5), .val (.int (2 : Int32)), .val (.int (0 : Int32)), .val (.ref b4), .unset, .unset, .unset, .unset] [(.ref b4), (.ref b15), (.ref b15)])) rfl (by rw [hml]; rfl) (Steps.refl _) (a := b15) (argsL := [(.ref b4)]) (rest := [(.ref b15)]) (lenOf pd___B_V rfl) rfl (by show 2 * 0 + _ ≤ _; exact Nat.le_of_eq rfl) (hb hby at_63) (fun _ _ => ⟨rfl, e15, (by decide : 2 + 0 ≤ _), (by decide : 4 + 0 ≤ _)⟩)
  dsimp only [Pt.U, Pt.locs, Pt.cells, Pt.slots] at X21' l21 y21 z21 st21 hQ21
  subst l21 y21 z21
  obtain ⟨h21, e21⟩ : ∃ z, T21.heap = z := ⟨_, rfl⟩
  rw [e21] at hQ21
  obtain ⟨rfl, N21q, Kc21, f22, f23, f24⟩ := hQ21
  obtain ⟨lc21, X21, N21⟩ : ∃ lc, Stand p l e room_1 s m #[(.int p1), (.int p2), (.int p3), (.int p4), (.int p5)] below meth c T21 lc 2 4 ∧ Fr n0 lc := ⟨_, X21', Fr.app N12 N21q⟩
  have K25 : Gx p e below s₁ f0 T21 (mkF m 66 #[.val (.int p1), .val (.int p2), .val (.int p3), .val (.int p4), .val (.int p5), .val (.int (2 : Int32)), .val (.int (0 : Int32)), .val (.ref b4), .unset, .unset, .unset, .unset] [(.ref b15)]) := fun t kt => K19 t (st21.trans kt)
  have f26 : Arv Z h21 b4 k4 .byte (2 : Int32) [(.int (nar .byte (p3.toInt8.toInt32))), (.int (nar .byte (p4.toInt8.toInt32)))] (.int (0 : Int32)) := ((V12.ext E15).keep Kc21 (ninS (Nat.ne_of_lt (Nat.lt_of_lt_of_le V12.lt (Nat.le_of_eq g15.symm))) nin0))
  obtain ⟨clq27, Arq27, ckq27, cSq27, cNq27, cHq27, cGq27⟩ := id f26
  have K30 : Gx p e below s₁ f0 T21 (mkF m 116 #[.val (.int p1), .val (.int p2), .val (.int p3), .val (.int p4), .val (.int p5), .val (.int (2 : Int32)), .val (.int (0 : Int32)), .val (.ref b4), .val (.ref b15), .unset, .unset, .unset] [(.int (nar .byte (p3.toInt8.toInt32)))]) := fun t kt => K25 t (by
    show Steps p.tables e below (T21.setTop (mkF m 66 #[.val (.int p1), .val (.int p2), .val (.int p3), .val (.int p4), .val (.int p5), .val (.int (2 : Int32)), .val (.int (0 : Int32)), .val (.ref b4), .unset, .unset, .unset, .unset] [(.ref b15)])) _
    refine XS.astore X21.here hx rfl (hb hby at_66) rfl rfl (l' := #[.val (.int p1), .val (.int p2), .val (.int p3), .val (.int p4), .val (.int p5), .val (.int (2 : Int32)), .val (.int (0 : Int32)), .val (.ref b4), .val (.ref b15), .unset, .unset, .unset]) rfl ?_
    show Steps p.tables e below (T21.setTop (mkF m 68 #[.val (.int p1), .val (.int p2), .val (.int p3), .val (.int p4), .val (.int p5), .val (.int (2 : Int32)), .val (.int (0 : Int32)), .val (.ref b4), .val (.ref b15), .unset, .unset, .unset] [])) _
    refine XS.iload X21.here hx rfl (hb hby at_68) rfl ?_
    show Steps p.tables e below (T21.setTop (mkF m 70 #[.val (.int p1), .val (.int p2), .val (.int p3), .val (.int p4), .val (.int p5), .val (.int (2 : Int32)), .val (.int (0 : Int32)), .val (.ref b4), .val (.ref b15), .unset, .unset, .unset] [(.int (0 : Int32))])) _
    refine XS.iconst X21.here hx rfl (hb hby at_70) ?_
    show Steps p.tables e below (T21.setTop (mkF m 71 #[.val (.int p1), .val (.int p2), .val (.int p3), .val (.int p4), .val (.int p5), .val (.int (2 : Int32)), .val (.int (0 : Int32)), .val (.ref b4), .val (.ref b15), .unset, .unset, .unset] [(.int (1 : Int32)), (.int (0 : Int32))])) _
    refine XS.icmpYes X21.here hx rfl (pc0 := 71) (pc' := 80) rfl (hb hby at_71) rfl (tlt (by decide)).1 (by decide) (by decide) ?_
    show Steps p.tables e below (T21.setTop (mkF m 80 #[.val (.int p1), .val (.int p2), .val (.int p3), .val (.int p4), .val (.int p5), .val (.int (2 : Int32)), .val (.int (0 : Int32)), .val (.ref b4), .val (.ref b15), .unset, .unset, .unset] [])) _
    refine XS.iload X21.here hx rfl (hb hby at_80) rfl ?_
    show Steps p.tables e below (T21.setTop (mkF m 82 #[.val (.int p1), .val (.int p2), .val (.int p3), .val (.int p4), .val (.int p5), .val (.int (2 : Int32)), .val (.int (0 : Int32)), .val (.ref b4), .val (.ref b15), .unset, .unset, .unset] [(.int (0 : Int32))])) _
    refine XS.iconst X21.here hx rfl (hb hby at_82) ?_
    show Steps p.tables e below (T21.setTop (mkF m 83 #[.val (.int p1), .val (.int p2), .val (.int p3), .val (.int p4), .val (.int p5), .val (.int (2 : Int32)), .val (.int (0 : Int32)), .val (.ref b4), .val (.ref b15), .unset, .unset, .unset] [(.int (2 : Int32)), (.int (0 : Int32))])) _
    refine XS.icmpYes X21.here hx rfl (pc0 := 83) (pc' := 92) rfl (hb hby at_83) rfl (tlt (by decide)).1 (by decide) (by decide) ?_
    show Steps p.tables e below (T21.setTop (mkF m 92 #[.val (.int p1), .val (.int p2), .val (.int p3), .val (.int p4), .val (.int p5), .val (.int (2 : Int32)), .val (.int (0 : Int32)), .val (.ref b4), .val (.ref b15), .unset, .unset, .unset] [])) _
    refine XS.iload X21.here hx rfl (hb hby at_92) rfl ?_
    show Steps p.tables e below (T21.setTop (mkF m 94 #[.val (.int p1), .val (.int p2), .val (.int p3), .val (.int p4), .val (.int p5), .val (.int (2 : Int32)), .val (.int (0 : Int32)), .val (.ref b4), .val (.ref b15), .unset, .unset, .unset] [(.int (0 : Int32))])) _
    refine XS.iconst X21.here hx rfl (hb hby at_94) ?_
    show Steps p.tables e below (T21.setTop (mkF m 95 #[.val (.int p1), .val (.int p2), .val (.int p3), .val (.int p4), .val (.int p5), .val (.int (2 : Int32)), .val (.int (0 : Int32)), .val (.ref b4), .val (.ref b15), .unset, .unset, .unset] [(.int (3 : Int32)), (.int (0 : Int32))])) _
    refine XS.icmpYes X21.here hx rfl (pc0 := 95) (pc' := 104) rfl (hb hby at_95) rfl (tlt (by decide)).1 (by decide) (by decide) ?_
    show Steps p.tables e below (T21.setTop (mkF m 104 #[.val (.int p1), .val (.int p2), .val (.int p3), .val (.int p4), .val (.int p5), .val (.int (2 : Int32)), .val (.int (0 : Int32)), .val (.ref b4), .val (.ref b15), .unset, .unset, .unset] [])) _
    refine XS.iload X21.here hx rfl (hb hby at_104) rfl ?_
    show Steps p.tables e below (T21.setTop (mkF m 106 #[.val (.int p1), .val (.int p2), .val (.int p3), .val (.int p4), .val (.int p5), .val (.int (2 : Int32)), .val (.int (0 : Int32)), .val (.ref b4), .val (.ref b15), .unset, .unset, .unset] [(.int (0 : Int32))])) _
    refine XS.iload X21.here hx rfl (hb hby at_106) rfl ?_
    show Steps p.tables e below (T21.setTop (mkF m 108 #[.val (.int p1), .val (.int p2), .val (.int p3), .val (.int p4), .val (.int p5), .val (.int (2 : Int32)), .val (.int (0 : Int32)), .val (.ref b4), .val (.ref b15), .unset, .unset, .unset] [(.int (2 : Int32)), (.int (0 : Int32))])) _
    refine XS.icmpNo X21.here hx rfl (hb hby at_108) rfl (tlt (by decide)).2.1 ?_
    show Steps p.tables e below (T21.setTop (mkF m 111 #[.val (.int p1), .val (.int p2), .val (.int p3), .val (.int p4), .val (.int p5), .val (.int (2 : Int32)), .val (.int (0 : Int32)), .val (.ref b4), .val (.ref b15), .unset, .unset, .unset] [])) _
    refine XS.aload X21.here hx rfl (hb hby at_111) rfl rfl ?_
    show Steps p.tables e below (T21.setTop (mkF m 113 #[.val (.int p1), .val (.int p2), .val (.int p3), .val (.int p4), .val (.int p5), .val (.int (2 : Int32)), .val (.int (0 : Int32)), .val (.ref b4), .val (.ref b15), .unset, .unset, .unset] [(.ref b4)])) _
    refine XS.iload X21.here hx rfl (hb hby at_113) rfl ?_
    show Steps p.tables e below (T21.setTop (mkF m 115 #[.val (.int p1), .val (.int p2), .val (.int p3), .val (.int p4), .val (.int p5), .val (.int (2 : Int32)), .val (.int (0 : Int32)), .val (.ref b4), .val (.ref b15), .unset, .unset, .unset] [(.int (0 : Int32)), (.ref b4)])) _
    refine X21.baloadBytes hx (j := (0 : Int32)) (v := (.int (nar .byte (p3.toInt8.toInt32)))) (by rw [e21]; exact Arq27.1) (State.isArrayOf_alike hZ.alike Arq27.2.1) Arq27.2.2 (inb_of cSq27 ⟨by decide, by decide⟩) (Has.at cHq27 (inb_of cSq27 ⟨by decide, by decide⟩) rfl) (g := (mkF m 115 #[.val (.int p1), .val (.int p2), .val (.int p3), .val (.int p4), .val (.int p5), .val (.int (2 : Int32)), .val (.int (0 : Int32)), .val (.ref b4), .val (.ref b15), .unset, .unset, .unset] [(.int (0 : Int32)), (.ref b4)])) rfl rfl (hb hby at_115) _ ?_
    exact kt)
  obtain ⟨v29, hv29⟩ : ∃ z : Int32, z = (if (nar .byte (p3.toInt8.toInt32)) = (0 : Int32) then (1 : Int32) else (0 : Int32)) := ⟨_, rfl⟩
  have K31 : Gx p e below s₁ f0 T21 (mkF m 124 #[.val (.int p1), .val (.int p2), .val (.int p3), .val (.int p4), .val (.int p5), .val (.int (2 : Int32)), .val (.int (0 : Int32)), .val (.ref b4), .val (.ref b15), .unset, .unset, .unset] [(.int v29)]) := fun t kt => K30 t (by
    by_cases hc116_27 : (nar .byte (p3.toInt8.toInt32)) = (0 : Int32)
    · skip
      show Steps p.tables e below (T21.setTop (mkF m 116 #[.val (.int p1), .val (.int p2), .val (.int p3), .val (.int p4), .val (.int p5), .val (.int (2 : Int32)), .val (.int (0 : Int32)), .val (.ref b4), .val (.ref b15), .unset, .unset, .unset] [(.int (nar .byte (p3.toInt8.toInt32)))])) _
      refine XS.ifNo X21.here hx rfl (hb hby at_116) rfl ((if0 _ _).trans (teq hc116_27).2) ?_
      show Steps p.tables e below (T21.setTop (mkF m 119 #[.val (.int p1), .val (.int p2), .val (.int p3), .val (.int p4), .val (.int p5), .val (.int (2 : Int32)), .val (.int (0 : Int32)), .val (.ref b4), .val (.ref b15), .unset, .unset, .unset] [])) _
      refine XS.iconst X21.here hx rfl (hb hby at_119) ?_
      show Steps p.tables e below (T21.setTop (mkF m 120 #[.val (.int p1), .val (.int p2), .val (.int p3), .val (.int p4), .val (.int p5), .val (.int (2 : Int32)), .val (.int (0 : Int32)), .val (.ref b4), .val (.ref b15), .unset, .unset, .unset] [(.int (1 : Int32))])) _
      refine XS.goto X21.here hx rfl (pc0 := 120) (pc' := 124) rfl (hb hby at_120) (by decide) (by decide) ?_
      show Steps p.tables e below (T21.setTop (mkF m 124 #[.val (.int p1), .val (.int p2), .val (.int p3), .val (.int p4), .val (.int p5), .val (.int (2 : Int32)), .val (.int (0 : Int32)), .val (.ref b4), .val (.ref b15), .unset, .unset, .unset] [(.int (1 : Int32))])) _
      exact castTop (by simp only [hv29, if_pos hc116_27]) kt
    · skip
      show Steps p.tables e below (T21.setTop (mkF m 116 #[.val (.int p1), .val (.int p2), .val (.int p3), .val (.int p4), .val (.int p5), .val (.int (2 : Int32)), .val (.int (0 : Int32)), .val (.ref b4), .val (.ref b15), .unset, .unset, .unset] [(.int (nar .byte (p3.toInt8.toInt32)))])) _
      refine XS.ifYes X21.here hx rfl (pc0 := 116) (pc' := 123) rfl (hb hby at_116) rfl ((if0 _ _).trans (feq hc116_27).2) (by decide) (by decide) ?_
      show Steps p.tables e below (T21.setTop (mkF m 123 #[.val (.int p1), .val (.int p2), .val (.int p3), .val (.int p4), .val (.int p5), .val (.int (2 : Int32)), .val (.int (0 : Int32)), .val (.ref b4), .val (.ref b15), .unset, .unset, .unset] [])) _
      refine XS.iconst X21.here hx rfl (hb hby at_123) ?_
      show Steps p.tables e below (T21.setTop (mkF m 124 #[.val (.int p1), .val (.int p2), .val (.int p3), .val (.int p4), .val (.int p5), .val (.int (2 : Int32)), .val (.int (0 : Int32)), .val (.ref b4), .val (.ref b15), .unset, .unset, .unset] [(.int (0 : Int32))])) _
      exact castTop (by simp only [hv29, if_neg hc116_27]) kt)
  have K32 : Gx p e below s₁ f0 T21 (mkF m 128 #[.val (.int p1), .val (.int p2), .val (.int p3), .val (.int p4), .val (.int p5), .val (.int (2 : Int32)), .val (.int (0 : Int32)), .val (.ref b4), .val (.ref b15), .val (.int v29), .unset, .unset] [(.ref b15)]) := fun t kt => K31 t (by
    show Steps p.tables e below (T21.setTop (mkF m 124 #[.val (.int p1), .val (.int p2), .val (.int p3), .val (.int p4), .val (.int p5), .val (.int (2 : Int32)), .val (.int (0 : Int32)), .val (.ref b4), .val (.ref b15), .unset, .unset, .unset] [(.int v29)])) _
    refine XS.istore X21.here hx rfl (hb hby at_124) rfl (l' := #[.val (.int p1), .val (.int p2), .val (.int p3), .val (.int p4), .val (.int p5), .val (.int (2 : Int32)), .val (.int (0 : Int32)), .val (.ref b4), .val (.ref b15), .val (.int v29), .unset, .unset]) rfl ?_
    show Steps p.tables e below (T21.setTop (mkF m 126 #[.val (.int p1), .val (.int p2), .val (.int p3), .val (.int p4), .val (.int p5), .val (.int (2 : Int32)), .val (.int (0 : Int32)), .val (.ref b4), .val (.ref b15), .val (.int v29), .unset, .unset] [])) _
    refine XS.aload X21.here hx rfl (hb hby at_126) rfl rfl ?_
    exact kt)
  have kp33 : Keep h0 h21 [] := (Keep.trans kp20 Kc21 (allS (Or.inr (Nat.le_trans ((((Keep.refl h0 []).ext E4).wr W8 (Or.inr (Nat.le_trans (Keep.refl h0 []).1 (Nat.le_of_eq g4.symm)))).wr W12 (Or.inr (Nat.le_trans (Keep.refl h0 []).1 (Nat.le_of_eq g4.symm)))).1 (Nat.le_of_eq g15.symm))) all0))
  obtain ⟨cq34, kq34, q34a, q34b, q34c⟩ := isOf hZ e21 f22
  obtain ⟨_, _, ⟨T34, L34, k34, n34⟩, -, X34', ⟨Lc34, hQ34, l34, y34, z34⟩, st34⟩ := X21.virtualBack hx (y := (⟨"com/example/looseleaf/looseleaf/pgwire/MessageBody", "atNul", "()Z"⟩ : MethodName)) (z := (⟨"com/example/looseleaf/looseleaf/pgwire/MessageBody", "atNul", "()Z"⟩ : MethodName)) hown (mvT hZ (hw _ (List.mem_of_getElem? (i := 12) rfl))) (mvT hZ (hw _ (List.mem_of_getElem? (i := 13) rfl))) (notFace_of_selects (args := #[]) (mvT hZ (hw _ (List.mem_of_getElem? (i := 15) rfl)))) (mvT hZ (hw _ (List.mem_of_getElem? (i := 15) rfl))) (mvT hZ (hw _ (List.mem_of_getElem? (i := 14) rfl))) (by decide) (backOf (W := 0) (rmAt1 l Z a0 hw [] b15 b4 (0 : Int32) k4 (2 : Int32) [(.int (nar .byte (p3.toInt8.toInt32))), (.int (nar .byte (p4.toInt8.toInt32)))] (nar .byte (p3.toInt8.toInt32)) h21 n0 (Nat.le_trans Z0 kp33.1) f23 f24 f26 (by decide) ⟨by decide, by decide⟩ rfl) hZ (hw _ (List.mem_of_getElem? (i := 16) rfl)) (hw _ (List.mem_of_getElem? (i := 3) rfl)) (by decide) (by decide)) q34a q34c (g := (mkF m 128 #[.val (.int p1), .val (.int p2), .val (.int p3), .val (.int p4), .val (.int p5), .val (.int (2 : Int32)), .val (.int (0 : Int32)), .val (.ref b4), .val (.ref b15), .val (.int v29), .unset, .unset] [(.ref b15)])) rfl (by rw [hml]; rfl) (Steps.refl _) (argsL := []) (rest := []) (lenOf pd___Z rfl) rfl (by show 2 * 0 + _ ≤ _; exact Nat.le_of_eq rfl) (hb hby at_128) (fun _ _ => ⟨rfl, e21, (by decide : 2 + 0 ≤ _), (by decide : 4 + 0 ≤ _)⟩)
  dsimp only [Pt.U, Pt.locs, Pt.cells, Pt.slots] at X34' l34 y34 z34 st34 hQ34
  subst l34 y34 z34
  obtain ⟨rfl, N34q, e34⟩ := hQ34
  obtain ⟨lc34, X34, N34⟩ : ∃ lc, Stand p l e room_1 s m #[(.int p1), (.int p2), (.int p3), (.int p4), (.int p5)] below meth c T34 lc 2 4 ∧ Fr n0 lc := ⟨_, X34', Fr.app N21 N34q⟩
  have K35 : Gx p e below s₁ f0 T34 (mkF m 131 #[.val (.int p1), .val (.int p2), .val (.int p3), .val (.int p4), .val (.int p5), .val (.int (2 : Int32)), .val (.int (0 : Int32)), .val (.ref b4), .val (.ref b15), .val (.int v29), .unset, .unset] [(.int (if (nar .byte (p3.toInt8.toInt32)) = (0 : Int32) then (1 : Int32) else (0 : Int32)))]) := fun t kt => K32 t (st34.trans kt)
  have K36 : Gx p e below s₁ f0 T34 (mkF m 135 #[.val (.int p1), .val (.int p2), .val (.int p3), .val (.int p4), .val (.int p5), .val (.int (2 : Int32)), .val (.int (0 : Int32)), .val (.ref b4), .val (.ref b15), .val (.int v29), .val (.int (if (nar .byte (p3.toInt8.toInt32)) = (0 : Int32) then (1 : Int32) else (0 : Int32))), .unset] [(.ref b15)]) := fun t kt => K35 t (by
    show Steps p.tables e below (T34.setTop (mkF m 131 #[.val (.int p1), .val (.int p2), .val (.int p3), .val (.int p4), .val (.int p5), .val (.int (2 : Int32)), .val (.int (0 : Int32)), .val (.ref b4), .val (.ref b15), .val (.int v29), .unset, .unset] [(.int (if (nar .byte (p3.toInt8.toInt32)) = (0 : Int32) then (1 : Int32) else (0 : Int32)))])) _
    refine XS.istore X34.here hx rfl (hb hby at_131) rfl (l' := #[.val (.int p1), .val (.int p2), .val (.int p3), .val (.int p4), .val (.int p5), .val (.int (2 : Int32)), .val (.int (0 : Int32)), .val (.ref b4), .val (.ref b15), .val (.int v29), .val (.int (if (nar .byte (p3.toInt8.toInt32)) = (0 : Int32) then (1 : Int32) else (0 : Int32))), .unset]) rfl ?_
    show Steps p.tables e below (T34.setTop (mkF m 133 #[.val (.int p1), .val (.int p2), .val (.int p3), .val (.int p4), .val (.int p5), .val (.int (2 : Int32)), .val (.int (0 : Int32)), .val (.ref b4), .val (.ref b15), .val (.int v29), .val (.int (if (nar .byte (p3.toInt8.toInt32)) = (0 : Int32) then (1 : Int32) else (0 : Int32))), .unset] [])) _
    refine XS.aload X34.here hx rfl (hb hby at_133) rfl rfl ?_
    exact kt)
  obtain ⟨cq37, kq37, q37a, q37b, q37c⟩ := isOf hZ e34 f22
  obtain ⟨_, _, ⟨T37, L37, k37, n37⟩, -, X37', ⟨Lc37, hQ37, l37, y37, z37⟩, st37⟩ := X34.virtualBack hx (y := (⟨"com/example/looseleaf/looseleaf/pgwire/MessageBody", "atNul", "()Z"⟩ : MethodName)) (z := (⟨"com/example/looseleaf/looseleaf/pgwire/MessageBody", "atNul", "()Z"⟩ : MethodName)) hown (mvT hZ (hw _ (List.mem_of_getElem? (i := 12) rfl))) (mvT hZ (hw _ (List.mem_of_getElem? (i := 13) rfl))) (notFace_of_selects (args := #[]) (mvT hZ (hw _ (List.mem_of_getElem? (i := 15) rfl)))) (mvT hZ (hw _ (List.mem_of_getElem? (i := 15) rfl))) (mvT hZ (hw _ (List.mem_of_getElem? (i := 14) rfl))) (by decide) (backOf (W := 0) (rmAt1 l Z a0 hw [] b15 b4 (0 : Int32) k4 (2 : Int32) [(.int (nar .byte (p3.toInt8.toInt32))), (.int (nar .byte (p4.toInt8.toInt32)))] (nar .byte (p3.toInt8.toInt32)) h21 n0 (Nat.le_trans Z0 kp33.1) f23 f24 f26 (by decide) ⟨by decide, by decide⟩ rfl) hZ (hw _ (List.mem_of_getElem? (i := 16) rfl)) (hw _ (List.mem_of_getElem? (i := 3) rfl)) (by decide) (by decide)) q37a q37c (g := (mkF m 135 #[.val (.int p1), .val (.int p2), .val (.int p3), .val (.int p4), .val (.int p5), .val (.int (2 : Int32)), .val (.int (0 : Int32)), .val (.ref b4), .val (.ref b15), .val (.int v29), .val (.int (if (nar .byte (p3.toInt8.toInt32)) = (0 : Int32) then (1 : Int32) else (0 : Int32))), .unset] [(.ref b15)])) rfl (by rw [hml]; rfl) (Steps.refl _) (argsL := []) (rest := []) (lenOf pd___Z rfl) rfl (by show 2 * 0 + _ ≤ _; exact Nat.le_of_eq rfl) (hb hby at_135) (fun _ _ => ⟨rfl, e34, (by decide : 2 + 0 ≤ _), (by decide : 4 + 0 ≤ _)⟩)
  dsimp only [Pt.U, Pt.locs, Pt.cells, Pt.slots] at X37' l37 y37 z37 st37 hQ37
  subst l37 y37 z37
  obtain ⟨rfl, N37q, e37⟩ := hQ37
  obtain ⟨lc37, X37, N37⟩ : ∃ lc, Stand p l e room_1 s m #[(.int p1), (.int p2), (.int p3), (.int p4), (.int p5)] below meth c T37 lc 2 4 ∧ Fr n0 lc := ⟨_, X37', Fr.app N34 N37q⟩
  have K38 : Gx p e below s₁ f0 T37 (mkF m 138 #[.val (.int p1), .val (.int p2), .val (.int p3), .val (.int p4), .val (.int p5), .val (.int (2 : Int32)), .val (.int (0 : Int32)), .val (.ref b4), .val (.ref b15), .val (.int v29), .val (.int (if (nar .byte (p3.toInt8.toInt32)) = (0 : Int32) then (1 : Int32) else (0 : Int32))), .unset] [(.int (if (nar .byte (p3.toInt8.toInt32)) = (0 : Int32) then (1 : Int32) else (0 : Int32)))]) := fun t kt => K36 t (st37.trans kt)
  have K39 : Gx p e below s₁ f0 T37 (mkF m 165 #[.val (.int p1), .val (.int p2), .val (.int p3), .val (.int p4), .val (.int p5), .val (.int (2 : Int32)), .val (.int (0 : Int32)), .val (.ref b4), .val (.ref b15), .val (.int v29), .val (.int (if (nar .byte (p3.toInt8.toInt32)) = (0 : Int32) then (1 : Int32) else (0 : Int32))), .val (.int (if (nar .byte (p3.toInt8.toInt32)) = (0 : Int32) then (1 : Int32) else (0 : Int32)))] [(.ref b15)]) := fun t kt => K38 t (by
    show Steps p.tables e below (T37.setTop (mkF m 138 #[.val (.int p1), .val (.int p2), .val (.int p3), .val (.int p4), .val (.int p5), .val (.int (2 : Int32)), .val (.int (0 : Int32)), .val (.ref b4), .val (.ref b15), .val (.int v29), .val (.int (if (nar .byte (p3.toInt8.toInt32)) = (0 : Int32) then (1 : Int32) else (0 : Int32))), .unset] [(.int (if (nar .byte (p3.toInt8.toInt32)) = (0 : Int32) then (1 : Int32) else (0 : Int32)))])) _
    refine XS.istore X37.here hx rfl (hb hby at_138) rfl (l' := #[.val (.int p1), .val (.int p2), .val (.int p3), .val (.int p4), .val (.int p5), .val (.int (2 : Int32)), .val (.int (0 : Int32)), .val (.ref b4), .val (.ref b15), .val (.int v29), .val (.int (if (nar .byte (p3.toInt8.toInt32)) = (0 : Int32) then (1 : Int32) else (0 : Int32))), .val (.int (if (nar .byte (p3.toInt8.toInt32)) = (0 : Int32) then (1 : Int32) else (0 : Int32)))]) rfl ?_
    show Steps p.tables e below (T37.setTop (mkF m 140 #[.val (.int p1), .val (.int p2), .val (.int p3), .val (.int p4), .val (.int p5), .val (.int (2 : Int32)), .val (.int (0 : Int32)), .val (.ref b4), .val (.ref b15), .val (.int v29), .val (.int (if (nar .byte (p3.toInt8.toInt32)) = (0 : Int32) then (1 : Int32) else (0 : Int32))), .val (.int (if (nar .byte (p3.toInt8.toInt32)) = (0 : Int32) then (1 : Int32) else (0 : Int32)))] [])) _
    refine XS.iload X37.here hx rfl (hb hby at_140) rfl ?_
    show Steps p.tables e below (T37.setTop (mkF m 142 #[.val (.int p1), .val (.int p2), .val (.int p3), .val (.int p4), .val (.int p5), .val (.int (2 : Int32)), .val (.int (0 : Int32)), .val (.ref b4), .val (.ref b15), .val (.int v29), .val (.int (if (nar .byte (p3.toInt8.toInt32)) = (0 : Int32) then (1 : Int32) else (0 : Int32))), .val (.int (if (nar .byte (p3.toInt8.toInt32)) = (0 : Int32) then (1 : Int32) else (0 : Int32)))] [(.int (if (nar .byte (p3.toInt8.toInt32)) = (0 : Int32) then (1 : Int32) else (0 : Int32)))])) _
    refine XS.iload X37.here hx rfl (hb hby at_142) rfl ?_
    show Steps p.tables e below (T37.setTop (mkF m 144 #[.val (.int p1), .val (.int p2), .val (.int p3), .val (.int p4), .val (.int p5), .val (.int (2 : Int32)), .val (.int (0 : Int32)), .val (.ref b4), .val (.ref b15), .val (.int v29), .val (.int (if (nar .byte (p3.toInt8.toInt32)) = (0 : Int32) then (1 : Int32) else (0 : Int32))), .val (.int (if (nar .byte (p3.toInt8.toInt32)) = (0 : Int32) then (1 : Int32) else (0 : Int32)))] [(.int v29), (.int (if (nar .byte (p3.toInt8.toInt32)) = (0 : Int32) then (1 : Int32) else (0 : Int32)))])) _
    refine XS.icmpNo X37.here hx rfl (hb hby at_144) rfl (teq (by rw [hv29])).2 ?_
    show Steps p.tables e below (T37.setTop (mkF m 147 #[.val (.int p1), .val (.int p2), .val (.int p3), .val (.int p4), .val (.int p5), .val (.int (2 : Int32)), .val (.int (0 : Int32)), .val (.ref b4), .val (.ref b15), .val (.int v29), .val (.int (if (nar .byte (p3.toInt8.toInt32)) = (0 : Int32) then (1 : Int32) else (0 : Int32))), .val (.int (if (nar .byte (p3.toInt8.toInt32)) = (0 : Int32) then (1 : Int32) else (0 : Int32)))] [])) _
    refine XS.iload X37.here hx rfl (hb hby at_147) rfl ?_
    show Steps p.tables e below (T37.setTop (mkF m 149 #[.val (.int p1), .val (.int p2), .val (.int p3), .val (.int p4), .val (.int p5), .val (.int (2 : Int32)), .val (.int (0 : Int32)), .val (.ref b4), .val (.ref b15), .val (.int v29), .val (.int (if (nar .byte (p3.toInt8.toInt32)) = (0 : Int32) then (1 : Int32) else (0 : Int32))), .val (.int (if (nar .byte (p3.toInt8.toInt32)) = (0 : Int32) then (1 : Int32) else (0 : Int32)))] [(.int (if (nar .byte (p3.toInt8.toInt32)) = (0 : Int32) then (1 : Int32) else (0 : Int32)))])) _
    refine XS.iload X37.here hx rfl (hb hby at_149) rfl ?_
    show Steps p.tables e below (T37.setTop (mkF m 151 #[.val (.int p1), .val (.int p2), .val (.int p3), .val (.int p4), .val (.int p5), .val (.int (2 : Int32)), .val (.int (0 : Int32)), .val (.ref b4), .val (.ref b15), .val (.int v29), .val (.int (if (nar .byte (p3.toInt8.toInt32)) = (0 : Int32) then (1 : Int32) else (0 : Int32))), .val (.int (if (nar .byte (p3.toInt8.toInt32)) = (0 : Int32) then (1 : Int32) else (0 : Int32)))] [(.int v29), (.int (if (nar .byte (p3.toInt8.toInt32)) = (0 : Int32) then (1 : Int32) else (0 : Int32)))])) _
    refine XS.icmpYes X37.here hx rfl (pc0 := 151) (pc' := 156) rfl (hb hby at_151) rfl (teq (by rw [hv29])).1 (by decide) (by decide) ?_
    show Steps p.tables e below (T37.setTop (mkF m 156 #[.val (.int p1), .val (.int p2), .val (.int p3), .val (.int p4), .val (.int p5), .val (.int (2 : Int32)), .val (.int (0 : Int32)), .val (.ref b4), .val (.ref b15), .val (.int v29), .val (.int (if (nar .byte (p3.toInt8.toInt32)) = (0 : Int32) then (1 : Int32) else (0 : Int32))), .val (.int (if (nar .byte (p3.toInt8.toInt32)) = (0 : Int32) then (1 : Int32) else (0 : Int32)))] [])) _
    refine XS.iload X37.here hx rfl (hb hby at_156) rfl ?_
    show Steps p.tables e below (T37.setTop (mkF m 158 #[.val (.int p1), .val (.int p2), .val (.int p3), .val (.int p4), .val (.int p5), .val (.int (2 : Int32)), .val (.int (0 : Int32)), .val (.ref b4), .val (.ref b15), .val (.int v29), .val (.int (if (nar .byte (p3.toInt8.toInt32)) = (0 : Int32) then (1 : Int32) else (0 : Int32))), .val (.int (if (nar .byte (p3.toInt8.toInt32)) = (0 : Int32) then (1 : Int32) else (0 : Int32)))] [(.int (0 : Int32))])) _
    refine XS.iload X37.here hx rfl (hb hby at_158) rfl ?_
    show Steps p.tables e below (T37.setTop (mkF m 160 #[.val (.int p1), .val (.int p2), .val (.int p3), .val (.int p4), .val (.int p5), .val (.int (2 : Int32)), .val (.int (0 : Int32)), .val (.ref b4), .val (.ref b15), .val (.int v29), .val (.int (if (nar .byte (p3.toInt8.toInt32)) = (0 : Int32) then (1 : Int32) else (0 : Int32))), .val (.int (if (nar .byte (p3.toInt8.toInt32)) = (0 : Int32) then (1 : Int32) else (0 : Int32)))] [(.int (2 : Int32)), (.int (0 : Int32))])) _
    refine XS.icmpNo X37.here hx rfl (hb hby at_160) rfl (tlt (by decide)).2.1 ?_
    show Steps p.tables e below (T37.setTop (mkF m 163 #[.val (.int p1), .val (.int p2), .val (.int p3), .val (.int p4), .val (.int p5), .val (.int (2 : Int32)), .val (.int (0 : Int32)), .val (.ref b4), .val (.ref b15), .val (.int v29), .val (.int (if (nar .byte (p3.toInt8.toInt32)) = (0 : Int32) then (1 : Int32) else (0 : Int32))), .val (.int (if (nar .byte (p3.toInt8.toInt32)) = (0 : Int32) then (1 : Int32) else (0 : Int32)))] [])) _
    refine XS.aload X37.here hx rfl (hb hby at_163) rfl rfl ?_
    exact kt)
  obtain ⟨cq40, kq40, q40a, q40b, q40c⟩ := isOf hZ e37 f22
  obtain ⟨_, _, ⟨T40, L40, k40, n40⟩, -, X40', ⟨Lc40, hQ40, l40, y40, z40⟩, st40⟩ := X37.virtualBack hx (y := (⟨"com/example/looseleaf/looseleaf/pgwire/MessageBody", "byte1", "()I"⟩ : MethodName)) (z := (⟨"com/example/looseleaf/looseleaf/pgwire/MessageBody", "byte1", "()I"⟩ : MethodName)) hown (mvT hZ (hw _ (List.mem_of_getElem? (i := 19) rfl))) (mvT hZ (hw _ (List.mem_of_getElem? (i := 20) rfl))) (notFace_of_selects (args := #[]) (mvT hZ (hw _ (List.mem_of_getElem? (i := 22) rfl)))) (mvT hZ (hw _ (List.mem_of_getElem? (i := 22) rfl))) (mvT hZ (hw _ (List.mem_of_getElem? (i := 21) rfl))) (by decide) (backOf (W := 0) (rmBy1 l Z a0 hw [] b15 b4 (0 : Int32) k4 (2 : Int32) [(.int (nar .byte (p3.toInt8.toInt32))), (.int (nar .byte (p4.toInt8.toInt32)))] (nar .byte (p3.toInt8.toInt32)) (1 : Int32) h21 n0 (Nat.le_trans Z0 kp33.1) f22 (Nat.le_trans Z0 (Nat.le_trans ((((Keep.refl h0 []).ext E4).wr W8 (Or.inr (Nat.le_trans (Keep.refl h0 []).1 (Nat.le_of_eq g4.symm)))).wr W12 (Or.inr (Nat.le_trans (Keep.refl h0 []).1 (Nat.le_of_eq g4.symm)))).1 (Nat.le_of_eq g15.symm))) f23 f24 f26 (Ne.symm (Nat.ne_of_lt (Nat.lt_of_lt_of_le V12.lt (Nat.le_of_eq g15.symm)))) (by decide) ⟨by decide, by decide⟩ rfl (by decide)) hZ (hw _ (List.mem_of_getElem? (i := 23) rfl)) (hw _ (List.mem_of_getElem? (i := 3) rfl)) (by decide) (by decide)) q40a q40c (g := (mkF m 165 #[.val (.int p1), .val (.int p2), .val (.int p3), .val (.int p4), .val (.int p5), .val (.int (2 : Int32)), .val (.int (0 : Int32)), .val (.ref b4), .val (.ref b15), .val (.int v29), .val (.int (if (nar .byte (p3.toInt8.toInt32)) = (0 : Int32) then (1 : Int32) else (0 : Int32))), .val (.int (if (nar .byte (p3.toInt8.toInt32)) = (0 : Int32) then (1 : Int32) else (0 : Int32)))] [(.ref b15)])) rfl (by rw [hml]; rfl) (Steps.refl _) (argsL := []) (rest := []) (lenOf pd___I rfl) rfl (by show 2 * 0 + _ ≤ _; exact Nat.le_of_eq rfl) (hb hby at_165) (fun _ _ => ⟨rfl, e37, (by decide : 2 + 0 ≤ _), (by decide : 4 + 0 ≤ _)⟩)
  dsimp only [Pt.U, Pt.locs, Pt.cells, Pt.slots] at X40' l40 y40 z40 st40 hQ40
  subst l40 y40 z40
  obtain ⟨h40, e40⟩ : ∃ z, T40.heap = z := ⟨_, rfl⟩
  rw [e40] at hQ40
  obtain ⟨rfl, N40q, Kc40, f41, f42, f43⟩ := hQ40
  obtain ⟨lc40, X40, N40⟩ : ∃ lc, Stand p l e room_1 s m #[(.int p1), (.int p2), (.int p3), (.int p4), (.int p5)] below meth c T40 lc 2 4 ∧ Fr n0 lc := ⟨_, X40', Fr.app N37 N40q⟩
  have K44 : Gx p e below s₁ f0 T40 (mkF m 168 #[.val (.int p1), .val (.int p2), .val (.int p3), .val (.int p4), .val (.int p5), .val (.int (2 : Int32)), .val (.int (0 : Int32)), .val (.ref b4), .val (.ref b15), .val (.int v29), .val (.int (if (nar .byte (p3.toInt8.toInt32)) = (0 : Int32) then (1 : Int32) else (0 : Int32))), .val (.int (if (nar .byte (p3.toInt8.toInt32)) = (0 : Int32) then (1 : Int32) else (0 : Int32)))] [(.int ((nar .byte (p3.toInt8.toInt32)) &&& (255 : Int32)))]) := fun t kt => K39 t (st40.trans kt)
  have f45 : Arv Z h40 b4 k4 .byte (2 : Int32) [(.int (nar .byte (p3.toInt8.toInt32))), (.int (nar .byte (p4.toInt8.toInt32)))] (.int (0 : Int32)) := (f26.keep Kc40 (ninS (Nat.ne_of_lt (Nat.lt_of_lt_of_le V12.lt (Nat.le_of_eq g15.symm))) nin0))
  obtain ⟨clq46, Arq46, ckq46, cSq46, cNq46, cHq46, cGq46⟩ := id f45
  have K47 : Gx p e below s₁ f0 T40 (mkF m 185 #[.val (.int p1), .val (.int p2), .val (.int p3), .val (.int p4), .val (.int p5), .val (.int (2 : Int32)), .val (.int (0 : Int32)), .val (.ref b4), .val (.ref b15), .val (.int v29), .val (.int (if (nar .byte (p3.toInt8.toInt32)) = (0 : Int32) then (1 : Int32) else (0 : Int32))), .val (.int (if (nar .byte (p3.toInt8.toInt32)) = (0 : Int32) then (1 : Int32) else (0 : Int32)))] [(.int (1 : Int32))]) := fun t kt => K44 t (by
    show Steps p.tables e below (T40.setTop (mkF m 168 #[.val (.int p1), .val (.int p2), .val (.int p3), .val (.int p4), .val (.int p5), .val (.int (2 : Int32)), .val (.int (0 : Int32)), .val (.ref b4), .val (.ref b15), .val (.int v29), .val (.int (if (nar .byte (p3.toInt8.toInt32)) = (0 : Int32) then (1 : Int32) else (0 : Int32))), .val (.int (if (nar .byte (p3.toInt8.toInt32)) = (0 : Int32) then (1 : Int32) else (0 : Int32)))] [(.int ((nar .byte (p3.toInt8.toInt32)) &&& (255 : Int32)))])) _
    refine XS.aload X40.here hx rfl (hb hby at_168) rfl rfl ?_
    show Steps p.tables e below (T40.setTop (mkF m 170 #[.val (.int p1), .val (.int p2), .val (.int p3), .val (.int p4), .val (.int p5), .val (.int (2 : Int32)), .val (.int (0 : Int32)), .val (.ref b4), .val (.ref b15), .val (.int v29), .val (.int (if (nar .byte (p3.toInt8.toInt32)) = (0 : Int32) then (1 : Int32) else (0 : Int32))), .val (.int (if (nar .byte (p3.toInt8.toInt32)) = (0 : Int32) then (1 : Int32) else (0 : Int32)))] [(.ref b4), (.int ((nar .byte (p3.toInt8.toInt32)) &&& (255 : Int32)))])) _
    refine XS.iload X40.here hx rfl (hb hby at_170) rfl ?_
    show Steps p.tables e below (T40.setTop (mkF m 172 #[.val (.int p1), .val (.int p2), .val (.int p3), .val (.int p4), .val (.int p5), .val (.int (2 : Int32)), .val (.int (0 : Int32)), .val (.ref b4), .val (.ref b15), .val (.int v29), .val (.int (if (nar .byte (p3.toInt8.toInt32)) = (0 : Int32) then (1 : Int32) else (0 : Int32))), .val (.int (if (nar .byte (p3.toInt8.toInt32)) = (0 : Int32) then (1 : Int32) else (0 : Int32)))] [(.int (0 : Int32)), (.ref b4), (.int ((nar .byte (p3.toInt8.toInt32)) &&& (255 : Int32)))])) _
    refine X40.baloadBytes hx (j := (0 : Int32)) (v := (.int (nar .byte (p3.toInt8.toInt32)))) (by rw [e40]; exact Arq46.1) (State.isArrayOf_alike hZ.alike Arq46.2.1) Arq46.2.2 (inb_of cSq46 ⟨by decide, by decide⟩) (Has.at cHq46 (inb_of cSq46 ⟨by decide, by decide⟩) rfl) (g := (mkF m 172 #[.val (.int p1), .val (.int p2), .val (.int p3), .val (.int p4), .val (.int p5), .val (.int (2 : Int32)), .val (.int (0 : Int32)), .val (.ref b4), .val (.ref b15), .val (.int v29), .val (.int (if (nar .byte (p3.toInt8.toInt32)) = (0 : Int32) then (1 : Int32) else (0 : Int32))), .val (.int (if (nar .byte (p3.toInt8.toInt32)) = (0 : Int32) then (1 : Int32) else (0 : Int32)))] [(.int (0 : Int32)), (.ref b4), (.int ((nar .byte (p3.toInt8.toInt32)) &&& (255 : Int32)))])) rfl rfl (hb hby at_172) _ ?_
    show Steps p.tables e below (T40.setTop (mkF m 173 #[.val (.int p1), .val (.int p2), .val (.int p3), .val (.int p4), .val (.int p5), .val (.int (2 : Int32)), .val (.int (0 : Int32)), .val (.ref b4), .val (.ref b15), .val (.int v29), .val (.int (if (nar .byte (p3.toInt8.toInt32)) = (0 : Int32) then (1 : Int32) else (0 : Int32))), .val (.int (if (nar .byte (p3.toInt8.toInt32)) = (0 : Int32) then (1 : Int32) else (0 : Int32)))] [(.int (nar .byte (p3.toInt8.toInt32))), (.int ((nar .byte (p3.toInt8.toInt32)) &&& (255 : Int32)))])) _
    refine XS.sipush X40.here hx rfl (hb hby at_173) ?_
    show Steps p.tables e below (T40.setTop (mkF m 176 #[.val (.int p1), .val (.int p2), .val (.int p3), .val (.int p4), .val (.int p5), .val (.int (2 : Int32)), .val (.int (0 : Int32)), .val (.ref b4), .val (.ref b15), .val (.int v29), .val (.int (if (nar .byte (p3.toInt8.toInt32)) = (0 : Int32) then (1 : Int32) else (0 : Int32))), .val (.int (if (nar .byte (p3.toInt8.toInt32)) = (0 : Int32) then (1 : Int32) else (0 : Int32)))] [(.int (255 : Int32)), (.int (nar .byte (p3.toInt8.toInt32))), (.int ((nar .byte (p3.toInt8.toInt32)) &&& (255 : Int32)))])) _
    refine XS.iand X40.here hx rfl (hb hby at_176) rfl ?_
    show Steps p.tables e below (T40.setTop (mkF m 177 #[.val (.int p1), .val (.int p2), .val (.int p3), .val (.int p4), .val (.int p5), .val (.int (2 : Int32)), .val (.int (0 : Int32)), .val (.ref b4), .val (.ref b15), .val (.int v29), .val (.int (if (nar .byte (p3.toInt8.toInt32)) = (0 : Int32) then (1 : Int32) else (0 : Int32))), .val (.int (if (nar .byte (p3.toInt8.toInt32)) = (0 : Int32) then (1 : Int32) else (0 : Int32)))] [(.int ((nar .byte (p3.toInt8.toInt32)) &&& (255 : Int32))), (.int ((nar .byte (p3.toInt8.toInt32)) &&& (255 : Int32)))])) _
    refine XS.icmpNo X40.here hx rfl (hb hby at_177) rfl (teq rfl).2 ?_
    show Steps p.tables e below (T40.setTop (mkF m 180 #[.val (.int p1), .val (.int p2), .val (.int p3), .val (.int p4), .val (.int p5), .val (.int (2 : Int32)), .val (.int (0 : Int32)), .val (.ref b4), .val (.ref b15), .val (.int v29), .val (.int (if (nar .byte (p3.toInt8.toInt32)) = (0 : Int32) then (1 : Int32) else (0 : Int32))), .val (.int (if (nar .byte (p3.toInt8.toInt32)) = (0 : Int32) then (1 : Int32) else (0 : Int32)))] [])) _
    refine XS.iconst X40.here hx rfl (hb hby at_180) ?_
    show Steps p.tables e below (T40.setTop (mkF m 181 #[.val (.int p1), .val (.int p2), .val (.int p3), .val (.int p4), .val (.int p5), .val (.int (2 : Int32)), .val (.int (0 : Int32)), .val (.ref b4), .val (.ref b15), .val (.int v29), .val (.int (if (nar .byte (p3.toInt8.toInt32)) = (0 : Int32) then (1 : Int32) else (0 : Int32))), .val (.int (if (nar .byte (p3.toInt8.toInt32)) = (0 : Int32) then (1 : Int32) else (0 : Int32)))] [(.int (1 : Int32))])) _
    refine XS.goto X40.here hx rfl (pc0 := 181) (pc' := 185) rfl (hb hby at_181) (by decide) (by decide) ?_
    exact kt)
  obtain ⟨fs48, hr48, hrun48, hended48, hW48, hsame48⟩ := X40.leave (v := some (.int (1 : Int32))) (fun h => by rw [Bd.returns] at h; cases h)
  refine ⟨_, _, pre0 _ (K47 _ ?_), hrun48, hended48, _, _, rfl, ?_, ⟨_, rfl⟩, hW48, hsame48.mono (by decide) (by decide)⟩
  · exact retN X40 hx (t := .boolean) Bd.returns (by simp) (hb hby at_185) hr48
  · show Q0 Z p1 p2 p3 p4 p5 h0 n0 _ T40.heap _
    rw [e40]
    exact ⟨rfl, N40⟩
theorem ef_0_21 (m : MethodId) (p1 : Int32) (p2 : Int32) (p3 : Int32) (p4 : Int32) (p5 : Int32) : entryFrame m #[(.int p1), (.int p2), (.int p3), (.int p4), (.int p5)] maxLocals = mkF m 0 #[.val (.int p1), .val (.int p2), .val (.int p3), .val (.int p4), .val (.int p5), .unset, .unset, .unset, .unset, .unset, .unset, .unset] [] := by first | (simp [entryFrame, mkF, argsToLocals, Value.category, maxLocals]; done) | rfl
set_option maxRecDepth 65536 in
set_option maxHeartbeats 40000000 in
theorem rm0_21 (l : Launch) (Z : State) (a0 : Array Value) (hw : ∀ d ∈ tables_1, d.before a0 Z = true) (ws : List Jvm.Cond) (p1 : Int32) (p2 : Int32) (p3 : Int32) (p4 : Int32) (p5 : Int32) (h0 : Heap) (n0 : Nat) (Z0 : n0 ≤ h0.size) (hn_ : (p1 &&& (3 : Int32)) = (2 : Int32)) (hk_ : ((p2 &&& (3 : Int32)) % (3 : Int32)) = (1 : Int32)) :
    MetFree l x (head1 (Jvm.Cond.code x code maxLocals ret :: ws) room_1) (fun a U => a = #[(.int p1), (.int p2), (.int p3), (.int p4), (.int p5)] ∧ Z.Warmed39 U.vm ∧ U.heap = h0) (fun _ _ _ _ _ => True) (fun _ U o U' => ∃ v L, o = .returned v ∧ Q0 Z p1 p2 p3 p4 p5 h0 n0 v U'.heap L ∧ FrameEnd U o U' L room_1.cells room_1.slots) := by
  refine MetFree.of_bodySF (plainFor_of_name pn_0) hisR ?_
  intro p e s m args below meth c s₁ Bd hml0 hP hK
  obtain ⟨rfl, hZ, hh⟩ := hP
  have hx := Bd.exec
  have hby := Bd.bytes
  have hml : c.maxLocals = 12 := hml0
  have hown : s.vm.findClass "com/example/looseleaf/looseleaf/pgwire/MessageBodyAtNulPinLaw" = some m.cls := findClass_of_methodNamed Bd.named
  have hnm := (name_of_methodNamed Bd.named Bd.method).1
  have X0 : Stand p l e room_1 s m #[(.int p1), (.int p2), (.int p3), (.int p4), (.int p5)] below meth c s₁ [] 0 0 := Stand.of_body Bd
  have hs0 : h0 = s.heap := hh.symm
  have e0 : s₁.heap = h0 := by rw [← hh, Bd.state]; rfl
  have N0 := Fr.nil n0
  obtain ⟨f0, hf0⟩ : ∃ f, f = entryFrame m #[(.int p1), (.int p2), (.int p3), (.int p4), (.int p5)] maxLocals := ⟨_, rfl⟩
  have pre0 : ∀ t, Steps p.tables e below (s₁.setTop f0) t → Steps p.tables e below (s₁.setTop (entryFrame m #[(.int p1), (.int p2), (.int p3), (.int p4), (.int p5)] maxLocals)) t := fun t k => hf0 ▸ k
  have K0 : Gx p e below s₁ f0 s₁ (mkF m 0 #[.val (.int p1), .val (.int p2), .val (.int p3), .val (.int p4), .val (.int p5), .unset, .unset, .unset, .unset, .unset, .unset, .unset] []) := fun t kt => by rw [hf0]; exact castTop (ef_0_21 m p1 p2 p3 p4 p5) kt
  have K1 : Gx p e below s₁ f0 s₁ (mkF m 5 #[.val (.int p1), .val (.int p2), .val (.int p3), .val (.int p4), .val (.int p5), .val (.int (p1 &&& (3 : Int32))), .unset, .unset, .unset, .unset, .unset, .unset] []) := fun t kt => K0 t (by
    show Steps p.tables e below (s₁.setTop (mkF m 0 #[.val (.int p1), .val (.int p2), .val (.int p3), .val (.int p4), .val (.int p5), .unset, .unset, .unset, .unset, .unset, .unset, .unset] [])) _
    refine XS.iloadN X0.here hx rfl (hb hby at_0) rfl ?_
    show Steps p.tables e below (s₁.setTop (mkF m 1 #[.val (.int p1), .val (.int p2), .val (.int p3), .val (.int p4), .val (.int p5), .unset, .unset, .unset, .unset, .unset, .unset, .unset] [(.int p1)])) _
    refine XS.iconst X0.here hx rfl (hb hby at_1) ?_
    show Steps p.tables e below (s₁.setTop (mkF m 2 #[.val (.int p1), .val (.int p2), .val (.int p3), .val (.int p4), .val (.int p5), .unset, .unset, .unset, .unset, .unset, .unset, .unset] [(.int (3 : Int32)), (.int p1)])) _
    refine XS.iand X0.here hx rfl (hb hby at_2) rfl ?_
    show Steps p.tables e below (s₁.setTop (mkF m 3 #[.val (.int p1), .val (.int p2), .val (.int p3), .val (.int p4), .val (.int p5), .unset, .unset, .unset, .unset, .unset, .unset, .unset] [(.int (p1 &&& (3 : Int32)))])) _
    refine XS.istore X0.here hx rfl (hb hby at_3) rfl (l' := #[.val (.int p1), .val (.int p2), .val (.int p3), .val (.int p4), .val (.int p5), .val (.int (p1 &&& (3 : Int32))), .unset, .unset, .unset, .unset, .unset, .unset]) rfl ?_
    exact kt)
  rw [hn_] at K1
  have K2 : Gx p e below s₁ f0 s₁ (mkF m 15 #[.val (.int p1), .val (.int p2), .val (.int p3), .val (.int p4), .val (.int p5), .val (.int (2 : Int32)), .val (.int ((p2 &&& (3 : Int32)) % (3 : Int32))), .unset, .unset, .unset, .unset, .unset] []) := fun t kt => K1 t (by
    show Steps p.tables e below (s₁.setTop (mkF m 5 #[.val (.int p1), .val (.int p2), .val (.int p3), .val (.int p4), .val (.int p5), .val (.int (2 : Int32)), .unset, .unset, .unset, .unset, .unset, .unset] [])) _
    refine XS.iloadN X0.here hx rfl (hb hby at_5) rfl ?_
    show Steps p.tables e below (s₁.setTop (mkF m 6 #[.val (.int p1), .val (.int p2), .val (.int p3), .val (.int p4), .val (.int p5), .val (.int (2 : Int32)), .unset, .unset, .unset, .unset, .unset, .unset] [(.int p2)])) _
    refine XS.iconst X0.here hx rfl (hb hby at_6) ?_
    show Steps p.tables e below (s₁.setTop (mkF m 7 #[.val (.int p1), .val (.int p2), .val (.int p3), .val (.int p4), .val (.int p5), .val (.int (2 : Int32)), .unset, .unset, .unset, .unset, .unset, .unset] [(.int (3 : Int32)), (.int p2)])) _
    refine XS.iand X0.here hx rfl (hb hby at_7) rfl ?_
    show Steps p.tables e below (s₁.setTop (mkF m 8 #[.val (.int p1), .val (.int p2), .val (.int p3), .val (.int p4), .val (.int p5), .val (.int (2 : Int32)), .unset, .unset, .unset, .unset, .unset, .unset] [(.int (p2 &&& (3 : Int32)))])) _
    refine XS.iload X0.here hx rfl (hb hby at_8) rfl ?_
    show Steps p.tables e below (s₁.setTop (mkF m 10 #[.val (.int p1), .val (.int p2), .val (.int p3), .val (.int p4), .val (.int p5), .val (.int (2 : Int32)), .unset, .unset, .unset, .unset, .unset, .unset] [(.int (2 : Int32)), (.int (p2 &&& (3 : Int32)))])) _
    refine XS.iconst X0.here hx rfl (hb hby at_10) ?_
    show Steps p.tables e below (s₁.setTop (mkF m 11 #[.val (.int p1), .val (.int p2), .val (.int p3), .val (.int p4), .val (.int p5), .val (.int (2 : Int32)), .unset, .unset, .unset, .unset, .unset, .unset] [(.int (1 : Int32)), (.int (2 : Int32)), (.int (p2 &&& (3 : Int32)))])) _
    refine XS.iadd X0.here hx rfl (hb hby at_11) rfl ?_
    show Steps p.tables e below (s₁.setTop (mkF m 12 #[.val (.int p1), .val (.int p2), .val (.int p3), .val (.int p4), .val (.int p5), .val (.int (2 : Int32)), .unset, .unset, .unset, .unset, .unset, .unset] [(.int (3 : Int32)), (.int (p2 &&& (3 : Int32)))])) _
    refine iremM X0 hx rfl (hb hby at_12) rfl (by decide) ?_
    show Steps p.tables e below (s₁.setTop (mkF m 13 #[.val (.int p1), .val (.int p2), .val (.int p3), .val (.int p4), .val (.int p5), .val (.int (2 : Int32)), .unset, .unset, .unset, .unset, .unset, .unset] [(.int ((p2 &&& (3 : Int32)) % (3 : Int32)))])) _
    refine XS.istore X0.here hx rfl (hb hby at_13) rfl (l' := #[.val (.int p1), .val (.int p2), .val (.int p3), .val (.int p4), .val (.int p5), .val (.int (2 : Int32)), .val (.int ((p2 &&& (3 : Int32)) % (3 : Int32))), .unset, .unset, .unset, .unset, .unset]) rfl ?_
    exact kt)
  rw [hk_] at K2
  have K3 : Gx p e below s₁ f0 s₁ (mkF m 17 #[.val (.int p1), .val (.int p2), .val (.int p3), .val (.int p4), .val (.int p5), .val (.int (2 : Int32)), .val (.int (1 : Int32)), .unset, .unset, .unset, .unset, .unset] [(.int (2 : Int32))]) := fun t kt => K2 t (by
    show Steps p.tables e below (s₁.setTop (mkF m 15 #[.val (.int p1), .val (.int p2), .val (.int p3), .val (.int p4), .val (.int p5), .val (.int (2 : Int32)), .val (.int (1 : Int32)), .unset, .unset, .unset, .unset, .unset] [])) _
    refine XS.iload X0.here hx rfl (hb hby at_15) rfl ?_
    exact kt)
  obtain ⟨T4, h4, k4, X4, e4, E4, A4, st4⟩ := newP X0 hx hZ (hw _ (List.mem_of_getElem? (i := 0) rfl)) e0 (g := (mkF m 17 #[.val (.int p1), .val (.int p2), .val (.int p3), .val (.int p4), .val (.int p5), .val (.int (2 : Int32)), .val (.int (1 : Int32)), .unset, .unset, .unset, .unset, .unset] [(.int (2 : Int32))])) rfl (hb hby at_17) rfl (by decide) (cap := 2) (by decide) (by decide) (by decide) (by decide)
  obtain ⟨b4, g4⟩ : ∃ z, z = h0.size := ⟨_, rfl⟩
  rw [← g4] at A4 st4
  have V4 : Arv Z h4 b4 k4 .byte (2 : Int32) [(.int (0 : Int32)), (.int (0 : Int32))] (.int (0 : Int32)) := (Arv.new A4 (by decide)).pad (pad_rep [] (.int (0 : Int32)) 2)
  have K5 : Gx p e below s₁ f0 T4 (mkF m 19 #[.val (.int p1), .val (.int p2), .val (.int p3), .val (.int p4), .val (.int p5), .val (.int (2 : Int32)), .val (.int (1 : Int32)), .unset, .unset, .unset, .unset, .unset] [(.ref b4)]) := fun t kt => K3 t (st4 t kt)
  have K6 : Gx p e below s₁ f0 T4 (mkF m 31 #[.val (.int p1), .val (.int p2), .val (.int p3), .val (.int p4), .val (.int p5), .val (.int (2 : Int32)), .val (.int (1 : Int32)), .val (.ref b4), .unset, .unset, .unset, .unset] [(.int (p3.toInt8.toInt32)), (.int (0 : Int32)), (.ref b4)]) := fun t kt => K5 t (by
    show Steps p.tables e below (T4.setTop (mkF m 19 #[.val (.int p1), .val (.int p2), .val (.int p3), .val (.int p4), .val (.int p5), .val (.int (2 : Int32)), .val (.int (1 : Int32)), .unset, .unset, .unset, .unset, .unset] [(.ref b4)])) _
    refine XS.astore X4.here hx rfl (hb hby at_19) rfl rfl (l' := #[.val (.int p1), .val (.int p2), .val (.int p3), .val (.int p4), .val (.int p5), .val (.int (2 : Int32)), .val (.int (1 : Int32)), .val (.ref b4), .unset, .unset, .unset, .unset]) rfl ?_
    show Steps p.tables e below (T4.setTop (mkF m 21 #[.val (.int p1), .val (.int p2), .val (.int p3), .val (.int p4), .val (.int p5), .val (.int (2 : Int32)), .val (.int (1 : Int32)), .val (.ref b4), .unset, .unset, .unset, .unset] [])) _
    refine XS.iload X4.here hx rfl (hb hby at_21) rfl ?_
    show Steps p.tables e below (T4.setTop (mkF m 23 #[.val (.int p1), .val (.int p2), .val (.int p3), .val (.int p4), .val (.int p5), .val (.int (2 : Int32)), .val (.int (1 : Int32)), .val (.ref b4), .unset, .unset, .unset, .unset] [(.int (2 : Int32))])) _
    refine XS.ifNo X4.here hx rfl (hb hby at_23) rfl ((if0 _ _).trans (tlt (by decide)).2.2.2) ?_
    show Steps p.tables e below (T4.setTop (mkF m 26 #[.val (.int p1), .val (.int p2), .val (.int p3), .val (.int p4), .val (.int p5), .val (.int (2 : Int32)), .val (.int (1 : Int32)), .val (.ref b4), .unset, .unset, .unset, .unset] [])) _
    refine XS.aload X4.here hx rfl (hb hby at_26) rfl rfl ?_
    show Steps p.tables e below (T4.setTop (mkF m 28 #[.val (.int p1), .val (.int p2), .val (.int p3), .val (.int p4), .val (.int p5), .val (.int (2 : Int32)), .val (.int (1 : Int32)), .val (.ref b4), .unset, .unset, .unset, .unset] [(.ref b4)])) _
    refine XS.iconst X4.here hx rfl (hb hby at_28) ?_
    show Steps p.tables e below (T4.setTop (mkF m 29 #[.val (.int p1), .val (.int p2), .val (.int p3), .val (.int p4), .val (.int p5), .val (.int (2 : Int32)), .val (.int (1 : Int32)), .val (.ref b4), .unset, .unset, .unset, .unset] [(.int (0 : Int32)), (.ref b4)])) _
    refine XS.iloadN X4.here hx rfl (hb hby at_29) rfl ?_
    show Steps p.tables e below (T4.setTop (mkF m 30 #[.val (.int p1), .val (.int p2), .val (.int p3), .val (.int p4), .val (.int p5), .val (.int (2 : Int32)), .val (.int (1 : Int32)), .val (.ref b4), .unset, .unset, .unset, .unset] [(.int p3), (.int (0 : Int32)), (.ref b4)])) _
    refine XS.i2b X4.here hx rfl (hb hby at_30) rfl ?_
    exact kt)
  obtain ⟨clq7, Arq7, ckq7, cSq7, cNq7, cHq7, cGq7⟩ := id V4
  obtain ⟨T8, h8, X8', e8, W8, st8⟩ := stB X4 hx hZ e4 Arq7 (j := (0 : Int32)) (inb_of cSq7 ⟨by decide, by decide⟩) (g := (mkF m 31 #[.val (.int p1), .val (.int p2), .val (.int p3), .val (.int p4), .val (.int p5), .val (.int (2 : Int32)), .val (.int (1 : Int32)), .val (.ref b4), .unset, .unset, .unset, .unset] [(.int (p3.toInt8.toInt32)), (.int (0 : Int32)), (.ref b4)])) rfl rfl (hb hby at_31)
  obtain ⟨lc8, X8, N8⟩ : ∃ lc, Stand p l e room_1 s m #[(.int p1), (.int p2), (.int p3), (.int p4), (.int p5)] below meth c T8 lc 1 2 ∧ Fr n0 lc := ⟨_, X8', Fr.snoc X8' N0 (Nat.le_trans Z0 (Nat.le_trans (Keep.refl h0 []).1 (Nat.le_of_eq g4.symm)))⟩
  have V8 : Arv Z h8 b4 k4 .byte (2 : Int32) [(.int (nar .byte (p3.toInt8.toInt32))), (.int (0 : Int32))] (.int (0 : Int32)) := Arv.set Arq7 ckq7 cSq7 cNq7 cHq7 cGq7 (fits_nar_byte _) W8 0 rfl (Nat.le_of_ble_eq_true rfl)
  have K9 : Gx p e below s₁ f0 T8 (mkF m 32 #[.val (.int p1), .val (.int p2), .val (.int p3), .val (.int p4), .val (.int p5), .val (.int (2 : Int32)), .val (.int (1 : Int32)), .val (.ref b4), .unset, .unset, .unset, .unset] []) := fun t kt => K6 t (st8 t kt)
  have K10 : Gx p e below s₁ f0 T8 (mkF m 43 #[.val (.int p1), .val (.int p2), .val (.int p3), .val (.int p4), .val (.int p5), .val (.int (2 : Int32)), .val (.int (1 : Int32)), .val (.ref b4), .unset, .unset, .unset, .unset] [(.int (p4.toInt8.toInt32)), (.int (1 : Int32)), (.ref b4)]) := fun t kt => K9 t (by
    show Steps p.tables e below (T8.setTop (mkF m 32 #[.val (.int p1), .val (.int p2), .val (.int p3), .val (.int p4), .val (.int p5), .val (.int (2 : Int32)), .val (.int (1 : Int32)), .val (.ref b4), .unset, .unset, .unset, .unset] [])) _
    refine XS.iload X8.here hx rfl (hb hby at_32) rfl ?_
    show Steps p.tables e below (T8.setTop (mkF m 34 #[.val (.int p1), .val (.int p2), .val (.int p3), .val (.int p4), .val (.int p5), .val (.int (2 : Int32)), .val (.int (1 : Int32)), .val (.ref b4), .unset, .unset, .unset, .unset] [(.int (2 : Int32))])) _
    refine XS.iconst X8.here hx rfl (hb hby at_34) ?_
    show Steps p.tables e below (T8.setTop (mkF m 35 #[.val (.int p1), .val (.int p2), .val (.int p3), .val (.int p4), .val (.int p5), .val (.int (2 : Int32)), .val (.int (1 : Int32)), .val (.ref b4), .unset, .unset, .unset, .unset] [(.int (1 : Int32)), (.int (2 : Int32))])) _
    refine XS.icmpNo X8.here hx rfl (hb hby at_35) rfl (tlt (by decide)).2.2.2 ?_
    show Steps p.tables e below (T8.setTop (mkF m 38 #[.val (.int p1), .val (.int p2), .val (.int p3), .val (.int p4), .val (.int p5), .val (.int (2 : Int32)), .val (.int (1 : Int32)), .val (.ref b4), .unset, .unset, .unset, .unset] [])) _
    refine XS.aload X8.here hx rfl (hb hby at_38) rfl rfl ?_
    show Steps p.tables e below (T8.setTop (mkF m 40 #[.val (.int p1), .val (.int p2), .val (.int p3), .val (.int p4), .val (.int p5), .val (.int (2 : Int32)), .val (.int (1 : Int32)), .val (.ref b4), .unset, .unset, .unset, .unset] [(.ref b4)])) _
    refine XS.iconst X8.here hx rfl (hb hby at_40) ?_
    show Steps p.tables e below (T8.setTop (mkF m 41 #[.val (.int p1), .val (.int p2), .val (.int p3), .val (.int p4), .val (.int p5), .val (.int (2 : Int32)), .val (.int (1 : Int32)), .val (.ref b4), .unset, .unset, .unset, .unset] [(.int (1 : Int32)), (.ref b4)])) _
    refine XS.iloadN X8.here hx rfl (hb hby at_41) rfl ?_
    show Steps p.tables e below (T8.setTop (mkF m 42 #[.val (.int p1), .val (.int p2), .val (.int p3), .val (.int p4), .val (.int p5), .val (.int (2 : Int32)), .val (.int (1 : Int32)), .val (.ref b4), .unset, .unset, .unset, .unset] [(.int p4), (.int (1 : Int32)), (.ref b4)])) _
    refine XS.i2b X8.here hx rfl (hb hby at_42) rfl ?_
    exact kt)
  obtain ⟨clq11, Arq11, ckq11, cSq11, cNq11, cHq11, cGq11⟩ := id V8
  obtain ⟨T12, h12, X12', e12, W12, st12⟩ := stB X8 hx hZ e8 Arq11 (j := (1 : Int32)) (inb_of cSq11 ⟨by decide, by decide⟩) (g := (mkF m 43 #[.val (.int p1), .val (.int p2), .val (.int p3), .val (.int p4), .val (.int p5), .val (.int (2 : Int32)), .val (.int (1 : Int32)), .val (.ref b4), .unset, .unset, .unset, .unset] [(.int (p4.toInt8.toInt32)), (.int (1 : Int32)), (.ref b4)])) rfl rfl (hb hby at_43)
  obtain ⟨lc12, X12, N12⟩ : ∃ lc, Stand p l e room_1 s m #[(.int p1), (.int p2), (.int p3), (.int p4), (.int p5)] below meth c T12 lc 1 2 ∧ Fr n0 lc := ⟨_, X12', Fr.snoc X12' N8 (Nat.le_trans Z0 (Nat.le_trans (Keep.refl h0 []).1 (Nat.le_of_eq g4.symm)))⟩
  have V12 : Arv Z h12 b4 k4 .byte (2 : Int32) [(.int (nar .byte (p3.toInt8.toInt32))), (.int (nar .byte (p4.toInt8.toInt32)))] (.int (0 : Int32)) := Arv.set Arq11 ckq11 cSq11 cNq11 cHq11 cGq11 (fits_nar_byte _) W12 1 rfl (Nat.le_of_ble_eq_true rfl)
  have K13 : Gx p e below s₁ f0 T12 (mkF m 44 #[.val (.int p1), .val (.int p2), .val (.int p3), .val (.int p4), .val (.int p5), .val (.int (2 : Int32)), .val (.int (1 : Int32)), .val (.ref b4), .unset, .unset, .unset, .unset] []) := fun t kt => K10 t (st12 t kt)
  have K14 : Gx p e below s₁ f0 T12 (mkF m 57 #[.val (.int p1), .val (.int p2), .val (.int p3), .val (.int p4), .val (.int p5), .val (.int (2 : Int32)), .val (.int (1 : Int32)), .val (.ref b4), .unset, .unset, .unset, .unset] []) := fun t kt => K13 t (by
    show Steps p.tables e below (T12.setTop (mkF m 44 #[.val (.int p1), .val (.int p2), .val (.int p3), .val (.int p4), .val (.int p5), .val (.int (2 : Int32)), .val (.int (1 : Int32)), .val (.ref b4), .unset, .unset, .unset, .unset] [])) _
    refine XS.iload X12.here hx rfl (hb hby at_44) rfl ?_
    show Steps p.tables e below (T12.setTop (mkF m 46 #[.val (.int p1), .val (.int p2), .val (.int p3), .val (.int p4), .val (.int p5), .val (.int (2 : Int32)), .val (.int (1 : Int32)), .val (.ref b4), .unset, .unset, .unset, .unset] [(.int (2 : Int32))])) _
    refine XS.iconst X12.here hx rfl (hb hby at_46) ?_
    show Steps p.tables e below (T12.setTop (mkF m 47 #[.val (.int p1), .val (.int p2), .val (.int p3), .val (.int p4), .val (.int p5), .val (.int (2 : Int32)), .val (.int (1 : Int32)), .val (.ref b4), .unset, .unset, .unset, .unset] [(.int (2 : Int32)), (.int (2 : Int32))])) _
    refine XS.icmpYes X12.here hx rfl (pc0 := 47) (pc' := 57) rfl (hb hby at_47) rfl (flt (by decide)).2.2.2 (by decide) (by decide) ?_
    exact kt)
  obtain ⟨T15, h15, X15, e15, E15, A15, D15, -, st15⟩ := newO X12 hx hZ hown (hw _ (List.mem_of_getElem? (i := 1) rfl)) (hw _ (List.mem_of_getElem? (i := 2) rfl)) (hw _ (List.mem_of_getElem? (i := 3) rfl)) e12 (g := (mkF m 57 #[.val (.int p1), .val (.int p2), .val (.int p3), .val (.int p4), .val (.int p5), .val (.int (2 : Int32)), .val (.int (1 : Int32)), .val (.ref b4), .unset, .unset, .unset, .unset] [])) rfl (hb hby at_57) (by decide) (by decide)
  obtain ⟨b15, g15⟩ : ∃ z, z = h12.size := ⟨_, rfl⟩
  rw [← g15] at A15 D15 st15
  have f16 : Fld Z h15 b15 "com/example/looseleaf/looseleaf/pgwire/MessageBody" "bytes" "[B" .null := D15 (Or.inr (hw _ (List.mem_of_getElem? (i := 11) rfl))) (ty := (.array .byte)) (by decide)
  have f17 : Fld Z h15 b15 "com/example/looseleaf/looseleaf/pgwire/MessageBody" "at" "I" (.int (0 : Int32)) := D15 (Or.inl (hw _ (List.mem_of_getElem? (i := 18) rfl))) (ty := .int) (by decide)
  have K18 : Gx p e below s₁ f0 T15 (mkF m 60 #[.val (.int p1), .val (.int p2), .val (.int p3), .val (.int p4), .val (.int p5), .val (.int (2 : Int32)), .val (.int (1 : Int32)), .val (.ref b4), .unset, .unset, .unset, .unset] [(.ref b15)]) := fun t kt => K14 t (st15 t kt)
  have K19 : Gx p e below s₁ f0 T15 (mkF m 63 #[.val (.int p1), .val (.int p2), .val (.int p3), .val (.int p4), .val (.int p5), .val (.int (2 : Int32)), .val (.int (1 : Int32)), .val (.ref b4), .unset, .unset, .unset, .unset] [(.ref b4), (.ref b15), (.ref b15)]) := fun t kt => K18 t (by
    show Steps p.tables e below (T15.setTop (mkF m 60 #[.val (.int p1), .val (.int p2), .val (.int p3), .val (.int p4), .val (.int p5), .val (.int (2 : Int32)), .val (.int (1 : Int32)), .val (.ref b4), .unset, .unset, .unset, .unset] [(.ref b15)])) _
    refine XS.dup X15.here hx rfl (hb hby at_60) rfl rfl ?_
    show Steps p.tables e below (T15.setTop (mkF m 61 #[.val (.int p1), .val (.int p2), .val (.int p3), .val (.int p4), .val (.int p5), .val (.int (2 : Int32)), .val (.int (1 : Int32)), .val (.ref b4), .unset, .unset, .unset, .unset] [(.ref b15), (.ref b15)])) _
    refine XS.aload X15.here hx rfl (hb hby at_61) rfl rfl ?_
    exact kt)
  have kp20 : Keep h0 h15 [] := (((((Keep.refl h0 []).ext E4).wr W8 (Or.inr (Nat.le_trans (Keep.refl h0 []).1 (Nat.le_of_eq g4.symm)))).wr W12 (Or.inr (Nat.le_trans (Keep.refl h0 []).1 (Nat.le_of_eq g4.symm)))).ext E15)
  obtain ⟨_, _, ⟨T21, L21, k21, n21⟩, -, X21', ⟨Lc21, hQ21, l21, y21, z21⟩, st21⟩ := X15.specialBack hx (y := (⟨"com/example/looseleaf/looseleaf/pgwire/MessageBody", "<init>", "([B)V"⟩ : MethodName)) rfl hown (mvT hZ (hw _ (List.mem_of_getElem? (i := 4) rfl))) (mvT hZ (hw _ (List.mem_of_getElem? (i := 5) rfl))) (mvT hZ (hw _ (List.mem_of_getElem? (i := 6) rfl))) (by decide) (backOf (W := 1) (rmIni l Z a0 hw [] b15 b4 h15 n0 (Nat.le_trans Z0 kp20.1) A15 (Nat.le_trans Z0 (Nat.le_trans ((((Keep.refl h0 []).ext E4).wr W8 (Or.inr (Nat.le_trans (Keep.refl h0 []).1 (Nat.le_of_eq g4.symm)))).wr W12 (Or.inr (Nat.le_trans (Keep.refl h0 []).1 (Nat.le_of_eq g4.symm)))).1 (Nat.le_of_eq g15.symm))) f16 f17) hZ (hw _ (List.mem_of_getElem? (i := 6) rfl)) (hw _ (List.mem_of_getElem? (i := 3) rfl)) (by decide) (by decide)) (g := (mkF m 63 #[.val (.int p1), .val (.int p2), .val (.int p3), .val (.int p4), .val (.int p5), .val (.int (2 : Int32)), .val (.int (1 : Int32)), .val (.ref b4), .unset, .unset, .unset, .unset] [(.ref b4), (.ref b15), (.ref b15)])) rfl (by rw [hml]; rfl) (Steps.refl _) (a := b15) (argsL := [(.ref b4)]) (rest := [(.ref b15)]) (lenOf pd___B_V rfl) rfl (by show 2 * 0 + _ ≤ _; exact Nat.le_of_eq rfl) (hb hby at_63) (fun _ _ => ⟨rfl, e15, (by decide : 2 + 0 ≤ _), (by decide : 4 + 0 ≤ _)⟩)
  dsimp only [Pt.U, Pt.locs, Pt.cells, Pt.slots] at X21' l21 y21 z21 st21 hQ21
  subst l21 y21 z21
  obtain ⟨h21, e21⟩ : ∃ z, T21.heap = z := ⟨_, rfl⟩
  rw [e21] at hQ21
  obtain ⟨rfl, N21q, Kc21, f22, f23, f24⟩ := hQ21
  obtain ⟨lc21, X21, N21⟩ : ∃ lc, Stand p l e room_1 s m #[(.int p1), (.int p2), (.int p3), (.int p4), (.int p5)] below meth c T21 lc 2 4 ∧ Fr n0 lc := ⟨_, X21', Fr.app N12 N21q⟩
  have K25 : Gx p e below s₁ f0 T21 (mkF m 66 #[.val (.int p1), .val (.int p2), .val (.int p3), .val (.int p4), .val (.int p5), .val (.int (2 : Int32)), .val (.int (1 : Int32)), .val (.ref b4), .unset, .unset, .unset, .unset] [(.ref b15)]) := fun t kt => K19 t (st21.trans kt)
  have K26 : Gx p e below s₁ f0 T21 (mkF m 76 #[.val (.int p1), .val (.int p2), .val (.int p3), .val (.int p4), .val (.int p5), .val (.int (2 : Int32)), .val (.int (1 : Int32)), .val (.ref b4), .val (.ref b15), .unset, .unset, .unset] [(.ref b15)]) := fun t kt => K25 t (by
    show Steps p.tables e below (T21.setTop (mkF m 66 #[.val (.int p1), .val (.int p2), .val (.int p3), .val (.int p4), .val (.int p5), .val (.int (2 : Int32)), .val (.int (1 : Int32)), .val (.ref b4), .unset, .unset, .unset, .unset] [(.ref b15)])) _
    refine XS.astore X21.here hx rfl (hb hby at_66) rfl rfl (l' := #[.val (.int p1), .val (.int p2), .val (.int p3), .val (.int p4), .val (.int p5), .val (.int (2 : Int32)), .val (.int (1 : Int32)), .val (.ref b4), .val (.ref b15), .unset, .unset, .unset]) rfl ?_
    show Steps p.tables e below (T21.setTop (mkF m 68 #[.val (.int p1), .val (.int p2), .val (.int p3), .val (.int p4), .val (.int p5), .val (.int (2 : Int32)), .val (.int (1 : Int32)), .val (.ref b4), .val (.ref b15), .unset, .unset, .unset] [])) _
    refine XS.iload X21.here hx rfl (hb hby at_68) rfl ?_
    show Steps p.tables e below (T21.setTop (mkF m 70 #[.val (.int p1), .val (.int p2), .val (.int p3), .val (.int p4), .val (.int p5), .val (.int (2 : Int32)), .val (.int (1 : Int32)), .val (.ref b4), .val (.ref b15), .unset, .unset, .unset] [(.int (1 : Int32))])) _
    refine XS.iconst X21.here hx rfl (hb hby at_70) ?_
    show Steps p.tables e below (T21.setTop (mkF m 71 #[.val (.int p1), .val (.int p2), .val (.int p3), .val (.int p4), .val (.int p5), .val (.int (2 : Int32)), .val (.int (1 : Int32)), .val (.ref b4), .val (.ref b15), .unset, .unset, .unset] [(.int (1 : Int32)), (.int (1 : Int32))])) _
    refine XS.icmpNo X21.here hx rfl (hb hby at_71) rfl (flt (by decide)).1 ?_
    show Steps p.tables e below (T21.setTop (mkF m 74 #[.val (.int p1), .val (.int p2), .val (.int p3), .val (.int p4), .val (.int p5), .val (.int (2 : Int32)), .val (.int (1 : Int32)), .val (.ref b4), .val (.ref b15), .unset, .unset, .unset] [])) _
    refine XS.aload X21.here hx rfl (hb hby at_74) rfl rfl ?_
    exact kt)
  have f27 : Arv Z h21 b4 k4 .byte (2 : Int32) [(.int (nar .byte (p3.toInt8.toInt32))), (.int (nar .byte (p4.toInt8.toInt32)))] (.int (0 : Int32)) := ((V12.ext E15).keep Kc21 (ninS (Nat.ne_of_lt (Nat.lt_of_lt_of_le V12.lt (Nat.le_of_eq g15.symm))) nin0))
  have kp28 : Keep h0 h21 [] := (Keep.trans kp20 Kc21 (allS (Or.inr (Nat.le_trans ((((Keep.refl h0 []).ext E4).wr W8 (Or.inr (Nat.le_trans (Keep.refl h0 []).1 (Nat.le_of_eq g4.symm)))).wr W12 (Or.inr (Nat.le_trans (Keep.refl h0 []).1 (Nat.le_of_eq g4.symm)))).1 (Nat.le_of_eq g15.symm))) all0))
  obtain ⟨cq29, kq29, q29a, q29b, q29c⟩ := isOf hZ e21 f22
  obtain ⟨_, _, ⟨T29, L29, k29, n29⟩, -, X29', ⟨Lc29, hQ29, l29, y29, z29⟩, st29⟩ := X21.virtualBack hx (y := (⟨"com/example/looseleaf/looseleaf/pgwire/MessageBody", "byte1", "()I"⟩ : MethodName)) (z := (⟨"com/example/looseleaf/looseleaf/pgwire/MessageBody", "byte1", "()I"⟩ : MethodName)) hown (mvT hZ (hw _ (List.mem_of_getElem? (i := 19) rfl))) (mvT hZ (hw _ (List.mem_of_getElem? (i := 20) rfl))) (notFace_of_selects (args := #[]) (mvT hZ (hw _ (List.mem_of_getElem? (i := 22) rfl)))) (mvT hZ (hw _ (List.mem_of_getElem? (i := 22) rfl))) (mvT hZ (hw _ (List.mem_of_getElem? (i := 21) rfl))) (by decide) (backOf (W := 0) (rmBy1 l Z a0 hw [] b15 b4 (0 : Int32) k4 (2 : Int32) [(.int (nar .byte (p3.toInt8.toInt32))), (.int (nar .byte (p4.toInt8.toInt32)))] (nar .byte (p3.toInt8.toInt32)) (1 : Int32) h21 n0 (Nat.le_trans Z0 kp28.1) f22 (Nat.le_trans Z0 (Nat.le_trans ((((Keep.refl h0 []).ext E4).wr W8 (Or.inr (Nat.le_trans (Keep.refl h0 []).1 (Nat.le_of_eq g4.symm)))).wr W12 (Or.inr (Nat.le_trans (Keep.refl h0 []).1 (Nat.le_of_eq g4.symm)))).1 (Nat.le_of_eq g15.symm))) f23 f24 f27 (Ne.symm (Nat.ne_of_lt (Nat.lt_of_lt_of_le V12.lt (Nat.le_of_eq g15.symm)))) (by decide) ⟨by decide, by decide⟩ rfl (by decide)) hZ (hw _ (List.mem_of_getElem? (i := 23) rfl)) (hw _ (List.mem_of_getElem? (i := 3) rfl)) (by decide) (by decide)) q29a q29c (g := (mkF m 76 #[.val (.int p1), .val (.int p2), .val (.int p3), .val (.int p4), .val (.int p5), .val (.int (2 : Int32)), .val (.int (1 : Int32)), .val (.ref b4), .val (.ref b15), .unset, .unset, .unset] [(.ref b15)])) rfl (by rw [hml]; rfl) (Steps.refl _) (argsL := []) (rest := []) (lenOf pd___I rfl) rfl (by show 2 * 0 + _ ≤ _; exact Nat.le_of_eq rfl) (hb hby at_76) (fun _ _ => ⟨rfl, e21, (by decide : 2 + 0 ≤ _), (by decide : 4 + 0 ≤ _)⟩)
  dsimp only [Pt.U, Pt.locs, Pt.cells, Pt.slots] at X29' l29 y29 z29 st29 hQ29
  subst l29 y29 z29
  obtain ⟨h29, e29⟩ : ∃ z, T29.heap = z := ⟨_, rfl⟩
  rw [e29] at hQ29
  obtain ⟨rfl, N29q, Kc29, f30, f31, f32⟩ := hQ29
  obtain ⟨lc29, X29, N29⟩ : ∃ lc, Stand p l e room_1 s m #[(.int p1), (.int p2), (.int p3), (.int p4), (.int p5)] below meth c T29 lc 2 4 ∧ Fr n0 lc := ⟨_, X29', Fr.app N21 N29q⟩
  have K33 : Gx p e below s₁ f0 T29 (mkF m 79 #[.val (.int p1), .val (.int p2), .val (.int p3), .val (.int p4), .val (.int p5), .val (.int (2 : Int32)), .val (.int (1 : Int32)), .val (.ref b4), .val (.ref b15), .unset, .unset, .unset] [(.int ((nar .byte (p3.toInt8.toInt32)) &&& (255 : Int32)))]) := fun t kt => K26 t (st29.trans kt)
  have f34 : Arv Z h29 b4 k4 .byte (2 : Int32) [(.int (nar .byte (p3.toInt8.toInt32))), (.int (nar .byte (p4.toInt8.toInt32)))] (.int (0 : Int32)) := (f27.keep Kc29 (ninS (Nat.ne_of_lt (Nat.lt_of_lt_of_le V12.lt (Nat.le_of_eq g15.symm))) nin0))
  obtain ⟨clq35, Arq35, ckq35, cSq35, cNq35, cHq35, cGq35⟩ := id f34
  have K38 : Gx p e below s₁ f0 T29 (mkF m 116 #[.val (.int p1), .val (.int p2), .val (.int p3), .val (.int p4), .val (.int p5), .val (.int (2 : Int32)), .val (.int (1 : Int32)), .val (.ref b4), .val (.ref b15), .unset, .unset, .unset] [(.int (nar .byte (p4.toInt8.toInt32)))]) := fun t kt => K33 t (by
    show Steps p.tables e below (T29.setTop (mkF m 79 #[.val (.int p1), .val (.int p2), .val (.int p3), .val (.int p4), .val (.int p5), .val (.int (2 : Int32)), .val (.int (1 : Int32)), .val (.ref b4), .val (.ref b15), .unset, .unset, .unset] [(.int ((nar .byte (p3.toInt8.toInt32)) &&& (255 : Int32)))])) _
    refine XS.pop X29.here hx rfl (hb hby at_79) rfl rfl ?_
    show Steps p.tables e below (T29.setTop (mkF m 80 #[.val (.int p1), .val (.int p2), .val (.int p3), .val (.int p4), .val (.int p5), .val (.int (2 : Int32)), .val (.int (1 : Int32)), .val (.ref b4), .val (.ref b15), .unset, .unset, .unset] [])) _
    refine XS.iload X29.here hx rfl (hb hby at_80) rfl ?_
    show Steps p.tables e below (T29.setTop (mkF m 82 #[.val (.int p1), .val (.int p2), .val (.int p3), .val (.int p4), .val (.int p5), .val (.int (2 : Int32)), .val (.int (1 : Int32)), .val (.ref b4), .val (.ref b15), .unset, .unset, .unset] [(.int (1 : Int32))])) _
    refine XS.iconst X29.here hx rfl (hb hby at_82) ?_
    show Steps p.tables e below (T29.setTop (mkF m 83 #[.val (.int p1), .val (.int p2), .val (.int p3), .val (.int p4), .val (.int p5), .val (.int (2 : Int32)), .val (.int (1 : Int32)), .val (.ref b4), .val (.ref b15), .unset, .unset, .unset] [(.int (2 : Int32)), (.int (1 : Int32))])) _
    refine XS.icmpYes X29.here hx rfl (pc0 := 83) (pc' := 92) rfl (hb hby at_83) rfl (tlt (by decide)).1 (by decide) (by decide) ?_
    show Steps p.tables e below (T29.setTop (mkF m 92 #[.val (.int p1), .val (.int p2), .val (.int p3), .val (.int p4), .val (.int p5), .val (.int (2 : Int32)), .val (.int (1 : Int32)), .val (.ref b4), .val (.ref b15), .unset, .unset, .unset] [])) _
    refine XS.iload X29.here hx rfl (hb hby at_92) rfl ?_
    show Steps p.tables e below (T29.setTop (mkF m 94 #[.val (.int p1), .val (.int p2), .val (.int p3), .val (.int p4), .val (.int p5), .val (.int (2 : Int32)), .val (.int (1 : Int32)), .val (.ref b4), .val (.ref b15), .unset, .unset, .unset] [(.int (1 : Int32))])) _
    refine XS.iconst X29.here hx rfl (hb hby at_94) ?_
    show Steps p.tables e below (T29.setTop (mkF m 95 #[.val (.int p1), .val (.int p2), .val (.int p3), .val (.int p4), .val (.int p5), .val (.int (2 : Int32)), .val (.int (1 : Int32)), .val (.ref b4), .val (.ref b15), .unset, .unset, .unset] [(.int (3 : Int32)), (.int (1 : Int32))])) _
    refine XS.icmpYes X29.here hx rfl (pc0 := 95) (pc' := 104) rfl (hb hby at_95) rfl (tlt (by decide)).1 (by decide) (by decide) ?_
    show Steps p.tables e below (T29.setTop (mkF m 104 #[.val (.int p1), .val (.int p2), .val (.int p3), .val (.int p4), .val (.int p5), .val (.int (2 : Int32)), .val (.int (1 : Int32)), .val (.ref b4), .val (.ref b15), .unset, .unset, .unset] [])) _
    refine XS.iload X29.here hx rfl (hb hby at_104) rfl ?_
    show Steps p.tables e below (T29.setTop (mkF m 106 #[.val (.int p1), .val (.int p2), .val (.int p3), .val (.int p4), .val (.int p5), .val (.int (2 : Int32)), .val (.int (1 : Int32)), .val (.ref b4), .val (.ref b15), .unset, .unset, .unset] [(.int (1 : Int32))])) _
    refine XS.iload X29.here hx rfl (hb hby at_106) rfl ?_
    show Steps p.tables e below (T29.setTop (mkF m 108 #[.val (.int p1), .val (.int p2), .val (.int p3), .val (.int p4), .val (.int p5), .val (.int (2 : Int32)), .val (.int (1 : Int32)), .val (.ref b4), .val (.ref b15), .unset, .unset, .unset] [(.int (2 : Int32)), (.int (1 : Int32))])) _
    refine XS.icmpNo X29.here hx rfl (hb hby at_108) rfl (tlt (by decide)).2.1 ?_
    show Steps p.tables e below (T29.setTop (mkF m 111 #[.val (.int p1), .val (.int p2), .val (.int p3), .val (.int p4), .val (.int p5), .val (.int (2 : Int32)), .val (.int (1 : Int32)), .val (.ref b4), .val (.ref b15), .unset, .unset, .unset] [])) _
    refine XS.aload X29.here hx rfl (hb hby at_111) rfl rfl ?_
    show Steps p.tables e below (T29.setTop (mkF m 113 #[.val (.int p1), .val (.int p2), .val (.int p3), .val (.int p4), .val (.int p5), .val (.int (2 : Int32)), .val (.int (1 : Int32)), .val (.ref b4), .val (.ref b15), .unset, .unset, .unset] [(.ref b4)])) _
    refine XS.iload X29.here hx rfl (hb hby at_113) rfl ?_
    show Steps p.tables e below (T29.setTop (mkF m 115 #[.val (.int p1), .val (.int p2), .val (.int p3), .val (.int p4), .val (.int p5), .val (.int (2 : Int32)), .val (.int (1 : Int32)), .val (.ref b4), .val (.ref b15), .unset, .unset, .unset] [(.int (1 : Int32)), (.ref b4)])) _
    refine X29.baloadBytes hx (j := (1 : Int32)) (v := (.int (nar .byte (p4.toInt8.toInt32)))) (by rw [e29]; exact Arq35.1) (State.isArrayOf_alike hZ.alike Arq35.2.1) Arq35.2.2 (inb_of cSq35 ⟨by decide, by decide⟩) (Has.at cHq35 (inb_of cSq35 ⟨by decide, by decide⟩) rfl) (g := (mkF m 115 #[.val (.int p1), .val (.int p2), .val (.int p3), .val (.int p4), .val (.int p5), .val (.int (2 : Int32)), .val (.int (1 : Int32)), .val (.ref b4), .val (.ref b15), .unset, .unset, .unset] [(.int (1 : Int32)), (.ref b4)])) rfl rfl (hb hby at_115) _ ?_
    exact kt)
  obtain ⟨v37, hv37⟩ : ∃ z : Int32, z = (if (nar .byte (p4.toInt8.toInt32)) = (0 : Int32) then (1 : Int32) else (0 : Int32)) := ⟨_, rfl⟩
  have K39 : Gx p e below s₁ f0 T29 (mkF m 124 #[.val (.int p1), .val (.int p2), .val (.int p3), .val (.int p4), .val (.int p5), .val (.int (2 : Int32)), .val (.int (1 : Int32)), .val (.ref b4), .val (.ref b15), .unset, .unset, .unset] [(.int v37)]) := fun t kt => K38 t (by
    by_cases hc116_35 : (nar .byte (p4.toInt8.toInt32)) = (0 : Int32)
    · skip
      show Steps p.tables e below (T29.setTop (mkF m 116 #[.val (.int p1), .val (.int p2), .val (.int p3), .val (.int p4), .val (.int p5), .val (.int (2 : Int32)), .val (.int (1 : Int32)), .val (.ref b4), .val (.ref b15), .unset, .unset, .unset] [(.int (nar .byte (p4.toInt8.toInt32)))])) _
      refine XS.ifNo X29.here hx rfl (hb hby at_116) rfl ((if0 _ _).trans (teq hc116_35).2) ?_
      show Steps p.tables e below (T29.setTop (mkF m 119 #[.val (.int p1), .val (.int p2), .val (.int p3), .val (.int p4), .val (.int p5), .val (.int (2 : Int32)), .val (.int (1 : Int32)), .val (.ref b4), .val (.ref b15), .unset, .unset, .unset] [])) _
      refine XS.iconst X29.here hx rfl (hb hby at_119) ?_
      show Steps p.tables e below (T29.setTop (mkF m 120 #[.val (.int p1), .val (.int p2), .val (.int p3), .val (.int p4), .val (.int p5), .val (.int (2 : Int32)), .val (.int (1 : Int32)), .val (.ref b4), .val (.ref b15), .unset, .unset, .unset] [(.int (1 : Int32))])) _
      refine XS.goto X29.here hx rfl (pc0 := 120) (pc' := 124) rfl (hb hby at_120) (by decide) (by decide) ?_
      show Steps p.tables e below (T29.setTop (mkF m 124 #[.val (.int p1), .val (.int p2), .val (.int p3), .val (.int p4), .val (.int p5), .val (.int (2 : Int32)), .val (.int (1 : Int32)), .val (.ref b4), .val (.ref b15), .unset, .unset, .unset] [(.int (1 : Int32))])) _
      exact castTop (by simp only [hv37, if_pos hc116_35]) kt
    · skip
      show Steps p.tables e below (T29.setTop (mkF m 116 #[.val (.int p1), .val (.int p2), .val (.int p3), .val (.int p4), .val (.int p5), .val (.int (2 : Int32)), .val (.int (1 : Int32)), .val (.ref b4), .val (.ref b15), .unset, .unset, .unset] [(.int (nar .byte (p4.toInt8.toInt32)))])) _
      refine XS.ifYes X29.here hx rfl (pc0 := 116) (pc' := 123) rfl (hb hby at_116) rfl ((if0 _ _).trans (feq hc116_35).2) (by decide) (by decide) ?_
      show Steps p.tables e below (T29.setTop (mkF m 123 #[.val (.int p1), .val (.int p2), .val (.int p3), .val (.int p4), .val (.int p5), .val (.int (2 : Int32)), .val (.int (1 : Int32)), .val (.ref b4), .val (.ref b15), .unset, .unset, .unset] [])) _
      refine XS.iconst X29.here hx rfl (hb hby at_123) ?_
      show Steps p.tables e below (T29.setTop (mkF m 124 #[.val (.int p1), .val (.int p2), .val (.int p3), .val (.int p4), .val (.int p5), .val (.int (2 : Int32)), .val (.int (1 : Int32)), .val (.ref b4), .val (.ref b15), .unset, .unset, .unset] [(.int (0 : Int32))])) _
      exact castTop (by simp only [hv37, if_neg hc116_35]) kt)
  have K40 : Gx p e below s₁ f0 T29 (mkF m 128 #[.val (.int p1), .val (.int p2), .val (.int p3), .val (.int p4), .val (.int p5), .val (.int (2 : Int32)), .val (.int (1 : Int32)), .val (.ref b4), .val (.ref b15), .val (.int v37), .unset, .unset] [(.ref b15)]) := fun t kt => K39 t (by
    show Steps p.tables e below (T29.setTop (mkF m 124 #[.val (.int p1), .val (.int p2), .val (.int p3), .val (.int p4), .val (.int p5), .val (.int (2 : Int32)), .val (.int (1 : Int32)), .val (.ref b4), .val (.ref b15), .unset, .unset, .unset] [(.int v37)])) _
    refine XS.istore X29.here hx rfl (hb hby at_124) rfl (l' := #[.val (.int p1), .val (.int p2), .val (.int p3), .val (.int p4), .val (.int p5), .val (.int (2 : Int32)), .val (.int (1 : Int32)), .val (.ref b4), .val (.ref b15), .val (.int v37), .unset, .unset]) rfl ?_
    show Steps p.tables e below (T29.setTop (mkF m 126 #[.val (.int p1), .val (.int p2), .val (.int p3), .val (.int p4), .val (.int p5), .val (.int (2 : Int32)), .val (.int (1 : Int32)), .val (.ref b4), .val (.ref b15), .val (.int v37), .unset, .unset] [])) _
    refine XS.aload X29.here hx rfl (hb hby at_126) rfl rfl ?_
    exact kt)
  have kp41 : Keep h0 h29 [] := (Keep.trans kp28 Kc29 (allS (Or.inr (Nat.le_trans ((((Keep.refl h0 []).ext E4).wr W8 (Or.inr (Nat.le_trans (Keep.refl h0 []).1 (Nat.le_of_eq g4.symm)))).wr W12 (Or.inr (Nat.le_trans (Keep.refl h0 []).1 (Nat.le_of_eq g4.symm)))).1 (Nat.le_of_eq g15.symm))) all0))
  obtain ⟨cq42, kq42, q42a, q42b, q42c⟩ := isOf hZ e29 f30
  obtain ⟨_, _, ⟨T42, L42, k42, n42⟩, -, X42', ⟨Lc42, hQ42, l42, y42, z42⟩, st42⟩ := X29.virtualBack hx (y := (⟨"com/example/looseleaf/looseleaf/pgwire/MessageBody", "atNul", "()Z"⟩ : MethodName)) (z := (⟨"com/example/looseleaf/looseleaf/pgwire/MessageBody", "atNul", "()Z"⟩ : MethodName)) hown (mvT hZ (hw _ (List.mem_of_getElem? (i := 12) rfl))) (mvT hZ (hw _ (List.mem_of_getElem? (i := 13) rfl))) (notFace_of_selects (args := #[]) (mvT hZ (hw _ (List.mem_of_getElem? (i := 15) rfl)))) (mvT hZ (hw _ (List.mem_of_getElem? (i := 15) rfl))) (mvT hZ (hw _ (List.mem_of_getElem? (i := 14) rfl))) (by decide) (backOf (W := 0) (rmAt1 l Z a0 hw [] b15 b4 (1 : Int32) k4 (2 : Int32) [(.int (nar .byte (p3.toInt8.toInt32))), (.int (nar .byte (p4.toInt8.toInt32)))] (nar .byte (p4.toInt8.toInt32)) h29 n0 (Nat.le_trans Z0 kp41.1) f31 f32 f34 (by decide) ⟨by decide, by decide⟩ rfl) hZ (hw _ (List.mem_of_getElem? (i := 16) rfl)) (hw _ (List.mem_of_getElem? (i := 3) rfl)) (by decide) (by decide)) q42a q42c (g := (mkF m 128 #[.val (.int p1), .val (.int p2), .val (.int p3), .val (.int p4), .val (.int p5), .val (.int (2 : Int32)), .val (.int (1 : Int32)), .val (.ref b4), .val (.ref b15), .val (.int v37), .unset, .unset] [(.ref b15)])) rfl (by rw [hml]; rfl) (Steps.refl _) (argsL := []) (rest := []) (lenOf pd___Z rfl) rfl (by show 2 * 0 + _ ≤ _; exact Nat.le_of_eq rfl) (hb hby at_128) (fun _ _ => ⟨rfl, e29, (by decide : 2 + 0 ≤ _), (by decide : 4 + 0 ≤ _)⟩)
  dsimp only [Pt.U, Pt.locs, Pt.cells, Pt.slots] at X42' l42 y42 z42 st42 hQ42
  subst l42 y42 z42
  obtain ⟨rfl, N42q, e42⟩ := hQ42
  obtain ⟨lc42, X42, N42⟩ : ∃ lc, Stand p l e room_1 s m #[(.int p1), (.int p2), (.int p3), (.int p4), (.int p5)] below meth c T42 lc 2 4 ∧ Fr n0 lc := ⟨_, X42', Fr.app N29 N42q⟩
  have K43 : Gx p e below s₁ f0 T42 (mkF m 131 #[.val (.int p1), .val (.int p2), .val (.int p3), .val (.int p4), .val (.int p5), .val (.int (2 : Int32)), .val (.int (1 : Int32)), .val (.ref b4), .val (.ref b15), .val (.int v37), .unset, .unset] [(.int (if (nar .byte (p4.toInt8.toInt32)) = (0 : Int32) then (1 : Int32) else (0 : Int32)))]) := fun t kt => K40 t (st42.trans kt)
  have K44 : Gx p e below s₁ f0 T42 (mkF m 135 #[.val (.int p1), .val (.int p2), .val (.int p3), .val (.int p4), .val (.int p5), .val (.int (2 : Int32)), .val (.int (1 : Int32)), .val (.ref b4), .val (.ref b15), .val (.int v37), .val (.int (if (nar .byte (p4.toInt8.toInt32)) = (0 : Int32) then (1 : Int32) else (0 : Int32))), .unset] [(.ref b15)]) := fun t kt => K43 t (by
    show Steps p.tables e below (T42.setTop (mkF m 131 #[.val (.int p1), .val (.int p2), .val (.int p3), .val (.int p4), .val (.int p5), .val (.int (2 : Int32)), .val (.int (1 : Int32)), .val (.ref b4), .val (.ref b15), .val (.int v37), .unset, .unset] [(.int (if (nar .byte (p4.toInt8.toInt32)) = (0 : Int32) then (1 : Int32) else (0 : Int32)))])) _
    refine XS.istore X42.here hx rfl (hb hby at_131) rfl (l' := #[.val (.int p1), .val (.int p2), .val (.int p3), .val (.int p4), .val (.int p5), .val (.int (2 : Int32)), .val (.int (1 : Int32)), .val (.ref b4), .val (.ref b15), .val (.int v37), .val (.int (if (nar .byte (p4.toInt8.toInt32)) = (0 : Int32) then (1 : Int32) else (0 : Int32))), .unset]) rfl ?_
    show Steps p.tables e below (T42.setTop (mkF m 133 #[.val (.int p1), .val (.int p2), .val (.int p3), .val (.int p4), .val (.int p5), .val (.int (2 : Int32)), .val (.int (1 : Int32)), .val (.ref b4), .val (.ref b15), .val (.int v37), .val (.int (if (nar .byte (p4.toInt8.toInt32)) = (0 : Int32) then (1 : Int32) else (0 : Int32))), .unset] [])) _
    refine XS.aload X42.here hx rfl (hb hby at_133) rfl rfl ?_
    exact kt)
  obtain ⟨cq45, kq45, q45a, q45b, q45c⟩ := isOf hZ e42 f30
  obtain ⟨_, _, ⟨T45, L45, k45, n45⟩, -, X45', ⟨Lc45, hQ45, l45, y45, z45⟩, st45⟩ := X42.virtualBack hx (y := (⟨"com/example/looseleaf/looseleaf/pgwire/MessageBody", "atNul", "()Z"⟩ : MethodName)) (z := (⟨"com/example/looseleaf/looseleaf/pgwire/MessageBody", "atNul", "()Z"⟩ : MethodName)) hown (mvT hZ (hw _ (List.mem_of_getElem? (i := 12) rfl))) (mvT hZ (hw _ (List.mem_of_getElem? (i := 13) rfl))) (notFace_of_selects (args := #[]) (mvT hZ (hw _ (List.mem_of_getElem? (i := 15) rfl)))) (mvT hZ (hw _ (List.mem_of_getElem? (i := 15) rfl))) (mvT hZ (hw _ (List.mem_of_getElem? (i := 14) rfl))) (by decide) (backOf (W := 0) (rmAt1 l Z a0 hw [] b15 b4 (1 : Int32) k4 (2 : Int32) [(.int (nar .byte (p3.toInt8.toInt32))), (.int (nar .byte (p4.toInt8.toInt32)))] (nar .byte (p4.toInt8.toInt32)) h29 n0 (Nat.le_trans Z0 kp41.1) f31 f32 f34 (by decide) ⟨by decide, by decide⟩ rfl) hZ (hw _ (List.mem_of_getElem? (i := 16) rfl)) (hw _ (List.mem_of_getElem? (i := 3) rfl)) (by decide) (by decide)) q45a q45c (g := (mkF m 135 #[.val (.int p1), .val (.int p2), .val (.int p3), .val (.int p4), .val (.int p5), .val (.int (2 : Int32)), .val (.int (1 : Int32)), .val (.ref b4), .val (.ref b15), .val (.int v37), .val (.int (if (nar .byte (p4.toInt8.toInt32)) = (0 : Int32) then (1 : Int32) else (0 : Int32))), .unset] [(.ref b15)])) rfl (by rw [hml]; rfl) (Steps.refl _) (argsL := []) (rest := []) (lenOf pd___Z rfl) rfl (by show 2 * 0 + _ ≤ _; exact Nat.le_of_eq rfl) (hb hby at_135) (fun _ _ => ⟨rfl, e42, (by decide : 2 + 0 ≤ _), (by decide : 4 + 0 ≤ _)⟩)
  dsimp only [Pt.U, Pt.locs, Pt.cells, Pt.slots] at X45' l45 y45 z45 st45 hQ45
  subst l45 y45 z45
  obtain ⟨rfl, N45q, e45⟩ := hQ45
  obtain ⟨lc45, X45, N45⟩ : ∃ lc, Stand p l e room_1 s m #[(.int p1), (.int p2), (.int p3), (.int p4), (.int p5)] below meth c T45 lc 2 4 ∧ Fr n0 lc := ⟨_, X45', Fr.app N42 N45q⟩
  have K46 : Gx p e below s₁ f0 T45 (mkF m 138 #[.val (.int p1), .val (.int p2), .val (.int p3), .val (.int p4), .val (.int p5), .val (.int (2 : Int32)), .val (.int (1 : Int32)), .val (.ref b4), .val (.ref b15), .val (.int v37), .val (.int (if (nar .byte (p4.toInt8.toInt32)) = (0 : Int32) then (1 : Int32) else (0 : Int32))), .unset] [(.int (if (nar .byte (p4.toInt8.toInt32)) = (0 : Int32) then (1 : Int32) else (0 : Int32)))]) := fun t kt => K44 t (st45.trans kt)
  have K47 : Gx p e below s₁ f0 T45 (mkF m 165 #[.val (.int p1), .val (.int p2), .val (.int p3), .val (.int p4), .val (.int p5), .val (.int (2 : Int32)), .val (.int (1 : Int32)), .val (.ref b4), .val (.ref b15), .val (.int v37), .val (.int (if (nar .byte (p4.toInt8.toInt32)) = (0 : Int32) then (1 : Int32) else (0 : Int32))), .val (.int (if (nar .byte (p4.toInt8.toInt32)) = (0 : Int32) then (1 : Int32) else (0 : Int32)))] [(.ref b15)]) := fun t kt => K46 t (by
    show Steps p.tables e below (T45.setTop (mkF m 138 #[.val (.int p1), .val (.int p2), .val (.int p3), .val (.int p4), .val (.int p5), .val (.int (2 : Int32)), .val (.int (1 : Int32)), .val (.ref b4), .val (.ref b15), .val (.int v37), .val (.int (if (nar .byte (p4.toInt8.toInt32)) = (0 : Int32) then (1 : Int32) else (0 : Int32))), .unset] [(.int (if (nar .byte (p4.toInt8.toInt32)) = (0 : Int32) then (1 : Int32) else (0 : Int32)))])) _
    refine XS.istore X45.here hx rfl (hb hby at_138) rfl (l' := #[.val (.int p1), .val (.int p2), .val (.int p3), .val (.int p4), .val (.int p5), .val (.int (2 : Int32)), .val (.int (1 : Int32)), .val (.ref b4), .val (.ref b15), .val (.int v37), .val (.int (if (nar .byte (p4.toInt8.toInt32)) = (0 : Int32) then (1 : Int32) else (0 : Int32))), .val (.int (if (nar .byte (p4.toInt8.toInt32)) = (0 : Int32) then (1 : Int32) else (0 : Int32)))]) rfl ?_
    show Steps p.tables e below (T45.setTop (mkF m 140 #[.val (.int p1), .val (.int p2), .val (.int p3), .val (.int p4), .val (.int p5), .val (.int (2 : Int32)), .val (.int (1 : Int32)), .val (.ref b4), .val (.ref b15), .val (.int v37), .val (.int (if (nar .byte (p4.toInt8.toInt32)) = (0 : Int32) then (1 : Int32) else (0 : Int32))), .val (.int (if (nar .byte (p4.toInt8.toInt32)) = (0 : Int32) then (1 : Int32) else (0 : Int32)))] [])) _
    refine XS.iload X45.here hx rfl (hb hby at_140) rfl ?_
    show Steps p.tables e below (T45.setTop (mkF m 142 #[.val (.int p1), .val (.int p2), .val (.int p3), .val (.int p4), .val (.int p5), .val (.int (2 : Int32)), .val (.int (1 : Int32)), .val (.ref b4), .val (.ref b15), .val (.int v37), .val (.int (if (nar .byte (p4.toInt8.toInt32)) = (0 : Int32) then (1 : Int32) else (0 : Int32))), .val (.int (if (nar .byte (p4.toInt8.toInt32)) = (0 : Int32) then (1 : Int32) else (0 : Int32)))] [(.int (if (nar .byte (p4.toInt8.toInt32)) = (0 : Int32) then (1 : Int32) else (0 : Int32)))])) _
    refine XS.iload X45.here hx rfl (hb hby at_142) rfl ?_
    show Steps p.tables e below (T45.setTop (mkF m 144 #[.val (.int p1), .val (.int p2), .val (.int p3), .val (.int p4), .val (.int p5), .val (.int (2 : Int32)), .val (.int (1 : Int32)), .val (.ref b4), .val (.ref b15), .val (.int v37), .val (.int (if (nar .byte (p4.toInt8.toInt32)) = (0 : Int32) then (1 : Int32) else (0 : Int32))), .val (.int (if (nar .byte (p4.toInt8.toInt32)) = (0 : Int32) then (1 : Int32) else (0 : Int32)))] [(.int v37), (.int (if (nar .byte (p4.toInt8.toInt32)) = (0 : Int32) then (1 : Int32) else (0 : Int32)))])) _
    refine XS.icmpNo X45.here hx rfl (hb hby at_144) rfl (teq (by rw [hv37])).2 ?_
    show Steps p.tables e below (T45.setTop (mkF m 147 #[.val (.int p1), .val (.int p2), .val (.int p3), .val (.int p4), .val (.int p5), .val (.int (2 : Int32)), .val (.int (1 : Int32)), .val (.ref b4), .val (.ref b15), .val (.int v37), .val (.int (if (nar .byte (p4.toInt8.toInt32)) = (0 : Int32) then (1 : Int32) else (0 : Int32))), .val (.int (if (nar .byte (p4.toInt8.toInt32)) = (0 : Int32) then (1 : Int32) else (0 : Int32)))] [])) _
    refine XS.iload X45.here hx rfl (hb hby at_147) rfl ?_
    show Steps p.tables e below (T45.setTop (mkF m 149 #[.val (.int p1), .val (.int p2), .val (.int p3), .val (.int p4), .val (.int p5), .val (.int (2 : Int32)), .val (.int (1 : Int32)), .val (.ref b4), .val (.ref b15), .val (.int v37), .val (.int (if (nar .byte (p4.toInt8.toInt32)) = (0 : Int32) then (1 : Int32) else (0 : Int32))), .val (.int (if (nar .byte (p4.toInt8.toInt32)) = (0 : Int32) then (1 : Int32) else (0 : Int32)))] [(.int (if (nar .byte (p4.toInt8.toInt32)) = (0 : Int32) then (1 : Int32) else (0 : Int32)))])) _
    refine XS.iload X45.here hx rfl (hb hby at_149) rfl ?_
    show Steps p.tables e below (T45.setTop (mkF m 151 #[.val (.int p1), .val (.int p2), .val (.int p3), .val (.int p4), .val (.int p5), .val (.int (2 : Int32)), .val (.int (1 : Int32)), .val (.ref b4), .val (.ref b15), .val (.int v37), .val (.int (if (nar .byte (p4.toInt8.toInt32)) = (0 : Int32) then (1 : Int32) else (0 : Int32))), .val (.int (if (nar .byte (p4.toInt8.toInt32)) = (0 : Int32) then (1 : Int32) else (0 : Int32)))] [(.int v37), (.int (if (nar .byte (p4.toInt8.toInt32)) = (0 : Int32) then (1 : Int32) else (0 : Int32)))])) _
    refine XS.icmpYes X45.here hx rfl (pc0 := 151) (pc' := 156) rfl (hb hby at_151) rfl (teq (by rw [hv37])).1 (by decide) (by decide) ?_
    show Steps p.tables e below (T45.setTop (mkF m 156 #[.val (.int p1), .val (.int p2), .val (.int p3), .val (.int p4), .val (.int p5), .val (.int (2 : Int32)), .val (.int (1 : Int32)), .val (.ref b4), .val (.ref b15), .val (.int v37), .val (.int (if (nar .byte (p4.toInt8.toInt32)) = (0 : Int32) then (1 : Int32) else (0 : Int32))), .val (.int (if (nar .byte (p4.toInt8.toInt32)) = (0 : Int32) then (1 : Int32) else (0 : Int32)))] [])) _
    refine XS.iload X45.here hx rfl (hb hby at_156) rfl ?_
    show Steps p.tables e below (T45.setTop (mkF m 158 #[.val (.int p1), .val (.int p2), .val (.int p3), .val (.int p4), .val (.int p5), .val (.int (2 : Int32)), .val (.int (1 : Int32)), .val (.ref b4), .val (.ref b15), .val (.int v37), .val (.int (if (nar .byte (p4.toInt8.toInt32)) = (0 : Int32) then (1 : Int32) else (0 : Int32))), .val (.int (if (nar .byte (p4.toInt8.toInt32)) = (0 : Int32) then (1 : Int32) else (0 : Int32)))] [(.int (1 : Int32))])) _
    refine XS.iload X45.here hx rfl (hb hby at_158) rfl ?_
    show Steps p.tables e below (T45.setTop (mkF m 160 #[.val (.int p1), .val (.int p2), .val (.int p3), .val (.int p4), .val (.int p5), .val (.int (2 : Int32)), .val (.int (1 : Int32)), .val (.ref b4), .val (.ref b15), .val (.int v37), .val (.int (if (nar .byte (p4.toInt8.toInt32)) = (0 : Int32) then (1 : Int32) else (0 : Int32))), .val (.int (if (nar .byte (p4.toInt8.toInt32)) = (0 : Int32) then (1 : Int32) else (0 : Int32)))] [(.int (2 : Int32)), (.int (1 : Int32))])) _
    refine XS.icmpNo X45.here hx rfl (hb hby at_160) rfl (tlt (by decide)).2.1 ?_
    show Steps p.tables e below (T45.setTop (mkF m 163 #[.val (.int p1), .val (.int p2), .val (.int p3), .val (.int p4), .val (.int p5), .val (.int (2 : Int32)), .val (.int (1 : Int32)), .val (.ref b4), .val (.ref b15), .val (.int v37), .val (.int (if (nar .byte (p4.toInt8.toInt32)) = (0 : Int32) then (1 : Int32) else (0 : Int32))), .val (.int (if (nar .byte (p4.toInt8.toInt32)) = (0 : Int32) then (1 : Int32) else (0 : Int32)))] [])) _
    refine XS.aload X45.here hx rfl (hb hby at_163) rfl rfl ?_
    exact kt)
  obtain ⟨cq48, kq48, q48a, q48b, q48c⟩ := isOf hZ e45 f30
  obtain ⟨_, _, ⟨T48, L48, k48, n48⟩, -, X48', ⟨Lc48, hQ48, l48, y48, z48⟩, st48⟩ := X45.virtualBack hx (y := (⟨"com/example/looseleaf/looseleaf/pgwire/MessageBody", "byte1", "()I"⟩ : MethodName)) (z := (⟨"com/example/looseleaf/looseleaf/pgwire/MessageBody", "byte1", "()I"⟩ : MethodName)) hown (mvT hZ (hw _ (List.mem_of_getElem? (i := 19) rfl))) (mvT hZ (hw _ (List.mem_of_getElem? (i := 20) rfl))) (notFace_of_selects (args := #[]) (mvT hZ (hw _ (List.mem_of_getElem? (i := 22) rfl)))) (mvT hZ (hw _ (List.mem_of_getElem? (i := 22) rfl))) (mvT hZ (hw _ (List.mem_of_getElem? (i := 21) rfl))) (by decide) (backOf (W := 0) (rmBy1 l Z a0 hw [] b15 b4 (1 : Int32) k4 (2 : Int32) [(.int (nar .byte (p3.toInt8.toInt32))), (.int (nar .byte (p4.toInt8.toInt32)))] (nar .byte (p4.toInt8.toInt32)) (2 : Int32) h29 n0 (Nat.le_trans Z0 kp41.1) f30 (Nat.le_trans Z0 (Nat.le_trans ((((Keep.refl h0 []).ext E4).wr W8 (Or.inr (Nat.le_trans (Keep.refl h0 []).1 (Nat.le_of_eq g4.symm)))).wr W12 (Or.inr (Nat.le_trans (Keep.refl h0 []).1 (Nat.le_of_eq g4.symm)))).1 (Nat.le_of_eq g15.symm))) f31 f32 f34 (Ne.symm (Nat.ne_of_lt (Nat.lt_of_lt_of_le V12.lt (Nat.le_of_eq g15.symm)))) (by decide) ⟨by decide, by decide⟩ rfl (by decide)) hZ (hw _ (List.mem_of_getElem? (i := 23) rfl)) (hw _ (List.mem_of_getElem? (i := 3) rfl)) (by decide) (by decide)) q48a q48c (g := (mkF m 165 #[.val (.int p1), .val (.int p2), .val (.int p3), .val (.int p4), .val (.int p5), .val (.int (2 : Int32)), .val (.int (1 : Int32)), .val (.ref b4), .val (.ref b15), .val (.int v37), .val (.int (if (nar .byte (p4.toInt8.toInt32)) = (0 : Int32) then (1 : Int32) else (0 : Int32))), .val (.int (if (nar .byte (p4.toInt8.toInt32)) = (0 : Int32) then (1 : Int32) else (0 : Int32)))] [(.ref b15)])) rfl (by rw [hml]; rfl) (Steps.refl _) (argsL := []) (rest := []) (lenOf pd___I rfl) rfl (by show 2 * 0 + _ ≤ _; exact Nat.le_of_eq rfl) (hb hby at_165) (fun _ _ => ⟨rfl, e45, (by decide : 2 + 0 ≤ _), (by decide : 4 + 0 ≤ _)⟩)
  dsimp only [Pt.U, Pt.locs, Pt.cells, Pt.slots] at X48' l48 y48 z48 st48 hQ48
  subst l48 y48 z48
  obtain ⟨h48, e48⟩ : ∃ z, T48.heap = z := ⟨_, rfl⟩
  rw [e48] at hQ48
  obtain ⟨rfl, N48q, Kc48, f49, f50, f51⟩ := hQ48
  obtain ⟨lc48, X48, N48⟩ : ∃ lc, Stand p l e room_1 s m #[(.int p1), (.int p2), (.int p3), (.int p4), (.int p5)] below meth c T48 lc 2 4 ∧ Fr n0 lc := ⟨_, X48', Fr.app N45 N48q⟩
  have K52 : Gx p e below s₁ f0 T48 (mkF m 168 #[.val (.int p1), .val (.int p2), .val (.int p3), .val (.int p4), .val (.int p5), .val (.int (2 : Int32)), .val (.int (1 : Int32)), .val (.ref b4), .val (.ref b15), .val (.int v37), .val (.int (if (nar .byte (p4.toInt8.toInt32)) = (0 : Int32) then (1 : Int32) else (0 : Int32))), .val (.int (if (nar .byte (p4.toInt8.toInt32)) = (0 : Int32) then (1 : Int32) else (0 : Int32)))] [(.int ((nar .byte (p4.toInt8.toInt32)) &&& (255 : Int32)))]) := fun t kt => K47 t (st48.trans kt)
  have f53 : Arv Z h48 b4 k4 .byte (2 : Int32) [(.int (nar .byte (p3.toInt8.toInt32))), (.int (nar .byte (p4.toInt8.toInt32)))] (.int (0 : Int32)) := (f34.keep Kc48 (ninS (Nat.ne_of_lt (Nat.lt_of_lt_of_le V12.lt (Nat.le_of_eq g15.symm))) nin0))
  obtain ⟨clq54, Arq54, ckq54, cSq54, cNq54, cHq54, cGq54⟩ := id f53
  have K55 : Gx p e below s₁ f0 T48 (mkF m 185 #[.val (.int p1), .val (.int p2), .val (.int p3), .val (.int p4), .val (.int p5), .val (.int (2 : Int32)), .val (.int (1 : Int32)), .val (.ref b4), .val (.ref b15), .val (.int v37), .val (.int (if (nar .byte (p4.toInt8.toInt32)) = (0 : Int32) then (1 : Int32) else (0 : Int32))), .val (.int (if (nar .byte (p4.toInt8.toInt32)) = (0 : Int32) then (1 : Int32) else (0 : Int32)))] [(.int (1 : Int32))]) := fun t kt => K52 t (by
    show Steps p.tables e below (T48.setTop (mkF m 168 #[.val (.int p1), .val (.int p2), .val (.int p3), .val (.int p4), .val (.int p5), .val (.int (2 : Int32)), .val (.int (1 : Int32)), .val (.ref b4), .val (.ref b15), .val (.int v37), .val (.int (if (nar .byte (p4.toInt8.toInt32)) = (0 : Int32) then (1 : Int32) else (0 : Int32))), .val (.int (if (nar .byte (p4.toInt8.toInt32)) = (0 : Int32) then (1 : Int32) else (0 : Int32)))] [(.int ((nar .byte (p4.toInt8.toInt32)) &&& (255 : Int32)))])) _
    refine XS.aload X48.here hx rfl (hb hby at_168) rfl rfl ?_
    show Steps p.tables e below (T48.setTop (mkF m 170 #[.val (.int p1), .val (.int p2), .val (.int p3), .val (.int p4), .val (.int p5), .val (.int (2 : Int32)), .val (.int (1 : Int32)), .val (.ref b4), .val (.ref b15), .val (.int v37), .val (.int (if (nar .byte (p4.toInt8.toInt32)) = (0 : Int32) then (1 : Int32) else (0 : Int32))), .val (.int (if (nar .byte (p4.toInt8.toInt32)) = (0 : Int32) then (1 : Int32) else (0 : Int32)))] [(.ref b4), (.int ((nar .byte (p4.toInt8.toInt32)) &&& (255 : Int32)))])) _
    refine XS.iload X48.here hx rfl (hb hby at_170) rfl ?_
    show Steps p.tables e below (T48.setTop (mkF m 172 #[.val (.int p1), .val (.int p2), .val (.int p3), .val (.int p4), .val (.int p5), .val (.int (2 : Int32)), .val (.int (1 : Int32)), .val (.ref b4), .val (.ref b15), .val (.int v37), .val (.int (if (nar .byte (p4.toInt8.toInt32)) = (0 : Int32) then (1 : Int32) else (0 : Int32))), .val (.int (if (nar .byte (p4.toInt8.toInt32)) = (0 : Int32) then (1 : Int32) else (0 : Int32)))] [(.int (1 : Int32)), (.ref b4), (.int ((nar .byte (p4.toInt8.toInt32)) &&& (255 : Int32)))])) _
    refine X48.baloadBytes hx (j := (1 : Int32)) (v := (.int (nar .byte (p4.toInt8.toInt32)))) (by rw [e48]; exact Arq54.1) (State.isArrayOf_alike hZ.alike Arq54.2.1) Arq54.2.2 (inb_of cSq54 ⟨by decide, by decide⟩) (Has.at cHq54 (inb_of cSq54 ⟨by decide, by decide⟩) rfl) (g := (mkF m 172 #[.val (.int p1), .val (.int p2), .val (.int p3), .val (.int p4), .val (.int p5), .val (.int (2 : Int32)), .val (.int (1 : Int32)), .val (.ref b4), .val (.ref b15), .val (.int v37), .val (.int (if (nar .byte (p4.toInt8.toInt32)) = (0 : Int32) then (1 : Int32) else (0 : Int32))), .val (.int (if (nar .byte (p4.toInt8.toInt32)) = (0 : Int32) then (1 : Int32) else (0 : Int32)))] [(.int (1 : Int32)), (.ref b4), (.int ((nar .byte (p4.toInt8.toInt32)) &&& (255 : Int32)))])) rfl rfl (hb hby at_172) _ ?_
    show Steps p.tables e below (T48.setTop (mkF m 173 #[.val (.int p1), .val (.int p2), .val (.int p3), .val (.int p4), .val (.int p5), .val (.int (2 : Int32)), .val (.int (1 : Int32)), .val (.ref b4), .val (.ref b15), .val (.int v37), .val (.int (if (nar .byte (p4.toInt8.toInt32)) = (0 : Int32) then (1 : Int32) else (0 : Int32))), .val (.int (if (nar .byte (p4.toInt8.toInt32)) = (0 : Int32) then (1 : Int32) else (0 : Int32)))] [(.int (nar .byte (p4.toInt8.toInt32))), (.int ((nar .byte (p4.toInt8.toInt32)) &&& (255 : Int32)))])) _
    refine XS.sipush X48.here hx rfl (hb hby at_173) ?_
    show Steps p.tables e below (T48.setTop (mkF m 176 #[.val (.int p1), .val (.int p2), .val (.int p3), .val (.int p4), .val (.int p5), .val (.int (2 : Int32)), .val (.int (1 : Int32)), .val (.ref b4), .val (.ref b15), .val (.int v37), .val (.int (if (nar .byte (p4.toInt8.toInt32)) = (0 : Int32) then (1 : Int32) else (0 : Int32))), .val (.int (if (nar .byte (p4.toInt8.toInt32)) = (0 : Int32) then (1 : Int32) else (0 : Int32)))] [(.int (255 : Int32)), (.int (nar .byte (p4.toInt8.toInt32))), (.int ((nar .byte (p4.toInt8.toInt32)) &&& (255 : Int32)))])) _
    refine XS.iand X48.here hx rfl (hb hby at_176) rfl ?_
    show Steps p.tables e below (T48.setTop (mkF m 177 #[.val (.int p1), .val (.int p2), .val (.int p3), .val (.int p4), .val (.int p5), .val (.int (2 : Int32)), .val (.int (1 : Int32)), .val (.ref b4), .val (.ref b15), .val (.int v37), .val (.int (if (nar .byte (p4.toInt8.toInt32)) = (0 : Int32) then (1 : Int32) else (0 : Int32))), .val (.int (if (nar .byte (p4.toInt8.toInt32)) = (0 : Int32) then (1 : Int32) else (0 : Int32)))] [(.int ((nar .byte (p4.toInt8.toInt32)) &&& (255 : Int32))), (.int ((nar .byte (p4.toInt8.toInt32)) &&& (255 : Int32)))])) _
    refine XS.icmpNo X48.here hx rfl (hb hby at_177) rfl (teq rfl).2 ?_
    show Steps p.tables e below (T48.setTop (mkF m 180 #[.val (.int p1), .val (.int p2), .val (.int p3), .val (.int p4), .val (.int p5), .val (.int (2 : Int32)), .val (.int (1 : Int32)), .val (.ref b4), .val (.ref b15), .val (.int v37), .val (.int (if (nar .byte (p4.toInt8.toInt32)) = (0 : Int32) then (1 : Int32) else (0 : Int32))), .val (.int (if (nar .byte (p4.toInt8.toInt32)) = (0 : Int32) then (1 : Int32) else (0 : Int32)))] [])) _
    refine XS.iconst X48.here hx rfl (hb hby at_180) ?_
    show Steps p.tables e below (T48.setTop (mkF m 181 #[.val (.int p1), .val (.int p2), .val (.int p3), .val (.int p4), .val (.int p5), .val (.int (2 : Int32)), .val (.int (1 : Int32)), .val (.ref b4), .val (.ref b15), .val (.int v37), .val (.int (if (nar .byte (p4.toInt8.toInt32)) = (0 : Int32) then (1 : Int32) else (0 : Int32))), .val (.int (if (nar .byte (p4.toInt8.toInt32)) = (0 : Int32) then (1 : Int32) else (0 : Int32)))] [(.int (1 : Int32))])) _
    refine XS.goto X48.here hx rfl (pc0 := 181) (pc' := 185) rfl (hb hby at_181) (by decide) (by decide) ?_
    exact kt)
  obtain ⟨fs56, hr56, hrun56, hended56, hW56, hsame56⟩ := X48.leave (v := some (.int (1 : Int32))) (fun h => by rw [Bd.returns] at h; cases h)
  refine ⟨_, _, pre0 _ (K55 _ ?_), hrun56, hended56, _, _, rfl, ?_, ⟨_, rfl⟩, hW56, hsame56.mono (by decide) (by decide)⟩
  · exact retN X48 hx (t := .boolean) Bd.returns (by simp) (hb hby at_185) hr56
  · show Q0 Z p1 p2 p3 p4 p5 h0 n0 _ T48.heap _
    rw [e48]
    exact ⟨rfl, N48⟩
theorem ef_0_22 (m : MethodId) (p1 : Int32) (p2 : Int32) (p3 : Int32) (p4 : Int32) (p5 : Int32) : entryFrame m #[(.int p1), (.int p2), (.int p3), (.int p4), (.int p5)] maxLocals = mkF m 0 #[.val (.int p1), .val (.int p2), .val (.int p3), .val (.int p4), .val (.int p5), .unset, .unset, .unset, .unset, .unset, .unset, .unset] [] := by first | (simp [entryFrame, mkF, argsToLocals, Value.category, maxLocals]; done) | rfl
set_option maxRecDepth 65536 in
set_option maxHeartbeats 40000000 in
theorem rm0_22 (l : Launch) (Z : State) (a0 : Array Value) (hw : ∀ d ∈ tables_1, d.before a0 Z = true) (ws : List Jvm.Cond) (p1 : Int32) (p2 : Int32) (p3 : Int32) (p4 : Int32) (p5 : Int32) (h0 : Heap) (n0 : Nat) (Z0 : n0 ≤ h0.size) (hn_ : (p1 &&& (3 : Int32)) = (2 : Int32)) (hk_ : ((p2 &&& (3 : Int32)) % (3 : Int32)) = (2 : Int32)) :
    MetFree l x (head1 (Jvm.Cond.code x code maxLocals ret :: ws) room_1) (fun a U => a = #[(.int p1), (.int p2), (.int p3), (.int p4), (.int p5)] ∧ Z.Warmed39 U.vm ∧ U.heap = h0) (fun _ _ _ _ _ => True) (fun _ U o U' => ∃ v L, o = .returned v ∧ Q0 Z p1 p2 p3 p4 p5 h0 n0 v U'.heap L ∧ FrameEnd U o U' L room_1.cells room_1.slots) := by
  refine MetFree.of_bodySF (plainFor_of_name pn_0) hisR ?_
  intro p e s m args below meth c s₁ Bd hml0 hP hK
  obtain ⟨rfl, hZ, hh⟩ := hP
  have hx := Bd.exec
  have hby := Bd.bytes
  have hml : c.maxLocals = 12 := hml0
  have hown : s.vm.findClass "com/example/looseleaf/looseleaf/pgwire/MessageBodyAtNulPinLaw" = some m.cls := findClass_of_methodNamed Bd.named
  have hnm := (name_of_methodNamed Bd.named Bd.method).1
  have X0 : Stand p l e room_1 s m #[(.int p1), (.int p2), (.int p3), (.int p4), (.int p5)] below meth c s₁ [] 0 0 := Stand.of_body Bd
  have hs0 : h0 = s.heap := hh.symm
  have e0 : s₁.heap = h0 := by rw [← hh, Bd.state]; rfl
  have N0 := Fr.nil n0
  obtain ⟨f0, hf0⟩ : ∃ f, f = entryFrame m #[(.int p1), (.int p2), (.int p3), (.int p4), (.int p5)] maxLocals := ⟨_, rfl⟩
  have pre0 : ∀ t, Steps p.tables e below (s₁.setTop f0) t → Steps p.tables e below (s₁.setTop (entryFrame m #[(.int p1), (.int p2), (.int p3), (.int p4), (.int p5)] maxLocals)) t := fun t k => hf0 ▸ k
  have K0 : Gx p e below s₁ f0 s₁ (mkF m 0 #[.val (.int p1), .val (.int p2), .val (.int p3), .val (.int p4), .val (.int p5), .unset, .unset, .unset, .unset, .unset, .unset, .unset] []) := fun t kt => by rw [hf0]; exact castTop (ef_0_22 m p1 p2 p3 p4 p5) kt
  have K1 : Gx p e below s₁ f0 s₁ (mkF m 5 #[.val (.int p1), .val (.int p2), .val (.int p3), .val (.int p4), .val (.int p5), .val (.int (p1 &&& (3 : Int32))), .unset, .unset, .unset, .unset, .unset, .unset] []) := fun t kt => K0 t (by
    show Steps p.tables e below (s₁.setTop (mkF m 0 #[.val (.int p1), .val (.int p2), .val (.int p3), .val (.int p4), .val (.int p5), .unset, .unset, .unset, .unset, .unset, .unset, .unset] [])) _
    refine XS.iloadN X0.here hx rfl (hb hby at_0) rfl ?_
    show Steps p.tables e below (s₁.setTop (mkF m 1 #[.val (.int p1), .val (.int p2), .val (.int p3), .val (.int p4), .val (.int p5), .unset, .unset, .unset, .unset, .unset, .unset, .unset] [(.int p1)])) _
    refine XS.iconst X0.here hx rfl (hb hby at_1) ?_
    show Steps p.tables e below (s₁.setTop (mkF m 2 #[.val (.int p1), .val (.int p2), .val (.int p3), .val (.int p4), .val (.int p5), .unset, .unset, .unset, .unset, .unset, .unset, .unset] [(.int (3 : Int32)), (.int p1)])) _
    refine XS.iand X0.here hx rfl (hb hby at_2) rfl ?_
    show Steps p.tables e below (s₁.setTop (mkF m 3 #[.val (.int p1), .val (.int p2), .val (.int p3), .val (.int p4), .val (.int p5), .unset, .unset, .unset, .unset, .unset, .unset, .unset] [(.int (p1 &&& (3 : Int32)))])) _
    refine XS.istore X0.here hx rfl (hb hby at_3) rfl (l' := #[.val (.int p1), .val (.int p2), .val (.int p3), .val (.int p4), .val (.int p5), .val (.int (p1 &&& (3 : Int32))), .unset, .unset, .unset, .unset, .unset, .unset]) rfl ?_
    exact kt)
  rw [hn_] at K1
  have K2 : Gx p e below s₁ f0 s₁ (mkF m 15 #[.val (.int p1), .val (.int p2), .val (.int p3), .val (.int p4), .val (.int p5), .val (.int (2 : Int32)), .val (.int ((p2 &&& (3 : Int32)) % (3 : Int32))), .unset, .unset, .unset, .unset, .unset] []) := fun t kt => K1 t (by
    show Steps p.tables e below (s₁.setTop (mkF m 5 #[.val (.int p1), .val (.int p2), .val (.int p3), .val (.int p4), .val (.int p5), .val (.int (2 : Int32)), .unset, .unset, .unset, .unset, .unset, .unset] [])) _
    refine XS.iloadN X0.here hx rfl (hb hby at_5) rfl ?_
    show Steps p.tables e below (s₁.setTop (mkF m 6 #[.val (.int p1), .val (.int p2), .val (.int p3), .val (.int p4), .val (.int p5), .val (.int (2 : Int32)), .unset, .unset, .unset, .unset, .unset, .unset] [(.int p2)])) _
    refine XS.iconst X0.here hx rfl (hb hby at_6) ?_
    show Steps p.tables e below (s₁.setTop (mkF m 7 #[.val (.int p1), .val (.int p2), .val (.int p3), .val (.int p4), .val (.int p5), .val (.int (2 : Int32)), .unset, .unset, .unset, .unset, .unset, .unset] [(.int (3 : Int32)), (.int p2)])) _
    refine XS.iand X0.here hx rfl (hb hby at_7) rfl ?_
    show Steps p.tables e below (s₁.setTop (mkF m 8 #[.val (.int p1), .val (.int p2), .val (.int p3), .val (.int p4), .val (.int p5), .val (.int (2 : Int32)), .unset, .unset, .unset, .unset, .unset, .unset] [(.int (p2 &&& (3 : Int32)))])) _
    refine XS.iload X0.here hx rfl (hb hby at_8) rfl ?_
    show Steps p.tables e below (s₁.setTop (mkF m 10 #[.val (.int p1), .val (.int p2), .val (.int p3), .val (.int p4), .val (.int p5), .val (.int (2 : Int32)), .unset, .unset, .unset, .unset, .unset, .unset] [(.int (2 : Int32)), (.int (p2 &&& (3 : Int32)))])) _
    refine XS.iconst X0.here hx rfl (hb hby at_10) ?_
    show Steps p.tables e below (s₁.setTop (mkF m 11 #[.val (.int p1), .val (.int p2), .val (.int p3), .val (.int p4), .val (.int p5), .val (.int (2 : Int32)), .unset, .unset, .unset, .unset, .unset, .unset] [(.int (1 : Int32)), (.int (2 : Int32)), (.int (p2 &&& (3 : Int32)))])) _
    refine XS.iadd X0.here hx rfl (hb hby at_11) rfl ?_
    show Steps p.tables e below (s₁.setTop (mkF m 12 #[.val (.int p1), .val (.int p2), .val (.int p3), .val (.int p4), .val (.int p5), .val (.int (2 : Int32)), .unset, .unset, .unset, .unset, .unset, .unset] [(.int (3 : Int32)), (.int (p2 &&& (3 : Int32)))])) _
    refine iremM X0 hx rfl (hb hby at_12) rfl (by decide) ?_
    show Steps p.tables e below (s₁.setTop (mkF m 13 #[.val (.int p1), .val (.int p2), .val (.int p3), .val (.int p4), .val (.int p5), .val (.int (2 : Int32)), .unset, .unset, .unset, .unset, .unset, .unset] [(.int ((p2 &&& (3 : Int32)) % (3 : Int32)))])) _
    refine XS.istore X0.here hx rfl (hb hby at_13) rfl (l' := #[.val (.int p1), .val (.int p2), .val (.int p3), .val (.int p4), .val (.int p5), .val (.int (2 : Int32)), .val (.int ((p2 &&& (3 : Int32)) % (3 : Int32))), .unset, .unset, .unset, .unset, .unset]) rfl ?_
    exact kt)
  rw [hk_] at K2
  have K3 : Gx p e below s₁ f0 s₁ (mkF m 17 #[.val (.int p1), .val (.int p2), .val (.int p3), .val (.int p4), .val (.int p5), .val (.int (2 : Int32)), .val (.int (2 : Int32)), .unset, .unset, .unset, .unset, .unset] [(.int (2 : Int32))]) := fun t kt => K2 t (by
    show Steps p.tables e below (s₁.setTop (mkF m 15 #[.val (.int p1), .val (.int p2), .val (.int p3), .val (.int p4), .val (.int p5), .val (.int (2 : Int32)), .val (.int (2 : Int32)), .unset, .unset, .unset, .unset, .unset] [])) _
    refine XS.iload X0.here hx rfl (hb hby at_15) rfl ?_
    exact kt)
  obtain ⟨T4, h4, k4, X4, e4, E4, A4, st4⟩ := newP X0 hx hZ (hw _ (List.mem_of_getElem? (i := 0) rfl)) e0 (g := (mkF m 17 #[.val (.int p1), .val (.int p2), .val (.int p3), .val (.int p4), .val (.int p5), .val (.int (2 : Int32)), .val (.int (2 : Int32)), .unset, .unset, .unset, .unset, .unset] [(.int (2 : Int32))])) rfl (hb hby at_17) rfl (by decide) (cap := 2) (by decide) (by decide) (by decide) (by decide)
  obtain ⟨b4, g4⟩ : ∃ z, z = h0.size := ⟨_, rfl⟩
  rw [← g4] at A4 st4
  have V4 : Arv Z h4 b4 k4 .byte (2 : Int32) [(.int (0 : Int32)), (.int (0 : Int32))] (.int (0 : Int32)) := (Arv.new A4 (by decide)).pad (pad_rep [] (.int (0 : Int32)) 2)
  have K5 : Gx p e below s₁ f0 T4 (mkF m 19 #[.val (.int p1), .val (.int p2), .val (.int p3), .val (.int p4), .val (.int p5), .val (.int (2 : Int32)), .val (.int (2 : Int32)), .unset, .unset, .unset, .unset, .unset] [(.ref b4)]) := fun t kt => K3 t (st4 t kt)
  have K6 : Gx p e below s₁ f0 T4 (mkF m 31 #[.val (.int p1), .val (.int p2), .val (.int p3), .val (.int p4), .val (.int p5), .val (.int (2 : Int32)), .val (.int (2 : Int32)), .val (.ref b4), .unset, .unset, .unset, .unset] [(.int (p3.toInt8.toInt32)), (.int (0 : Int32)), (.ref b4)]) := fun t kt => K5 t (by
    show Steps p.tables e below (T4.setTop (mkF m 19 #[.val (.int p1), .val (.int p2), .val (.int p3), .val (.int p4), .val (.int p5), .val (.int (2 : Int32)), .val (.int (2 : Int32)), .unset, .unset, .unset, .unset, .unset] [(.ref b4)])) _
    refine XS.astore X4.here hx rfl (hb hby at_19) rfl rfl (l' := #[.val (.int p1), .val (.int p2), .val (.int p3), .val (.int p4), .val (.int p5), .val (.int (2 : Int32)), .val (.int (2 : Int32)), .val (.ref b4), .unset, .unset, .unset, .unset]) rfl ?_
    show Steps p.tables e below (T4.setTop (mkF m 21 #[.val (.int p1), .val (.int p2), .val (.int p3), .val (.int p4), .val (.int p5), .val (.int (2 : Int32)), .val (.int (2 : Int32)), .val (.ref b4), .unset, .unset, .unset, .unset] [])) _
    refine XS.iload X4.here hx rfl (hb hby at_21) rfl ?_
    show Steps p.tables e below (T4.setTop (mkF m 23 #[.val (.int p1), .val (.int p2), .val (.int p3), .val (.int p4), .val (.int p5), .val (.int (2 : Int32)), .val (.int (2 : Int32)), .val (.ref b4), .unset, .unset, .unset, .unset] [(.int (2 : Int32))])) _
    refine XS.ifNo X4.here hx rfl (hb hby at_23) rfl ((if0 _ _).trans (tlt (by decide)).2.2.2) ?_
    show Steps p.tables e below (T4.setTop (mkF m 26 #[.val (.int p1), .val (.int p2), .val (.int p3), .val (.int p4), .val (.int p5), .val (.int (2 : Int32)), .val (.int (2 : Int32)), .val (.ref b4), .unset, .unset, .unset, .unset] [])) _
    refine XS.aload X4.here hx rfl (hb hby at_26) rfl rfl ?_
    show Steps p.tables e below (T4.setTop (mkF m 28 #[.val (.int p1), .val (.int p2), .val (.int p3), .val (.int p4), .val (.int p5), .val (.int (2 : Int32)), .val (.int (2 : Int32)), .val (.ref b4), .unset, .unset, .unset, .unset] [(.ref b4)])) _
    refine XS.iconst X4.here hx rfl (hb hby at_28) ?_
    show Steps p.tables e below (T4.setTop (mkF m 29 #[.val (.int p1), .val (.int p2), .val (.int p3), .val (.int p4), .val (.int p5), .val (.int (2 : Int32)), .val (.int (2 : Int32)), .val (.ref b4), .unset, .unset, .unset, .unset] [(.int (0 : Int32)), (.ref b4)])) _
    refine XS.iloadN X4.here hx rfl (hb hby at_29) rfl ?_
    show Steps p.tables e below (T4.setTop (mkF m 30 #[.val (.int p1), .val (.int p2), .val (.int p3), .val (.int p4), .val (.int p5), .val (.int (2 : Int32)), .val (.int (2 : Int32)), .val (.ref b4), .unset, .unset, .unset, .unset] [(.int p3), (.int (0 : Int32)), (.ref b4)])) _
    refine XS.i2b X4.here hx rfl (hb hby at_30) rfl ?_
    exact kt)
  obtain ⟨clq7, Arq7, ckq7, cSq7, cNq7, cHq7, cGq7⟩ := id V4
  obtain ⟨T8, h8, X8', e8, W8, st8⟩ := stB X4 hx hZ e4 Arq7 (j := (0 : Int32)) (inb_of cSq7 ⟨by decide, by decide⟩) (g := (mkF m 31 #[.val (.int p1), .val (.int p2), .val (.int p3), .val (.int p4), .val (.int p5), .val (.int (2 : Int32)), .val (.int (2 : Int32)), .val (.ref b4), .unset, .unset, .unset, .unset] [(.int (p3.toInt8.toInt32)), (.int (0 : Int32)), (.ref b4)])) rfl rfl (hb hby at_31)
  obtain ⟨lc8, X8, N8⟩ : ∃ lc, Stand p l e room_1 s m #[(.int p1), (.int p2), (.int p3), (.int p4), (.int p5)] below meth c T8 lc 1 2 ∧ Fr n0 lc := ⟨_, X8', Fr.snoc X8' N0 (Nat.le_trans Z0 (Nat.le_trans (Keep.refl h0 []).1 (Nat.le_of_eq g4.symm)))⟩
  have V8 : Arv Z h8 b4 k4 .byte (2 : Int32) [(.int (nar .byte (p3.toInt8.toInt32))), (.int (0 : Int32))] (.int (0 : Int32)) := Arv.set Arq7 ckq7 cSq7 cNq7 cHq7 cGq7 (fits_nar_byte _) W8 0 rfl (Nat.le_of_ble_eq_true rfl)
  have K9 : Gx p e below s₁ f0 T8 (mkF m 32 #[.val (.int p1), .val (.int p2), .val (.int p3), .val (.int p4), .val (.int p5), .val (.int (2 : Int32)), .val (.int (2 : Int32)), .val (.ref b4), .unset, .unset, .unset, .unset] []) := fun t kt => K6 t (st8 t kt)
  have K10 : Gx p e below s₁ f0 T8 (mkF m 43 #[.val (.int p1), .val (.int p2), .val (.int p3), .val (.int p4), .val (.int p5), .val (.int (2 : Int32)), .val (.int (2 : Int32)), .val (.ref b4), .unset, .unset, .unset, .unset] [(.int (p4.toInt8.toInt32)), (.int (1 : Int32)), (.ref b4)]) := fun t kt => K9 t (by
    show Steps p.tables e below (T8.setTop (mkF m 32 #[.val (.int p1), .val (.int p2), .val (.int p3), .val (.int p4), .val (.int p5), .val (.int (2 : Int32)), .val (.int (2 : Int32)), .val (.ref b4), .unset, .unset, .unset, .unset] [])) _
    refine XS.iload X8.here hx rfl (hb hby at_32) rfl ?_
    show Steps p.tables e below (T8.setTop (mkF m 34 #[.val (.int p1), .val (.int p2), .val (.int p3), .val (.int p4), .val (.int p5), .val (.int (2 : Int32)), .val (.int (2 : Int32)), .val (.ref b4), .unset, .unset, .unset, .unset] [(.int (2 : Int32))])) _
    refine XS.iconst X8.here hx rfl (hb hby at_34) ?_
    show Steps p.tables e below (T8.setTop (mkF m 35 #[.val (.int p1), .val (.int p2), .val (.int p3), .val (.int p4), .val (.int p5), .val (.int (2 : Int32)), .val (.int (2 : Int32)), .val (.ref b4), .unset, .unset, .unset, .unset] [(.int (1 : Int32)), (.int (2 : Int32))])) _
    refine XS.icmpNo X8.here hx rfl (hb hby at_35) rfl (tlt (by decide)).2.2.2 ?_
    show Steps p.tables e below (T8.setTop (mkF m 38 #[.val (.int p1), .val (.int p2), .val (.int p3), .val (.int p4), .val (.int p5), .val (.int (2 : Int32)), .val (.int (2 : Int32)), .val (.ref b4), .unset, .unset, .unset, .unset] [])) _
    refine XS.aload X8.here hx rfl (hb hby at_38) rfl rfl ?_
    show Steps p.tables e below (T8.setTop (mkF m 40 #[.val (.int p1), .val (.int p2), .val (.int p3), .val (.int p4), .val (.int p5), .val (.int (2 : Int32)), .val (.int (2 : Int32)), .val (.ref b4), .unset, .unset, .unset, .unset] [(.ref b4)])) _
    refine XS.iconst X8.here hx rfl (hb hby at_40) ?_
    show Steps p.tables e below (T8.setTop (mkF m 41 #[.val (.int p1), .val (.int p2), .val (.int p3), .val (.int p4), .val (.int p5), .val (.int (2 : Int32)), .val (.int (2 : Int32)), .val (.ref b4), .unset, .unset, .unset, .unset] [(.int (1 : Int32)), (.ref b4)])) _
    refine XS.iloadN X8.here hx rfl (hb hby at_41) rfl ?_
    show Steps p.tables e below (T8.setTop (mkF m 42 #[.val (.int p1), .val (.int p2), .val (.int p3), .val (.int p4), .val (.int p5), .val (.int (2 : Int32)), .val (.int (2 : Int32)), .val (.ref b4), .unset, .unset, .unset, .unset] [(.int p4), (.int (1 : Int32)), (.ref b4)])) _
    refine XS.i2b X8.here hx rfl (hb hby at_42) rfl ?_
    exact kt)
  obtain ⟨clq11, Arq11, ckq11, cSq11, cNq11, cHq11, cGq11⟩ := id V8
  obtain ⟨T12, h12, X12', e12, W12, st12⟩ := stB X8 hx hZ e8 Arq11 (j := (1 : Int32)) (inb_of cSq11 ⟨by decide, by decide⟩) (g := (mkF m 43 #[.val (.int p1), .val (.int p2), .val (.int p3), .val (.int p4), .val (.int p5), .val (.int (2 : Int32)), .val (.int (2 : Int32)), .val (.ref b4), .unset, .unset, .unset, .unset] [(.int (p4.toInt8.toInt32)), (.int (1 : Int32)), (.ref b4)])) rfl rfl (hb hby at_43)
  obtain ⟨lc12, X12, N12⟩ : ∃ lc, Stand p l e room_1 s m #[(.int p1), (.int p2), (.int p3), (.int p4), (.int p5)] below meth c T12 lc 1 2 ∧ Fr n0 lc := ⟨_, X12', Fr.snoc X12' N8 (Nat.le_trans Z0 (Nat.le_trans (Keep.refl h0 []).1 (Nat.le_of_eq g4.symm)))⟩
  have V12 : Arv Z h12 b4 k4 .byte (2 : Int32) [(.int (nar .byte (p3.toInt8.toInt32))), (.int (nar .byte (p4.toInt8.toInt32)))] (.int (0 : Int32)) := Arv.set Arq11 ckq11 cSq11 cNq11 cHq11 cGq11 (fits_nar_byte _) W12 1 rfl (Nat.le_of_ble_eq_true rfl)
  have K13 : Gx p e below s₁ f0 T12 (mkF m 44 #[.val (.int p1), .val (.int p2), .val (.int p3), .val (.int p4), .val (.int p5), .val (.int (2 : Int32)), .val (.int (2 : Int32)), .val (.ref b4), .unset, .unset, .unset, .unset] []) := fun t kt => K10 t (st12 t kt)
  have K14 : Gx p e below s₁ f0 T12 (mkF m 57 #[.val (.int p1), .val (.int p2), .val (.int p3), .val (.int p4), .val (.int p5), .val (.int (2 : Int32)), .val (.int (2 : Int32)), .val (.ref b4), .unset, .unset, .unset, .unset] []) := fun t kt => K13 t (by
    show Steps p.tables e below (T12.setTop (mkF m 44 #[.val (.int p1), .val (.int p2), .val (.int p3), .val (.int p4), .val (.int p5), .val (.int (2 : Int32)), .val (.int (2 : Int32)), .val (.ref b4), .unset, .unset, .unset, .unset] [])) _
    refine XS.iload X12.here hx rfl (hb hby at_44) rfl ?_
    show Steps p.tables e below (T12.setTop (mkF m 46 #[.val (.int p1), .val (.int p2), .val (.int p3), .val (.int p4), .val (.int p5), .val (.int (2 : Int32)), .val (.int (2 : Int32)), .val (.ref b4), .unset, .unset, .unset, .unset] [(.int (2 : Int32))])) _
    refine XS.iconst X12.here hx rfl (hb hby at_46) ?_
    show Steps p.tables e below (T12.setTop (mkF m 47 #[.val (.int p1), .val (.int p2), .val (.int p3), .val (.int p4), .val (.int p5), .val (.int (2 : Int32)), .val (.int (2 : Int32)), .val (.ref b4), .unset, .unset, .unset, .unset] [(.int (2 : Int32)), (.int (2 : Int32))])) _
    refine XS.icmpYes X12.here hx rfl (pc0 := 47) (pc' := 57) rfl (hb hby at_47) rfl (flt (by decide)).2.2.2 (by decide) (by decide) ?_
    exact kt)
  obtain ⟨T15, h15, X15, e15, E15, A15, D15, -, st15⟩ := newO X12 hx hZ hown (hw _ (List.mem_of_getElem? (i := 1) rfl)) (hw _ (List.mem_of_getElem? (i := 2) rfl)) (hw _ (List.mem_of_getElem? (i := 3) rfl)) e12 (g := (mkF m 57 #[.val (.int p1), .val (.int p2), .val (.int p3), .val (.int p4), .val (.int p5), .val (.int (2 : Int32)), .val (.int (2 : Int32)), .val (.ref b4), .unset, .unset, .unset, .unset] [])) rfl (hb hby at_57) (by decide) (by decide)
  obtain ⟨b15, g15⟩ : ∃ z, z = h12.size := ⟨_, rfl⟩
  rw [← g15] at A15 D15 st15
  have f16 : Fld Z h15 b15 "com/example/looseleaf/looseleaf/pgwire/MessageBody" "bytes" "[B" .null := D15 (Or.inr (hw _ (List.mem_of_getElem? (i := 11) rfl))) (ty := (.array .byte)) (by decide)
  have f17 : Fld Z h15 b15 "com/example/looseleaf/looseleaf/pgwire/MessageBody" "at" "I" (.int (0 : Int32)) := D15 (Or.inl (hw _ (List.mem_of_getElem? (i := 18) rfl))) (ty := .int) (by decide)
  have K18 : Gx p e below s₁ f0 T15 (mkF m 60 #[.val (.int p1), .val (.int p2), .val (.int p3), .val (.int p4), .val (.int p5), .val (.int (2 : Int32)), .val (.int (2 : Int32)), .val (.ref b4), .unset, .unset, .unset, .unset] [(.ref b15)]) := fun t kt => K14 t (st15 t kt)
  have K19 : Gx p e below s₁ f0 T15 (mkF m 63 #[.val (.int p1), .val (.int p2), .val (.int p3), .val (.int p4), .val (.int p5), .val (.int (2 : Int32)), .val (.int (2 : Int32)), .val (.ref b4), .unset, .unset, .unset, .unset] [(.ref b4), (.ref b15), (.ref b15)]) := fun t kt => K18 t (by
    show Steps p.tables e below (T15.setTop (mkF m 60 #[.val (.int p1), .val (.int p2), .val (.int p3), .val (.int p4), .val (.int p5), .val (.int (2 : Int32)), .val (.int (2 : Int32)), .val (.ref b4), .unset, .unset, .unset, .unset] [(.ref b15)])) _
    refine XS.dup X15.here hx rfl (hb hby at_60) rfl rfl ?_
    show Steps p.tables e below (T15.setTop (mkF m 61 #[.val (.int p1), .val (.int p2), .val (.int p3), .val (.int p4), .val (.int p5), .val (.int (2 : Int32)), .val (.int (2 : Int32)), .val (.ref b4), .unset, .unset, .unset, .unset] [(.ref b15), (.ref b15)])) _
    refine XS.aload X15.here hx rfl (hb hby at_61) rfl rfl ?_
    exact kt)
  have kp20 : Keep h0 h15 [] := (((((Keep.refl h0 []).ext E4).wr W8 (Or.inr (Nat.le_trans (Keep.refl h0 []).1 (Nat.le_of_eq g4.symm)))).wr W12 (Or.inr (Nat.le_trans (Keep.refl h0 []).1 (Nat.le_of_eq g4.symm)))).ext E15)
  obtain ⟨_, _, ⟨T21, L21, k21, n21⟩, -, X21', ⟨Lc21, hQ21, l21, y21, z21⟩, st21⟩ := X15.specialBack hx (y := (⟨"com/example/looseleaf/looseleaf/pgwire/MessageBody", "<init>", "([B)V"⟩ : MethodName)) rfl hown (mvT hZ (hw _ (List.mem_of_getElem? (i := 4) rfl))) (mvT hZ (hw _ (List.mem_of_getElem? (i := 5) rfl))) (mvT hZ (hw _ (List.mem_of_getElem? (i := 6) rfl))) (by decide) (backOf (W := 1) (rmIni l Z a0 hw [] b15 b4 h15 n0 (Nat.le_trans Z0 kp20.1) A15 (Nat.le_trans Z0 (Nat.le_trans ((((Keep.refl h0 []).ext E4).wr W8 (Or.inr (Nat.le_trans (Keep.refl h0 []).1 (Nat.le_of_eq g4.symm)))).wr W12 (Or.inr (Nat.le_trans (Keep.refl h0 []).1 (Nat.le_of_eq g4.symm)))).1 (Nat.le_of_eq g15.symm))) f16 f17) hZ (hw _ (List.mem_of_getElem? (i := 6) rfl)) (hw _ (List.mem_of_getElem? (i := 3) rfl)) (by decide) (by decide)) (g := (mkF m 63 #[.val (.int p1), .val (.int p2), .val (.int p3), .val (.int p4), .val (.int p5), .val (.int (2 : Int32)), .val (.int (2 : Int32)), .val (.ref b4), .unset, .unset, .unset, .unset] [(.ref b4), (.ref b15), (.ref b15)])) rfl (by rw [hml]; rfl) (Steps.refl _) (a := b15) (argsL := [(.ref b4)]) (rest := [(.ref b15)]) (lenOf pd___B_V rfl) rfl (by show 2 * 0 + _ ≤ _; exact Nat.le_of_eq rfl) (hb hby at_63) (fun _ _ => ⟨rfl, e15, (by decide : 2 + 0 ≤ _), (by decide : 4 + 0 ≤ _)⟩)
  dsimp only [Pt.U, Pt.locs, Pt.cells, Pt.slots] at X21' l21 y21 z21 st21 hQ21
  subst l21 y21 z21
  obtain ⟨h21, e21⟩ : ∃ z, T21.heap = z := ⟨_, rfl⟩
  rw [e21] at hQ21
  obtain ⟨rfl, N21q, Kc21, f22, f23, f24⟩ := hQ21
  obtain ⟨lc21, X21, N21⟩ : ∃ lc, Stand p l e room_1 s m #[(.int p1), (.int p2), (.int p3), (.int p4), (.int p5)] below meth c T21 lc 2 4 ∧ Fr n0 lc := ⟨_, X21', Fr.app N12 N21q⟩
  have K25 : Gx p e below s₁ f0 T21 (mkF m 66 #[.val (.int p1), .val (.int p2), .val (.int p3), .val (.int p4), .val (.int p5), .val (.int (2 : Int32)), .val (.int (2 : Int32)), .val (.ref b4), .unset, .unset, .unset, .unset] [(.ref b15)]) := fun t kt => K19 t (st21.trans kt)
  have K26 : Gx p e below s₁ f0 T21 (mkF m 76 #[.val (.int p1), .val (.int p2), .val (.int p3), .val (.int p4), .val (.int p5), .val (.int (2 : Int32)), .val (.int (2 : Int32)), .val (.ref b4), .val (.ref b15), .unset, .unset, .unset] [(.ref b15)]) := fun t kt => K25 t (by
    show Steps p.tables e below (T21.setTop (mkF m 66 #[.val (.int p1), .val (.int p2), .val (.int p3), .val (.int p4), .val (.int p5), .val (.int (2 : Int32)), .val (.int (2 : Int32)), .val (.ref b4), .unset, .unset, .unset, .unset] [(.ref b15)])) _
    refine XS.astore X21.here hx rfl (hb hby at_66) rfl rfl (l' := #[.val (.int p1), .val (.int p2), .val (.int p3), .val (.int p4), .val (.int p5), .val (.int (2 : Int32)), .val (.int (2 : Int32)), .val (.ref b4), .val (.ref b15), .unset, .unset, .unset]) rfl ?_
    show Steps p.tables e below (T21.setTop (mkF m 68 #[.val (.int p1), .val (.int p2), .val (.int p3), .val (.int p4), .val (.int p5), .val (.int (2 : Int32)), .val (.int (2 : Int32)), .val (.ref b4), .val (.ref b15), .unset, .unset, .unset] [])) _
    refine XS.iload X21.here hx rfl (hb hby at_68) rfl ?_
    show Steps p.tables e below (T21.setTop (mkF m 70 #[.val (.int p1), .val (.int p2), .val (.int p3), .val (.int p4), .val (.int p5), .val (.int (2 : Int32)), .val (.int (2 : Int32)), .val (.ref b4), .val (.ref b15), .unset, .unset, .unset] [(.int (2 : Int32))])) _
    refine XS.iconst X21.here hx rfl (hb hby at_70) ?_
    show Steps p.tables e below (T21.setTop (mkF m 71 #[.val (.int p1), .val (.int p2), .val (.int p3), .val (.int p4), .val (.int p5), .val (.int (2 : Int32)), .val (.int (2 : Int32)), .val (.ref b4), .val (.ref b15), .unset, .unset, .unset] [(.int (1 : Int32)), (.int (2 : Int32))])) _
    refine XS.icmpNo X21.here hx rfl (hb hby at_71) rfl (flt (by decide)).1 ?_
    show Steps p.tables e below (T21.setTop (mkF m 74 #[.val (.int p1), .val (.int p2), .val (.int p3), .val (.int p4), .val (.int p5), .val (.int (2 : Int32)), .val (.int (2 : Int32)), .val (.ref b4), .val (.ref b15), .unset, .unset, .unset] [])) _
    refine XS.aload X21.here hx rfl (hb hby at_74) rfl rfl ?_
    exact kt)
  have f27 : Arv Z h21 b4 k4 .byte (2 : Int32) [(.int (nar .byte (p3.toInt8.toInt32))), (.int (nar .byte (p4.toInt8.toInt32)))] (.int (0 : Int32)) := ((V12.ext E15).keep Kc21 (ninS (Nat.ne_of_lt (Nat.lt_of_lt_of_le V12.lt (Nat.le_of_eq g15.symm))) nin0))
  have kp28 : Keep h0 h21 [] := (Keep.trans kp20 Kc21 (allS (Or.inr (Nat.le_trans ((((Keep.refl h0 []).ext E4).wr W8 (Or.inr (Nat.le_trans (Keep.refl h0 []).1 (Nat.le_of_eq g4.symm)))).wr W12 (Or.inr (Nat.le_trans (Keep.refl h0 []).1 (Nat.le_of_eq g4.symm)))).1 (Nat.le_of_eq g15.symm))) all0))
  obtain ⟨cq29, kq29, q29a, q29b, q29c⟩ := isOf hZ e21 f22
  obtain ⟨_, _, ⟨T29, L29, k29, n29⟩, -, X29', ⟨Lc29, hQ29, l29, y29, z29⟩, st29⟩ := X21.virtualBack hx (y := (⟨"com/example/looseleaf/looseleaf/pgwire/MessageBody", "byte1", "()I"⟩ : MethodName)) (z := (⟨"com/example/looseleaf/looseleaf/pgwire/MessageBody", "byte1", "()I"⟩ : MethodName)) hown (mvT hZ (hw _ (List.mem_of_getElem? (i := 19) rfl))) (mvT hZ (hw _ (List.mem_of_getElem? (i := 20) rfl))) (notFace_of_selects (args := #[]) (mvT hZ (hw _ (List.mem_of_getElem? (i := 22) rfl)))) (mvT hZ (hw _ (List.mem_of_getElem? (i := 22) rfl))) (mvT hZ (hw _ (List.mem_of_getElem? (i := 21) rfl))) (by decide) (backOf (W := 0) (rmBy1 l Z a0 hw [] b15 b4 (0 : Int32) k4 (2 : Int32) [(.int (nar .byte (p3.toInt8.toInt32))), (.int (nar .byte (p4.toInt8.toInt32)))] (nar .byte (p3.toInt8.toInt32)) (1 : Int32) h21 n0 (Nat.le_trans Z0 kp28.1) f22 (Nat.le_trans Z0 (Nat.le_trans ((((Keep.refl h0 []).ext E4).wr W8 (Or.inr (Nat.le_trans (Keep.refl h0 []).1 (Nat.le_of_eq g4.symm)))).wr W12 (Or.inr (Nat.le_trans (Keep.refl h0 []).1 (Nat.le_of_eq g4.symm)))).1 (Nat.le_of_eq g15.symm))) f23 f24 f27 (Ne.symm (Nat.ne_of_lt (Nat.lt_of_lt_of_le V12.lt (Nat.le_of_eq g15.symm)))) (by decide) ⟨by decide, by decide⟩ rfl (by decide)) hZ (hw _ (List.mem_of_getElem? (i := 23) rfl)) (hw _ (List.mem_of_getElem? (i := 3) rfl)) (by decide) (by decide)) q29a q29c (g := (mkF m 76 #[.val (.int p1), .val (.int p2), .val (.int p3), .val (.int p4), .val (.int p5), .val (.int (2 : Int32)), .val (.int (2 : Int32)), .val (.ref b4), .val (.ref b15), .unset, .unset, .unset] [(.ref b15)])) rfl (by rw [hml]; rfl) (Steps.refl _) (argsL := []) (rest := []) (lenOf pd___I rfl) rfl (by show 2 * 0 + _ ≤ _; exact Nat.le_of_eq rfl) (hb hby at_76) (fun _ _ => ⟨rfl, e21, (by decide : 2 + 0 ≤ _), (by decide : 4 + 0 ≤ _)⟩)
  dsimp only [Pt.U, Pt.locs, Pt.cells, Pt.slots] at X29' l29 y29 z29 st29 hQ29
  subst l29 y29 z29
  obtain ⟨h29, e29⟩ : ∃ z, T29.heap = z := ⟨_, rfl⟩
  rw [e29] at hQ29
  obtain ⟨rfl, N29q, Kc29, f30, f31, f32⟩ := hQ29
  obtain ⟨lc29, X29, N29⟩ : ∃ lc, Stand p l e room_1 s m #[(.int p1), (.int p2), (.int p3), (.int p4), (.int p5)] below meth c T29 lc 2 4 ∧ Fr n0 lc := ⟨_, X29', Fr.app N21 N29q⟩
  have K33 : Gx p e below s₁ f0 T29 (mkF m 79 #[.val (.int p1), .val (.int p2), .val (.int p3), .val (.int p4), .val (.int p5), .val (.int (2 : Int32)), .val (.int (2 : Int32)), .val (.ref b4), .val (.ref b15), .unset, .unset, .unset] [(.int ((nar .byte (p3.toInt8.toInt32)) &&& (255 : Int32)))]) := fun t kt => K26 t (st29.trans kt)
  have K34 : Gx p e below s₁ f0 T29 (mkF m 88 #[.val (.int p1), .val (.int p2), .val (.int p3), .val (.int p4), .val (.int p5), .val (.int (2 : Int32)), .val (.int (2 : Int32)), .val (.ref b4), .val (.ref b15), .unset, .unset, .unset] [(.ref b15)]) := fun t kt => K33 t (by
    show Steps p.tables e below (T29.setTop (mkF m 79 #[.val (.int p1), .val (.int p2), .val (.int p3), .val (.int p4), .val (.int p5), .val (.int (2 : Int32)), .val (.int (2 : Int32)), .val (.ref b4), .val (.ref b15), .unset, .unset, .unset] [(.int ((nar .byte (p3.toInt8.toInt32)) &&& (255 : Int32)))])) _
    refine XS.pop X29.here hx rfl (hb hby at_79) rfl rfl ?_
    show Steps p.tables e below (T29.setTop (mkF m 80 #[.val (.int p1), .val (.int p2), .val (.int p3), .val (.int p4), .val (.int p5), .val (.int (2 : Int32)), .val (.int (2 : Int32)), .val (.ref b4), .val (.ref b15), .unset, .unset, .unset] [])) _
    refine XS.iload X29.here hx rfl (hb hby at_80) rfl ?_
    show Steps p.tables e below (T29.setTop (mkF m 82 #[.val (.int p1), .val (.int p2), .val (.int p3), .val (.int p4), .val (.int p5), .val (.int (2 : Int32)), .val (.int (2 : Int32)), .val (.ref b4), .val (.ref b15), .unset, .unset, .unset] [(.int (2 : Int32))])) _
    refine XS.iconst X29.here hx rfl (hb hby at_82) ?_
    show Steps p.tables e below (T29.setTop (mkF m 83 #[.val (.int p1), .val (.int p2), .val (.int p3), .val (.int p4), .val (.int p5), .val (.int (2 : Int32)), .val (.int (2 : Int32)), .val (.ref b4), .val (.ref b15), .unset, .unset, .unset] [(.int (2 : Int32)), (.int (2 : Int32))])) _
    refine XS.icmpNo X29.here hx rfl (hb hby at_83) rfl (flt (by decide)).1 ?_
    show Steps p.tables e below (T29.setTop (mkF m 86 #[.val (.int p1), .val (.int p2), .val (.int p3), .val (.int p4), .val (.int p5), .val (.int (2 : Int32)), .val (.int (2 : Int32)), .val (.ref b4), .val (.ref b15), .unset, .unset, .unset] [])) _
    refine XS.aload X29.here hx rfl (hb hby at_86) rfl rfl ?_
    exact kt)
  have f35 : Arv Z h29 b4 k4 .byte (2 : Int32) [(.int (nar .byte (p3.toInt8.toInt32))), (.int (nar .byte (p4.toInt8.toInt32)))] (.int (0 : Int32)) := (f27.keep Kc29 (ninS (Nat.ne_of_lt (Nat.lt_of_lt_of_le V12.lt (Nat.le_of_eq g15.symm))) nin0))
  have kp36 : Keep h0 h29 [] := (Keep.trans kp28 Kc29 (allS (Or.inr (Nat.le_trans ((((Keep.refl h0 []).ext E4).wr W8 (Or.inr (Nat.le_trans (Keep.refl h0 []).1 (Nat.le_of_eq g4.symm)))).wr W12 (Or.inr (Nat.le_trans (Keep.refl h0 []).1 (Nat.le_of_eq g4.symm)))).1 (Nat.le_of_eq g15.symm))) all0))
  obtain ⟨cq37, kq37, q37a, q37b, q37c⟩ := isOf hZ e29 f30
  obtain ⟨_, _, ⟨T37, L37, k37, n37⟩, -, X37', ⟨Lc37, hQ37, l37, y37, z37⟩, st37⟩ := X29.virtualBack hx (y := (⟨"com/example/looseleaf/looseleaf/pgwire/MessageBody", "byte1", "()I"⟩ : MethodName)) (z := (⟨"com/example/looseleaf/looseleaf/pgwire/MessageBody", "byte1", "()I"⟩ : MethodName)) hown (mvT hZ (hw _ (List.mem_of_getElem? (i := 19) rfl))) (mvT hZ (hw _ (List.mem_of_getElem? (i := 20) rfl))) (notFace_of_selects (args := #[]) (mvT hZ (hw _ (List.mem_of_getElem? (i := 22) rfl)))) (mvT hZ (hw _ (List.mem_of_getElem? (i := 22) rfl))) (mvT hZ (hw _ (List.mem_of_getElem? (i := 21) rfl))) (by decide) (backOf (W := 0) (rmBy1 l Z a0 hw [] b15 b4 (1 : Int32) k4 (2 : Int32) [(.int (nar .byte (p3.toInt8.toInt32))), (.int (nar .byte (p4.toInt8.toInt32)))] (nar .byte (p4.toInt8.toInt32)) (2 : Int32) h29 n0 (Nat.le_trans Z0 kp36.1) f30 (Nat.le_trans Z0 (Nat.le_trans ((((Keep.refl h0 []).ext E4).wr W8 (Or.inr (Nat.le_trans (Keep.refl h0 []).1 (Nat.le_of_eq g4.symm)))).wr W12 (Or.inr (Nat.le_trans (Keep.refl h0 []).1 (Nat.le_of_eq g4.symm)))).1 (Nat.le_of_eq g15.symm))) f31 f32 f35 (Ne.symm (Nat.ne_of_lt (Nat.lt_of_lt_of_le V12.lt (Nat.le_of_eq g15.symm)))) (by decide) ⟨by decide, by decide⟩ rfl (by decide)) hZ (hw _ (List.mem_of_getElem? (i := 23) rfl)) (hw _ (List.mem_of_getElem? (i := 3) rfl)) (by decide) (by decide)) q37a q37c (g := (mkF m 88 #[.val (.int p1), .val (.int p2), .val (.int p3), .val (.int p4), .val (.int p5), .val (.int (2 : Int32)), .val (.int (2 : Int32)), .val (.ref b4), .val (.ref b15), .unset, .unset, .unset] [(.ref b15)])) rfl (by rw [hml]; rfl) (Steps.refl _) (argsL := []) (rest := []) (lenOf pd___I rfl) rfl (by show 2 * 0 + _ ≤ _; exact Nat.le_of_eq rfl) (hb hby at_88) (fun _ _ => ⟨rfl, e29, (by decide : 2 + 0 ≤ _), (by decide : 4 + 0 ≤ _)⟩)
  dsimp only [Pt.U, Pt.locs, Pt.cells, Pt.slots] at X37' l37 y37 z37 st37 hQ37
  subst l37 y37 z37
  obtain ⟨h37, e37⟩ : ∃ z, T37.heap = z := ⟨_, rfl⟩
  rw [e37] at hQ37
  obtain ⟨rfl, N37q, Kc37, f38, f39, f40⟩ := hQ37
  obtain ⟨lc37, X37, N37⟩ : ∃ lc, Stand p l e room_1 s m #[(.int p1), (.int p2), (.int p3), (.int p4), (.int p5)] below meth c T37 lc 2 4 ∧ Fr n0 lc := ⟨_, X37', Fr.app N29 N37q⟩
  have K41 : Gx p e below s₁ f0 T37 (mkF m 91 #[.val (.int p1), .val (.int p2), .val (.int p3), .val (.int p4), .val (.int p5), .val (.int (2 : Int32)), .val (.int (2 : Int32)), .val (.ref b4), .val (.ref b15), .unset, .unset, .unset] [(.int ((nar .byte (p4.toInt8.toInt32)) &&& (255 : Int32)))]) := fun t kt => K34 t (st37.trans kt)
  have K42 : Gx p e below s₁ f0 T37 (mkF m 128 #[.val (.int p1), .val (.int p2), .val (.int p3), .val (.int p4), .val (.int p5), .val (.int (2 : Int32)), .val (.int (2 : Int32)), .val (.ref b4), .val (.ref b15), .val (.int (0 : Int32)), .unset, .unset] [(.ref b15)]) := fun t kt => K41 t (by
    show Steps p.tables e below (T37.setTop (mkF m 91 #[.val (.int p1), .val (.int p2), .val (.int p3), .val (.int p4), .val (.int p5), .val (.int (2 : Int32)), .val (.int (2 : Int32)), .val (.ref b4), .val (.ref b15), .unset, .unset, .unset] [(.int ((nar .byte (p4.toInt8.toInt32)) &&& (255 : Int32)))])) _
    refine XS.pop X37.here hx rfl (hb hby at_91) rfl rfl ?_
    show Steps p.tables e below (T37.setTop (mkF m 92 #[.val (.int p1), .val (.int p2), .val (.int p3), .val (.int p4), .val (.int p5), .val (.int (2 : Int32)), .val (.int (2 : Int32)), .val (.ref b4), .val (.ref b15), .unset, .unset, .unset] [])) _
    refine XS.iload X37.here hx rfl (hb hby at_92) rfl ?_
    show Steps p.tables e below (T37.setTop (mkF m 94 #[.val (.int p1), .val (.int p2), .val (.int p3), .val (.int p4), .val (.int p5), .val (.int (2 : Int32)), .val (.int (2 : Int32)), .val (.ref b4), .val (.ref b15), .unset, .unset, .unset] [(.int (2 : Int32))])) _
    refine XS.iconst X37.here hx rfl (hb hby at_94) ?_
    show Steps p.tables e below (T37.setTop (mkF m 95 #[.val (.int p1), .val (.int p2), .val (.int p3), .val (.int p4), .val (.int p5), .val (.int (2 : Int32)), .val (.int (2 : Int32)), .val (.ref b4), .val (.ref b15), .unset, .unset, .unset] [(.int (3 : Int32)), (.int (2 : Int32))])) _
    refine XS.icmpYes X37.here hx rfl (pc0 := 95) (pc' := 104) rfl (hb hby at_95) rfl (tlt (by decide)).1 (by decide) (by decide) ?_
    show Steps p.tables e below (T37.setTop (mkF m 104 #[.val (.int p1), .val (.int p2), .val (.int p3), .val (.int p4), .val (.int p5), .val (.int (2 : Int32)), .val (.int (2 : Int32)), .val (.ref b4), .val (.ref b15), .unset, .unset, .unset] [])) _
    refine XS.iload X37.here hx rfl (hb hby at_104) rfl ?_
    show Steps p.tables e below (T37.setTop (mkF m 106 #[.val (.int p1), .val (.int p2), .val (.int p3), .val (.int p4), .val (.int p5), .val (.int (2 : Int32)), .val (.int (2 : Int32)), .val (.ref b4), .val (.ref b15), .unset, .unset, .unset] [(.int (2 : Int32))])) _
    refine XS.iload X37.here hx rfl (hb hby at_106) rfl ?_
    show Steps p.tables e below (T37.setTop (mkF m 108 #[.val (.int p1), .val (.int p2), .val (.int p3), .val (.int p4), .val (.int p5), .val (.int (2 : Int32)), .val (.int (2 : Int32)), .val (.ref b4), .val (.ref b15), .unset, .unset, .unset] [(.int (2 : Int32)), (.int (2 : Int32))])) _
    refine XS.icmpYes X37.here hx rfl (pc0 := 108) (pc' := 123) rfl (hb hby at_108) rfl (flt (by decide)).2.1 (by decide) (by decide) ?_
    show Steps p.tables e below (T37.setTop (mkF m 123 #[.val (.int p1), .val (.int p2), .val (.int p3), .val (.int p4), .val (.int p5), .val (.int (2 : Int32)), .val (.int (2 : Int32)), .val (.ref b4), .val (.ref b15), .unset, .unset, .unset] [])) _
    refine XS.iconst X37.here hx rfl (hb hby at_123) ?_
    show Steps p.tables e below (T37.setTop (mkF m 124 #[.val (.int p1), .val (.int p2), .val (.int p3), .val (.int p4), .val (.int p5), .val (.int (2 : Int32)), .val (.int (2 : Int32)), .val (.ref b4), .val (.ref b15), .unset, .unset, .unset] [(.int (0 : Int32))])) _
    refine XS.istore X37.here hx rfl (hb hby at_124) rfl (l' := #[.val (.int p1), .val (.int p2), .val (.int p3), .val (.int p4), .val (.int p5), .val (.int (2 : Int32)), .val (.int (2 : Int32)), .val (.ref b4), .val (.ref b15), .val (.int (0 : Int32)), .unset, .unset]) rfl ?_
    show Steps p.tables e below (T37.setTop (mkF m 126 #[.val (.int p1), .val (.int p2), .val (.int p3), .val (.int p4), .val (.int p5), .val (.int (2 : Int32)), .val (.int (2 : Int32)), .val (.ref b4), .val (.ref b15), .val (.int (0 : Int32)), .unset, .unset] [])) _
    refine XS.aload X37.here hx rfl (hb hby at_126) rfl rfl ?_
    exact kt)
  have f43 : Arv Z h37 b4 k4 .byte (2 : Int32) [(.int (nar .byte (p3.toInt8.toInt32))), (.int (nar .byte (p4.toInt8.toInt32)))] (.int (0 : Int32)) := (f35.keep Kc37 (ninS (Nat.ne_of_lt (Nat.lt_of_lt_of_le V12.lt (Nat.le_of_eq g15.symm))) nin0))
  have kp44 : Keep h0 h37 [] := (Keep.trans kp36 Kc37 (allS (Or.inr (Nat.le_trans ((((Keep.refl h0 []).ext E4).wr W8 (Or.inr (Nat.le_trans (Keep.refl h0 []).1 (Nat.le_of_eq g4.symm)))).wr W12 (Or.inr (Nat.le_trans (Keep.refl h0 []).1 (Nat.le_of_eq g4.symm)))).1 (Nat.le_of_eq g15.symm))) all0))
  obtain ⟨cq45, kq45, q45a, q45b, q45c⟩ := isOf hZ e37 f38
  obtain ⟨_, _, ⟨T45, L45, k45, n45⟩, -, X45', ⟨Lc45, hQ45, l45, y45, z45⟩, st45⟩ := X37.virtualBack hx (y := (⟨"com/example/looseleaf/looseleaf/pgwire/MessageBody", "atNul", "()Z"⟩ : MethodName)) (z := (⟨"com/example/looseleaf/looseleaf/pgwire/MessageBody", "atNul", "()Z"⟩ : MethodName)) hown (mvT hZ (hw _ (List.mem_of_getElem? (i := 12) rfl))) (mvT hZ (hw _ (List.mem_of_getElem? (i := 13) rfl))) (notFace_of_selects (args := #[]) (mvT hZ (hw _ (List.mem_of_getElem? (i := 15) rfl)))) (mvT hZ (hw _ (List.mem_of_getElem? (i := 15) rfl))) (mvT hZ (hw _ (List.mem_of_getElem? (i := 14) rfl))) (by decide) (backOf (W := 0) (rmAt0 l Z a0 hw [] b15 b4 (2 : Int32) k4 (2 : Int32) [(.int (nar .byte (p3.toInt8.toInt32))), (.int (nar .byte (p4.toInt8.toInt32)))] h37 n0 (Nat.le_trans Z0 kp44.1) f39 f40 f43 (by decide)) hZ (hw _ (List.mem_of_getElem? (i := 16) rfl)) (hw _ (List.mem_of_getElem? (i := 3) rfl)) (by decide) (by decide)) q45a q45c (g := (mkF m 128 #[.val (.int p1), .val (.int p2), .val (.int p3), .val (.int p4), .val (.int p5), .val (.int (2 : Int32)), .val (.int (2 : Int32)), .val (.ref b4), .val (.ref b15), .val (.int (0 : Int32)), .unset, .unset] [(.ref b15)])) rfl (by rw [hml]; rfl) (Steps.refl _) (argsL := []) (rest := []) (lenOf pd___Z rfl) rfl (by show 2 * 0 + _ ≤ _; exact Nat.le_of_eq rfl) (hb hby at_128) (fun _ _ => ⟨rfl, e37, (by decide : 2 + 0 ≤ _), (by decide : 4 + 0 ≤ _)⟩)
  dsimp only [Pt.U, Pt.locs, Pt.cells, Pt.slots] at X45' l45 y45 z45 st45 hQ45
  subst l45 y45 z45
  obtain ⟨rfl, N45q, e45⟩ := hQ45
  obtain ⟨lc45, X45, N45⟩ : ∃ lc, Stand p l e room_1 s m #[(.int p1), (.int p2), (.int p3), (.int p4), (.int p5)] below meth c T45 lc 2 4 ∧ Fr n0 lc := ⟨_, X45', Fr.app N37 N45q⟩
  have K46 : Gx p e below s₁ f0 T45 (mkF m 131 #[.val (.int p1), .val (.int p2), .val (.int p3), .val (.int p4), .val (.int p5), .val (.int (2 : Int32)), .val (.int (2 : Int32)), .val (.ref b4), .val (.ref b15), .val (.int (0 : Int32)), .unset, .unset] [(.int (0 : Int32))]) := fun t kt => K42 t (st45.trans kt)
  have K47 : Gx p e below s₁ f0 T45 (mkF m 135 #[.val (.int p1), .val (.int p2), .val (.int p3), .val (.int p4), .val (.int p5), .val (.int (2 : Int32)), .val (.int (2 : Int32)), .val (.ref b4), .val (.ref b15), .val (.int (0 : Int32)), .val (.int (0 : Int32)), .unset] [(.ref b15)]) := fun t kt => K46 t (by
    show Steps p.tables e below (T45.setTop (mkF m 131 #[.val (.int p1), .val (.int p2), .val (.int p3), .val (.int p4), .val (.int p5), .val (.int (2 : Int32)), .val (.int (2 : Int32)), .val (.ref b4), .val (.ref b15), .val (.int (0 : Int32)), .unset, .unset] [(.int (0 : Int32))])) _
    refine XS.istore X45.here hx rfl (hb hby at_131) rfl (l' := #[.val (.int p1), .val (.int p2), .val (.int p3), .val (.int p4), .val (.int p5), .val (.int (2 : Int32)), .val (.int (2 : Int32)), .val (.ref b4), .val (.ref b15), .val (.int (0 : Int32)), .val (.int (0 : Int32)), .unset]) rfl ?_
    show Steps p.tables e below (T45.setTop (mkF m 133 #[.val (.int p1), .val (.int p2), .val (.int p3), .val (.int p4), .val (.int p5), .val (.int (2 : Int32)), .val (.int (2 : Int32)), .val (.ref b4), .val (.ref b15), .val (.int (0 : Int32)), .val (.int (0 : Int32)), .unset] [])) _
    refine XS.aload X45.here hx rfl (hb hby at_133) rfl rfl ?_
    exact kt)
  obtain ⟨cq48, kq48, q48a, q48b, q48c⟩ := isOf hZ e45 f38
  obtain ⟨_, _, ⟨T48, L48, k48, n48⟩, -, X48', ⟨Lc48, hQ48, l48, y48, z48⟩, st48⟩ := X45.virtualBack hx (y := (⟨"com/example/looseleaf/looseleaf/pgwire/MessageBody", "atNul", "()Z"⟩ : MethodName)) (z := (⟨"com/example/looseleaf/looseleaf/pgwire/MessageBody", "atNul", "()Z"⟩ : MethodName)) hown (mvT hZ (hw _ (List.mem_of_getElem? (i := 12) rfl))) (mvT hZ (hw _ (List.mem_of_getElem? (i := 13) rfl))) (notFace_of_selects (args := #[]) (mvT hZ (hw _ (List.mem_of_getElem? (i := 15) rfl)))) (mvT hZ (hw _ (List.mem_of_getElem? (i := 15) rfl))) (mvT hZ (hw _ (List.mem_of_getElem? (i := 14) rfl))) (by decide) (backOf (W := 0) (rmAt0 l Z a0 hw [] b15 b4 (2 : Int32) k4 (2 : Int32) [(.int (nar .byte (p3.toInt8.toInt32))), (.int (nar .byte (p4.toInt8.toInt32)))] h37 n0 (Nat.le_trans Z0 kp44.1) f39 f40 f43 (by decide)) hZ (hw _ (List.mem_of_getElem? (i := 16) rfl)) (hw _ (List.mem_of_getElem? (i := 3) rfl)) (by decide) (by decide)) q48a q48c (g := (mkF m 135 #[.val (.int p1), .val (.int p2), .val (.int p3), .val (.int p4), .val (.int p5), .val (.int (2 : Int32)), .val (.int (2 : Int32)), .val (.ref b4), .val (.ref b15), .val (.int (0 : Int32)), .val (.int (0 : Int32)), .unset] [(.ref b15)])) rfl (by rw [hml]; rfl) (Steps.refl _) (argsL := []) (rest := []) (lenOf pd___Z rfl) rfl (by show 2 * 0 + _ ≤ _; exact Nat.le_of_eq rfl) (hb hby at_135) (fun _ _ => ⟨rfl, e45, (by decide : 2 + 0 ≤ _), (by decide : 4 + 0 ≤ _)⟩)
  dsimp only [Pt.U, Pt.locs, Pt.cells, Pt.slots] at X48' l48 y48 z48 st48 hQ48
  subst l48 y48 z48
  obtain ⟨rfl, N48q, e48⟩ := hQ48
  obtain ⟨lc48, X48, N48⟩ : ∃ lc, Stand p l e room_1 s m #[(.int p1), (.int p2), (.int p3), (.int p4), (.int p5)] below meth c T48 lc 2 4 ∧ Fr n0 lc := ⟨_, X48', Fr.app N45 N48q⟩
  have K49 : Gx p e below s₁ f0 T48 (mkF m 138 #[.val (.int p1), .val (.int p2), .val (.int p3), .val (.int p4), .val (.int p5), .val (.int (2 : Int32)), .val (.int (2 : Int32)), .val (.ref b4), .val (.ref b15), .val (.int (0 : Int32)), .val (.int (0 : Int32)), .unset] [(.int (0 : Int32))]) := fun t kt => K47 t (st48.trans kt)
  have K50 : Gx p e below s₁ f0 T48 (mkF m 187 #[.val (.int p1), .val (.int p2), .val (.int p3), .val (.int p4), .val (.int p5), .val (.int (2 : Int32)), .val (.int (2 : Int32)), .val (.ref b4), .val (.ref b15), .val (.int (0 : Int32)), .val (.int (0 : Int32)), .val (.int (0 : Int32))] [(.int (1 : Int32))]) := fun t kt => K49 t (by
    show Steps p.tables e below (T48.setTop (mkF m 138 #[.val (.int p1), .val (.int p2), .val (.int p3), .val (.int p4), .val (.int p5), .val (.int (2 : Int32)), .val (.int (2 : Int32)), .val (.ref b4), .val (.ref b15), .val (.int (0 : Int32)), .val (.int (0 : Int32)), .unset] [(.int (0 : Int32))])) _
    refine XS.istore X48.here hx rfl (hb hby at_138) rfl (l' := #[.val (.int p1), .val (.int p2), .val (.int p3), .val (.int p4), .val (.int p5), .val (.int (2 : Int32)), .val (.int (2 : Int32)), .val (.ref b4), .val (.ref b15), .val (.int (0 : Int32)), .val (.int (0 : Int32)), .val (.int (0 : Int32))]) rfl ?_
    show Steps p.tables e below (T48.setTop (mkF m 140 #[.val (.int p1), .val (.int p2), .val (.int p3), .val (.int p4), .val (.int p5), .val (.int (2 : Int32)), .val (.int (2 : Int32)), .val (.ref b4), .val (.ref b15), .val (.int (0 : Int32)), .val (.int (0 : Int32)), .val (.int (0 : Int32))] [])) _
    refine XS.iload X48.here hx rfl (hb hby at_140) rfl ?_
    show Steps p.tables e below (T48.setTop (mkF m 142 #[.val (.int p1), .val (.int p2), .val (.int p3), .val (.int p4), .val (.int p5), .val (.int (2 : Int32)), .val (.int (2 : Int32)), .val (.ref b4), .val (.ref b15), .val (.int (0 : Int32)), .val (.int (0 : Int32)), .val (.int (0 : Int32))] [(.int (0 : Int32))])) _
    refine XS.iload X48.here hx rfl (hb hby at_142) rfl ?_
    show Steps p.tables e below (T48.setTop (mkF m 144 #[.val (.int p1), .val (.int p2), .val (.int p3), .val (.int p4), .val (.int p5), .val (.int (2 : Int32)), .val (.int (2 : Int32)), .val (.ref b4), .val (.ref b15), .val (.int (0 : Int32)), .val (.int (0 : Int32)), .val (.int (0 : Int32))] [(.int (0 : Int32)), (.int (0 : Int32))])) _
    refine XS.icmpNo X48.here hx rfl (hb hby at_144) rfl (teq (by decide)).2 ?_
    show Steps p.tables e below (T48.setTop (mkF m 147 #[.val (.int p1), .val (.int p2), .val (.int p3), .val (.int p4), .val (.int p5), .val (.int (2 : Int32)), .val (.int (2 : Int32)), .val (.ref b4), .val (.ref b15), .val (.int (0 : Int32)), .val (.int (0 : Int32)), .val (.int (0 : Int32))] [])) _
    refine XS.iload X48.here hx rfl (hb hby at_147) rfl ?_
    show Steps p.tables e below (T48.setTop (mkF m 149 #[.val (.int p1), .val (.int p2), .val (.int p3), .val (.int p4), .val (.int p5), .val (.int (2 : Int32)), .val (.int (2 : Int32)), .val (.ref b4), .val (.ref b15), .val (.int (0 : Int32)), .val (.int (0 : Int32)), .val (.int (0 : Int32))] [(.int (0 : Int32))])) _
    refine XS.iload X48.here hx rfl (hb hby at_149) rfl ?_
    show Steps p.tables e below (T48.setTop (mkF m 151 #[.val (.int p1), .val (.int p2), .val (.int p3), .val (.int p4), .val (.int p5), .val (.int (2 : Int32)), .val (.int (2 : Int32)), .val (.ref b4), .val (.ref b15), .val (.int (0 : Int32)), .val (.int (0 : Int32)), .val (.int (0 : Int32))] [(.int (0 : Int32)), (.int (0 : Int32))])) _
    refine XS.icmpYes X48.here hx rfl (pc0 := 151) (pc' := 156) rfl (hb hby at_151) rfl (teq (by decide)).1 (by decide) (by decide) ?_
    show Steps p.tables e below (T48.setTop (mkF m 156 #[.val (.int p1), .val (.int p2), .val (.int p3), .val (.int p4), .val (.int p5), .val (.int (2 : Int32)), .val (.int (2 : Int32)), .val (.ref b4), .val (.ref b15), .val (.int (0 : Int32)), .val (.int (0 : Int32)), .val (.int (0 : Int32))] [])) _
    refine XS.iload X48.here hx rfl (hb hby at_156) rfl ?_
    show Steps p.tables e below (T48.setTop (mkF m 158 #[.val (.int p1), .val (.int p2), .val (.int p3), .val (.int p4), .val (.int p5), .val (.int (2 : Int32)), .val (.int (2 : Int32)), .val (.ref b4), .val (.ref b15), .val (.int (0 : Int32)), .val (.int (0 : Int32)), .val (.int (0 : Int32))] [(.int (2 : Int32))])) _
    refine XS.iload X48.here hx rfl (hb hby at_158) rfl ?_
    show Steps p.tables e below (T48.setTop (mkF m 160 #[.val (.int p1), .val (.int p2), .val (.int p3), .val (.int p4), .val (.int p5), .val (.int (2 : Int32)), .val (.int (2 : Int32)), .val (.ref b4), .val (.ref b15), .val (.int (0 : Int32)), .val (.int (0 : Int32)), .val (.int (0 : Int32))] [(.int (2 : Int32)), (.int (2 : Int32))])) _
    refine XS.icmpYes X48.here hx rfl (pc0 := 160) (pc' := 186) rfl (hb hby at_160) rfl (flt (by decide)).2.1 (by decide) (by decide) ?_
    show Steps p.tables e below (T48.setTop (mkF m 186 #[.val (.int p1), .val (.int p2), .val (.int p3), .val (.int p4), .val (.int p5), .val (.int (2 : Int32)), .val (.int (2 : Int32)), .val (.ref b4), .val (.ref b15), .val (.int (0 : Int32)), .val (.int (0 : Int32)), .val (.int (0 : Int32))] [])) _
    refine XS.iconst X48.here hx rfl (hb hby at_186) ?_
    exact kt)
  obtain ⟨fs51, hr51, hrun51, hended51, hW51, hsame51⟩ := X48.leave (v := some (.int (1 : Int32))) (fun h => by rw [Bd.returns] at h; cases h)
  refine ⟨_, _, pre0 _ (K50 _ ?_), hrun51, hended51, _, _, rfl, ?_, ⟨_, rfl⟩, hW51, hsame51.mono (by decide) (by decide)⟩
  · exact retN X48 hx (t := .boolean) Bd.returns (by simp) (hb hby at_187) hr51
  · show Q0 Z p1 p2 p3 p4 p5 h0 n0 _ T48.heap _
    rw [e48]
    exact ⟨rfl, N48⟩
theorem ef_0_30 (m : MethodId) (p1 : Int32) (p2 : Int32) (p3 : Int32) (p4 : Int32) (p5 : Int32) : entryFrame m #[(.int p1), (.int p2), (.int p3), (.int p4), (.int p5)] maxLocals = mkF m 0 #[.val (.int p1), .val (.int p2), .val (.int p3), .val (.int p4), .val (.int p5), .unset, .unset, .unset, .unset, .unset, .unset, .unset] [] := by first | (simp [entryFrame, mkF, argsToLocals, Value.category, maxLocals]; done) | rfl
set_option maxRecDepth 65536 in
set_option maxHeartbeats 40000000 in
theorem rm0_30 (l : Launch) (Z : State) (a0 : Array Value) (hw : ∀ d ∈ tables_1, d.before a0 Z = true) (ws : List Jvm.Cond) (p1 : Int32) (p2 : Int32) (p3 : Int32) (p4 : Int32) (p5 : Int32) (h0 : Heap) (n0 : Nat) (Z0 : n0 ≤ h0.size) (hn_ : (p1 &&& (3 : Int32)) = (3 : Int32)) (hk_ : ((p2 &&& (3 : Int32)) % (4 : Int32)) = (0 : Int32)) :
    MetFree l x (head1 (Jvm.Cond.code x code maxLocals ret :: ws) room_1) (fun a U => a = #[(.int p1), (.int p2), (.int p3), (.int p4), (.int p5)] ∧ Z.Warmed39 U.vm ∧ U.heap = h0) (fun _ _ _ _ _ => True) (fun _ U o U' => ∃ v L, o = .returned v ∧ Q0 Z p1 p2 p3 p4 p5 h0 n0 v U'.heap L ∧ FrameEnd U o U' L room_1.cells room_1.slots) := by
  refine MetFree.of_bodySF (plainFor_of_name pn_0) hisR ?_
  intro p e s m args below meth c s₁ Bd hml0 hP hK
  obtain ⟨rfl, hZ, hh⟩ := hP
  have hx := Bd.exec
  have hby := Bd.bytes
  have hml : c.maxLocals = 12 := hml0
  have hown : s.vm.findClass "com/example/looseleaf/looseleaf/pgwire/MessageBodyAtNulPinLaw" = some m.cls := findClass_of_methodNamed Bd.named
  have hnm := (name_of_methodNamed Bd.named Bd.method).1
  have X0 : Stand p l e room_1 s m #[(.int p1), (.int p2), (.int p3), (.int p4), (.int p5)] below meth c s₁ [] 0 0 := Stand.of_body Bd
  have hs0 : h0 = s.heap := hh.symm
  have e0 : s₁.heap = h0 := by rw [← hh, Bd.state]; rfl
  have N0 := Fr.nil n0
  obtain ⟨f0, hf0⟩ : ∃ f, f = entryFrame m #[(.int p1), (.int p2), (.int p3), (.int p4), (.int p5)] maxLocals := ⟨_, rfl⟩
  have pre0 : ∀ t, Steps p.tables e below (s₁.setTop f0) t → Steps p.tables e below (s₁.setTop (entryFrame m #[(.int p1), (.int p2), (.int p3), (.int p4), (.int p5)] maxLocals)) t := fun t k => hf0 ▸ k
  have K0 : Gx p e below s₁ f0 s₁ (mkF m 0 #[.val (.int p1), .val (.int p2), .val (.int p3), .val (.int p4), .val (.int p5), .unset, .unset, .unset, .unset, .unset, .unset, .unset] []) := fun t kt => by rw [hf0]; exact castTop (ef_0_30 m p1 p2 p3 p4 p5) kt
  have K1 : Gx p e below s₁ f0 s₁ (mkF m 5 #[.val (.int p1), .val (.int p2), .val (.int p3), .val (.int p4), .val (.int p5), .val (.int (p1 &&& (3 : Int32))), .unset, .unset, .unset, .unset, .unset, .unset] []) := fun t kt => K0 t (by
    show Steps p.tables e below (s₁.setTop (mkF m 0 #[.val (.int p1), .val (.int p2), .val (.int p3), .val (.int p4), .val (.int p5), .unset, .unset, .unset, .unset, .unset, .unset, .unset] [])) _
    refine XS.iloadN X0.here hx rfl (hb hby at_0) rfl ?_
    show Steps p.tables e below (s₁.setTop (mkF m 1 #[.val (.int p1), .val (.int p2), .val (.int p3), .val (.int p4), .val (.int p5), .unset, .unset, .unset, .unset, .unset, .unset, .unset] [(.int p1)])) _
    refine XS.iconst X0.here hx rfl (hb hby at_1) ?_
    show Steps p.tables e below (s₁.setTop (mkF m 2 #[.val (.int p1), .val (.int p2), .val (.int p3), .val (.int p4), .val (.int p5), .unset, .unset, .unset, .unset, .unset, .unset, .unset] [(.int (3 : Int32)), (.int p1)])) _
    refine XS.iand X0.here hx rfl (hb hby at_2) rfl ?_
    show Steps p.tables e below (s₁.setTop (mkF m 3 #[.val (.int p1), .val (.int p2), .val (.int p3), .val (.int p4), .val (.int p5), .unset, .unset, .unset, .unset, .unset, .unset, .unset] [(.int (p1 &&& (3 : Int32)))])) _
    refine XS.istore X0.here hx rfl (hb hby at_3) rfl (l' := #[.val (.int p1), .val (.int p2), .val (.int p3), .val (.int p4), .val (.int p5), .val (.int (p1 &&& (3 : Int32))), .unset, .unset, .unset, .unset, .unset, .unset]) rfl ?_
    exact kt)
  rw [hn_] at K1
  have K2 : Gx p e below s₁ f0 s₁ (mkF m 15 #[.val (.int p1), .val (.int p2), .val (.int p3), .val (.int p4), .val (.int p5), .val (.int (3 : Int32)), .val (.int ((p2 &&& (3 : Int32)) % (4 : Int32))), .unset, .unset, .unset, .unset, .unset] []) := fun t kt => K1 t (by
    show Steps p.tables e below (s₁.setTop (mkF m 5 #[.val (.int p1), .val (.int p2), .val (.int p3), .val (.int p4), .val (.int p5), .val (.int (3 : Int32)), .unset, .unset, .unset, .unset, .unset, .unset] [])) _
    refine XS.iloadN X0.here hx rfl (hb hby at_5) rfl ?_
    show Steps p.tables e below (s₁.setTop (mkF m 6 #[.val (.int p1), .val (.int p2), .val (.int p3), .val (.int p4), .val (.int p5), .val (.int (3 : Int32)), .unset, .unset, .unset, .unset, .unset, .unset] [(.int p2)])) _
    refine XS.iconst X0.here hx rfl (hb hby at_6) ?_
    show Steps p.tables e below (s₁.setTop (mkF m 7 #[.val (.int p1), .val (.int p2), .val (.int p3), .val (.int p4), .val (.int p5), .val (.int (3 : Int32)), .unset, .unset, .unset, .unset, .unset, .unset] [(.int (3 : Int32)), (.int p2)])) _
    refine XS.iand X0.here hx rfl (hb hby at_7) rfl ?_
    show Steps p.tables e below (s₁.setTop (mkF m 8 #[.val (.int p1), .val (.int p2), .val (.int p3), .val (.int p4), .val (.int p5), .val (.int (3 : Int32)), .unset, .unset, .unset, .unset, .unset, .unset] [(.int (p2 &&& (3 : Int32)))])) _
    refine XS.iload X0.here hx rfl (hb hby at_8) rfl ?_
    show Steps p.tables e below (s₁.setTop (mkF m 10 #[.val (.int p1), .val (.int p2), .val (.int p3), .val (.int p4), .val (.int p5), .val (.int (3 : Int32)), .unset, .unset, .unset, .unset, .unset, .unset] [(.int (3 : Int32)), (.int (p2 &&& (3 : Int32)))])) _
    refine XS.iconst X0.here hx rfl (hb hby at_10) ?_
    show Steps p.tables e below (s₁.setTop (mkF m 11 #[.val (.int p1), .val (.int p2), .val (.int p3), .val (.int p4), .val (.int p5), .val (.int (3 : Int32)), .unset, .unset, .unset, .unset, .unset, .unset] [(.int (1 : Int32)), (.int (3 : Int32)), (.int (p2 &&& (3 : Int32)))])) _
    refine XS.iadd X0.here hx rfl (hb hby at_11) rfl ?_
    show Steps p.tables e below (s₁.setTop (mkF m 12 #[.val (.int p1), .val (.int p2), .val (.int p3), .val (.int p4), .val (.int p5), .val (.int (3 : Int32)), .unset, .unset, .unset, .unset, .unset, .unset] [(.int (4 : Int32)), (.int (p2 &&& (3 : Int32)))])) _
    refine iremM X0 hx rfl (hb hby at_12) rfl (by decide) ?_
    show Steps p.tables e below (s₁.setTop (mkF m 13 #[.val (.int p1), .val (.int p2), .val (.int p3), .val (.int p4), .val (.int p5), .val (.int (3 : Int32)), .unset, .unset, .unset, .unset, .unset, .unset] [(.int ((p2 &&& (3 : Int32)) % (4 : Int32)))])) _
    refine XS.istore X0.here hx rfl (hb hby at_13) rfl (l' := #[.val (.int p1), .val (.int p2), .val (.int p3), .val (.int p4), .val (.int p5), .val (.int (3 : Int32)), .val (.int ((p2 &&& (3 : Int32)) % (4 : Int32))), .unset, .unset, .unset, .unset, .unset]) rfl ?_
    exact kt)
  rw [hk_] at K2
  have K3 : Gx p e below s₁ f0 s₁ (mkF m 17 #[.val (.int p1), .val (.int p2), .val (.int p3), .val (.int p4), .val (.int p5), .val (.int (3 : Int32)), .val (.int (0 : Int32)), .unset, .unset, .unset, .unset, .unset] [(.int (3 : Int32))]) := fun t kt => K2 t (by
    show Steps p.tables e below (s₁.setTop (mkF m 15 #[.val (.int p1), .val (.int p2), .val (.int p3), .val (.int p4), .val (.int p5), .val (.int (3 : Int32)), .val (.int (0 : Int32)), .unset, .unset, .unset, .unset, .unset] [])) _
    refine XS.iload X0.here hx rfl (hb hby at_15) rfl ?_
    exact kt)
  obtain ⟨T4, h4, k4, X4, e4, E4, A4, st4⟩ := newP X0 hx hZ (hw _ (List.mem_of_getElem? (i := 0) rfl)) e0 (g := (mkF m 17 #[.val (.int p1), .val (.int p2), .val (.int p3), .val (.int p4), .val (.int p5), .val (.int (3 : Int32)), .val (.int (0 : Int32)), .unset, .unset, .unset, .unset, .unset] [(.int (3 : Int32))])) rfl (hb hby at_17) rfl (by decide) (cap := 3) (by decide) (by decide) (by decide) (by decide)
  obtain ⟨b4, g4⟩ : ∃ z, z = h0.size := ⟨_, rfl⟩
  rw [← g4] at A4 st4
  have V4 : Arv Z h4 b4 k4 .byte (3 : Int32) [(.int (0 : Int32)), (.int (0 : Int32)), (.int (0 : Int32))] (.int (0 : Int32)) := (Arv.new A4 (by decide)).pad (pad_rep [] (.int (0 : Int32)) 3)
  have K5 : Gx p e below s₁ f0 T4 (mkF m 19 #[.val (.int p1), .val (.int p2), .val (.int p3), .val (.int p4), .val (.int p5), .val (.int (3 : Int32)), .val (.int (0 : Int32)), .unset, .unset, .unset, .unset, .unset] [(.ref b4)]) := fun t kt => K3 t (st4 t kt)
  have K6 : Gx p e below s₁ f0 T4 (mkF m 31 #[.val (.int p1), .val (.int p2), .val (.int p3), .val (.int p4), .val (.int p5), .val (.int (3 : Int32)), .val (.int (0 : Int32)), .val (.ref b4), .unset, .unset, .unset, .unset] [(.int (p3.toInt8.toInt32)), (.int (0 : Int32)), (.ref b4)]) := fun t kt => K5 t (by
    show Steps p.tables e below (T4.setTop (mkF m 19 #[.val (.int p1), .val (.int p2), .val (.int p3), .val (.int p4), .val (.int p5), .val (.int (3 : Int32)), .val (.int (0 : Int32)), .unset, .unset, .unset, .unset, .unset] [(.ref b4)])) _
    refine XS.astore X4.here hx rfl (hb hby at_19) rfl rfl (l' := #[.val (.int p1), .val (.int p2), .val (.int p3), .val (.int p4), .val (.int p5), .val (.int (3 : Int32)), .val (.int (0 : Int32)), .val (.ref b4), .unset, .unset, .unset, .unset]) rfl ?_
    show Steps p.tables e below (T4.setTop (mkF m 21 #[.val (.int p1), .val (.int p2), .val (.int p3), .val (.int p4), .val (.int p5), .val (.int (3 : Int32)), .val (.int (0 : Int32)), .val (.ref b4), .unset, .unset, .unset, .unset] [])) _
    refine XS.iload X4.here hx rfl (hb hby at_21) rfl ?_
    show Steps p.tables e below (T4.setTop (mkF m 23 #[.val (.int p1), .val (.int p2), .val (.int p3), .val (.int p4), .val (.int p5), .val (.int (3 : Int32)), .val (.int (0 : Int32)), .val (.ref b4), .unset, .unset, .unset, .unset] [(.int (3 : Int32))])) _
    refine XS.ifNo X4.here hx rfl (hb hby at_23) rfl ((if0 _ _).trans (tlt (by decide)).2.2.2) ?_
    show Steps p.tables e below (T4.setTop (mkF m 26 #[.val (.int p1), .val (.int p2), .val (.int p3), .val (.int p4), .val (.int p5), .val (.int (3 : Int32)), .val (.int (0 : Int32)), .val (.ref b4), .unset, .unset, .unset, .unset] [])) _
    refine XS.aload X4.here hx rfl (hb hby at_26) rfl rfl ?_
    show Steps p.tables e below (T4.setTop (mkF m 28 #[.val (.int p1), .val (.int p2), .val (.int p3), .val (.int p4), .val (.int p5), .val (.int (3 : Int32)), .val (.int (0 : Int32)), .val (.ref b4), .unset, .unset, .unset, .unset] [(.ref b4)])) _
    refine XS.iconst X4.here hx rfl (hb hby at_28) ?_
    show Steps p.tables e below (T4.setTop (mkF m 29 #[.val (.int p1), .val (.int p2), .val (.int p3), .val (.int p4), .val (.int p5), .val (.int (3 : Int32)), .val (.int (0 : Int32)), .val (.ref b4), .unset, .unset, .unset, .unset] [(.int (0 : Int32)), (.ref b4)])) _
    refine XS.iloadN X4.here hx rfl (hb hby at_29) rfl ?_
    show Steps p.tables e below (T4.setTop (mkF m 30 #[.val (.int p1), .val (.int p2), .val (.int p3), .val (.int p4), .val (.int p5), .val (.int (3 : Int32)), .val (.int (0 : Int32)), .val (.ref b4), .unset, .unset, .unset, .unset] [(.int p3), (.int (0 : Int32)), (.ref b4)])) _
    refine XS.i2b X4.here hx rfl (hb hby at_30) rfl ?_
    exact kt)
  obtain ⟨clq7, Arq7, ckq7, cSq7, cNq7, cHq7, cGq7⟩ := id V4
  obtain ⟨T8, h8, X8', e8, W8, st8⟩ := stB X4 hx hZ e4 Arq7 (j := (0 : Int32)) (inb_of cSq7 ⟨by decide, by decide⟩) (g := (mkF m 31 #[.val (.int p1), .val (.int p2), .val (.int p3), .val (.int p4), .val (.int p5), .val (.int (3 : Int32)), .val (.int (0 : Int32)), .val (.ref b4), .unset, .unset, .unset, .unset] [(.int (p3.toInt8.toInt32)), (.int (0 : Int32)), (.ref b4)])) rfl rfl (hb hby at_31)
  obtain ⟨lc8, X8, N8⟩ : ∃ lc, Stand p l e room_1 s m #[(.int p1), (.int p2), (.int p3), (.int p4), (.int p5)] below meth c T8 lc 1 3 ∧ Fr n0 lc := ⟨_, X8', Fr.snoc X8' N0 (Nat.le_trans Z0 (Nat.le_trans (Keep.refl h0 []).1 (Nat.le_of_eq g4.symm)))⟩
  have V8 : Arv Z h8 b4 k4 .byte (3 : Int32) [(.int (nar .byte (p3.toInt8.toInt32))), (.int (0 : Int32)), (.int (0 : Int32))] (.int (0 : Int32)) := Arv.set Arq7 ckq7 cSq7 cNq7 cHq7 cGq7 (fits_nar_byte _) W8 0 rfl (Nat.le_of_ble_eq_true rfl)
  have K9 : Gx p e below s₁ f0 T8 (mkF m 32 #[.val (.int p1), .val (.int p2), .val (.int p3), .val (.int p4), .val (.int p5), .val (.int (3 : Int32)), .val (.int (0 : Int32)), .val (.ref b4), .unset, .unset, .unset, .unset] []) := fun t kt => K6 t (st8 t kt)
  have K10 : Gx p e below s₁ f0 T8 (mkF m 43 #[.val (.int p1), .val (.int p2), .val (.int p3), .val (.int p4), .val (.int p5), .val (.int (3 : Int32)), .val (.int (0 : Int32)), .val (.ref b4), .unset, .unset, .unset, .unset] [(.int (p4.toInt8.toInt32)), (.int (1 : Int32)), (.ref b4)]) := fun t kt => K9 t (by
    show Steps p.tables e below (T8.setTop (mkF m 32 #[.val (.int p1), .val (.int p2), .val (.int p3), .val (.int p4), .val (.int p5), .val (.int (3 : Int32)), .val (.int (0 : Int32)), .val (.ref b4), .unset, .unset, .unset, .unset] [])) _
    refine XS.iload X8.here hx rfl (hb hby at_32) rfl ?_
    show Steps p.tables e below (T8.setTop (mkF m 34 #[.val (.int p1), .val (.int p2), .val (.int p3), .val (.int p4), .val (.int p5), .val (.int (3 : Int32)), .val (.int (0 : Int32)), .val (.ref b4), .unset, .unset, .unset, .unset] [(.int (3 : Int32))])) _
    refine XS.iconst X8.here hx rfl (hb hby at_34) ?_
    show Steps p.tables e below (T8.setTop (mkF m 35 #[.val (.int p1), .val (.int p2), .val (.int p3), .val (.int p4), .val (.int p5), .val (.int (3 : Int32)), .val (.int (0 : Int32)), .val (.ref b4), .unset, .unset, .unset, .unset] [(.int (1 : Int32)), (.int (3 : Int32))])) _
    refine XS.icmpNo X8.here hx rfl (hb hby at_35) rfl (tlt (by decide)).2.2.2 ?_
    show Steps p.tables e below (T8.setTop (mkF m 38 #[.val (.int p1), .val (.int p2), .val (.int p3), .val (.int p4), .val (.int p5), .val (.int (3 : Int32)), .val (.int (0 : Int32)), .val (.ref b4), .unset, .unset, .unset, .unset] [])) _
    refine XS.aload X8.here hx rfl (hb hby at_38) rfl rfl ?_
    show Steps p.tables e below (T8.setTop (mkF m 40 #[.val (.int p1), .val (.int p2), .val (.int p3), .val (.int p4), .val (.int p5), .val (.int (3 : Int32)), .val (.int (0 : Int32)), .val (.ref b4), .unset, .unset, .unset, .unset] [(.ref b4)])) _
    refine XS.iconst X8.here hx rfl (hb hby at_40) ?_
    show Steps p.tables e below (T8.setTop (mkF m 41 #[.val (.int p1), .val (.int p2), .val (.int p3), .val (.int p4), .val (.int p5), .val (.int (3 : Int32)), .val (.int (0 : Int32)), .val (.ref b4), .unset, .unset, .unset, .unset] [(.int (1 : Int32)), (.ref b4)])) _
    refine XS.iloadN X8.here hx rfl (hb hby at_41) rfl ?_
    show Steps p.tables e below (T8.setTop (mkF m 42 #[.val (.int p1), .val (.int p2), .val (.int p3), .val (.int p4), .val (.int p5), .val (.int (3 : Int32)), .val (.int (0 : Int32)), .val (.ref b4), .unset, .unset, .unset, .unset] [(.int p4), (.int (1 : Int32)), (.ref b4)])) _
    refine XS.i2b X8.here hx rfl (hb hby at_42) rfl ?_
    exact kt)
  obtain ⟨clq11, Arq11, ckq11, cSq11, cNq11, cHq11, cGq11⟩ := id V8
  obtain ⟨T12, h12, X12', e12, W12, st12⟩ := stB X8 hx hZ e8 Arq11 (j := (1 : Int32)) (inb_of cSq11 ⟨by decide, by decide⟩) (g := (mkF m 43 #[.val (.int p1), .val (.int p2), .val (.int p3), .val (.int p4), .val (.int p5), .val (.int (3 : Int32)), .val (.int (0 : Int32)), .val (.ref b4), .unset, .unset, .unset, .unset] [(.int (p4.toInt8.toInt32)), (.int (1 : Int32)), (.ref b4)])) rfl rfl (hb hby at_43)
  obtain ⟨lc12, X12, N12⟩ : ∃ lc, Stand p l e room_1 s m #[(.int p1), (.int p2), (.int p3), (.int p4), (.int p5)] below meth c T12 lc 1 3 ∧ Fr n0 lc := ⟨_, X12', Fr.snoc X12' N8 (Nat.le_trans Z0 (Nat.le_trans (Keep.refl h0 []).1 (Nat.le_of_eq g4.symm)))⟩
  have V12 : Arv Z h12 b4 k4 .byte (3 : Int32) [(.int (nar .byte (p3.toInt8.toInt32))), (.int (nar .byte (p4.toInt8.toInt32))), (.int (0 : Int32))] (.int (0 : Int32)) := Arv.set Arq11 ckq11 cSq11 cNq11 cHq11 cGq11 (fits_nar_byte _) W12 1 rfl (Nat.le_of_ble_eq_true rfl)
  have K13 : Gx p e below s₁ f0 T12 (mkF m 44 #[.val (.int p1), .val (.int p2), .val (.int p3), .val (.int p4), .val (.int p5), .val (.int (3 : Int32)), .val (.int (0 : Int32)), .val (.ref b4), .unset, .unset, .unset, .unset] []) := fun t kt => K10 t (st12 t kt)
  have K14 : Gx p e below s₁ f0 T12 (mkF m 56 #[.val (.int p1), .val (.int p2), .val (.int p3), .val (.int p4), .val (.int p5), .val (.int (3 : Int32)), .val (.int (0 : Int32)), .val (.ref b4), .unset, .unset, .unset, .unset] [(.int (p5.toInt8.toInt32)), (.int (2 : Int32)), (.ref b4)]) := fun t kt => K13 t (by
    show Steps p.tables e below (T12.setTop (mkF m 44 #[.val (.int p1), .val (.int p2), .val (.int p3), .val (.int p4), .val (.int p5), .val (.int (3 : Int32)), .val (.int (0 : Int32)), .val (.ref b4), .unset, .unset, .unset, .unset] [])) _
    refine XS.iload X12.here hx rfl (hb hby at_44) rfl ?_
    show Steps p.tables e below (T12.setTop (mkF m 46 #[.val (.int p1), .val (.int p2), .val (.int p3), .val (.int p4), .val (.int p5), .val (.int (3 : Int32)), .val (.int (0 : Int32)), .val (.ref b4), .unset, .unset, .unset, .unset] [(.int (3 : Int32))])) _
    refine XS.iconst X12.here hx rfl (hb hby at_46) ?_
    show Steps p.tables e below (T12.setTop (mkF m 47 #[.val (.int p1), .val (.int p2), .val (.int p3), .val (.int p4), .val (.int p5), .val (.int (3 : Int32)), .val (.int (0 : Int32)), .val (.ref b4), .unset, .unset, .unset, .unset] [(.int (2 : Int32)), (.int (3 : Int32))])) _
    refine XS.icmpNo X12.here hx rfl (hb hby at_47) rfl (tlt (by decide)).2.2.2 ?_
    show Steps p.tables e below (T12.setTop (mkF m 50 #[.val (.int p1), .val (.int p2), .val (.int p3), .val (.int p4), .val (.int p5), .val (.int (3 : Int32)), .val (.int (0 : Int32)), .val (.ref b4), .unset, .unset, .unset, .unset] [])) _
    refine XS.aload X12.here hx rfl (hb hby at_50) rfl rfl ?_
    show Steps p.tables e below (T12.setTop (mkF m 52 #[.val (.int p1), .val (.int p2), .val (.int p3), .val (.int p4), .val (.int p5), .val (.int (3 : Int32)), .val (.int (0 : Int32)), .val (.ref b4), .unset, .unset, .unset, .unset] [(.ref b4)])) _
    refine XS.iconst X12.here hx rfl (hb hby at_52) ?_
    show Steps p.tables e below (T12.setTop (mkF m 53 #[.val (.int p1), .val (.int p2), .val (.int p3), .val (.int p4), .val (.int p5), .val (.int (3 : Int32)), .val (.int (0 : Int32)), .val (.ref b4), .unset, .unset, .unset, .unset] [(.int (2 : Int32)), (.ref b4)])) _
    refine XS.iload X12.here hx rfl (hb hby at_53) rfl ?_
    show Steps p.tables e below (T12.setTop (mkF m 55 #[.val (.int p1), .val (.int p2), .val (.int p3), .val (.int p4), .val (.int p5), .val (.int (3 : Int32)), .val (.int (0 : Int32)), .val (.ref b4), .unset, .unset, .unset, .unset] [(.int p5), (.int (2 : Int32)), (.ref b4)])) _
    refine XS.i2b X12.here hx rfl (hb hby at_55) rfl ?_
    exact kt)
  obtain ⟨clq15, Arq15, ckq15, cSq15, cNq15, cHq15, cGq15⟩ := id V12
  obtain ⟨T16, h16, X16', e16, W16, st16⟩ := stB X12 hx hZ e12 Arq15 (j := (2 : Int32)) (inb_of cSq15 ⟨by decide, by decide⟩) (g := (mkF m 56 #[.val (.int p1), .val (.int p2), .val (.int p3), .val (.int p4), .val (.int p5), .val (.int (3 : Int32)), .val (.int (0 : Int32)), .val (.ref b4), .unset, .unset, .unset, .unset] [(.int (p5.toInt8.toInt32)), (.int (2 : Int32)), (.ref b4)])) rfl rfl (hb hby at_56)
  obtain ⟨lc16, X16, N16⟩ : ∃ lc, Stand p l e room_1 s m #[(.int p1), (.int p2), (.int p3), (.int p4), (.int p5)] below meth c T16 lc 1 3 ∧ Fr n0 lc := ⟨_, X16', Fr.snoc X16' N12 (Nat.le_trans Z0 (Nat.le_trans (Keep.refl h0 []).1 (Nat.le_of_eq g4.symm)))⟩
  have V16 : Arv Z h16 b4 k4 .byte (3 : Int32) [(.int (nar .byte (p3.toInt8.toInt32))), (.int (nar .byte (p4.toInt8.toInt32))), (.int (nar .byte (p5.toInt8.toInt32)))] (.int (0 : Int32)) := Arv.set Arq15 ckq15 cSq15 cNq15 cHq15 cGq15 (fits_nar_byte _) W16 2 rfl (Nat.le_of_ble_eq_true rfl)
  have K17 : Gx p e below s₁ f0 T16 (mkF m 57 #[.val (.int p1), .val (.int p2), .val (.int p3), .val (.int p4), .val (.int p5), .val (.int (3 : Int32)), .val (.int (0 : Int32)), .val (.ref b4), .unset, .unset, .unset, .unset] []) := fun t kt => K14 t (st16 t kt)
  obtain ⟨T18, h18, X18, e18, E18, A18, D18, -, st18⟩ := newO X16 hx hZ hown (hw _ (List.mem_of_getElem? (i := 1) rfl)) (hw _ (List.mem_of_getElem? (i := 2) rfl)) (hw _ (List.mem_of_getElem? (i := 3) rfl)) e16 (g := (mkF m 57 #[.val (.int p1), .val (.int p2), .val (.int p3), .val (.int p4), .val (.int p5), .val (.int (3 : Int32)), .val (.int (0 : Int32)), .val (.ref b4), .unset, .unset, .unset, .unset] [])) rfl (hb hby at_57) (by decide) (by decide)
  obtain ⟨b18, g18⟩ : ∃ z, z = h16.size := ⟨_, rfl⟩
  rw [← g18] at A18 D18 st18
  have f19 : Fld Z h18 b18 "com/example/looseleaf/looseleaf/pgwire/MessageBody" "bytes" "[B" .null := D18 (Or.inr (hw _ (List.mem_of_getElem? (i := 11) rfl))) (ty := (.array .byte)) (by decide)
  have f20 : Fld Z h18 b18 "com/example/looseleaf/looseleaf/pgwire/MessageBody" "at" "I" (.int (0 : Int32)) := D18 (Or.inl (hw _ (List.mem_of_getElem? (i := 18) rfl))) (ty := .int) (by decide)
  have K21 : Gx p e below s₁ f0 T18 (mkF m 60 #[.val (.int p1), .val (.int p2), .val (.int p3), .val (.int p4), .val (.int p5), .val (.int (3 : Int32)), .val (.int (0 : Int32)), .val (.ref b4), .unset, .unset, .unset, .unset] [(.ref b18)]) := fun t kt => K17 t (st18 t kt)
  have K22 : Gx p e below s₁ f0 T18 (mkF m 63 #[.val (.int p1), .val (.int p2), .val (.int p3), .val (.int p4), .val (.int p5), .val (.int (3 : Int32)), .val (.int (0 : Int32)), .val (.ref b4), .unset, .unset, .unset, .unset] [(.ref b4), (.ref b18), (.ref b18)]) := fun t kt => K21 t (by
    show Steps p.tables e below (T18.setTop (mkF m 60 #[.val (.int p1), .val (.int p2), .val (.int p3), .val (.int p4), .val (.int p5), .val (.int (3 : Int32)), .val (.int (0 : Int32)), .val (.ref b4), .unset, .unset, .unset, .unset] [(.ref b18)])) _
    refine XS.dup X18.here hx rfl (hb hby at_60) rfl rfl ?_
    show Steps p.tables e below (T18.setTop (mkF m 61 #[.val (.int p1), .val (.int p2), .val (.int p3), .val (.int p4), .val (.int p5), .val (.int (3 : Int32)), .val (.int (0 : Int32)), .val (.ref b4), .unset, .unset, .unset, .unset] [(.ref b18), (.ref b18)])) _
    refine XS.aload X18.here hx rfl (hb hby at_61) rfl rfl ?_
    exact kt)
  have kp23 : Keep h0 h18 [] := ((((((Keep.refl h0 []).ext E4).wr W8 (Or.inr (Nat.le_trans (Keep.refl h0 []).1 (Nat.le_of_eq g4.symm)))).wr W12 (Or.inr (Nat.le_trans (Keep.refl h0 []).1 (Nat.le_of_eq g4.symm)))).wr W16 (Or.inr (Nat.le_trans (Keep.refl h0 []).1 (Nat.le_of_eq g4.symm)))).ext E18)
  obtain ⟨_, _, ⟨T24, L24, k24, n24⟩, -, X24', ⟨Lc24, hQ24, l24, y24, z24⟩, st24⟩ := X18.specialBack hx (y := (⟨"com/example/looseleaf/looseleaf/pgwire/MessageBody", "<init>", "([B)V"⟩ : MethodName)) rfl hown (mvT hZ (hw _ (List.mem_of_getElem? (i := 4) rfl))) (mvT hZ (hw _ (List.mem_of_getElem? (i := 5) rfl))) (mvT hZ (hw _ (List.mem_of_getElem? (i := 6) rfl))) (by decide) (backOf (W := 1) (rmIni l Z a0 hw [] b18 b4 h18 n0 (Nat.le_trans Z0 kp23.1) A18 (Nat.le_trans Z0 (Nat.le_trans (((((Keep.refl h0 []).ext E4).wr W8 (Or.inr (Nat.le_trans (Keep.refl h0 []).1 (Nat.le_of_eq g4.symm)))).wr W12 (Or.inr (Nat.le_trans (Keep.refl h0 []).1 (Nat.le_of_eq g4.symm)))).wr W16 (Or.inr (Nat.le_trans (Keep.refl h0 []).1 (Nat.le_of_eq g4.symm)))).1 (Nat.le_of_eq g18.symm))) f19 f20) hZ (hw _ (List.mem_of_getElem? (i := 6) rfl)) (hw _ (List.mem_of_getElem? (i := 3) rfl)) (by decide) (by decide)) (g := (mkF m 63 #[.val (.int p1), .val (.int p2), .val (.int p3), .val (.int p4), .val (.int p5), .val (.int (3 : Int32)), .val (.int (0 : Int32)), .val (.ref b4), .unset, .unset, .unset, .unset] [(.ref b4), (.ref b18), (.ref b18)])) rfl (by rw [hml]; rfl) (Steps.refl _) (a := b18) (argsL := [(.ref b4)]) (rest := [(.ref b18)]) (lenOf pd___B_V rfl) rfl (by show 2 * 0 + _ ≤ _; exact Nat.le_of_eq rfl) (hb hby at_63) (fun _ _ => ⟨rfl, e18, (by decide : 2 + 0 ≤ _), (by decide : 5 + 0 ≤ _)⟩)
  dsimp only [Pt.U, Pt.locs, Pt.cells, Pt.slots] at X24' l24 y24 z24 st24 hQ24
  subst l24 y24 z24
  obtain ⟨h24, e24⟩ : ∃ z, T24.heap = z := ⟨_, rfl⟩
  rw [e24] at hQ24
  obtain ⟨rfl, N24q, Kc24, f25, f26, f27⟩ := hQ24
  obtain ⟨lc24, X24, N24⟩ : ∃ lc, Stand p l e room_1 s m #[(.int p1), (.int p2), (.int p3), (.int p4), (.int p5)] below meth c T24 lc 2 5 ∧ Fr n0 lc := ⟨_, X24', Fr.app N16 N24q⟩
  have K28 : Gx p e below s₁ f0 T24 (mkF m 66 #[.val (.int p1), .val (.int p2), .val (.int p3), .val (.int p4), .val (.int p5), .val (.int (3 : Int32)), .val (.int (0 : Int32)), .val (.ref b4), .unset, .unset, .unset, .unset] [(.ref b18)]) := fun t kt => K22 t (st24.trans kt)
  have f29 : Arv Z h24 b4 k4 .byte (3 : Int32) [(.int (nar .byte (p3.toInt8.toInt32))), (.int (nar .byte (p4.toInt8.toInt32))), (.int (nar .byte (p5.toInt8.toInt32)))] (.int (0 : Int32)) := ((V16.ext E18).keep Kc24 (ninS (Nat.ne_of_lt (Nat.lt_of_lt_of_le V16.lt (Nat.le_of_eq g18.symm))) nin0))
  obtain ⟨clq30, Arq30, ckq30, cSq30, cNq30, cHq30, cGq30⟩ := id f29
  have K33 : Gx p e below s₁ f0 T24 (mkF m 116 #[.val (.int p1), .val (.int p2), .val (.int p3), .val (.int p4), .val (.int p5), .val (.int (3 : Int32)), .val (.int (0 : Int32)), .val (.ref b4), .val (.ref b18), .unset, .unset, .unset] [(.int (nar .byte (p3.toInt8.toInt32)))]) := fun t kt => K28 t (by
    show Steps p.tables e below (T24.setTop (mkF m 66 #[.val (.int p1), .val (.int p2), .val (.int p3), .val (.int p4), .val (.int p5), .val (.int (3 : Int32)), .val (.int (0 : Int32)), .val (.ref b4), .unset, .unset, .unset, .unset] [(.ref b18)])) _
    refine XS.astore X24.here hx rfl (hb hby at_66) rfl rfl (l' := #[.val (.int p1), .val (.int p2), .val (.int p3), .val (.int p4), .val (.int p5), .val (.int (3 : Int32)), .val (.int (0 : Int32)), .val (.ref b4), .val (.ref b18), .unset, .unset, .unset]) rfl ?_
    show Steps p.tables e below (T24.setTop (mkF m 68 #[.val (.int p1), .val (.int p2), .val (.int p3), .val (.int p4), .val (.int p5), .val (.int (3 : Int32)), .val (.int (0 : Int32)), .val (.ref b4), .val (.ref b18), .unset, .unset, .unset] [])) _
    refine XS.iload X24.here hx rfl (hb hby at_68) rfl ?_
    show Steps p.tables e below (T24.setTop (mkF m 70 #[.val (.int p1), .val (.int p2), .val (.int p3), .val (.int p4), .val (.int p5), .val (.int (3 : Int32)), .val (.int (0 : Int32)), .val (.ref b4), .val (.ref b18), .unset, .unset, .unset] [(.int (0 : Int32))])) _
    refine XS.iconst X24.here hx rfl (hb hby at_70) ?_
    show Steps p.tables e below (T24.setTop (mkF m 71 #[.val (.int p1), .val (.int p2), .val (.int p3), .val (.int p4), .val (.int p5), .val (.int (3 : Int32)), .val (.int (0 : Int32)), .val (.ref b4), .val (.ref b18), .unset, .unset, .unset] [(.int (1 : Int32)), (.int (0 : Int32))])) _
    refine XS.icmpYes X24.here hx rfl (pc0 := 71) (pc' := 80) rfl (hb hby at_71) rfl (tlt (by decide)).1 (by decide) (by decide) ?_
    show Steps p.tables e below (T24.setTop (mkF m 80 #[.val (.int p1), .val (.int p2), .val (.int p3), .val (.int p4), .val (.int p5), .val (.int (3 : Int32)), .val (.int (0 : Int32)), .val (.ref b4), .val (.ref b18), .unset, .unset, .unset] [])) _
    refine XS.iload X24.here hx rfl (hb hby at_80) rfl ?_
    show Steps p.tables e below (T24.setTop (mkF m 82 #[.val (.int p1), .val (.int p2), .val (.int p3), .val (.int p4), .val (.int p5), .val (.int (3 : Int32)), .val (.int (0 : Int32)), .val (.ref b4), .val (.ref b18), .unset, .unset, .unset] [(.int (0 : Int32))])) _
    refine XS.iconst X24.here hx rfl (hb hby at_82) ?_
    show Steps p.tables e below (T24.setTop (mkF m 83 #[.val (.int p1), .val (.int p2), .val (.int p3), .val (.int p4), .val (.int p5), .val (.int (3 : Int32)), .val (.int (0 : Int32)), .val (.ref b4), .val (.ref b18), .unset, .unset, .unset] [(.int (2 : Int32)), (.int (0 : Int32))])) _
    refine XS.icmpYes X24.here hx rfl (pc0 := 83) (pc' := 92) rfl (hb hby at_83) rfl (tlt (by decide)).1 (by decide) (by decide) ?_
    show Steps p.tables e below (T24.setTop (mkF m 92 #[.val (.int p1), .val (.int p2), .val (.int p3), .val (.int p4), .val (.int p5), .val (.int (3 : Int32)), .val (.int (0 : Int32)), .val (.ref b4), .val (.ref b18), .unset, .unset, .unset] [])) _
    refine XS.iload X24.here hx rfl (hb hby at_92) rfl ?_
    show Steps p.tables e below (T24.setTop (mkF m 94 #[.val (.int p1), .val (.int p2), .val (.int p3), .val (.int p4), .val (.int p5), .val (.int (3 : Int32)), .val (.int (0 : Int32)), .val (.ref b4), .val (.ref b18), .unset, .unset, .unset] [(.int (0 : Int32))])) _
    refine XS.iconst X24.here hx rfl (hb hby at_94) ?_
    show Steps p.tables e below (T24.setTop (mkF m 95 #[.val (.int p1), .val (.int p2), .val (.int p3), .val (.int p4), .val (.int p5), .val (.int (3 : Int32)), .val (.int (0 : Int32)), .val (.ref b4), .val (.ref b18), .unset, .unset, .unset] [(.int (3 : Int32)), (.int (0 : Int32))])) _
    refine XS.icmpYes X24.here hx rfl (pc0 := 95) (pc' := 104) rfl (hb hby at_95) rfl (tlt (by decide)).1 (by decide) (by decide) ?_
    show Steps p.tables e below (T24.setTop (mkF m 104 #[.val (.int p1), .val (.int p2), .val (.int p3), .val (.int p4), .val (.int p5), .val (.int (3 : Int32)), .val (.int (0 : Int32)), .val (.ref b4), .val (.ref b18), .unset, .unset, .unset] [])) _
    refine XS.iload X24.here hx rfl (hb hby at_104) rfl ?_
    show Steps p.tables e below (T24.setTop (mkF m 106 #[.val (.int p1), .val (.int p2), .val (.int p3), .val (.int p4), .val (.int p5), .val (.int (3 : Int32)), .val (.int (0 : Int32)), .val (.ref b4), .val (.ref b18), .unset, .unset, .unset] [(.int (0 : Int32))])) _
    refine XS.iload X24.here hx rfl (hb hby at_106) rfl ?_
    show Steps p.tables e below (T24.setTop (mkF m 108 #[.val (.int p1), .val (.int p2), .val (.int p3), .val (.int p4), .val (.int p5), .val (.int (3 : Int32)), .val (.int (0 : Int32)), .val (.ref b4), .val (.ref b18), .unset, .unset, .unset] [(.int (3 : Int32)), (.int (0 : Int32))])) _
    refine XS.icmpNo X24.here hx rfl (hb hby at_108) rfl (tlt (by decide)).2.1 ?_
    show Steps p.tables e below (T24.setTop (mkF m 111 #[.val (.int p1), .val (.int p2), .val (.int p3), .val (.int p4), .val (.int p5), .val (.int (3 : Int32)), .val (.int (0 : Int32)), .val (.ref b4), .val (.ref b18), .unset, .unset, .unset] [])) _
    refine XS.aload X24.here hx rfl (hb hby at_111) rfl rfl ?_
    show Steps p.tables e below (T24.setTop (mkF m 113 #[.val (.int p1), .val (.int p2), .val (.int p3), .val (.int p4), .val (.int p5), .val (.int (3 : Int32)), .val (.int (0 : Int32)), .val (.ref b4), .val (.ref b18), .unset, .unset, .unset] [(.ref b4)])) _
    refine XS.iload X24.here hx rfl (hb hby at_113) rfl ?_
    show Steps p.tables e below (T24.setTop (mkF m 115 #[.val (.int p1), .val (.int p2), .val (.int p3), .val (.int p4), .val (.int p5), .val (.int (3 : Int32)), .val (.int (0 : Int32)), .val (.ref b4), .val (.ref b18), .unset, .unset, .unset] [(.int (0 : Int32)), (.ref b4)])) _
    refine X24.baloadBytes hx (j := (0 : Int32)) (v := (.int (nar .byte (p3.toInt8.toInt32)))) (by rw [e24]; exact Arq30.1) (State.isArrayOf_alike hZ.alike Arq30.2.1) Arq30.2.2 (inb_of cSq30 ⟨by decide, by decide⟩) (Has.at cHq30 (inb_of cSq30 ⟨by decide, by decide⟩) rfl) (g := (mkF m 115 #[.val (.int p1), .val (.int p2), .val (.int p3), .val (.int p4), .val (.int p5), .val (.int (3 : Int32)), .val (.int (0 : Int32)), .val (.ref b4), .val (.ref b18), .unset, .unset, .unset] [(.int (0 : Int32)), (.ref b4)])) rfl rfl (hb hby at_115) _ ?_
    exact kt)
  obtain ⟨v32, hv32⟩ : ∃ z : Int32, z = (if (nar .byte (p3.toInt8.toInt32)) = (0 : Int32) then (1 : Int32) else (0 : Int32)) := ⟨_, rfl⟩
  have K34 : Gx p e below s₁ f0 T24 (mkF m 124 #[.val (.int p1), .val (.int p2), .val (.int p3), .val (.int p4), .val (.int p5), .val (.int (3 : Int32)), .val (.int (0 : Int32)), .val (.ref b4), .val (.ref b18), .unset, .unset, .unset] [(.int v32)]) := fun t kt => K33 t (by
    by_cases hc116_30 : (nar .byte (p3.toInt8.toInt32)) = (0 : Int32)
    · skip
      show Steps p.tables e below (T24.setTop (mkF m 116 #[.val (.int p1), .val (.int p2), .val (.int p3), .val (.int p4), .val (.int p5), .val (.int (3 : Int32)), .val (.int (0 : Int32)), .val (.ref b4), .val (.ref b18), .unset, .unset, .unset] [(.int (nar .byte (p3.toInt8.toInt32)))])) _
      refine XS.ifNo X24.here hx rfl (hb hby at_116) rfl ((if0 _ _).trans (teq hc116_30).2) ?_
      show Steps p.tables e below (T24.setTop (mkF m 119 #[.val (.int p1), .val (.int p2), .val (.int p3), .val (.int p4), .val (.int p5), .val (.int (3 : Int32)), .val (.int (0 : Int32)), .val (.ref b4), .val (.ref b18), .unset, .unset, .unset] [])) _
      refine XS.iconst X24.here hx rfl (hb hby at_119) ?_
      show Steps p.tables e below (T24.setTop (mkF m 120 #[.val (.int p1), .val (.int p2), .val (.int p3), .val (.int p4), .val (.int p5), .val (.int (3 : Int32)), .val (.int (0 : Int32)), .val (.ref b4), .val (.ref b18), .unset, .unset, .unset] [(.int (1 : Int32))])) _
      refine XS.goto X24.here hx rfl (pc0 := 120) (pc' := 124) rfl (hb hby at_120) (by decide) (by decide) ?_
      show Steps p.tables e below (T24.setTop (mkF m 124 #[.val (.int p1), .val (.int p2), .val (.int p3), .val (.int p4), .val (.int p5), .val (.int (3 : Int32)), .val (.int (0 : Int32)), .val (.ref b4), .val (.ref b18), .unset, .unset, .unset] [(.int (1 : Int32))])) _
      exact castTop (by simp only [hv32, if_pos hc116_30]) kt
    · skip
      show Steps p.tables e below (T24.setTop (mkF m 116 #[.val (.int p1), .val (.int p2), .val (.int p3), .val (.int p4), .val (.int p5), .val (.int (3 : Int32)), .val (.int (0 : Int32)), .val (.ref b4), .val (.ref b18), .unset, .unset, .unset] [(.int (nar .byte (p3.toInt8.toInt32)))])) _
      refine XS.ifYes X24.here hx rfl (pc0 := 116) (pc' := 123) rfl (hb hby at_116) rfl ((if0 _ _).trans (feq hc116_30).2) (by decide) (by decide) ?_
      show Steps p.tables e below (T24.setTop (mkF m 123 #[.val (.int p1), .val (.int p2), .val (.int p3), .val (.int p4), .val (.int p5), .val (.int (3 : Int32)), .val (.int (0 : Int32)), .val (.ref b4), .val (.ref b18), .unset, .unset, .unset] [])) _
      refine XS.iconst X24.here hx rfl (hb hby at_123) ?_
      show Steps p.tables e below (T24.setTop (mkF m 124 #[.val (.int p1), .val (.int p2), .val (.int p3), .val (.int p4), .val (.int p5), .val (.int (3 : Int32)), .val (.int (0 : Int32)), .val (.ref b4), .val (.ref b18), .unset, .unset, .unset] [(.int (0 : Int32))])) _
      exact castTop (by simp only [hv32, if_neg hc116_30]) kt)
  have K35 : Gx p e below s₁ f0 T24 (mkF m 128 #[.val (.int p1), .val (.int p2), .val (.int p3), .val (.int p4), .val (.int p5), .val (.int (3 : Int32)), .val (.int (0 : Int32)), .val (.ref b4), .val (.ref b18), .val (.int v32), .unset, .unset] [(.ref b18)]) := fun t kt => K34 t (by
    show Steps p.tables e below (T24.setTop (mkF m 124 #[.val (.int p1), .val (.int p2), .val (.int p3), .val (.int p4), .val (.int p5), .val (.int (3 : Int32)), .val (.int (0 : Int32)), .val (.ref b4), .val (.ref b18), .unset, .unset, .unset] [(.int v32)])) _
    refine XS.istore X24.here hx rfl (hb hby at_124) rfl (l' := #[.val (.int p1), .val (.int p2), .val (.int p3), .val (.int p4), .val (.int p5), .val (.int (3 : Int32)), .val (.int (0 : Int32)), .val (.ref b4), .val (.ref b18), .val (.int v32), .unset, .unset]) rfl ?_
    show Steps p.tables e below (T24.setTop (mkF m 126 #[.val (.int p1), .val (.int p2), .val (.int p3), .val (.int p4), .val (.int p5), .val (.int (3 : Int32)), .val (.int (0 : Int32)), .val (.ref b4), .val (.ref b18), .val (.int v32), .unset, .unset] [])) _
    refine XS.aload X24.here hx rfl (hb hby at_126) rfl rfl ?_
    exact kt)
  have kp36 : Keep h0 h24 [] := (Keep.trans kp23 Kc24 (allS (Or.inr (Nat.le_trans (((((Keep.refl h0 []).ext E4).wr W8 (Or.inr (Nat.le_trans (Keep.refl h0 []).1 (Nat.le_of_eq g4.symm)))).wr W12 (Or.inr (Nat.le_trans (Keep.refl h0 []).1 (Nat.le_of_eq g4.symm)))).wr W16 (Or.inr (Nat.le_trans (Keep.refl h0 []).1 (Nat.le_of_eq g4.symm)))).1 (Nat.le_of_eq g18.symm))) all0))
  obtain ⟨cq37, kq37, q37a, q37b, q37c⟩ := isOf hZ e24 f25
  obtain ⟨_, _, ⟨T37, L37, k37, n37⟩, -, X37', ⟨Lc37, hQ37, l37, y37, z37⟩, st37⟩ := X24.virtualBack hx (y := (⟨"com/example/looseleaf/looseleaf/pgwire/MessageBody", "atNul", "()Z"⟩ : MethodName)) (z := (⟨"com/example/looseleaf/looseleaf/pgwire/MessageBody", "atNul", "()Z"⟩ : MethodName)) hown (mvT hZ (hw _ (List.mem_of_getElem? (i := 12) rfl))) (mvT hZ (hw _ (List.mem_of_getElem? (i := 13) rfl))) (notFace_of_selects (args := #[]) (mvT hZ (hw _ (List.mem_of_getElem? (i := 15) rfl)))) (mvT hZ (hw _ (List.mem_of_getElem? (i := 15) rfl))) (mvT hZ (hw _ (List.mem_of_getElem? (i := 14) rfl))) (by decide) (backOf (W := 0) (rmAt1 l Z a0 hw [] b18 b4 (0 : Int32) k4 (3 : Int32) [(.int (nar .byte (p3.toInt8.toInt32))), (.int (nar .byte (p4.toInt8.toInt32))), (.int (nar .byte (p5.toInt8.toInt32)))] (nar .byte (p3.toInt8.toInt32)) h24 n0 (Nat.le_trans Z0 kp36.1) f26 f27 f29 (by decide) ⟨by decide, by decide⟩ rfl) hZ (hw _ (List.mem_of_getElem? (i := 16) rfl)) (hw _ (List.mem_of_getElem? (i := 3) rfl)) (by decide) (by decide)) q37a q37c (g := (mkF m 128 #[.val (.int p1), .val (.int p2), .val (.int p3), .val (.int p4), .val (.int p5), .val (.int (3 : Int32)), .val (.int (0 : Int32)), .val (.ref b4), .val (.ref b18), .val (.int v32), .unset, .unset] [(.ref b18)])) rfl (by rw [hml]; rfl) (Steps.refl _) (argsL := []) (rest := []) (lenOf pd___Z rfl) rfl (by show 2 * 0 + _ ≤ _; exact Nat.le_of_eq rfl) (hb hby at_128) (fun _ _ => ⟨rfl, e24, (by decide : 2 + 0 ≤ _), (by decide : 5 + 0 ≤ _)⟩)
  dsimp only [Pt.U, Pt.locs, Pt.cells, Pt.slots] at X37' l37 y37 z37 st37 hQ37
  subst l37 y37 z37
  obtain ⟨rfl, N37q, e37⟩ := hQ37
  obtain ⟨lc37, X37, N37⟩ : ∃ lc, Stand p l e room_1 s m #[(.int p1), (.int p2), (.int p3), (.int p4), (.int p5)] below meth c T37 lc 2 5 ∧ Fr n0 lc := ⟨_, X37', Fr.app N24 N37q⟩
  have K38 : Gx p e below s₁ f0 T37 (mkF m 131 #[.val (.int p1), .val (.int p2), .val (.int p3), .val (.int p4), .val (.int p5), .val (.int (3 : Int32)), .val (.int (0 : Int32)), .val (.ref b4), .val (.ref b18), .val (.int v32), .unset, .unset] [(.int (if (nar .byte (p3.toInt8.toInt32)) = (0 : Int32) then (1 : Int32) else (0 : Int32)))]) := fun t kt => K35 t (st37.trans kt)
  have K39 : Gx p e below s₁ f0 T37 (mkF m 135 #[.val (.int p1), .val (.int p2), .val (.int p3), .val (.int p4), .val (.int p5), .val (.int (3 : Int32)), .val (.int (0 : Int32)), .val (.ref b4), .val (.ref b18), .val (.int v32), .val (.int (if (nar .byte (p3.toInt8.toInt32)) = (0 : Int32) then (1 : Int32) else (0 : Int32))), .unset] [(.ref b18)]) := fun t kt => K38 t (by
    show Steps p.tables e below (T37.setTop (mkF m 131 #[.val (.int p1), .val (.int p2), .val (.int p3), .val (.int p4), .val (.int p5), .val (.int (3 : Int32)), .val (.int (0 : Int32)), .val (.ref b4), .val (.ref b18), .val (.int v32), .unset, .unset] [(.int (if (nar .byte (p3.toInt8.toInt32)) = (0 : Int32) then (1 : Int32) else (0 : Int32)))])) _
    refine XS.istore X37.here hx rfl (hb hby at_131) rfl (l' := #[.val (.int p1), .val (.int p2), .val (.int p3), .val (.int p4), .val (.int p5), .val (.int (3 : Int32)), .val (.int (0 : Int32)), .val (.ref b4), .val (.ref b18), .val (.int v32), .val (.int (if (nar .byte (p3.toInt8.toInt32)) = (0 : Int32) then (1 : Int32) else (0 : Int32))), .unset]) rfl ?_
    show Steps p.tables e below (T37.setTop (mkF m 133 #[.val (.int p1), .val (.int p2), .val (.int p3), .val (.int p4), .val (.int p5), .val (.int (3 : Int32)), .val (.int (0 : Int32)), .val (.ref b4), .val (.ref b18), .val (.int v32), .val (.int (if (nar .byte (p3.toInt8.toInt32)) = (0 : Int32) then (1 : Int32) else (0 : Int32))), .unset] [])) _
    refine XS.aload X37.here hx rfl (hb hby at_133) rfl rfl ?_
    exact kt)
  obtain ⟨cq40, kq40, q40a, q40b, q40c⟩ := isOf hZ e37 f25
  obtain ⟨_, _, ⟨T40, L40, k40, n40⟩, -, X40', ⟨Lc40, hQ40, l40, y40, z40⟩, st40⟩ := X37.virtualBack hx (y := (⟨"com/example/looseleaf/looseleaf/pgwire/MessageBody", "atNul", "()Z"⟩ : MethodName)) (z := (⟨"com/example/looseleaf/looseleaf/pgwire/MessageBody", "atNul", "()Z"⟩ : MethodName)) hown (mvT hZ (hw _ (List.mem_of_getElem? (i := 12) rfl))) (mvT hZ (hw _ (List.mem_of_getElem? (i := 13) rfl))) (notFace_of_selects (args := #[]) (mvT hZ (hw _ (List.mem_of_getElem? (i := 15) rfl)))) (mvT hZ (hw _ (List.mem_of_getElem? (i := 15) rfl))) (mvT hZ (hw _ (List.mem_of_getElem? (i := 14) rfl))) (by decide) (backOf (W := 0) (rmAt1 l Z a0 hw [] b18 b4 (0 : Int32) k4 (3 : Int32) [(.int (nar .byte (p3.toInt8.toInt32))), (.int (nar .byte (p4.toInt8.toInt32))), (.int (nar .byte (p5.toInt8.toInt32)))] (nar .byte (p3.toInt8.toInt32)) h24 n0 (Nat.le_trans Z0 kp36.1) f26 f27 f29 (by decide) ⟨by decide, by decide⟩ rfl) hZ (hw _ (List.mem_of_getElem? (i := 16) rfl)) (hw _ (List.mem_of_getElem? (i := 3) rfl)) (by decide) (by decide)) q40a q40c (g := (mkF m 135 #[.val (.int p1), .val (.int p2), .val (.int p3), .val (.int p4), .val (.int p5), .val (.int (3 : Int32)), .val (.int (0 : Int32)), .val (.ref b4), .val (.ref b18), .val (.int v32), .val (.int (if (nar .byte (p3.toInt8.toInt32)) = (0 : Int32) then (1 : Int32) else (0 : Int32))), .unset] [(.ref b18)])) rfl (by rw [hml]; rfl) (Steps.refl _) (argsL := []) (rest := []) (lenOf pd___Z rfl) rfl (by show 2 * 0 + _ ≤ _; exact Nat.le_of_eq rfl) (hb hby at_135) (fun _ _ => ⟨rfl, e37, (by decide : 2 + 0 ≤ _), (by decide : 5 + 0 ≤ _)⟩)
  dsimp only [Pt.U, Pt.locs, Pt.cells, Pt.slots] at X40' l40 y40 z40 st40 hQ40
  subst l40 y40 z40
  obtain ⟨rfl, N40q, e40⟩ := hQ40
  obtain ⟨lc40, X40, N40⟩ : ∃ lc, Stand p l e room_1 s m #[(.int p1), (.int p2), (.int p3), (.int p4), (.int p5)] below meth c T40 lc 2 5 ∧ Fr n0 lc := ⟨_, X40', Fr.app N37 N40q⟩
  have K41 : Gx p e below s₁ f0 T40 (mkF m 138 #[.val (.int p1), .val (.int p2), .val (.int p3), .val (.int p4), .val (.int p5), .val (.int (3 : Int32)), .val (.int (0 : Int32)), .val (.ref b4), .val (.ref b18), .val (.int v32), .val (.int (if (nar .byte (p3.toInt8.toInt32)) = (0 : Int32) then (1 : Int32) else (0 : Int32))), .unset] [(.int (if (nar .byte (p3.toInt8.toInt32)) = (0 : Int32) then (1 : Int32) else (0 : Int32)))]) := fun t kt => K39 t (st40.trans kt)
  have K42 : Gx p e below s₁ f0 T40 (mkF m 165 #[.val (.int p1), .val (.int p2), .val (.int p3), .val (.int p4), .val (.int p5), .val (.int (3 : Int32)), .val (.int (0 : Int32)), .val (.ref b4), .val (.ref b18), .val (.int v32), .val (.int (if (nar .byte (p3.toInt8.toInt32)) = (0 : Int32) then (1 : Int32) else (0 : Int32))), .val (.int (if (nar .byte (p3.toInt8.toInt32)) = (0 : Int32) then (1 : Int32) else (0 : Int32)))] [(.ref b18)]) := fun t kt => K41 t (by
    show Steps p.tables e below (T40.setTop (mkF m 138 #[.val (.int p1), .val (.int p2), .val (.int p3), .val (.int p4), .val (.int p5), .val (.int (3 : Int32)), .val (.int (0 : Int32)), .val (.ref b4), .val (.ref b18), .val (.int v32), .val (.int (if (nar .byte (p3.toInt8.toInt32)) = (0 : Int32) then (1 : Int32) else (0 : Int32))), .unset] [(.int (if (nar .byte (p3.toInt8.toInt32)) = (0 : Int32) then (1 : Int32) else (0 : Int32)))])) _
    refine XS.istore X40.here hx rfl (hb hby at_138) rfl (l' := #[.val (.int p1), .val (.int p2), .val (.int p3), .val (.int p4), .val (.int p5), .val (.int (3 : Int32)), .val (.int (0 : Int32)), .val (.ref b4), .val (.ref b18), .val (.int v32), .val (.int (if (nar .byte (p3.toInt8.toInt32)) = (0 : Int32) then (1 : Int32) else (0 : Int32))), .val (.int (if (nar .byte (p3.toInt8.toInt32)) = (0 : Int32) then (1 : Int32) else (0 : Int32)))]) rfl ?_
    show Steps p.tables e below (T40.setTop (mkF m 140 #[.val (.int p1), .val (.int p2), .val (.int p3), .val (.int p4), .val (.int p5), .val (.int (3 : Int32)), .val (.int (0 : Int32)), .val (.ref b4), .val (.ref b18), .val (.int v32), .val (.int (if (nar .byte (p3.toInt8.toInt32)) = (0 : Int32) then (1 : Int32) else (0 : Int32))), .val (.int (if (nar .byte (p3.toInt8.toInt32)) = (0 : Int32) then (1 : Int32) else (0 : Int32)))] [])) _
    refine XS.iload X40.here hx rfl (hb hby at_140) rfl ?_
    show Steps p.tables e below (T40.setTop (mkF m 142 #[.val (.int p1), .val (.int p2), .val (.int p3), .val (.int p4), .val (.int p5), .val (.int (3 : Int32)), .val (.int (0 : Int32)), .val (.ref b4), .val (.ref b18), .val (.int v32), .val (.int (if (nar .byte (p3.toInt8.toInt32)) = (0 : Int32) then (1 : Int32) else (0 : Int32))), .val (.int (if (nar .byte (p3.toInt8.toInt32)) = (0 : Int32) then (1 : Int32) else (0 : Int32)))] [(.int (if (nar .byte (p3.toInt8.toInt32)) = (0 : Int32) then (1 : Int32) else (0 : Int32)))])) _
    refine XS.iload X40.here hx rfl (hb hby at_142) rfl ?_
    show Steps p.tables e below (T40.setTop (mkF m 144 #[.val (.int p1), .val (.int p2), .val (.int p3), .val (.int p4), .val (.int p5), .val (.int (3 : Int32)), .val (.int (0 : Int32)), .val (.ref b4), .val (.ref b18), .val (.int v32), .val (.int (if (nar .byte (p3.toInt8.toInt32)) = (0 : Int32) then (1 : Int32) else (0 : Int32))), .val (.int (if (nar .byte (p3.toInt8.toInt32)) = (0 : Int32) then (1 : Int32) else (0 : Int32)))] [(.int v32), (.int (if (nar .byte (p3.toInt8.toInt32)) = (0 : Int32) then (1 : Int32) else (0 : Int32)))])) _
    refine XS.icmpNo X40.here hx rfl (hb hby at_144) rfl (teq (by rw [hv32])).2 ?_
    show Steps p.tables e below (T40.setTop (mkF m 147 #[.val (.int p1), .val (.int p2), .val (.int p3), .val (.int p4), .val (.int p5), .val (.int (3 : Int32)), .val (.int (0 : Int32)), .val (.ref b4), .val (.ref b18), .val (.int v32), .val (.int (if (nar .byte (p3.toInt8.toInt32)) = (0 : Int32) then (1 : Int32) else (0 : Int32))), .val (.int (if (nar .byte (p3.toInt8.toInt32)) = (0 : Int32) then (1 : Int32) else (0 : Int32)))] [])) _
    refine XS.iload X40.here hx rfl (hb hby at_147) rfl ?_
    show Steps p.tables e below (T40.setTop (mkF m 149 #[.val (.int p1), .val (.int p2), .val (.int p3), .val (.int p4), .val (.int p5), .val (.int (3 : Int32)), .val (.int (0 : Int32)), .val (.ref b4), .val (.ref b18), .val (.int v32), .val (.int (if (nar .byte (p3.toInt8.toInt32)) = (0 : Int32) then (1 : Int32) else (0 : Int32))), .val (.int (if (nar .byte (p3.toInt8.toInt32)) = (0 : Int32) then (1 : Int32) else (0 : Int32)))] [(.int (if (nar .byte (p3.toInt8.toInt32)) = (0 : Int32) then (1 : Int32) else (0 : Int32)))])) _
    refine XS.iload X40.here hx rfl (hb hby at_149) rfl ?_
    show Steps p.tables e below (T40.setTop (mkF m 151 #[.val (.int p1), .val (.int p2), .val (.int p3), .val (.int p4), .val (.int p5), .val (.int (3 : Int32)), .val (.int (0 : Int32)), .val (.ref b4), .val (.ref b18), .val (.int v32), .val (.int (if (nar .byte (p3.toInt8.toInt32)) = (0 : Int32) then (1 : Int32) else (0 : Int32))), .val (.int (if (nar .byte (p3.toInt8.toInt32)) = (0 : Int32) then (1 : Int32) else (0 : Int32)))] [(.int v32), (.int (if (nar .byte (p3.toInt8.toInt32)) = (0 : Int32) then (1 : Int32) else (0 : Int32)))])) _
    refine XS.icmpYes X40.here hx rfl (pc0 := 151) (pc' := 156) rfl (hb hby at_151) rfl (teq (by rw [hv32])).1 (by decide) (by decide) ?_
    show Steps p.tables e below (T40.setTop (mkF m 156 #[.val (.int p1), .val (.int p2), .val (.int p3), .val (.int p4), .val (.int p5), .val (.int (3 : Int32)), .val (.int (0 : Int32)), .val (.ref b4), .val (.ref b18), .val (.int v32), .val (.int (if (nar .byte (p3.toInt8.toInt32)) = (0 : Int32) then (1 : Int32) else (0 : Int32))), .val (.int (if (nar .byte (p3.toInt8.toInt32)) = (0 : Int32) then (1 : Int32) else (0 : Int32)))] [])) _
    refine XS.iload X40.here hx rfl (hb hby at_156) rfl ?_
    show Steps p.tables e below (T40.setTop (mkF m 158 #[.val (.int p1), .val (.int p2), .val (.int p3), .val (.int p4), .val (.int p5), .val (.int (3 : Int32)), .val (.int (0 : Int32)), .val (.ref b4), .val (.ref b18), .val (.int v32), .val (.int (if (nar .byte (p3.toInt8.toInt32)) = (0 : Int32) then (1 : Int32) else (0 : Int32))), .val (.int (if (nar .byte (p3.toInt8.toInt32)) = (0 : Int32) then (1 : Int32) else (0 : Int32)))] [(.int (0 : Int32))])) _
    refine XS.iload X40.here hx rfl (hb hby at_158) rfl ?_
    show Steps p.tables e below (T40.setTop (mkF m 160 #[.val (.int p1), .val (.int p2), .val (.int p3), .val (.int p4), .val (.int p5), .val (.int (3 : Int32)), .val (.int (0 : Int32)), .val (.ref b4), .val (.ref b18), .val (.int v32), .val (.int (if (nar .byte (p3.toInt8.toInt32)) = (0 : Int32) then (1 : Int32) else (0 : Int32))), .val (.int (if (nar .byte (p3.toInt8.toInt32)) = (0 : Int32) then (1 : Int32) else (0 : Int32)))] [(.int (3 : Int32)), (.int (0 : Int32))])) _
    refine XS.icmpNo X40.here hx rfl (hb hby at_160) rfl (tlt (by decide)).2.1 ?_
    show Steps p.tables e below (T40.setTop (mkF m 163 #[.val (.int p1), .val (.int p2), .val (.int p3), .val (.int p4), .val (.int p5), .val (.int (3 : Int32)), .val (.int (0 : Int32)), .val (.ref b4), .val (.ref b18), .val (.int v32), .val (.int (if (nar .byte (p3.toInt8.toInt32)) = (0 : Int32) then (1 : Int32) else (0 : Int32))), .val (.int (if (nar .byte (p3.toInt8.toInt32)) = (0 : Int32) then (1 : Int32) else (0 : Int32)))] [])) _
    refine XS.aload X40.here hx rfl (hb hby at_163) rfl rfl ?_
    exact kt)
  obtain ⟨cq43, kq43, q43a, q43b, q43c⟩ := isOf hZ e40 f25
  obtain ⟨_, _, ⟨T43, L43, k43, n43⟩, -, X43', ⟨Lc43, hQ43, l43, y43, z43⟩, st43⟩ := X40.virtualBack hx (y := (⟨"com/example/looseleaf/looseleaf/pgwire/MessageBody", "byte1", "()I"⟩ : MethodName)) (z := (⟨"com/example/looseleaf/looseleaf/pgwire/MessageBody", "byte1", "()I"⟩ : MethodName)) hown (mvT hZ (hw _ (List.mem_of_getElem? (i := 19) rfl))) (mvT hZ (hw _ (List.mem_of_getElem? (i := 20) rfl))) (notFace_of_selects (args := #[]) (mvT hZ (hw _ (List.mem_of_getElem? (i := 22) rfl)))) (mvT hZ (hw _ (List.mem_of_getElem? (i := 22) rfl))) (mvT hZ (hw _ (List.mem_of_getElem? (i := 21) rfl))) (by decide) (backOf (W := 0) (rmBy1 l Z a0 hw [] b18 b4 (0 : Int32) k4 (3 : Int32) [(.int (nar .byte (p3.toInt8.toInt32))), (.int (nar .byte (p4.toInt8.toInt32))), (.int (nar .byte (p5.toInt8.toInt32)))] (nar .byte (p3.toInt8.toInt32)) (1 : Int32) h24 n0 (Nat.le_trans Z0 kp36.1) f25 (Nat.le_trans Z0 (Nat.le_trans (((((Keep.refl h0 []).ext E4).wr W8 (Or.inr (Nat.le_trans (Keep.refl h0 []).1 (Nat.le_of_eq g4.symm)))).wr W12 (Or.inr (Nat.le_trans (Keep.refl h0 []).1 (Nat.le_of_eq g4.symm)))).wr W16 (Or.inr (Nat.le_trans (Keep.refl h0 []).1 (Nat.le_of_eq g4.symm)))).1 (Nat.le_of_eq g18.symm))) f26 f27 f29 (Ne.symm (Nat.ne_of_lt (Nat.lt_of_lt_of_le V16.lt (Nat.le_of_eq g18.symm)))) (by decide) ⟨by decide, by decide⟩ rfl (by decide)) hZ (hw _ (List.mem_of_getElem? (i := 23) rfl)) (hw _ (List.mem_of_getElem? (i := 3) rfl)) (by decide) (by decide)) q43a q43c (g := (mkF m 165 #[.val (.int p1), .val (.int p2), .val (.int p3), .val (.int p4), .val (.int p5), .val (.int (3 : Int32)), .val (.int (0 : Int32)), .val (.ref b4), .val (.ref b18), .val (.int v32), .val (.int (if (nar .byte (p3.toInt8.toInt32)) = (0 : Int32) then (1 : Int32) else (0 : Int32))), .val (.int (if (nar .byte (p3.toInt8.toInt32)) = (0 : Int32) then (1 : Int32) else (0 : Int32)))] [(.ref b18)])) rfl (by rw [hml]; rfl) (Steps.refl _) (argsL := []) (rest := []) (lenOf pd___I rfl) rfl (by show 2 * 0 + _ ≤ _; exact Nat.le_of_eq rfl) (hb hby at_165) (fun _ _ => ⟨rfl, e40, (by decide : 2 + 0 ≤ _), (by decide : 5 + 0 ≤ _)⟩)
  dsimp only [Pt.U, Pt.locs, Pt.cells, Pt.slots] at X43' l43 y43 z43 st43 hQ43
  subst l43 y43 z43
  obtain ⟨h43, e43⟩ : ∃ z, T43.heap = z := ⟨_, rfl⟩
  rw [e43] at hQ43
  obtain ⟨rfl, N43q, Kc43, f44, f45, f46⟩ := hQ43
  obtain ⟨lc43, X43, N43⟩ : ∃ lc, Stand p l e room_1 s m #[(.int p1), (.int p2), (.int p3), (.int p4), (.int p5)] below meth c T43 lc 2 5 ∧ Fr n0 lc := ⟨_, X43', Fr.app N40 N43q⟩
  have K47 : Gx p e below s₁ f0 T43 (mkF m 168 #[.val (.int p1), .val (.int p2), .val (.int p3), .val (.int p4), .val (.int p5), .val (.int (3 : Int32)), .val (.int (0 : Int32)), .val (.ref b4), .val (.ref b18), .val (.int v32), .val (.int (if (nar .byte (p3.toInt8.toInt32)) = (0 : Int32) then (1 : Int32) else (0 : Int32))), .val (.int (if (nar .byte (p3.toInt8.toInt32)) = (0 : Int32) then (1 : Int32) else (0 : Int32)))] [(.int ((nar .byte (p3.toInt8.toInt32)) &&& (255 : Int32)))]) := fun t kt => K42 t (st43.trans kt)
  have f48 : Arv Z h43 b4 k4 .byte (3 : Int32) [(.int (nar .byte (p3.toInt8.toInt32))), (.int (nar .byte (p4.toInt8.toInt32))), (.int (nar .byte (p5.toInt8.toInt32)))] (.int (0 : Int32)) := (f29.keep Kc43 (ninS (Nat.ne_of_lt (Nat.lt_of_lt_of_le V16.lt (Nat.le_of_eq g18.symm))) nin0))
  obtain ⟨clq49, Arq49, ckq49, cSq49, cNq49, cHq49, cGq49⟩ := id f48
  have K50 : Gx p e below s₁ f0 T43 (mkF m 185 #[.val (.int p1), .val (.int p2), .val (.int p3), .val (.int p4), .val (.int p5), .val (.int (3 : Int32)), .val (.int (0 : Int32)), .val (.ref b4), .val (.ref b18), .val (.int v32), .val (.int (if (nar .byte (p3.toInt8.toInt32)) = (0 : Int32) then (1 : Int32) else (0 : Int32))), .val (.int (if (nar .byte (p3.toInt8.toInt32)) = (0 : Int32) then (1 : Int32) else (0 : Int32)))] [(.int (1 : Int32))]) := fun t kt => K47 t (by
    show Steps p.tables e below (T43.setTop (mkF m 168 #[.val (.int p1), .val (.int p2), .val (.int p3), .val (.int p4), .val (.int p5), .val (.int (3 : Int32)), .val (.int (0 : Int32)), .val (.ref b4), .val (.ref b18), .val (.int v32), .val (.int (if (nar .byte (p3.toInt8.toInt32)) = (0 : Int32) then (1 : Int32) else (0 : Int32))), .val (.int (if (nar .byte (p3.toInt8.toInt32)) = (0 : Int32) then (1 : Int32) else (0 : Int32)))] [(.int ((nar .byte (p3.toInt8.toInt32)) &&& (255 : Int32)))])) _
    refine XS.aload X43.here hx rfl (hb hby at_168) rfl rfl ?_
    show Steps p.tables e below (T43.setTop (mkF m 170 #[.val (.int p1), .val (.int p2), .val (.int p3), .val (.int p4), .val (.int p5), .val (.int (3 : Int32)), .val (.int (0 : Int32)), .val (.ref b4), .val (.ref b18), .val (.int v32), .val (.int (if (nar .byte (p3.toInt8.toInt32)) = (0 : Int32) then (1 : Int32) else (0 : Int32))), .val (.int (if (nar .byte (p3.toInt8.toInt32)) = (0 : Int32) then (1 : Int32) else (0 : Int32)))] [(.ref b4), (.int ((nar .byte (p3.toInt8.toInt32)) &&& (255 : Int32)))])) _
    refine XS.iload X43.here hx rfl (hb hby at_170) rfl ?_
    show Steps p.tables e below (T43.setTop (mkF m 172 #[.val (.int p1), .val (.int p2), .val (.int p3), .val (.int p4), .val (.int p5), .val (.int (3 : Int32)), .val (.int (0 : Int32)), .val (.ref b4), .val (.ref b18), .val (.int v32), .val (.int (if (nar .byte (p3.toInt8.toInt32)) = (0 : Int32) then (1 : Int32) else (0 : Int32))), .val (.int (if (nar .byte (p3.toInt8.toInt32)) = (0 : Int32) then (1 : Int32) else (0 : Int32)))] [(.int (0 : Int32)), (.ref b4), (.int ((nar .byte (p3.toInt8.toInt32)) &&& (255 : Int32)))])) _
    refine X43.baloadBytes hx (j := (0 : Int32)) (v := (.int (nar .byte (p3.toInt8.toInt32)))) (by rw [e43]; exact Arq49.1) (State.isArrayOf_alike hZ.alike Arq49.2.1) Arq49.2.2 (inb_of cSq49 ⟨by decide, by decide⟩) (Has.at cHq49 (inb_of cSq49 ⟨by decide, by decide⟩) rfl) (g := (mkF m 172 #[.val (.int p1), .val (.int p2), .val (.int p3), .val (.int p4), .val (.int p5), .val (.int (3 : Int32)), .val (.int (0 : Int32)), .val (.ref b4), .val (.ref b18), .val (.int v32), .val (.int (if (nar .byte (p3.toInt8.toInt32)) = (0 : Int32) then (1 : Int32) else (0 : Int32))), .val (.int (if (nar .byte (p3.toInt8.toInt32)) = (0 : Int32) then (1 : Int32) else (0 : Int32)))] [(.int (0 : Int32)), (.ref b4), (.int ((nar .byte (p3.toInt8.toInt32)) &&& (255 : Int32)))])) rfl rfl (hb hby at_172) _ ?_
    show Steps p.tables e below (T43.setTop (mkF m 173 #[.val (.int p1), .val (.int p2), .val (.int p3), .val (.int p4), .val (.int p5), .val (.int (3 : Int32)), .val (.int (0 : Int32)), .val (.ref b4), .val (.ref b18), .val (.int v32), .val (.int (if (nar .byte (p3.toInt8.toInt32)) = (0 : Int32) then (1 : Int32) else (0 : Int32))), .val (.int (if (nar .byte (p3.toInt8.toInt32)) = (0 : Int32) then (1 : Int32) else (0 : Int32)))] [(.int (nar .byte (p3.toInt8.toInt32))), (.int ((nar .byte (p3.toInt8.toInt32)) &&& (255 : Int32)))])) _
    refine XS.sipush X43.here hx rfl (hb hby at_173) ?_
    show Steps p.tables e below (T43.setTop (mkF m 176 #[.val (.int p1), .val (.int p2), .val (.int p3), .val (.int p4), .val (.int p5), .val (.int (3 : Int32)), .val (.int (0 : Int32)), .val (.ref b4), .val (.ref b18), .val (.int v32), .val (.int (if (nar .byte (p3.toInt8.toInt32)) = (0 : Int32) then (1 : Int32) else (0 : Int32))), .val (.int (if (nar .byte (p3.toInt8.toInt32)) = (0 : Int32) then (1 : Int32) else (0 : Int32)))] [(.int (255 : Int32)), (.int (nar .byte (p3.toInt8.toInt32))), (.int ((nar .byte (p3.toInt8.toInt32)) &&& (255 : Int32)))])) _
    refine XS.iand X43.here hx rfl (hb hby at_176) rfl ?_
    show Steps p.tables e below (T43.setTop (mkF m 177 #[.val (.int p1), .val (.int p2), .val (.int p3), .val (.int p4), .val (.int p5), .val (.int (3 : Int32)), .val (.int (0 : Int32)), .val (.ref b4), .val (.ref b18), .val (.int v32), .val (.int (if (nar .byte (p3.toInt8.toInt32)) = (0 : Int32) then (1 : Int32) else (0 : Int32))), .val (.int (if (nar .byte (p3.toInt8.toInt32)) = (0 : Int32) then (1 : Int32) else (0 : Int32)))] [(.int ((nar .byte (p3.toInt8.toInt32)) &&& (255 : Int32))), (.int ((nar .byte (p3.toInt8.toInt32)) &&& (255 : Int32)))])) _
    refine XS.icmpNo X43.here hx rfl (hb hby at_177) rfl (teq rfl).2 ?_
    show Steps p.tables e below (T43.setTop (mkF m 180 #[.val (.int p1), .val (.int p2), .val (.int p3), .val (.int p4), .val (.int p5), .val (.int (3 : Int32)), .val (.int (0 : Int32)), .val (.ref b4), .val (.ref b18), .val (.int v32), .val (.int (if (nar .byte (p3.toInt8.toInt32)) = (0 : Int32) then (1 : Int32) else (0 : Int32))), .val (.int (if (nar .byte (p3.toInt8.toInt32)) = (0 : Int32) then (1 : Int32) else (0 : Int32)))] [])) _
    refine XS.iconst X43.here hx rfl (hb hby at_180) ?_
    show Steps p.tables e below (T43.setTop (mkF m 181 #[.val (.int p1), .val (.int p2), .val (.int p3), .val (.int p4), .val (.int p5), .val (.int (3 : Int32)), .val (.int (0 : Int32)), .val (.ref b4), .val (.ref b18), .val (.int v32), .val (.int (if (nar .byte (p3.toInt8.toInt32)) = (0 : Int32) then (1 : Int32) else (0 : Int32))), .val (.int (if (nar .byte (p3.toInt8.toInt32)) = (0 : Int32) then (1 : Int32) else (0 : Int32)))] [(.int (1 : Int32))])) _
    refine XS.goto X43.here hx rfl (pc0 := 181) (pc' := 185) rfl (hb hby at_181) (by decide) (by decide) ?_
    exact kt)
  obtain ⟨fs51, hr51, hrun51, hended51, hW51, hsame51⟩ := X43.leave (v := some (.int (1 : Int32))) (fun h => by rw [Bd.returns] at h; cases h)
  refine ⟨_, _, pre0 _ (K50 _ ?_), hrun51, hended51, _, _, rfl, ?_, ⟨_, rfl⟩, hW51, hsame51.mono (by decide) (by decide)⟩
  · exact retN X43 hx (t := .boolean) Bd.returns (by simp) (hb hby at_185) hr51
  · show Q0 Z p1 p2 p3 p4 p5 h0 n0 _ T43.heap _
    rw [e43]
    exact ⟨rfl, N43⟩
theorem ef_0_31 (m : MethodId) (p1 : Int32) (p2 : Int32) (p3 : Int32) (p4 : Int32) (p5 : Int32) : entryFrame m #[(.int p1), (.int p2), (.int p3), (.int p4), (.int p5)] maxLocals = mkF m 0 #[.val (.int p1), .val (.int p2), .val (.int p3), .val (.int p4), .val (.int p5), .unset, .unset, .unset, .unset, .unset, .unset, .unset] [] := by first | (simp [entryFrame, mkF, argsToLocals, Value.category, maxLocals]; done) | rfl
set_option maxRecDepth 65536 in
set_option maxHeartbeats 40000000 in
theorem rm0_31 (l : Launch) (Z : State) (a0 : Array Value) (hw : ∀ d ∈ tables_1, d.before a0 Z = true) (ws : List Jvm.Cond) (p1 : Int32) (p2 : Int32) (p3 : Int32) (p4 : Int32) (p5 : Int32) (h0 : Heap) (n0 : Nat) (Z0 : n0 ≤ h0.size) (hn_ : (p1 &&& (3 : Int32)) = (3 : Int32)) (hk_ : ((p2 &&& (3 : Int32)) % (4 : Int32)) = (1 : Int32)) :
    MetFree l x (head1 (Jvm.Cond.code x code maxLocals ret :: ws) room_1) (fun a U => a = #[(.int p1), (.int p2), (.int p3), (.int p4), (.int p5)] ∧ Z.Warmed39 U.vm ∧ U.heap = h0) (fun _ _ _ _ _ => True) (fun _ U o U' => ∃ v L, o = .returned v ∧ Q0 Z p1 p2 p3 p4 p5 h0 n0 v U'.heap L ∧ FrameEnd U o U' L room_1.cells room_1.slots) := by
  refine MetFree.of_bodySF (plainFor_of_name pn_0) hisR ?_
  intro p e s m args below meth c s₁ Bd hml0 hP hK
  obtain ⟨rfl, hZ, hh⟩ := hP
  have hx := Bd.exec
  have hby := Bd.bytes
  have hml : c.maxLocals = 12 := hml0
  have hown : s.vm.findClass "com/example/looseleaf/looseleaf/pgwire/MessageBodyAtNulPinLaw" = some m.cls := findClass_of_methodNamed Bd.named
  have hnm := (name_of_methodNamed Bd.named Bd.method).1
  have X0 : Stand p l e room_1 s m #[(.int p1), (.int p2), (.int p3), (.int p4), (.int p5)] below meth c s₁ [] 0 0 := Stand.of_body Bd
  have hs0 : h0 = s.heap := hh.symm
  have e0 : s₁.heap = h0 := by rw [← hh, Bd.state]; rfl
  have N0 := Fr.nil n0
  obtain ⟨f0, hf0⟩ : ∃ f, f = entryFrame m #[(.int p1), (.int p2), (.int p3), (.int p4), (.int p5)] maxLocals := ⟨_, rfl⟩
  have pre0 : ∀ t, Steps p.tables e below (s₁.setTop f0) t → Steps p.tables e below (s₁.setTop (entryFrame m #[(.int p1), (.int p2), (.int p3), (.int p4), (.int p5)] maxLocals)) t := fun t k => hf0 ▸ k
  have K0 : Gx p e below s₁ f0 s₁ (mkF m 0 #[.val (.int p1), .val (.int p2), .val (.int p3), .val (.int p4), .val (.int p5), .unset, .unset, .unset, .unset, .unset, .unset, .unset] []) := fun t kt => by rw [hf0]; exact castTop (ef_0_31 m p1 p2 p3 p4 p5) kt
  have K1 : Gx p e below s₁ f0 s₁ (mkF m 5 #[.val (.int p1), .val (.int p2), .val (.int p3), .val (.int p4), .val (.int p5), .val (.int (p1 &&& (3 : Int32))), .unset, .unset, .unset, .unset, .unset, .unset] []) := fun t kt => K0 t (by
    show Steps p.tables e below (s₁.setTop (mkF m 0 #[.val (.int p1), .val (.int p2), .val (.int p3), .val (.int p4), .val (.int p5), .unset, .unset, .unset, .unset, .unset, .unset, .unset] [])) _
    refine XS.iloadN X0.here hx rfl (hb hby at_0) rfl ?_
    show Steps p.tables e below (s₁.setTop (mkF m 1 #[.val (.int p1), .val (.int p2), .val (.int p3), .val (.int p4), .val (.int p5), .unset, .unset, .unset, .unset, .unset, .unset, .unset] [(.int p1)])) _
    refine XS.iconst X0.here hx rfl (hb hby at_1) ?_
    show Steps p.tables e below (s₁.setTop (mkF m 2 #[.val (.int p1), .val (.int p2), .val (.int p3), .val (.int p4), .val (.int p5), .unset, .unset, .unset, .unset, .unset, .unset, .unset] [(.int (3 : Int32)), (.int p1)])) _
    refine XS.iand X0.here hx rfl (hb hby at_2) rfl ?_
    show Steps p.tables e below (s₁.setTop (mkF m 3 #[.val (.int p1), .val (.int p2), .val (.int p3), .val (.int p4), .val (.int p5), .unset, .unset, .unset, .unset, .unset, .unset, .unset] [(.int (p1 &&& (3 : Int32)))])) _
    refine XS.istore X0.here hx rfl (hb hby at_3) rfl (l' := #[.val (.int p1), .val (.int p2), .val (.int p3), .val (.int p4), .val (.int p5), .val (.int (p1 &&& (3 : Int32))), .unset, .unset, .unset, .unset, .unset, .unset]) rfl ?_
    exact kt)
  rw [hn_] at K1
  have K2 : Gx p e below s₁ f0 s₁ (mkF m 15 #[.val (.int p1), .val (.int p2), .val (.int p3), .val (.int p4), .val (.int p5), .val (.int (3 : Int32)), .val (.int ((p2 &&& (3 : Int32)) % (4 : Int32))), .unset, .unset, .unset, .unset, .unset] []) := fun t kt => K1 t (by
    show Steps p.tables e below (s₁.setTop (mkF m 5 #[.val (.int p1), .val (.int p2), .val (.int p3), .val (.int p4), .val (.int p5), .val (.int (3 : Int32)), .unset, .unset, .unset, .unset, .unset, .unset] [])) _
    refine XS.iloadN X0.here hx rfl (hb hby at_5) rfl ?_
    show Steps p.tables e below (s₁.setTop (mkF m 6 #[.val (.int p1), .val (.int p2), .val (.int p3), .val (.int p4), .val (.int p5), .val (.int (3 : Int32)), .unset, .unset, .unset, .unset, .unset, .unset] [(.int p2)])) _
    refine XS.iconst X0.here hx rfl (hb hby at_6) ?_
    show Steps p.tables e below (s₁.setTop (mkF m 7 #[.val (.int p1), .val (.int p2), .val (.int p3), .val (.int p4), .val (.int p5), .val (.int (3 : Int32)), .unset, .unset, .unset, .unset, .unset, .unset] [(.int (3 : Int32)), (.int p2)])) _
    refine XS.iand X0.here hx rfl (hb hby at_7) rfl ?_
    show Steps p.tables e below (s₁.setTop (mkF m 8 #[.val (.int p1), .val (.int p2), .val (.int p3), .val (.int p4), .val (.int p5), .val (.int (3 : Int32)), .unset, .unset, .unset, .unset, .unset, .unset] [(.int (p2 &&& (3 : Int32)))])) _
    refine XS.iload X0.here hx rfl (hb hby at_8) rfl ?_
    show Steps p.tables e below (s₁.setTop (mkF m 10 #[.val (.int p1), .val (.int p2), .val (.int p3), .val (.int p4), .val (.int p5), .val (.int (3 : Int32)), .unset, .unset, .unset, .unset, .unset, .unset] [(.int (3 : Int32)), (.int (p2 &&& (3 : Int32)))])) _
    refine XS.iconst X0.here hx rfl (hb hby at_10) ?_
    show Steps p.tables e below (s₁.setTop (mkF m 11 #[.val (.int p1), .val (.int p2), .val (.int p3), .val (.int p4), .val (.int p5), .val (.int (3 : Int32)), .unset, .unset, .unset, .unset, .unset, .unset] [(.int (1 : Int32)), (.int (3 : Int32)), (.int (p2 &&& (3 : Int32)))])) _
    refine XS.iadd X0.here hx rfl (hb hby at_11) rfl ?_
    show Steps p.tables e below (s₁.setTop (mkF m 12 #[.val (.int p1), .val (.int p2), .val (.int p3), .val (.int p4), .val (.int p5), .val (.int (3 : Int32)), .unset, .unset, .unset, .unset, .unset, .unset] [(.int (4 : Int32)), (.int (p2 &&& (3 : Int32)))])) _
    refine iremM X0 hx rfl (hb hby at_12) rfl (by decide) ?_
    show Steps p.tables e below (s₁.setTop (mkF m 13 #[.val (.int p1), .val (.int p2), .val (.int p3), .val (.int p4), .val (.int p5), .val (.int (3 : Int32)), .unset, .unset, .unset, .unset, .unset, .unset] [(.int ((p2 &&& (3 : Int32)) % (4 : Int32)))])) _
    refine XS.istore X0.here hx rfl (hb hby at_13) rfl (l' := #[.val (.int p1), .val (.int p2), .val (.int p3), .val (.int p4), .val (.int p5), .val (.int (3 : Int32)), .val (.int ((p2 &&& (3 : Int32)) % (4 : Int32))), .unset, .unset, .unset, .unset, .unset]) rfl ?_
    exact kt)
  rw [hk_] at K2
  have K3 : Gx p e below s₁ f0 s₁ (mkF m 17 #[.val (.int p1), .val (.int p2), .val (.int p3), .val (.int p4), .val (.int p5), .val (.int (3 : Int32)), .val (.int (1 : Int32)), .unset, .unset, .unset, .unset, .unset] [(.int (3 : Int32))]) := fun t kt => K2 t (by
    show Steps p.tables e below (s₁.setTop (mkF m 15 #[.val (.int p1), .val (.int p2), .val (.int p3), .val (.int p4), .val (.int p5), .val (.int (3 : Int32)), .val (.int (1 : Int32)), .unset, .unset, .unset, .unset, .unset] [])) _
    refine XS.iload X0.here hx rfl (hb hby at_15) rfl ?_
    exact kt)
  obtain ⟨T4, h4, k4, X4, e4, E4, A4, st4⟩ := newP X0 hx hZ (hw _ (List.mem_of_getElem? (i := 0) rfl)) e0 (g := (mkF m 17 #[.val (.int p1), .val (.int p2), .val (.int p3), .val (.int p4), .val (.int p5), .val (.int (3 : Int32)), .val (.int (1 : Int32)), .unset, .unset, .unset, .unset, .unset] [(.int (3 : Int32))])) rfl (hb hby at_17) rfl (by decide) (cap := 3) (by decide) (by decide) (by decide) (by decide)
  obtain ⟨b4, g4⟩ : ∃ z, z = h0.size := ⟨_, rfl⟩
  rw [← g4] at A4 st4
  have V4 : Arv Z h4 b4 k4 .byte (3 : Int32) [(.int (0 : Int32)), (.int (0 : Int32)), (.int (0 : Int32))] (.int (0 : Int32)) := (Arv.new A4 (by decide)).pad (pad_rep [] (.int (0 : Int32)) 3)
  have K5 : Gx p e below s₁ f0 T4 (mkF m 19 #[.val (.int p1), .val (.int p2), .val (.int p3), .val (.int p4), .val (.int p5), .val (.int (3 : Int32)), .val (.int (1 : Int32)), .unset, .unset, .unset, .unset, .unset] [(.ref b4)]) := fun t kt => K3 t (st4 t kt)
  have K6 : Gx p e below s₁ f0 T4 (mkF m 31 #[.val (.int p1), .val (.int p2), .val (.int p3), .val (.int p4), .val (.int p5), .val (.int (3 : Int32)), .val (.int (1 : Int32)), .val (.ref b4), .unset, .unset, .unset, .unset] [(.int (p3.toInt8.toInt32)), (.int (0 : Int32)), (.ref b4)]) := fun t kt => K5 t (by
    show Steps p.tables e below (T4.setTop (mkF m 19 #[.val (.int p1), .val (.int p2), .val (.int p3), .val (.int p4), .val (.int p5), .val (.int (3 : Int32)), .val (.int (1 : Int32)), .unset, .unset, .unset, .unset, .unset] [(.ref b4)])) _
    refine XS.astore X4.here hx rfl (hb hby at_19) rfl rfl (l' := #[.val (.int p1), .val (.int p2), .val (.int p3), .val (.int p4), .val (.int p5), .val (.int (3 : Int32)), .val (.int (1 : Int32)), .val (.ref b4), .unset, .unset, .unset, .unset]) rfl ?_
    show Steps p.tables e below (T4.setTop (mkF m 21 #[.val (.int p1), .val (.int p2), .val (.int p3), .val (.int p4), .val (.int p5), .val (.int (3 : Int32)), .val (.int (1 : Int32)), .val (.ref b4), .unset, .unset, .unset, .unset] [])) _
    refine XS.iload X4.here hx rfl (hb hby at_21) rfl ?_
    show Steps p.tables e below (T4.setTop (mkF m 23 #[.val (.int p1), .val (.int p2), .val (.int p3), .val (.int p4), .val (.int p5), .val (.int (3 : Int32)), .val (.int (1 : Int32)), .val (.ref b4), .unset, .unset, .unset, .unset] [(.int (3 : Int32))])) _
    refine XS.ifNo X4.here hx rfl (hb hby at_23) rfl ((if0 _ _).trans (tlt (by decide)).2.2.2) ?_
    show Steps p.tables e below (T4.setTop (mkF m 26 #[.val (.int p1), .val (.int p2), .val (.int p3), .val (.int p4), .val (.int p5), .val (.int (3 : Int32)), .val (.int (1 : Int32)), .val (.ref b4), .unset, .unset, .unset, .unset] [])) _
    refine XS.aload X4.here hx rfl (hb hby at_26) rfl rfl ?_
    show Steps p.tables e below (T4.setTop (mkF m 28 #[.val (.int p1), .val (.int p2), .val (.int p3), .val (.int p4), .val (.int p5), .val (.int (3 : Int32)), .val (.int (1 : Int32)), .val (.ref b4), .unset, .unset, .unset, .unset] [(.ref b4)])) _
    refine XS.iconst X4.here hx rfl (hb hby at_28) ?_
    show Steps p.tables e below (T4.setTop (mkF m 29 #[.val (.int p1), .val (.int p2), .val (.int p3), .val (.int p4), .val (.int p5), .val (.int (3 : Int32)), .val (.int (1 : Int32)), .val (.ref b4), .unset, .unset, .unset, .unset] [(.int (0 : Int32)), (.ref b4)])) _
    refine XS.iloadN X4.here hx rfl (hb hby at_29) rfl ?_
    show Steps p.tables e below (T4.setTop (mkF m 30 #[.val (.int p1), .val (.int p2), .val (.int p3), .val (.int p4), .val (.int p5), .val (.int (3 : Int32)), .val (.int (1 : Int32)), .val (.ref b4), .unset, .unset, .unset, .unset] [(.int p3), (.int (0 : Int32)), (.ref b4)])) _
    refine XS.i2b X4.here hx rfl (hb hby at_30) rfl ?_
    exact kt)
  obtain ⟨clq7, Arq7, ckq7, cSq7, cNq7, cHq7, cGq7⟩ := id V4
  obtain ⟨T8, h8, X8', e8, W8, st8⟩ := stB X4 hx hZ e4 Arq7 (j := (0 : Int32)) (inb_of cSq7 ⟨by decide, by decide⟩) (g := (mkF m 31 #[.val (.int p1), .val (.int p2), .val (.int p3), .val (.int p4), .val (.int p5), .val (.int (3 : Int32)), .val (.int (1 : Int32)), .val (.ref b4), .unset, .unset, .unset, .unset] [(.int (p3.toInt8.toInt32)), (.int (0 : Int32)), (.ref b4)])) rfl rfl (hb hby at_31)
  obtain ⟨lc8, X8, N8⟩ : ∃ lc, Stand p l e room_1 s m #[(.int p1), (.int p2), (.int p3), (.int p4), (.int p5)] below meth c T8 lc 1 3 ∧ Fr n0 lc := ⟨_, X8', Fr.snoc X8' N0 (Nat.le_trans Z0 (Nat.le_trans (Keep.refl h0 []).1 (Nat.le_of_eq g4.symm)))⟩
  have V8 : Arv Z h8 b4 k4 .byte (3 : Int32) [(.int (nar .byte (p3.toInt8.toInt32))), (.int (0 : Int32)), (.int (0 : Int32))] (.int (0 : Int32)) := Arv.set Arq7 ckq7 cSq7 cNq7 cHq7 cGq7 (fits_nar_byte _) W8 0 rfl (Nat.le_of_ble_eq_true rfl)
  have K9 : Gx p e below s₁ f0 T8 (mkF m 32 #[.val (.int p1), .val (.int p2), .val (.int p3), .val (.int p4), .val (.int p5), .val (.int (3 : Int32)), .val (.int (1 : Int32)), .val (.ref b4), .unset, .unset, .unset, .unset] []) := fun t kt => K6 t (st8 t kt)
  have K10 : Gx p e below s₁ f0 T8 (mkF m 43 #[.val (.int p1), .val (.int p2), .val (.int p3), .val (.int p4), .val (.int p5), .val (.int (3 : Int32)), .val (.int (1 : Int32)), .val (.ref b4), .unset, .unset, .unset, .unset] [(.int (p4.toInt8.toInt32)), (.int (1 : Int32)), (.ref b4)]) := fun t kt => K9 t (by
    show Steps p.tables e below (T8.setTop (mkF m 32 #[.val (.int p1), .val (.int p2), .val (.int p3), .val (.int p4), .val (.int p5), .val (.int (3 : Int32)), .val (.int (1 : Int32)), .val (.ref b4), .unset, .unset, .unset, .unset] [])) _
    refine XS.iload X8.here hx rfl (hb hby at_32) rfl ?_
    show Steps p.tables e below (T8.setTop (mkF m 34 #[.val (.int p1), .val (.int p2), .val (.int p3), .val (.int p4), .val (.int p5), .val (.int (3 : Int32)), .val (.int (1 : Int32)), .val (.ref b4), .unset, .unset, .unset, .unset] [(.int (3 : Int32))])) _
    refine XS.iconst X8.here hx rfl (hb hby at_34) ?_
    show Steps p.tables e below (T8.setTop (mkF m 35 #[.val (.int p1), .val (.int p2), .val (.int p3), .val (.int p4), .val (.int p5), .val (.int (3 : Int32)), .val (.int (1 : Int32)), .val (.ref b4), .unset, .unset, .unset, .unset] [(.int (1 : Int32)), (.int (3 : Int32))])) _
    refine XS.icmpNo X8.here hx rfl (hb hby at_35) rfl (tlt (by decide)).2.2.2 ?_
    show Steps p.tables e below (T8.setTop (mkF m 38 #[.val (.int p1), .val (.int p2), .val (.int p3), .val (.int p4), .val (.int p5), .val (.int (3 : Int32)), .val (.int (1 : Int32)), .val (.ref b4), .unset, .unset, .unset, .unset] [])) _
    refine XS.aload X8.here hx rfl (hb hby at_38) rfl rfl ?_
    show Steps p.tables e below (T8.setTop (mkF m 40 #[.val (.int p1), .val (.int p2), .val (.int p3), .val (.int p4), .val (.int p5), .val (.int (3 : Int32)), .val (.int (1 : Int32)), .val (.ref b4), .unset, .unset, .unset, .unset] [(.ref b4)])) _
    refine XS.iconst X8.here hx rfl (hb hby at_40) ?_
    show Steps p.tables e below (T8.setTop (mkF m 41 #[.val (.int p1), .val (.int p2), .val (.int p3), .val (.int p4), .val (.int p5), .val (.int (3 : Int32)), .val (.int (1 : Int32)), .val (.ref b4), .unset, .unset, .unset, .unset] [(.int (1 : Int32)), (.ref b4)])) _
    refine XS.iloadN X8.here hx rfl (hb hby at_41) rfl ?_
    show Steps p.tables e below (T8.setTop (mkF m 42 #[.val (.int p1), .val (.int p2), .val (.int p3), .val (.int p4), .val (.int p5), .val (.int (3 : Int32)), .val (.int (1 : Int32)), .val (.ref b4), .unset, .unset, .unset, .unset] [(.int p4), (.int (1 : Int32)), (.ref b4)])) _
    refine XS.i2b X8.here hx rfl (hb hby at_42) rfl ?_
    exact kt)
  obtain ⟨clq11, Arq11, ckq11, cSq11, cNq11, cHq11, cGq11⟩ := id V8
  obtain ⟨T12, h12, X12', e12, W12, st12⟩ := stB X8 hx hZ e8 Arq11 (j := (1 : Int32)) (inb_of cSq11 ⟨by decide, by decide⟩) (g := (mkF m 43 #[.val (.int p1), .val (.int p2), .val (.int p3), .val (.int p4), .val (.int p5), .val (.int (3 : Int32)), .val (.int (1 : Int32)), .val (.ref b4), .unset, .unset, .unset, .unset] [(.int (p4.toInt8.toInt32)), (.int (1 : Int32)), (.ref b4)])) rfl rfl (hb hby at_43)
  obtain ⟨lc12, X12, N12⟩ : ∃ lc, Stand p l e room_1 s m #[(.int p1), (.int p2), (.int p3), (.int p4), (.int p5)] below meth c T12 lc 1 3 ∧ Fr n0 lc := ⟨_, X12', Fr.snoc X12' N8 (Nat.le_trans Z0 (Nat.le_trans (Keep.refl h0 []).1 (Nat.le_of_eq g4.symm)))⟩
  have V12 : Arv Z h12 b4 k4 .byte (3 : Int32) [(.int (nar .byte (p3.toInt8.toInt32))), (.int (nar .byte (p4.toInt8.toInt32))), (.int (0 : Int32))] (.int (0 : Int32)) := Arv.set Arq11 ckq11 cSq11 cNq11 cHq11 cGq11 (fits_nar_byte _) W12 1 rfl (Nat.le_of_ble_eq_true rfl)
  have K13 : Gx p e below s₁ f0 T12 (mkF m 44 #[.val (.int p1), .val (.int p2), .val (.int p3), .val (.int p4), .val (.int p5), .val (.int (3 : Int32)), .val (.int (1 : Int32)), .val (.ref b4), .unset, .unset, .unset, .unset] []) := fun t kt => K10 t (st12 t kt)
  have K14 : Gx p e below s₁ f0 T12 (mkF m 56 #[.val (.int p1), .val (.int p2), .val (.int p3), .val (.int p4), .val (.int p5), .val (.int (3 : Int32)), .val (.int (1 : Int32)), .val (.ref b4), .unset, .unset, .unset, .unset] [(.int (p5.toInt8.toInt32)), (.int (2 : Int32)), (.ref b4)]) := fun t kt => K13 t (by
    show Steps p.tables e below (T12.setTop (mkF m 44 #[.val (.int p1), .val (.int p2), .val (.int p3), .val (.int p4), .val (.int p5), .val (.int (3 : Int32)), .val (.int (1 : Int32)), .val (.ref b4), .unset, .unset, .unset, .unset] [])) _
    refine XS.iload X12.here hx rfl (hb hby at_44) rfl ?_
    show Steps p.tables e below (T12.setTop (mkF m 46 #[.val (.int p1), .val (.int p2), .val (.int p3), .val (.int p4), .val (.int p5), .val (.int (3 : Int32)), .val (.int (1 : Int32)), .val (.ref b4), .unset, .unset, .unset, .unset] [(.int (3 : Int32))])) _
    refine XS.iconst X12.here hx rfl (hb hby at_46) ?_
    show Steps p.tables e below (T12.setTop (mkF m 47 #[.val (.int p1), .val (.int p2), .val (.int p3), .val (.int p4), .val (.int p5), .val (.int (3 : Int32)), .val (.int (1 : Int32)), .val (.ref b4), .unset, .unset, .unset, .unset] [(.int (2 : Int32)), (.int (3 : Int32))])) _
    refine XS.icmpNo X12.here hx rfl (hb hby at_47) rfl (tlt (by decide)).2.2.2 ?_
    show Steps p.tables e below (T12.setTop (mkF m 50 #[.val (.int p1), .val (.int p2), .val (.int p3), .val (.int p4), .val (.int p5), .val (.int (3 : Int32)), .val (.int (1 : Int32)), .val (.ref b4), .unset, .unset, .unset, .unset] [])) _
    refine XS.aload X12.here hx rfl (hb hby at_50) rfl rfl ?_
    show Steps p.tables e below (T12.setTop (mkF m 52 #[.val (.int p1), .val (.int p2), .val (.int p3), .val (.int p4), .val (.int p5), .val (.int (3 : Int32)), .val (.int (1 : Int32)), .val (.ref b4), .unset, .unset, .unset, .unset] [(.ref b4)])) _
    refine XS.iconst X12.here hx rfl (hb hby at_52) ?_
    show Steps p.tables e below (T12.setTop (mkF m 53 #[.val (.int p1), .val (.int p2), .val (.int p3), .val (.int p4), .val (.int p5), .val (.int (3 : Int32)), .val (.int (1 : Int32)), .val (.ref b4), .unset, .unset, .unset, .unset] [(.int (2 : Int32)), (.ref b4)])) _
    refine XS.iload X12.here hx rfl (hb hby at_53) rfl ?_
    show Steps p.tables e below (T12.setTop (mkF m 55 #[.val (.int p1), .val (.int p2), .val (.int p3), .val (.int p4), .val (.int p5), .val (.int (3 : Int32)), .val (.int (1 : Int32)), .val (.ref b4), .unset, .unset, .unset, .unset] [(.int p5), (.int (2 : Int32)), (.ref b4)])) _
    refine XS.i2b X12.here hx rfl (hb hby at_55) rfl ?_
    exact kt)
  obtain ⟨clq15, Arq15, ckq15, cSq15, cNq15, cHq15, cGq15⟩ := id V12
  obtain ⟨T16, h16, X16', e16, W16, st16⟩ := stB X12 hx hZ e12 Arq15 (j := (2 : Int32)) (inb_of cSq15 ⟨by decide, by decide⟩) (g := (mkF m 56 #[.val (.int p1), .val (.int p2), .val (.int p3), .val (.int p4), .val (.int p5), .val (.int (3 : Int32)), .val (.int (1 : Int32)), .val (.ref b4), .unset, .unset, .unset, .unset] [(.int (p5.toInt8.toInt32)), (.int (2 : Int32)), (.ref b4)])) rfl rfl (hb hby at_56)
  obtain ⟨lc16, X16, N16⟩ : ∃ lc, Stand p l e room_1 s m #[(.int p1), (.int p2), (.int p3), (.int p4), (.int p5)] below meth c T16 lc 1 3 ∧ Fr n0 lc := ⟨_, X16', Fr.snoc X16' N12 (Nat.le_trans Z0 (Nat.le_trans (Keep.refl h0 []).1 (Nat.le_of_eq g4.symm)))⟩
  have V16 : Arv Z h16 b4 k4 .byte (3 : Int32) [(.int (nar .byte (p3.toInt8.toInt32))), (.int (nar .byte (p4.toInt8.toInt32))), (.int (nar .byte (p5.toInt8.toInt32)))] (.int (0 : Int32)) := Arv.set Arq15 ckq15 cSq15 cNq15 cHq15 cGq15 (fits_nar_byte _) W16 2 rfl (Nat.le_of_ble_eq_true rfl)
  have K17 : Gx p e below s₁ f0 T16 (mkF m 57 #[.val (.int p1), .val (.int p2), .val (.int p3), .val (.int p4), .val (.int p5), .val (.int (3 : Int32)), .val (.int (1 : Int32)), .val (.ref b4), .unset, .unset, .unset, .unset] []) := fun t kt => K14 t (st16 t kt)
  obtain ⟨T18, h18, X18, e18, E18, A18, D18, -, st18⟩ := newO X16 hx hZ hown (hw _ (List.mem_of_getElem? (i := 1) rfl)) (hw _ (List.mem_of_getElem? (i := 2) rfl)) (hw _ (List.mem_of_getElem? (i := 3) rfl)) e16 (g := (mkF m 57 #[.val (.int p1), .val (.int p2), .val (.int p3), .val (.int p4), .val (.int p5), .val (.int (3 : Int32)), .val (.int (1 : Int32)), .val (.ref b4), .unset, .unset, .unset, .unset] [])) rfl (hb hby at_57) (by decide) (by decide)
  obtain ⟨b18, g18⟩ : ∃ z, z = h16.size := ⟨_, rfl⟩
  rw [← g18] at A18 D18 st18
  have f19 : Fld Z h18 b18 "com/example/looseleaf/looseleaf/pgwire/MessageBody" "bytes" "[B" .null := D18 (Or.inr (hw _ (List.mem_of_getElem? (i := 11) rfl))) (ty := (.array .byte)) (by decide)
  have f20 : Fld Z h18 b18 "com/example/looseleaf/looseleaf/pgwire/MessageBody" "at" "I" (.int (0 : Int32)) := D18 (Or.inl (hw _ (List.mem_of_getElem? (i := 18) rfl))) (ty := .int) (by decide)
  have K21 : Gx p e below s₁ f0 T18 (mkF m 60 #[.val (.int p1), .val (.int p2), .val (.int p3), .val (.int p4), .val (.int p5), .val (.int (3 : Int32)), .val (.int (1 : Int32)), .val (.ref b4), .unset, .unset, .unset, .unset] [(.ref b18)]) := fun t kt => K17 t (st18 t kt)
  have K22 : Gx p e below s₁ f0 T18 (mkF m 63 #[.val (.int p1), .val (.int p2), .val (.int p3), .val (.int p4), .val (.int p5), .val (.int (3 : Int32)), .val (.int (1 : Int32)), .val (.ref b4), .unset, .unset, .unset, .unset] [(.ref b4), (.ref b18), (.ref b18)]) := fun t kt => K21 t (by
    show Steps p.tables e below (T18.setTop (mkF m 60 #[.val (.int p1), .val (.int p2), .val (.int p3), .val (.int p4), .val (.int p5), .val (.int (3 : Int32)), .val (.int (1 : Int32)), .val (.ref b4), .unset, .unset, .unset, .unset] [(.ref b18)])) _
    refine XS.dup X18.here hx rfl (hb hby at_60) rfl rfl ?_
    show Steps p.tables e below (T18.setTop (mkF m 61 #[.val (.int p1), .val (.int p2), .val (.int p3), .val (.int p4), .val (.int p5), .val (.int (3 : Int32)), .val (.int (1 : Int32)), .val (.ref b4), .unset, .unset, .unset, .unset] [(.ref b18), (.ref b18)])) _
    refine XS.aload X18.here hx rfl (hb hby at_61) rfl rfl ?_
    exact kt)
  have kp23 : Keep h0 h18 [] := ((((((Keep.refl h0 []).ext E4).wr W8 (Or.inr (Nat.le_trans (Keep.refl h0 []).1 (Nat.le_of_eq g4.symm)))).wr W12 (Or.inr (Nat.le_trans (Keep.refl h0 []).1 (Nat.le_of_eq g4.symm)))).wr W16 (Or.inr (Nat.le_trans (Keep.refl h0 []).1 (Nat.le_of_eq g4.symm)))).ext E18)
  obtain ⟨_, _, ⟨T24, L24, k24, n24⟩, -, X24', ⟨Lc24, hQ24, l24, y24, z24⟩, st24⟩ := X18.specialBack hx (y := (⟨"com/example/looseleaf/looseleaf/pgwire/MessageBody", "<init>", "([B)V"⟩ : MethodName)) rfl hown (mvT hZ (hw _ (List.mem_of_getElem? (i := 4) rfl))) (mvT hZ (hw _ (List.mem_of_getElem? (i := 5) rfl))) (mvT hZ (hw _ (List.mem_of_getElem? (i := 6) rfl))) (by decide) (backOf (W := 1) (rmIni l Z a0 hw [] b18 b4 h18 n0 (Nat.le_trans Z0 kp23.1) A18 (Nat.le_trans Z0 (Nat.le_trans (((((Keep.refl h0 []).ext E4).wr W8 (Or.inr (Nat.le_trans (Keep.refl h0 []).1 (Nat.le_of_eq g4.symm)))).wr W12 (Or.inr (Nat.le_trans (Keep.refl h0 []).1 (Nat.le_of_eq g4.symm)))).wr W16 (Or.inr (Nat.le_trans (Keep.refl h0 []).1 (Nat.le_of_eq g4.symm)))).1 (Nat.le_of_eq g18.symm))) f19 f20) hZ (hw _ (List.mem_of_getElem? (i := 6) rfl)) (hw _ (List.mem_of_getElem? (i := 3) rfl)) (by decide) (by decide)) (g := (mkF m 63 #[.val (.int p1), .val (.int p2), .val (.int p3), .val (.int p4), .val (.int p5), .val (.int (3 : Int32)), .val (.int (1 : Int32)), .val (.ref b4), .unset, .unset, .unset, .unset] [(.ref b4), (.ref b18), (.ref b18)])) rfl (by rw [hml]; rfl) (Steps.refl _) (a := b18) (argsL := [(.ref b4)]) (rest := [(.ref b18)]) (lenOf pd___B_V rfl) rfl (by show 2 * 0 + _ ≤ _; exact Nat.le_of_eq rfl) (hb hby at_63) (fun _ _ => ⟨rfl, e18, (by decide : 2 + 0 ≤ _), (by decide : 5 + 0 ≤ _)⟩)
  dsimp only [Pt.U, Pt.locs, Pt.cells, Pt.slots] at X24' l24 y24 z24 st24 hQ24
  subst l24 y24 z24
  obtain ⟨h24, e24⟩ : ∃ z, T24.heap = z := ⟨_, rfl⟩
  rw [e24] at hQ24
  obtain ⟨rfl, N24q, Kc24, f25, f26, f27⟩ := hQ24
  obtain ⟨lc24, X24, N24⟩ : ∃ lc, Stand p l e room_1 s m #[(.int p1), (.int p2), (.int p3), (.int p4), (.int p5)] below meth c T24 lc 2 5 ∧ Fr n0 lc := ⟨_, X24', Fr.app N16 N24q⟩
  have K28 : Gx p e below s₁ f0 T24 (mkF m 66 #[.val (.int p1), .val (.int p2), .val (.int p3), .val (.int p4), .val (.int p5), .val (.int (3 : Int32)), .val (.int (1 : Int32)), .val (.ref b4), .unset, .unset, .unset, .unset] [(.ref b18)]) := fun t kt => K22 t (st24.trans kt)
  have K29 : Gx p e below s₁ f0 T24 (mkF m 76 #[.val (.int p1), .val (.int p2), .val (.int p3), .val (.int p4), .val (.int p5), .val (.int (3 : Int32)), .val (.int (1 : Int32)), .val (.ref b4), .val (.ref b18), .unset, .unset, .unset] [(.ref b18)]) := fun t kt => K28 t (by
    show Steps p.tables e below (T24.setTop (mkF m 66 #[.val (.int p1), .val (.int p2), .val (.int p3), .val (.int p4), .val (.int p5), .val (.int (3 : Int32)), .val (.int (1 : Int32)), .val (.ref b4), .unset, .unset, .unset, .unset] [(.ref b18)])) _
    refine XS.astore X24.here hx rfl (hb hby at_66) rfl rfl (l' := #[.val (.int p1), .val (.int p2), .val (.int p3), .val (.int p4), .val (.int p5), .val (.int (3 : Int32)), .val (.int (1 : Int32)), .val (.ref b4), .val (.ref b18), .unset, .unset, .unset]) rfl ?_
    show Steps p.tables e below (T24.setTop (mkF m 68 #[.val (.int p1), .val (.int p2), .val (.int p3), .val (.int p4), .val (.int p5), .val (.int (3 : Int32)), .val (.int (1 : Int32)), .val (.ref b4), .val (.ref b18), .unset, .unset, .unset] [])) _
    refine XS.iload X24.here hx rfl (hb hby at_68) rfl ?_
    show Steps p.tables e below (T24.setTop (mkF m 70 #[.val (.int p1), .val (.int p2), .val (.int p3), .val (.int p4), .val (.int p5), .val (.int (3 : Int32)), .val (.int (1 : Int32)), .val (.ref b4), .val (.ref b18), .unset, .unset, .unset] [(.int (1 : Int32))])) _
    refine XS.iconst X24.here hx rfl (hb hby at_70) ?_
    show Steps p.tables e below (T24.setTop (mkF m 71 #[.val (.int p1), .val (.int p2), .val (.int p3), .val (.int p4), .val (.int p5), .val (.int (3 : Int32)), .val (.int (1 : Int32)), .val (.ref b4), .val (.ref b18), .unset, .unset, .unset] [(.int (1 : Int32)), (.int (1 : Int32))])) _
    refine XS.icmpNo X24.here hx rfl (hb hby at_71) rfl (flt (by decide)).1 ?_
    show Steps p.tables e below (T24.setTop (mkF m 74 #[.val (.int p1), .val (.int p2), .val (.int p3), .val (.int p4), .val (.int p5), .val (.int (3 : Int32)), .val (.int (1 : Int32)), .val (.ref b4), .val (.ref b18), .unset, .unset, .unset] [])) _
    refine XS.aload X24.here hx rfl (hb hby at_74) rfl rfl ?_
    exact kt)
  have f30 : Arv Z h24 b4 k4 .byte (3 : Int32) [(.int (nar .byte (p3.toInt8.toInt32))), (.int (nar .byte (p4.toInt8.toInt32))), (.int (nar .byte (p5.toInt8.toInt32)))] (.int (0 : Int32)) := ((V16.ext E18).keep Kc24 (ninS (Nat.ne_of_lt (Nat.lt_of_lt_of_le V16.lt (Nat.le_of_eq g18.symm))) nin0))
  have kp31 : Keep h0 h24 [] := (Keep.trans kp23 Kc24 (allS (Or.inr (Nat.le_trans (((((Keep.refl h0 []).ext E4).wr W8 (Or.inr (Nat.le_trans (Keep.refl h0 []).1 (Nat.le_of_eq g4.symm)))).wr W12 (Or.inr (Nat.le_trans (Keep.refl h0 []).1 (Nat.le_of_eq g4.symm)))).wr W16 (Or.inr (Nat.le_trans (Keep.refl h0 []).1 (Nat.le_of_eq g4.symm)))).1 (Nat.le_of_eq g18.symm))) all0))
  obtain ⟨cq32, kq32, q32a, q32b, q32c⟩ := isOf hZ e24 f25
  obtain ⟨_, _, ⟨T32, L32, k32, n32⟩, -, X32', ⟨Lc32, hQ32, l32, y32, z32⟩, st32⟩ := X24.virtualBack hx (y := (⟨"com/example/looseleaf/looseleaf/pgwire/MessageBody", "byte1", "()I"⟩ : MethodName)) (z := (⟨"com/example/looseleaf/looseleaf/pgwire/MessageBody", "byte1", "()I"⟩ : MethodName)) hown (mvT hZ (hw _ (List.mem_of_getElem? (i := 19) rfl))) (mvT hZ (hw _ (List.mem_of_getElem? (i := 20) rfl))) (notFace_of_selects (args := #[]) (mvT hZ (hw _ (List.mem_of_getElem? (i := 22) rfl)))) (mvT hZ (hw _ (List.mem_of_getElem? (i := 22) rfl))) (mvT hZ (hw _ (List.mem_of_getElem? (i := 21) rfl))) (by decide) (backOf (W := 0) (rmBy1 l Z a0 hw [] b18 b4 (0 : Int32) k4 (3 : Int32) [(.int (nar .byte (p3.toInt8.toInt32))), (.int (nar .byte (p4.toInt8.toInt32))), (.int (nar .byte (p5.toInt8.toInt32)))] (nar .byte (p3.toInt8.toInt32)) (1 : Int32) h24 n0 (Nat.le_trans Z0 kp31.1) f25 (Nat.le_trans Z0 (Nat.le_trans (((((Keep.refl h0 []).ext E4).wr W8 (Or.inr (Nat.le_trans (Keep.refl h0 []).1 (Nat.le_of_eq g4.symm)))).wr W12 (Or.inr (Nat.le_trans (Keep.refl h0 []).1 (Nat.le_of_eq g4.symm)))).wr W16 (Or.inr (Nat.le_trans (Keep.refl h0 []).1 (Nat.le_of_eq g4.symm)))).1 (Nat.le_of_eq g18.symm))) f26 f27 f30 (Ne.symm (Nat.ne_of_lt (Nat.lt_of_lt_of_le V16.lt (Nat.le_of_eq g18.symm)))) (by decide) ⟨by decide, by decide⟩ rfl (by decide)) hZ (hw _ (List.mem_of_getElem? (i := 23) rfl)) (hw _ (List.mem_of_getElem? (i := 3) rfl)) (by decide) (by decide)) q32a q32c (g := (mkF m 76 #[.val (.int p1), .val (.int p2), .val (.int p3), .val (.int p4), .val (.int p5), .val (.int (3 : Int32)), .val (.int (1 : Int32)), .val (.ref b4), .val (.ref b18), .unset, .unset, .unset] [(.ref b18)])) rfl (by rw [hml]; rfl) (Steps.refl _) (argsL := []) (rest := []) (lenOf pd___I rfl) rfl (by show 2 * 0 + _ ≤ _; exact Nat.le_of_eq rfl) (hb hby at_76) (fun _ _ => ⟨rfl, e24, (by decide : 2 + 0 ≤ _), (by decide : 5 + 0 ≤ _)⟩)
  dsimp only [Pt.U, Pt.locs, Pt.cells, Pt.slots] at X32' l32 y32 z32 st32 hQ32
  subst l32 y32 z32
  obtain ⟨h32, e32⟩ : ∃ z, T32.heap = z := ⟨_, rfl⟩
  rw [e32] at hQ32
  obtain ⟨rfl, N32q, Kc32, f33, f34, f35⟩ := hQ32
  obtain ⟨lc32, X32, N32⟩ : ∃ lc, Stand p l e room_1 s m #[(.int p1), (.int p2), (.int p3), (.int p4), (.int p5)] below meth c T32 lc 2 5 ∧ Fr n0 lc := ⟨_, X32', Fr.app N24 N32q⟩
  have K36 : Gx p e below s₁ f0 T32 (mkF m 79 #[.val (.int p1), .val (.int p2), .val (.int p3), .val (.int p4), .val (.int p5), .val (.int (3 : Int32)), .val (.int (1 : Int32)), .val (.ref b4), .val (.ref b18), .unset, .unset, .unset] [(.int ((nar .byte (p3.toInt8.toInt32)) &&& (255 : Int32)))]) := fun t kt => K29 t (st32.trans kt)
  have f37 : Arv Z h32 b4 k4 .byte (3 : Int32) [(.int (nar .byte (p3.toInt8.toInt32))), (.int (nar .byte (p4.toInt8.toInt32))), (.int (nar .byte (p5.toInt8.toInt32)))] (.int (0 : Int32)) := (f30.keep Kc32 (ninS (Nat.ne_of_lt (Nat.lt_of_lt_of_le V16.lt (Nat.le_of_eq g18.symm))) nin0))
  obtain ⟨clq38, Arq38, ckq38, cSq38, cNq38, cHq38, cGq38⟩ := id f37
  have K41 : Gx p e below s₁ f0 T32 (mkF m 116 #[.val (.int p1), .val (.int p2), .val (.int p3), .val (.int p4), .val (.int p5), .val (.int (3 : Int32)), .val (.int (1 : Int32)), .val (.ref b4), .val (.ref b18), .unset, .unset, .unset] [(.int (nar .byte (p4.toInt8.toInt32)))]) := fun t kt => K36 t (by
    show Steps p.tables e below (T32.setTop (mkF m 79 #[.val (.int p1), .val (.int p2), .val (.int p3), .val (.int p4), .val (.int p5), .val (.int (3 : Int32)), .val (.int (1 : Int32)), .val (.ref b4), .val (.ref b18), .unset, .unset, .unset] [(.int ((nar .byte (p3.toInt8.toInt32)) &&& (255 : Int32)))])) _
    refine XS.pop X32.here hx rfl (hb hby at_79) rfl rfl ?_
    show Steps p.tables e below (T32.setTop (mkF m 80 #[.val (.int p1), .val (.int p2), .val (.int p3), .val (.int p4), .val (.int p5), .val (.int (3 : Int32)), .val (.int (1 : Int32)), .val (.ref b4), .val (.ref b18), .unset, .unset, .unset] [])) _
    refine XS.iload X32.here hx rfl (hb hby at_80) rfl ?_
    show Steps p.tables e below (T32.setTop (mkF m 82 #[.val (.int p1), .val (.int p2), .val (.int p3), .val (.int p4), .val (.int p5), .val (.int (3 : Int32)), .val (.int (1 : Int32)), .val (.ref b4), .val (.ref b18), .unset, .unset, .unset] [(.int (1 : Int32))])) _
    refine XS.iconst X32.here hx rfl (hb hby at_82) ?_
    show Steps p.tables e below (T32.setTop (mkF m 83 #[.val (.int p1), .val (.int p2), .val (.int p3), .val (.int p4), .val (.int p5), .val (.int (3 : Int32)), .val (.int (1 : Int32)), .val (.ref b4), .val (.ref b18), .unset, .unset, .unset] [(.int (2 : Int32)), (.int (1 : Int32))])) _
    refine XS.icmpYes X32.here hx rfl (pc0 := 83) (pc' := 92) rfl (hb hby at_83) rfl (tlt (by decide)).1 (by decide) (by decide) ?_
    show Steps p.tables e below (T32.setTop (mkF m 92 #[.val (.int p1), .val (.int p2), .val (.int p3), .val (.int p4), .val (.int p5), .val (.int (3 : Int32)), .val (.int (1 : Int32)), .val (.ref b4), .val (.ref b18), .unset, .unset, .unset] [])) _
    refine XS.iload X32.here hx rfl (hb hby at_92) rfl ?_
    show Steps p.tables e below (T32.setTop (mkF m 94 #[.val (.int p1), .val (.int p2), .val (.int p3), .val (.int p4), .val (.int p5), .val (.int (3 : Int32)), .val (.int (1 : Int32)), .val (.ref b4), .val (.ref b18), .unset, .unset, .unset] [(.int (1 : Int32))])) _
    refine XS.iconst X32.here hx rfl (hb hby at_94) ?_
    show Steps p.tables e below (T32.setTop (mkF m 95 #[.val (.int p1), .val (.int p2), .val (.int p3), .val (.int p4), .val (.int p5), .val (.int (3 : Int32)), .val (.int (1 : Int32)), .val (.ref b4), .val (.ref b18), .unset, .unset, .unset] [(.int (3 : Int32)), (.int (1 : Int32))])) _
    refine XS.icmpYes X32.here hx rfl (pc0 := 95) (pc' := 104) rfl (hb hby at_95) rfl (tlt (by decide)).1 (by decide) (by decide) ?_
    show Steps p.tables e below (T32.setTop (mkF m 104 #[.val (.int p1), .val (.int p2), .val (.int p3), .val (.int p4), .val (.int p5), .val (.int (3 : Int32)), .val (.int (1 : Int32)), .val (.ref b4), .val (.ref b18), .unset, .unset, .unset] [])) _
    refine XS.iload X32.here hx rfl (hb hby at_104) rfl ?_
    show Steps p.tables e below (T32.setTop (mkF m 106 #[.val (.int p1), .val (.int p2), .val (.int p3), .val (.int p4), .val (.int p5), .val (.int (3 : Int32)), .val (.int (1 : Int32)), .val (.ref b4), .val (.ref b18), .unset, .unset, .unset] [(.int (1 : Int32))])) _
    refine XS.iload X32.here hx rfl (hb hby at_106) rfl ?_
    show Steps p.tables e below (T32.setTop (mkF m 108 #[.val (.int p1), .val (.int p2), .val (.int p3), .val (.int p4), .val (.int p5), .val (.int (3 : Int32)), .val (.int (1 : Int32)), .val (.ref b4), .val (.ref b18), .unset, .unset, .unset] [(.int (3 : Int32)), (.int (1 : Int32))])) _
    refine XS.icmpNo X32.here hx rfl (hb hby at_108) rfl (tlt (by decide)).2.1 ?_
    show Steps p.tables e below (T32.setTop (mkF m 111 #[.val (.int p1), .val (.int p2), .val (.int p3), .val (.int p4), .val (.int p5), .val (.int (3 : Int32)), .val (.int (1 : Int32)), .val (.ref b4), .val (.ref b18), .unset, .unset, .unset] [])) _
    refine XS.aload X32.here hx rfl (hb hby at_111) rfl rfl ?_
    show Steps p.tables e below (T32.setTop (mkF m 113 #[.val (.int p1), .val (.int p2), .val (.int p3), .val (.int p4), .val (.int p5), .val (.int (3 : Int32)), .val (.int (1 : Int32)), .val (.ref b4), .val (.ref b18), .unset, .unset, .unset] [(.ref b4)])) _
    refine XS.iload X32.here hx rfl (hb hby at_113) rfl ?_
    show Steps p.tables e below (T32.setTop (mkF m 115 #[.val (.int p1), .val (.int p2), .val (.int p3), .val (.int p4), .val (.int p5), .val (.int (3 : Int32)), .val (.int (1 : Int32)), .val (.ref b4), .val (.ref b18), .unset, .unset, .unset] [(.int (1 : Int32)), (.ref b4)])) _
    refine X32.baloadBytes hx (j := (1 : Int32)) (v := (.int (nar .byte (p4.toInt8.toInt32)))) (by rw [e32]; exact Arq38.1) (State.isArrayOf_alike hZ.alike Arq38.2.1) Arq38.2.2 (inb_of cSq38 ⟨by decide, by decide⟩) (Has.at cHq38 (inb_of cSq38 ⟨by decide, by decide⟩) rfl) (g := (mkF m 115 #[.val (.int p1), .val (.int p2), .val (.int p3), .val (.int p4), .val (.int p5), .val (.int (3 : Int32)), .val (.int (1 : Int32)), .val (.ref b4), .val (.ref b18), .unset, .unset, .unset] [(.int (1 : Int32)), (.ref b4)])) rfl rfl (hb hby at_115) _ ?_
    exact kt)
  obtain ⟨v40, hv40⟩ : ∃ z : Int32, z = (if (nar .byte (p4.toInt8.toInt32)) = (0 : Int32) then (1 : Int32) else (0 : Int32)) := ⟨_, rfl⟩
  have K42 : Gx p e below s₁ f0 T32 (mkF m 124 #[.val (.int p1), .val (.int p2), .val (.int p3), .val (.int p4), .val (.int p5), .val (.int (3 : Int32)), .val (.int (1 : Int32)), .val (.ref b4), .val (.ref b18), .unset, .unset, .unset] [(.int v40)]) := fun t kt => K41 t (by
    by_cases hc116_38 : (nar .byte (p4.toInt8.toInt32)) = (0 : Int32)
    · skip
      show Steps p.tables e below (T32.setTop (mkF m 116 #[.val (.int p1), .val (.int p2), .val (.int p3), .val (.int p4), .val (.int p5), .val (.int (3 : Int32)), .val (.int (1 : Int32)), .val (.ref b4), .val (.ref b18), .unset, .unset, .unset] [(.int (nar .byte (p4.toInt8.toInt32)))])) _
      refine XS.ifNo X32.here hx rfl (hb hby at_116) rfl ((if0 _ _).trans (teq hc116_38).2) ?_
      show Steps p.tables e below (T32.setTop (mkF m 119 #[.val (.int p1), .val (.int p2), .val (.int p3), .val (.int p4), .val (.int p5), .val (.int (3 : Int32)), .val (.int (1 : Int32)), .val (.ref b4), .val (.ref b18), .unset, .unset, .unset] [])) _
      refine XS.iconst X32.here hx rfl (hb hby at_119) ?_
      show Steps p.tables e below (T32.setTop (mkF m 120 #[.val (.int p1), .val (.int p2), .val (.int p3), .val (.int p4), .val (.int p5), .val (.int (3 : Int32)), .val (.int (1 : Int32)), .val (.ref b4), .val (.ref b18), .unset, .unset, .unset] [(.int (1 : Int32))])) _
      refine XS.goto X32.here hx rfl (pc0 := 120) (pc' := 124) rfl (hb hby at_120) (by decide) (by decide) ?_
      show Steps p.tables e below (T32.setTop (mkF m 124 #[.val (.int p1), .val (.int p2), .val (.int p3), .val (.int p4), .val (.int p5), .val (.int (3 : Int32)), .val (.int (1 : Int32)), .val (.ref b4), .val (.ref b18), .unset, .unset, .unset] [(.int (1 : Int32))])) _
      exact castTop (by simp only [hv40, if_pos hc116_38]) kt
    · skip
      show Steps p.tables e below (T32.setTop (mkF m 116 #[.val (.int p1), .val (.int p2), .val (.int p3), .val (.int p4), .val (.int p5), .val (.int (3 : Int32)), .val (.int (1 : Int32)), .val (.ref b4), .val (.ref b18), .unset, .unset, .unset] [(.int (nar .byte (p4.toInt8.toInt32)))])) _
      refine XS.ifYes X32.here hx rfl (pc0 := 116) (pc' := 123) rfl (hb hby at_116) rfl ((if0 _ _).trans (feq hc116_38).2) (by decide) (by decide) ?_
      show Steps p.tables e below (T32.setTop (mkF m 123 #[.val (.int p1), .val (.int p2), .val (.int p3), .val (.int p4), .val (.int p5), .val (.int (3 : Int32)), .val (.int (1 : Int32)), .val (.ref b4), .val (.ref b18), .unset, .unset, .unset] [])) _
      refine XS.iconst X32.here hx rfl (hb hby at_123) ?_
      show Steps p.tables e below (T32.setTop (mkF m 124 #[.val (.int p1), .val (.int p2), .val (.int p3), .val (.int p4), .val (.int p5), .val (.int (3 : Int32)), .val (.int (1 : Int32)), .val (.ref b4), .val (.ref b18), .unset, .unset, .unset] [(.int (0 : Int32))])) _
      exact castTop (by simp only [hv40, if_neg hc116_38]) kt)
  have K43 : Gx p e below s₁ f0 T32 (mkF m 128 #[.val (.int p1), .val (.int p2), .val (.int p3), .val (.int p4), .val (.int p5), .val (.int (3 : Int32)), .val (.int (1 : Int32)), .val (.ref b4), .val (.ref b18), .val (.int v40), .unset, .unset] [(.ref b18)]) := fun t kt => K42 t (by
    show Steps p.tables e below (T32.setTop (mkF m 124 #[.val (.int p1), .val (.int p2), .val (.int p3), .val (.int p4), .val (.int p5), .val (.int (3 : Int32)), .val (.int (1 : Int32)), .val (.ref b4), .val (.ref b18), .unset, .unset, .unset] [(.int v40)])) _
    refine XS.istore X32.here hx rfl (hb hby at_124) rfl (l' := #[.val (.int p1), .val (.int p2), .val (.int p3), .val (.int p4), .val (.int p5), .val (.int (3 : Int32)), .val (.int (1 : Int32)), .val (.ref b4), .val (.ref b18), .val (.int v40), .unset, .unset]) rfl ?_
    show Steps p.tables e below (T32.setTop (mkF m 126 #[.val (.int p1), .val (.int p2), .val (.int p3), .val (.int p4), .val (.int p5), .val (.int (3 : Int32)), .val (.int (1 : Int32)), .val (.ref b4), .val (.ref b18), .val (.int v40), .unset, .unset] [])) _
    refine XS.aload X32.here hx rfl (hb hby at_126) rfl rfl ?_
    exact kt)
  have kp44 : Keep h0 h32 [] := (Keep.trans kp31 Kc32 (allS (Or.inr (Nat.le_trans (((((Keep.refl h0 []).ext E4).wr W8 (Or.inr (Nat.le_trans (Keep.refl h0 []).1 (Nat.le_of_eq g4.symm)))).wr W12 (Or.inr (Nat.le_trans (Keep.refl h0 []).1 (Nat.le_of_eq g4.symm)))).wr W16 (Or.inr (Nat.le_trans (Keep.refl h0 []).1 (Nat.le_of_eq g4.symm)))).1 (Nat.le_of_eq g18.symm))) all0))
  obtain ⟨cq45, kq45, q45a, q45b, q45c⟩ := isOf hZ e32 f33
  obtain ⟨_, _, ⟨T45, L45, k45, n45⟩, -, X45', ⟨Lc45, hQ45, l45, y45, z45⟩, st45⟩ := X32.virtualBack hx (y := (⟨"com/example/looseleaf/looseleaf/pgwire/MessageBody", "atNul", "()Z"⟩ : MethodName)) (z := (⟨"com/example/looseleaf/looseleaf/pgwire/MessageBody", "atNul", "()Z"⟩ : MethodName)) hown (mvT hZ (hw _ (List.mem_of_getElem? (i := 12) rfl))) (mvT hZ (hw _ (List.mem_of_getElem? (i := 13) rfl))) (notFace_of_selects (args := #[]) (mvT hZ (hw _ (List.mem_of_getElem? (i := 15) rfl)))) (mvT hZ (hw _ (List.mem_of_getElem? (i := 15) rfl))) (mvT hZ (hw _ (List.mem_of_getElem? (i := 14) rfl))) (by decide) (backOf (W := 0) (rmAt1 l Z a0 hw [] b18 b4 (1 : Int32) k4 (3 : Int32) [(.int (nar .byte (p3.toInt8.toInt32))), (.int (nar .byte (p4.toInt8.toInt32))), (.int (nar .byte (p5.toInt8.toInt32)))] (nar .byte (p4.toInt8.toInt32)) h32 n0 (Nat.le_trans Z0 kp44.1) f34 f35 f37 (by decide) ⟨by decide, by decide⟩ rfl) hZ (hw _ (List.mem_of_getElem? (i := 16) rfl)) (hw _ (List.mem_of_getElem? (i := 3) rfl)) (by decide) (by decide)) q45a q45c (g := (mkF m 128 #[.val (.int p1), .val (.int p2), .val (.int p3), .val (.int p4), .val (.int p5), .val (.int (3 : Int32)), .val (.int (1 : Int32)), .val (.ref b4), .val (.ref b18), .val (.int v40), .unset, .unset] [(.ref b18)])) rfl (by rw [hml]; rfl) (Steps.refl _) (argsL := []) (rest := []) (lenOf pd___Z rfl) rfl (by show 2 * 0 + _ ≤ _; exact Nat.le_of_eq rfl) (hb hby at_128) (fun _ _ => ⟨rfl, e32, (by decide : 2 + 0 ≤ _), (by decide : 5 + 0 ≤ _)⟩)
  dsimp only [Pt.U, Pt.locs, Pt.cells, Pt.slots] at X45' l45 y45 z45 st45 hQ45
  subst l45 y45 z45
  obtain ⟨rfl, N45q, e45⟩ := hQ45
  obtain ⟨lc45, X45, N45⟩ : ∃ lc, Stand p l e room_1 s m #[(.int p1), (.int p2), (.int p3), (.int p4), (.int p5)] below meth c T45 lc 2 5 ∧ Fr n0 lc := ⟨_, X45', Fr.app N32 N45q⟩
  have K46 : Gx p e below s₁ f0 T45 (mkF m 131 #[.val (.int p1), .val (.int p2), .val (.int p3), .val (.int p4), .val (.int p5), .val (.int (3 : Int32)), .val (.int (1 : Int32)), .val (.ref b4), .val (.ref b18), .val (.int v40), .unset, .unset] [(.int (if (nar .byte (p4.toInt8.toInt32)) = (0 : Int32) then (1 : Int32) else (0 : Int32)))]) := fun t kt => K43 t (st45.trans kt)
  have K47 : Gx p e below s₁ f0 T45 (mkF m 135 #[.val (.int p1), .val (.int p2), .val (.int p3), .val (.int p4), .val (.int p5), .val (.int (3 : Int32)), .val (.int (1 : Int32)), .val (.ref b4), .val (.ref b18), .val (.int v40), .val (.int (if (nar .byte (p4.toInt8.toInt32)) = (0 : Int32) then (1 : Int32) else (0 : Int32))), .unset] [(.ref b18)]) := fun t kt => K46 t (by
    show Steps p.tables e below (T45.setTop (mkF m 131 #[.val (.int p1), .val (.int p2), .val (.int p3), .val (.int p4), .val (.int p5), .val (.int (3 : Int32)), .val (.int (1 : Int32)), .val (.ref b4), .val (.ref b18), .val (.int v40), .unset, .unset] [(.int (if (nar .byte (p4.toInt8.toInt32)) = (0 : Int32) then (1 : Int32) else (0 : Int32)))])) _
    refine XS.istore X45.here hx rfl (hb hby at_131) rfl (l' := #[.val (.int p1), .val (.int p2), .val (.int p3), .val (.int p4), .val (.int p5), .val (.int (3 : Int32)), .val (.int (1 : Int32)), .val (.ref b4), .val (.ref b18), .val (.int v40), .val (.int (if (nar .byte (p4.toInt8.toInt32)) = (0 : Int32) then (1 : Int32) else (0 : Int32))), .unset]) rfl ?_
    show Steps p.tables e below (T45.setTop (mkF m 133 #[.val (.int p1), .val (.int p2), .val (.int p3), .val (.int p4), .val (.int p5), .val (.int (3 : Int32)), .val (.int (1 : Int32)), .val (.ref b4), .val (.ref b18), .val (.int v40), .val (.int (if (nar .byte (p4.toInt8.toInt32)) = (0 : Int32) then (1 : Int32) else (0 : Int32))), .unset] [])) _
    refine XS.aload X45.here hx rfl (hb hby at_133) rfl rfl ?_
    exact kt)
  obtain ⟨cq48, kq48, q48a, q48b, q48c⟩ := isOf hZ e45 f33
  obtain ⟨_, _, ⟨T48, L48, k48, n48⟩, -, X48', ⟨Lc48, hQ48, l48, y48, z48⟩, st48⟩ := X45.virtualBack hx (y := (⟨"com/example/looseleaf/looseleaf/pgwire/MessageBody", "atNul", "()Z"⟩ : MethodName)) (z := (⟨"com/example/looseleaf/looseleaf/pgwire/MessageBody", "atNul", "()Z"⟩ : MethodName)) hown (mvT hZ (hw _ (List.mem_of_getElem? (i := 12) rfl))) (mvT hZ (hw _ (List.mem_of_getElem? (i := 13) rfl))) (notFace_of_selects (args := #[]) (mvT hZ (hw _ (List.mem_of_getElem? (i := 15) rfl)))) (mvT hZ (hw _ (List.mem_of_getElem? (i := 15) rfl))) (mvT hZ (hw _ (List.mem_of_getElem? (i := 14) rfl))) (by decide) (backOf (W := 0) (rmAt1 l Z a0 hw [] b18 b4 (1 : Int32) k4 (3 : Int32) [(.int (nar .byte (p3.toInt8.toInt32))), (.int (nar .byte (p4.toInt8.toInt32))), (.int (nar .byte (p5.toInt8.toInt32)))] (nar .byte (p4.toInt8.toInt32)) h32 n0 (Nat.le_trans Z0 kp44.1) f34 f35 f37 (by decide) ⟨by decide, by decide⟩ rfl) hZ (hw _ (List.mem_of_getElem? (i := 16) rfl)) (hw _ (List.mem_of_getElem? (i := 3) rfl)) (by decide) (by decide)) q48a q48c (g := (mkF m 135 #[.val (.int p1), .val (.int p2), .val (.int p3), .val (.int p4), .val (.int p5), .val (.int (3 : Int32)), .val (.int (1 : Int32)), .val (.ref b4), .val (.ref b18), .val (.int v40), .val (.int (if (nar .byte (p4.toInt8.toInt32)) = (0 : Int32) then (1 : Int32) else (0 : Int32))), .unset] [(.ref b18)])) rfl (by rw [hml]; rfl) (Steps.refl _) (argsL := []) (rest := []) (lenOf pd___Z rfl) rfl (by show 2 * 0 + _ ≤ _; exact Nat.le_of_eq rfl) (hb hby at_135) (fun _ _ => ⟨rfl, e45, (by decide : 2 + 0 ≤ _), (by decide : 5 + 0 ≤ _)⟩)
  dsimp only [Pt.U, Pt.locs, Pt.cells, Pt.slots] at X48' l48 y48 z48 st48 hQ48
  subst l48 y48 z48
  obtain ⟨rfl, N48q, e48⟩ := hQ48
  obtain ⟨lc48, X48, N48⟩ : ∃ lc, Stand p l e room_1 s m #[(.int p1), (.int p2), (.int p3), (.int p4), (.int p5)] below meth c T48 lc 2 5 ∧ Fr n0 lc := ⟨_, X48', Fr.app N45 N48q⟩
  have K49 : Gx p e below s₁ f0 T48 (mkF m 138 #[.val (.int p1), .val (.int p2), .val (.int p3), .val (.int p4), .val (.int p5), .val (.int (3 : Int32)), .val (.int (1 : Int32)), .val (.ref b4), .val (.ref b18), .val (.int v40), .val (.int (if (nar .byte (p4.toInt8.toInt32)) = (0 : Int32) then (1 : Int32) else (0 : Int32))), .unset] [(.int (if (nar .byte (p4.toInt8.toInt32)) = (0 : Int32) then (1 : Int32) else (0 : Int32)))]) := fun t kt => K47 t (st48.trans kt)
  have K50 : Gx p e below s₁ f0 T48 (mkF m 165 #[.val (.int p1), .val (.int p2), .val (.int p3), .val (.int p4), .val (.int p5), .val (.int (3 : Int32)), .val (.int (1 : Int32)), .val (.ref b4), .val (.ref b18), .val (.int v40), .val (.int (if (nar .byte (p4.toInt8.toInt32)) = (0 : Int32) then (1 : Int32) else (0 : Int32))), .val (.int (if (nar .byte (p4.toInt8.toInt32)) = (0 : Int32) then (1 : Int32) else (0 : Int32)))] [(.ref b18)]) := fun t kt => K49 t (by
    show Steps p.tables e below (T48.setTop (mkF m 138 #[.val (.int p1), .val (.int p2), .val (.int p3), .val (.int p4), .val (.int p5), .val (.int (3 : Int32)), .val (.int (1 : Int32)), .val (.ref b4), .val (.ref b18), .val (.int v40), .val (.int (if (nar .byte (p4.toInt8.toInt32)) = (0 : Int32) then (1 : Int32) else (0 : Int32))), .unset] [(.int (if (nar .byte (p4.toInt8.toInt32)) = (0 : Int32) then (1 : Int32) else (0 : Int32)))])) _
    refine XS.istore X48.here hx rfl (hb hby at_138) rfl (l' := #[.val (.int p1), .val (.int p2), .val (.int p3), .val (.int p4), .val (.int p5), .val (.int (3 : Int32)), .val (.int (1 : Int32)), .val (.ref b4), .val (.ref b18), .val (.int v40), .val (.int (if (nar .byte (p4.toInt8.toInt32)) = (0 : Int32) then (1 : Int32) else (0 : Int32))), .val (.int (if (nar .byte (p4.toInt8.toInt32)) = (0 : Int32) then (1 : Int32) else (0 : Int32)))]) rfl ?_
    show Steps p.tables e below (T48.setTop (mkF m 140 #[.val (.int p1), .val (.int p2), .val (.int p3), .val (.int p4), .val (.int p5), .val (.int (3 : Int32)), .val (.int (1 : Int32)), .val (.ref b4), .val (.ref b18), .val (.int v40), .val (.int (if (nar .byte (p4.toInt8.toInt32)) = (0 : Int32) then (1 : Int32) else (0 : Int32))), .val (.int (if (nar .byte (p4.toInt8.toInt32)) = (0 : Int32) then (1 : Int32) else (0 : Int32)))] [])) _
    refine XS.iload X48.here hx rfl (hb hby at_140) rfl ?_
    show Steps p.tables e below (T48.setTop (mkF m 142 #[.val (.int p1), .val (.int p2), .val (.int p3), .val (.int p4), .val (.int p5), .val (.int (3 : Int32)), .val (.int (1 : Int32)), .val (.ref b4), .val (.ref b18), .val (.int v40), .val (.int (if (nar .byte (p4.toInt8.toInt32)) = (0 : Int32) then (1 : Int32) else (0 : Int32))), .val (.int (if (nar .byte (p4.toInt8.toInt32)) = (0 : Int32) then (1 : Int32) else (0 : Int32)))] [(.int (if (nar .byte (p4.toInt8.toInt32)) = (0 : Int32) then (1 : Int32) else (0 : Int32)))])) _
    refine XS.iload X48.here hx rfl (hb hby at_142) rfl ?_
    show Steps p.tables e below (T48.setTop (mkF m 144 #[.val (.int p1), .val (.int p2), .val (.int p3), .val (.int p4), .val (.int p5), .val (.int (3 : Int32)), .val (.int (1 : Int32)), .val (.ref b4), .val (.ref b18), .val (.int v40), .val (.int (if (nar .byte (p4.toInt8.toInt32)) = (0 : Int32) then (1 : Int32) else (0 : Int32))), .val (.int (if (nar .byte (p4.toInt8.toInt32)) = (0 : Int32) then (1 : Int32) else (0 : Int32)))] [(.int v40), (.int (if (nar .byte (p4.toInt8.toInt32)) = (0 : Int32) then (1 : Int32) else (0 : Int32)))])) _
    refine XS.icmpNo X48.here hx rfl (hb hby at_144) rfl (teq (by rw [hv40])).2 ?_
    show Steps p.tables e below (T48.setTop (mkF m 147 #[.val (.int p1), .val (.int p2), .val (.int p3), .val (.int p4), .val (.int p5), .val (.int (3 : Int32)), .val (.int (1 : Int32)), .val (.ref b4), .val (.ref b18), .val (.int v40), .val (.int (if (nar .byte (p4.toInt8.toInt32)) = (0 : Int32) then (1 : Int32) else (0 : Int32))), .val (.int (if (nar .byte (p4.toInt8.toInt32)) = (0 : Int32) then (1 : Int32) else (0 : Int32)))] [])) _
    refine XS.iload X48.here hx rfl (hb hby at_147) rfl ?_
    show Steps p.tables e below (T48.setTop (mkF m 149 #[.val (.int p1), .val (.int p2), .val (.int p3), .val (.int p4), .val (.int p5), .val (.int (3 : Int32)), .val (.int (1 : Int32)), .val (.ref b4), .val (.ref b18), .val (.int v40), .val (.int (if (nar .byte (p4.toInt8.toInt32)) = (0 : Int32) then (1 : Int32) else (0 : Int32))), .val (.int (if (nar .byte (p4.toInt8.toInt32)) = (0 : Int32) then (1 : Int32) else (0 : Int32)))] [(.int (if (nar .byte (p4.toInt8.toInt32)) = (0 : Int32) then (1 : Int32) else (0 : Int32)))])) _
    refine XS.iload X48.here hx rfl (hb hby at_149) rfl ?_
    show Steps p.tables e below (T48.setTop (mkF m 151 #[.val (.int p1), .val (.int p2), .val (.int p3), .val (.int p4), .val (.int p5), .val (.int (3 : Int32)), .val (.int (1 : Int32)), .val (.ref b4), .val (.ref b18), .val (.int v40), .val (.int (if (nar .byte (p4.toInt8.toInt32)) = (0 : Int32) then (1 : Int32) else (0 : Int32))), .val (.int (if (nar .byte (p4.toInt8.toInt32)) = (0 : Int32) then (1 : Int32) else (0 : Int32)))] [(.int v40), (.int (if (nar .byte (p4.toInt8.toInt32)) = (0 : Int32) then (1 : Int32) else (0 : Int32)))])) _
    refine XS.icmpYes X48.here hx rfl (pc0 := 151) (pc' := 156) rfl (hb hby at_151) rfl (teq (by rw [hv40])).1 (by decide) (by decide) ?_
    show Steps p.tables e below (T48.setTop (mkF m 156 #[.val (.int p1), .val (.int p2), .val (.int p3), .val (.int p4), .val (.int p5), .val (.int (3 : Int32)), .val (.int (1 : Int32)), .val (.ref b4), .val (.ref b18), .val (.int v40), .val (.int (if (nar .byte (p4.toInt8.toInt32)) = (0 : Int32) then (1 : Int32) else (0 : Int32))), .val (.int (if (nar .byte (p4.toInt8.toInt32)) = (0 : Int32) then (1 : Int32) else (0 : Int32)))] [])) _
    refine XS.iload X48.here hx rfl (hb hby at_156) rfl ?_
    show Steps p.tables e below (T48.setTop (mkF m 158 #[.val (.int p1), .val (.int p2), .val (.int p3), .val (.int p4), .val (.int p5), .val (.int (3 : Int32)), .val (.int (1 : Int32)), .val (.ref b4), .val (.ref b18), .val (.int v40), .val (.int (if (nar .byte (p4.toInt8.toInt32)) = (0 : Int32) then (1 : Int32) else (0 : Int32))), .val (.int (if (nar .byte (p4.toInt8.toInt32)) = (0 : Int32) then (1 : Int32) else (0 : Int32)))] [(.int (1 : Int32))])) _
    refine XS.iload X48.here hx rfl (hb hby at_158) rfl ?_
    show Steps p.tables e below (T48.setTop (mkF m 160 #[.val (.int p1), .val (.int p2), .val (.int p3), .val (.int p4), .val (.int p5), .val (.int (3 : Int32)), .val (.int (1 : Int32)), .val (.ref b4), .val (.ref b18), .val (.int v40), .val (.int (if (nar .byte (p4.toInt8.toInt32)) = (0 : Int32) then (1 : Int32) else (0 : Int32))), .val (.int (if (nar .byte (p4.toInt8.toInt32)) = (0 : Int32) then (1 : Int32) else (0 : Int32)))] [(.int (3 : Int32)), (.int (1 : Int32))])) _
    refine XS.icmpNo X48.here hx rfl (hb hby at_160) rfl (tlt (by decide)).2.1 ?_
    show Steps p.tables e below (T48.setTop (mkF m 163 #[.val (.int p1), .val (.int p2), .val (.int p3), .val (.int p4), .val (.int p5), .val (.int (3 : Int32)), .val (.int (1 : Int32)), .val (.ref b4), .val (.ref b18), .val (.int v40), .val (.int (if (nar .byte (p4.toInt8.toInt32)) = (0 : Int32) then (1 : Int32) else (0 : Int32))), .val (.int (if (nar .byte (p4.toInt8.toInt32)) = (0 : Int32) then (1 : Int32) else (0 : Int32)))] [])) _
    refine XS.aload X48.here hx rfl (hb hby at_163) rfl rfl ?_
    exact kt)
  obtain ⟨cq51, kq51, q51a, q51b, q51c⟩ := isOf hZ e48 f33
  obtain ⟨_, _, ⟨T51, L51, k51, n51⟩, -, X51', ⟨Lc51, hQ51, l51, y51, z51⟩, st51⟩ := X48.virtualBack hx (y := (⟨"com/example/looseleaf/looseleaf/pgwire/MessageBody", "byte1", "()I"⟩ : MethodName)) (z := (⟨"com/example/looseleaf/looseleaf/pgwire/MessageBody", "byte1", "()I"⟩ : MethodName)) hown (mvT hZ (hw _ (List.mem_of_getElem? (i := 19) rfl))) (mvT hZ (hw _ (List.mem_of_getElem? (i := 20) rfl))) (notFace_of_selects (args := #[]) (mvT hZ (hw _ (List.mem_of_getElem? (i := 22) rfl)))) (mvT hZ (hw _ (List.mem_of_getElem? (i := 22) rfl))) (mvT hZ (hw _ (List.mem_of_getElem? (i := 21) rfl))) (by decide) (backOf (W := 0) (rmBy1 l Z a0 hw [] b18 b4 (1 : Int32) k4 (3 : Int32) [(.int (nar .byte (p3.toInt8.toInt32))), (.int (nar .byte (p4.toInt8.toInt32))), (.int (nar .byte (p5.toInt8.toInt32)))] (nar .byte (p4.toInt8.toInt32)) (2 : Int32) h32 n0 (Nat.le_trans Z0 kp44.1) f33 (Nat.le_trans Z0 (Nat.le_trans (((((Keep.refl h0 []).ext E4).wr W8 (Or.inr (Nat.le_trans (Keep.refl h0 []).1 (Nat.le_of_eq g4.symm)))).wr W12 (Or.inr (Nat.le_trans (Keep.refl h0 []).1 (Nat.le_of_eq g4.symm)))).wr W16 (Or.inr (Nat.le_trans (Keep.refl h0 []).1 (Nat.le_of_eq g4.symm)))).1 (Nat.le_of_eq g18.symm))) f34 f35 f37 (Ne.symm (Nat.ne_of_lt (Nat.lt_of_lt_of_le V16.lt (Nat.le_of_eq g18.symm)))) (by decide) ⟨by decide, by decide⟩ rfl (by decide)) hZ (hw _ (List.mem_of_getElem? (i := 23) rfl)) (hw _ (List.mem_of_getElem? (i := 3) rfl)) (by decide) (by decide)) q51a q51c (g := (mkF m 165 #[.val (.int p1), .val (.int p2), .val (.int p3), .val (.int p4), .val (.int p5), .val (.int (3 : Int32)), .val (.int (1 : Int32)), .val (.ref b4), .val (.ref b18), .val (.int v40), .val (.int (if (nar .byte (p4.toInt8.toInt32)) = (0 : Int32) then (1 : Int32) else (0 : Int32))), .val (.int (if (nar .byte (p4.toInt8.toInt32)) = (0 : Int32) then (1 : Int32) else (0 : Int32)))] [(.ref b18)])) rfl (by rw [hml]; rfl) (Steps.refl _) (argsL := []) (rest := []) (lenOf pd___I rfl) rfl (by show 2 * 0 + _ ≤ _; exact Nat.le_of_eq rfl) (hb hby at_165) (fun _ _ => ⟨rfl, e48, (by decide : 2 + 0 ≤ _), (by decide : 5 + 0 ≤ _)⟩)
  dsimp only [Pt.U, Pt.locs, Pt.cells, Pt.slots] at X51' l51 y51 z51 st51 hQ51
  subst l51 y51 z51
  obtain ⟨h51, e51⟩ : ∃ z, T51.heap = z := ⟨_, rfl⟩
  rw [e51] at hQ51
  obtain ⟨rfl, N51q, Kc51, f52, f53, f54⟩ := hQ51
  obtain ⟨lc51, X51, N51⟩ : ∃ lc, Stand p l e room_1 s m #[(.int p1), (.int p2), (.int p3), (.int p4), (.int p5)] below meth c T51 lc 2 5 ∧ Fr n0 lc := ⟨_, X51', Fr.app N48 N51q⟩
  have K55 : Gx p e below s₁ f0 T51 (mkF m 168 #[.val (.int p1), .val (.int p2), .val (.int p3), .val (.int p4), .val (.int p5), .val (.int (3 : Int32)), .val (.int (1 : Int32)), .val (.ref b4), .val (.ref b18), .val (.int v40), .val (.int (if (nar .byte (p4.toInt8.toInt32)) = (0 : Int32) then (1 : Int32) else (0 : Int32))), .val (.int (if (nar .byte (p4.toInt8.toInt32)) = (0 : Int32) then (1 : Int32) else (0 : Int32)))] [(.int ((nar .byte (p4.toInt8.toInt32)) &&& (255 : Int32)))]) := fun t kt => K50 t (st51.trans kt)
  have f56 : Arv Z h51 b4 k4 .byte (3 : Int32) [(.int (nar .byte (p3.toInt8.toInt32))), (.int (nar .byte (p4.toInt8.toInt32))), (.int (nar .byte (p5.toInt8.toInt32)))] (.int (0 : Int32)) := (f37.keep Kc51 (ninS (Nat.ne_of_lt (Nat.lt_of_lt_of_le V16.lt (Nat.le_of_eq g18.symm))) nin0))
  obtain ⟨clq57, Arq57, ckq57, cSq57, cNq57, cHq57, cGq57⟩ := id f56
  have K58 : Gx p e below s₁ f0 T51 (mkF m 185 #[.val (.int p1), .val (.int p2), .val (.int p3), .val (.int p4), .val (.int p5), .val (.int (3 : Int32)), .val (.int (1 : Int32)), .val (.ref b4), .val (.ref b18), .val (.int v40), .val (.int (if (nar .byte (p4.toInt8.toInt32)) = (0 : Int32) then (1 : Int32) else (0 : Int32))), .val (.int (if (nar .byte (p4.toInt8.toInt32)) = (0 : Int32) then (1 : Int32) else (0 : Int32)))] [(.int (1 : Int32))]) := fun t kt => K55 t (by
    show Steps p.tables e below (T51.setTop (mkF m 168 #[.val (.int p1), .val (.int p2), .val (.int p3), .val (.int p4), .val (.int p5), .val (.int (3 : Int32)), .val (.int (1 : Int32)), .val (.ref b4), .val (.ref b18), .val (.int v40), .val (.int (if (nar .byte (p4.toInt8.toInt32)) = (0 : Int32) then (1 : Int32) else (0 : Int32))), .val (.int (if (nar .byte (p4.toInt8.toInt32)) = (0 : Int32) then (1 : Int32) else (0 : Int32)))] [(.int ((nar .byte (p4.toInt8.toInt32)) &&& (255 : Int32)))])) _
    refine XS.aload X51.here hx rfl (hb hby at_168) rfl rfl ?_
    show Steps p.tables e below (T51.setTop (mkF m 170 #[.val (.int p1), .val (.int p2), .val (.int p3), .val (.int p4), .val (.int p5), .val (.int (3 : Int32)), .val (.int (1 : Int32)), .val (.ref b4), .val (.ref b18), .val (.int v40), .val (.int (if (nar .byte (p4.toInt8.toInt32)) = (0 : Int32) then (1 : Int32) else (0 : Int32))), .val (.int (if (nar .byte (p4.toInt8.toInt32)) = (0 : Int32) then (1 : Int32) else (0 : Int32)))] [(.ref b4), (.int ((nar .byte (p4.toInt8.toInt32)) &&& (255 : Int32)))])) _
    refine XS.iload X51.here hx rfl (hb hby at_170) rfl ?_
    show Steps p.tables e below (T51.setTop (mkF m 172 #[.val (.int p1), .val (.int p2), .val (.int p3), .val (.int p4), .val (.int p5), .val (.int (3 : Int32)), .val (.int (1 : Int32)), .val (.ref b4), .val (.ref b18), .val (.int v40), .val (.int (if (nar .byte (p4.toInt8.toInt32)) = (0 : Int32) then (1 : Int32) else (0 : Int32))), .val (.int (if (nar .byte (p4.toInt8.toInt32)) = (0 : Int32) then (1 : Int32) else (0 : Int32)))] [(.int (1 : Int32)), (.ref b4), (.int ((nar .byte (p4.toInt8.toInt32)) &&& (255 : Int32)))])) _
    refine X51.baloadBytes hx (j := (1 : Int32)) (v := (.int (nar .byte (p4.toInt8.toInt32)))) (by rw [e51]; exact Arq57.1) (State.isArrayOf_alike hZ.alike Arq57.2.1) Arq57.2.2 (inb_of cSq57 ⟨by decide, by decide⟩) (Has.at cHq57 (inb_of cSq57 ⟨by decide, by decide⟩) rfl) (g := (mkF m 172 #[.val (.int p1), .val (.int p2), .val (.int p3), .val (.int p4), .val (.int p5), .val (.int (3 : Int32)), .val (.int (1 : Int32)), .val (.ref b4), .val (.ref b18), .val (.int v40), .val (.int (if (nar .byte (p4.toInt8.toInt32)) = (0 : Int32) then (1 : Int32) else (0 : Int32))), .val (.int (if (nar .byte (p4.toInt8.toInt32)) = (0 : Int32) then (1 : Int32) else (0 : Int32)))] [(.int (1 : Int32)), (.ref b4), (.int ((nar .byte (p4.toInt8.toInt32)) &&& (255 : Int32)))])) rfl rfl (hb hby at_172) _ ?_
    show Steps p.tables e below (T51.setTop (mkF m 173 #[.val (.int p1), .val (.int p2), .val (.int p3), .val (.int p4), .val (.int p5), .val (.int (3 : Int32)), .val (.int (1 : Int32)), .val (.ref b4), .val (.ref b18), .val (.int v40), .val (.int (if (nar .byte (p4.toInt8.toInt32)) = (0 : Int32) then (1 : Int32) else (0 : Int32))), .val (.int (if (nar .byte (p4.toInt8.toInt32)) = (0 : Int32) then (1 : Int32) else (0 : Int32)))] [(.int (nar .byte (p4.toInt8.toInt32))), (.int ((nar .byte (p4.toInt8.toInt32)) &&& (255 : Int32)))])) _
    refine XS.sipush X51.here hx rfl (hb hby at_173) ?_
    show Steps p.tables e below (T51.setTop (mkF m 176 #[.val (.int p1), .val (.int p2), .val (.int p3), .val (.int p4), .val (.int p5), .val (.int (3 : Int32)), .val (.int (1 : Int32)), .val (.ref b4), .val (.ref b18), .val (.int v40), .val (.int (if (nar .byte (p4.toInt8.toInt32)) = (0 : Int32) then (1 : Int32) else (0 : Int32))), .val (.int (if (nar .byte (p4.toInt8.toInt32)) = (0 : Int32) then (1 : Int32) else (0 : Int32)))] [(.int (255 : Int32)), (.int (nar .byte (p4.toInt8.toInt32))), (.int ((nar .byte (p4.toInt8.toInt32)) &&& (255 : Int32)))])) _
    refine XS.iand X51.here hx rfl (hb hby at_176) rfl ?_
    show Steps p.tables e below (T51.setTop (mkF m 177 #[.val (.int p1), .val (.int p2), .val (.int p3), .val (.int p4), .val (.int p5), .val (.int (3 : Int32)), .val (.int (1 : Int32)), .val (.ref b4), .val (.ref b18), .val (.int v40), .val (.int (if (nar .byte (p4.toInt8.toInt32)) = (0 : Int32) then (1 : Int32) else (0 : Int32))), .val (.int (if (nar .byte (p4.toInt8.toInt32)) = (0 : Int32) then (1 : Int32) else (0 : Int32)))] [(.int ((nar .byte (p4.toInt8.toInt32)) &&& (255 : Int32))), (.int ((nar .byte (p4.toInt8.toInt32)) &&& (255 : Int32)))])) _
    refine XS.icmpNo X51.here hx rfl (hb hby at_177) rfl (teq rfl).2 ?_
    show Steps p.tables e below (T51.setTop (mkF m 180 #[.val (.int p1), .val (.int p2), .val (.int p3), .val (.int p4), .val (.int p5), .val (.int (3 : Int32)), .val (.int (1 : Int32)), .val (.ref b4), .val (.ref b18), .val (.int v40), .val (.int (if (nar .byte (p4.toInt8.toInt32)) = (0 : Int32) then (1 : Int32) else (0 : Int32))), .val (.int (if (nar .byte (p4.toInt8.toInt32)) = (0 : Int32) then (1 : Int32) else (0 : Int32)))] [])) _
    refine XS.iconst X51.here hx rfl (hb hby at_180) ?_
    show Steps p.tables e below (T51.setTop (mkF m 181 #[.val (.int p1), .val (.int p2), .val (.int p3), .val (.int p4), .val (.int p5), .val (.int (3 : Int32)), .val (.int (1 : Int32)), .val (.ref b4), .val (.ref b18), .val (.int v40), .val (.int (if (nar .byte (p4.toInt8.toInt32)) = (0 : Int32) then (1 : Int32) else (0 : Int32))), .val (.int (if (nar .byte (p4.toInt8.toInt32)) = (0 : Int32) then (1 : Int32) else (0 : Int32)))] [(.int (1 : Int32))])) _
    refine XS.goto X51.here hx rfl (pc0 := 181) (pc' := 185) rfl (hb hby at_181) (by decide) (by decide) ?_
    exact kt)
  obtain ⟨fs59, hr59, hrun59, hended59, hW59, hsame59⟩ := X51.leave (v := some (.int (1 : Int32))) (fun h => by rw [Bd.returns] at h; cases h)
  refine ⟨_, _, pre0 _ (K58 _ ?_), hrun59, hended59, _, _, rfl, ?_, ⟨_, rfl⟩, hW59, hsame59.mono (by decide) (by decide)⟩
  · exact retN X51 hx (t := .boolean) Bd.returns (by simp) (hb hby at_185) hr59
  · show Q0 Z p1 p2 p3 p4 p5 h0 n0 _ T51.heap _
    rw [e51]
    exact ⟨rfl, N51⟩
theorem ef_0_32 (m : MethodId) (p1 : Int32) (p2 : Int32) (p3 : Int32) (p4 : Int32) (p5 : Int32) : entryFrame m #[(.int p1), (.int p2), (.int p3), (.int p4), (.int p5)] maxLocals = mkF m 0 #[.val (.int p1), .val (.int p2), .val (.int p3), .val (.int p4), .val (.int p5), .unset, .unset, .unset, .unset, .unset, .unset, .unset] [] := by first | (simp [entryFrame, mkF, argsToLocals, Value.category, maxLocals]; done) | rfl
set_option maxRecDepth 65536 in
set_option maxHeartbeats 40000000 in
theorem rm0_32 (l : Launch) (Z : State) (a0 : Array Value) (hw : ∀ d ∈ tables_1, d.before a0 Z = true) (ws : List Jvm.Cond) (p1 : Int32) (p2 : Int32) (p3 : Int32) (p4 : Int32) (p5 : Int32) (h0 : Heap) (n0 : Nat) (Z0 : n0 ≤ h0.size) (hn_ : (p1 &&& (3 : Int32)) = (3 : Int32)) (hk_ : ((p2 &&& (3 : Int32)) % (4 : Int32)) = (2 : Int32)) :
    MetFree l x (head1 (Jvm.Cond.code x code maxLocals ret :: ws) room_1) (fun a U => a = #[(.int p1), (.int p2), (.int p3), (.int p4), (.int p5)] ∧ Z.Warmed39 U.vm ∧ U.heap = h0) (fun _ _ _ _ _ => True) (fun _ U o U' => ∃ v L, o = .returned v ∧ Q0 Z p1 p2 p3 p4 p5 h0 n0 v U'.heap L ∧ FrameEnd U o U' L room_1.cells room_1.slots) := by
  refine MetFree.of_bodySF (plainFor_of_name pn_0) hisR ?_
  intro p e s m args below meth c s₁ Bd hml0 hP hK
  obtain ⟨rfl, hZ, hh⟩ := hP
  have hx := Bd.exec
  have hby := Bd.bytes
  have hml : c.maxLocals = 12 := hml0
  have hown : s.vm.findClass "com/example/looseleaf/looseleaf/pgwire/MessageBodyAtNulPinLaw" = some m.cls := findClass_of_methodNamed Bd.named
  have hnm := (name_of_methodNamed Bd.named Bd.method).1
  have X0 : Stand p l e room_1 s m #[(.int p1), (.int p2), (.int p3), (.int p4), (.int p5)] below meth c s₁ [] 0 0 := Stand.of_body Bd
  have hs0 : h0 = s.heap := hh.symm
  have e0 : s₁.heap = h0 := by rw [← hh, Bd.state]; rfl
  have N0 := Fr.nil n0
  obtain ⟨f0, hf0⟩ : ∃ f, f = entryFrame m #[(.int p1), (.int p2), (.int p3), (.int p4), (.int p5)] maxLocals := ⟨_, rfl⟩
  have pre0 : ∀ t, Steps p.tables e below (s₁.setTop f0) t → Steps p.tables e below (s₁.setTop (entryFrame m #[(.int p1), (.int p2), (.int p3), (.int p4), (.int p5)] maxLocals)) t := fun t k => hf0 ▸ k
  have K0 : Gx p e below s₁ f0 s₁ (mkF m 0 #[.val (.int p1), .val (.int p2), .val (.int p3), .val (.int p4), .val (.int p5), .unset, .unset, .unset, .unset, .unset, .unset, .unset] []) := fun t kt => by rw [hf0]; exact castTop (ef_0_32 m p1 p2 p3 p4 p5) kt
  have K1 : Gx p e below s₁ f0 s₁ (mkF m 5 #[.val (.int p1), .val (.int p2), .val (.int p3), .val (.int p4), .val (.int p5), .val (.int (p1 &&& (3 : Int32))), .unset, .unset, .unset, .unset, .unset, .unset] []) := fun t kt => K0 t (by
    show Steps p.tables e below (s₁.setTop (mkF m 0 #[.val (.int p1), .val (.int p2), .val (.int p3), .val (.int p4), .val (.int p5), .unset, .unset, .unset, .unset, .unset, .unset, .unset] [])) _
    refine XS.iloadN X0.here hx rfl (hb hby at_0) rfl ?_
    show Steps p.tables e below (s₁.setTop (mkF m 1 #[.val (.int p1), .val (.int p2), .val (.int p3), .val (.int p4), .val (.int p5), .unset, .unset, .unset, .unset, .unset, .unset, .unset] [(.int p1)])) _
    refine XS.iconst X0.here hx rfl (hb hby at_1) ?_
    show Steps p.tables e below (s₁.setTop (mkF m 2 #[.val (.int p1), .val (.int p2), .val (.int p3), .val (.int p4), .val (.int p5), .unset, .unset, .unset, .unset, .unset, .unset, .unset] [(.int (3 : Int32)), (.int p1)])) _
    refine XS.iand X0.here hx rfl (hb hby at_2) rfl ?_
    show Steps p.tables e below (s₁.setTop (mkF m 3 #[.val (.int p1), .val (.int p2), .val (.int p3), .val (.int p4), .val (.int p5), .unset, .unset, .unset, .unset, .unset, .unset, .unset] [(.int (p1 &&& (3 : Int32)))])) _
    refine XS.istore X0.here hx rfl (hb hby at_3) rfl (l' := #[.val (.int p1), .val (.int p2), .val (.int p3), .val (.int p4), .val (.int p5), .val (.int (p1 &&& (3 : Int32))), .unset, .unset, .unset, .unset, .unset, .unset]) rfl ?_
    exact kt)
  rw [hn_] at K1
  have K2 : Gx p e below s₁ f0 s₁ (mkF m 15 #[.val (.int p1), .val (.int p2), .val (.int p3), .val (.int p4), .val (.int p5), .val (.int (3 : Int32)), .val (.int ((p2 &&& (3 : Int32)) % (4 : Int32))), .unset, .unset, .unset, .unset, .unset] []) := fun t kt => K1 t (by
    show Steps p.tables e below (s₁.setTop (mkF m 5 #[.val (.int p1), .val (.int p2), .val (.int p3), .val (.int p4), .val (.int p5), .val (.int (3 : Int32)), .unset, .unset, .unset, .unset, .unset, .unset] [])) _
    refine XS.iloadN X0.here hx rfl (hb hby at_5) rfl ?_
    show Steps p.tables e below (s₁.setTop (mkF m 6 #[.val (.int p1), .val (.int p2), .val (.int p3), .val (.int p4), .val (.int p5), .val (.int (3 : Int32)), .unset, .unset, .unset, .unset, .unset, .unset] [(.int p2)])) _
    refine XS.iconst X0.here hx rfl (hb hby at_6) ?_
    show Steps p.tables e below (s₁.setTop (mkF m 7 #[.val (.int p1), .val (.int p2), .val (.int p3), .val (.int p4), .val (.int p5), .val (.int (3 : Int32)), .unset, .unset, .unset, .unset, .unset, .unset] [(.int (3 : Int32)), (.int p2)])) _
    refine XS.iand X0.here hx rfl (hb hby at_7) rfl ?_
    show Steps p.tables e below (s₁.setTop (mkF m 8 #[.val (.int p1), .val (.int p2), .val (.int p3), .val (.int p4), .val (.int p5), .val (.int (3 : Int32)), .unset, .unset, .unset, .unset, .unset, .unset] [(.int (p2 &&& (3 : Int32)))])) _
    refine XS.iload X0.here hx rfl (hb hby at_8) rfl ?_
    show Steps p.tables e below (s₁.setTop (mkF m 10 #[.val (.int p1), .val (.int p2), .val (.int p3), .val (.int p4), .val (.int p5), .val (.int (3 : Int32)), .unset, .unset, .unset, .unset, .unset, .unset] [(.int (3 : Int32)), (.int (p2 &&& (3 : Int32)))])) _
    refine XS.iconst X0.here hx rfl (hb hby at_10) ?_
    show Steps p.tables e below (s₁.setTop (mkF m 11 #[.val (.int p1), .val (.int p2), .val (.int p3), .val (.int p4), .val (.int p5), .val (.int (3 : Int32)), .unset, .unset, .unset, .unset, .unset, .unset] [(.int (1 : Int32)), (.int (3 : Int32)), (.int (p2 &&& (3 : Int32)))])) _
    refine XS.iadd X0.here hx rfl (hb hby at_11) rfl ?_
    show Steps p.tables e below (s₁.setTop (mkF m 12 #[.val (.int p1), .val (.int p2), .val (.int p3), .val (.int p4), .val (.int p5), .val (.int (3 : Int32)), .unset, .unset, .unset, .unset, .unset, .unset] [(.int (4 : Int32)), (.int (p2 &&& (3 : Int32)))])) _
    refine iremM X0 hx rfl (hb hby at_12) rfl (by decide) ?_
    show Steps p.tables e below (s₁.setTop (mkF m 13 #[.val (.int p1), .val (.int p2), .val (.int p3), .val (.int p4), .val (.int p5), .val (.int (3 : Int32)), .unset, .unset, .unset, .unset, .unset, .unset] [(.int ((p2 &&& (3 : Int32)) % (4 : Int32)))])) _
    refine XS.istore X0.here hx rfl (hb hby at_13) rfl (l' := #[.val (.int p1), .val (.int p2), .val (.int p3), .val (.int p4), .val (.int p5), .val (.int (3 : Int32)), .val (.int ((p2 &&& (3 : Int32)) % (4 : Int32))), .unset, .unset, .unset, .unset, .unset]) rfl ?_
    exact kt)
  rw [hk_] at K2
  have K3 : Gx p e below s₁ f0 s₁ (mkF m 17 #[.val (.int p1), .val (.int p2), .val (.int p3), .val (.int p4), .val (.int p5), .val (.int (3 : Int32)), .val (.int (2 : Int32)), .unset, .unset, .unset, .unset, .unset] [(.int (3 : Int32))]) := fun t kt => K2 t (by
    show Steps p.tables e below (s₁.setTop (mkF m 15 #[.val (.int p1), .val (.int p2), .val (.int p3), .val (.int p4), .val (.int p5), .val (.int (3 : Int32)), .val (.int (2 : Int32)), .unset, .unset, .unset, .unset, .unset] [])) _
    refine XS.iload X0.here hx rfl (hb hby at_15) rfl ?_
    exact kt)
  obtain ⟨T4, h4, k4, X4, e4, E4, A4, st4⟩ := newP X0 hx hZ (hw _ (List.mem_of_getElem? (i := 0) rfl)) e0 (g := (mkF m 17 #[.val (.int p1), .val (.int p2), .val (.int p3), .val (.int p4), .val (.int p5), .val (.int (3 : Int32)), .val (.int (2 : Int32)), .unset, .unset, .unset, .unset, .unset] [(.int (3 : Int32))])) rfl (hb hby at_17) rfl (by decide) (cap := 3) (by decide) (by decide) (by decide) (by decide)
  obtain ⟨b4, g4⟩ : ∃ z, z = h0.size := ⟨_, rfl⟩
  rw [← g4] at A4 st4
  have V4 : Arv Z h4 b4 k4 .byte (3 : Int32) [(.int (0 : Int32)), (.int (0 : Int32)), (.int (0 : Int32))] (.int (0 : Int32)) := (Arv.new A4 (by decide)).pad (pad_rep [] (.int (0 : Int32)) 3)
  have K5 : Gx p e below s₁ f0 T4 (mkF m 19 #[.val (.int p1), .val (.int p2), .val (.int p3), .val (.int p4), .val (.int p5), .val (.int (3 : Int32)), .val (.int (2 : Int32)), .unset, .unset, .unset, .unset, .unset] [(.ref b4)]) := fun t kt => K3 t (st4 t kt)
  have K6 : Gx p e below s₁ f0 T4 (mkF m 31 #[.val (.int p1), .val (.int p2), .val (.int p3), .val (.int p4), .val (.int p5), .val (.int (3 : Int32)), .val (.int (2 : Int32)), .val (.ref b4), .unset, .unset, .unset, .unset] [(.int (p3.toInt8.toInt32)), (.int (0 : Int32)), (.ref b4)]) := fun t kt => K5 t (by
    show Steps p.tables e below (T4.setTop (mkF m 19 #[.val (.int p1), .val (.int p2), .val (.int p3), .val (.int p4), .val (.int p5), .val (.int (3 : Int32)), .val (.int (2 : Int32)), .unset, .unset, .unset, .unset, .unset] [(.ref b4)])) _
    refine XS.astore X4.here hx rfl (hb hby at_19) rfl rfl (l' := #[.val (.int p1), .val (.int p2), .val (.int p3), .val (.int p4), .val (.int p5), .val (.int (3 : Int32)), .val (.int (2 : Int32)), .val (.ref b4), .unset, .unset, .unset, .unset]) rfl ?_
    show Steps p.tables e below (T4.setTop (mkF m 21 #[.val (.int p1), .val (.int p2), .val (.int p3), .val (.int p4), .val (.int p5), .val (.int (3 : Int32)), .val (.int (2 : Int32)), .val (.ref b4), .unset, .unset, .unset, .unset] [])) _
    refine XS.iload X4.here hx rfl (hb hby at_21) rfl ?_
    show Steps p.tables e below (T4.setTop (mkF m 23 #[.val (.int p1), .val (.int p2), .val (.int p3), .val (.int p4), .val (.int p5), .val (.int (3 : Int32)), .val (.int (2 : Int32)), .val (.ref b4), .unset, .unset, .unset, .unset] [(.int (3 : Int32))])) _
    refine XS.ifNo X4.here hx rfl (hb hby at_23) rfl ((if0 _ _).trans (tlt (by decide)).2.2.2) ?_
    show Steps p.tables e below (T4.setTop (mkF m 26 #[.val (.int p1), .val (.int p2), .val (.int p3), .val (.int p4), .val (.int p5), .val (.int (3 : Int32)), .val (.int (2 : Int32)), .val (.ref b4), .unset, .unset, .unset, .unset] [])) _
    refine XS.aload X4.here hx rfl (hb hby at_26) rfl rfl ?_
    show Steps p.tables e below (T4.setTop (mkF m 28 #[.val (.int p1), .val (.int p2), .val (.int p3), .val (.int p4), .val (.int p5), .val (.int (3 : Int32)), .val (.int (2 : Int32)), .val (.ref b4), .unset, .unset, .unset, .unset] [(.ref b4)])) _
    refine XS.iconst X4.here hx rfl (hb hby at_28) ?_
    show Steps p.tables e below (T4.setTop (mkF m 29 #[.val (.int p1), .val (.int p2), .val (.int p3), .val (.int p4), .val (.int p5), .val (.int (3 : Int32)), .val (.int (2 : Int32)), .val (.ref b4), .unset, .unset, .unset, .unset] [(.int (0 : Int32)), (.ref b4)])) _
    refine XS.iloadN X4.here hx rfl (hb hby at_29) rfl ?_
    show Steps p.tables e below (T4.setTop (mkF m 30 #[.val (.int p1), .val (.int p2), .val (.int p3), .val (.int p4), .val (.int p5), .val (.int (3 : Int32)), .val (.int (2 : Int32)), .val (.ref b4), .unset, .unset, .unset, .unset] [(.int p3), (.int (0 : Int32)), (.ref b4)])) _
    refine XS.i2b X4.here hx rfl (hb hby at_30) rfl ?_
    exact kt)
  obtain ⟨clq7, Arq7, ckq7, cSq7, cNq7, cHq7, cGq7⟩ := id V4
  obtain ⟨T8, h8, X8', e8, W8, st8⟩ := stB X4 hx hZ e4 Arq7 (j := (0 : Int32)) (inb_of cSq7 ⟨by decide, by decide⟩) (g := (mkF m 31 #[.val (.int p1), .val (.int p2), .val (.int p3), .val (.int p4), .val (.int p5), .val (.int (3 : Int32)), .val (.int (2 : Int32)), .val (.ref b4), .unset, .unset, .unset, .unset] [(.int (p3.toInt8.toInt32)), (.int (0 : Int32)), (.ref b4)])) rfl rfl (hb hby at_31)
  obtain ⟨lc8, X8, N8⟩ : ∃ lc, Stand p l e room_1 s m #[(.int p1), (.int p2), (.int p3), (.int p4), (.int p5)] below meth c T8 lc 1 3 ∧ Fr n0 lc := ⟨_, X8', Fr.snoc X8' N0 (Nat.le_trans Z0 (Nat.le_trans (Keep.refl h0 []).1 (Nat.le_of_eq g4.symm)))⟩
  have V8 : Arv Z h8 b4 k4 .byte (3 : Int32) [(.int (nar .byte (p3.toInt8.toInt32))), (.int (0 : Int32)), (.int (0 : Int32))] (.int (0 : Int32)) := Arv.set Arq7 ckq7 cSq7 cNq7 cHq7 cGq7 (fits_nar_byte _) W8 0 rfl (Nat.le_of_ble_eq_true rfl)
  have K9 : Gx p e below s₁ f0 T8 (mkF m 32 #[.val (.int p1), .val (.int p2), .val (.int p3), .val (.int p4), .val (.int p5), .val (.int (3 : Int32)), .val (.int (2 : Int32)), .val (.ref b4), .unset, .unset, .unset, .unset] []) := fun t kt => K6 t (st8 t kt)
  have K10 : Gx p e below s₁ f0 T8 (mkF m 43 #[.val (.int p1), .val (.int p2), .val (.int p3), .val (.int p4), .val (.int p5), .val (.int (3 : Int32)), .val (.int (2 : Int32)), .val (.ref b4), .unset, .unset, .unset, .unset] [(.int (p4.toInt8.toInt32)), (.int (1 : Int32)), (.ref b4)]) := fun t kt => K9 t (by
    show Steps p.tables e below (T8.setTop (mkF m 32 #[.val (.int p1), .val (.int p2), .val (.int p3), .val (.int p4), .val (.int p5), .val (.int (3 : Int32)), .val (.int (2 : Int32)), .val (.ref b4), .unset, .unset, .unset, .unset] [])) _
    refine XS.iload X8.here hx rfl (hb hby at_32) rfl ?_
    show Steps p.tables e below (T8.setTop (mkF m 34 #[.val (.int p1), .val (.int p2), .val (.int p3), .val (.int p4), .val (.int p5), .val (.int (3 : Int32)), .val (.int (2 : Int32)), .val (.ref b4), .unset, .unset, .unset, .unset] [(.int (3 : Int32))])) _
    refine XS.iconst X8.here hx rfl (hb hby at_34) ?_
    show Steps p.tables e below (T8.setTop (mkF m 35 #[.val (.int p1), .val (.int p2), .val (.int p3), .val (.int p4), .val (.int p5), .val (.int (3 : Int32)), .val (.int (2 : Int32)), .val (.ref b4), .unset, .unset, .unset, .unset] [(.int (1 : Int32)), (.int (3 : Int32))])) _
    refine XS.icmpNo X8.here hx rfl (hb hby at_35) rfl (tlt (by decide)).2.2.2 ?_
    show Steps p.tables e below (T8.setTop (mkF m 38 #[.val (.int p1), .val (.int p2), .val (.int p3), .val (.int p4), .val (.int p5), .val (.int (3 : Int32)), .val (.int (2 : Int32)), .val (.ref b4), .unset, .unset, .unset, .unset] [])) _
    refine XS.aload X8.here hx rfl (hb hby at_38) rfl rfl ?_
    show Steps p.tables e below (T8.setTop (mkF m 40 #[.val (.int p1), .val (.int p2), .val (.int p3), .val (.int p4), .val (.int p5), .val (.int (3 : Int32)), .val (.int (2 : Int32)), .val (.ref b4), .unset, .unset, .unset, .unset] [(.ref b4)])) _
    refine XS.iconst X8.here hx rfl (hb hby at_40) ?_
    show Steps p.tables e below (T8.setTop (mkF m 41 #[.val (.int p1), .val (.int p2), .val (.int p3), .val (.int p4), .val (.int p5), .val (.int (3 : Int32)), .val (.int (2 : Int32)), .val (.ref b4), .unset, .unset, .unset, .unset] [(.int (1 : Int32)), (.ref b4)])) _
    refine XS.iloadN X8.here hx rfl (hb hby at_41) rfl ?_
    show Steps p.tables e below (T8.setTop (mkF m 42 #[.val (.int p1), .val (.int p2), .val (.int p3), .val (.int p4), .val (.int p5), .val (.int (3 : Int32)), .val (.int (2 : Int32)), .val (.ref b4), .unset, .unset, .unset, .unset] [(.int p4), (.int (1 : Int32)), (.ref b4)])) _
    refine XS.i2b X8.here hx rfl (hb hby at_42) rfl ?_
    exact kt)
  obtain ⟨clq11, Arq11, ckq11, cSq11, cNq11, cHq11, cGq11⟩ := id V8
  obtain ⟨T12, h12, X12', e12, W12, st12⟩ := stB X8 hx hZ e8 Arq11 (j := (1 : Int32)) (inb_of cSq11 ⟨by decide, by decide⟩) (g := (mkF m 43 #[.val (.int p1), .val (.int p2), .val (.int p3), .val (.int p4), .val (.int p5), .val (.int (3 : Int32)), .val (.int (2 : Int32)), .val (.ref b4), .unset, .unset, .unset, .unset] [(.int (p4.toInt8.toInt32)), (.int (1 : Int32)), (.ref b4)])) rfl rfl (hb hby at_43)
  obtain ⟨lc12, X12, N12⟩ : ∃ lc, Stand p l e room_1 s m #[(.int p1), (.int p2), (.int p3), (.int p4), (.int p5)] below meth c T12 lc 1 3 ∧ Fr n0 lc := ⟨_, X12', Fr.snoc X12' N8 (Nat.le_trans Z0 (Nat.le_trans (Keep.refl h0 []).1 (Nat.le_of_eq g4.symm)))⟩
  have V12 : Arv Z h12 b4 k4 .byte (3 : Int32) [(.int (nar .byte (p3.toInt8.toInt32))), (.int (nar .byte (p4.toInt8.toInt32))), (.int (0 : Int32))] (.int (0 : Int32)) := Arv.set Arq11 ckq11 cSq11 cNq11 cHq11 cGq11 (fits_nar_byte _) W12 1 rfl (Nat.le_of_ble_eq_true rfl)
  have K13 : Gx p e below s₁ f0 T12 (mkF m 44 #[.val (.int p1), .val (.int p2), .val (.int p3), .val (.int p4), .val (.int p5), .val (.int (3 : Int32)), .val (.int (2 : Int32)), .val (.ref b4), .unset, .unset, .unset, .unset] []) := fun t kt => K10 t (st12 t kt)
  have K14 : Gx p e below s₁ f0 T12 (mkF m 56 #[.val (.int p1), .val (.int p2), .val (.int p3), .val (.int p4), .val (.int p5), .val (.int (3 : Int32)), .val (.int (2 : Int32)), .val (.ref b4), .unset, .unset, .unset, .unset] [(.int (p5.toInt8.toInt32)), (.int (2 : Int32)), (.ref b4)]) := fun t kt => K13 t (by
    show Steps p.tables e below (T12.setTop (mkF m 44 #[.val (.int p1), .val (.int p2), .val (.int p3), .val (.int p4), .val (.int p5), .val (.int (3 : Int32)), .val (.int (2 : Int32)), .val (.ref b4), .unset, .unset, .unset, .unset] [])) _
    refine XS.iload X12.here hx rfl (hb hby at_44) rfl ?_
    show Steps p.tables e below (T12.setTop (mkF m 46 #[.val (.int p1), .val (.int p2), .val (.int p3), .val (.int p4), .val (.int p5), .val (.int (3 : Int32)), .val (.int (2 : Int32)), .val (.ref b4), .unset, .unset, .unset, .unset] [(.int (3 : Int32))])) _
    refine XS.iconst X12.here hx rfl (hb hby at_46) ?_
    show Steps p.tables e below (T12.setTop (mkF m 47 #[.val (.int p1), .val (.int p2), .val (.int p3), .val (.int p4), .val (.int p5), .val (.int (3 : Int32)), .val (.int (2 : Int32)), .val (.ref b4), .unset, .unset, .unset, .unset] [(.int (2 : Int32)), (.int (3 : Int32))])) _
    refine XS.icmpNo X12.here hx rfl (hb hby at_47) rfl (tlt (by decide)).2.2.2 ?_
    show Steps p.tables e below (T12.setTop (mkF m 50 #[.val (.int p1), .val (.int p2), .val (.int p3), .val (.int p4), .val (.int p5), .val (.int (3 : Int32)), .val (.int (2 : Int32)), .val (.ref b4), .unset, .unset, .unset, .unset] [])) _
    refine XS.aload X12.here hx rfl (hb hby at_50) rfl rfl ?_
    show Steps p.tables e below (T12.setTop (mkF m 52 #[.val (.int p1), .val (.int p2), .val (.int p3), .val (.int p4), .val (.int p5), .val (.int (3 : Int32)), .val (.int (2 : Int32)), .val (.ref b4), .unset, .unset, .unset, .unset] [(.ref b4)])) _
    refine XS.iconst X12.here hx rfl (hb hby at_52) ?_
    show Steps p.tables e below (T12.setTop (mkF m 53 #[.val (.int p1), .val (.int p2), .val (.int p3), .val (.int p4), .val (.int p5), .val (.int (3 : Int32)), .val (.int (2 : Int32)), .val (.ref b4), .unset, .unset, .unset, .unset] [(.int (2 : Int32)), (.ref b4)])) _
    refine XS.iload X12.here hx rfl (hb hby at_53) rfl ?_
    show Steps p.tables e below (T12.setTop (mkF m 55 #[.val (.int p1), .val (.int p2), .val (.int p3), .val (.int p4), .val (.int p5), .val (.int (3 : Int32)), .val (.int (2 : Int32)), .val (.ref b4), .unset, .unset, .unset, .unset] [(.int p5), (.int (2 : Int32)), (.ref b4)])) _
    refine XS.i2b X12.here hx rfl (hb hby at_55) rfl ?_
    exact kt)
  obtain ⟨clq15, Arq15, ckq15, cSq15, cNq15, cHq15, cGq15⟩ := id V12
  obtain ⟨T16, h16, X16', e16, W16, st16⟩ := stB X12 hx hZ e12 Arq15 (j := (2 : Int32)) (inb_of cSq15 ⟨by decide, by decide⟩) (g := (mkF m 56 #[.val (.int p1), .val (.int p2), .val (.int p3), .val (.int p4), .val (.int p5), .val (.int (3 : Int32)), .val (.int (2 : Int32)), .val (.ref b4), .unset, .unset, .unset, .unset] [(.int (p5.toInt8.toInt32)), (.int (2 : Int32)), (.ref b4)])) rfl rfl (hb hby at_56)
  obtain ⟨lc16, X16, N16⟩ : ∃ lc, Stand p l e room_1 s m #[(.int p1), (.int p2), (.int p3), (.int p4), (.int p5)] below meth c T16 lc 1 3 ∧ Fr n0 lc := ⟨_, X16', Fr.snoc X16' N12 (Nat.le_trans Z0 (Nat.le_trans (Keep.refl h0 []).1 (Nat.le_of_eq g4.symm)))⟩
  have V16 : Arv Z h16 b4 k4 .byte (3 : Int32) [(.int (nar .byte (p3.toInt8.toInt32))), (.int (nar .byte (p4.toInt8.toInt32))), (.int (nar .byte (p5.toInt8.toInt32)))] (.int (0 : Int32)) := Arv.set Arq15 ckq15 cSq15 cNq15 cHq15 cGq15 (fits_nar_byte _) W16 2 rfl (Nat.le_of_ble_eq_true rfl)
  have K17 : Gx p e below s₁ f0 T16 (mkF m 57 #[.val (.int p1), .val (.int p2), .val (.int p3), .val (.int p4), .val (.int p5), .val (.int (3 : Int32)), .val (.int (2 : Int32)), .val (.ref b4), .unset, .unset, .unset, .unset] []) := fun t kt => K14 t (st16 t kt)
  obtain ⟨T18, h18, X18, e18, E18, A18, D18, -, st18⟩ := newO X16 hx hZ hown (hw _ (List.mem_of_getElem? (i := 1) rfl)) (hw _ (List.mem_of_getElem? (i := 2) rfl)) (hw _ (List.mem_of_getElem? (i := 3) rfl)) e16 (g := (mkF m 57 #[.val (.int p1), .val (.int p2), .val (.int p3), .val (.int p4), .val (.int p5), .val (.int (3 : Int32)), .val (.int (2 : Int32)), .val (.ref b4), .unset, .unset, .unset, .unset] [])) rfl (hb hby at_57) (by decide) (by decide)
  obtain ⟨b18, g18⟩ : ∃ z, z = h16.size := ⟨_, rfl⟩
  rw [← g18] at A18 D18 st18
  have f19 : Fld Z h18 b18 "com/example/looseleaf/looseleaf/pgwire/MessageBody" "bytes" "[B" .null := D18 (Or.inr (hw _ (List.mem_of_getElem? (i := 11) rfl))) (ty := (.array .byte)) (by decide)
  have f20 : Fld Z h18 b18 "com/example/looseleaf/looseleaf/pgwire/MessageBody" "at" "I" (.int (0 : Int32)) := D18 (Or.inl (hw _ (List.mem_of_getElem? (i := 18) rfl))) (ty := .int) (by decide)
  have K21 : Gx p e below s₁ f0 T18 (mkF m 60 #[.val (.int p1), .val (.int p2), .val (.int p3), .val (.int p4), .val (.int p5), .val (.int (3 : Int32)), .val (.int (2 : Int32)), .val (.ref b4), .unset, .unset, .unset, .unset] [(.ref b18)]) := fun t kt => K17 t (st18 t kt)
  have K22 : Gx p e below s₁ f0 T18 (mkF m 63 #[.val (.int p1), .val (.int p2), .val (.int p3), .val (.int p4), .val (.int p5), .val (.int (3 : Int32)), .val (.int (2 : Int32)), .val (.ref b4), .unset, .unset, .unset, .unset] [(.ref b4), (.ref b18), (.ref b18)]) := fun t kt => K21 t (by
    show Steps p.tables e below (T18.setTop (mkF m 60 #[.val (.int p1), .val (.int p2), .val (.int p3), .val (.int p4), .val (.int p5), .val (.int (3 : Int32)), .val (.int (2 : Int32)), .val (.ref b4), .unset, .unset, .unset, .unset] [(.ref b18)])) _
    refine XS.dup X18.here hx rfl (hb hby at_60) rfl rfl ?_
    show Steps p.tables e below (T18.setTop (mkF m 61 #[.val (.int p1), .val (.int p2), .val (.int p3), .val (.int p4), .val (.int p5), .val (.int (3 : Int32)), .val (.int (2 : Int32)), .val (.ref b4), .unset, .unset, .unset, .unset] [(.ref b18), (.ref b18)])) _
    refine XS.aload X18.here hx rfl (hb hby at_61) rfl rfl ?_
    exact kt)
  have kp23 : Keep h0 h18 [] := ((((((Keep.refl h0 []).ext E4).wr W8 (Or.inr (Nat.le_trans (Keep.refl h0 []).1 (Nat.le_of_eq g4.symm)))).wr W12 (Or.inr (Nat.le_trans (Keep.refl h0 []).1 (Nat.le_of_eq g4.symm)))).wr W16 (Or.inr (Nat.le_trans (Keep.refl h0 []).1 (Nat.le_of_eq g4.symm)))).ext E18)
  obtain ⟨_, _, ⟨T24, L24, k24, n24⟩, -, X24', ⟨Lc24, hQ24, l24, y24, z24⟩, st24⟩ := X18.specialBack hx (y := (⟨"com/example/looseleaf/looseleaf/pgwire/MessageBody", "<init>", "([B)V"⟩ : MethodName)) rfl hown (mvT hZ (hw _ (List.mem_of_getElem? (i := 4) rfl))) (mvT hZ (hw _ (List.mem_of_getElem? (i := 5) rfl))) (mvT hZ (hw _ (List.mem_of_getElem? (i := 6) rfl))) (by decide) (backOf (W := 1) (rmIni l Z a0 hw [] b18 b4 h18 n0 (Nat.le_trans Z0 kp23.1) A18 (Nat.le_trans Z0 (Nat.le_trans (((((Keep.refl h0 []).ext E4).wr W8 (Or.inr (Nat.le_trans (Keep.refl h0 []).1 (Nat.le_of_eq g4.symm)))).wr W12 (Or.inr (Nat.le_trans (Keep.refl h0 []).1 (Nat.le_of_eq g4.symm)))).wr W16 (Or.inr (Nat.le_trans (Keep.refl h0 []).1 (Nat.le_of_eq g4.symm)))).1 (Nat.le_of_eq g18.symm))) f19 f20) hZ (hw _ (List.mem_of_getElem? (i := 6) rfl)) (hw _ (List.mem_of_getElem? (i := 3) rfl)) (by decide) (by decide)) (g := (mkF m 63 #[.val (.int p1), .val (.int p2), .val (.int p3), .val (.int p4), .val (.int p5), .val (.int (3 : Int32)), .val (.int (2 : Int32)), .val (.ref b4), .unset, .unset, .unset, .unset] [(.ref b4), (.ref b18), (.ref b18)])) rfl (by rw [hml]; rfl) (Steps.refl _) (a := b18) (argsL := [(.ref b4)]) (rest := [(.ref b18)]) (lenOf pd___B_V rfl) rfl (by show 2 * 0 + _ ≤ _; exact Nat.le_of_eq rfl) (hb hby at_63) (fun _ _ => ⟨rfl, e18, (by decide : 2 + 0 ≤ _), (by decide : 5 + 0 ≤ _)⟩)
  dsimp only [Pt.U, Pt.locs, Pt.cells, Pt.slots] at X24' l24 y24 z24 st24 hQ24
  subst l24 y24 z24
  obtain ⟨h24, e24⟩ : ∃ z, T24.heap = z := ⟨_, rfl⟩
  rw [e24] at hQ24
  obtain ⟨rfl, N24q, Kc24, f25, f26, f27⟩ := hQ24
  obtain ⟨lc24, X24, N24⟩ : ∃ lc, Stand p l e room_1 s m #[(.int p1), (.int p2), (.int p3), (.int p4), (.int p5)] below meth c T24 lc 2 5 ∧ Fr n0 lc := ⟨_, X24', Fr.app N16 N24q⟩
  have K28 : Gx p e below s₁ f0 T24 (mkF m 66 #[.val (.int p1), .val (.int p2), .val (.int p3), .val (.int p4), .val (.int p5), .val (.int (3 : Int32)), .val (.int (2 : Int32)), .val (.ref b4), .unset, .unset, .unset, .unset] [(.ref b18)]) := fun t kt => K22 t (st24.trans kt)
  have K29 : Gx p e below s₁ f0 T24 (mkF m 76 #[.val (.int p1), .val (.int p2), .val (.int p3), .val (.int p4), .val (.int p5), .val (.int (3 : Int32)), .val (.int (2 : Int32)), .val (.ref b4), .val (.ref b18), .unset, .unset, .unset] [(.ref b18)]) := fun t kt => K28 t (by
    show Steps p.tables e below (T24.setTop (mkF m 66 #[.val (.int p1), .val (.int p2), .val (.int p3), .val (.int p4), .val (.int p5), .val (.int (3 : Int32)), .val (.int (2 : Int32)), .val (.ref b4), .unset, .unset, .unset, .unset] [(.ref b18)])) _
    refine XS.astore X24.here hx rfl (hb hby at_66) rfl rfl (l' := #[.val (.int p1), .val (.int p2), .val (.int p3), .val (.int p4), .val (.int p5), .val (.int (3 : Int32)), .val (.int (2 : Int32)), .val (.ref b4), .val (.ref b18), .unset, .unset, .unset]) rfl ?_
    show Steps p.tables e below (T24.setTop (mkF m 68 #[.val (.int p1), .val (.int p2), .val (.int p3), .val (.int p4), .val (.int p5), .val (.int (3 : Int32)), .val (.int (2 : Int32)), .val (.ref b4), .val (.ref b18), .unset, .unset, .unset] [])) _
    refine XS.iload X24.here hx rfl (hb hby at_68) rfl ?_
    show Steps p.tables e below (T24.setTop (mkF m 70 #[.val (.int p1), .val (.int p2), .val (.int p3), .val (.int p4), .val (.int p5), .val (.int (3 : Int32)), .val (.int (2 : Int32)), .val (.ref b4), .val (.ref b18), .unset, .unset, .unset] [(.int (2 : Int32))])) _
    refine XS.iconst X24.here hx rfl (hb hby at_70) ?_
    show Steps p.tables e below (T24.setTop (mkF m 71 #[.val (.int p1), .val (.int p2), .val (.int p3), .val (.int p4), .val (.int p5), .val (.int (3 : Int32)), .val (.int (2 : Int32)), .val (.ref b4), .val (.ref b18), .unset, .unset, .unset] [(.int (1 : Int32)), (.int (2 : Int32))])) _
    refine XS.icmpNo X24.here hx rfl (hb hby at_71) rfl (flt (by decide)).1 ?_
    show Steps p.tables e below (T24.setTop (mkF m 74 #[.val (.int p1), .val (.int p2), .val (.int p3), .val (.int p4), .val (.int p5), .val (.int (3 : Int32)), .val (.int (2 : Int32)), .val (.ref b4), .val (.ref b18), .unset, .unset, .unset] [])) _
    refine XS.aload X24.here hx rfl (hb hby at_74) rfl rfl ?_
    exact kt)
  have f30 : Arv Z h24 b4 k4 .byte (3 : Int32) [(.int (nar .byte (p3.toInt8.toInt32))), (.int (nar .byte (p4.toInt8.toInt32))), (.int (nar .byte (p5.toInt8.toInt32)))] (.int (0 : Int32)) := ((V16.ext E18).keep Kc24 (ninS (Nat.ne_of_lt (Nat.lt_of_lt_of_le V16.lt (Nat.le_of_eq g18.symm))) nin0))
  have kp31 : Keep h0 h24 [] := (Keep.trans kp23 Kc24 (allS (Or.inr (Nat.le_trans (((((Keep.refl h0 []).ext E4).wr W8 (Or.inr (Nat.le_trans (Keep.refl h0 []).1 (Nat.le_of_eq g4.symm)))).wr W12 (Or.inr (Nat.le_trans (Keep.refl h0 []).1 (Nat.le_of_eq g4.symm)))).wr W16 (Or.inr (Nat.le_trans (Keep.refl h0 []).1 (Nat.le_of_eq g4.symm)))).1 (Nat.le_of_eq g18.symm))) all0))
  obtain ⟨cq32, kq32, q32a, q32b, q32c⟩ := isOf hZ e24 f25
  obtain ⟨_, _, ⟨T32, L32, k32, n32⟩, -, X32', ⟨Lc32, hQ32, l32, y32, z32⟩, st32⟩ := X24.virtualBack hx (y := (⟨"com/example/looseleaf/looseleaf/pgwire/MessageBody", "byte1", "()I"⟩ : MethodName)) (z := (⟨"com/example/looseleaf/looseleaf/pgwire/MessageBody", "byte1", "()I"⟩ : MethodName)) hown (mvT hZ (hw _ (List.mem_of_getElem? (i := 19) rfl))) (mvT hZ (hw _ (List.mem_of_getElem? (i := 20) rfl))) (notFace_of_selects (args := #[]) (mvT hZ (hw _ (List.mem_of_getElem? (i := 22) rfl)))) (mvT hZ (hw _ (List.mem_of_getElem? (i := 22) rfl))) (mvT hZ (hw _ (List.mem_of_getElem? (i := 21) rfl))) (by decide) (backOf (W := 0) (rmBy1 l Z a0 hw [] b18 b4 (0 : Int32) k4 (3 : Int32) [(.int (nar .byte (p3.toInt8.toInt32))), (.int (nar .byte (p4.toInt8.toInt32))), (.int (nar .byte (p5.toInt8.toInt32)))] (nar .byte (p3.toInt8.toInt32)) (1 : Int32) h24 n0 (Nat.le_trans Z0 kp31.1) f25 (Nat.le_trans Z0 (Nat.le_trans (((((Keep.refl h0 []).ext E4).wr W8 (Or.inr (Nat.le_trans (Keep.refl h0 []).1 (Nat.le_of_eq g4.symm)))).wr W12 (Or.inr (Nat.le_trans (Keep.refl h0 []).1 (Nat.le_of_eq g4.symm)))).wr W16 (Or.inr (Nat.le_trans (Keep.refl h0 []).1 (Nat.le_of_eq g4.symm)))).1 (Nat.le_of_eq g18.symm))) f26 f27 f30 (Ne.symm (Nat.ne_of_lt (Nat.lt_of_lt_of_le V16.lt (Nat.le_of_eq g18.symm)))) (by decide) ⟨by decide, by decide⟩ rfl (by decide)) hZ (hw _ (List.mem_of_getElem? (i := 23) rfl)) (hw _ (List.mem_of_getElem? (i := 3) rfl)) (by decide) (by decide)) q32a q32c (g := (mkF m 76 #[.val (.int p1), .val (.int p2), .val (.int p3), .val (.int p4), .val (.int p5), .val (.int (3 : Int32)), .val (.int (2 : Int32)), .val (.ref b4), .val (.ref b18), .unset, .unset, .unset] [(.ref b18)])) rfl (by rw [hml]; rfl) (Steps.refl _) (argsL := []) (rest := []) (lenOf pd___I rfl) rfl (by show 2 * 0 + _ ≤ _; exact Nat.le_of_eq rfl) (hb hby at_76) (fun _ _ => ⟨rfl, e24, (by decide : 2 + 0 ≤ _), (by decide : 5 + 0 ≤ _)⟩)
  dsimp only [Pt.U, Pt.locs, Pt.cells, Pt.slots] at X32' l32 y32 z32 st32 hQ32
  subst l32 y32 z32
  obtain ⟨h32, e32⟩ : ∃ z, T32.heap = z := ⟨_, rfl⟩
  rw [e32] at hQ32
  obtain ⟨rfl, N32q, Kc32, f33, f34, f35⟩ := hQ32
  obtain ⟨lc32, X32, N32⟩ : ∃ lc, Stand p l e room_1 s m #[(.int p1), (.int p2), (.int p3), (.int p4), (.int p5)] below meth c T32 lc 2 5 ∧ Fr n0 lc := ⟨_, X32', Fr.app N24 N32q⟩
  have K36 : Gx p e below s₁ f0 T32 (mkF m 79 #[.val (.int p1), .val (.int p2), .val (.int p3), .val (.int p4), .val (.int p5), .val (.int (3 : Int32)), .val (.int (2 : Int32)), .val (.ref b4), .val (.ref b18), .unset, .unset, .unset] [(.int ((nar .byte (p3.toInt8.toInt32)) &&& (255 : Int32)))]) := fun t kt => K29 t (st32.trans kt)
  have K37 : Gx p e below s₁ f0 T32 (mkF m 88 #[.val (.int p1), .val (.int p2), .val (.int p3), .val (.int p4), .val (.int p5), .val (.int (3 : Int32)), .val (.int (2 : Int32)), .val (.ref b4), .val (.ref b18), .unset, .unset, .unset] [(.ref b18)]) := fun t kt => K36 t (by
    show Steps p.tables e below (T32.setTop (mkF m 79 #[.val (.int p1), .val (.int p2), .val (.int p3), .val (.int p4), .val (.int p5), .val (.int (3 : Int32)), .val (.int (2 : Int32)), .val (.ref b4), .val (.ref b18), .unset, .unset, .unset] [(.int ((nar .byte (p3.toInt8.toInt32)) &&& (255 : Int32)))])) _
    refine XS.pop X32.here hx rfl (hb hby at_79) rfl rfl ?_
    show Steps p.tables e below (T32.setTop (mkF m 80 #[.val (.int p1), .val (.int p2), .val (.int p3), .val (.int p4), .val (.int p5), .val (.int (3 : Int32)), .val (.int (2 : Int32)), .val (.ref b4), .val (.ref b18), .unset, .unset, .unset] [])) _
    refine XS.iload X32.here hx rfl (hb hby at_80) rfl ?_
    show Steps p.tables e below (T32.setTop (mkF m 82 #[.val (.int p1), .val (.int p2), .val (.int p3), .val (.int p4), .val (.int p5), .val (.int (3 : Int32)), .val (.int (2 : Int32)), .val (.ref b4), .val (.ref b18), .unset, .unset, .unset] [(.int (2 : Int32))])) _
    refine XS.iconst X32.here hx rfl (hb hby at_82) ?_
    show Steps p.tables e below (T32.setTop (mkF m 83 #[.val (.int p1), .val (.int p2), .val (.int p3), .val (.int p4), .val (.int p5), .val (.int (3 : Int32)), .val (.int (2 : Int32)), .val (.ref b4), .val (.ref b18), .unset, .unset, .unset] [(.int (2 : Int32)), (.int (2 : Int32))])) _
    refine XS.icmpNo X32.here hx rfl (hb hby at_83) rfl (flt (by decide)).1 ?_
    show Steps p.tables e below (T32.setTop (mkF m 86 #[.val (.int p1), .val (.int p2), .val (.int p3), .val (.int p4), .val (.int p5), .val (.int (3 : Int32)), .val (.int (2 : Int32)), .val (.ref b4), .val (.ref b18), .unset, .unset, .unset] [])) _
    refine XS.aload X32.here hx rfl (hb hby at_86) rfl rfl ?_
    exact kt)
  have f38 : Arv Z h32 b4 k4 .byte (3 : Int32) [(.int (nar .byte (p3.toInt8.toInt32))), (.int (nar .byte (p4.toInt8.toInt32))), (.int (nar .byte (p5.toInt8.toInt32)))] (.int (0 : Int32)) := (f30.keep Kc32 (ninS (Nat.ne_of_lt (Nat.lt_of_lt_of_le V16.lt (Nat.le_of_eq g18.symm))) nin0))
  have kp39 : Keep h0 h32 [] := (Keep.trans kp31 Kc32 (allS (Or.inr (Nat.le_trans (((((Keep.refl h0 []).ext E4).wr W8 (Or.inr (Nat.le_trans (Keep.refl h0 []).1 (Nat.le_of_eq g4.symm)))).wr W12 (Or.inr (Nat.le_trans (Keep.refl h0 []).1 (Nat.le_of_eq g4.symm)))).wr W16 (Or.inr (Nat.le_trans (Keep.refl h0 []).1 (Nat.le_of_eq g4.symm)))).1 (Nat.le_of_eq g18.symm))) all0))
  obtain ⟨cq40, kq40, q40a, q40b, q40c⟩ := isOf hZ e32 f33
  obtain ⟨_, _, ⟨T40, L40, k40, n40⟩, -, X40', ⟨Lc40, hQ40, l40, y40, z40⟩, st40⟩ := X32.virtualBack hx (y := (⟨"com/example/looseleaf/looseleaf/pgwire/MessageBody", "byte1", "()I"⟩ : MethodName)) (z := (⟨"com/example/looseleaf/looseleaf/pgwire/MessageBody", "byte1", "()I"⟩ : MethodName)) hown (mvT hZ (hw _ (List.mem_of_getElem? (i := 19) rfl))) (mvT hZ (hw _ (List.mem_of_getElem? (i := 20) rfl))) (notFace_of_selects (args := #[]) (mvT hZ (hw _ (List.mem_of_getElem? (i := 22) rfl)))) (mvT hZ (hw _ (List.mem_of_getElem? (i := 22) rfl))) (mvT hZ (hw _ (List.mem_of_getElem? (i := 21) rfl))) (by decide) (backOf (W := 0) (rmBy1 l Z a0 hw [] b18 b4 (1 : Int32) k4 (3 : Int32) [(.int (nar .byte (p3.toInt8.toInt32))), (.int (nar .byte (p4.toInt8.toInt32))), (.int (nar .byte (p5.toInt8.toInt32)))] (nar .byte (p4.toInt8.toInt32)) (2 : Int32) h32 n0 (Nat.le_trans Z0 kp39.1) f33 (Nat.le_trans Z0 (Nat.le_trans (((((Keep.refl h0 []).ext E4).wr W8 (Or.inr (Nat.le_trans (Keep.refl h0 []).1 (Nat.le_of_eq g4.symm)))).wr W12 (Or.inr (Nat.le_trans (Keep.refl h0 []).1 (Nat.le_of_eq g4.symm)))).wr W16 (Or.inr (Nat.le_trans (Keep.refl h0 []).1 (Nat.le_of_eq g4.symm)))).1 (Nat.le_of_eq g18.symm))) f34 f35 f38 (Ne.symm (Nat.ne_of_lt (Nat.lt_of_lt_of_le V16.lt (Nat.le_of_eq g18.symm)))) (by decide) ⟨by decide, by decide⟩ rfl (by decide)) hZ (hw _ (List.mem_of_getElem? (i := 23) rfl)) (hw _ (List.mem_of_getElem? (i := 3) rfl)) (by decide) (by decide)) q40a q40c (g := (mkF m 88 #[.val (.int p1), .val (.int p2), .val (.int p3), .val (.int p4), .val (.int p5), .val (.int (3 : Int32)), .val (.int (2 : Int32)), .val (.ref b4), .val (.ref b18), .unset, .unset, .unset] [(.ref b18)])) rfl (by rw [hml]; rfl) (Steps.refl _) (argsL := []) (rest := []) (lenOf pd___I rfl) rfl (by show 2 * 0 + _ ≤ _; exact Nat.le_of_eq rfl) (hb hby at_88) (fun _ _ => ⟨rfl, e32, (by decide : 2 + 0 ≤ _), (by decide : 5 + 0 ≤ _)⟩)
  dsimp only [Pt.U, Pt.locs, Pt.cells, Pt.slots] at X40' l40 y40 z40 st40 hQ40
  subst l40 y40 z40
  obtain ⟨h40, e40⟩ : ∃ z, T40.heap = z := ⟨_, rfl⟩
  rw [e40] at hQ40
  obtain ⟨rfl, N40q, Kc40, f41, f42, f43⟩ := hQ40
  obtain ⟨lc40, X40, N40⟩ : ∃ lc, Stand p l e room_1 s m #[(.int p1), (.int p2), (.int p3), (.int p4), (.int p5)] below meth c T40 lc 2 5 ∧ Fr n0 lc := ⟨_, X40', Fr.app N32 N40q⟩
  have K44 : Gx p e below s₁ f0 T40 (mkF m 91 #[.val (.int p1), .val (.int p2), .val (.int p3), .val (.int p4), .val (.int p5), .val (.int (3 : Int32)), .val (.int (2 : Int32)), .val (.ref b4), .val (.ref b18), .unset, .unset, .unset] [(.int ((nar .byte (p4.toInt8.toInt32)) &&& (255 : Int32)))]) := fun t kt => K37 t (st40.trans kt)
  have f45 : Arv Z h40 b4 k4 .byte (3 : Int32) [(.int (nar .byte (p3.toInt8.toInt32))), (.int (nar .byte (p4.toInt8.toInt32))), (.int (nar .byte (p5.toInt8.toInt32)))] (.int (0 : Int32)) := (f38.keep Kc40 (ninS (Nat.ne_of_lt (Nat.lt_of_lt_of_le V16.lt (Nat.le_of_eq g18.symm))) nin0))
  obtain ⟨clq46, Arq46, ckq46, cSq46, cNq46, cHq46, cGq46⟩ := id f45
  have K49 : Gx p e below s₁ f0 T40 (mkF m 116 #[.val (.int p1), .val (.int p2), .val (.int p3), .val (.int p4), .val (.int p5), .val (.int (3 : Int32)), .val (.int (2 : Int32)), .val (.ref b4), .val (.ref b18), .unset, .unset, .unset] [(.int (nar .byte (p5.toInt8.toInt32)))]) := fun t kt => K44 t (by
    show Steps p.tables e below (T40.setTop (mkF m 91 #[.val (.int p1), .val (.int p2), .val (.int p3), .val (.int p4), .val (.int p5), .val (.int (3 : Int32)), .val (.int (2 : Int32)), .val (.ref b4), .val (.ref b18), .unset, .unset, .unset] [(.int ((nar .byte (p4.toInt8.toInt32)) &&& (255 : Int32)))])) _
    refine XS.pop X40.here hx rfl (hb hby at_91) rfl rfl ?_
    show Steps p.tables e below (T40.setTop (mkF m 92 #[.val (.int p1), .val (.int p2), .val (.int p3), .val (.int p4), .val (.int p5), .val (.int (3 : Int32)), .val (.int (2 : Int32)), .val (.ref b4), .val (.ref b18), .unset, .unset, .unset] [])) _
    refine XS.iload X40.here hx rfl (hb hby at_92) rfl ?_
    show Steps p.tables e below (T40.setTop (mkF m 94 #[.val (.int p1), .val (.int p2), .val (.int p3), .val (.int p4), .val (.int p5), .val (.int (3 : Int32)), .val (.int (2 : Int32)), .val (.ref b4), .val (.ref b18), .unset, .unset, .unset] [(.int (2 : Int32))])) _
    refine XS.iconst X40.here hx rfl (hb hby at_94) ?_
    show Steps p.tables e below (T40.setTop (mkF m 95 #[.val (.int p1), .val (.int p2), .val (.int p3), .val (.int p4), .val (.int p5), .val (.int (3 : Int32)), .val (.int (2 : Int32)), .val (.ref b4), .val (.ref b18), .unset, .unset, .unset] [(.int (3 : Int32)), (.int (2 : Int32))])) _
    refine XS.icmpYes X40.here hx rfl (pc0 := 95) (pc' := 104) rfl (hb hby at_95) rfl (tlt (by decide)).1 (by decide) (by decide) ?_
    show Steps p.tables e below (T40.setTop (mkF m 104 #[.val (.int p1), .val (.int p2), .val (.int p3), .val (.int p4), .val (.int p5), .val (.int (3 : Int32)), .val (.int (2 : Int32)), .val (.ref b4), .val (.ref b18), .unset, .unset, .unset] [])) _
    refine XS.iload X40.here hx rfl (hb hby at_104) rfl ?_
    show Steps p.tables e below (T40.setTop (mkF m 106 #[.val (.int p1), .val (.int p2), .val (.int p3), .val (.int p4), .val (.int p5), .val (.int (3 : Int32)), .val (.int (2 : Int32)), .val (.ref b4), .val (.ref b18), .unset, .unset, .unset] [(.int (2 : Int32))])) _
    refine XS.iload X40.here hx rfl (hb hby at_106) rfl ?_
    show Steps p.tables e below (T40.setTop (mkF m 108 #[.val (.int p1), .val (.int p2), .val (.int p3), .val (.int p4), .val (.int p5), .val (.int (3 : Int32)), .val (.int (2 : Int32)), .val (.ref b4), .val (.ref b18), .unset, .unset, .unset] [(.int (3 : Int32)), (.int (2 : Int32))])) _
    refine XS.icmpNo X40.here hx rfl (hb hby at_108) rfl (tlt (by decide)).2.1 ?_
    show Steps p.tables e below (T40.setTop (mkF m 111 #[.val (.int p1), .val (.int p2), .val (.int p3), .val (.int p4), .val (.int p5), .val (.int (3 : Int32)), .val (.int (2 : Int32)), .val (.ref b4), .val (.ref b18), .unset, .unset, .unset] [])) _
    refine XS.aload X40.here hx rfl (hb hby at_111) rfl rfl ?_
    show Steps p.tables e below (T40.setTop (mkF m 113 #[.val (.int p1), .val (.int p2), .val (.int p3), .val (.int p4), .val (.int p5), .val (.int (3 : Int32)), .val (.int (2 : Int32)), .val (.ref b4), .val (.ref b18), .unset, .unset, .unset] [(.ref b4)])) _
    refine XS.iload X40.here hx rfl (hb hby at_113) rfl ?_
    show Steps p.tables e below (T40.setTop (mkF m 115 #[.val (.int p1), .val (.int p2), .val (.int p3), .val (.int p4), .val (.int p5), .val (.int (3 : Int32)), .val (.int (2 : Int32)), .val (.ref b4), .val (.ref b18), .unset, .unset, .unset] [(.int (2 : Int32)), (.ref b4)])) _
    refine X40.baloadBytes hx (j := (2 : Int32)) (v := (.int (nar .byte (p5.toInt8.toInt32)))) (by rw [e40]; exact Arq46.1) (State.isArrayOf_alike hZ.alike Arq46.2.1) Arq46.2.2 (inb_of cSq46 ⟨by decide, by decide⟩) (Has.at cHq46 (inb_of cSq46 ⟨by decide, by decide⟩) rfl) (g := (mkF m 115 #[.val (.int p1), .val (.int p2), .val (.int p3), .val (.int p4), .val (.int p5), .val (.int (3 : Int32)), .val (.int (2 : Int32)), .val (.ref b4), .val (.ref b18), .unset, .unset, .unset] [(.int (2 : Int32)), (.ref b4)])) rfl rfl (hb hby at_115) _ ?_
    exact kt)
  obtain ⟨v48, hv48⟩ : ∃ z : Int32, z = (if (nar .byte (p5.toInt8.toInt32)) = (0 : Int32) then (1 : Int32) else (0 : Int32)) := ⟨_, rfl⟩
  have K50 : Gx p e below s₁ f0 T40 (mkF m 124 #[.val (.int p1), .val (.int p2), .val (.int p3), .val (.int p4), .val (.int p5), .val (.int (3 : Int32)), .val (.int (2 : Int32)), .val (.ref b4), .val (.ref b18), .unset, .unset, .unset] [(.int v48)]) := fun t kt => K49 t (by
    by_cases hc116_46 : (nar .byte (p5.toInt8.toInt32)) = (0 : Int32)
    · skip
      show Steps p.tables e below (T40.setTop (mkF m 116 #[.val (.int p1), .val (.int p2), .val (.int p3), .val (.int p4), .val (.int p5), .val (.int (3 : Int32)), .val (.int (2 : Int32)), .val (.ref b4), .val (.ref b18), .unset, .unset, .unset] [(.int (nar .byte (p5.toInt8.toInt32)))])) _
      refine XS.ifNo X40.here hx rfl (hb hby at_116) rfl ((if0 _ _).trans (teq hc116_46).2) ?_
      show Steps p.tables e below (T40.setTop (mkF m 119 #[.val (.int p1), .val (.int p2), .val (.int p3), .val (.int p4), .val (.int p5), .val (.int (3 : Int32)), .val (.int (2 : Int32)), .val (.ref b4), .val (.ref b18), .unset, .unset, .unset] [])) _
      refine XS.iconst X40.here hx rfl (hb hby at_119) ?_
      show Steps p.tables e below (T40.setTop (mkF m 120 #[.val (.int p1), .val (.int p2), .val (.int p3), .val (.int p4), .val (.int p5), .val (.int (3 : Int32)), .val (.int (2 : Int32)), .val (.ref b4), .val (.ref b18), .unset, .unset, .unset] [(.int (1 : Int32))])) _
      refine XS.goto X40.here hx rfl (pc0 := 120) (pc' := 124) rfl (hb hby at_120) (by decide) (by decide) ?_
      show Steps p.tables e below (T40.setTop (mkF m 124 #[.val (.int p1), .val (.int p2), .val (.int p3), .val (.int p4), .val (.int p5), .val (.int (3 : Int32)), .val (.int (2 : Int32)), .val (.ref b4), .val (.ref b18), .unset, .unset, .unset] [(.int (1 : Int32))])) _
      exact castTop (by simp only [hv48, if_pos hc116_46]) kt
    · skip
      show Steps p.tables e below (T40.setTop (mkF m 116 #[.val (.int p1), .val (.int p2), .val (.int p3), .val (.int p4), .val (.int p5), .val (.int (3 : Int32)), .val (.int (2 : Int32)), .val (.ref b4), .val (.ref b18), .unset, .unset, .unset] [(.int (nar .byte (p5.toInt8.toInt32)))])) _
      refine XS.ifYes X40.here hx rfl (pc0 := 116) (pc' := 123) rfl (hb hby at_116) rfl ((if0 _ _).trans (feq hc116_46).2) (by decide) (by decide) ?_
      show Steps p.tables e below (T40.setTop (mkF m 123 #[.val (.int p1), .val (.int p2), .val (.int p3), .val (.int p4), .val (.int p5), .val (.int (3 : Int32)), .val (.int (2 : Int32)), .val (.ref b4), .val (.ref b18), .unset, .unset, .unset] [])) _
      refine XS.iconst X40.here hx rfl (hb hby at_123) ?_
      show Steps p.tables e below (T40.setTop (mkF m 124 #[.val (.int p1), .val (.int p2), .val (.int p3), .val (.int p4), .val (.int p5), .val (.int (3 : Int32)), .val (.int (2 : Int32)), .val (.ref b4), .val (.ref b18), .unset, .unset, .unset] [(.int (0 : Int32))])) _
      exact castTop (by simp only [hv48, if_neg hc116_46]) kt)
  have K51 : Gx p e below s₁ f0 T40 (mkF m 128 #[.val (.int p1), .val (.int p2), .val (.int p3), .val (.int p4), .val (.int p5), .val (.int (3 : Int32)), .val (.int (2 : Int32)), .val (.ref b4), .val (.ref b18), .val (.int v48), .unset, .unset] [(.ref b18)]) := fun t kt => K50 t (by
    show Steps p.tables e below (T40.setTop (mkF m 124 #[.val (.int p1), .val (.int p2), .val (.int p3), .val (.int p4), .val (.int p5), .val (.int (3 : Int32)), .val (.int (2 : Int32)), .val (.ref b4), .val (.ref b18), .unset, .unset, .unset] [(.int v48)])) _
    refine XS.istore X40.here hx rfl (hb hby at_124) rfl (l' := #[.val (.int p1), .val (.int p2), .val (.int p3), .val (.int p4), .val (.int p5), .val (.int (3 : Int32)), .val (.int (2 : Int32)), .val (.ref b4), .val (.ref b18), .val (.int v48), .unset, .unset]) rfl ?_
    show Steps p.tables e below (T40.setTop (mkF m 126 #[.val (.int p1), .val (.int p2), .val (.int p3), .val (.int p4), .val (.int p5), .val (.int (3 : Int32)), .val (.int (2 : Int32)), .val (.ref b4), .val (.ref b18), .val (.int v48), .unset, .unset] [])) _
    refine XS.aload X40.here hx rfl (hb hby at_126) rfl rfl ?_
    exact kt)
  have kp52 : Keep h0 h40 [] := (Keep.trans kp39 Kc40 (allS (Or.inr (Nat.le_trans (((((Keep.refl h0 []).ext E4).wr W8 (Or.inr (Nat.le_trans (Keep.refl h0 []).1 (Nat.le_of_eq g4.symm)))).wr W12 (Or.inr (Nat.le_trans (Keep.refl h0 []).1 (Nat.le_of_eq g4.symm)))).wr W16 (Or.inr (Nat.le_trans (Keep.refl h0 []).1 (Nat.le_of_eq g4.symm)))).1 (Nat.le_of_eq g18.symm))) all0))
  obtain ⟨cq53, kq53, q53a, q53b, q53c⟩ := isOf hZ e40 f41
  obtain ⟨_, _, ⟨T53, L53, k53, n53⟩, -, X53', ⟨Lc53, hQ53, l53, y53, z53⟩, st53⟩ := X40.virtualBack hx (y := (⟨"com/example/looseleaf/looseleaf/pgwire/MessageBody", "atNul", "()Z"⟩ : MethodName)) (z := (⟨"com/example/looseleaf/looseleaf/pgwire/MessageBody", "atNul", "()Z"⟩ : MethodName)) hown (mvT hZ (hw _ (List.mem_of_getElem? (i := 12) rfl))) (mvT hZ (hw _ (List.mem_of_getElem? (i := 13) rfl))) (notFace_of_selects (args := #[]) (mvT hZ (hw _ (List.mem_of_getElem? (i := 15) rfl)))) (mvT hZ (hw _ (List.mem_of_getElem? (i := 15) rfl))) (mvT hZ (hw _ (List.mem_of_getElem? (i := 14) rfl))) (by decide) (backOf (W := 0) (rmAt1 l Z a0 hw [] b18 b4 (2 : Int32) k4 (3 : Int32) [(.int (nar .byte (p3.toInt8.toInt32))), (.int (nar .byte (p4.toInt8.toInt32))), (.int (nar .byte (p5.toInt8.toInt32)))] (nar .byte (p5.toInt8.toInt32)) h40 n0 (Nat.le_trans Z0 kp52.1) f42 f43 f45 (by decide) ⟨by decide, by decide⟩ rfl) hZ (hw _ (List.mem_of_getElem? (i := 16) rfl)) (hw _ (List.mem_of_getElem? (i := 3) rfl)) (by decide) (by decide)) q53a q53c (g := (mkF m 128 #[.val (.int p1), .val (.int p2), .val (.int p3), .val (.int p4), .val (.int p5), .val (.int (3 : Int32)), .val (.int (2 : Int32)), .val (.ref b4), .val (.ref b18), .val (.int v48), .unset, .unset] [(.ref b18)])) rfl (by rw [hml]; rfl) (Steps.refl _) (argsL := []) (rest := []) (lenOf pd___Z rfl) rfl (by show 2 * 0 + _ ≤ _; exact Nat.le_of_eq rfl) (hb hby at_128) (fun _ _ => ⟨rfl, e40, (by decide : 2 + 0 ≤ _), (by decide : 5 + 0 ≤ _)⟩)
  dsimp only [Pt.U, Pt.locs, Pt.cells, Pt.slots] at X53' l53 y53 z53 st53 hQ53
  subst l53 y53 z53
  obtain ⟨rfl, N53q, e53⟩ := hQ53
  obtain ⟨lc53, X53, N53⟩ : ∃ lc, Stand p l e room_1 s m #[(.int p1), (.int p2), (.int p3), (.int p4), (.int p5)] below meth c T53 lc 2 5 ∧ Fr n0 lc := ⟨_, X53', Fr.app N40 N53q⟩
  have K54 : Gx p e below s₁ f0 T53 (mkF m 131 #[.val (.int p1), .val (.int p2), .val (.int p3), .val (.int p4), .val (.int p5), .val (.int (3 : Int32)), .val (.int (2 : Int32)), .val (.ref b4), .val (.ref b18), .val (.int v48), .unset, .unset] [(.int (if (nar .byte (p5.toInt8.toInt32)) = (0 : Int32) then (1 : Int32) else (0 : Int32)))]) := fun t kt => K51 t (st53.trans kt)
  have K55 : Gx p e below s₁ f0 T53 (mkF m 135 #[.val (.int p1), .val (.int p2), .val (.int p3), .val (.int p4), .val (.int p5), .val (.int (3 : Int32)), .val (.int (2 : Int32)), .val (.ref b4), .val (.ref b18), .val (.int v48), .val (.int (if (nar .byte (p5.toInt8.toInt32)) = (0 : Int32) then (1 : Int32) else (0 : Int32))), .unset] [(.ref b18)]) := fun t kt => K54 t (by
    show Steps p.tables e below (T53.setTop (mkF m 131 #[.val (.int p1), .val (.int p2), .val (.int p3), .val (.int p4), .val (.int p5), .val (.int (3 : Int32)), .val (.int (2 : Int32)), .val (.ref b4), .val (.ref b18), .val (.int v48), .unset, .unset] [(.int (if (nar .byte (p5.toInt8.toInt32)) = (0 : Int32) then (1 : Int32) else (0 : Int32)))])) _
    refine XS.istore X53.here hx rfl (hb hby at_131) rfl (l' := #[.val (.int p1), .val (.int p2), .val (.int p3), .val (.int p4), .val (.int p5), .val (.int (3 : Int32)), .val (.int (2 : Int32)), .val (.ref b4), .val (.ref b18), .val (.int v48), .val (.int (if (nar .byte (p5.toInt8.toInt32)) = (0 : Int32) then (1 : Int32) else (0 : Int32))), .unset]) rfl ?_
    show Steps p.tables e below (T53.setTop (mkF m 133 #[.val (.int p1), .val (.int p2), .val (.int p3), .val (.int p4), .val (.int p5), .val (.int (3 : Int32)), .val (.int (2 : Int32)), .val (.ref b4), .val (.ref b18), .val (.int v48), .val (.int (if (nar .byte (p5.toInt8.toInt32)) = (0 : Int32) then (1 : Int32) else (0 : Int32))), .unset] [])) _
    refine XS.aload X53.here hx rfl (hb hby at_133) rfl rfl ?_
    exact kt)
  obtain ⟨cq56, kq56, q56a, q56b, q56c⟩ := isOf hZ e53 f41
  obtain ⟨_, _, ⟨T56, L56, k56, n56⟩, -, X56', ⟨Lc56, hQ56, l56, y56, z56⟩, st56⟩ := X53.virtualBack hx (y := (⟨"com/example/looseleaf/looseleaf/pgwire/MessageBody", "atNul", "()Z"⟩ : MethodName)) (z := (⟨"com/example/looseleaf/looseleaf/pgwire/MessageBody", "atNul", "()Z"⟩ : MethodName)) hown (mvT hZ (hw _ (List.mem_of_getElem? (i := 12) rfl))) (mvT hZ (hw _ (List.mem_of_getElem? (i := 13) rfl))) (notFace_of_selects (args := #[]) (mvT hZ (hw _ (List.mem_of_getElem? (i := 15) rfl)))) (mvT hZ (hw _ (List.mem_of_getElem? (i := 15) rfl))) (mvT hZ (hw _ (List.mem_of_getElem? (i := 14) rfl))) (by decide) (backOf (W := 0) (rmAt1 l Z a0 hw [] b18 b4 (2 : Int32) k4 (3 : Int32) [(.int (nar .byte (p3.toInt8.toInt32))), (.int (nar .byte (p4.toInt8.toInt32))), (.int (nar .byte (p5.toInt8.toInt32)))] (nar .byte (p5.toInt8.toInt32)) h40 n0 (Nat.le_trans Z0 kp52.1) f42 f43 f45 (by decide) ⟨by decide, by decide⟩ rfl) hZ (hw _ (List.mem_of_getElem? (i := 16) rfl)) (hw _ (List.mem_of_getElem? (i := 3) rfl)) (by decide) (by decide)) q56a q56c (g := (mkF m 135 #[.val (.int p1), .val (.int p2), .val (.int p3), .val (.int p4), .val (.int p5), .val (.int (3 : Int32)), .val (.int (2 : Int32)), .val (.ref b4), .val (.ref b18), .val (.int v48), .val (.int (if (nar .byte (p5.toInt8.toInt32)) = (0 : Int32) then (1 : Int32) else (0 : Int32))), .unset] [(.ref b18)])) rfl (by rw [hml]; rfl) (Steps.refl _) (argsL := []) (rest := []) (lenOf pd___Z rfl) rfl (by show 2 * 0 + _ ≤ _; exact Nat.le_of_eq rfl) (hb hby at_135) (fun _ _ => ⟨rfl, e53, (by decide : 2 + 0 ≤ _), (by decide : 5 + 0 ≤ _)⟩)
  dsimp only [Pt.U, Pt.locs, Pt.cells, Pt.slots] at X56' l56 y56 z56 st56 hQ56
  subst l56 y56 z56
  obtain ⟨rfl, N56q, e56⟩ := hQ56
  obtain ⟨lc56, X56, N56⟩ : ∃ lc, Stand p l e room_1 s m #[(.int p1), (.int p2), (.int p3), (.int p4), (.int p5)] below meth c T56 lc 2 5 ∧ Fr n0 lc := ⟨_, X56', Fr.app N53 N56q⟩
  have K57 : Gx p e below s₁ f0 T56 (mkF m 138 #[.val (.int p1), .val (.int p2), .val (.int p3), .val (.int p4), .val (.int p5), .val (.int (3 : Int32)), .val (.int (2 : Int32)), .val (.ref b4), .val (.ref b18), .val (.int v48), .val (.int (if (nar .byte (p5.toInt8.toInt32)) = (0 : Int32) then (1 : Int32) else (0 : Int32))), .unset] [(.int (if (nar .byte (p5.toInt8.toInt32)) = (0 : Int32) then (1 : Int32) else (0 : Int32)))]) := fun t kt => K55 t (st56.trans kt)
  have K58 : Gx p e below s₁ f0 T56 (mkF m 165 #[.val (.int p1), .val (.int p2), .val (.int p3), .val (.int p4), .val (.int p5), .val (.int (3 : Int32)), .val (.int (2 : Int32)), .val (.ref b4), .val (.ref b18), .val (.int v48), .val (.int (if (nar .byte (p5.toInt8.toInt32)) = (0 : Int32) then (1 : Int32) else (0 : Int32))), .val (.int (if (nar .byte (p5.toInt8.toInt32)) = (0 : Int32) then (1 : Int32) else (0 : Int32)))] [(.ref b18)]) := fun t kt => K57 t (by
    show Steps p.tables e below (T56.setTop (mkF m 138 #[.val (.int p1), .val (.int p2), .val (.int p3), .val (.int p4), .val (.int p5), .val (.int (3 : Int32)), .val (.int (2 : Int32)), .val (.ref b4), .val (.ref b18), .val (.int v48), .val (.int (if (nar .byte (p5.toInt8.toInt32)) = (0 : Int32) then (1 : Int32) else (0 : Int32))), .unset] [(.int (if (nar .byte (p5.toInt8.toInt32)) = (0 : Int32) then (1 : Int32) else (0 : Int32)))])) _
    refine XS.istore X56.here hx rfl (hb hby at_138) rfl (l' := #[.val (.int p1), .val (.int p2), .val (.int p3), .val (.int p4), .val (.int p5), .val (.int (3 : Int32)), .val (.int (2 : Int32)), .val (.ref b4), .val (.ref b18), .val (.int v48), .val (.int (if (nar .byte (p5.toInt8.toInt32)) = (0 : Int32) then (1 : Int32) else (0 : Int32))), .val (.int (if (nar .byte (p5.toInt8.toInt32)) = (0 : Int32) then (1 : Int32) else (0 : Int32)))]) rfl ?_
    show Steps p.tables e below (T56.setTop (mkF m 140 #[.val (.int p1), .val (.int p2), .val (.int p3), .val (.int p4), .val (.int p5), .val (.int (3 : Int32)), .val (.int (2 : Int32)), .val (.ref b4), .val (.ref b18), .val (.int v48), .val (.int (if (nar .byte (p5.toInt8.toInt32)) = (0 : Int32) then (1 : Int32) else (0 : Int32))), .val (.int (if (nar .byte (p5.toInt8.toInt32)) = (0 : Int32) then (1 : Int32) else (0 : Int32)))] [])) _
    refine XS.iload X56.here hx rfl (hb hby at_140) rfl ?_
    show Steps p.tables e below (T56.setTop (mkF m 142 #[.val (.int p1), .val (.int p2), .val (.int p3), .val (.int p4), .val (.int p5), .val (.int (3 : Int32)), .val (.int (2 : Int32)), .val (.ref b4), .val (.ref b18), .val (.int v48), .val (.int (if (nar .byte (p5.toInt8.toInt32)) = (0 : Int32) then (1 : Int32) else (0 : Int32))), .val (.int (if (nar .byte (p5.toInt8.toInt32)) = (0 : Int32) then (1 : Int32) else (0 : Int32)))] [(.int (if (nar .byte (p5.toInt8.toInt32)) = (0 : Int32) then (1 : Int32) else (0 : Int32)))])) _
    refine XS.iload X56.here hx rfl (hb hby at_142) rfl ?_
    show Steps p.tables e below (T56.setTop (mkF m 144 #[.val (.int p1), .val (.int p2), .val (.int p3), .val (.int p4), .val (.int p5), .val (.int (3 : Int32)), .val (.int (2 : Int32)), .val (.ref b4), .val (.ref b18), .val (.int v48), .val (.int (if (nar .byte (p5.toInt8.toInt32)) = (0 : Int32) then (1 : Int32) else (0 : Int32))), .val (.int (if (nar .byte (p5.toInt8.toInt32)) = (0 : Int32) then (1 : Int32) else (0 : Int32)))] [(.int v48), (.int (if (nar .byte (p5.toInt8.toInt32)) = (0 : Int32) then (1 : Int32) else (0 : Int32)))])) _
    refine XS.icmpNo X56.here hx rfl (hb hby at_144) rfl (teq (by rw [hv48])).2 ?_
    show Steps p.tables e below (T56.setTop (mkF m 147 #[.val (.int p1), .val (.int p2), .val (.int p3), .val (.int p4), .val (.int p5), .val (.int (3 : Int32)), .val (.int (2 : Int32)), .val (.ref b4), .val (.ref b18), .val (.int v48), .val (.int (if (nar .byte (p5.toInt8.toInt32)) = (0 : Int32) then (1 : Int32) else (0 : Int32))), .val (.int (if (nar .byte (p5.toInt8.toInt32)) = (0 : Int32) then (1 : Int32) else (0 : Int32)))] [])) _
    refine XS.iload X56.here hx rfl (hb hby at_147) rfl ?_
    show Steps p.tables e below (T56.setTop (mkF m 149 #[.val (.int p1), .val (.int p2), .val (.int p3), .val (.int p4), .val (.int p5), .val (.int (3 : Int32)), .val (.int (2 : Int32)), .val (.ref b4), .val (.ref b18), .val (.int v48), .val (.int (if (nar .byte (p5.toInt8.toInt32)) = (0 : Int32) then (1 : Int32) else (0 : Int32))), .val (.int (if (nar .byte (p5.toInt8.toInt32)) = (0 : Int32) then (1 : Int32) else (0 : Int32)))] [(.int (if (nar .byte (p5.toInt8.toInt32)) = (0 : Int32) then (1 : Int32) else (0 : Int32)))])) _
    refine XS.iload X56.here hx rfl (hb hby at_149) rfl ?_
    show Steps p.tables e below (T56.setTop (mkF m 151 #[.val (.int p1), .val (.int p2), .val (.int p3), .val (.int p4), .val (.int p5), .val (.int (3 : Int32)), .val (.int (2 : Int32)), .val (.ref b4), .val (.ref b18), .val (.int v48), .val (.int (if (nar .byte (p5.toInt8.toInt32)) = (0 : Int32) then (1 : Int32) else (0 : Int32))), .val (.int (if (nar .byte (p5.toInt8.toInt32)) = (0 : Int32) then (1 : Int32) else (0 : Int32)))] [(.int v48), (.int (if (nar .byte (p5.toInt8.toInt32)) = (0 : Int32) then (1 : Int32) else (0 : Int32)))])) _
    refine XS.icmpYes X56.here hx rfl (pc0 := 151) (pc' := 156) rfl (hb hby at_151) rfl (teq (by rw [hv48])).1 (by decide) (by decide) ?_
    show Steps p.tables e below (T56.setTop (mkF m 156 #[.val (.int p1), .val (.int p2), .val (.int p3), .val (.int p4), .val (.int p5), .val (.int (3 : Int32)), .val (.int (2 : Int32)), .val (.ref b4), .val (.ref b18), .val (.int v48), .val (.int (if (nar .byte (p5.toInt8.toInt32)) = (0 : Int32) then (1 : Int32) else (0 : Int32))), .val (.int (if (nar .byte (p5.toInt8.toInt32)) = (0 : Int32) then (1 : Int32) else (0 : Int32)))] [])) _
    refine XS.iload X56.here hx rfl (hb hby at_156) rfl ?_
    show Steps p.tables e below (T56.setTop (mkF m 158 #[.val (.int p1), .val (.int p2), .val (.int p3), .val (.int p4), .val (.int p5), .val (.int (3 : Int32)), .val (.int (2 : Int32)), .val (.ref b4), .val (.ref b18), .val (.int v48), .val (.int (if (nar .byte (p5.toInt8.toInt32)) = (0 : Int32) then (1 : Int32) else (0 : Int32))), .val (.int (if (nar .byte (p5.toInt8.toInt32)) = (0 : Int32) then (1 : Int32) else (0 : Int32)))] [(.int (2 : Int32))])) _
    refine XS.iload X56.here hx rfl (hb hby at_158) rfl ?_
    show Steps p.tables e below (T56.setTop (mkF m 160 #[.val (.int p1), .val (.int p2), .val (.int p3), .val (.int p4), .val (.int p5), .val (.int (3 : Int32)), .val (.int (2 : Int32)), .val (.ref b4), .val (.ref b18), .val (.int v48), .val (.int (if (nar .byte (p5.toInt8.toInt32)) = (0 : Int32) then (1 : Int32) else (0 : Int32))), .val (.int (if (nar .byte (p5.toInt8.toInt32)) = (0 : Int32) then (1 : Int32) else (0 : Int32)))] [(.int (3 : Int32)), (.int (2 : Int32))])) _
    refine XS.icmpNo X56.here hx rfl (hb hby at_160) rfl (tlt (by decide)).2.1 ?_
    show Steps p.tables e below (T56.setTop (mkF m 163 #[.val (.int p1), .val (.int p2), .val (.int p3), .val (.int p4), .val (.int p5), .val (.int (3 : Int32)), .val (.int (2 : Int32)), .val (.ref b4), .val (.ref b18), .val (.int v48), .val (.int (if (nar .byte (p5.toInt8.toInt32)) = (0 : Int32) then (1 : Int32) else (0 : Int32))), .val (.int (if (nar .byte (p5.toInt8.toInt32)) = (0 : Int32) then (1 : Int32) else (0 : Int32)))] [])) _
    refine XS.aload X56.here hx rfl (hb hby at_163) rfl rfl ?_
    exact kt)
  obtain ⟨cq59, kq59, q59a, q59b, q59c⟩ := isOf hZ e56 f41
  obtain ⟨_, _, ⟨T59, L59, k59, n59⟩, -, X59', ⟨Lc59, hQ59, l59, y59, z59⟩, st59⟩ := X56.virtualBack hx (y := (⟨"com/example/looseleaf/looseleaf/pgwire/MessageBody", "byte1", "()I"⟩ : MethodName)) (z := (⟨"com/example/looseleaf/looseleaf/pgwire/MessageBody", "byte1", "()I"⟩ : MethodName)) hown (mvT hZ (hw _ (List.mem_of_getElem? (i := 19) rfl))) (mvT hZ (hw _ (List.mem_of_getElem? (i := 20) rfl))) (notFace_of_selects (args := #[]) (mvT hZ (hw _ (List.mem_of_getElem? (i := 22) rfl)))) (mvT hZ (hw _ (List.mem_of_getElem? (i := 22) rfl))) (mvT hZ (hw _ (List.mem_of_getElem? (i := 21) rfl))) (by decide) (backOf (W := 0) (rmBy1 l Z a0 hw [] b18 b4 (2 : Int32) k4 (3 : Int32) [(.int (nar .byte (p3.toInt8.toInt32))), (.int (nar .byte (p4.toInt8.toInt32))), (.int (nar .byte (p5.toInt8.toInt32)))] (nar .byte (p5.toInt8.toInt32)) (3 : Int32) h40 n0 (Nat.le_trans Z0 kp52.1) f41 (Nat.le_trans Z0 (Nat.le_trans (((((Keep.refl h0 []).ext E4).wr W8 (Or.inr (Nat.le_trans (Keep.refl h0 []).1 (Nat.le_of_eq g4.symm)))).wr W12 (Or.inr (Nat.le_trans (Keep.refl h0 []).1 (Nat.le_of_eq g4.symm)))).wr W16 (Or.inr (Nat.le_trans (Keep.refl h0 []).1 (Nat.le_of_eq g4.symm)))).1 (Nat.le_of_eq g18.symm))) f42 f43 f45 (Ne.symm (Nat.ne_of_lt (Nat.lt_of_lt_of_le V16.lt (Nat.le_of_eq g18.symm)))) (by decide) ⟨by decide, by decide⟩ rfl (by decide)) hZ (hw _ (List.mem_of_getElem? (i := 23) rfl)) (hw _ (List.mem_of_getElem? (i := 3) rfl)) (by decide) (by decide)) q59a q59c (g := (mkF m 165 #[.val (.int p1), .val (.int p2), .val (.int p3), .val (.int p4), .val (.int p5), .val (.int (3 : Int32)), .val (.int (2 : Int32)), .val (.ref b4), .val (.ref b18), .val (.int v48), .val (.int (if (nar .byte (p5.toInt8.toInt32)) = (0 : Int32) then (1 : Int32) else (0 : Int32))), .val (.int (if (nar .byte (p5.toInt8.toInt32)) = (0 : Int32) then (1 : Int32) else (0 : Int32)))] [(.ref b18)])) rfl (by rw [hml]; rfl) (Steps.refl _) (argsL := []) (rest := []) (lenOf pd___I rfl) rfl (by show 2 * 0 + _ ≤ _; exact Nat.le_of_eq rfl) (hb hby at_165) (fun _ _ => ⟨rfl, e56, (by decide : 2 + 0 ≤ _), (by decide : 5 + 0 ≤ _)⟩)
  dsimp only [Pt.U, Pt.locs, Pt.cells, Pt.slots] at X59' l59 y59 z59 st59 hQ59
  subst l59 y59 z59
  obtain ⟨h59, e59⟩ : ∃ z, T59.heap = z := ⟨_, rfl⟩
  rw [e59] at hQ59
  obtain ⟨rfl, N59q, Kc59, f60, f61, f62⟩ := hQ59
  obtain ⟨lc59, X59, N59⟩ : ∃ lc, Stand p l e room_1 s m #[(.int p1), (.int p2), (.int p3), (.int p4), (.int p5)] below meth c T59 lc 2 5 ∧ Fr n0 lc := ⟨_, X59', Fr.app N56 N59q⟩
  have K63 : Gx p e below s₁ f0 T59 (mkF m 168 #[.val (.int p1), .val (.int p2), .val (.int p3), .val (.int p4), .val (.int p5), .val (.int (3 : Int32)), .val (.int (2 : Int32)), .val (.ref b4), .val (.ref b18), .val (.int v48), .val (.int (if (nar .byte (p5.toInt8.toInt32)) = (0 : Int32) then (1 : Int32) else (0 : Int32))), .val (.int (if (nar .byte (p5.toInt8.toInt32)) = (0 : Int32) then (1 : Int32) else (0 : Int32)))] [(.int ((nar .byte (p5.toInt8.toInt32)) &&& (255 : Int32)))]) := fun t kt => K58 t (st59.trans kt)
  have f64 : Arv Z h59 b4 k4 .byte (3 : Int32) [(.int (nar .byte (p3.toInt8.toInt32))), (.int (nar .byte (p4.toInt8.toInt32))), (.int (nar .byte (p5.toInt8.toInt32)))] (.int (0 : Int32)) := (f45.keep Kc59 (ninS (Nat.ne_of_lt (Nat.lt_of_lt_of_le V16.lt (Nat.le_of_eq g18.symm))) nin0))
  obtain ⟨clq65, Arq65, ckq65, cSq65, cNq65, cHq65, cGq65⟩ := id f64
  have K66 : Gx p e below s₁ f0 T59 (mkF m 185 #[.val (.int p1), .val (.int p2), .val (.int p3), .val (.int p4), .val (.int p5), .val (.int (3 : Int32)), .val (.int (2 : Int32)), .val (.ref b4), .val (.ref b18), .val (.int v48), .val (.int (if (nar .byte (p5.toInt8.toInt32)) = (0 : Int32) then (1 : Int32) else (0 : Int32))), .val (.int (if (nar .byte (p5.toInt8.toInt32)) = (0 : Int32) then (1 : Int32) else (0 : Int32)))] [(.int (1 : Int32))]) := fun t kt => K63 t (by
    show Steps p.tables e below (T59.setTop (mkF m 168 #[.val (.int p1), .val (.int p2), .val (.int p3), .val (.int p4), .val (.int p5), .val (.int (3 : Int32)), .val (.int (2 : Int32)), .val (.ref b4), .val (.ref b18), .val (.int v48), .val (.int (if (nar .byte (p5.toInt8.toInt32)) = (0 : Int32) then (1 : Int32) else (0 : Int32))), .val (.int (if (nar .byte (p5.toInt8.toInt32)) = (0 : Int32) then (1 : Int32) else (0 : Int32)))] [(.int ((nar .byte (p5.toInt8.toInt32)) &&& (255 : Int32)))])) _
    refine XS.aload X59.here hx rfl (hb hby at_168) rfl rfl ?_
    show Steps p.tables e below (T59.setTop (mkF m 170 #[.val (.int p1), .val (.int p2), .val (.int p3), .val (.int p4), .val (.int p5), .val (.int (3 : Int32)), .val (.int (2 : Int32)), .val (.ref b4), .val (.ref b18), .val (.int v48), .val (.int (if (nar .byte (p5.toInt8.toInt32)) = (0 : Int32) then (1 : Int32) else (0 : Int32))), .val (.int (if (nar .byte (p5.toInt8.toInt32)) = (0 : Int32) then (1 : Int32) else (0 : Int32)))] [(.ref b4), (.int ((nar .byte (p5.toInt8.toInt32)) &&& (255 : Int32)))])) _
    refine XS.iload X59.here hx rfl (hb hby at_170) rfl ?_
    show Steps p.tables e below (T59.setTop (mkF m 172 #[.val (.int p1), .val (.int p2), .val (.int p3), .val (.int p4), .val (.int p5), .val (.int (3 : Int32)), .val (.int (2 : Int32)), .val (.ref b4), .val (.ref b18), .val (.int v48), .val (.int (if (nar .byte (p5.toInt8.toInt32)) = (0 : Int32) then (1 : Int32) else (0 : Int32))), .val (.int (if (nar .byte (p5.toInt8.toInt32)) = (0 : Int32) then (1 : Int32) else (0 : Int32)))] [(.int (2 : Int32)), (.ref b4), (.int ((nar .byte (p5.toInt8.toInt32)) &&& (255 : Int32)))])) _
    refine X59.baloadBytes hx (j := (2 : Int32)) (v := (.int (nar .byte (p5.toInt8.toInt32)))) (by rw [e59]; exact Arq65.1) (State.isArrayOf_alike hZ.alike Arq65.2.1) Arq65.2.2 (inb_of cSq65 ⟨by decide, by decide⟩) (Has.at cHq65 (inb_of cSq65 ⟨by decide, by decide⟩) rfl) (g := (mkF m 172 #[.val (.int p1), .val (.int p2), .val (.int p3), .val (.int p4), .val (.int p5), .val (.int (3 : Int32)), .val (.int (2 : Int32)), .val (.ref b4), .val (.ref b18), .val (.int v48), .val (.int (if (nar .byte (p5.toInt8.toInt32)) = (0 : Int32) then (1 : Int32) else (0 : Int32))), .val (.int (if (nar .byte (p5.toInt8.toInt32)) = (0 : Int32) then (1 : Int32) else (0 : Int32)))] [(.int (2 : Int32)), (.ref b4), (.int ((nar .byte (p5.toInt8.toInt32)) &&& (255 : Int32)))])) rfl rfl (hb hby at_172) _ ?_
    show Steps p.tables e below (T59.setTop (mkF m 173 #[.val (.int p1), .val (.int p2), .val (.int p3), .val (.int p4), .val (.int p5), .val (.int (3 : Int32)), .val (.int (2 : Int32)), .val (.ref b4), .val (.ref b18), .val (.int v48), .val (.int (if (nar .byte (p5.toInt8.toInt32)) = (0 : Int32) then (1 : Int32) else (0 : Int32))), .val (.int (if (nar .byte (p5.toInt8.toInt32)) = (0 : Int32) then (1 : Int32) else (0 : Int32)))] [(.int (nar .byte (p5.toInt8.toInt32))), (.int ((nar .byte (p5.toInt8.toInt32)) &&& (255 : Int32)))])) _
    refine XS.sipush X59.here hx rfl (hb hby at_173) ?_
    show Steps p.tables e below (T59.setTop (mkF m 176 #[.val (.int p1), .val (.int p2), .val (.int p3), .val (.int p4), .val (.int p5), .val (.int (3 : Int32)), .val (.int (2 : Int32)), .val (.ref b4), .val (.ref b18), .val (.int v48), .val (.int (if (nar .byte (p5.toInt8.toInt32)) = (0 : Int32) then (1 : Int32) else (0 : Int32))), .val (.int (if (nar .byte (p5.toInt8.toInt32)) = (0 : Int32) then (1 : Int32) else (0 : Int32)))] [(.int (255 : Int32)), (.int (nar .byte (p5.toInt8.toInt32))), (.int ((nar .byte (p5.toInt8.toInt32)) &&& (255 : Int32)))])) _
    refine XS.iand X59.here hx rfl (hb hby at_176) rfl ?_
    show Steps p.tables e below (T59.setTop (mkF m 177 #[.val (.int p1), .val (.int p2), .val (.int p3), .val (.int p4), .val (.int p5), .val (.int (3 : Int32)), .val (.int (2 : Int32)), .val (.ref b4), .val (.ref b18), .val (.int v48), .val (.int (if (nar .byte (p5.toInt8.toInt32)) = (0 : Int32) then (1 : Int32) else (0 : Int32))), .val (.int (if (nar .byte (p5.toInt8.toInt32)) = (0 : Int32) then (1 : Int32) else (0 : Int32)))] [(.int ((nar .byte (p5.toInt8.toInt32)) &&& (255 : Int32))), (.int ((nar .byte (p5.toInt8.toInt32)) &&& (255 : Int32)))])) _
    refine XS.icmpNo X59.here hx rfl (hb hby at_177) rfl (teq rfl).2 ?_
    show Steps p.tables e below (T59.setTop (mkF m 180 #[.val (.int p1), .val (.int p2), .val (.int p3), .val (.int p4), .val (.int p5), .val (.int (3 : Int32)), .val (.int (2 : Int32)), .val (.ref b4), .val (.ref b18), .val (.int v48), .val (.int (if (nar .byte (p5.toInt8.toInt32)) = (0 : Int32) then (1 : Int32) else (0 : Int32))), .val (.int (if (nar .byte (p5.toInt8.toInt32)) = (0 : Int32) then (1 : Int32) else (0 : Int32)))] [])) _
    refine XS.iconst X59.here hx rfl (hb hby at_180) ?_
    show Steps p.tables e below (T59.setTop (mkF m 181 #[.val (.int p1), .val (.int p2), .val (.int p3), .val (.int p4), .val (.int p5), .val (.int (3 : Int32)), .val (.int (2 : Int32)), .val (.ref b4), .val (.ref b18), .val (.int v48), .val (.int (if (nar .byte (p5.toInt8.toInt32)) = (0 : Int32) then (1 : Int32) else (0 : Int32))), .val (.int (if (nar .byte (p5.toInt8.toInt32)) = (0 : Int32) then (1 : Int32) else (0 : Int32)))] [(.int (1 : Int32))])) _
    refine XS.goto X59.here hx rfl (pc0 := 181) (pc' := 185) rfl (hb hby at_181) (by decide) (by decide) ?_
    exact kt)
  obtain ⟨fs67, hr67, hrun67, hended67, hW67, hsame67⟩ := X59.leave (v := some (.int (1 : Int32))) (fun h => by rw [Bd.returns] at h; cases h)
  refine ⟨_, _, pre0 _ (K66 _ ?_), hrun67, hended67, _, _, rfl, ?_, ⟨_, rfl⟩, hW67, hsame67.mono (by decide) (by decide)⟩
  · exact retN X59 hx (t := .boolean) Bd.returns (by simp) (hb hby at_185) hr67
  · show Q0 Z p1 p2 p3 p4 p5 h0 n0 _ T59.heap _
    rw [e59]
    exact ⟨rfl, N59⟩
theorem ef_0_33 (m : MethodId) (p1 : Int32) (p2 : Int32) (p3 : Int32) (p4 : Int32) (p5 : Int32) : entryFrame m #[(.int p1), (.int p2), (.int p3), (.int p4), (.int p5)] maxLocals = mkF m 0 #[.val (.int p1), .val (.int p2), .val (.int p3), .val (.int p4), .val (.int p5), .unset, .unset, .unset, .unset, .unset, .unset, .unset] [] := by first | (simp [entryFrame, mkF, argsToLocals, Value.category, maxLocals]; done) | rfl
set_option maxRecDepth 65536 in
set_option maxHeartbeats 40000000 in
theorem rm0_33 (l : Launch) (Z : State) (a0 : Array Value) (hw : ∀ d ∈ tables_1, d.before a0 Z = true) (ws : List Jvm.Cond) (p1 : Int32) (p2 : Int32) (p3 : Int32) (p4 : Int32) (p5 : Int32) (h0 : Heap) (n0 : Nat) (Z0 : n0 ≤ h0.size) (hn_ : (p1 &&& (3 : Int32)) = (3 : Int32)) (hk_ : ((p2 &&& (3 : Int32)) % (4 : Int32)) = (3 : Int32)) :
    MetFree l x (head1 (Jvm.Cond.code x code maxLocals ret :: ws) room_1) (fun a U => a = #[(.int p1), (.int p2), (.int p3), (.int p4), (.int p5)] ∧ Z.Warmed39 U.vm ∧ U.heap = h0) (fun _ _ _ _ _ => True) (fun _ U o U' => ∃ v L, o = .returned v ∧ Q0 Z p1 p2 p3 p4 p5 h0 n0 v U'.heap L ∧ FrameEnd U o U' L room_1.cells room_1.slots) := by
  refine MetFree.of_bodySF (plainFor_of_name pn_0) hisR ?_
  intro p e s m args below meth c s₁ Bd hml0 hP hK
  obtain ⟨rfl, hZ, hh⟩ := hP
  have hx := Bd.exec
  have hby := Bd.bytes
  have hml : c.maxLocals = 12 := hml0
  have hown : s.vm.findClass "com/example/looseleaf/looseleaf/pgwire/MessageBodyAtNulPinLaw" = some m.cls := findClass_of_methodNamed Bd.named
  have hnm := (name_of_methodNamed Bd.named Bd.method).1
  have X0 : Stand p l e room_1 s m #[(.int p1), (.int p2), (.int p3), (.int p4), (.int p5)] below meth c s₁ [] 0 0 := Stand.of_body Bd
  have hs0 : h0 = s.heap := hh.symm
  have e0 : s₁.heap = h0 := by rw [← hh, Bd.state]; rfl
  have N0 := Fr.nil n0
  obtain ⟨f0, hf0⟩ : ∃ f, f = entryFrame m #[(.int p1), (.int p2), (.int p3), (.int p4), (.int p5)] maxLocals := ⟨_, rfl⟩
  have pre0 : ∀ t, Steps p.tables e below (s₁.setTop f0) t → Steps p.tables e below (s₁.setTop (entryFrame m #[(.int p1), (.int p2), (.int p3), (.int p4), (.int p5)] maxLocals)) t := fun t k => hf0 ▸ k
  have K0 : Gx p e below s₁ f0 s₁ (mkF m 0 #[.val (.int p1), .val (.int p2), .val (.int p3), .val (.int p4), .val (.int p5), .unset, .unset, .unset, .unset, .unset, .unset, .unset] []) := fun t kt => by rw [hf0]; exact castTop (ef_0_33 m p1 p2 p3 p4 p5) kt
  have K1 : Gx p e below s₁ f0 s₁ (mkF m 5 #[.val (.int p1), .val (.int p2), .val (.int p3), .val (.int p4), .val (.int p5), .val (.int (p1 &&& (3 : Int32))), .unset, .unset, .unset, .unset, .unset, .unset] []) := fun t kt => K0 t (by
    show Steps p.tables e below (s₁.setTop (mkF m 0 #[.val (.int p1), .val (.int p2), .val (.int p3), .val (.int p4), .val (.int p5), .unset, .unset, .unset, .unset, .unset, .unset, .unset] [])) _
    refine XS.iloadN X0.here hx rfl (hb hby at_0) rfl ?_
    show Steps p.tables e below (s₁.setTop (mkF m 1 #[.val (.int p1), .val (.int p2), .val (.int p3), .val (.int p4), .val (.int p5), .unset, .unset, .unset, .unset, .unset, .unset, .unset] [(.int p1)])) _
    refine XS.iconst X0.here hx rfl (hb hby at_1) ?_
    show Steps p.tables e below (s₁.setTop (mkF m 2 #[.val (.int p1), .val (.int p2), .val (.int p3), .val (.int p4), .val (.int p5), .unset, .unset, .unset, .unset, .unset, .unset, .unset] [(.int (3 : Int32)), (.int p1)])) _
    refine XS.iand X0.here hx rfl (hb hby at_2) rfl ?_
    show Steps p.tables e below (s₁.setTop (mkF m 3 #[.val (.int p1), .val (.int p2), .val (.int p3), .val (.int p4), .val (.int p5), .unset, .unset, .unset, .unset, .unset, .unset, .unset] [(.int (p1 &&& (3 : Int32)))])) _
    refine XS.istore X0.here hx rfl (hb hby at_3) rfl (l' := #[.val (.int p1), .val (.int p2), .val (.int p3), .val (.int p4), .val (.int p5), .val (.int (p1 &&& (3 : Int32))), .unset, .unset, .unset, .unset, .unset, .unset]) rfl ?_
    exact kt)
  rw [hn_] at K1
  have K2 : Gx p e below s₁ f0 s₁ (mkF m 15 #[.val (.int p1), .val (.int p2), .val (.int p3), .val (.int p4), .val (.int p5), .val (.int (3 : Int32)), .val (.int ((p2 &&& (3 : Int32)) % (4 : Int32))), .unset, .unset, .unset, .unset, .unset] []) := fun t kt => K1 t (by
    show Steps p.tables e below (s₁.setTop (mkF m 5 #[.val (.int p1), .val (.int p2), .val (.int p3), .val (.int p4), .val (.int p5), .val (.int (3 : Int32)), .unset, .unset, .unset, .unset, .unset, .unset] [])) _
    refine XS.iloadN X0.here hx rfl (hb hby at_5) rfl ?_
    show Steps p.tables e below (s₁.setTop (mkF m 6 #[.val (.int p1), .val (.int p2), .val (.int p3), .val (.int p4), .val (.int p5), .val (.int (3 : Int32)), .unset, .unset, .unset, .unset, .unset, .unset] [(.int p2)])) _
    refine XS.iconst X0.here hx rfl (hb hby at_6) ?_
    show Steps p.tables e below (s₁.setTop (mkF m 7 #[.val (.int p1), .val (.int p2), .val (.int p3), .val (.int p4), .val (.int p5), .val (.int (3 : Int32)), .unset, .unset, .unset, .unset, .unset, .unset] [(.int (3 : Int32)), (.int p2)])) _
    refine XS.iand X0.here hx rfl (hb hby at_7) rfl ?_
    show Steps p.tables e below (s₁.setTop (mkF m 8 #[.val (.int p1), .val (.int p2), .val (.int p3), .val (.int p4), .val (.int p5), .val (.int (3 : Int32)), .unset, .unset, .unset, .unset, .unset, .unset] [(.int (p2 &&& (3 : Int32)))])) _
    refine XS.iload X0.here hx rfl (hb hby at_8) rfl ?_
    show Steps p.tables e below (s₁.setTop (mkF m 10 #[.val (.int p1), .val (.int p2), .val (.int p3), .val (.int p4), .val (.int p5), .val (.int (3 : Int32)), .unset, .unset, .unset, .unset, .unset, .unset] [(.int (3 : Int32)), (.int (p2 &&& (3 : Int32)))])) _
    refine XS.iconst X0.here hx rfl (hb hby at_10) ?_
    show Steps p.tables e below (s₁.setTop (mkF m 11 #[.val (.int p1), .val (.int p2), .val (.int p3), .val (.int p4), .val (.int p5), .val (.int (3 : Int32)), .unset, .unset, .unset, .unset, .unset, .unset] [(.int (1 : Int32)), (.int (3 : Int32)), (.int (p2 &&& (3 : Int32)))])) _
    refine XS.iadd X0.here hx rfl (hb hby at_11) rfl ?_
    show Steps p.tables e below (s₁.setTop (mkF m 12 #[.val (.int p1), .val (.int p2), .val (.int p3), .val (.int p4), .val (.int p5), .val (.int (3 : Int32)), .unset, .unset, .unset, .unset, .unset, .unset] [(.int (4 : Int32)), (.int (p2 &&& (3 : Int32)))])) _
    refine iremM X0 hx rfl (hb hby at_12) rfl (by decide) ?_
    show Steps p.tables e below (s₁.setTop (mkF m 13 #[.val (.int p1), .val (.int p2), .val (.int p3), .val (.int p4), .val (.int p5), .val (.int (3 : Int32)), .unset, .unset, .unset, .unset, .unset, .unset] [(.int ((p2 &&& (3 : Int32)) % (4 : Int32)))])) _
    refine XS.istore X0.here hx rfl (hb hby at_13) rfl (l' := #[.val (.int p1), .val (.int p2), .val (.int p3), .val (.int p4), .val (.int p5), .val (.int (3 : Int32)), .val (.int ((p2 &&& (3 : Int32)) % (4 : Int32))), .unset, .unset, .unset, .unset, .unset]) rfl ?_
    exact kt)
  rw [hk_] at K2
  have K3 : Gx p e below s₁ f0 s₁ (mkF m 17 #[.val (.int p1), .val (.int p2), .val (.int p3), .val (.int p4), .val (.int p5), .val (.int (3 : Int32)), .val (.int (3 : Int32)), .unset, .unset, .unset, .unset, .unset] [(.int (3 : Int32))]) := fun t kt => K2 t (by
    show Steps p.tables e below (s₁.setTop (mkF m 15 #[.val (.int p1), .val (.int p2), .val (.int p3), .val (.int p4), .val (.int p5), .val (.int (3 : Int32)), .val (.int (3 : Int32)), .unset, .unset, .unset, .unset, .unset] [])) _
    refine XS.iload X0.here hx rfl (hb hby at_15) rfl ?_
    exact kt)
  obtain ⟨T4, h4, k4, X4, e4, E4, A4, st4⟩ := newP X0 hx hZ (hw _ (List.mem_of_getElem? (i := 0) rfl)) e0 (g := (mkF m 17 #[.val (.int p1), .val (.int p2), .val (.int p3), .val (.int p4), .val (.int p5), .val (.int (3 : Int32)), .val (.int (3 : Int32)), .unset, .unset, .unset, .unset, .unset] [(.int (3 : Int32))])) rfl (hb hby at_17) rfl (by decide) (cap := 3) (by decide) (by decide) (by decide) (by decide)
  obtain ⟨b4, g4⟩ : ∃ z, z = h0.size := ⟨_, rfl⟩
  rw [← g4] at A4 st4
  have V4 : Arv Z h4 b4 k4 .byte (3 : Int32) [(.int (0 : Int32)), (.int (0 : Int32)), (.int (0 : Int32))] (.int (0 : Int32)) := (Arv.new A4 (by decide)).pad (pad_rep [] (.int (0 : Int32)) 3)
  have K5 : Gx p e below s₁ f0 T4 (mkF m 19 #[.val (.int p1), .val (.int p2), .val (.int p3), .val (.int p4), .val (.int p5), .val (.int (3 : Int32)), .val (.int (3 : Int32)), .unset, .unset, .unset, .unset, .unset] [(.ref b4)]) := fun t kt => K3 t (st4 t kt)
  have K6 : Gx p e below s₁ f0 T4 (mkF m 31 #[.val (.int p1), .val (.int p2), .val (.int p3), .val (.int p4), .val (.int p5), .val (.int (3 : Int32)), .val (.int (3 : Int32)), .val (.ref b4), .unset, .unset, .unset, .unset] [(.int (p3.toInt8.toInt32)), (.int (0 : Int32)), (.ref b4)]) := fun t kt => K5 t (by
    show Steps p.tables e below (T4.setTop (mkF m 19 #[.val (.int p1), .val (.int p2), .val (.int p3), .val (.int p4), .val (.int p5), .val (.int (3 : Int32)), .val (.int (3 : Int32)), .unset, .unset, .unset, .unset, .unset] [(.ref b4)])) _
    refine XS.astore X4.here hx rfl (hb hby at_19) rfl rfl (l' := #[.val (.int p1), .val (.int p2), .val (.int p3), .val (.int p4), .val (.int p5), .val (.int (3 : Int32)), .val (.int (3 : Int32)), .val (.ref b4), .unset, .unset, .unset, .unset]) rfl ?_
    show Steps p.tables e below (T4.setTop (mkF m 21 #[.val (.int p1), .val (.int p2), .val (.int p3), .val (.int p4), .val (.int p5), .val (.int (3 : Int32)), .val (.int (3 : Int32)), .val (.ref b4), .unset, .unset, .unset, .unset] [])) _
    refine XS.iload X4.here hx rfl (hb hby at_21) rfl ?_
    show Steps p.tables e below (T4.setTop (mkF m 23 #[.val (.int p1), .val (.int p2), .val (.int p3), .val (.int p4), .val (.int p5), .val (.int (3 : Int32)), .val (.int (3 : Int32)), .val (.ref b4), .unset, .unset, .unset, .unset] [(.int (3 : Int32))])) _
    refine XS.ifNo X4.here hx rfl (hb hby at_23) rfl ((if0 _ _).trans (tlt (by decide)).2.2.2) ?_
    show Steps p.tables e below (T4.setTop (mkF m 26 #[.val (.int p1), .val (.int p2), .val (.int p3), .val (.int p4), .val (.int p5), .val (.int (3 : Int32)), .val (.int (3 : Int32)), .val (.ref b4), .unset, .unset, .unset, .unset] [])) _
    refine XS.aload X4.here hx rfl (hb hby at_26) rfl rfl ?_
    show Steps p.tables e below (T4.setTop (mkF m 28 #[.val (.int p1), .val (.int p2), .val (.int p3), .val (.int p4), .val (.int p5), .val (.int (3 : Int32)), .val (.int (3 : Int32)), .val (.ref b4), .unset, .unset, .unset, .unset] [(.ref b4)])) _
    refine XS.iconst X4.here hx rfl (hb hby at_28) ?_
    show Steps p.tables e below (T4.setTop (mkF m 29 #[.val (.int p1), .val (.int p2), .val (.int p3), .val (.int p4), .val (.int p5), .val (.int (3 : Int32)), .val (.int (3 : Int32)), .val (.ref b4), .unset, .unset, .unset, .unset] [(.int (0 : Int32)), (.ref b4)])) _
    refine XS.iloadN X4.here hx rfl (hb hby at_29) rfl ?_
    show Steps p.tables e below (T4.setTop (mkF m 30 #[.val (.int p1), .val (.int p2), .val (.int p3), .val (.int p4), .val (.int p5), .val (.int (3 : Int32)), .val (.int (3 : Int32)), .val (.ref b4), .unset, .unset, .unset, .unset] [(.int p3), (.int (0 : Int32)), (.ref b4)])) _
    refine XS.i2b X4.here hx rfl (hb hby at_30) rfl ?_
    exact kt)
  obtain ⟨clq7, Arq7, ckq7, cSq7, cNq7, cHq7, cGq7⟩ := id V4
  obtain ⟨T8, h8, X8', e8, W8, st8⟩ := stB X4 hx hZ e4 Arq7 (j := (0 : Int32)) (inb_of cSq7 ⟨by decide, by decide⟩) (g := (mkF m 31 #[.val (.int p1), .val (.int p2), .val (.int p3), .val (.int p4), .val (.int p5), .val (.int (3 : Int32)), .val (.int (3 : Int32)), .val (.ref b4), .unset, .unset, .unset, .unset] [(.int (p3.toInt8.toInt32)), (.int (0 : Int32)), (.ref b4)])) rfl rfl (hb hby at_31)
  obtain ⟨lc8, X8, N8⟩ : ∃ lc, Stand p l e room_1 s m #[(.int p1), (.int p2), (.int p3), (.int p4), (.int p5)] below meth c T8 lc 1 3 ∧ Fr n0 lc := ⟨_, X8', Fr.snoc X8' N0 (Nat.le_trans Z0 (Nat.le_trans (Keep.refl h0 []).1 (Nat.le_of_eq g4.symm)))⟩
  have V8 : Arv Z h8 b4 k4 .byte (3 : Int32) [(.int (nar .byte (p3.toInt8.toInt32))), (.int (0 : Int32)), (.int (0 : Int32))] (.int (0 : Int32)) := Arv.set Arq7 ckq7 cSq7 cNq7 cHq7 cGq7 (fits_nar_byte _) W8 0 rfl (Nat.le_of_ble_eq_true rfl)
  have K9 : Gx p e below s₁ f0 T8 (mkF m 32 #[.val (.int p1), .val (.int p2), .val (.int p3), .val (.int p4), .val (.int p5), .val (.int (3 : Int32)), .val (.int (3 : Int32)), .val (.ref b4), .unset, .unset, .unset, .unset] []) := fun t kt => K6 t (st8 t kt)
  have K10 : Gx p e below s₁ f0 T8 (mkF m 43 #[.val (.int p1), .val (.int p2), .val (.int p3), .val (.int p4), .val (.int p5), .val (.int (3 : Int32)), .val (.int (3 : Int32)), .val (.ref b4), .unset, .unset, .unset, .unset] [(.int (p4.toInt8.toInt32)), (.int (1 : Int32)), (.ref b4)]) := fun t kt => K9 t (by
    show Steps p.tables e below (T8.setTop (mkF m 32 #[.val (.int p1), .val (.int p2), .val (.int p3), .val (.int p4), .val (.int p5), .val (.int (3 : Int32)), .val (.int (3 : Int32)), .val (.ref b4), .unset, .unset, .unset, .unset] [])) _
    refine XS.iload X8.here hx rfl (hb hby at_32) rfl ?_
    show Steps p.tables e below (T8.setTop (mkF m 34 #[.val (.int p1), .val (.int p2), .val (.int p3), .val (.int p4), .val (.int p5), .val (.int (3 : Int32)), .val (.int (3 : Int32)), .val (.ref b4), .unset, .unset, .unset, .unset] [(.int (3 : Int32))])) _
    refine XS.iconst X8.here hx rfl (hb hby at_34) ?_
    show Steps p.tables e below (T8.setTop (mkF m 35 #[.val (.int p1), .val (.int p2), .val (.int p3), .val (.int p4), .val (.int p5), .val (.int (3 : Int32)), .val (.int (3 : Int32)), .val (.ref b4), .unset, .unset, .unset, .unset] [(.int (1 : Int32)), (.int (3 : Int32))])) _
    refine XS.icmpNo X8.here hx rfl (hb hby at_35) rfl (tlt (by decide)).2.2.2 ?_
    show Steps p.tables e below (T8.setTop (mkF m 38 #[.val (.int p1), .val (.int p2), .val (.int p3), .val (.int p4), .val (.int p5), .val (.int (3 : Int32)), .val (.int (3 : Int32)), .val (.ref b4), .unset, .unset, .unset, .unset] [])) _
    refine XS.aload X8.here hx rfl (hb hby at_38) rfl rfl ?_
    show Steps p.tables e below (T8.setTop (mkF m 40 #[.val (.int p1), .val (.int p2), .val (.int p3), .val (.int p4), .val (.int p5), .val (.int (3 : Int32)), .val (.int (3 : Int32)), .val (.ref b4), .unset, .unset, .unset, .unset] [(.ref b4)])) _
    refine XS.iconst X8.here hx rfl (hb hby at_40) ?_
    show Steps p.tables e below (T8.setTop (mkF m 41 #[.val (.int p1), .val (.int p2), .val (.int p3), .val (.int p4), .val (.int p5), .val (.int (3 : Int32)), .val (.int (3 : Int32)), .val (.ref b4), .unset, .unset, .unset, .unset] [(.int (1 : Int32)), (.ref b4)])) _
    refine XS.iloadN X8.here hx rfl (hb hby at_41) rfl ?_
    show Steps p.tables e below (T8.setTop (mkF m 42 #[.val (.int p1), .val (.int p2), .val (.int p3), .val (.int p4), .val (.int p5), .val (.int (3 : Int32)), .val (.int (3 : Int32)), .val (.ref b4), .unset, .unset, .unset, .unset] [(.int p4), (.int (1 : Int32)), (.ref b4)])) _
    refine XS.i2b X8.here hx rfl (hb hby at_42) rfl ?_
    exact kt)
  obtain ⟨clq11, Arq11, ckq11, cSq11, cNq11, cHq11, cGq11⟩ := id V8
  obtain ⟨T12, h12, X12', e12, W12, st12⟩ := stB X8 hx hZ e8 Arq11 (j := (1 : Int32)) (inb_of cSq11 ⟨by decide, by decide⟩) (g := (mkF m 43 #[.val (.int p1), .val (.int p2), .val (.int p3), .val (.int p4), .val (.int p5), .val (.int (3 : Int32)), .val (.int (3 : Int32)), .val (.ref b4), .unset, .unset, .unset, .unset] [(.int (p4.toInt8.toInt32)), (.int (1 : Int32)), (.ref b4)])) rfl rfl (hb hby at_43)
  obtain ⟨lc12, X12, N12⟩ : ∃ lc, Stand p l e room_1 s m #[(.int p1), (.int p2), (.int p3), (.int p4), (.int p5)] below meth c T12 lc 1 3 ∧ Fr n0 lc := ⟨_, X12', Fr.snoc X12' N8 (Nat.le_trans Z0 (Nat.le_trans (Keep.refl h0 []).1 (Nat.le_of_eq g4.symm)))⟩
  have V12 : Arv Z h12 b4 k4 .byte (3 : Int32) [(.int (nar .byte (p3.toInt8.toInt32))), (.int (nar .byte (p4.toInt8.toInt32))), (.int (0 : Int32))] (.int (0 : Int32)) := Arv.set Arq11 ckq11 cSq11 cNq11 cHq11 cGq11 (fits_nar_byte _) W12 1 rfl (Nat.le_of_ble_eq_true rfl)
  have K13 : Gx p e below s₁ f0 T12 (mkF m 44 #[.val (.int p1), .val (.int p2), .val (.int p3), .val (.int p4), .val (.int p5), .val (.int (3 : Int32)), .val (.int (3 : Int32)), .val (.ref b4), .unset, .unset, .unset, .unset] []) := fun t kt => K10 t (st12 t kt)
  have K14 : Gx p e below s₁ f0 T12 (mkF m 56 #[.val (.int p1), .val (.int p2), .val (.int p3), .val (.int p4), .val (.int p5), .val (.int (3 : Int32)), .val (.int (3 : Int32)), .val (.ref b4), .unset, .unset, .unset, .unset] [(.int (p5.toInt8.toInt32)), (.int (2 : Int32)), (.ref b4)]) := fun t kt => K13 t (by
    show Steps p.tables e below (T12.setTop (mkF m 44 #[.val (.int p1), .val (.int p2), .val (.int p3), .val (.int p4), .val (.int p5), .val (.int (3 : Int32)), .val (.int (3 : Int32)), .val (.ref b4), .unset, .unset, .unset, .unset] [])) _
    refine XS.iload X12.here hx rfl (hb hby at_44) rfl ?_
    show Steps p.tables e below (T12.setTop (mkF m 46 #[.val (.int p1), .val (.int p2), .val (.int p3), .val (.int p4), .val (.int p5), .val (.int (3 : Int32)), .val (.int (3 : Int32)), .val (.ref b4), .unset, .unset, .unset, .unset] [(.int (3 : Int32))])) _
    refine XS.iconst X12.here hx rfl (hb hby at_46) ?_
    show Steps p.tables e below (T12.setTop (mkF m 47 #[.val (.int p1), .val (.int p2), .val (.int p3), .val (.int p4), .val (.int p5), .val (.int (3 : Int32)), .val (.int (3 : Int32)), .val (.ref b4), .unset, .unset, .unset, .unset] [(.int (2 : Int32)), (.int (3 : Int32))])) _
    refine XS.icmpNo X12.here hx rfl (hb hby at_47) rfl (tlt (by decide)).2.2.2 ?_
    show Steps p.tables e below (T12.setTop (mkF m 50 #[.val (.int p1), .val (.int p2), .val (.int p3), .val (.int p4), .val (.int p5), .val (.int (3 : Int32)), .val (.int (3 : Int32)), .val (.ref b4), .unset, .unset, .unset, .unset] [])) _
    refine XS.aload X12.here hx rfl (hb hby at_50) rfl rfl ?_
    show Steps p.tables e below (T12.setTop (mkF m 52 #[.val (.int p1), .val (.int p2), .val (.int p3), .val (.int p4), .val (.int p5), .val (.int (3 : Int32)), .val (.int (3 : Int32)), .val (.ref b4), .unset, .unset, .unset, .unset] [(.ref b4)])) _
    refine XS.iconst X12.here hx rfl (hb hby at_52) ?_
    show Steps p.tables e below (T12.setTop (mkF m 53 #[.val (.int p1), .val (.int p2), .val (.int p3), .val (.int p4), .val (.int p5), .val (.int (3 : Int32)), .val (.int (3 : Int32)), .val (.ref b4), .unset, .unset, .unset, .unset] [(.int (2 : Int32)), (.ref b4)])) _
    refine XS.iload X12.here hx rfl (hb hby at_53) rfl ?_
    show Steps p.tables e below (T12.setTop (mkF m 55 #[.val (.int p1), .val (.int p2), .val (.int p3), .val (.int p4), .val (.int p5), .val (.int (3 : Int32)), .val (.int (3 : Int32)), .val (.ref b4), .unset, .unset, .unset, .unset] [(.int p5), (.int (2 : Int32)), (.ref b4)])) _
    refine XS.i2b X12.here hx rfl (hb hby at_55) rfl ?_
    exact kt)
  obtain ⟨clq15, Arq15, ckq15, cSq15, cNq15, cHq15, cGq15⟩ := id V12
  obtain ⟨T16, h16, X16', e16, W16, st16⟩ := stB X12 hx hZ e12 Arq15 (j := (2 : Int32)) (inb_of cSq15 ⟨by decide, by decide⟩) (g := (mkF m 56 #[.val (.int p1), .val (.int p2), .val (.int p3), .val (.int p4), .val (.int p5), .val (.int (3 : Int32)), .val (.int (3 : Int32)), .val (.ref b4), .unset, .unset, .unset, .unset] [(.int (p5.toInt8.toInt32)), (.int (2 : Int32)), (.ref b4)])) rfl rfl (hb hby at_56)
  obtain ⟨lc16, X16, N16⟩ : ∃ lc, Stand p l e room_1 s m #[(.int p1), (.int p2), (.int p3), (.int p4), (.int p5)] below meth c T16 lc 1 3 ∧ Fr n0 lc := ⟨_, X16', Fr.snoc X16' N12 (Nat.le_trans Z0 (Nat.le_trans (Keep.refl h0 []).1 (Nat.le_of_eq g4.symm)))⟩
  have V16 : Arv Z h16 b4 k4 .byte (3 : Int32) [(.int (nar .byte (p3.toInt8.toInt32))), (.int (nar .byte (p4.toInt8.toInt32))), (.int (nar .byte (p5.toInt8.toInt32)))] (.int (0 : Int32)) := Arv.set Arq15 ckq15 cSq15 cNq15 cHq15 cGq15 (fits_nar_byte _) W16 2 rfl (Nat.le_of_ble_eq_true rfl)
  have K17 : Gx p e below s₁ f0 T16 (mkF m 57 #[.val (.int p1), .val (.int p2), .val (.int p3), .val (.int p4), .val (.int p5), .val (.int (3 : Int32)), .val (.int (3 : Int32)), .val (.ref b4), .unset, .unset, .unset, .unset] []) := fun t kt => K14 t (st16 t kt)
  obtain ⟨T18, h18, X18, e18, E18, A18, D18, -, st18⟩ := newO X16 hx hZ hown (hw _ (List.mem_of_getElem? (i := 1) rfl)) (hw _ (List.mem_of_getElem? (i := 2) rfl)) (hw _ (List.mem_of_getElem? (i := 3) rfl)) e16 (g := (mkF m 57 #[.val (.int p1), .val (.int p2), .val (.int p3), .val (.int p4), .val (.int p5), .val (.int (3 : Int32)), .val (.int (3 : Int32)), .val (.ref b4), .unset, .unset, .unset, .unset] [])) rfl (hb hby at_57) (by decide) (by decide)
  obtain ⟨b18, g18⟩ : ∃ z, z = h16.size := ⟨_, rfl⟩
  rw [← g18] at A18 D18 st18
  have f19 : Fld Z h18 b18 "com/example/looseleaf/looseleaf/pgwire/MessageBody" "bytes" "[B" .null := D18 (Or.inr (hw _ (List.mem_of_getElem? (i := 11) rfl))) (ty := (.array .byte)) (by decide)
  have f20 : Fld Z h18 b18 "com/example/looseleaf/looseleaf/pgwire/MessageBody" "at" "I" (.int (0 : Int32)) := D18 (Or.inl (hw _ (List.mem_of_getElem? (i := 18) rfl))) (ty := .int) (by decide)
  have K21 : Gx p e below s₁ f0 T18 (mkF m 60 #[.val (.int p1), .val (.int p2), .val (.int p3), .val (.int p4), .val (.int p5), .val (.int (3 : Int32)), .val (.int (3 : Int32)), .val (.ref b4), .unset, .unset, .unset, .unset] [(.ref b18)]) := fun t kt => K17 t (st18 t kt)
  have K22 : Gx p e below s₁ f0 T18 (mkF m 63 #[.val (.int p1), .val (.int p2), .val (.int p3), .val (.int p4), .val (.int p5), .val (.int (3 : Int32)), .val (.int (3 : Int32)), .val (.ref b4), .unset, .unset, .unset, .unset] [(.ref b4), (.ref b18), (.ref b18)]) := fun t kt => K21 t (by
    show Steps p.tables e below (T18.setTop (mkF m 60 #[.val (.int p1), .val (.int p2), .val (.int p3), .val (.int p4), .val (.int p5), .val (.int (3 : Int32)), .val (.int (3 : Int32)), .val (.ref b4), .unset, .unset, .unset, .unset] [(.ref b18)])) _
    refine XS.dup X18.here hx rfl (hb hby at_60) rfl rfl ?_
    show Steps p.tables e below (T18.setTop (mkF m 61 #[.val (.int p1), .val (.int p2), .val (.int p3), .val (.int p4), .val (.int p5), .val (.int (3 : Int32)), .val (.int (3 : Int32)), .val (.ref b4), .unset, .unset, .unset, .unset] [(.ref b18), (.ref b18)])) _
    refine XS.aload X18.here hx rfl (hb hby at_61) rfl rfl ?_
    exact kt)
  have kp23 : Keep h0 h18 [] := ((((((Keep.refl h0 []).ext E4).wr W8 (Or.inr (Nat.le_trans (Keep.refl h0 []).1 (Nat.le_of_eq g4.symm)))).wr W12 (Or.inr (Nat.le_trans (Keep.refl h0 []).1 (Nat.le_of_eq g4.symm)))).wr W16 (Or.inr (Nat.le_trans (Keep.refl h0 []).1 (Nat.le_of_eq g4.symm)))).ext E18)
  obtain ⟨_, _, ⟨T24, L24, k24, n24⟩, -, X24', ⟨Lc24, hQ24, l24, y24, z24⟩, st24⟩ := X18.specialBack hx (y := (⟨"com/example/looseleaf/looseleaf/pgwire/MessageBody", "<init>", "([B)V"⟩ : MethodName)) rfl hown (mvT hZ (hw _ (List.mem_of_getElem? (i := 4) rfl))) (mvT hZ (hw _ (List.mem_of_getElem? (i := 5) rfl))) (mvT hZ (hw _ (List.mem_of_getElem? (i := 6) rfl))) (by decide) (backOf (W := 1) (rmIni l Z a0 hw [] b18 b4 h18 n0 (Nat.le_trans Z0 kp23.1) A18 (Nat.le_trans Z0 (Nat.le_trans (((((Keep.refl h0 []).ext E4).wr W8 (Or.inr (Nat.le_trans (Keep.refl h0 []).1 (Nat.le_of_eq g4.symm)))).wr W12 (Or.inr (Nat.le_trans (Keep.refl h0 []).1 (Nat.le_of_eq g4.symm)))).wr W16 (Or.inr (Nat.le_trans (Keep.refl h0 []).1 (Nat.le_of_eq g4.symm)))).1 (Nat.le_of_eq g18.symm))) f19 f20) hZ (hw _ (List.mem_of_getElem? (i := 6) rfl)) (hw _ (List.mem_of_getElem? (i := 3) rfl)) (by decide) (by decide)) (g := (mkF m 63 #[.val (.int p1), .val (.int p2), .val (.int p3), .val (.int p4), .val (.int p5), .val (.int (3 : Int32)), .val (.int (3 : Int32)), .val (.ref b4), .unset, .unset, .unset, .unset] [(.ref b4), (.ref b18), (.ref b18)])) rfl (by rw [hml]; rfl) (Steps.refl _) (a := b18) (argsL := [(.ref b4)]) (rest := [(.ref b18)]) (lenOf pd___B_V rfl) rfl (by show 2 * 0 + _ ≤ _; exact Nat.le_of_eq rfl) (hb hby at_63) (fun _ _ => ⟨rfl, e18, (by decide : 2 + 0 ≤ _), (by decide : 5 + 0 ≤ _)⟩)
  dsimp only [Pt.U, Pt.locs, Pt.cells, Pt.slots] at X24' l24 y24 z24 st24 hQ24
  subst l24 y24 z24
  obtain ⟨h24, e24⟩ : ∃ z, T24.heap = z := ⟨_, rfl⟩
  rw [e24] at hQ24
  obtain ⟨rfl, N24q, Kc24, f25, f26, f27⟩ := hQ24
  obtain ⟨lc24, X24, N24⟩ : ∃ lc, Stand p l e room_1 s m #[(.int p1), (.int p2), (.int p3), (.int p4), (.int p5)] below meth c T24 lc 2 5 ∧ Fr n0 lc := ⟨_, X24', Fr.app N16 N24q⟩
  have K28 : Gx p e below s₁ f0 T24 (mkF m 66 #[.val (.int p1), .val (.int p2), .val (.int p3), .val (.int p4), .val (.int p5), .val (.int (3 : Int32)), .val (.int (3 : Int32)), .val (.ref b4), .unset, .unset, .unset, .unset] [(.ref b18)]) := fun t kt => K22 t (st24.trans kt)
  have K29 : Gx p e below s₁ f0 T24 (mkF m 76 #[.val (.int p1), .val (.int p2), .val (.int p3), .val (.int p4), .val (.int p5), .val (.int (3 : Int32)), .val (.int (3 : Int32)), .val (.ref b4), .val (.ref b18), .unset, .unset, .unset] [(.ref b18)]) := fun t kt => K28 t (by
    show Steps p.tables e below (T24.setTop (mkF m 66 #[.val (.int p1), .val (.int p2), .val (.int p3), .val (.int p4), .val (.int p5), .val (.int (3 : Int32)), .val (.int (3 : Int32)), .val (.ref b4), .unset, .unset, .unset, .unset] [(.ref b18)])) _
    refine XS.astore X24.here hx rfl (hb hby at_66) rfl rfl (l' := #[.val (.int p1), .val (.int p2), .val (.int p3), .val (.int p4), .val (.int p5), .val (.int (3 : Int32)), .val (.int (3 : Int32)), .val (.ref b4), .val (.ref b18), .unset, .unset, .unset]) rfl ?_
    show Steps p.tables e below (T24.setTop (mkF m 68 #[.val (.int p1), .val (.int p2), .val (.int p3), .val (.int p4), .val (.int p5), .val (.int (3 : Int32)), .val (.int (3 : Int32)), .val (.ref b4), .val (.ref b18), .unset, .unset, .unset] [])) _
    refine XS.iload X24.here hx rfl (hb hby at_68) rfl ?_
    show Steps p.tables e below (T24.setTop (mkF m 70 #[.val (.int p1), .val (.int p2), .val (.int p3), .val (.int p4), .val (.int p5), .val (.int (3 : Int32)), .val (.int (3 : Int32)), .val (.ref b4), .val (.ref b18), .unset, .unset, .unset] [(.int (3 : Int32))])) _
    refine XS.iconst X24.here hx rfl (hb hby at_70) ?_
    show Steps p.tables e below (T24.setTop (mkF m 71 #[.val (.int p1), .val (.int p2), .val (.int p3), .val (.int p4), .val (.int p5), .val (.int (3 : Int32)), .val (.int (3 : Int32)), .val (.ref b4), .val (.ref b18), .unset, .unset, .unset] [(.int (1 : Int32)), (.int (3 : Int32))])) _
    refine XS.icmpNo X24.here hx rfl (hb hby at_71) rfl (flt (by decide)).1 ?_
    show Steps p.tables e below (T24.setTop (mkF m 74 #[.val (.int p1), .val (.int p2), .val (.int p3), .val (.int p4), .val (.int p5), .val (.int (3 : Int32)), .val (.int (3 : Int32)), .val (.ref b4), .val (.ref b18), .unset, .unset, .unset] [])) _
    refine XS.aload X24.here hx rfl (hb hby at_74) rfl rfl ?_
    exact kt)
  have f30 : Arv Z h24 b4 k4 .byte (3 : Int32) [(.int (nar .byte (p3.toInt8.toInt32))), (.int (nar .byte (p4.toInt8.toInt32))), (.int (nar .byte (p5.toInt8.toInt32)))] (.int (0 : Int32)) := ((V16.ext E18).keep Kc24 (ninS (Nat.ne_of_lt (Nat.lt_of_lt_of_le V16.lt (Nat.le_of_eq g18.symm))) nin0))
  have kp31 : Keep h0 h24 [] := (Keep.trans kp23 Kc24 (allS (Or.inr (Nat.le_trans (((((Keep.refl h0 []).ext E4).wr W8 (Or.inr (Nat.le_trans (Keep.refl h0 []).1 (Nat.le_of_eq g4.symm)))).wr W12 (Or.inr (Nat.le_trans (Keep.refl h0 []).1 (Nat.le_of_eq g4.symm)))).wr W16 (Or.inr (Nat.le_trans (Keep.refl h0 []).1 (Nat.le_of_eq g4.symm)))).1 (Nat.le_of_eq g18.symm))) all0))
  obtain ⟨cq32, kq32, q32a, q32b, q32c⟩ := isOf hZ e24 f25
  obtain ⟨_, _, ⟨T32, L32, k32, n32⟩, -, X32', ⟨Lc32, hQ32, l32, y32, z32⟩, st32⟩ := X24.virtualBack hx (y := (⟨"com/example/looseleaf/looseleaf/pgwire/MessageBody", "byte1", "()I"⟩ : MethodName)) (z := (⟨"com/example/looseleaf/looseleaf/pgwire/MessageBody", "byte1", "()I"⟩ : MethodName)) hown (mvT hZ (hw _ (List.mem_of_getElem? (i := 19) rfl))) (mvT hZ (hw _ (List.mem_of_getElem? (i := 20) rfl))) (notFace_of_selects (args := #[]) (mvT hZ (hw _ (List.mem_of_getElem? (i := 22) rfl)))) (mvT hZ (hw _ (List.mem_of_getElem? (i := 22) rfl))) (mvT hZ (hw _ (List.mem_of_getElem? (i := 21) rfl))) (by decide) (backOf (W := 0) (rmBy1 l Z a0 hw [] b18 b4 (0 : Int32) k4 (3 : Int32) [(.int (nar .byte (p3.toInt8.toInt32))), (.int (nar .byte (p4.toInt8.toInt32))), (.int (nar .byte (p5.toInt8.toInt32)))] (nar .byte (p3.toInt8.toInt32)) (1 : Int32) h24 n0 (Nat.le_trans Z0 kp31.1) f25 (Nat.le_trans Z0 (Nat.le_trans (((((Keep.refl h0 []).ext E4).wr W8 (Or.inr (Nat.le_trans (Keep.refl h0 []).1 (Nat.le_of_eq g4.symm)))).wr W12 (Or.inr (Nat.le_trans (Keep.refl h0 []).1 (Nat.le_of_eq g4.symm)))).wr W16 (Or.inr (Nat.le_trans (Keep.refl h0 []).1 (Nat.le_of_eq g4.symm)))).1 (Nat.le_of_eq g18.symm))) f26 f27 f30 (Ne.symm (Nat.ne_of_lt (Nat.lt_of_lt_of_le V16.lt (Nat.le_of_eq g18.symm)))) (by decide) ⟨by decide, by decide⟩ rfl (by decide)) hZ (hw _ (List.mem_of_getElem? (i := 23) rfl)) (hw _ (List.mem_of_getElem? (i := 3) rfl)) (by decide) (by decide)) q32a q32c (g := (mkF m 76 #[.val (.int p1), .val (.int p2), .val (.int p3), .val (.int p4), .val (.int p5), .val (.int (3 : Int32)), .val (.int (3 : Int32)), .val (.ref b4), .val (.ref b18), .unset, .unset, .unset] [(.ref b18)])) rfl (by rw [hml]; rfl) (Steps.refl _) (argsL := []) (rest := []) (lenOf pd___I rfl) rfl (by show 2 * 0 + _ ≤ _; exact Nat.le_of_eq rfl) (hb hby at_76) (fun _ _ => ⟨rfl, e24, (by decide : 2 + 0 ≤ _), (by decide : 5 + 0 ≤ _)⟩)
  dsimp only [Pt.U, Pt.locs, Pt.cells, Pt.slots] at X32' l32 y32 z32 st32 hQ32
  subst l32 y32 z32
  obtain ⟨h32, e32⟩ : ∃ z, T32.heap = z := ⟨_, rfl⟩
  rw [e32] at hQ32
  obtain ⟨rfl, N32q, Kc32, f33, f34, f35⟩ := hQ32
  obtain ⟨lc32, X32, N32⟩ : ∃ lc, Stand p l e room_1 s m #[(.int p1), (.int p2), (.int p3), (.int p4), (.int p5)] below meth c T32 lc 2 5 ∧ Fr n0 lc := ⟨_, X32', Fr.app N24 N32q⟩
  have K36 : Gx p e below s₁ f0 T32 (mkF m 79 #[.val (.int p1), .val (.int p2), .val (.int p3), .val (.int p4), .val (.int p5), .val (.int (3 : Int32)), .val (.int (3 : Int32)), .val (.ref b4), .val (.ref b18), .unset, .unset, .unset] [(.int ((nar .byte (p3.toInt8.toInt32)) &&& (255 : Int32)))]) := fun t kt => K29 t (st32.trans kt)
  have K37 : Gx p e below s₁ f0 T32 (mkF m 88 #[.val (.int p1), .val (.int p2), .val (.int p3), .val (.int p4), .val (.int p5), .val (.int (3 : Int32)), .val (.int (3 : Int32)), .val (.ref b4), .val (.ref b18), .unset, .unset, .unset] [(.ref b18)]) := fun t kt => K36 t (by
    show Steps p.tables e below (T32.setTop (mkF m 79 #[.val (.int p1), .val (.int p2), .val (.int p3), .val (.int p4), .val (.int p5), .val (.int (3 : Int32)), .val (.int (3 : Int32)), .val (.ref b4), .val (.ref b18), .unset, .unset, .unset] [(.int ((nar .byte (p3.toInt8.toInt32)) &&& (255 : Int32)))])) _
    refine XS.pop X32.here hx rfl (hb hby at_79) rfl rfl ?_
    show Steps p.tables e below (T32.setTop (mkF m 80 #[.val (.int p1), .val (.int p2), .val (.int p3), .val (.int p4), .val (.int p5), .val (.int (3 : Int32)), .val (.int (3 : Int32)), .val (.ref b4), .val (.ref b18), .unset, .unset, .unset] [])) _
    refine XS.iload X32.here hx rfl (hb hby at_80) rfl ?_
    show Steps p.tables e below (T32.setTop (mkF m 82 #[.val (.int p1), .val (.int p2), .val (.int p3), .val (.int p4), .val (.int p5), .val (.int (3 : Int32)), .val (.int (3 : Int32)), .val (.ref b4), .val (.ref b18), .unset, .unset, .unset] [(.int (3 : Int32))])) _
    refine XS.iconst X32.here hx rfl (hb hby at_82) ?_
    show Steps p.tables e below (T32.setTop (mkF m 83 #[.val (.int p1), .val (.int p2), .val (.int p3), .val (.int p4), .val (.int p5), .val (.int (3 : Int32)), .val (.int (3 : Int32)), .val (.ref b4), .val (.ref b18), .unset, .unset, .unset] [(.int (2 : Int32)), (.int (3 : Int32))])) _
    refine XS.icmpNo X32.here hx rfl (hb hby at_83) rfl (flt (by decide)).1 ?_
    show Steps p.tables e below (T32.setTop (mkF m 86 #[.val (.int p1), .val (.int p2), .val (.int p3), .val (.int p4), .val (.int p5), .val (.int (3 : Int32)), .val (.int (3 : Int32)), .val (.ref b4), .val (.ref b18), .unset, .unset, .unset] [])) _
    refine XS.aload X32.here hx rfl (hb hby at_86) rfl rfl ?_
    exact kt)
  have f38 : Arv Z h32 b4 k4 .byte (3 : Int32) [(.int (nar .byte (p3.toInt8.toInt32))), (.int (nar .byte (p4.toInt8.toInt32))), (.int (nar .byte (p5.toInt8.toInt32)))] (.int (0 : Int32)) := (f30.keep Kc32 (ninS (Nat.ne_of_lt (Nat.lt_of_lt_of_le V16.lt (Nat.le_of_eq g18.symm))) nin0))
  have kp39 : Keep h0 h32 [] := (Keep.trans kp31 Kc32 (allS (Or.inr (Nat.le_trans (((((Keep.refl h0 []).ext E4).wr W8 (Or.inr (Nat.le_trans (Keep.refl h0 []).1 (Nat.le_of_eq g4.symm)))).wr W12 (Or.inr (Nat.le_trans (Keep.refl h0 []).1 (Nat.le_of_eq g4.symm)))).wr W16 (Or.inr (Nat.le_trans (Keep.refl h0 []).1 (Nat.le_of_eq g4.symm)))).1 (Nat.le_of_eq g18.symm))) all0))
  obtain ⟨cq40, kq40, q40a, q40b, q40c⟩ := isOf hZ e32 f33
  obtain ⟨_, _, ⟨T40, L40, k40, n40⟩, -, X40', ⟨Lc40, hQ40, l40, y40, z40⟩, st40⟩ := X32.virtualBack hx (y := (⟨"com/example/looseleaf/looseleaf/pgwire/MessageBody", "byte1", "()I"⟩ : MethodName)) (z := (⟨"com/example/looseleaf/looseleaf/pgwire/MessageBody", "byte1", "()I"⟩ : MethodName)) hown (mvT hZ (hw _ (List.mem_of_getElem? (i := 19) rfl))) (mvT hZ (hw _ (List.mem_of_getElem? (i := 20) rfl))) (notFace_of_selects (args := #[]) (mvT hZ (hw _ (List.mem_of_getElem? (i := 22) rfl)))) (mvT hZ (hw _ (List.mem_of_getElem? (i := 22) rfl))) (mvT hZ (hw _ (List.mem_of_getElem? (i := 21) rfl))) (by decide) (backOf (W := 0) (rmBy1 l Z a0 hw [] b18 b4 (1 : Int32) k4 (3 : Int32) [(.int (nar .byte (p3.toInt8.toInt32))), (.int (nar .byte (p4.toInt8.toInt32))), (.int (nar .byte (p5.toInt8.toInt32)))] (nar .byte (p4.toInt8.toInt32)) (2 : Int32) h32 n0 (Nat.le_trans Z0 kp39.1) f33 (Nat.le_trans Z0 (Nat.le_trans (((((Keep.refl h0 []).ext E4).wr W8 (Or.inr (Nat.le_trans (Keep.refl h0 []).1 (Nat.le_of_eq g4.symm)))).wr W12 (Or.inr (Nat.le_trans (Keep.refl h0 []).1 (Nat.le_of_eq g4.symm)))).wr W16 (Or.inr (Nat.le_trans (Keep.refl h0 []).1 (Nat.le_of_eq g4.symm)))).1 (Nat.le_of_eq g18.symm))) f34 f35 f38 (Ne.symm (Nat.ne_of_lt (Nat.lt_of_lt_of_le V16.lt (Nat.le_of_eq g18.symm)))) (by decide) ⟨by decide, by decide⟩ rfl (by decide)) hZ (hw _ (List.mem_of_getElem? (i := 23) rfl)) (hw _ (List.mem_of_getElem? (i := 3) rfl)) (by decide) (by decide)) q40a q40c (g := (mkF m 88 #[.val (.int p1), .val (.int p2), .val (.int p3), .val (.int p4), .val (.int p5), .val (.int (3 : Int32)), .val (.int (3 : Int32)), .val (.ref b4), .val (.ref b18), .unset, .unset, .unset] [(.ref b18)])) rfl (by rw [hml]; rfl) (Steps.refl _) (argsL := []) (rest := []) (lenOf pd___I rfl) rfl (by show 2 * 0 + _ ≤ _; exact Nat.le_of_eq rfl) (hb hby at_88) (fun _ _ => ⟨rfl, e32, (by decide : 2 + 0 ≤ _), (by decide : 5 + 0 ≤ _)⟩)
  dsimp only [Pt.U, Pt.locs, Pt.cells, Pt.slots] at X40' l40 y40 z40 st40 hQ40
  subst l40 y40 z40
  obtain ⟨h40, e40⟩ : ∃ z, T40.heap = z := ⟨_, rfl⟩
  rw [e40] at hQ40
  obtain ⟨rfl, N40q, Kc40, f41, f42, f43⟩ := hQ40
  obtain ⟨lc40, X40, N40⟩ : ∃ lc, Stand p l e room_1 s m #[(.int p1), (.int p2), (.int p3), (.int p4), (.int p5)] below meth c T40 lc 2 5 ∧ Fr n0 lc := ⟨_, X40', Fr.app N32 N40q⟩
  have K44 : Gx p e below s₁ f0 T40 (mkF m 91 #[.val (.int p1), .val (.int p2), .val (.int p3), .val (.int p4), .val (.int p5), .val (.int (3 : Int32)), .val (.int (3 : Int32)), .val (.ref b4), .val (.ref b18), .unset, .unset, .unset] [(.int ((nar .byte (p4.toInt8.toInt32)) &&& (255 : Int32)))]) := fun t kt => K37 t (st40.trans kt)
  have K45 : Gx p e below s₁ f0 T40 (mkF m 100 #[.val (.int p1), .val (.int p2), .val (.int p3), .val (.int p4), .val (.int p5), .val (.int (3 : Int32)), .val (.int (3 : Int32)), .val (.ref b4), .val (.ref b18), .unset, .unset, .unset] [(.ref b18)]) := fun t kt => K44 t (by
    show Steps p.tables e below (T40.setTop (mkF m 91 #[.val (.int p1), .val (.int p2), .val (.int p3), .val (.int p4), .val (.int p5), .val (.int (3 : Int32)), .val (.int (3 : Int32)), .val (.ref b4), .val (.ref b18), .unset, .unset, .unset] [(.int ((nar .byte (p4.toInt8.toInt32)) &&& (255 : Int32)))])) _
    refine XS.pop X40.here hx rfl (hb hby at_91) rfl rfl ?_
    show Steps p.tables e below (T40.setTop (mkF m 92 #[.val (.int p1), .val (.int p2), .val (.int p3), .val (.int p4), .val (.int p5), .val (.int (3 : Int32)), .val (.int (3 : Int32)), .val (.ref b4), .val (.ref b18), .unset, .unset, .unset] [])) _
    refine XS.iload X40.here hx rfl (hb hby at_92) rfl ?_
    show Steps p.tables e below (T40.setTop (mkF m 94 #[.val (.int p1), .val (.int p2), .val (.int p3), .val (.int p4), .val (.int p5), .val (.int (3 : Int32)), .val (.int (3 : Int32)), .val (.ref b4), .val (.ref b18), .unset, .unset, .unset] [(.int (3 : Int32))])) _
    refine XS.iconst X40.here hx rfl (hb hby at_94) ?_
    show Steps p.tables e below (T40.setTop (mkF m 95 #[.val (.int p1), .val (.int p2), .val (.int p3), .val (.int p4), .val (.int p5), .val (.int (3 : Int32)), .val (.int (3 : Int32)), .val (.ref b4), .val (.ref b18), .unset, .unset, .unset] [(.int (3 : Int32)), (.int (3 : Int32))])) _
    refine XS.icmpNo X40.here hx rfl (hb hby at_95) rfl (flt (by decide)).1 ?_
    show Steps p.tables e below (T40.setTop (mkF m 98 #[.val (.int p1), .val (.int p2), .val (.int p3), .val (.int p4), .val (.int p5), .val (.int (3 : Int32)), .val (.int (3 : Int32)), .val (.ref b4), .val (.ref b18), .unset, .unset, .unset] [])) _
    refine XS.aload X40.here hx rfl (hb hby at_98) rfl rfl ?_
    exact kt)
  have f46 : Arv Z h40 b4 k4 .byte (3 : Int32) [(.int (nar .byte (p3.toInt8.toInt32))), (.int (nar .byte (p4.toInt8.toInt32))), (.int (nar .byte (p5.toInt8.toInt32)))] (.int (0 : Int32)) := (f38.keep Kc40 (ninS (Nat.ne_of_lt (Nat.lt_of_lt_of_le V16.lt (Nat.le_of_eq g18.symm))) nin0))
  have kp47 : Keep h0 h40 [] := (Keep.trans kp39 Kc40 (allS (Or.inr (Nat.le_trans (((((Keep.refl h0 []).ext E4).wr W8 (Or.inr (Nat.le_trans (Keep.refl h0 []).1 (Nat.le_of_eq g4.symm)))).wr W12 (Or.inr (Nat.le_trans (Keep.refl h0 []).1 (Nat.le_of_eq g4.symm)))).wr W16 (Or.inr (Nat.le_trans (Keep.refl h0 []).1 (Nat.le_of_eq g4.symm)))).1 (Nat.le_of_eq g18.symm))) all0))
  obtain ⟨cq48, kq48, q48a, q48b, q48c⟩ := isOf hZ e40 f41
  obtain ⟨_, _, ⟨T48, L48, k48, n48⟩, -, X48', ⟨Lc48, hQ48, l48, y48, z48⟩, st48⟩ := X40.virtualBack hx (y := (⟨"com/example/looseleaf/looseleaf/pgwire/MessageBody", "byte1", "()I"⟩ : MethodName)) (z := (⟨"com/example/looseleaf/looseleaf/pgwire/MessageBody", "byte1", "()I"⟩ : MethodName)) hown (mvT hZ (hw _ (List.mem_of_getElem? (i := 19) rfl))) (mvT hZ (hw _ (List.mem_of_getElem? (i := 20) rfl))) (notFace_of_selects (args := #[]) (mvT hZ (hw _ (List.mem_of_getElem? (i := 22) rfl)))) (mvT hZ (hw _ (List.mem_of_getElem? (i := 22) rfl))) (mvT hZ (hw _ (List.mem_of_getElem? (i := 21) rfl))) (by decide) (backOf (W := 0) (rmBy1 l Z a0 hw [] b18 b4 (2 : Int32) k4 (3 : Int32) [(.int (nar .byte (p3.toInt8.toInt32))), (.int (nar .byte (p4.toInt8.toInt32))), (.int (nar .byte (p5.toInt8.toInt32)))] (nar .byte (p5.toInt8.toInt32)) (3 : Int32) h40 n0 (Nat.le_trans Z0 kp47.1) f41 (Nat.le_trans Z0 (Nat.le_trans (((((Keep.refl h0 []).ext E4).wr W8 (Or.inr (Nat.le_trans (Keep.refl h0 []).1 (Nat.le_of_eq g4.symm)))).wr W12 (Or.inr (Nat.le_trans (Keep.refl h0 []).1 (Nat.le_of_eq g4.symm)))).wr W16 (Or.inr (Nat.le_trans (Keep.refl h0 []).1 (Nat.le_of_eq g4.symm)))).1 (Nat.le_of_eq g18.symm))) f42 f43 f46 (Ne.symm (Nat.ne_of_lt (Nat.lt_of_lt_of_le V16.lt (Nat.le_of_eq g18.symm)))) (by decide) ⟨by decide, by decide⟩ rfl (by decide)) hZ (hw _ (List.mem_of_getElem? (i := 23) rfl)) (hw _ (List.mem_of_getElem? (i := 3) rfl)) (by decide) (by decide)) q48a q48c (g := (mkF m 100 #[.val (.int p1), .val (.int p2), .val (.int p3), .val (.int p4), .val (.int p5), .val (.int (3 : Int32)), .val (.int (3 : Int32)), .val (.ref b4), .val (.ref b18), .unset, .unset, .unset] [(.ref b18)])) rfl (by rw [hml]; rfl) (Steps.refl _) (argsL := []) (rest := []) (lenOf pd___I rfl) rfl (by show 2 * 0 + _ ≤ _; exact Nat.le_of_eq rfl) (hb hby at_100) (fun _ _ => ⟨rfl, e40, (by decide : 2 + 0 ≤ _), (by decide : 5 + 0 ≤ _)⟩)
  dsimp only [Pt.U, Pt.locs, Pt.cells, Pt.slots] at X48' l48 y48 z48 st48 hQ48
  subst l48 y48 z48
  obtain ⟨h48, e48⟩ : ∃ z, T48.heap = z := ⟨_, rfl⟩
  rw [e48] at hQ48
  obtain ⟨rfl, N48q, Kc48, f49, f50, f51⟩ := hQ48
  obtain ⟨lc48, X48, N48⟩ : ∃ lc, Stand p l e room_1 s m #[(.int p1), (.int p2), (.int p3), (.int p4), (.int p5)] below meth c T48 lc 2 5 ∧ Fr n0 lc := ⟨_, X48', Fr.app N40 N48q⟩
  have K52 : Gx p e below s₁ f0 T48 (mkF m 103 #[.val (.int p1), .val (.int p2), .val (.int p3), .val (.int p4), .val (.int p5), .val (.int (3 : Int32)), .val (.int (3 : Int32)), .val (.ref b4), .val (.ref b18), .unset, .unset, .unset] [(.int ((nar .byte (p5.toInt8.toInt32)) &&& (255 : Int32)))]) := fun t kt => K45 t (st48.trans kt)
  have K53 : Gx p e below s₁ f0 T48 (mkF m 128 #[.val (.int p1), .val (.int p2), .val (.int p3), .val (.int p4), .val (.int p5), .val (.int (3 : Int32)), .val (.int (3 : Int32)), .val (.ref b4), .val (.ref b18), .val (.int (0 : Int32)), .unset, .unset] [(.ref b18)]) := fun t kt => K52 t (by
    show Steps p.tables e below (T48.setTop (mkF m 103 #[.val (.int p1), .val (.int p2), .val (.int p3), .val (.int p4), .val (.int p5), .val (.int (3 : Int32)), .val (.int (3 : Int32)), .val (.ref b4), .val (.ref b18), .unset, .unset, .unset] [(.int ((nar .byte (p5.toInt8.toInt32)) &&& (255 : Int32)))])) _
    refine XS.pop X48.here hx rfl (hb hby at_103) rfl rfl ?_
    show Steps p.tables e below (T48.setTop (mkF m 104 #[.val (.int p1), .val (.int p2), .val (.int p3), .val (.int p4), .val (.int p5), .val (.int (3 : Int32)), .val (.int (3 : Int32)), .val (.ref b4), .val (.ref b18), .unset, .unset, .unset] [])) _
    refine XS.iload X48.here hx rfl (hb hby at_104) rfl ?_
    show Steps p.tables e below (T48.setTop (mkF m 106 #[.val (.int p1), .val (.int p2), .val (.int p3), .val (.int p4), .val (.int p5), .val (.int (3 : Int32)), .val (.int (3 : Int32)), .val (.ref b4), .val (.ref b18), .unset, .unset, .unset] [(.int (3 : Int32))])) _
    refine XS.iload X48.here hx rfl (hb hby at_106) rfl ?_
    show Steps p.tables e below (T48.setTop (mkF m 108 #[.val (.int p1), .val (.int p2), .val (.int p3), .val (.int p4), .val (.int p5), .val (.int (3 : Int32)), .val (.int (3 : Int32)), .val (.ref b4), .val (.ref b18), .unset, .unset, .unset] [(.int (3 : Int32)), (.int (3 : Int32))])) _
    refine XS.icmpYes X48.here hx rfl (pc0 := 108) (pc' := 123) rfl (hb hby at_108) rfl (flt (by decide)).2.1 (by decide) (by decide) ?_
    show Steps p.tables e below (T48.setTop (mkF m 123 #[.val (.int p1), .val (.int p2), .val (.int p3), .val (.int p4), .val (.int p5), .val (.int (3 : Int32)), .val (.int (3 : Int32)), .val (.ref b4), .val (.ref b18), .unset, .unset, .unset] [])) _
    refine XS.iconst X48.here hx rfl (hb hby at_123) ?_
    show Steps p.tables e below (T48.setTop (mkF m 124 #[.val (.int p1), .val (.int p2), .val (.int p3), .val (.int p4), .val (.int p5), .val (.int (3 : Int32)), .val (.int (3 : Int32)), .val (.ref b4), .val (.ref b18), .unset, .unset, .unset] [(.int (0 : Int32))])) _
    refine XS.istore X48.here hx rfl (hb hby at_124) rfl (l' := #[.val (.int p1), .val (.int p2), .val (.int p3), .val (.int p4), .val (.int p5), .val (.int (3 : Int32)), .val (.int (3 : Int32)), .val (.ref b4), .val (.ref b18), .val (.int (0 : Int32)), .unset, .unset]) rfl ?_
    show Steps p.tables e below (T48.setTop (mkF m 126 #[.val (.int p1), .val (.int p2), .val (.int p3), .val (.int p4), .val (.int p5), .val (.int (3 : Int32)), .val (.int (3 : Int32)), .val (.ref b4), .val (.ref b18), .val (.int (0 : Int32)), .unset, .unset] [])) _
    refine XS.aload X48.here hx rfl (hb hby at_126) rfl rfl ?_
    exact kt)
  have f54 : Arv Z h48 b4 k4 .byte (3 : Int32) [(.int (nar .byte (p3.toInt8.toInt32))), (.int (nar .byte (p4.toInt8.toInt32))), (.int (nar .byte (p5.toInt8.toInt32)))] (.int (0 : Int32)) := (f46.keep Kc48 (ninS (Nat.ne_of_lt (Nat.lt_of_lt_of_le V16.lt (Nat.le_of_eq g18.symm))) nin0))
  have kp55 : Keep h0 h48 [] := (Keep.trans kp47 Kc48 (allS (Or.inr (Nat.le_trans (((((Keep.refl h0 []).ext E4).wr W8 (Or.inr (Nat.le_trans (Keep.refl h0 []).1 (Nat.le_of_eq g4.symm)))).wr W12 (Or.inr (Nat.le_trans (Keep.refl h0 []).1 (Nat.le_of_eq g4.symm)))).wr W16 (Or.inr (Nat.le_trans (Keep.refl h0 []).1 (Nat.le_of_eq g4.symm)))).1 (Nat.le_of_eq g18.symm))) all0))
  obtain ⟨cq56, kq56, q56a, q56b, q56c⟩ := isOf hZ e48 f49
  obtain ⟨_, _, ⟨T56, L56, k56, n56⟩, -, X56', ⟨Lc56, hQ56, l56, y56, z56⟩, st56⟩ := X48.virtualBack hx (y := (⟨"com/example/looseleaf/looseleaf/pgwire/MessageBody", "atNul", "()Z"⟩ : MethodName)) (z := (⟨"com/example/looseleaf/looseleaf/pgwire/MessageBody", "atNul", "()Z"⟩ : MethodName)) hown (mvT hZ (hw _ (List.mem_of_getElem? (i := 12) rfl))) (mvT hZ (hw _ (List.mem_of_getElem? (i := 13) rfl))) (notFace_of_selects (args := #[]) (mvT hZ (hw _ (List.mem_of_getElem? (i := 15) rfl)))) (mvT hZ (hw _ (List.mem_of_getElem? (i := 15) rfl))) (mvT hZ (hw _ (List.mem_of_getElem? (i := 14) rfl))) (by decide) (backOf (W := 0) (rmAt0 l Z a0 hw [] b18 b4 (3 : Int32) k4 (3 : Int32) [(.int (nar .byte (p3.toInt8.toInt32))), (.int (nar .byte (p4.toInt8.toInt32))), (.int (nar .byte (p5.toInt8.toInt32)))] h48 n0 (Nat.le_trans Z0 kp55.1) f50 f51 f54 (by decide)) hZ (hw _ (List.mem_of_getElem? (i := 16) rfl)) (hw _ (List.mem_of_getElem? (i := 3) rfl)) (by decide) (by decide)) q56a q56c (g := (mkF m 128 #[.val (.int p1), .val (.int p2), .val (.int p3), .val (.int p4), .val (.int p5), .val (.int (3 : Int32)), .val (.int (3 : Int32)), .val (.ref b4), .val (.ref b18), .val (.int (0 : Int32)), .unset, .unset] [(.ref b18)])) rfl (by rw [hml]; rfl) (Steps.refl _) (argsL := []) (rest := []) (lenOf pd___Z rfl) rfl (by show 2 * 0 + _ ≤ _; exact Nat.le_of_eq rfl) (hb hby at_128) (fun _ _ => ⟨rfl, e48, (by decide : 2 + 0 ≤ _), (by decide : 5 + 0 ≤ _)⟩)
  dsimp only [Pt.U, Pt.locs, Pt.cells, Pt.slots] at X56' l56 y56 z56 st56 hQ56
  subst l56 y56 z56
  obtain ⟨rfl, N56q, e56⟩ := hQ56
  obtain ⟨lc56, X56, N56⟩ : ∃ lc, Stand p l e room_1 s m #[(.int p1), (.int p2), (.int p3), (.int p4), (.int p5)] below meth c T56 lc 2 5 ∧ Fr n0 lc := ⟨_, X56', Fr.app N48 N56q⟩
  have K57 : Gx p e below s₁ f0 T56 (mkF m 131 #[.val (.int p1), .val (.int p2), .val (.int p3), .val (.int p4), .val (.int p5), .val (.int (3 : Int32)), .val (.int (3 : Int32)), .val (.ref b4), .val (.ref b18), .val (.int (0 : Int32)), .unset, .unset] [(.int (0 : Int32))]) := fun t kt => K53 t (st56.trans kt)
  have K58 : Gx p e below s₁ f0 T56 (mkF m 135 #[.val (.int p1), .val (.int p2), .val (.int p3), .val (.int p4), .val (.int p5), .val (.int (3 : Int32)), .val (.int (3 : Int32)), .val (.ref b4), .val (.ref b18), .val (.int (0 : Int32)), .val (.int (0 : Int32)), .unset] [(.ref b18)]) := fun t kt => K57 t (by
    show Steps p.tables e below (T56.setTop (mkF m 131 #[.val (.int p1), .val (.int p2), .val (.int p3), .val (.int p4), .val (.int p5), .val (.int (3 : Int32)), .val (.int (3 : Int32)), .val (.ref b4), .val (.ref b18), .val (.int (0 : Int32)), .unset, .unset] [(.int (0 : Int32))])) _
    refine XS.istore X56.here hx rfl (hb hby at_131) rfl (l' := #[.val (.int p1), .val (.int p2), .val (.int p3), .val (.int p4), .val (.int p5), .val (.int (3 : Int32)), .val (.int (3 : Int32)), .val (.ref b4), .val (.ref b18), .val (.int (0 : Int32)), .val (.int (0 : Int32)), .unset]) rfl ?_
    show Steps p.tables e below (T56.setTop (mkF m 133 #[.val (.int p1), .val (.int p2), .val (.int p3), .val (.int p4), .val (.int p5), .val (.int (3 : Int32)), .val (.int (3 : Int32)), .val (.ref b4), .val (.ref b18), .val (.int (0 : Int32)), .val (.int (0 : Int32)), .unset] [])) _
    refine XS.aload X56.here hx rfl (hb hby at_133) rfl rfl ?_
    exact kt)
  obtain ⟨cq59, kq59, q59a, q59b, q59c⟩ := isOf hZ e56 f49
  obtain ⟨_, _, ⟨T59, L59, k59, n59⟩, -, X59', ⟨Lc59, hQ59, l59, y59, z59⟩, st59⟩ := X56.virtualBack hx (y := (⟨"com/example/looseleaf/looseleaf/pgwire/MessageBody", "atNul", "()Z"⟩ : MethodName)) (z := (⟨"com/example/looseleaf/looseleaf/pgwire/MessageBody", "atNul", "()Z"⟩ : MethodName)) hown (mvT hZ (hw _ (List.mem_of_getElem? (i := 12) rfl))) (mvT hZ (hw _ (List.mem_of_getElem? (i := 13) rfl))) (notFace_of_selects (args := #[]) (mvT hZ (hw _ (List.mem_of_getElem? (i := 15) rfl)))) (mvT hZ (hw _ (List.mem_of_getElem? (i := 15) rfl))) (mvT hZ (hw _ (List.mem_of_getElem? (i := 14) rfl))) (by decide) (backOf (W := 0) (rmAt0 l Z a0 hw [] b18 b4 (3 : Int32) k4 (3 : Int32) [(.int (nar .byte (p3.toInt8.toInt32))), (.int (nar .byte (p4.toInt8.toInt32))), (.int (nar .byte (p5.toInt8.toInt32)))] h48 n0 (Nat.le_trans Z0 kp55.1) f50 f51 f54 (by decide)) hZ (hw _ (List.mem_of_getElem? (i := 16) rfl)) (hw _ (List.mem_of_getElem? (i := 3) rfl)) (by decide) (by decide)) q59a q59c (g := (mkF m 135 #[.val (.int p1), .val (.int p2), .val (.int p3), .val (.int p4), .val (.int p5), .val (.int (3 : Int32)), .val (.int (3 : Int32)), .val (.ref b4), .val (.ref b18), .val (.int (0 : Int32)), .val (.int (0 : Int32)), .unset] [(.ref b18)])) rfl (by rw [hml]; rfl) (Steps.refl _) (argsL := []) (rest := []) (lenOf pd___Z rfl) rfl (by show 2 * 0 + _ ≤ _; exact Nat.le_of_eq rfl) (hb hby at_135) (fun _ _ => ⟨rfl, e56, (by decide : 2 + 0 ≤ _), (by decide : 5 + 0 ≤ _)⟩)
  dsimp only [Pt.U, Pt.locs, Pt.cells, Pt.slots] at X59' l59 y59 z59 st59 hQ59
  subst l59 y59 z59
  obtain ⟨rfl, N59q, e59⟩ := hQ59
  obtain ⟨lc59, X59, N59⟩ : ∃ lc, Stand p l e room_1 s m #[(.int p1), (.int p2), (.int p3), (.int p4), (.int p5)] below meth c T59 lc 2 5 ∧ Fr n0 lc := ⟨_, X59', Fr.app N56 N59q⟩
  have K60 : Gx p e below s₁ f0 T59 (mkF m 138 #[.val (.int p1), .val (.int p2), .val (.int p3), .val (.int p4), .val (.int p5), .val (.int (3 : Int32)), .val (.int (3 : Int32)), .val (.ref b4), .val (.ref b18), .val (.int (0 : Int32)), .val (.int (0 : Int32)), .unset] [(.int (0 : Int32))]) := fun t kt => K58 t (st59.trans kt)
  have K61 : Gx p e below s₁ f0 T59 (mkF m 187 #[.val (.int p1), .val (.int p2), .val (.int p3), .val (.int p4), .val (.int p5), .val (.int (3 : Int32)), .val (.int (3 : Int32)), .val (.ref b4), .val (.ref b18), .val (.int (0 : Int32)), .val (.int (0 : Int32)), .val (.int (0 : Int32))] [(.int (1 : Int32))]) := fun t kt => K60 t (by
    show Steps p.tables e below (T59.setTop (mkF m 138 #[.val (.int p1), .val (.int p2), .val (.int p3), .val (.int p4), .val (.int p5), .val (.int (3 : Int32)), .val (.int (3 : Int32)), .val (.ref b4), .val (.ref b18), .val (.int (0 : Int32)), .val (.int (0 : Int32)), .unset] [(.int (0 : Int32))])) _
    refine XS.istore X59.here hx rfl (hb hby at_138) rfl (l' := #[.val (.int p1), .val (.int p2), .val (.int p3), .val (.int p4), .val (.int p5), .val (.int (3 : Int32)), .val (.int (3 : Int32)), .val (.ref b4), .val (.ref b18), .val (.int (0 : Int32)), .val (.int (0 : Int32)), .val (.int (0 : Int32))]) rfl ?_
    show Steps p.tables e below (T59.setTop (mkF m 140 #[.val (.int p1), .val (.int p2), .val (.int p3), .val (.int p4), .val (.int p5), .val (.int (3 : Int32)), .val (.int (3 : Int32)), .val (.ref b4), .val (.ref b18), .val (.int (0 : Int32)), .val (.int (0 : Int32)), .val (.int (0 : Int32))] [])) _
    refine XS.iload X59.here hx rfl (hb hby at_140) rfl ?_
    show Steps p.tables e below (T59.setTop (mkF m 142 #[.val (.int p1), .val (.int p2), .val (.int p3), .val (.int p4), .val (.int p5), .val (.int (3 : Int32)), .val (.int (3 : Int32)), .val (.ref b4), .val (.ref b18), .val (.int (0 : Int32)), .val (.int (0 : Int32)), .val (.int (0 : Int32))] [(.int (0 : Int32))])) _
    refine XS.iload X59.here hx rfl (hb hby at_142) rfl ?_
    show Steps p.tables e below (T59.setTop (mkF m 144 #[.val (.int p1), .val (.int p2), .val (.int p3), .val (.int p4), .val (.int p5), .val (.int (3 : Int32)), .val (.int (3 : Int32)), .val (.ref b4), .val (.ref b18), .val (.int (0 : Int32)), .val (.int (0 : Int32)), .val (.int (0 : Int32))] [(.int (0 : Int32)), (.int (0 : Int32))])) _
    refine XS.icmpNo X59.here hx rfl (hb hby at_144) rfl (teq (by decide)).2 ?_
    show Steps p.tables e below (T59.setTop (mkF m 147 #[.val (.int p1), .val (.int p2), .val (.int p3), .val (.int p4), .val (.int p5), .val (.int (3 : Int32)), .val (.int (3 : Int32)), .val (.ref b4), .val (.ref b18), .val (.int (0 : Int32)), .val (.int (0 : Int32)), .val (.int (0 : Int32))] [])) _
    refine XS.iload X59.here hx rfl (hb hby at_147) rfl ?_
    show Steps p.tables e below (T59.setTop (mkF m 149 #[.val (.int p1), .val (.int p2), .val (.int p3), .val (.int p4), .val (.int p5), .val (.int (3 : Int32)), .val (.int (3 : Int32)), .val (.ref b4), .val (.ref b18), .val (.int (0 : Int32)), .val (.int (0 : Int32)), .val (.int (0 : Int32))] [(.int (0 : Int32))])) _
    refine XS.iload X59.here hx rfl (hb hby at_149) rfl ?_
    show Steps p.tables e below (T59.setTop (mkF m 151 #[.val (.int p1), .val (.int p2), .val (.int p3), .val (.int p4), .val (.int p5), .val (.int (3 : Int32)), .val (.int (3 : Int32)), .val (.ref b4), .val (.ref b18), .val (.int (0 : Int32)), .val (.int (0 : Int32)), .val (.int (0 : Int32))] [(.int (0 : Int32)), (.int (0 : Int32))])) _
    refine XS.icmpYes X59.here hx rfl (pc0 := 151) (pc' := 156) rfl (hb hby at_151) rfl (teq (by decide)).1 (by decide) (by decide) ?_
    show Steps p.tables e below (T59.setTop (mkF m 156 #[.val (.int p1), .val (.int p2), .val (.int p3), .val (.int p4), .val (.int p5), .val (.int (3 : Int32)), .val (.int (3 : Int32)), .val (.ref b4), .val (.ref b18), .val (.int (0 : Int32)), .val (.int (0 : Int32)), .val (.int (0 : Int32))] [])) _
    refine XS.iload X59.here hx rfl (hb hby at_156) rfl ?_
    show Steps p.tables e below (T59.setTop (mkF m 158 #[.val (.int p1), .val (.int p2), .val (.int p3), .val (.int p4), .val (.int p5), .val (.int (3 : Int32)), .val (.int (3 : Int32)), .val (.ref b4), .val (.ref b18), .val (.int (0 : Int32)), .val (.int (0 : Int32)), .val (.int (0 : Int32))] [(.int (3 : Int32))])) _
    refine XS.iload X59.here hx rfl (hb hby at_158) rfl ?_
    show Steps p.tables e below (T59.setTop (mkF m 160 #[.val (.int p1), .val (.int p2), .val (.int p3), .val (.int p4), .val (.int p5), .val (.int (3 : Int32)), .val (.int (3 : Int32)), .val (.ref b4), .val (.ref b18), .val (.int (0 : Int32)), .val (.int (0 : Int32)), .val (.int (0 : Int32))] [(.int (3 : Int32)), (.int (3 : Int32))])) _
    refine XS.icmpYes X59.here hx rfl (pc0 := 160) (pc' := 186) rfl (hb hby at_160) rfl (flt (by decide)).2.1 (by decide) (by decide) ?_
    show Steps p.tables e below (T59.setTop (mkF m 186 #[.val (.int p1), .val (.int p2), .val (.int p3), .val (.int p4), .val (.int p5), .val (.int (3 : Int32)), .val (.int (3 : Int32)), .val (.ref b4), .val (.ref b18), .val (.int (0 : Int32)), .val (.int (0 : Int32)), .val (.int (0 : Int32))] [])) _
    refine XS.iconst X59.here hx rfl (hb hby at_186) ?_
    exact kt)
  obtain ⟨fs62, hr62, hrun62, hended62, hW62, hsame62⟩ := X59.leave (v := some (.int (1 : Int32))) (fun h => by rw [Bd.returns] at h; cases h)
  refine ⟨_, _, pre0 _ (K61 _ ?_), hrun62, hended62, _, _, rfl, ?_, ⟨_, rfl⟩, hW62, hsame62.mono (by decide) (by decide)⟩
  · exact retN X59 hx (t := .boolean) Bd.returns (by simp) (hb hby at_187) hr62
  · show Q0 Z p1 p2 p3 p4 p5 h0 n0 _ T59.heap _
    rw [e59]
    exact ⟨rfl, N59⟩
theorem rm0 (l : Launch) (Z : State) (a0 : Array Value) (hw : ∀ d ∈ tables_1, d.before a0 Z = true) (ws : List Jvm.Cond) (p1 : Int32) (p2 : Int32) (p3 : Int32) (p4 : Int32) (p5 : Int32) (h0 : Heap) (n0 : Nat) (Z0 : n0 ≤ h0.size) :
    MetFree l x (head1 (Jvm.Cond.code x code maxLocals ret :: ws) room_1) (fun a U => a = #[(.int p1), (.int p2), (.int p3), (.int p4), (.int p5)] ∧ Z.Warmed39 U.vm ∧ U.heap = h0) (fun _ _ _ _ _ => True) (fun _ U o U' => ∃ v L, o = .returned v ∧ Q0 Z p1 p2 p3 p4 p5 h0 n0 v U'.heap L ∧ FrameEnd U o U' L room_1.cells room_1.slots) := by
  rcases own_and3 p1 with hn | hn | hn | hn
  · rcases own_k0 p2 with hk
    · exact rm0_00 l Z a0 hw ws p1 p2 p3 p4 p5 h0 n0 Z0 hn hk
  · rcases own_k1 p2 with hk | hk
    · exact rm0_10 l Z a0 hw ws p1 p2 p3 p4 p5 h0 n0 Z0 hn hk
    · exact rm0_11 l Z a0 hw ws p1 p2 p3 p4 p5 h0 n0 Z0 hn hk
  · rcases own_k2 p2 with hk | hk | hk
    · exact rm0_20 l Z a0 hw ws p1 p2 p3 p4 p5 h0 n0 Z0 hn hk
    · exact rm0_21 l Z a0 hw ws p1 p2 p3 p4 p5 h0 n0 Z0 hn hk
    · exact rm0_22 l Z a0 hw ws p1 p2 p3 p4 p5 h0 n0 Z0 hn hk
  · rcases own_k3 p2 with hk | hk | hk | hk
    · exact rm0_30 l Z a0 hw ws p1 p2 p3 p4 p5 h0 n0 Z0 hn hk
    · exact rm0_31 l Z a0 hw ws p1 p2 p3 p4 p5 h0 n0 Z0 hn hk
    · exact rm0_32 l Z a0 hw ws p1 p2 p3 p4 p5 h0 n0 Z0 hn hk
    · exact rm0_33 l Z a0 hw ws p1 p2 p3 p4 p5 h0 n0 Z0 hn hk
set_option maxRecDepth 65536 in
set_option maxHeartbeats 40000000 in
theorem comes_1 {Post : Tables → Env → Array Value → State → Outcome → State → Prop} (hpost : ∀ tb e args s v u, (limb_1_1.after args s (.returned v) u = true ∧ limb_1_2.after args s (.returned v) u = true ∧ True) → FrameEnd s (.returned v) u (Jvm.fieldLocs frame_1_writes args s ++ Jvm.arrayLocs frame_1_arrays args s ++ Jvm.staticLocs frame_1_statics s) 16 128 → Post tb e args s (.returned v) u) :
    ArmFor flags0 classFile x code maxLocals ret World_1 tables_1 room_1 Calls_1 rest_1 Pre_1 Post := by
  intro l hfl _ _ p e ha hc hk s m args below hf hA hF happ hP
  obtain ⟨hcalls, hrest, hpre⟩ := hP
  obtain ⟨-, -, -, hnamed, -, -, -, hat⟩ := (Spec.applies_iff hf).mp happ
  obtain ⟨hg, hn⟩ := and_e (Cond.before_iff.mp (show (Jvm.Cond.and given_1 narrow_1).before args s = true from hpre))
  obtain ⟨g1, g2⟩ := and_e hg
  obtain ⟨g3, g4⟩ := and_e g2
  obtain ⟨g5, g6⟩ := and_e g4
  obtain ⟨g7, g8⟩ := and_e g6
  obtain ⟨g9, g10⟩ := and_e g8
  obtain ⟨w0, w1, w2, w3, w4, rfl⟩ : ∃ w0 w1 w2 w3 w4 : Value, args = #[w0, w1, w2, w3, w4] := by
    have hs : args.size = 5 := by simpa [Cond.value, given_1] using g1
    obtain ⟨L⟩ := args
    match L, hs with
    | [w0, w1, w2, w3, w4], _ => exact ⟨w0, w1, w2, w3, w4, rfl⟩
  have hw := fun d (hd : d ∈ tables_1) => atoms_spec (ws := Jvm.Cond.code x code maxLocals ret :: tables_1) hat d (List.mem_cons_of_mem _ hd)
  have hfit : Fit s := fun {y c} hc i hi => by
    obtain ⟨ha, rfl⟩ := Array.getElem?_eq_some_iff.mp hc
    have q := List.all_eq_true.mp ((Array.all_eq_true_iff_forall_mem.mp hF) _ (Array.getElem_mem ha)) i (List.mem_range.mpr hi)
    simpa [Array.getElem?_eq_getElem hi] using q
  obtain ⟨i0, ei0⟩ := is_v g3
  obtain rfl : w0 = (.int i0) := Option.some.inj ei0
  obtain ⟨i1, ei1⟩ := is_v g5
  obtain rfl : w1 = (.int i1) := Option.some.inj ei1
  obtain ⟨i2, ei2⟩ := is_v g7
  obtain rfl : w2 = (.int i2) := Option.some.inj ei2
  obtain ⟨i3, ei3⟩ := is_v g9
  obtain rfl : w3 = (.int i3) := Option.some.inj ei3
  obtain ⟨i4, ei4⟩ := is_v g10
  obtain rfl : w4 = (.int i4) := Option.some.inj ei4
  obtain ⟨n, o, h1, h2, h3, _, L, rfl, ⟨rfl, N⟩, hq⟩ := rm0 l s _ hw tables_1 i0 i1 i2 i3 i4 s.heap s.heap.size (Nat.le_refl _) p e ha hc hk s m _ below hf ((Spec.applies_iff_loose hf).mp happ).1 ⟨rfl, State.Warmed39.refl s, rfl⟩ trivial
  refine ⟨n, _, h1, h2, h3, hpost _ _ _ _ _ _ ⟨Cond.after_iff.mpr rfl, Cond.after_iff.mpr (eq_i res_at (Term.int_eval (1)) rfl), trivial⟩ ⟨hq.1, hq.2.1, (hq.2.2.sift fun y hy => Or.inr (N y hy)).mono (by decide) (by decide)⟩⟩
theorem main_1_1 : Claimed_1_1 := comes_1 fun _ _ _ _ _ _ h hF => ⟨h.1, hF⟩
theorem main_1_2 : Claimed_1_2 := comes_1 fun _ _ _ _ _ _ h hF => ⟨h.2.1, hF⟩
end Jvm.Pilot.@@N@@
namespace Jvm.Pilot.@@N@@
open Jvm Jvm.ClassFile Sem Op Lib Jvm.Free Jvm.Stand Jvm.Pilot.@@N@@.Jvm.D
/-! MADE BY PROGRAM (witnessworld.py) out of the Statement's table words and the real class files: 9 classes; the members and pool entries that the words name. The judged class is class 1, her method 1. -/
namespace start1
open Jvm.ClassFile
def u (s : String) : CpInfo := .utf8 (stringToUtf16 s)
/-- a pool by its gaps: so many unusable entries, then the entry; so many at the end -/
def gap : Nat → List CpInfo → List CpInfo
  | 0, r => r
  | n + 1, r => .unusable :: gap n r
def poolList (es : List (Nat × CpInfo)) (last : Nat) : List CpInfo := es.foldr (fun e r => gap e.1 (e.2 :: r)) (gap last [])
def pool (es : List (Nat × CpInfo)) (last : Nat) : Array CpInfo := ⟨poolList es last⟩
def fileOf (pool : Array CpInfo) (this : Nat) (attrs : Array Attribute := #[]) (ms : Array MethodInfo := #[]) (fl : Nat := 33) (sup : Nat := 0) (ifs : Array Nat := #[]) (fds : Array FieldInfo := #[]) : ClassFile where
  minorVersion := 0
  majorVersion := 65
  constantPool := pool
  accessFlags := fl
  thisClass := this
  superClass := sup
  interfaces := ifs
  fields := fds
  methods := ms
  attributes := attrs
def plain (name : String) (sup : Option ClassId) : Class where
  name := name
  kind := .ordinary
  loader := none
  accessFlags := 33
  super := sup
  interfaces := #[]
  cf := none
  fields := #[]
  methods := #[]
  instanceTypes := #[]
  staticTypes := #[]
  resolved := #[]
  callSites := []
  init := .initialized
  statics := none
  mirror := none

def pool0 : Array CpInfo := pool [(5, u "<init>"), (0, u "()V"), (1, .class_ 10), (1, u "java/lang/Object")] 113

def k0c0 : Code := { maxStack := 0, maxLocals := 1, code := object_method_1_code, exceptionTable := #[], attributes := #[] }
def k0m0 : Method := { name := "<init>", desc := "()V", sig := { parameters := [], returnType := none }, accessFlags := 1, code := some k0c0 }
/-- java/lang/Object -/
def k0 : Class := { plain "java/lang/Object" none with
  accessFlags := 33
  interfaces := #[]
  cf := some (fileOf pool0 8 #[] #[{ accessFlags := 1, nameIndex := 5, descriptorIndex := 6, attributes := #[] }] 33 0 #[] #[])
  fields := #[]
  methods := #[k0m0]
  instanceTypes := #[]
  staticTypes := #[]
  resolved := Array.replicate 124 none
  statics := none }

def pool1 : Array CpInfo := pool [(2, .class_ 4), (1, u "java/lang/Object"), (0, u "<init>"), (0, u "()V"), (0, .class_ 8), (0, u "com/example/looseleaf/looseleaf/pgwire/MessageBody"), (0, .methodref 7 10), (0, .nameAndType 5 11), (0, u "([B)V"), (0, .methodref 7 13), (0, .nameAndType 14 15), (0, u "byte1"), (0, u "()I"), (0, .methodref 7 17), (0, .nameAndType 18 19), (0, u "atNul"), (0, u "()Z"), (0, .class_ 21), (0, u "com/example/looseleaf/looseleaf/pgwire/MessageBodyAtNulPinLaw"), (2, u "law"), (0, u "(IIIII)Z")] 8

def k1m0 : Method := { name := "<init>", desc := "()V", sig := { parameters := [], returnType := none }, accessFlags := 2, code := none }
def k1c1 : Code := { maxStack := 3, maxLocals := 12, code := code, exceptionTable := #[], attributes := #[] }
def k1m1 : Method := { name := "law", desc := "(IIIII)Z", sig := { parameters := [.int, .int, .int, .int, .int], returnType := some .boolean }, accessFlags := 9, code := some k1c1 }
/-- com/example/looseleaf/looseleaf/pgwire/MessageBodyAtNulPinLaw -/
def k1 : Class := { plain "com/example/looseleaf/looseleaf/pgwire/MessageBodyAtNulPinLaw" (some 0) with
  accessFlags := 49
  interfaces := #[]
  cf := some (fileOf pool1 20 #[] #[{ accessFlags := 2, nameIndex := 5, descriptorIndex := 6, attributes := #[] }, { accessFlags := 9, nameIndex := 24, descriptorIndex := 25, attributes := #[] }] 49 2 #[] #[])
  fields := #[]
  methods := #[k1m0, k1m1]
  instanceTypes := #[]
  staticTypes := #[]
  resolved := Array.replicate 34 none
  statics := none }

def pool2 : Array CpInfo := pool [(1, .methodref 2 3), (0, .class_ 4), (0, .nameAndType 5 6), (0, u "java/lang/Object"), (0, u "<init>"), (0, u "()V"), (0, .fieldref 8 9), (0, .class_ 10), (0, .nameAndType 11 12), (0, u "com/example/looseleaf/looseleaf/pgwire/MessageBody"), (0, u "bytes"), (0, u "[B"), (0, .methodref 8 14), (0, .nameAndType 15 16), (0, u "require"), (0, u "(I)V"), (0, .fieldref 8 18), (0, .nameAndType 19 20), (0, u "at"), (0, u "I"), (3, u "()I"), (81, u "([B)V"), (2, u "byte1"), (6, u "atNul"), (0, u "()Z")] 3

def k2c0 : Code := { maxStack := 2, maxLocals := 2, code := prog_6_method_1_code, exceptionTable := #[], attributes := #[] }
def k2m0 : Method := { name := "<init>", desc := "([B)V", sig := { parameters := [(.array .byte)], returnType := none }, accessFlags := 0, code := some k2c0 }
def k2c1 : Code := { maxStack := 5, maxLocals := 1, code := prog_6_method_2_code, exceptionTable := #[], attributes := #[] }
def k2m1 : Method := { name := "byte1", desc := "()I", sig := { parameters := [], returnType := some .int }, accessFlags := 0, code := some k2c1 }
def k2c2 : Code := { maxStack := 2, maxLocals := 1, code := prog_6_method_8_code, exceptionTable := #[], attributes := #[] }
def k2m2 : Method := { name := "atNul", desc := "()Z", sig := { parameters := [], returnType := some .boolean }, accessFlags := 0, code := some k2c2 }
def k2c3 : Code := { maxStack := 2, maxLocals := 2, code := prog_6_method_11_code, exceptionTable := #[], attributes := #[] }
def k2m3 : Method := { name := "require", desc := "(I)V", sig := { parameters := [.int], returnType := none }, accessFlags := 2, code := some k2c3 }
/-- com/example/looseleaf/looseleaf/pgwire/MessageBody -/
def k2 : Class := { plain "com/example/looseleaf/looseleaf/pgwire/MessageBody" (some 0) with
  accessFlags := 48
  interfaces := #[]
  cf := some (fileOf pool2 8 #[] #[{ accessFlags := 0, nameIndex := 5, descriptorIndex := 106, attributes := #[] }, { accessFlags := 0, nameIndex := 109, descriptorIndex := 24, attributes := #[] }, { accessFlags := 0, nameIndex := 116, descriptorIndex := 117, attributes := #[] }, { accessFlags := 2, nameIndex := 15, descriptorIndex := 16, attributes := #[] }] 48 2 #[] #[{ accessFlags := 18, nameIndex := 11, descriptorIndex := 12, attributes := #[] }, { accessFlags := 2, nameIndex := 19, descriptorIndex := 20, attributes := #[] }])
  fields := #[{ name := "bytes", type := (.array .byte), accessFlags := 18, slot := 0, constantValue := 0 }, { name := "at", type := .int, accessFlags := 2, slot := 1, constantValue := 0 }]
  methods := #[k2m0, k2m1, k2m2, k2m3]
  instanceTypes := #[(.array .byte), .int]
  staticTypes := #[]
  resolved := Array.replicate 121 none
  statics := none }

def pool3 : Array CpInfo := pool [(1, u "java/lang/Cloneable"), (0, .class_ 1), (0, u "java/lang/Object"), (0, .class_ 3)] 3

/-- java/lang/Cloneable -/
def k3 : Class := { plain "java/lang/Cloneable" (some 0) with
  accessFlags := 1537
  interfaces := #[]
  cf := some (fileOf pool3 2 #[] #[] 1537 4 #[] #[])
  fields := #[]
  methods := #[]
  instanceTypes := #[]
  staticTypes := #[]
  resolved := Array.replicate 8 none
  statics := none }

def pool4 : Array CpInfo := pool [(1, u "java/io/Serializable"), (0, .class_ 1), (0, u "java/lang/Object"), (0, .class_ 3)] 3

/-- java/io/Serializable -/
def k4 : Class := { plain "java/io/Serializable" (some 0) with
  accessFlags := 1537
  interfaces := #[]
  cf := some (fileOf pool4 2 #[] #[] 1537 4 #[] #[])
  fields := #[]
  methods := #[]
  instanceTypes := #[]
  staticTypes := #[]
  resolved := Array.replicate 8 none
  statics := none }

/-- the primitive byte -/
def k5 : Class := { plain "byte" none with kind := .primitive 'B', accessFlags := 0x411 }
/-- [B -/
def k6 : Class := { plain "[B" (some 0) with kind := .array 5 .byte, interfaces := #[3, 4], accessFlags := 1041 }

/-- the primitive int -/
def k7 : Class := { plain "int" none with kind := .primitive 'I', accessFlags := 0x411 }
/-- [I -/
def k8 : Class := { plain "[I" (some 0) with kind := .array 7 .int, interfaces := #[3, 4], accessFlags := 1041 }

def heap : Heap := #[]
def classes : Array Class := #[k0, k1, k2, k3, k4, k5, k6, k7, k8]
def interned : List (Array UInt16 × Addr) := []
def slotsUsed : Nat := 0
def theMethod : MethodId := ⟨1, 1⟩
def args0 : Array Value := #[.int 5, .int 6, .int 7, .int 8, .int 9]
def aboutOver (below : List Frame) : State where
  vm := { classes := classes, interned := interned.toArray }
  heap := heap
  slotsUsed := slotsUsed
  threads := #[{ frames := .invoking theMethod args0 :: below }]
def below0 : List Frame := [.native { method := ⟨0, 0⟩, args := #[] }]
def about1 : State := aboutOver below0
def p0 : Program := .bare "" "" ""
def e0 : Env := launch0.env 0 0 0
theorem w_frames : about1.frames = Frame.invoking theMethod args0 :: below0 := rfl
set_option maxRecDepth 65536 in
theorem w_args : argsFit about1.vm theMethod args0 = true := by decide +kernel
set_option maxRecDepth 65536 in
theorem w_heap : heapFits about1 = true := by decide +kernel
set_option maxRecDepth 65536 in
theorem w_runnable : about1.curStatus? = some .runnable := by decide +kernel
set_option maxRecDepth 65536 in
theorem w_alone : about1.alone = true := by decide +kernel
set_option maxRecDepth 65536 in
theorem w_named : about1.methodNamed? x = some theMethod := by decide +kernel
set_option maxRecDepth 65536 in
theorem w_hears : about1.hears theMethod below0 = true := by decide +kernel
set_option maxRecDepth 65536 in
theorem w_ripe : about1.ripe theMethod args0 below0 = true := by decide +kernel
theorem w_running : about1.status = .running := rfl
set_option maxRecDepth 65536 in
theorem w_room : about1.hasRoom e0.platform room_1 = true :=
  launch0.hasRoom_least _ room_1 (by decide +kernel) (by decide +kernel) (by decide +kernel) (by decide +kernel) (by decide +kernel) (by decide +kernel)
theorem allAtoms_all (ts : List Jvm.Cond) (a : Array Jvm.Value) (st : Jvm.State) : (allAtoms ts).before a st = ts.all (fun c => c.before a st) := by
  induction ts with
  | nil => rfl
  | cons c t ih =>
    show (Jvm.Cond.and c (allAtoms t)).before a st = _
    rw [Jvm.Cond.before_and, ih, List.all_cons]
def words1 : List Jvm.Cond := Jvm.Cond.code x code maxLocals ret :: tables_1
/-- a 'code' word, met by the world's own term for the bytes: nothing is compared byte by byte -/
theorem code_word {y : MethodName} {bytes : ByteArray} {mx : Nat} {rt : Option FieldType} {a : Array Value} {s : State} {m : MethodId} {meth : Method} {c : Code} (h1 : s.methodNamed? y = some m) (h2 : s.vm.method? m = some meth) (h3 : meth.code = some c) (h4 : c.code = bytes)
    (h5 : (c.maxLocals == mx && c.exceptionTable.isEmpty && decide (c.maxStack ≤ mostOperands) && decide (meth.sig.returnType = rt) && !meth.locks && decide (parseMethodDescriptor y.desc = some meth.sig)) = true) : (Jvm.Cond.code y bytes mx rt).before a s = true := by
  simp only [Bool.and_eq_true, beq_iff_eq, Bool.not_eq_true', decide_eq_true_eq] at h5
  obtain ⟨⟨⟨⟨⟨g1, g2⟩, g3⟩, g4⟩, g5⟩, g6⟩ := h5
  simp [Cond.before, Cond.holds, Cond.value, h1, h2, h3, h4, g1, g2, g3, g4, g5, g6]
def isCode : Jvm.Cond → Bool
  | .code _ _ _ _ => true
  | _ => false
theorem all_split {L : List Jvm.Cond} {P : Jvm.Cond → Bool} (h1 : L.all (fun c => isCode c || P c) = true) (h2 : ∀ c ∈ L.filter isCode, P c = true) : L.all P = true := by
  refine List.all_eq_true.mpr fun c hc => ?_
  have h := List.all_eq_true.mp h1 c hc
  rcases Bool.eq_false_or_eq_true (isCode c) with hi | hi
  · exact h2 c (List.mem_filter.mpr ⟨hc, hi⟩)
  · simpa [hi] using h
set_option maxRecDepth 65536 in
theorem w_c0 : (Jvm.Cond.code x code maxLocals ret).before args0 about1 = true := code_word (m := ⟨1, 1⟩) (meth := k1m1) (c := k1c1) (by decide +kernel) rfl rfl rfl (by decide +kernel)
set_option maxRecDepth 65536 in
theorem w_c1 : (Jvm.Cond.code ({ cls := "com/example/looseleaf/looseleaf/pgwire/MessageBody", name := "<init>", desc := "([B)V" } : Jvm.MethodName) prog_6_method_1_code (2 : Nat) (Option.none : Option Jvm.ClassFile.FieldType)).before args0 about1 = true := code_word (m := ⟨2, 0⟩) (meth := k2m0) (c := k2c0) (by decide +kernel) rfl rfl rfl (by decide +kernel)
set_option maxRecDepth 65536 in
theorem w_c2 : (Jvm.Cond.code ({ cls := "java/lang/Object", name := "<init>", desc := "()V" } : Jvm.MethodName) object_method_1_code (1 : Nat) (Option.none : Option Jvm.ClassFile.FieldType)).before args0 about1 = true := code_word (m := ⟨0, 0⟩) (meth := k0m0) (c := k0c0) (by decide +kernel) rfl rfl rfl (by decide +kernel)
set_option maxRecDepth 65536 in
theorem w_c3 : (Jvm.Cond.code ({ cls := "com/example/looseleaf/looseleaf/pgwire/MessageBody", name := "atNul", desc := "()Z" } : Jvm.MethodName) prog_6_method_8_code (1 : Nat) (Option.some Jvm.ClassFile.FieldType.boolean)).before args0 about1 = true := code_word (m := ⟨2, 2⟩) (meth := k2m2) (c := k2c2) (by decide +kernel) rfl rfl rfl (by decide +kernel)
set_option maxRecDepth 65536 in
theorem w_c4 : (Jvm.Cond.code ({ cls := "com/example/looseleaf/looseleaf/pgwire/MessageBody", name := "byte1", desc := "()I" } : Jvm.MethodName) prog_6_method_2_code (1 : Nat) (Option.some Jvm.ClassFile.FieldType.int)).before args0 about1 = true := code_word (m := ⟨2, 1⟩) (meth := k2m1) (c := k2c1) (by decide +kernel) rfl rfl rfl (by decide +kernel)
set_option maxRecDepth 65536 in
theorem w_c5 : (Jvm.Cond.code ({ cls := "com/example/looseleaf/looseleaf/pgwire/MessageBody", name := "require", desc := "(I)V" } : Jvm.MethodName) prog_6_method_11_code (2 : Nat) (Option.none : Option Jvm.ClassFile.FieldType)).before args0 about1 = true := code_word (m := ⟨2, 3⟩) (meth := k2m3) (c := k2c3) (by decide +kernel) rfl rfl rfl (by decide +kernel)
def codes1 : List Jvm.Cond := [Jvm.Cond.code x code maxLocals ret, Jvm.Cond.code ({ cls := "com/example/looseleaf/looseleaf/pgwire/MessageBody", name := "<init>", desc := "([B)V" } : Jvm.MethodName) prog_6_method_1_code (2 : Nat) (Option.none : Option Jvm.ClassFile.FieldType), Jvm.Cond.code ({ cls := "java/lang/Object", name := "<init>", desc := "()V" } : Jvm.MethodName) object_method_1_code (1 : Nat) (Option.none : Option Jvm.ClassFile.FieldType), Jvm.Cond.code ({ cls := "com/example/looseleaf/looseleaf/pgwire/MessageBody", name := "atNul", desc := "()Z" } : Jvm.MethodName) prog_6_method_8_code (1 : Nat) (Option.some Jvm.ClassFile.FieldType.boolean), Jvm.Cond.code ({ cls := "com/example/looseleaf/looseleaf/pgwire/MessageBody", name := "byte1", desc := "()I" } : Jvm.MethodName) prog_6_method_2_code (1 : Nat) (Option.some Jvm.ClassFile.FieldType.int), Jvm.Cond.code ({ cls := "com/example/looseleaf/looseleaf/pgwire/MessageBody", name := "require", desc := "(I)V" } : Jvm.MethodName) prog_6_method_11_code (2 : Nat) (Option.none : Option Jvm.ClassFile.FieldType)]
set_option maxRecDepth 65536 in
theorem codes_eq : words1.filter isCode = codes1 := rfl
theorem w_codes : ∀ c ∈ words1.filter isCode, c.before args0 about1 = true := by
  rw [codes_eq]
  intro c hc
  simp only [codes1, List.mem_cons, List.not_mem_nil, or_false] at hc
  rcases hc with rfl | rfl | rfl | rfl | rfl | rfl
  · exact w_c0
  · exact w_c1
  · exact w_c2
  · exact w_c3
  · exact w_c4
  · exact w_c5
set_option maxRecDepth 65536 in
theorem w_t1 : (words1.take 24).all (fun c => isCode c || c.before args0 about1) = true := by decide +kernel
set_option maxRecDepth 65536 in
theorem w_t2 : (words1.drop 24).all (fun c => isCode c || c.before args0 about1) = true := by decide +kernel
theorem w_tables : (allAtoms (Jvm.Cond.code x code maxLocals ret :: tables_1)).before args0 about1 = true := by
  rw [allAtoms_all]
  show words1.all (fun c => c.before args0 about1) = true
  refine all_split ?_ w_codes
  rw [← List.take_append_drop 24 words1, List.all_append, w_t1, w_t2]
  rfl
set_option maxRecDepth 65536 in
theorem w_case : (Jvm.Cond.and given_1 narrow_1).before args0 about1 = true := by decide +kernel
theorem w_applies : (headSpec (Jvm.Cond.code x code maxLocals ret :: tables_1) room_1).applies x e0.platform about1 = true :=
  (Spec.applies_iff w_frames).mpr ⟨w_running, w_runnable, w_alone, w_named, w_hears, w_ripe, w_room, w_tables⟩
theorem atStart : AtStart classFile x code maxLocals ret World_1 tables_1 room_1 Calls_1 rest_1 Pre_1 launch0 p0 e0 about1 theMethod args0 below0 :=
  ⟨lists_1, trivial, launch0.admits_env _ _ _, launch0.least_env, fairChoices_fair.cas, fairChoices_fair.clock, w_frames, w_args, w_heap, w_applies, trivial, trivial, w_case⟩
end start1
theorem witness_1 : WitnessClaimed_1 := ⟨start1.p0, start1.e0, start1.about1, start1.theMethod, start1.args0, start1.below0, start1.atStart⟩
end Jvm.Pilot.@@N@@
