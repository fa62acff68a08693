import JvmDerived
import JvmDerived.Pilot.@@N@@Statement
import JvmDerived.Pilot.@@N@@Code
set_option linter.unusedVariables false
set_option linter.unusedSimpArgs false
namespace Jvm.RoadKit
open Sem ClassFile Op Lib Jvm.Stand Jvm.Free Jvm.LawKit
section New
variable {p : Program} {l : Launch} {e : Env} {R : Room} {s : State} {m : MethodId} {args : Array Value} {below : List Frame} {meth : Method} {c : Code} {T : State} {locs : List Loc} {cells slots : Nat}
theorem retI (X : Stand p l e R s m args below meth c T locs cells slots) (hx : p.tables.exec = Jvm.exec) {pc : Nat} {Ls : Array Slot} {z : Int32} {rest : List Value} (hret : meth.sig.returnType = some .int) (hd : decode c.code pc = .ok (.ireturn, 1)) {fs : List Frame}
    (hl : ∀ (f : JFrame) (acts : List Action), f.method = m → f.locked = none → f.entered = [] → (doReturn e (T.setTop f) acts (some (.int z))).1 = T.setFrames fs) : Steps p.tables e below (T.setTop (mkF m pc Ls (.int z :: rest))) (T.setFrames fs) := by
  have hm' : T.vm.method? m = some meth := X.method'
  have hn : narrow .int (.int z) = .int z := rfl
  show Steps p.tables e below (T.setTop { method := m, pc := pc, locals := Ls, stack := _ :: rest, locked := none }) _
  jvm_step X.here [X.here.top, hx, hd, hm', hret, hn]
  first | (intro acts; rw [hl _ acts rfl rfl rfl]) | rw [hl _ _ rfl rfl rfl]
  exact Steps.refl _
end New
end Jvm.RoadKit
namespace Jvm.Pilot.@@N@@
open Jvm Jvm.ClassFile Sem Op Lib Jvm.Free Jvm.Stand Jvm.LawKit Jvm.RoadKit Bundle Jvm.Pilot.@@N@@.Jvm.D
abbrev Gx (p : Program) (e : Env) (below : List Frame) (T0 : State) (f0 : JFrame) (T : State) (f : JFrame) : Prop := ∀ t, Steps p.tables e below (T.setTop f) t → Steps p.tables e below (T0.setTop f0) t
theorem own_fldI {args : Array Value} {Z : State} {t : Term} {O n d : String} {a : Addr} {z : Int32} (ev : t.eval args Z none [] Z = some (.ref a)) (h : (Jvm.Cond.eq (Jvm.Term.field t O n d) (Jvm.Term.int z)).value args Z none Z [] = some true) : Fld Z Z.heap a O n d (.int z) := by
  refine Fld.start ?_
  rw [← fld_at (C := O) (n := n) (dd := d) ev]
  exact Cond.eq_int (show (Jvm.Cond.eq (Jvm.Term.field t O n d) (Jvm.Term.int z)).holds args Z none Z [] = true from Cond.before_iff.mpr h) rfl
theorem own_eqR {args : Array Value} {Z : State} {t u : Term} {b : Addr} (eu : u.eval args Z none [] Z = some (.ref b)) (h : (Jvm.Cond.eq t u).value args Z none Z [] = some true) : t.eval args Z none [] Z = some (.ref b) := by
  exact Cond.eq_refs (show (Jvm.Cond.eq t u).holds args Z none Z [] = true from Cond.before_iff.mpr h) eu rfl
def ofF (t1 t2 t3 t4 h1 h2 h3 h4 y : Addr) : Value := if t1 = y then .ref h1 else if t2 = y then .ref h2 else if t3 = y then .ref h3 else if t4 = y then .ref h4 else .null
theorem own_of1 {t1 t2 t3 t4 h1 h2 h3 h4 : Addr} (h : t1 ≠ t2 ∧ t1 ≠ t3 ∧ t1 ≠ t4 ∧ t2 ≠ t3 ∧ t2 ≠ t4 ∧ t3 ≠ t4) : ofF t1 t2 t3 t4 h1 h2 h3 h4 t1 = .ref h1 := by simp [ofF]
theorem own_of2 {t1 t2 t3 t4 h1 h2 h3 h4 : Addr} (h : t1 ≠ t2 ∧ t1 ≠ t3 ∧ t1 ≠ t4 ∧ t2 ≠ t3 ∧ t2 ≠ t4 ∧ t3 ≠ t4) : ofF t1 t2 t3 t4 h1 h2 h3 h4 t2 = .ref h2 := by simp [ofF, h]
theorem own_of3 {t1 t2 t3 t4 h1 h2 h3 h4 : Addr} (h : t1 ≠ t2 ∧ t1 ≠ t3 ∧ t1 ≠ t4 ∧ t2 ≠ t3 ∧ t2 ≠ t4 ∧ t3 ≠ t4) : ofF t1 t2 t3 t4 h1 h2 h3 h4 t3 = .ref h3 := by simp [ofF, h]
theorem own_of4 {t1 t2 t3 t4 h1 h2 h3 h4 : Addr} (h : t1 ≠ t2 ∧ t1 ≠ t3 ∧ t1 ≠ t4 ∧ t2 ≠ t3 ∧ t2 ≠ t4 ∧ t3 ≠ t4) : ofF t1 t2 t3 t4 h1 h2 h3 h4 t4 = .ref h4 := by simp [ofF, h]
theorem own_of0 {t1 t2 t3 t4 h1 h2 h3 h4 y : Addr} (h : t1 ≠ y ∧ t2 ≠ y ∧ t3 ≠ y ∧ t4 ≠ y) : ofF t1 t2 t3 t4 h1 h2 h3 h4 y = .null := by simp [ofF, h]
theorem own_fin (v : Int32) (n : Nat) (h0 : 0 ≤ v.toInt) (h1 : v.toInt < n) (hn : n ≤ 100000) : ∃ i : Fin n, v = Int32.ofNat i.1 := by
  refine ⟨⟨v.toInt.toNat, by omega⟩, ?_⟩
  apply Int32.toInt_inj.mp
  show _ = (Int32.ofNat v.toInt.toNat).toInt
  rw [toInt_of (n := Int32.ofNat v.toInt.toNat) rfl (by omega)]
  omega
theorem own_39 {j : Int32} (h1 : ¬ (j < (0 : Int32))) (h2 : j < (39 : Int32)) : j = (0 : Int32) ∨ j = (1 : Int32) ∨ j = (2 : Int32) ∨ j = (3 : Int32) ∨ j = (4 : Int32) ∨ j = (5 : Int32) ∨ j = (6 : Int32) ∨ j = (7 : Int32) ∨ j = (8 : Int32) ∨ j = (9 : Int32) ∨ j = (10 : Int32) ∨ j = (11 : Int32) ∨ j = (12 : Int32) ∨ j = (13 : Int32) ∨ j = (14 : Int32) ∨ j = (15 : Int32) ∨ j = (16 : Int32) ∨ j = (17 : Int32) ∨ j = (18 : Int32) ∨ j = (19 : Int32) ∨ j = (20 : Int32) ∨ j = (21 : Int32) ∨ j = (22 : Int32) ∨ j = (23 : Int32) ∨ j = (24 : Int32) ∨ j = (25 : Int32) ∨ j = (26 : Int32) ∨ j = (27 : Int32) ∨ j = (28 : Int32) ∨ j = (29 : Int32) ∨ j = (30 : Int32) ∨ j = (31 : Int32) ∨ j = (32 : Int32) ∨ j = (33 : Int32) ∨ j = (34 : Int32) ∨ j = (35 : Int32) ∨ j = (36 : Int32) ∨ j = (37 : Int32) ∨ j = (38 : Int32) := by
  rw [Int32.lt_iff_toInt_lt] at h1 h2
  have e0 : (0 : Int32).toInt = 0 := by decide
  have e1 : (39 : Int32).toInt = 39 := by decide
  obtain ⟨i, rfl⟩ := own_fin j 39 (by omega) (by omega) (by decide)
  clear h1 h2 e0 e1
  revert i
  decide
theorem own_idx (x : Int32) : ¬ (((x &&& (2147483647 : Int32)) % (39 : Int32)) < (0 : Int32)) ∧ ((x &&& (2147483647 : Int32)) % (39 : Int32)) < (39 : Int32) := by
  have h1 : 0 ≤ (x &&& (2147483647 : Int32)).toInt := (c_andS x (2147483647 : Int32)).2.2 (by decide)
  have h2 := (c_irem (x &&& (2147483647 : Int32)) (39 : Int32) 39 (by decide)).1 h1
  have e0 : (0 : Int32).toInt = 0 := by decide
  have e1 : (39 : Int32).toInt = 39 := by decide
  rw [Int32.lt_iff_toInt_lt, Int32.lt_iff_toInt_lt, h2, e0, e1]
  omega
theorem own_elR {args : Array Value} {Z : State} {t u : Term} {a b : Addr} {c : Cell} {i : Int32} {ty : FieldType} (ev : t.eval args Z none [] Z = some (.ref a)) (A : Arr Z Z.heap a c ty) (eu : u.eval args Z none [] Z = some (.ref b)) (h : (Jvm.Cond.eq (Jvm.Term.elem t (Jvm.Term.int i)) u).value args Z none Z [] = some true) (hi : ¬ i < 0 := by decide) : c.slots[i.toNatClampNeg]? = some (.ref b) := by
  have h1 := elem_f (a := Jvm.Term.int i) (o := none) (idx := []) (first := Z) ev rfl (A.fin (Vm.Alike.refl _)) hi
  rw [← h1]
  exact own_eqR eu h
theorem own_fldR {args : Array Value} {Z : State} {t u : Term} {O n d : String} {a b : Addr} (ev : t.eval args Z none [] Z = some (.ref a)) (eu : u.eval args Z none [] Z = some (.ref b)) (h : (Jvm.Cond.eq (Jvm.Term.field t O n d) u).value args Z none Z [] = some true) : Fld Z Z.heap a O n d (.ref b) := by
  refine Fld.start ?_
  rw [← fld_at (C := O) (n := n) (dd := d) ev]
  exact own_eqR eu h
theorem d1_0 : decode prog_12_method_5_code 0 = .ok (.getstatic 45, 3) := by decide +kernel
theorem d1_3 : decode prog_12_method_5_code 3 = .ok (.astore_n 1, 1) := by decide +kernel
theorem d1_4 : decode prog_12_method_5_code 4 = .ok (.aload_n 1, 1) := by decide +kernel
theorem d1_5 : decode prog_12_method_5_code 5 = .ok (.arraylength, 1) := by decide +kernel
theorem d1_6 : decode prog_12_method_5_code 6 = .ok (.istore_n 2, 1) := by decide +kernel
theorem d1_7 : decode prog_12_method_5_code 7 = .ok (.iconst 0, 1) := by decide +kernel
theorem d1_8 : decode prog_12_method_5_code 8 = .ok (.istore_n 3, 1) := by decide +kernel
theorem d1_9 : decode prog_12_method_5_code 9 = .ok (.iload_n 3, 1) := by decide +kernel
theorem d1_10 : decode prog_12_method_5_code 10 = .ok (.iload_n 2, 1) := by decide +kernel
theorem d1_11 : decode prog_12_method_5_code 11 = .ok (.if_icmp .ge 26, 3) := by decide +kernel
theorem d1_14 : decode prog_12_method_5_code 14 = .ok (.aload_n 1, 1) := by decide +kernel
theorem d1_15 : decode prog_12_method_5_code 15 = .ok (.iload_n 3, 1) := by decide +kernel
theorem d1_16 : decode prog_12_method_5_code 16 = .ok (.aaload, 1) := by decide +kernel
theorem d1_17 : decode prog_12_method_5_code 17 = .ok (.astore 4, 2) := by decide +kernel
theorem d1_19 : decode prog_12_method_5_code 19 = .ok (.aload 4, 2) := by decide +kernel
theorem d1_21 : decode prog_12_method_5_code 21 = .ok (.getfield 35, 3) := by decide +kernel
theorem d1_24 : decode prog_12_method_5_code 24 = .ok (.aload_n 0, 1) := by decide +kernel
theorem d1_25 : decode prog_12_method_5_code 25 = .ok (.if_acmp .ne 6, 3) := by decide +kernel
theorem d1_28 : decode prog_12_method_5_code 28 = .ok (.aload 4, 2) := by decide +kernel
theorem d1_30 : decode prog_12_method_5_code 30 = .ok (.areturn, 1) := by decide +kernel
theorem d1_31 : decode prog_12_method_5_code 31 = .ok (.iinc 3 1, 3) := by decide +kernel
theorem d1_34 : decode prog_12_method_5_code 34 = .ok (.goto (-25), 3) := by decide +kernel
theorem d1_37 : decode prog_12_method_5_code 37 = .ok (.aconst_null, 1) := by decide +kernel
theorem d1_38 : decode prog_12_method_5_code 38 = .ok (.areturn, 1) := by decide +kernel
theorem pn_1 : plainName "com/example/fourfold/fourfold/H" = true := by first | (simp [plainName, overriddenIn]; done) | decide +kernel
theorem ef_Of (m : MethodId) (a1 : Addr) : entryFrame m #[(.ref a1)] 5 = mkF m 0 #[.val (.ref a1), .unset, .unset, .unset, .unset] [] := by first | (simp [entryFrame, mkF, argsToLocals, Value.category]; done) | rfl
def QOf (Z : State) (a1 : Addr) (t1 : Addr) (t2 : Addr) (t3 : Addr) (t4 : Addr) (al : Addr) (ka : ClassId) (hA_ : Addr) (hB_ : Addr) (hC_ : Addr) (hD_ : Addr) (h0 : Heap) (n0 : Nat) (v : Option Value) (h : Heap) (L : List Loc) : Prop := v = some (ofF t1 t2 t3 t4 hA_ hB_ hC_ hD_ a1) ∧ Fr n0 L ∧ h = h0
set_option maxRecDepth 65536 in
set_option maxHeartbeats 40000000 in
theorem rmOf (l : Launch) (Z : State) (a0 : Array Value) (hw : ∀ d ∈ tables_1, d.before a0 Z = true) (ws : List Jvm.Cond) (a1 : Addr) (t1 : Addr) (t2 : Addr) (t3 : Addr) (t4 : Addr) (al : Addr) (ka : ClassId) (hA_ : Addr) (hB_ : Addr) (hC_ : Addr) (hD_ : Addr) (h0 : Heap) (n0 : Nat) (Z0 : n0 ≤ h0.size) (pr0 : Sta Z h0 "com/example/fourfold/fourfold/H" "ALL" "[Lcom/example/fourfold/fourfold/H;" (.ref al)) (pr1 : Arv Z h0 al ka (.object "com/example/fourfold/fourfold/H") (4 : Int32) [(.ref hA_), (.ref hB_), (.ref hC_), (.ref hD_)] .null) (pr2 : Fld Z h0 hA_ "com/example/fourfold/fourfold/H" "term" "Lcom/example/fourfold/fourfold/Term;" (.ref t1)) (pr3 : Fld Z h0 hB_ "com/example/fourfold/fourfold/H" "term" "Lcom/example/fourfold/fourfold/Term;" (.ref t2)) (pr4 : Fld Z h0 hC_ "com/example/fourfold/fourfold/H" "term" "Lcom/example/fourfold/fourfold/Term;" (.ref t3)) (pr5 : Fld Z h0 hD_ "com/example/fourfold/fourfold/H" "term" "Lcom/example/fourfold/fourfold/Term;" (.ref t4)) :
    MetFree l (⟨"com/example/fourfold/fourfold/H", "of", "(Lcom/example/fourfold/fourfold/Term;)Lcom/example/fourfold/fourfold/H;"⟩ : MethodName) (head1 (Jvm.Cond.code (⟨"com/example/fourfold/fourfold/H", "of", "(Lcom/example/fourfold/fourfold/Term;)Lcom/example/fourfold/fourfold/H;"⟩ : MethodName) prog_12_method_5_code 5 (some (.object "com/example/fourfold/fourfold/H")) :: ws) ({ frames := 0, cells := 0, slots := 0, locals := 0 } : Room)) (fun a U => a = #[(.ref a1)] ∧ Z.Warmed39 U.vm ∧ U.heap = h0) (fun _ _ _ _ _ => True) (fun _ U o U' => ∃ v L, o = .returned v ∧ QOf Z a1 t1 t2 t3 t4 al ka hA_ hB_ hC_ hD_ h0 n0 v U'.heap L ∧ FrameEnd U o U' L ({ frames := 0, cells := 0, slots := 0, locals := 0 } : Room).cells ({ frames := 0, cells := 0, slots := 0, locals := 0 } : Room).slots) := by
  refine MetFree.of_bodySF (plainFor_of_name pn_1) hisR ?_
  intro p e s m args below meth c s₁ Bd hml0 hP hK
  obtain ⟨rfl, hZ, hh⟩ := hP
  have hx := Bd.exec
  have hby := Bd.bytes
  have hml : c.maxLocals = 5 := hml0
  have hown : s.vm.findClass "com/example/fourfold/fourfold/H" = some m.cls := findClass_of_methodNamed Bd.named
  have hnm := (name_of_methodNamed Bd.named Bd.method).1
  have X0 : Stand p l e ({ frames := 0, cells := 0, slots := 0, locals := 0 } : Room) s m #[(.ref a1)] below meth c s₁ [] 0 0 := Stand.of_body Bd
  have hs0 : h0 = s.heap := hh.symm
  have e0 : s₁.heap = h0 := by rw [← hh, Bd.state]; rfl
  have N0 := Fr.nil n0
  obtain ⟨f0, hf0⟩ : ∃ f, f = entryFrame m #[(.ref a1)] 5 := ⟨_, rfl⟩
  have pre0 : ∀ t, Steps p.tables e below (s₁.setTop f0) t → Steps p.tables e below (s₁.setTop (entryFrame m #[(.ref a1)] 5)) t := fun t k => hf0 ▸ k
  have K0 : Gx p e below s₁ f0 s₁ (mkF m 0 #[.val (.ref a1), .unset, .unset, .unset, .unset] []) := fun t kt => by rw [hf0]; exact castTop (ef_Of m a1) kt
  obtain ⟨T1, X1, e1, st1⟩ := getS2 X0 hx hZ hown (host := "") (Or.inl (hw _ (List.mem_of_getElem? (i := 87) rfl))) Via.refl e0 pr0 (g := (mkF m 0 #[.val (.ref a1), .unset, .unset, .unset, .unset] [])) rfl (hb hby d1_0)
  have K2 : Gx p e below s₁ f0 T1 (mkF m 3 #[.val (.ref a1), .unset, .unset, .unset, .unset] [(.ref al)]) := fun t kt => K0 t (st1 t kt)
  obtain ⟨clq3, Arq3, ckq3, cSq3, cNq3, cHq3, cGq3⟩ := id pr1
  have K4 : Gx p e below s₁ f0 T1 (mkF m 21 #[.val (.ref a1), .val (.ref al), .val (.int (4 : Int32)), .val (.int (0 : Int32)), .val (.ref hA_)] [(.ref hA_)]) := fun t kt => K2 t (by
    show Steps p.tables e below (T1.setTop (mkF m 3 #[.val (.ref a1), .unset, .unset, .unset, .unset] [(.ref al)])) _
    refine XS.astoreN X1.here hx rfl (hb hby d1_3) rfl rfl (l' := #[.val (.ref a1), .val (.ref al), .unset, .unset, .unset]) rfl ?_
    show Steps p.tables e below (T1.setTop (mkF m 4 #[.val (.ref a1), .val (.ref al), .unset, .unset, .unset] [])) _
    refine XS.aloadN X1.here hx rfl (hb hby d1_4) rfl rfl ?_
    show Steps p.tables e below (T1.setTop (mkF m 5 #[.val (.ref a1), .val (.ref al), .unset, .unset, .unset] [(.ref al)])) _
    refine X1.arraylength hx (by rw [e1]; exact Arq3.1) (State.isArrayOf_alike hZ.alike Arq3.2.1) (g := (mkF m 5 #[.val (.ref a1), .val (.ref al), .unset, .unset, .unset] [(.ref al)])) rfl rfl (hb hby d1_5) _ ?_
    rw [len_of cSq3 cNq3]
    show Steps p.tables e below (T1.setTop (mkF m 6 #[.val (.ref a1), .val (.ref al), .unset, .unset, .unset] [(.int (4 : Int32))])) _
    refine XS.istoreN X1.here hx rfl (hb hby d1_6) rfl (l' := #[.val (.ref a1), .val (.ref al), .val (.int (4 : Int32)), .unset, .unset]) rfl ?_
    show Steps p.tables e below (T1.setTop (mkF m 7 #[.val (.ref a1), .val (.ref al), .val (.int (4 : Int32)), .unset, .unset] [])) _
    refine XS.iconst X1.here hx rfl (hb hby d1_7) ?_
    show Steps p.tables e below (T1.setTop (mkF m 8 #[.val (.ref a1), .val (.ref al), .val (.int (4 : Int32)), .unset, .unset] [(.int (0 : Int32))])) _
    refine XS.istoreN X1.here hx rfl (hb hby d1_8) rfl (l' := #[.val (.ref a1), .val (.ref al), .val (.int (4 : Int32)), .val (.int (0 : Int32)), .unset]) rfl ?_
    show Steps p.tables e below (T1.setTop (mkF m 9 #[.val (.ref a1), .val (.ref al), .val (.int (4 : Int32)), .val (.int (0 : Int32)), .unset] [])) _
    refine XS.iloadN X1.here hx rfl (hb hby d1_9) rfl ?_
    show Steps p.tables e below (T1.setTop (mkF m 10 #[.val (.ref a1), .val (.ref al), .val (.int (4 : Int32)), .val (.int (0 : Int32)), .unset] [(.int (0 : Int32))])) _
    refine XS.iloadN X1.here hx rfl (hb hby d1_10) rfl ?_
    show Steps p.tables e below (T1.setTop (mkF m 11 #[.val (.ref a1), .val (.ref al), .val (.int (4 : Int32)), .val (.int (0 : Int32)), .unset] [(.int (4 : Int32)), (.int (0 : Int32))])) _
    refine XS.icmpNo X1.here hx rfl (hb hby d1_11) rfl (tlt (by decide)).2.1 ?_
    show Steps p.tables e below (T1.setTop (mkF m 14 #[.val (.ref a1), .val (.ref al), .val (.int (4 : Int32)), .val (.int (0 : Int32)), .unset] [])) _
    refine XS.aloadN X1.here hx rfl (hb hby d1_14) rfl rfl ?_
    show Steps p.tables e below (T1.setTop (mkF m 15 #[.val (.ref a1), .val (.ref al), .val (.int (4 : Int32)), .val (.int (0 : Int32)), .unset] [(.ref al)])) _
    refine XS.iloadN X1.here hx rfl (hb hby d1_15) rfl ?_
    show Steps p.tables e below (T1.setTop (mkF m 16 #[.val (.ref a1), .val (.ref al), .val (.int (4 : Int32)), .val (.int (0 : Int32)), .unset] [(.int (0 : Int32)), (.ref al)])) _
    refine X1.aaload hx (j := (0 : Int32)) (v := (.ref hA_)) (by rw [e1]; exact Arq3.1) (State.isArrayOf_alike hZ.alike Arq3.2.1) rfl Arq3.2.2 (inb_of cSq3 ⟨by decide, by decide⟩) (Has.at cHq3 (inb_of cSq3 ⟨by decide, by decide⟩) rfl) (g := (mkF m 16 #[.val (.ref a1), .val (.ref al), .val (.int (4 : Int32)), .val (.int (0 : Int32)), .unset] [(.int (0 : Int32)), (.ref al)])) rfl rfl (hb hby d1_16) _ ?_
    show Steps p.tables e below (T1.setTop (mkF m 17 #[.val (.ref a1), .val (.ref al), .val (.int (4 : Int32)), .val (.int (0 : Int32)), .unset] [(.ref hA_)])) _
    refine XS.astore X1.here hx rfl (hb hby d1_17) rfl rfl (l' := #[.val (.ref a1), .val (.ref al), .val (.int (4 : Int32)), .val (.int (0 : Int32)), .val (.ref hA_)]) rfl ?_
    show Steps p.tables e below (T1.setTop (mkF m 19 #[.val (.ref a1), .val (.ref al), .val (.int (4 : Int32)), .val (.int (0 : Int32)), .val (.ref hA_)] [])) _
    refine XS.aload X1.here hx rfl (hb hby d1_19) rfl rfl ?_
    exact kt)
  obtain ⟨T5, X5, e5, st5⟩ := getF X1 hx hZ hown (host := "") (Or.inl (hw _ (List.mem_of_getElem? (i := 90) rfl))) Via.refl e1 pr2 (g := (mkF m 21 #[.val (.ref a1), .val (.ref al), .val (.int (4 : Int32)), .val (.int (0 : Int32)), .val (.ref hA_)] [(.ref hA_)])) rfl rfl (hb hby d1_21)
  have K6 : Gx p e below s₁ f0 T5 (mkF m 24 #[.val (.ref a1), .val (.ref al), .val (.int (4 : Int32)), .val (.int (0 : Int32)), .val (.ref hA_)] [(.ref t1)]) := fun t kt => K4 t (st5 t kt)
  have K7 : Gx p e below s₁ f0 T5 (mkF m 25 #[.val (.ref a1), .val (.ref al), .val (.int (4 : Int32)), .val (.int (0 : Int32)), .val (.ref hA_)] [(.ref a1), (.ref t1)]) := fun t kt => K6 t (by
    show Steps p.tables e below (T5.setTop (mkF m 24 #[.val (.ref a1), .val (.ref al), .val (.int (4 : Int32)), .val (.int (0 : Int32)), .val (.ref hA_)] [(.ref t1)])) _
    refine XS.aloadN X5.here hx rfl (hb hby d1_24) rfl rfl ?_
    exact kt)
  by_cases hb8 : t1 = a1
  · skip
    have K9 : Gx p e below s₁ f0 T5 (mkF m 30 #[.val (.ref a1), .val (.ref al), .val (.int (4 : Int32)), .val (.int (0 : Int32)), .val (.ref hA_)] [(.ref hA_)]) := fun t kt => K7 t (by
      show Steps p.tables e below (T5.setTop (mkF m 25 #[.val (.ref a1), .val (.ref al), .val (.int (4 : Int32)), .val (.int (0 : Int32)), .val (.ref hA_)] [(.ref a1), (.ref t1)])) _
      refine Jvm.RoadKit.acmp (g := (mkF m 25 #[.val (.ref a1), .val (.ref al), .val (.int (4 : Int32)), .val (.int (0 : Int32)), .val (.ref hA_)] [(.ref a1), (.ref t1)])) X5 hx rfl rfl rfl (pc0 := 25) (pc' := 28) (same := true) rfl (hb hby d1_25) rfl (decide_eq_true (congrArg Value.ref hb8)) (by decide) (by decide) ?_
      show Steps p.tables e below (T5.setTop (mkF m 28 #[.val (.ref a1), .val (.ref al), .val (.int (4 : Int32)), .val (.int (0 : Int32)), .val (.ref hA_)] [])) _
      refine XS.aload X5.here hx rfl (hb hby d1_28) rfl rfl ?_
      exact kt)
    obtain ⟨fs10, hr10, hrun10, hended10, hW10, hsame10⟩ := X5.leave (v := some (.ref hA_)) (fun h => by rw [Bd.returns] at h; cases h)
    refine ⟨_, _, pre0 _ (K9 _ ?_), hrun10, hended10, _, _, rfl, ?_, ⟨_, rfl⟩, hW10, hsame10.mono (by decide) (by decide)⟩
    · show Steps p.tables e below (T5.setTop (mkF m 30 #[.val (.ref a1), .val (.ref al), .val (.int (4 : Int32)), .val (.int (0 : Int32)), .val (.ref hA_)] [(.ref hA_)])) _
      jvm_step X5.here [X5.here.top, hx, (hb hby d1_30), X5.method', Bd.returns, Value.isRef, FieldType.isReference]
      first | (intro acts; rw [hr10 _ acts rfl rfl rfl]) | rw [hr10 _ _ rfl rfl rfl]
      exact Steps.refl _
    · show QOf Z a1 t1 t2 t3 t4 al ka hA_ hB_ hC_ hD_ h0 n0 _ T5.heap _
      rw [e5]
      exact ⟨(congrArg some (by simp only [ofF, if_pos hb8])), N0, rfl⟩
  · skip
    have K11 : Gx p e below s₁ f0 T5 (mkF m 21 #[.val (.ref a1), .val (.ref al), .val (.int (4 : Int32)), .val (.int (1 : Int32)), .val (.ref hB_)] [(.ref hB_)]) := fun t kt => K7 t (by
      show Steps p.tables e below (T5.setTop (mkF m 25 #[.val (.ref a1), .val (.ref al), .val (.int (4 : Int32)), .val (.int (0 : Int32)), .val (.ref hA_)] [(.ref a1), (.ref t1)])) _
      refine Jvm.RoadKit.acmp (g := (mkF m 25 #[.val (.ref a1), .val (.ref al), .val (.int (4 : Int32)), .val (.int (0 : Int32)), .val (.ref hA_)] [(.ref a1), (.ref t1)])) X5 hx rfl rfl rfl (pc0 := 25) (pc' := 31) (same := false) rfl (hb hby d1_25) rfl (decide_eq_false fun q => hb8 (Value.ref.inj q)) (by decide) (by decide) ?_
      show Steps p.tables e below (T5.setTop (mkF m 31 #[.val (.ref a1), .val (.ref al), .val (.int (4 : Int32)), .val (.int (0 : Int32)), .val (.ref hA_)] [])) _
      refine XS.iinc X5.here hx rfl (hb hby d1_31) rfl (l' := #[.val (.ref a1), .val (.ref al), .val (.int (4 : Int32)), .val (.int (1 : Int32)), .val (.ref hA_)]) rfl ?_
      show Steps p.tables e below (T5.setTop (mkF m 34 #[.val (.ref a1), .val (.ref al), .val (.int (4 : Int32)), .val (.int (1 : Int32)), .val (.ref hA_)] [])) _
      refine XS.goto X5.here hx rfl (pc0 := 34) (pc' := 9) rfl (hb hby d1_34) (by decide) (by decide) ?_
      show Steps p.tables e below (T5.setTop (mkF m 9 #[.val (.ref a1), .val (.ref al), .val (.int (4 : Int32)), .val (.int (1 : Int32)), .val (.ref hA_)] [])) _
      refine XS.iloadN X5.here hx rfl (hb hby d1_9) rfl ?_
      show Steps p.tables e below (T5.setTop (mkF m 10 #[.val (.ref a1), .val (.ref al), .val (.int (4 : Int32)), .val (.int (1 : Int32)), .val (.ref hA_)] [(.int (1 : Int32))])) _
      refine XS.iloadN X5.here hx rfl (hb hby d1_10) rfl ?_
      show Steps p.tables e below (T5.setTop (mkF m 11 #[.val (.ref a1), .val (.ref al), .val (.int (4 : Int32)), .val (.int (1 : Int32)), .val (.ref hA_)] [(.int (4 : Int32)), (.int (1 : Int32))])) _
      refine XS.icmpNo X5.here hx rfl (hb hby d1_11) rfl (tlt (by decide)).2.1 ?_
      show Steps p.tables e below (T5.setTop (mkF m 14 #[.val (.ref a1), .val (.ref al), .val (.int (4 : Int32)), .val (.int (1 : Int32)), .val (.ref hA_)] [])) _
      refine XS.aloadN X5.here hx rfl (hb hby d1_14) rfl rfl ?_
      show Steps p.tables e below (T5.setTop (mkF m 15 #[.val (.ref a1), .val (.ref al), .val (.int (4 : Int32)), .val (.int (1 : Int32)), .val (.ref hA_)] [(.ref al)])) _
      refine XS.iloadN X5.here hx rfl (hb hby d1_15) rfl ?_
      show Steps p.tables e below (T5.setTop (mkF m 16 #[.val (.ref a1), .val (.ref al), .val (.int (4 : Int32)), .val (.int (1 : Int32)), .val (.ref hA_)] [(.int (1 : Int32)), (.ref al)])) _
      refine X5.aaload hx (j := (1 : Int32)) (v := (.ref hB_)) (by rw [e5]; exact Arq3.1) (State.isArrayOf_alike hZ.alike Arq3.2.1) rfl Arq3.2.2 (inb_of cSq3 ⟨by decide, by decide⟩) (Has.at cHq3 (inb_of cSq3 ⟨by decide, by decide⟩) rfl) (g := (mkF m 16 #[.val (.ref a1), .val (.ref al), .val (.int (4 : Int32)), .val (.int (1 : Int32)), .val (.ref hA_)] [(.int (1 : Int32)), (.ref al)])) rfl rfl (hb hby d1_16) _ ?_
      show Steps p.tables e below (T5.setTop (mkF m 17 #[.val (.ref a1), .val (.ref al), .val (.int (4 : Int32)), .val (.int (1 : Int32)), .val (.ref hA_)] [(.ref hB_)])) _
      refine XS.astore X5.here hx rfl (hb hby d1_17) rfl rfl (l' := #[.val (.ref a1), .val (.ref al), .val (.int (4 : Int32)), .val (.int (1 : Int32)), .val (.ref hB_)]) rfl ?_
      show Steps p.tables e below (T5.setTop (mkF m 19 #[.val (.ref a1), .val (.ref al), .val (.int (4 : Int32)), .val (.int (1 : Int32)), .val (.ref hB_)] [])) _
      refine XS.aload X5.here hx rfl (hb hby d1_19) rfl rfl ?_
      exact kt)
    obtain ⟨T12, X12, e12, st12⟩ := getF X5 hx hZ hown (host := "") (Or.inl (hw _ (List.mem_of_getElem? (i := 90) rfl))) Via.refl e5 pr3 (g := (mkF m 21 #[.val (.ref a1), .val (.ref al), .val (.int (4 : Int32)), .val (.int (1 : Int32)), .val (.ref hB_)] [(.ref hB_)])) rfl rfl (hb hby d1_21)
    have K13 : Gx p e below s₁ f0 T12 (mkF m 24 #[.val (.ref a1), .val (.ref al), .val (.int (4 : Int32)), .val (.int (1 : Int32)), .val (.ref hB_)] [(.ref t2)]) := fun t kt => K11 t (st12 t kt)
    have K14 : Gx p e below s₁ f0 T12 (mkF m 25 #[.val (.ref a1), .val (.ref al), .val (.int (4 : Int32)), .val (.int (1 : Int32)), .val (.ref hB_)] [(.ref a1), (.ref t2)]) := fun t kt => K13 t (by
      show Steps p.tables e below (T12.setTop (mkF m 24 #[.val (.ref a1), .val (.ref al), .val (.int (4 : Int32)), .val (.int (1 : Int32)), .val (.ref hB_)] [(.ref t2)])) _
      refine XS.aloadN X12.here hx rfl (hb hby d1_24) rfl rfl ?_
      exact kt)
    by_cases hb15 : t2 = a1
    · skip
      have K16 : Gx p e below s₁ f0 T12 (mkF m 30 #[.val (.ref a1), .val (.ref al), .val (.int (4 : Int32)), .val (.int (1 : Int32)), .val (.ref hB_)] [(.ref hB_)]) := fun t kt => K14 t (by
        show Steps p.tables e below (T12.setTop (mkF m 25 #[.val (.ref a1), .val (.ref al), .val (.int (4 : Int32)), .val (.int (1 : Int32)), .val (.ref hB_)] [(.ref a1), (.ref t2)])) _
        refine Jvm.RoadKit.acmp (g := (mkF m 25 #[.val (.ref a1), .val (.ref al), .val (.int (4 : Int32)), .val (.int (1 : Int32)), .val (.ref hB_)] [(.ref a1), (.ref t2)])) X12 hx rfl rfl rfl (pc0 := 25) (pc' := 28) (same := true) rfl (hb hby d1_25) rfl (decide_eq_true (congrArg Value.ref hb15)) (by decide) (by decide) ?_
        show Steps p.tables e below (T12.setTop (mkF m 28 #[.val (.ref a1), .val (.ref al), .val (.int (4 : Int32)), .val (.int (1 : Int32)), .val (.ref hB_)] [])) _
        refine XS.aload X12.here hx rfl (hb hby d1_28) rfl rfl ?_
        exact kt)
      obtain ⟨fs17, hr17, hrun17, hended17, hW17, hsame17⟩ := X12.leave (v := some (.ref hB_)) (fun h => by rw [Bd.returns] at h; cases h)
      refine ⟨_, _, pre0 _ (K16 _ ?_), hrun17, hended17, _, _, rfl, ?_, ⟨_, rfl⟩, hW17, hsame17.mono (by decide) (by decide)⟩
      · show Steps p.tables e below (T12.setTop (mkF m 30 #[.val (.ref a1), .val (.ref al), .val (.int (4 : Int32)), .val (.int (1 : Int32)), .val (.ref hB_)] [(.ref hB_)])) _
        jvm_step X12.here [X12.here.top, hx, (hb hby d1_30), X12.method', Bd.returns, Value.isRef, FieldType.isReference]
        first | (intro acts; rw [hr17 _ acts rfl rfl rfl]) | rw [hr17 _ _ rfl rfl rfl]
        exact Steps.refl _
      · show QOf Z a1 t1 t2 t3 t4 al ka hA_ hB_ hC_ hD_ h0 n0 _ T12.heap _
        rw [e12]
        exact ⟨(congrArg some (by simp only [ofF, if_neg hb8, if_pos hb15])), N0, rfl⟩
    · skip
      have K18 : Gx p e below s₁ f0 T12 (mkF m 21 #[.val (.ref a1), .val (.ref al), .val (.int (4 : Int32)), .val (.int (2 : Int32)), .val (.ref hC_)] [(.ref hC_)]) := fun t kt => K14 t (by
        show Steps p.tables e below (T12.setTop (mkF m 25 #[.val (.ref a1), .val (.ref al), .val (.int (4 : Int32)), .val (.int (1 : Int32)), .val (.ref hB_)] [(.ref a1), (.ref t2)])) _
        refine Jvm.RoadKit.acmp (g := (mkF m 25 #[.val (.ref a1), .val (.ref al), .val (.int (4 : Int32)), .val (.int (1 : Int32)), .val (.ref hB_)] [(.ref a1), (.ref t2)])) X12 hx rfl rfl rfl (pc0 := 25) (pc' := 31) (same := false) rfl (hb hby d1_25) rfl (decide_eq_false fun q => hb15 (Value.ref.inj q)) (by decide) (by decide) ?_
        show Steps p.tables e below (T12.setTop (mkF m 31 #[.val (.ref a1), .val (.ref al), .val (.int (4 : Int32)), .val (.int (1 : Int32)), .val (.ref hB_)] [])) _
        refine XS.iinc X12.here hx rfl (hb hby d1_31) rfl (l' := #[.val (.ref a1), .val (.ref al), .val (.int (4 : Int32)), .val (.int (2 : Int32)), .val (.ref hB_)]) rfl ?_
        show Steps p.tables e below (T12.setTop (mkF m 34 #[.val (.ref a1), .val (.ref al), .val (.int (4 : Int32)), .val (.int (2 : Int32)), .val (.ref hB_)] [])) _
        refine XS.goto X12.here hx rfl (pc0 := 34) (pc' := 9) rfl (hb hby d1_34) (by decide) (by decide) ?_
        show Steps p.tables e below (T12.setTop (mkF m 9 #[.val (.ref a1), .val (.ref al), .val (.int (4 : Int32)), .val (.int (2 : Int32)), .val (.ref hB_)] [])) _
        refine XS.iloadN X12.here hx rfl (hb hby d1_9) rfl ?_
        show Steps p.tables e below (T12.setTop (mkF m 10 #[.val (.ref a1), .val (.ref al), .val (.int (4 : Int32)), .val (.int (2 : Int32)), .val (.ref hB_)] [(.int (2 : Int32))])) _
        refine XS.iloadN X12.here hx rfl (hb hby d1_10) rfl ?_
        show Steps p.tables e below (T12.setTop (mkF m 11 #[.val (.ref a1), .val (.ref al), .val (.int (4 : Int32)), .val (.int (2 : Int32)), .val (.ref hB_)] [(.int (4 : Int32)), (.int (2 : Int32))])) _
        refine XS.icmpNo X12.here hx rfl (hb hby d1_11) rfl (tlt (by decide)).2.1 ?_
        show Steps p.tables e below (T12.setTop (mkF m 14 #[.val (.ref a1), .val (.ref al), .val (.int (4 : Int32)), .val (.int (2 : Int32)), .val (.ref hB_)] [])) _
        refine XS.aloadN X12.here hx rfl (hb hby d1_14) rfl rfl ?_
        show Steps p.tables e below (T12.setTop (mkF m 15 #[.val (.ref a1), .val (.ref al), .val (.int (4 : Int32)), .val (.int (2 : Int32)), .val (.ref hB_)] [(.ref al)])) _
        refine XS.iloadN X12.here hx rfl (hb hby d1_15) rfl ?_
        show Steps p.tables e below (T12.setTop (mkF m 16 #[.val (.ref a1), .val (.ref al), .val (.int (4 : Int32)), .val (.int (2 : Int32)), .val (.ref hB_)] [(.int (2 : Int32)), (.ref al)])) _
        refine X12.aaload hx (j := (2 : Int32)) (v := (.ref hC_)) (by rw [e12]; exact Arq3.1) (State.isArrayOf_alike hZ.alike Arq3.2.1) rfl Arq3.2.2 (inb_of cSq3 ⟨by decide, by decide⟩) (Has.at cHq3 (inb_of cSq3 ⟨by decide, by decide⟩) rfl) (g := (mkF m 16 #[.val (.ref a1), .val (.ref al), .val (.int (4 : Int32)), .val (.int (2 : Int32)), .val (.ref hB_)] [(.int (2 : Int32)), (.ref al)])) rfl rfl (hb hby d1_16) _ ?_
        show Steps p.tables e below (T12.setTop (mkF m 17 #[.val (.ref a1), .val (.ref al), .val (.int (4 : Int32)), .val (.int (2 : Int32)), .val (.ref hB_)] [(.ref hC_)])) _
        refine XS.astore X12.here hx rfl (hb hby d1_17) rfl rfl (l' := #[.val (.ref a1), .val (.ref al), .val (.int (4 : Int32)), .val (.int (2 : Int32)), .val (.ref hC_)]) rfl ?_
        show Steps p.tables e below (T12.setTop (mkF m 19 #[.val (.ref a1), .val (.ref al), .val (.int (4 : Int32)), .val (.int (2 : Int32)), .val (.ref hC_)] [])) _
        refine XS.aload X12.here hx rfl (hb hby d1_19) rfl rfl ?_
        exact kt)
      obtain ⟨T19, X19, e19, st19⟩ := getF X12 hx hZ hown (host := "") (Or.inl (hw _ (List.mem_of_getElem? (i := 90) rfl))) Via.refl e12 pr4 (g := (mkF m 21 #[.val (.ref a1), .val (.ref al), .val (.int (4 : Int32)), .val (.int (2 : Int32)), .val (.ref hC_)] [(.ref hC_)])) rfl rfl (hb hby d1_21)
      have K20 : Gx p e below s₁ f0 T19 (mkF m 24 #[.val (.ref a1), .val (.ref al), .val (.int (4 : Int32)), .val (.int (2 : Int32)), .val (.ref hC_)] [(.ref t3)]) := fun t kt => K18 t (st19 t kt)
      have K21 : Gx p e below s₁ f0 T19 (mkF m 25 #[.val (.ref a1), .val (.ref al), .val (.int (4 : Int32)), .val (.int (2 : Int32)), .val (.ref hC_)] [(.ref a1), (.ref t3)]) := fun t kt => K20 t (by
        show Steps p.tables e below (T19.setTop (mkF m 24 #[.val (.ref a1), .val (.ref al), .val (.int (4 : Int32)), .val (.int (2 : Int32)), .val (.ref hC_)] [(.ref t3)])) _
        refine XS.aloadN X19.here hx rfl (hb hby d1_24) rfl rfl ?_
        exact kt)
      by_cases hb22 : t3 = a1
      · skip
        have K23 : Gx p e below s₁ f0 T19 (mkF m 30 #[.val (.ref a1), .val (.ref al), .val (.int (4 : Int32)), .val (.int (2 : Int32)), .val (.ref hC_)] [(.ref hC_)]) := fun t kt => K21 t (by
          show Steps p.tables e below (T19.setTop (mkF m 25 #[.val (.ref a1), .val (.ref al), .val (.int (4 : Int32)), .val (.int (2 : Int32)), .val (.ref hC_)] [(.ref a1), (.ref t3)])) _
          refine Jvm.RoadKit.acmp (g := (mkF m 25 #[.val (.ref a1), .val (.ref al), .val (.int (4 : Int32)), .val (.int (2 : Int32)), .val (.ref hC_)] [(.ref a1), (.ref t3)])) X19 hx rfl rfl rfl (pc0 := 25) (pc' := 28) (same := true) rfl (hb hby d1_25) rfl (decide_eq_true (congrArg Value.ref hb22)) (by decide) (by decide) ?_
          show Steps p.tables e below (T19.setTop (mkF m 28 #[.val (.ref a1), .val (.ref al), .val (.int (4 : Int32)), .val (.int (2 : Int32)), .val (.ref hC_)] [])) _
          refine XS.aload X19.here hx rfl (hb hby d1_28) rfl rfl ?_
          exact kt)
        obtain ⟨fs24, hr24, hrun24, hended24, hW24, hsame24⟩ := X19.leave (v := some (.ref hC_)) (fun h => by rw [Bd.returns] at h; cases h)
        refine ⟨_, _, pre0 _ (K23 _ ?_), hrun24, hended24, _, _, rfl, ?_, ⟨_, rfl⟩, hW24, hsame24.mono (by decide) (by decide)⟩
        · show Steps p.tables e below (T19.setTop (mkF m 30 #[.val (.ref a1), .val (.ref al), .val (.int (4 : Int32)), .val (.int (2 : Int32)), .val (.ref hC_)] [(.ref hC_)])) _
          jvm_step X19.here [X19.here.top, hx, (hb hby d1_30), X19.method', Bd.returns, Value.isRef, FieldType.isReference]
          first | (intro acts; rw [hr24 _ acts rfl rfl rfl]) | rw [hr24 _ _ rfl rfl rfl]
          exact Steps.refl _
        · show QOf Z a1 t1 t2 t3 t4 al ka hA_ hB_ hC_ hD_ h0 n0 _ T19.heap _
          rw [e19]
          exact ⟨(congrArg some (by simp only [ofF, if_neg hb8, if_neg hb15, if_pos hb22])), N0, rfl⟩
      · skip
        have K25 : Gx p e below s₁ f0 T19 (mkF m 21 #[.val (.ref a1), .val (.ref al), .val (.int (4 : Int32)), .val (.int (3 : Int32)), .val (.ref hD_)] [(.ref hD_)]) := fun t kt => K21 t (by
          show Steps p.tables e below (T19.setTop (mkF m 25 #[.val (.ref a1), .val (.ref al), .val (.int (4 : Int32)), .val (.int (2 : Int32)), .val (.ref hC_)] [(.ref a1), (.ref t3)])) _
          refine Jvm.RoadKit.acmp (g := (mkF m 25 #[.val (.ref a1), .val (.ref al), .val (.int (4 : Int32)), .val (.int (2 : Int32)), .val (.ref hC_)] [(.ref a1), (.ref t3)])) X19 hx rfl rfl rfl (pc0 := 25) (pc' := 31) (same := false) rfl (hb hby d1_25) rfl (decide_eq_false fun q => hb22 (Value.ref.inj q)) (by decide) (by decide) ?_
          show Steps p.tables e below (T19.setTop (mkF m 31 #[.val (.ref a1), .val (.ref al), .val (.int (4 : Int32)), .val (.int (2 : Int32)), .val (.ref hC_)] [])) _
          refine XS.iinc X19.here hx rfl (hb hby d1_31) rfl (l' := #[.val (.ref a1), .val (.ref al), .val (.int (4 : Int32)), .val (.int (3 : Int32)), .val (.ref hC_)]) rfl ?_
          show Steps p.tables e below (T19.setTop (mkF m 34 #[.val (.ref a1), .val (.ref al), .val (.int (4 : Int32)), .val (.int (3 : Int32)), .val (.ref hC_)] [])) _
          refine XS.goto X19.here hx rfl (pc0 := 34) (pc' := 9) rfl (hb hby d1_34) (by decide) (by decide) ?_
          show Steps p.tables e below (T19.setTop (mkF m 9 #[.val (.ref a1), .val (.ref al), .val (.int (4 : Int32)), .val (.int (3 : Int32)), .val (.ref hC_)] [])) _
          refine XS.iloadN X19.here hx rfl (hb hby d1_9) rfl ?_
          show Steps p.tables e below (T19.setTop (mkF m 10 #[.val (.ref a1), .val (.ref al), .val (.int (4 : Int32)), .val (.int (3 : Int32)), .val (.ref hC_)] [(.int (3 : Int32))])) _
          refine XS.iloadN X19.here hx rfl (hb hby d1_10) rfl ?_
          show Steps p.tables e below (T19.setTop (mkF m 11 #[.val (.ref a1), .val (.ref al), .val (.int (4 : Int32)), .val (.int (3 : Int32)), .val (.ref hC_)] [(.int (4 : Int32)), (.int (3 : Int32))])) _
          refine XS.icmpNo X19.here hx rfl (hb hby d1_11) rfl (tlt (by decide)).2.1 ?_
          show Steps p.tables e below (T19.setTop (mkF m 14 #[.val (.ref a1), .val (.ref al), .val (.int (4 : Int32)), .val (.int (3 : Int32)), .val (.ref hC_)] [])) _
          refine XS.aloadN X19.here hx rfl (hb hby d1_14) rfl rfl ?_
          show Steps p.tables e below (T19.setTop (mkF m 15 #[.val (.ref a1), .val (.ref al), .val (.int (4 : Int32)), .val (.int (3 : Int32)), .val (.ref hC_)] [(.ref al)])) _
          refine XS.iloadN X19.here hx rfl (hb hby d1_15) rfl ?_
          show Steps p.tables e below (T19.setTop (mkF m 16 #[.val (.ref a1), .val (.ref al), .val (.int (4 : Int32)), .val (.int (3 : Int32)), .val (.ref hC_)] [(.int (3 : Int32)), (.ref al)])) _
          refine X19.aaload hx (j := (3 : Int32)) (v := (.ref hD_)) (by rw [e19]; exact Arq3.1) (State.isArrayOf_alike hZ.alike Arq3.2.1) rfl Arq3.2.2 (inb_of cSq3 ⟨by decide, by decide⟩) (Has.at cHq3 (inb_of cSq3 ⟨by decide, by decide⟩) rfl) (g := (mkF m 16 #[.val (.ref a1), .val (.ref al), .val (.int (4 : Int32)), .val (.int (3 : Int32)), .val (.ref hC_)] [(.int (3 : Int32)), (.ref al)])) rfl rfl (hb hby d1_16) _ ?_
          show Steps p.tables e below (T19.setTop (mkF m 17 #[.val (.ref a1), .val (.ref al), .val (.int (4 : Int32)), .val (.int (3 : Int32)), .val (.ref hC_)] [(.ref hD_)])) _
          refine XS.astore X19.here hx rfl (hb hby d1_17) rfl rfl (l' := #[.val (.ref a1), .val (.ref al), .val (.int (4 : Int32)), .val (.int (3 : Int32)), .val (.ref hD_)]) rfl ?_
          show Steps p.tables e below (T19.setTop (mkF m 19 #[.val (.ref a1), .val (.ref al), .val (.int (4 : Int32)), .val (.int (3 : Int32)), .val (.ref hD_)] [])) _
          refine XS.aload X19.here hx rfl (hb hby d1_19) rfl rfl ?_
          exact kt)
        obtain ⟨T26, X26, e26, st26⟩ := getF X19 hx hZ hown (host := "") (Or.inl (hw _ (List.mem_of_getElem? (i := 90) rfl))) Via.refl e19 pr5 (g := (mkF m 21 #[.val (.ref a1), .val (.ref al), .val (.int (4 : Int32)), .val (.int (3 : Int32)), .val (.ref hD_)] [(.ref hD_)])) rfl rfl (hb hby d1_21)
        have K27 : Gx p e below s₁ f0 T26 (mkF m 24 #[.val (.ref a1), .val (.ref al), .val (.int (4 : Int32)), .val (.int (3 : Int32)), .val (.ref hD_)] [(.ref t4)]) := fun t kt => K25 t (st26 t kt)
        have K28 : Gx p e below s₁ f0 T26 (mkF m 25 #[.val (.ref a1), .val (.ref al), .val (.int (4 : Int32)), .val (.int (3 : Int32)), .val (.ref hD_)] [(.ref a1), (.ref t4)]) := fun t kt => K27 t (by
          show Steps p.tables e below (T26.setTop (mkF m 24 #[.val (.ref a1), .val (.ref al), .val (.int (4 : Int32)), .val (.int (3 : Int32)), .val (.ref hD_)] [(.ref t4)])) _
          refine XS.aloadN X26.here hx rfl (hb hby d1_24) rfl rfl ?_
          exact kt)
        by_cases hb29 : t4 = a1
        · skip
          have K30 : Gx p e below s₁ f0 T26 (mkF m 30 #[.val (.ref a1), .val (.ref al), .val (.int (4 : Int32)), .val (.int (3 : Int32)), .val (.ref hD_)] [(.ref hD_)]) := fun t kt => K28 t (by
            show Steps p.tables e below (T26.setTop (mkF m 25 #[.val (.ref a1), .val (.ref al), .val (.int (4 : Int32)), .val (.int (3 : Int32)), .val (.ref hD_)] [(.ref a1), (.ref t4)])) _
            refine Jvm.RoadKit.acmp (g := (mkF m 25 #[.val (.ref a1), .val (.ref al), .val (.int (4 : Int32)), .val (.int (3 : Int32)), .val (.ref hD_)] [(.ref a1), (.ref t4)])) X26 hx rfl rfl rfl (pc0 := 25) (pc' := 28) (same := true) rfl (hb hby d1_25) rfl (decide_eq_true (congrArg Value.ref hb29)) (by decide) (by decide) ?_
            show Steps p.tables e below (T26.setTop (mkF m 28 #[.val (.ref a1), .val (.ref al), .val (.int (4 : Int32)), .val (.int (3 : Int32)), .val (.ref hD_)] [])) _
            refine XS.aload X26.here hx rfl (hb hby d1_28) rfl rfl ?_
            exact kt)
          obtain ⟨fs31, hr31, hrun31, hended31, hW31, hsame31⟩ := X26.leave (v := some (.ref hD_)) (fun h => by rw [Bd.returns] at h; cases h)
          refine ⟨_, _, pre0 _ (K30 _ ?_), hrun31, hended31, _, _, rfl, ?_, ⟨_, rfl⟩, hW31, hsame31.mono (by decide) (by decide)⟩
          · show Steps p.tables e below (T26.setTop (mkF m 30 #[.val (.ref a1), .val (.ref al), .val (.int (4 : Int32)), .val (.int (3 : Int32)), .val (.ref hD_)] [(.ref hD_)])) _
            jvm_step X26.here [X26.here.top, hx, (hb hby d1_30), X26.method', Bd.returns, Value.isRef, FieldType.isReference]
            first | (intro acts; rw [hr31 _ acts rfl rfl rfl]) | rw [hr31 _ _ rfl rfl rfl]
            exact Steps.refl _
          · show QOf Z a1 t1 t2 t3 t4 al ka hA_ hB_ hC_ hD_ h0 n0 _ T26.heap _
            rw [e26]
            exact ⟨(congrArg some (by simp only [ofF, if_neg hb8, if_neg hb15, if_neg hb22, if_pos hb29])), N0, rfl⟩
        · skip
          have K32 : Gx p e below s₁ f0 T26 (mkF m 38 #[.val (.ref a1), .val (.ref al), .val (.int (4 : Int32)), .val (.int (4 : Int32)), .val (.ref hD_)] [.null]) := fun t kt => K28 t (by
            show Steps p.tables e below (T26.setTop (mkF m 25 #[.val (.ref a1), .val (.ref al), .val (.int (4 : Int32)), .val (.int (3 : Int32)), .val (.ref hD_)] [(.ref a1), (.ref t4)])) _
            refine Jvm.RoadKit.acmp (g := (mkF m 25 #[.val (.ref a1), .val (.ref al), .val (.int (4 : Int32)), .val (.int (3 : Int32)), .val (.ref hD_)] [(.ref a1), (.ref t4)])) X26 hx rfl rfl rfl (pc0 := 25) (pc' := 31) (same := false) rfl (hb hby d1_25) rfl (decide_eq_false fun q => hb29 (Value.ref.inj q)) (by decide) (by decide) ?_
            show Steps p.tables e below (T26.setTop (mkF m 31 #[.val (.ref a1), .val (.ref al), .val (.int (4 : Int32)), .val (.int (3 : Int32)), .val (.ref hD_)] [])) _
            refine XS.iinc X26.here hx rfl (hb hby d1_31) rfl (l' := #[.val (.ref a1), .val (.ref al), .val (.int (4 : Int32)), .val (.int (4 : Int32)), .val (.ref hD_)]) rfl ?_
            show Steps p.tables e below (T26.setTop (mkF m 34 #[.val (.ref a1), .val (.ref al), .val (.int (4 : Int32)), .val (.int (4 : Int32)), .val (.ref hD_)] [])) _
            refine XS.goto X26.here hx rfl (pc0 := 34) (pc' := 9) rfl (hb hby d1_34) (by decide) (by decide) ?_
            show Steps p.tables e below (T26.setTop (mkF m 9 #[.val (.ref a1), .val (.ref al), .val (.int (4 : Int32)), .val (.int (4 : Int32)), .val (.ref hD_)] [])) _
            refine XS.iloadN X26.here hx rfl (hb hby d1_9) rfl ?_
            show Steps p.tables e below (T26.setTop (mkF m 10 #[.val (.ref a1), .val (.ref al), .val (.int (4 : Int32)), .val (.int (4 : Int32)), .val (.ref hD_)] [(.int (4 : Int32))])) _
            refine XS.iloadN X26.here hx rfl (hb hby d1_10) rfl ?_
            show Steps p.tables e below (T26.setTop (mkF m 11 #[.val (.ref a1), .val (.ref al), .val (.int (4 : Int32)), .val (.int (4 : Int32)), .val (.ref hD_)] [(.int (4 : Int32)), (.int (4 : Int32))])) _
            refine XS.icmpYes X26.here hx rfl (pc0 := 11) (pc' := 37) rfl (hb hby d1_11) rfl (flt (by decide)).2.1 (by decide) (by decide) ?_
            show Steps p.tables e below (T26.setTop (mkF m 37 #[.val (.ref a1), .val (.ref al), .val (.int (4 : Int32)), .val (.int (4 : Int32)), .val (.ref hD_)] [])) _
            refine XS.aconstNull X26.here hx rfl (hb hby d1_37) ?_
            exact kt)
          obtain ⟨fs33, hr33, hrun33, hended33, hW33, hsame33⟩ := X26.leave (v := some .null) (fun h => by rw [Bd.returns] at h; cases h)
          refine ⟨_, _, pre0 _ (K32 _ ?_), hrun33, hended33, _, _, rfl, ?_, ⟨_, rfl⟩, hW33, hsame33.mono (by decide) (by decide)⟩
          · show Steps p.tables e below (T26.setTop (mkF m 38 #[.val (.ref a1), .val (.ref al), .val (.int (4 : Int32)), .val (.int (4 : Int32)), .val (.ref hD_)] [.null])) _
            jvm_step X26.here [X26.here.top, hx, (hb hby d1_38), X26.method', Bd.returns, Value.isRef, FieldType.isReference]
            first | (intro acts; rw [hr33 _ acts rfl rfl rfl]) | rw [hr33 _ _ rfl rfl rfl]
            exact Steps.refl _
          · show QOf Z a1 t1 t2 t3 t4 al ka hA_ hB_ hC_ hD_ h0 n0 _ T26.heap _
            rw [e26]
            exact ⟨(congrArg some (by simp only [ofF, if_neg hb8, if_neg hb15, if_neg hb22, if_neg hb29])), N0, rfl⟩
theorem pn_0 : plainName "com/example/fourfold/fourfold/HOfPinLaw" = true := by first | (simp [plainName, overriddenIn]; done) | decide +kernel
theorem pd__Lcom_example_fourfold_fourfold_Term__Lcom_example_fourfold_fourfold_H_ : parseMethodDescriptor "(Lcom/example/fourfold/fourfold/Term;)Lcom/example/fourfold/fourfold/H;" = some ⟨[(.object "com/example/fourfold/fourfold/Term")], some (.object "com/example/fourfold/fourfold/H")⟩ := by decide +kernel
theorem ef_0 (m : MethodId) (p1 : Int32) : entryFrame m #[(.int p1)] maxLocals = mkF m 0 #[.val (.int p1), .unset, .unset, .unset, .unset, .unset] [] := by first | (simp [entryFrame, mkF, argsToLocals, Value.category, maxLocals]; done) | rfl
def Q0 (Z : State) (p1 : Int32) (t0 : Addr) (t1 : Addr) (t2 : Addr) (t3 : Addr) (t4 : Addr) (t5 : Addr) (t6 : Addr) (t7 : Addr) (t8 : Addr) (t9 : Addr) (t10 : Addr) (t11 : Addr) (t12 : Addr) (t13 : Addr) (t14 : Addr) (t15 : Addr) (t16 : Addr) (t17 : Addr) (t18 : Addr) (t19 : Addr) (t20 : Addr) (t21 : Addr) (t22 : Addr) (t23 : Addr) (t24 : Addr) (t25 : Addr) (t26 : Addr) (t27 : Addr) (t28 : Addr) (t29 : Addr) (t30 : Addr) (t31 : Addr) (t32 : Addr) (t33 : Addr) (t34 : Addr) (t35 : Addr) (t36 : Addr) (t37 : Addr) (t38 : Addr) (al : Addr) (ka : ClassId) (hA_ : Addr) (hB_ : Addr) (hC_ : Addr) (hD_ : Addr) (h0 : Heap) (n0 : Nat) (v : Option Value) (h : Heap) (L : List Loc) : Prop := v = some (.int (1 : Int32)) ∧ Fr n0 L
set_option maxRecDepth 65536 in
set_option maxHeartbeats 40000000 in
theorem rm0 (l : Launch) (Z : State) (a0 : Array Value) (hw : ∀ d ∈ tables_1, d.before a0 Z = true) (ws : List Jvm.Cond) (p1 : Int32) (t0 : Addr) (t1 : Addr) (t2 : Addr) (t3 : Addr) (t4 : Addr) (t5 : Addr) (t6 : Addr) (t7 : Addr) (t8 : Addr) (t9 : Addr) (t10 : Addr) (t11 : Addr) (t12 : Addr) (t13 : Addr) (t14 : Addr) (t15 : Addr) (t16 : Addr) (t17 : Addr) (t18 : Addr) (t19 : Addr) (t20 : Addr) (t21 : Addr) (t22 : Addr) (t23 : Addr) (t24 : Addr) (t25 : Addr) (t26 : Addr) (t27 : Addr) (t28 : Addr) (t29 : Addr) (t30 : Addr) (t31 : Addr) (t32 : Addr) (t33 : Addr) (t34 : Addr) (t35 : Addr) (t36 : Addr) (t37 : Addr) (t38 : Addr) (al : Addr) (ka : ClassId) (hA_ : Addr) (hB_ : Addr) (hC_ : Addr) (hD_ : Addr) (h0 : Heap) (n0 : Nat) (Z0 : n0 ≤ h0.size) (pr0 : Old Z n0 h0) (pr1 : Sta Z Z.heap "com/example/fourfold/fourfold/Term" "ERC" "Lcom/example/fourfold/fourfold/Term;" (.ref t0)) (pr2 : Sta Z Z.heap "com/example/fourfold/fourfold/Term" "WHO" "Lcom/example/fourfold/fourfold/Term;" (.ref t1)) (pr3 : Sta Z Z.heap "com/example/fourfold/fourfold/Term" "WHAT" "Lcom/example/fourfold/fourfold/Term;" (.ref t2)) (pr4 : Sta Z Z.heap "com/example/fourfold/fourfold/Term" "WHEN" "Lcom/example/fourfold/fourfold/Term;" (.ref t3)) (pr5 : Sta Z Z.heap "com/example/fourfold/fourfold/Term" "WHERE" "Lcom/example/fourfold/fourfold/Term;" (.ref t4)) (pr6 : Sta Z Z.heap "com/example/fourfold/fourfold/Term" "HOW" "Lcom/example/fourfold/fourfold/Term;" (.ref t5)) (pr7 : Sta Z Z.heap "com/example/fourfold/fourfold/Term" "ABOUT_ERC" "Lcom/example/fourfold/fourfold/Term;" (.ref t6)) (pr8 : Sta Z Z.heap "com/example/fourfold/fourfold/Term" "ABOUT_WHO" "Lcom/example/fourfold/fourfold/Term;" (.ref t7)) (pr9 : Sta Z Z.heap "com/example/fourfold/fourfold/Term" "ABOUT_WHAT" "Lcom/example/fourfold/fourfold/Term;" (.ref t8)) (pr10 : Sta Z Z.heap "com/example/fourfold/fourfold/Term" "ABOUT_WHEN" "Lcom/example/fourfold/fourfold/Term;" (.ref t9)) (pr11 : Sta Z Z.heap "com/example/fourfold/fourfold/Term" "ABOUT_WHERE" "Lcom/example/fourfold/fourfold/Term;" (.ref t10)) (pr12 : Sta Z Z.heap "com/example/fourfold/fourfold/Term" "ABOUT_HOW" "Lcom/example/fourfold/fourfold/Term;" (.ref t11)) (pr13 : Sta Z Z.heap "com/example/fourfold/fourfold/Term" "SUPPORT_ERC" "Lcom/example/fourfold/fourfold/Term;" (.ref t12)) (pr14 : Sta Z Z.heap "com/example/fourfold/fourfold/Term" "SUPPORT_WHO" "Lcom/example/fourfold/fourfold/Term;" (.ref t13)) (pr15 : Sta Z Z.heap "com/example/fourfold/fourfold/Term" "SUPPORT_WHAT" "Lcom/example/fourfold/fourfold/Term;" (.ref t14)) (pr16 : Sta Z Z.heap "com/example/fourfold/fourfold/Term" "SUPPORT_WHEN" "Lcom/example/fourfold/fourfold/Term;" (.ref t15)) (pr17 : Sta Z Z.heap "com/example/fourfold/fourfold/Term" "SUPPORT_WHERE" "Lcom/example/fourfold/fourfold/Term;" (.ref t16)) (pr18 : Sta Z Z.heap "com/example/fourfold/fourfold/Term" "META_ERC" "Lcom/example/fourfold/fourfold/Term;" (.ref t17)) (pr19 : Sta Z Z.heap "com/example/fourfold/fourfold/Term" "META_WHO" "Lcom/example/fourfold/fourfold/Term;" (.ref t18)) (pr20 : Sta Z Z.heap "com/example/fourfold/fourfold/Term" "META_WHAT" "Lcom/example/fourfold/fourfold/Term;" (.ref t19)) (pr21 : Sta Z Z.heap "com/example/fourfold/fourfold/Term" "META_WHEN" "Lcom/example/fourfold/fourfold/Term;" (.ref t20)) (pr22 : Sta Z Z.heap "com/example/fourfold/fourfold/Term" "META_WHERE" "Lcom/example/fourfold/fourfold/Term;" (.ref t21)) (pr23 : Sta Z Z.heap "com/example/fourfold/fourfold/Term" "TITLE" "Lcom/example/fourfold/fourfold/Term;" (.ref t22)) (pr24 : Sta Z Z.heap "com/example/fourfold/fourfold/Term" "CREATOR" "Lcom/example/fourfold/fourfold/Term;" (.ref t23)) (pr25 : Sta Z Z.heap "com/example/fourfold/fourfold/Term" "SUBJECT" "Lcom/example/fourfold/fourfold/Term;" (.ref t24)) (pr26 : Sta Z Z.heap "com/example/fourfold/fourfold/Term" "DESCRIPTION" "Lcom/example/fourfold/fourfold/Term;" (.ref t25)) (pr27 : Sta Z Z.heap "com/example/fourfold/fourfold/Term" "PUBLISHER" "Lcom/example/fourfold/fourfold/Term;" (.ref t26)) (pr28 : Sta Z Z.heap "com/example/fourfold/fourfold/Term" "CONTRIBUTOR" "Lcom/example/fourfold/fourfold/Term;" (.ref t27)) (pr29 : Sta Z Z.heap "com/example/fourfold/fourfold/Term" "DATE" "Lcom/example/fourfold/fourfold/Term;" (.ref t28)) (pr30 : Sta Z Z.heap "com/example/fourfold/fourfold/Term" "TYPE" "Lcom/example/fourfold/fourfold/Term;" (.ref t29)) (pr31 : Sta Z Z.heap "com/example/fourfold/fourfold/Term" "FORMAT" "Lcom/example/fourfold/fourfold/Term;" (.ref t30)) (pr32 : Sta Z Z.heap "com/example/fourfold/fourfold/Term" "IDENTIFIER" "Lcom/example/fourfold/fourfold/Term;" (.ref t31)) (pr33 : Sta Z Z.heap "com/example/fourfold/fourfold/Term" "SOURCE" "Lcom/example/fourfold/fourfold/Term;" (.ref t32)) (pr34 : Sta Z Z.heap "com/example/fourfold/fourfold/Term" "LANGUAGE" "Lcom/example/fourfold/fourfold/Term;" (.ref t33)) (pr35 : Sta Z Z.heap "com/example/fourfold/fourfold/Term" "RELATION" "Lcom/example/fourfold/fourfold/Term;" (.ref t34)) (pr36 : Sta Z Z.heap "com/example/fourfold/fourfold/Term" "COVERAGE" "Lcom/example/fourfold/fourfold/Term;" (.ref t35)) (pr37 : Sta Z Z.heap "com/example/fourfold/fourfold/Term" "RIGHTS" "Lcom/example/fourfold/fourfold/Term;" (.ref t36)) (pr38 : Sta Z Z.heap "com/example/fourfold/fourfold/Term" "NOTE" "Lcom/example/fourfold/fourfold/Term;" (.ref t37)) (pr39 : Sta Z Z.heap "com/example/fourfold/fourfold/Term" "IN" "Lcom/example/fourfold/fourfold/Term;" (.ref t38)) (pr40 : Exa Z Z.heap t0 "com/example/fourfold/fourfold/Term") (pr41 : Exa Z Z.heap t1 "com/example/fourfold/fourfold/Term") (pr42 : Exa Z Z.heap t2 "com/example/fourfold/fourfold/Term") (pr43 : Exa Z Z.heap t3 "com/example/fourfold/fourfold/Term") (pr44 : Exa Z Z.heap t4 "com/example/fourfold/fourfold/Term") (pr45 : Exa Z Z.heap t5 "com/example/fourfold/fourfold/Term") (pr46 : Exa Z Z.heap t6 "com/example/fourfold/fourfold/Term") (pr47 : Exa Z Z.heap t7 "com/example/fourfold/fourfold/Term") (pr48 : Exa Z Z.heap t8 "com/example/fourfold/fourfold/Term") (pr49 : Exa Z Z.heap t9 "com/example/fourfold/fourfold/Term") (pr50 : Exa Z Z.heap t10 "com/example/fourfold/fourfold/Term") (pr51 : Exa Z Z.heap t11 "com/example/fourfold/fourfold/Term") (pr52 : Exa Z Z.heap t12 "com/example/fourfold/fourfold/Term") (pr53 : Exa Z Z.heap t13 "com/example/fourfold/fourfold/Term") (pr54 : Exa Z Z.heap t14 "com/example/fourfold/fourfold/Term") (pr55 : Exa Z Z.heap t15 "com/example/fourfold/fourfold/Term") (pr56 : Exa Z Z.heap t16 "com/example/fourfold/fourfold/Term") (pr57 : Exa Z Z.heap t17 "com/example/fourfold/fourfold/Term") (pr58 : Exa Z Z.heap t18 "com/example/fourfold/fourfold/Term") (pr59 : Exa Z Z.heap t19 "com/example/fourfold/fourfold/Term") (pr60 : Exa Z Z.heap t20 "com/example/fourfold/fourfold/Term") (pr61 : Exa Z Z.heap t21 "com/example/fourfold/fourfold/Term") (pr62 : Exa Z Z.heap t22 "com/example/fourfold/fourfold/Term") (pr63 : Exa Z Z.heap t23 "com/example/fourfold/fourfold/Term") (pr64 : Exa Z Z.heap t24 "com/example/fourfold/fourfold/Term") (pr65 : Exa Z Z.heap t25 "com/example/fourfold/fourfold/Term") (pr66 : Exa Z Z.heap t26 "com/example/fourfold/fourfold/Term") (pr67 : Exa Z Z.heap t27 "com/example/fourfold/fourfold/Term") (pr68 : Exa Z Z.heap t28 "com/example/fourfold/fourfold/Term") (pr69 : Exa Z Z.heap t29 "com/example/fourfold/fourfold/Term") (pr70 : Exa Z Z.heap t30 "com/example/fourfold/fourfold/Term") (pr71 : Exa Z Z.heap t31 "com/example/fourfold/fourfold/Term") (pr72 : Exa Z Z.heap t32 "com/example/fourfold/fourfold/Term") (pr73 : Exa Z Z.heap t33 "com/example/fourfold/fourfold/Term") (pr74 : Exa Z Z.heap t34 "com/example/fourfold/fourfold/Term") (pr75 : Exa Z Z.heap t35 "com/example/fourfold/fourfold/Term") (pr76 : Exa Z Z.heap t36 "com/example/fourfold/fourfold/Term") (pr77 : Exa Z Z.heap t37 "com/example/fourfold/fourfold/Term") (pr78 : Exa Z Z.heap t38 "com/example/fourfold/fourfold/Term") (pr79 : Sta Z Z.heap "com/example/fourfold/fourfold/H" "ALL" "[Lcom/example/fourfold/fourfold/H;" (.ref al)) (pr80 : Arv Z Z.heap al ka (.object "com/example/fourfold/fourfold/H") (4 : Int32) [(.ref hA_), (.ref hB_), (.ref hC_), (.ref hD_)] .null) (pr81 : Fld Z Z.heap hA_ "com/example/fourfold/fourfold/H" "term" "Lcom/example/fourfold/fourfold/Term;" (.ref t1)) (pr82 : Fld Z Z.heap hB_ "com/example/fourfold/fourfold/H" "term" "Lcom/example/fourfold/fourfold/Term;" (.ref t2)) (pr83 : Fld Z Z.heap hC_ "com/example/fourfold/fourfold/H" "term" "Lcom/example/fourfold/fourfold/Term;" (.ref t3)) (pr84 : Fld Z Z.heap hD_ "com/example/fourfold/fourfold/H" "term" "Lcom/example/fourfold/fourfold/Term;" (.ref t4)) (pr85 : Sta Z Z.heap "com/example/fourfold/fourfold/H" "WHO" "Lcom/example/fourfold/fourfold/H;" (.ref hA_)) (pr86 : Sta Z Z.heap "com/example/fourfold/fourfold/H" "WHAT" "Lcom/example/fourfold/fourfold/H;" (.ref hB_)) (pr87 : Sta Z Z.heap "com/example/fourfold/fourfold/H" "WHEN" "Lcom/example/fourfold/fourfold/H;" (.ref hC_)) (pr88 : Sta Z Z.heap "com/example/fourfold/fourfold/H" "WHERE" "Lcom/example/fourfold/fourfold/H;" (.ref hD_)) (hp : ∀ j : Int32, ¬ (j < (0 : Int32)) → j < (39 : Int32) → ∃ y : Addr, ([(.ref t0), (.ref t1), (.ref t2), (.ref t3), (.ref t4), (.ref t5), (.ref t6), (.ref t7), (.ref t8), (.ref t9), (.ref t10), (.ref t11), (.ref t12), (.ref t13), (.ref t14), (.ref t15), (.ref t16), (.ref t17), (.ref t18), (.ref t19), (.ref t20), (.ref t21), (.ref t22), (.ref t23), (.ref t24), (.ref t25), (.ref t26), (.ref t27), (.ref t28), (.ref t29), (.ref t30), (.ref t31), (.ref t32), (.ref t33), (.ref t34), (.ref t35), (.ref t36), (.ref t37), (.ref t38)] : List Value).getD j.toNatClampNeg .null = .ref y ∧ (j = (1 : Int32) → y = t1) ∧ (j = (2 : Int32) → y = t2) ∧ (j = (3 : Int32) → y = t3) ∧ (j = (4 : Int32) → y = t4) ∧ (¬ (j = (1 : Int32)) → ¬ (j = (2 : Int32)) → ¬ (j = (3 : Int32)) → ¬ (j = (4 : Int32)) → t1 ≠ y ∧ t2 ≠ y ∧ t3 ≠ y ∧ t4 ≠ y)) (hd : t1 ≠ t2 ∧ t1 ≠ t3 ∧ t1 ≠ t4 ∧ t2 ≠ t3 ∧ t2 ≠ t4 ∧ t3 ≠ t4) :
    MetFree l x (head1 (Jvm.Cond.code x code maxLocals ret :: ws) room_1) (fun a U => a = #[(.int p1)] ∧ Z.Warmed39 U.vm ∧ U.heap = h0) (fun _ _ _ _ _ => True) (fun _ U o U' => ∃ v L, o = .returned v ∧ Q0 Z p1 t0 t1 t2 t3 t4 t5 t6 t7 t8 t9 t10 t11 t12 t13 t14 t15 t16 t17 t18 t19 t20 t21 t22 t23 t24 t25 t26 t27 t28 t29 t30 t31 t32 t33 t34 t35 t36 t37 t38 al ka hA_ hB_ hC_ hD_ h0 n0 v U'.heap L ∧ FrameEnd U o U' L room_1.cells room_1.slots) := by
  refine MetFree.of_bodySF (plainFor_of_name pn_0) hisR ?_
  intro p e s m args below meth c s₁ Bd hml0 hP hK
  obtain ⟨rfl, hZ, hh⟩ := hP
  have hx := Bd.exec
  have hby := Bd.bytes
  have hml : c.maxLocals = 6 := hml0
  have hown : s.vm.findClass "com/example/fourfold/fourfold/HOfPinLaw" = some m.cls := findClass_of_methodNamed Bd.named
  have hnm := (name_of_methodNamed Bd.named Bd.method).1
  have X0 : Stand p l e room_1 s m #[(.int p1)] below meth c s₁ [] 0 0 := Stand.of_body Bd
  have hs0 : h0 = s.heap := hh.symm
  have e0 : s₁.heap = h0 := by rw [← hh, Bd.state]; rfl
  have N0 := Fr.nil n0
  obtain ⟨f0, hf0⟩ : ∃ f, f = entryFrame m #[(.int p1)] maxLocals := ⟨_, rfl⟩
  have pre0 : ∀ t, Steps p.tables e below (s₁.setTop f0) t → Steps p.tables e below (s₁.setTop (entryFrame m #[(.int p1)] maxLocals)) t := fun t k => hf0 ▸ k
  have K0 : Gx p e below s₁ f0 s₁ (mkF m 0 #[.val (.int p1), .unset, .unset, .unset, .unset, .unset] []) := fun t kt => by rw [hf0]; exact castTop (ef_0 m p1) kt
  have K1 : Gx p e below s₁ f0 s₁ (mkF m 2 #[.val (.int p1), .unset, .unset, .unset, .unset, .unset] [(.int (39 : Int32))]) := fun t kt => K0 t (by
    show Steps p.tables e below (s₁.setTop (mkF m 0 #[.val (.int p1), .unset, .unset, .unset, .unset, .unset] [])) _
    refine XS.bipush X0.here hx rfl (hb hby at_0) ?_
    exact kt)
  obtain ⟨T2, h2, k2, X2, e2, E2, A2, O2, st2⟩ := newR X0 hx hZ hown (hw _ (List.mem_of_getElem? (i := 0) rfl)) (hw _ (List.mem_of_getElem? (i := 1) rfl)) e0 (g := (mkF m 2 #[.val (.int p1), .unset, .unset, .unset, .unset, .unset] [(.int (39 : Int32))])) rfl (hb hby at_2) rfl (by decide) (cap := 39) (by decide) (by decide) (by decide) (by decide)
  obtain ⟨b2, g2⟩ : ∃ z, z = h0.size := ⟨_, rfl⟩
  rw [← g2] at A2 st2
  have V2 : Arv Z h2 b2 k2 (.object "com/example/fourfold/fourfold/Term") (39 : Int32) [.null, .null, .null, .null, .null, .null, .null, .null, .null, .null, .null, .null, .null, .null, .null, .null, .null, .null, .null, .null, .null, .null, .null, .null, .null, .null, .null, .null, .null, .null, .null, .null, .null, .null, .null, .null, .null, .null, .null] .null := (Arv.new A2 (by decide)).pad (pad_rep [] .null 39)
  have K3 : Gx p e below s₁ f0 T2 (mkF m 5 #[.val (.int p1), .unset, .unset, .unset, .unset, .unset] [(.ref b2)]) := fun t kt => K1 t (st2 t kt)
  have K4 : Gx p e below s₁ f0 T2 (mkF m 7 #[.val (.int p1), .unset, .unset, .unset, .unset, .unset] [(.int (0 : Int32)), (.ref b2), (.ref b2)]) := fun t kt => K3 t (by
    show Steps p.tables e below (T2.setTop (mkF m 5 #[.val (.int p1), .unset, .unset, .unset, .unset, .unset] [(.ref b2)])) _
    refine XS.dup X2.here hx rfl (hb hby at_5) rfl rfl ?_
    show Steps p.tables e below (T2.setTop (mkF m 6 #[.val (.int p1), .unset, .unset, .unset, .unset, .unset] [(.ref b2), (.ref b2)])) _
    refine XS.iconst X2.here hx rfl (hb hby at_6) ?_
    exact kt)
  have f5 : Old Z n0 h2 := (pr0.ext E2)
  have f6 : Sta Z h2 "com/example/fourfold/fourfold/Term" "ERC" "Lcom/example/fourfold/fourfold/Term;" (.ref t0) := Sta.ext f5.2 pr1
  obtain ⟨T7, X7, e7, st7⟩ := getS2 X2 hx hZ hown (host := "") (Or.inl (hw _ (List.mem_of_getElem? (i := 2) rfl))) Via.refl e2 f6 (g := (mkF m 7 #[.val (.int p1), .unset, .unset, .unset, .unset, .unset] [(.int (0 : Int32)), (.ref b2), (.ref b2)])) rfl (hb hby at_7)
  have K8 : Gx p e below s₁ f0 T7 (mkF m 10 #[.val (.int p1), .unset, .unset, .unset, .unset, .unset] [(.ref t0), (.int (0 : Int32)), (.ref b2), (.ref b2)]) := fun t kt => K4 t (st7 t kt)
  obtain ⟨clq9, Arq9, ckq9, cSq9, cNq9, cHq9, cGq9⟩ := id V2
  have f11 : Exa Z h2 t0 "com/example/fourfold/fourfold/Term" := pr40.ext f5.2
  obtain ⟨T10, h10, X10', e10, W10, st10⟩ := stR X7 hx hZ e7 Arq9 (j := (0 : Int32)) (inb_of cSq9 ⟨by decide, by decide⟩) rfl (Sto.ofV Arq9 ckq9 O2 (Ins.self f11)) (g := (mkF m 10 #[.val (.int p1), .unset, .unset, .unset, .unset, .unset] [(.ref t0), (.int (0 : Int32)), (.ref b2), (.ref b2)])) rfl rfl (hb hby at_10)
  obtain ⟨lc10, X10, N10⟩ : ∃ lc, Stand p l e room_1 s m #[(.int p1)] below meth c T10 lc 1 39 ∧ Fr n0 lc := ⟨_, X10', Fr.snoc X10' N0 (Nat.le_trans Z0 (Nat.le_trans (Keep.refl h0 []).1 (Nat.le_of_eq g2.symm)))⟩
  have V10 : Arv Z h10 b2 k2 (.object "com/example/fourfold/fourfold/Term") (39 : Int32) [(.ref t0), .null, .null, .null, .null, .null, .null, .null, .null, .null, .null, .null, .null, .null, .null, .null, .null, .null, .null, .null, .null, .null, .null, .null, .null, .null, .null, .null, .null, .null, .null, .null, .null, .null, .null, .null, .null, .null, .null] .null := Arv.set Arq9 ckq9 cSq9 cNq9 cHq9 cGq9 rfl W10 0 rfl (Nat.le_of_ble_eq_true rfl)
  have K12 : Gx p e below s₁ f0 T10 (mkF m 11 #[.val (.int p1), .unset, .unset, .unset, .unset, .unset] [(.ref b2)]) := fun t kt => K8 t (st10 t kt)
  have K13 : Gx p e below s₁ f0 T10 (mkF m 13 #[.val (.int p1), .unset, .unset, .unset, .unset, .unset] [(.int (1 : Int32)), (.ref b2), (.ref b2)]) := fun t kt => K12 t (by
    show Steps p.tables e below (T10.setTop (mkF m 11 #[.val (.int p1), .unset, .unset, .unset, .unset, .unset] [(.ref b2)])) _
    refine XS.dup X10.here hx rfl (hb hby at_11) rfl rfl ?_
    show Steps p.tables e below (T10.setTop (mkF m 12 #[.val (.int p1), .unset, .unset, .unset, .unset, .unset] [(.ref b2), (.ref b2)])) _
    refine XS.iconst X10.here hx rfl (hb hby at_12) ?_
    exact kt)
  have f14 : Old Z n0 h10 := (f5.wr W10 (Nat.le_trans Z0 (Nat.le_trans (Keep.refl h0 []).1 (Nat.le_of_eq g2.symm))))
  have f15 : Sta Z h10 "com/example/fourfold/fourfold/Term" "WHO" "Lcom/example/fourfold/fourfold/Term;" (.ref t1) := Sta.ext f14.2 pr2
  obtain ⟨T16, X16, e16, st16⟩ := getS2 X10 hx hZ hown (host := "") (Or.inl (hw _ (List.mem_of_getElem? (i := 6) rfl))) Via.refl e10 f15 (g := (mkF m 13 #[.val (.int p1), .unset, .unset, .unset, .unset, .unset] [(.int (1 : Int32)), (.ref b2), (.ref b2)])) rfl (hb hby at_13)
  have K17 : Gx p e below s₁ f0 T16 (mkF m 16 #[.val (.int p1), .unset, .unset, .unset, .unset, .unset] [(.ref t1), (.int (1 : Int32)), (.ref b2), (.ref b2)]) := fun t kt => K13 t (st16 t kt)
  obtain ⟨clq18, Arq18, ckq18, cSq18, cNq18, cHq18, cGq18⟩ := id V10
  have f20 : Exa Z h10 t1 "com/example/fourfold/fourfold/Term" := pr41.ext f14.2
  obtain ⟨T19, h19, X19', e19, W19, st19⟩ := stR X16 hx hZ e16 Arq18 (j := (1 : Int32)) (inb_of cSq18 ⟨by decide, by decide⟩) rfl (Sto.ofV Arq18 ckq18 O2 (Ins.self f20)) (g := (mkF m 16 #[.val (.int p1), .unset, .unset, .unset, .unset, .unset] [(.ref t1), (.int (1 : Int32)), (.ref b2), (.ref b2)])) rfl rfl (hb hby at_16)
  obtain ⟨lc19, X19, N19⟩ : ∃ lc, Stand p l e room_1 s m #[(.int p1)] below meth c T19 lc 1 39 ∧ Fr n0 lc := ⟨_, X19', Fr.snoc X19' N10 (Nat.le_trans Z0 (Nat.le_trans (Keep.refl h0 []).1 (Nat.le_of_eq g2.symm)))⟩
  have V19 : Arv Z h19 b2 k2 (.object "com/example/fourfold/fourfold/Term") (39 : Int32) [(.ref t0), (.ref t1), .null, .null, .null, .null, .null, .null, .null, .null, .null, .null, .null, .null, .null, .null, .null, .null, .null, .null, .null, .null, .null, .null, .null, .null, .null, .null, .null, .null, .null, .null, .null, .null, .null, .null, .null, .null, .null] .null := Arv.set Arq18 ckq18 cSq18 cNq18 cHq18 cGq18 rfl W19 1 rfl (Nat.le_of_ble_eq_true rfl)
  have K21 : Gx p e below s₁ f0 T19 (mkF m 17 #[.val (.int p1), .unset, .unset, .unset, .unset, .unset] [(.ref b2)]) := fun t kt => K17 t (st19 t kt)
  have K22 : Gx p e below s₁ f0 T19 (mkF m 19 #[.val (.int p1), .unset, .unset, .unset, .unset, .unset] [(.int (2 : Int32)), (.ref b2), (.ref b2)]) := fun t kt => K21 t (by
    show Steps p.tables e below (T19.setTop (mkF m 17 #[.val (.int p1), .unset, .unset, .unset, .unset, .unset] [(.ref b2)])) _
    refine XS.dup X19.here hx rfl (hb hby at_17) rfl rfl ?_
    show Steps p.tables e below (T19.setTop (mkF m 18 #[.val (.int p1), .unset, .unset, .unset, .unset, .unset] [(.ref b2), (.ref b2)])) _
    refine XS.iconst X19.here hx rfl (hb hby at_18) ?_
    exact kt)
  have f23 : Old Z n0 h19 := (f14.wr W19 (Nat.le_trans Z0 (Nat.le_trans (Keep.refl h0 []).1 (Nat.le_of_eq g2.symm))))
  have f24 : Sta Z h19 "com/example/fourfold/fourfold/Term" "WHAT" "Lcom/example/fourfold/fourfold/Term;" (.ref t2) := Sta.ext f23.2 pr3
  obtain ⟨T25, X25, e25, st25⟩ := getS2 X19 hx hZ hown (host := "") (Or.inl (hw _ (List.mem_of_getElem? (i := 8) rfl))) Via.refl e19 f24 (g := (mkF m 19 #[.val (.int p1), .unset, .unset, .unset, .unset, .unset] [(.int (2 : Int32)), (.ref b2), (.ref b2)])) rfl (hb hby at_19)
  have K26 : Gx p e below s₁ f0 T25 (mkF m 22 #[.val (.int p1), .unset, .unset, .unset, .unset, .unset] [(.ref t2), (.int (2 : Int32)), (.ref b2), (.ref b2)]) := fun t kt => K22 t (st25 t kt)
  obtain ⟨clq27, Arq27, ckq27, cSq27, cNq27, cHq27, cGq27⟩ := id V19
  have f29 : Exa Z h19 t2 "com/example/fourfold/fourfold/Term" := pr42.ext f23.2
  obtain ⟨T28, h28, X28', e28, W28, st28⟩ := stR X25 hx hZ e25 Arq27 (j := (2 : Int32)) (inb_of cSq27 ⟨by decide, by decide⟩) rfl (Sto.ofV Arq27 ckq27 O2 (Ins.self f29)) (g := (mkF m 22 #[.val (.int p1), .unset, .unset, .unset, .unset, .unset] [(.ref t2), (.int (2 : Int32)), (.ref b2), (.ref b2)])) rfl rfl (hb hby at_22)
  obtain ⟨lc28, X28, N28⟩ : ∃ lc, Stand p l e room_1 s m #[(.int p1)] below meth c T28 lc 1 39 ∧ Fr n0 lc := ⟨_, X28', Fr.snoc X28' N19 (Nat.le_trans Z0 (Nat.le_trans (Keep.refl h0 []).1 (Nat.le_of_eq g2.symm)))⟩
  have V28 : Arv Z h28 b2 k2 (.object "com/example/fourfold/fourfold/Term") (39 : Int32) [(.ref t0), (.ref t1), (.ref t2), .null, .null, .null, .null, .null, .null, .null, .null, .null, .null, .null, .null, .null, .null, .null, .null, .null, .null, .null, .null, .null, .null, .null, .null, .null, .null, .null, .null, .null, .null, .null, .null, .null, .null, .null, .null] .null := Arv.set Arq27 ckq27 cSq27 cNq27 cHq27 cGq27 rfl W28 2 rfl (Nat.le_of_ble_eq_true rfl)
  have K30 : Gx p e below s₁ f0 T28 (mkF m 23 #[.val (.int p1), .unset, .unset, .unset, .unset, .unset] [(.ref b2)]) := fun t kt => K26 t (st28 t kt)
  have K31 : Gx p e below s₁ f0 T28 (mkF m 25 #[.val (.int p1), .unset, .unset, .unset, .unset, .unset] [(.int (3 : Int32)), (.ref b2), (.ref b2)]) := fun t kt => K30 t (by
    show Steps p.tables e below (T28.setTop (mkF m 23 #[.val (.int p1), .unset, .unset, .unset, .unset, .unset] [(.ref b2)])) _
    refine XS.dup X28.here hx rfl (hb hby at_23) rfl rfl ?_
    show Steps p.tables e below (T28.setTop (mkF m 24 #[.val (.int p1), .unset, .unset, .unset, .unset, .unset] [(.ref b2), (.ref b2)])) _
    refine XS.iconst X28.here hx rfl (hb hby at_24) ?_
    exact kt)
  have f32 : Old Z n0 h28 := (f23.wr W28 (Nat.le_trans Z0 (Nat.le_trans (Keep.refl h0 []).1 (Nat.le_of_eq g2.symm))))
  have f33 : Sta Z h28 "com/example/fourfold/fourfold/Term" "WHEN" "Lcom/example/fourfold/fourfold/Term;" (.ref t3) := Sta.ext f32.2 pr4
  obtain ⟨T34, X34, e34, st34⟩ := getS2 X28 hx hZ hown (host := "") (Or.inl (hw _ (List.mem_of_getElem? (i := 10) rfl))) Via.refl e28 f33 (g := (mkF m 25 #[.val (.int p1), .unset, .unset, .unset, .unset, .unset] [(.int (3 : Int32)), (.ref b2), (.ref b2)])) rfl (hb hby at_25)
  have K35 : Gx p e below s₁ f0 T34 (mkF m 28 #[.val (.int p1), .unset, .unset, .unset, .unset, .unset] [(.ref t3), (.int (3 : Int32)), (.ref b2), (.ref b2)]) := fun t kt => K31 t (st34 t kt)
  obtain ⟨clq36, Arq36, ckq36, cSq36, cNq36, cHq36, cGq36⟩ := id V28
  have f38 : Exa Z h28 t3 "com/example/fourfold/fourfold/Term" := pr43.ext f32.2
  obtain ⟨T37, h37, X37', e37, W37, st37⟩ := stR X34 hx hZ e34 Arq36 (j := (3 : Int32)) (inb_of cSq36 ⟨by decide, by decide⟩) rfl (Sto.ofV Arq36 ckq36 O2 (Ins.self f38)) (g := (mkF m 28 #[.val (.int p1), .unset, .unset, .unset, .unset, .unset] [(.ref t3), (.int (3 : Int32)), (.ref b2), (.ref b2)])) rfl rfl (hb hby at_28)
  obtain ⟨lc37, X37, N37⟩ : ∃ lc, Stand p l e room_1 s m #[(.int p1)] below meth c T37 lc 1 39 ∧ Fr n0 lc := ⟨_, X37', Fr.snoc X37' N28 (Nat.le_trans Z0 (Nat.le_trans (Keep.refl h0 []).1 (Nat.le_of_eq g2.symm)))⟩
  have V37 : Arv Z h37 b2 k2 (.object "com/example/fourfold/fourfold/Term") (39 : Int32) [(.ref t0), (.ref t1), (.ref t2), (.ref t3), .null, .null, .null, .null, .null, .null, .null, .null, .null, .null, .null, .null, .null, .null, .null, .null, .null, .null, .null, .null, .null, .null, .null, .null, .null, .null, .null, .null, .null, .null, .null, .null, .null, .null, .null] .null := Arv.set Arq36 ckq36 cSq36 cNq36 cHq36 cGq36 rfl W37 3 rfl (Nat.le_of_ble_eq_true rfl)
  have K39 : Gx p e below s₁ f0 T37 (mkF m 29 #[.val (.int p1), .unset, .unset, .unset, .unset, .unset] [(.ref b2)]) := fun t kt => K35 t (st37 t kt)
  have K40 : Gx p e below s₁ f0 T37 (mkF m 31 #[.val (.int p1), .unset, .unset, .unset, .unset, .unset] [(.int (4 : Int32)), (.ref b2), (.ref b2)]) := fun t kt => K39 t (by
    show Steps p.tables e below (T37.setTop (mkF m 29 #[.val (.int p1), .unset, .unset, .unset, .unset, .unset] [(.ref b2)])) _
    refine XS.dup X37.here hx rfl (hb hby at_29) rfl rfl ?_
    show Steps p.tables e below (T37.setTop (mkF m 30 #[.val (.int p1), .unset, .unset, .unset, .unset, .unset] [(.ref b2), (.ref b2)])) _
    refine XS.iconst X37.here hx rfl (hb hby at_30) ?_
    exact kt)
  have f41 : Old Z n0 h37 := (f32.wr W37 (Nat.le_trans Z0 (Nat.le_trans (Keep.refl h0 []).1 (Nat.le_of_eq g2.symm))))
  have f42 : Sta Z h37 "com/example/fourfold/fourfold/Term" "WHERE" "Lcom/example/fourfold/fourfold/Term;" (.ref t4) := Sta.ext f41.2 pr5
  obtain ⟨T43, X43, e43, st43⟩ := getS2 X37 hx hZ hown (host := "") (Or.inl (hw _ (List.mem_of_getElem? (i := 12) rfl))) Via.refl e37 f42 (g := (mkF m 31 #[.val (.int p1), .unset, .unset, .unset, .unset, .unset] [(.int (4 : Int32)), (.ref b2), (.ref b2)])) rfl (hb hby at_31)
  have K44 : Gx p e below s₁ f0 T43 (mkF m 34 #[.val (.int p1), .unset, .unset, .unset, .unset, .unset] [(.ref t4), (.int (4 : Int32)), (.ref b2), (.ref b2)]) := fun t kt => K40 t (st43 t kt)
  obtain ⟨clq45, Arq45, ckq45, cSq45, cNq45, cHq45, cGq45⟩ := id V37
  have f47 : Exa Z h37 t4 "com/example/fourfold/fourfold/Term" := pr44.ext f41.2
  obtain ⟨T46, h46, X46', e46, W46, st46⟩ := stR X43 hx hZ e43 Arq45 (j := (4 : Int32)) (inb_of cSq45 ⟨by decide, by decide⟩) rfl (Sto.ofV Arq45 ckq45 O2 (Ins.self f47)) (g := (mkF m 34 #[.val (.int p1), .unset, .unset, .unset, .unset, .unset] [(.ref t4), (.int (4 : Int32)), (.ref b2), (.ref b2)])) rfl rfl (hb hby at_34)
  obtain ⟨lc46, X46, N46⟩ : ∃ lc, Stand p l e room_1 s m #[(.int p1)] below meth c T46 lc 1 39 ∧ Fr n0 lc := ⟨_, X46', Fr.snoc X46' N37 (Nat.le_trans Z0 (Nat.le_trans (Keep.refl h0 []).1 (Nat.le_of_eq g2.symm)))⟩
  have V46 : Arv Z h46 b2 k2 (.object "com/example/fourfold/fourfold/Term") (39 : Int32) [(.ref t0), (.ref t1), (.ref t2), (.ref t3), (.ref t4), .null, .null, .null, .null, .null, .null, .null, .null, .null, .null, .null, .null, .null, .null, .null, .null, .null, .null, .null, .null, .null, .null, .null, .null, .null, .null, .null, .null, .null, .null, .null, .null, .null, .null] .null := Arv.set Arq45 ckq45 cSq45 cNq45 cHq45 cGq45 rfl W46 4 rfl (Nat.le_of_ble_eq_true rfl)
  have K48 : Gx p e below s₁ f0 T46 (mkF m 35 #[.val (.int p1), .unset, .unset, .unset, .unset, .unset] [(.ref b2)]) := fun t kt => K44 t (st46 t kt)
  have K49 : Gx p e below s₁ f0 T46 (mkF m 37 #[.val (.int p1), .unset, .unset, .unset, .unset, .unset] [(.int (5 : Int32)), (.ref b2), (.ref b2)]) := fun t kt => K48 t (by
    show Steps p.tables e below (T46.setTop (mkF m 35 #[.val (.int p1), .unset, .unset, .unset, .unset, .unset] [(.ref b2)])) _
    refine XS.dup X46.here hx rfl (hb hby at_35) rfl rfl ?_
    show Steps p.tables e below (T46.setTop (mkF m 36 #[.val (.int p1), .unset, .unset, .unset, .unset, .unset] [(.ref b2), (.ref b2)])) _
    refine XS.iconst X46.here hx rfl (hb hby at_36) ?_
    exact kt)
  have f50 : Old Z n0 h46 := (f41.wr W46 (Nat.le_trans Z0 (Nat.le_trans (Keep.refl h0 []).1 (Nat.le_of_eq g2.symm))))
  have f51 : Sta Z h46 "com/example/fourfold/fourfold/Term" "HOW" "Lcom/example/fourfold/fourfold/Term;" (.ref t5) := Sta.ext f50.2 pr6
  obtain ⟨T52, X52, e52, st52⟩ := getS2 X46 hx hZ hown (host := "") (Or.inl (hw _ (List.mem_of_getElem? (i := 14) rfl))) Via.refl e46 f51 (g := (mkF m 37 #[.val (.int p1), .unset, .unset, .unset, .unset, .unset] [(.int (5 : Int32)), (.ref b2), (.ref b2)])) rfl (hb hby at_37)
  have K53 : Gx p e below s₁ f0 T52 (mkF m 40 #[.val (.int p1), .unset, .unset, .unset, .unset, .unset] [(.ref t5), (.int (5 : Int32)), (.ref b2), (.ref b2)]) := fun t kt => K49 t (st52 t kt)
  obtain ⟨clq54, Arq54, ckq54, cSq54, cNq54, cHq54, cGq54⟩ := id V46
  have f56 : Exa Z h46 t5 "com/example/fourfold/fourfold/Term" := pr45.ext f50.2
  obtain ⟨T55, h55, X55', e55, W55, st55⟩ := stR X52 hx hZ e52 Arq54 (j := (5 : Int32)) (inb_of cSq54 ⟨by decide, by decide⟩) rfl (Sto.ofV Arq54 ckq54 O2 (Ins.self f56)) (g := (mkF m 40 #[.val (.int p1), .unset, .unset, .unset, .unset, .unset] [(.ref t5), (.int (5 : Int32)), (.ref b2), (.ref b2)])) rfl rfl (hb hby at_40)
  obtain ⟨lc55, X55, N55⟩ : ∃ lc, Stand p l e room_1 s m #[(.int p1)] below meth c T55 lc 1 39 ∧ Fr n0 lc := ⟨_, X55', Fr.snoc X55' N46 (Nat.le_trans Z0 (Nat.le_trans (Keep.refl h0 []).1 (Nat.le_of_eq g2.symm)))⟩
  have V55 : Arv Z h55 b2 k2 (.object "com/example/fourfold/fourfold/Term") (39 : Int32) [(.ref t0), (.ref t1), (.ref t2), (.ref t3), (.ref t4), (.ref t5), .null, .null, .null, .null, .null, .null, .null, .null, .null, .null, .null, .null, .null, .null, .null, .null, .null, .null, .null, .null, .null, .null, .null, .null, .null, .null, .null, .null, .null, .null, .null, .null, .null] .null := Arv.set Arq54 ckq54 cSq54 cNq54 cHq54 cGq54 rfl W55 5 rfl (Nat.le_of_ble_eq_true rfl)
  have K57 : Gx p e below s₁ f0 T55 (mkF m 41 #[.val (.int p1), .unset, .unset, .unset, .unset, .unset] [(.ref b2)]) := fun t kt => K53 t (st55 t kt)
  have K58 : Gx p e below s₁ f0 T55 (mkF m 44 #[.val (.int p1), .unset, .unset, .unset, .unset, .unset] [(.int (6 : Int32)), (.ref b2), (.ref b2)]) := fun t kt => K57 t (by
    show Steps p.tables e below (T55.setTop (mkF m 41 #[.val (.int p1), .unset, .unset, .unset, .unset, .unset] [(.ref b2)])) _
    refine XS.dup X55.here hx rfl (hb hby at_41) rfl rfl ?_
    show Steps p.tables e below (T55.setTop (mkF m 42 #[.val (.int p1), .unset, .unset, .unset, .unset, .unset] [(.ref b2), (.ref b2)])) _
    refine XS.bipush X55.here hx rfl (hb hby at_42) ?_
    exact kt)
  have f59 : Old Z n0 h55 := (f50.wr W55 (Nat.le_trans Z0 (Nat.le_trans (Keep.refl h0 []).1 (Nat.le_of_eq g2.symm))))
  have f60 : Sta Z h55 "com/example/fourfold/fourfold/Term" "ABOUT_ERC" "Lcom/example/fourfold/fourfold/Term;" (.ref t6) := Sta.ext f59.2 pr7
  obtain ⟨T61, X61, e61, st61⟩ := getS2 X55 hx hZ hown (host := "") (Or.inl (hw _ (List.mem_of_getElem? (i := 16) rfl))) Via.refl e55 f60 (g := (mkF m 44 #[.val (.int p1), .unset, .unset, .unset, .unset, .unset] [(.int (6 : Int32)), (.ref b2), (.ref b2)])) rfl (hb hby at_44)
  have K62 : Gx p e below s₁ f0 T61 (mkF m 47 #[.val (.int p1), .unset, .unset, .unset, .unset, .unset] [(.ref t6), (.int (6 : Int32)), (.ref b2), (.ref b2)]) := fun t kt => K58 t (st61 t kt)
  obtain ⟨clq63, Arq63, ckq63, cSq63, cNq63, cHq63, cGq63⟩ := id V55
  have f65 : Exa Z h55 t6 "com/example/fourfold/fourfold/Term" := pr46.ext f59.2
  obtain ⟨T64, h64, X64', e64, W64, st64⟩ := stR X61 hx hZ e61 Arq63 (j := (6 : Int32)) (inb_of cSq63 ⟨by decide, by decide⟩) rfl (Sto.ofV Arq63 ckq63 O2 (Ins.self f65)) (g := (mkF m 47 #[.val (.int p1), .unset, .unset, .unset, .unset, .unset] [(.ref t6), (.int (6 : Int32)), (.ref b2), (.ref b2)])) rfl rfl (hb hby at_47)
  obtain ⟨lc64, X64, N64⟩ : ∃ lc, Stand p l e room_1 s m #[(.int p1)] below meth c T64 lc 1 39 ∧ Fr n0 lc := ⟨_, X64', Fr.snoc X64' N55 (Nat.le_trans Z0 (Nat.le_trans (Keep.refl h0 []).1 (Nat.le_of_eq g2.symm)))⟩
  have V64 : Arv Z h64 b2 k2 (.object "com/example/fourfold/fourfold/Term") (39 : Int32) [(.ref t0), (.ref t1), (.ref t2), (.ref t3), (.ref t4), (.ref t5), (.ref t6), .null, .null, .null, .null, .null, .null, .null, .null, .null, .null, .null, .null, .null, .null, .null, .null, .null, .null, .null, .null, .null, .null, .null, .null, .null, .null, .null, .null, .null, .null, .null, .null] .null := Arv.set Arq63 ckq63 cSq63 cNq63 cHq63 cGq63 rfl W64 6 rfl (Nat.le_of_ble_eq_true rfl)
  have K66 : Gx p e below s₁ f0 T64 (mkF m 48 #[.val (.int p1), .unset, .unset, .unset, .unset, .unset] [(.ref b2)]) := fun t kt => K62 t (st64 t kt)
  have K67 : Gx p e below s₁ f0 T64 (mkF m 51 #[.val (.int p1), .unset, .unset, .unset, .unset, .unset] [(.int (7 : Int32)), (.ref b2), (.ref b2)]) := fun t kt => K66 t (by
    show Steps p.tables e below (T64.setTop (mkF m 48 #[.val (.int p1), .unset, .unset, .unset, .unset, .unset] [(.ref b2)])) _
    refine XS.dup X64.here hx rfl (hb hby at_48) rfl rfl ?_
    show Steps p.tables e below (T64.setTop (mkF m 49 #[.val (.int p1), .unset, .unset, .unset, .unset, .unset] [(.ref b2), (.ref b2)])) _
    refine XS.bipush X64.here hx rfl (hb hby at_49) ?_
    exact kt)
  have f68 : Old Z n0 h64 := (f59.wr W64 (Nat.le_trans Z0 (Nat.le_trans (Keep.refl h0 []).1 (Nat.le_of_eq g2.symm))))
  have f69 : Sta Z h64 "com/example/fourfold/fourfold/Term" "ABOUT_WHO" "Lcom/example/fourfold/fourfold/Term;" (.ref t7) := Sta.ext f68.2 pr8
  obtain ⟨T70, X70, e70, st70⟩ := getS2 X64 hx hZ hown (host := "") (Or.inl (hw _ (List.mem_of_getElem? (i := 18) rfl))) Via.refl e64 f69 (g := (mkF m 51 #[.val (.int p1), .unset, .unset, .unset, .unset, .unset] [(.int (7 : Int32)), (.ref b2), (.ref b2)])) rfl (hb hby at_51)
  have K71 : Gx p e below s₁ f0 T70 (mkF m 54 #[.val (.int p1), .unset, .unset, .unset, .unset, .unset] [(.ref t7), (.int (7 : Int32)), (.ref b2), (.ref b2)]) := fun t kt => K67 t (st70 t kt)
  obtain ⟨clq72, Arq72, ckq72, cSq72, cNq72, cHq72, cGq72⟩ := id V64
  have f74 : Exa Z h64 t7 "com/example/fourfold/fourfold/Term" := pr47.ext f68.2
  obtain ⟨T73, h73, X73', e73, W73, st73⟩ := stR X70 hx hZ e70 Arq72 (j := (7 : Int32)) (inb_of cSq72 ⟨by decide, by decide⟩) rfl (Sto.ofV Arq72 ckq72 O2 (Ins.self f74)) (g := (mkF m 54 #[.val (.int p1), .unset, .unset, .unset, .unset, .unset] [(.ref t7), (.int (7 : Int32)), (.ref b2), (.ref b2)])) rfl rfl (hb hby at_54)
  obtain ⟨lc73, X73, N73⟩ : ∃ lc, Stand p l e room_1 s m #[(.int p1)] below meth c T73 lc 1 39 ∧ Fr n0 lc := ⟨_, X73', Fr.snoc X73' N64 (Nat.le_trans Z0 (Nat.le_trans (Keep.refl h0 []).1 (Nat.le_of_eq g2.symm)))⟩
  have V73 : Arv Z h73 b2 k2 (.object "com/example/fourfold/fourfold/Term") (39 : Int32) [(.ref t0), (.ref t1), (.ref t2), (.ref t3), (.ref t4), (.ref t5), (.ref t6), (.ref t7), .null, .null, .null, .null, .null, .null, .null, .null, .null, .null, .null, .null, .null, .null, .null, .null, .null, .null, .null, .null, .null, .null, .null, .null, .null, .null, .null, .null, .null, .null, .null] .null := Arv.set Arq72 ckq72 cSq72 cNq72 cHq72 cGq72 rfl W73 7 rfl (Nat.le_of_ble_eq_true rfl)
  have K75 : Gx p e below s₁ f0 T73 (mkF m 55 #[.val (.int p1), .unset, .unset, .unset, .unset, .unset] [(.ref b2)]) := fun t kt => K71 t (st73 t kt)
  have K76 : Gx p e below s₁ f0 T73 (mkF m 58 #[.val (.int p1), .unset, .unset, .unset, .unset, .unset] [(.int (8 : Int32)), (.ref b2), (.ref b2)]) := fun t kt => K75 t (by
    show Steps p.tables e below (T73.setTop (mkF m 55 #[.val (.int p1), .unset, .unset, .unset, .unset, .unset] [(.ref b2)])) _
    refine XS.dup X73.here hx rfl (hb hby at_55) rfl rfl ?_
    show Steps p.tables e below (T73.setTop (mkF m 56 #[.val (.int p1), .unset, .unset, .unset, .unset, .unset] [(.ref b2), (.ref b2)])) _
    refine XS.bipush X73.here hx rfl (hb hby at_56) ?_
    exact kt)
  have f77 : Old Z n0 h73 := (f68.wr W73 (Nat.le_trans Z0 (Nat.le_trans (Keep.refl h0 []).1 (Nat.le_of_eq g2.symm))))
  have f78 : Sta Z h73 "com/example/fourfold/fourfold/Term" "ABOUT_WHAT" "Lcom/example/fourfold/fourfold/Term;" (.ref t8) := Sta.ext f77.2 pr9
  obtain ⟨T79, X79, e79, st79⟩ := getS2 X73 hx hZ hown (host := "") (Or.inl (hw _ (List.mem_of_getElem? (i := 20) rfl))) Via.refl e73 f78 (g := (mkF m 58 #[.val (.int p1), .unset, .unset, .unset, .unset, .unset] [(.int (8 : Int32)), (.ref b2), (.ref b2)])) rfl (hb hby at_58)
  have K80 : Gx p e below s₁ f0 T79 (mkF m 61 #[.val (.int p1), .unset, .unset, .unset, .unset, .unset] [(.ref t8), (.int (8 : Int32)), (.ref b2), (.ref b2)]) := fun t kt => K76 t (st79 t kt)
  obtain ⟨clq81, Arq81, ckq81, cSq81, cNq81, cHq81, cGq81⟩ := id V73
  have f83 : Exa Z h73 t8 "com/example/fourfold/fourfold/Term" := pr48.ext f77.2
  obtain ⟨T82, h82, X82', e82, W82, st82⟩ := stR X79 hx hZ e79 Arq81 (j := (8 : Int32)) (inb_of cSq81 ⟨by decide, by decide⟩) rfl (Sto.ofV Arq81 ckq81 O2 (Ins.self f83)) (g := (mkF m 61 #[.val (.int p1), .unset, .unset, .unset, .unset, .unset] [(.ref t8), (.int (8 : Int32)), (.ref b2), (.ref b2)])) rfl rfl (hb hby at_61)
  obtain ⟨lc82, X82, N82⟩ : ∃ lc, Stand p l e room_1 s m #[(.int p1)] below meth c T82 lc 1 39 ∧ Fr n0 lc := ⟨_, X82', Fr.snoc X82' N73 (Nat.le_trans Z0 (Nat.le_trans (Keep.refl h0 []).1 (Nat.le_of_eq g2.symm)))⟩
  have V82 : Arv Z h82 b2 k2 (.object "com/example/fourfold/fourfold/Term") (39 : Int32) [(.ref t0), (.ref t1), (.ref t2), (.ref t3), (.ref t4), (.ref t5), (.ref t6), (.ref t7), (.ref t8), .null, .null, .null, .null, .null, .null, .null, .null, .null, .null, .null, .null, .null, .null, .null, .null, .null, .null, .null, .null, .null, .null, .null, .null, .null, .null, .null, .null, .null, .null] .null := Arv.set Arq81 ckq81 cSq81 cNq81 cHq81 cGq81 rfl W82 8 rfl (Nat.le_of_ble_eq_true rfl)
  have K84 : Gx p e below s₁ f0 T82 (mkF m 62 #[.val (.int p1), .unset, .unset, .unset, .unset, .unset] [(.ref b2)]) := fun t kt => K80 t (st82 t kt)
  have K85 : Gx p e below s₁ f0 T82 (mkF m 65 #[.val (.int p1), .unset, .unset, .unset, .unset, .unset] [(.int (9 : Int32)), (.ref b2), (.ref b2)]) := fun t kt => K84 t (by
    show Steps p.tables e below (T82.setTop (mkF m 62 #[.val (.int p1), .unset, .unset, .unset, .unset, .unset] [(.ref b2)])) _
    refine XS.dup X82.here hx rfl (hb hby at_62) rfl rfl ?_
    show Steps p.tables e below (T82.setTop (mkF m 63 #[.val (.int p1), .unset, .unset, .unset, .unset, .unset] [(.ref b2), (.ref b2)])) _
    refine XS.bipush X82.here hx rfl (hb hby at_63) ?_
    exact kt)
  have f86 : Old Z n0 h82 := (f77.wr W82 (Nat.le_trans Z0 (Nat.le_trans (Keep.refl h0 []).1 (Nat.le_of_eq g2.symm))))
  have f87 : Sta Z h82 "com/example/fourfold/fourfold/Term" "ABOUT_WHEN" "Lcom/example/fourfold/fourfold/Term;" (.ref t9) := Sta.ext f86.2 pr10
  obtain ⟨T88, X88, e88, st88⟩ := getS2 X82 hx hZ hown (host := "") (Or.inl (hw _ (List.mem_of_getElem? (i := 22) rfl))) Via.refl e82 f87 (g := (mkF m 65 #[.val (.int p1), .unset, .unset, .unset, .unset, .unset] [(.int (9 : Int32)), (.ref b2), (.ref b2)])) rfl (hb hby at_65)
  have K89 : Gx p e below s₁ f0 T88 (mkF m 68 #[.val (.int p1), .unset, .unset, .unset, .unset, .unset] [(.ref t9), (.int (9 : Int32)), (.ref b2), (.ref b2)]) := fun t kt => K85 t (st88 t kt)
  obtain ⟨clq90, Arq90, ckq90, cSq90, cNq90, cHq90, cGq90⟩ := id V82
  have f92 : Exa Z h82 t9 "com/example/fourfold/fourfold/Term" := pr49.ext f86.2
  obtain ⟨T91, h91, X91', e91, W91, st91⟩ := stR X88 hx hZ e88 Arq90 (j := (9 : Int32)) (inb_of cSq90 ⟨by decide, by decide⟩) rfl (Sto.ofV Arq90 ckq90 O2 (Ins.self f92)) (g := (mkF m 68 #[.val (.int p1), .unset, .unset, .unset, .unset, .unset] [(.ref t9), (.int (9 : Int32)), (.ref b2), (.ref b2)])) rfl rfl (hb hby at_68)
  obtain ⟨lc91, X91, N91⟩ : ∃ lc, Stand p l e room_1 s m #[(.int p1)] below meth c T91 lc 1 39 ∧ Fr n0 lc := ⟨_, X91', Fr.snoc X91' N82 (Nat.le_trans Z0 (Nat.le_trans (Keep.refl h0 []).1 (Nat.le_of_eq g2.symm)))⟩
  have V91 : Arv Z h91 b2 k2 (.object "com/example/fourfold/fourfold/Term") (39 : Int32) [(.ref t0), (.ref t1), (.ref t2), (.ref t3), (.ref t4), (.ref t5), (.ref t6), (.ref t7), (.ref t8), (.ref t9), .null, .null, .null, .null, .null, .null, .null, .null, .null, .null, .null, .null, .null, .null, .null, .null, .null, .null, .null, .null, .null, .null, .null, .null, .null, .null, .null, .null, .null] .null := Arv.set Arq90 ckq90 cSq90 cNq90 cHq90 cGq90 rfl W91 9 rfl (Nat.le_of_ble_eq_true rfl)
  have K93 : Gx p e below s₁ f0 T91 (mkF m 69 #[.val (.int p1), .unset, .unset, .unset, .unset, .unset] [(.ref b2)]) := fun t kt => K89 t (st91 t kt)
  have K94 : Gx p e below s₁ f0 T91 (mkF m 72 #[.val (.int p1), .unset, .unset, .unset, .unset, .unset] [(.int (10 : Int32)), (.ref b2), (.ref b2)]) := fun t kt => K93 t (by
    show Steps p.tables e below (T91.setTop (mkF m 69 #[.val (.int p1), .unset, .unset, .unset, .unset, .unset] [(.ref b2)])) _
    refine XS.dup X91.here hx rfl (hb hby at_69) rfl rfl ?_
    show Steps p.tables e below (T91.setTop (mkF m 70 #[.val (.int p1), .unset, .unset, .unset, .unset, .unset] [(.ref b2), (.ref b2)])) _
    refine XS.bipush X91.here hx rfl (hb hby at_70) ?_
    exact kt)
  have f95 : Old Z n0 h91 := (f86.wr W91 (Nat.le_trans Z0 (Nat.le_trans (Keep.refl h0 []).1 (Nat.le_of_eq g2.symm))))
  have f96 : Sta Z h91 "com/example/fourfold/fourfold/Term" "ABOUT_WHERE" "Lcom/example/fourfold/fourfold/Term;" (.ref t10) := Sta.ext f95.2 pr11
  obtain ⟨T97, X97, e97, st97⟩ := getS2 X91 hx hZ hown (host := "") (Or.inl (hw _ (List.mem_of_getElem? (i := 24) rfl))) Via.refl e91 f96 (g := (mkF m 72 #[.val (.int p1), .unset, .unset, .unset, .unset, .unset] [(.int (10 : Int32)), (.ref b2), (.ref b2)])) rfl (hb hby at_72)
  have K98 : Gx p e below s₁ f0 T97 (mkF m 75 #[.val (.int p1), .unset, .unset, .unset, .unset, .unset] [(.ref t10), (.int (10 : Int32)), (.ref b2), (.ref b2)]) := fun t kt => K94 t (st97 t kt)
  obtain ⟨clq99, Arq99, ckq99, cSq99, cNq99, cHq99, cGq99⟩ := id V91
  have f101 : Exa Z h91 t10 "com/example/fourfold/fourfold/Term" := pr50.ext f95.2
  obtain ⟨T100, h100, X100', e100, W100, st100⟩ := stR X97 hx hZ e97 Arq99 (j := (10 : Int32)) (inb_of cSq99 ⟨by decide, by decide⟩) rfl (Sto.ofV Arq99 ckq99 O2 (Ins.self f101)) (g := (mkF m 75 #[.val (.int p1), .unset, .unset, .unset, .unset, .unset] [(.ref t10), (.int (10 : Int32)), (.ref b2), (.ref b2)])) rfl rfl (hb hby at_75)
  obtain ⟨lc100, X100, N100⟩ : ∃ lc, Stand p l e room_1 s m #[(.int p1)] below meth c T100 lc 1 39 ∧ Fr n0 lc := ⟨_, X100', Fr.snoc X100' N91 (Nat.le_trans Z0 (Nat.le_trans (Keep.refl h0 []).1 (Nat.le_of_eq g2.symm)))⟩
  have V100 : Arv Z h100 b2 k2 (.object "com/example/fourfold/fourfold/Term") (39 : Int32) [(.ref t0), (.ref t1), (.ref t2), (.ref t3), (.ref t4), (.ref t5), (.ref t6), (.ref t7), (.ref t8), (.ref t9), (.ref t10), .null, .null, .null, .null, .null, .null, .null, .null, .null, .null, .null, .null, .null, .null, .null, .null, .null, .null, .null, .null, .null, .null, .null, .null, .null, .null, .null, .null] .null := Arv.set Arq99 ckq99 cSq99 cNq99 cHq99 cGq99 rfl W100 10 rfl (Nat.le_of_ble_eq_true rfl)
  have K102 : Gx p e below s₁ f0 T100 (mkF m 76 #[.val (.int p1), .unset, .unset, .unset, .unset, .unset] [(.ref b2)]) := fun t kt => K98 t (st100 t kt)
  have K103 : Gx p e below s₁ f0 T100 (mkF m 79 #[.val (.int p1), .unset, .unset, .unset, .unset, .unset] [(.int (11 : Int32)), (.ref b2), (.ref b2)]) := fun t kt => K102 t (by
    show Steps p.tables e below (T100.setTop (mkF m 76 #[.val (.int p1), .unset, .unset, .unset, .unset, .unset] [(.ref b2)])) _
    refine XS.dup X100.here hx rfl (hb hby at_76) rfl rfl ?_
    show Steps p.tables e below (T100.setTop (mkF m 77 #[.val (.int p1), .unset, .unset, .unset, .unset, .unset] [(.ref b2), (.ref b2)])) _
    refine XS.bipush X100.here hx rfl (hb hby at_77) ?_
    exact kt)
  have f104 : Old Z n0 h100 := (f95.wr W100 (Nat.le_trans Z0 (Nat.le_trans (Keep.refl h0 []).1 (Nat.le_of_eq g2.symm))))
  have f105 : Sta Z h100 "com/example/fourfold/fourfold/Term" "ABOUT_HOW" "Lcom/example/fourfold/fourfold/Term;" (.ref t11) := Sta.ext f104.2 pr12
  obtain ⟨T106, X106, e106, st106⟩ := getS2 X100 hx hZ hown (host := "") (Or.inl (hw _ (List.mem_of_getElem? (i := 26) rfl))) Via.refl e100 f105 (g := (mkF m 79 #[.val (.int p1), .unset, .unset, .unset, .unset, .unset] [(.int (11 : Int32)), (.ref b2), (.ref b2)])) rfl (hb hby at_79)
  have K107 : Gx p e below s₁ f0 T106 (mkF m 82 #[.val (.int p1), .unset, .unset, .unset, .unset, .unset] [(.ref t11), (.int (11 : Int32)), (.ref b2), (.ref b2)]) := fun t kt => K103 t (st106 t kt)
  obtain ⟨clq108, Arq108, ckq108, cSq108, cNq108, cHq108, cGq108⟩ := id V100
  have f110 : Exa Z h100 t11 "com/example/fourfold/fourfold/Term" := pr51.ext f104.2
  obtain ⟨T109, h109, X109', e109, W109, st109⟩ := stR X106 hx hZ e106 Arq108 (j := (11 : Int32)) (inb_of cSq108 ⟨by decide, by decide⟩) rfl (Sto.ofV Arq108 ckq108 O2 (Ins.self f110)) (g := (mkF m 82 #[.val (.int p1), .unset, .unset, .unset, .unset, .unset] [(.ref t11), (.int (11 : Int32)), (.ref b2), (.ref b2)])) rfl rfl (hb hby at_82)
  obtain ⟨lc109, X109, N109⟩ : ∃ lc, Stand p l e room_1 s m #[(.int p1)] below meth c T109 lc 1 39 ∧ Fr n0 lc := ⟨_, X109', Fr.snoc X109' N100 (Nat.le_trans Z0 (Nat.le_trans (Keep.refl h0 []).1 (Nat.le_of_eq g2.symm)))⟩
  have V109 : Arv Z h109 b2 k2 (.object "com/example/fourfold/fourfold/Term") (39 : Int32) [(.ref t0), (.ref t1), (.ref t2), (.ref t3), (.ref t4), (.ref t5), (.ref t6), (.ref t7), (.ref t8), (.ref t9), (.ref t10), (.ref t11), .null, .null, .null, .null, .null, .null, .null, .null, .null, .null, .null, .null, .null, .null, .null, .null, .null, .null, .null, .null, .null, .null, .null, .null, .null, .null, .null] .null := Arv.set Arq108 ckq108 cSq108 cNq108 cHq108 cGq108 rfl W109 11 rfl (Nat.le_of_ble_eq_true rfl)
  have K111 : Gx p e below s₁ f0 T109 (mkF m 83 #[.val (.int p1), .unset, .unset, .unset, .unset, .unset] [(.ref b2)]) := fun t kt => K107 t (st109 t kt)
  have K112 : Gx p e below s₁ f0 T109 (mkF m 86 #[.val (.int p1), .unset, .unset, .unset, .unset, .unset] [(.int (12 : Int32)), (.ref b2), (.ref b2)]) := fun t kt => K111 t (by
    show Steps p.tables e below (T109.setTop (mkF m 83 #[.val (.int p1), .unset, .unset, .unset, .unset, .unset] [(.ref b2)])) _
    refine XS.dup X109.here hx rfl (hb hby at_83) rfl rfl ?_
    show Steps p.tables e below (T109.setTop (mkF m 84 #[.val (.int p1), .unset, .unset, .unset, .unset, .unset] [(.ref b2), (.ref b2)])) _
    refine XS.bipush X109.here hx rfl (hb hby at_84) ?_
    exact kt)
  have f113 : Old Z n0 h109 := (f104.wr W109 (Nat.le_trans Z0 (Nat.le_trans (Keep.refl h0 []).1 (Nat.le_of_eq g2.symm))))
  have f114 : Sta Z h109 "com/example/fourfold/fourfold/Term" "SUPPORT_ERC" "Lcom/example/fourfold/fourfold/Term;" (.ref t12) := Sta.ext f113.2 pr13
  obtain ⟨T115, X115, e115, st115⟩ := getS2 X109 hx hZ hown (host := "") (Or.inl (hw _ (List.mem_of_getElem? (i := 28) rfl))) Via.refl e109 f114 (g := (mkF m 86 #[.val (.int p1), .unset, .unset, .unset, .unset, .unset] [(.int (12 : Int32)), (.ref b2), (.ref b2)])) rfl (hb hby at_86)
  have K116 : Gx p e below s₁ f0 T115 (mkF m 89 #[.val (.int p1), .unset, .unset, .unset, .unset, .unset] [(.ref t12), (.int (12 : Int32)), (.ref b2), (.ref b2)]) := fun t kt => K112 t (st115 t kt)
  obtain ⟨clq117, Arq117, ckq117, cSq117, cNq117, cHq117, cGq117⟩ := id V109
  have f119 : Exa Z h109 t12 "com/example/fourfold/fourfold/Term" := pr52.ext f113.2
  obtain ⟨T118, h118, X118', e118, W118, st118⟩ := stR X115 hx hZ e115 Arq117 (j := (12 : Int32)) (inb_of cSq117 ⟨by decide, by decide⟩) rfl (Sto.ofV Arq117 ckq117 O2 (Ins.self f119)) (g := (mkF m 89 #[.val (.int p1), .unset, .unset, .unset, .unset, .unset] [(.ref t12), (.int (12 : Int32)), (.ref b2), (.ref b2)])) rfl rfl (hb hby at_89)
  obtain ⟨lc118, X118, N118⟩ : ∃ lc, Stand p l e room_1 s m #[(.int p1)] below meth c T118 lc 1 39 ∧ Fr n0 lc := ⟨_, X118', Fr.snoc X118' N109 (Nat.le_trans Z0 (Nat.le_trans (Keep.refl h0 []).1 (Nat.le_of_eq g2.symm)))⟩
  have V118 : Arv Z h118 b2 k2 (.object "com/example/fourfold/fourfold/Term") (39 : Int32) [(.ref t0), (.ref t1), (.ref t2), (.ref t3), (.ref t4), (.ref t5), (.ref t6), (.ref t7), (.ref t8), (.ref t9), (.ref t10), (.ref t11), (.ref t12), .null, .null, .null, .null, .null, .null, .null, .null, .null, .null, .null, .null, .null, .null, .null, .null, .null, .null, .null, .null, .null, .null, .null, .null, .null, .null] .null := Arv.set Arq117 ckq117 cSq117 cNq117 cHq117 cGq117 rfl W118 12 rfl (Nat.le_of_ble_eq_true rfl)
  have K120 : Gx p e below s₁ f0 T118 (mkF m 90 #[.val (.int p1), .unset, .unset, .unset, .unset, .unset] [(.ref b2)]) := fun t kt => K116 t (st118 t kt)
  have K121 : Gx p e below s₁ f0 T118 (mkF m 93 #[.val (.int p1), .unset, .unset, .unset, .unset, .unset] [(.int (13 : Int32)), (.ref b2), (.ref b2)]) := fun t kt => K120 t (by
    show Steps p.tables e below (T118.setTop (mkF m 90 #[.val (.int p1), .unset, .unset, .unset, .unset, .unset] [(.ref b2)])) _
    refine XS.dup X118.here hx rfl (hb hby at_90) rfl rfl ?_
    show Steps p.tables e below (T118.setTop (mkF m 91 #[.val (.int p1), .unset, .unset, .unset, .unset, .unset] [(.ref b2), (.ref b2)])) _
    refine XS.bipush X118.here hx rfl (hb hby at_91) ?_
    exact kt)
  have f122 : Old Z n0 h118 := (f113.wr W118 (Nat.le_trans Z0 (Nat.le_trans (Keep.refl h0 []).1 (Nat.le_of_eq g2.symm))))
  have f123 : Sta Z h118 "com/example/fourfold/fourfold/Term" "SUPPORT_WHO" "Lcom/example/fourfold/fourfold/Term;" (.ref t13) := Sta.ext f122.2 pr14
  obtain ⟨T124, X124, e124, st124⟩ := getS2 X118 hx hZ hown (host := "") (Or.inl (hw _ (List.mem_of_getElem? (i := 30) rfl))) Via.refl e118 f123 (g := (mkF m 93 #[.val (.int p1), .unset, .unset, .unset, .unset, .unset] [(.int (13 : Int32)), (.ref b2), (.ref b2)])) rfl (hb hby at_93)
  have K125 : Gx p e below s₁ f0 T124 (mkF m 96 #[.val (.int p1), .unset, .unset, .unset, .unset, .unset] [(.ref t13), (.int (13 : Int32)), (.ref b2), (.ref b2)]) := fun t kt => K121 t (st124 t kt)
  obtain ⟨clq126, Arq126, ckq126, cSq126, cNq126, cHq126, cGq126⟩ := id V118
  have f128 : Exa Z h118 t13 "com/example/fourfold/fourfold/Term" := pr53.ext f122.2
  obtain ⟨T127, h127, X127', e127, W127, st127⟩ := stR X124 hx hZ e124 Arq126 (j := (13 : Int32)) (inb_of cSq126 ⟨by decide, by decide⟩) rfl (Sto.ofV Arq126 ckq126 O2 (Ins.self f128)) (g := (mkF m 96 #[.val (.int p1), .unset, .unset, .unset, .unset, .unset] [(.ref t13), (.int (13 : Int32)), (.ref b2), (.ref b2)])) rfl rfl (hb hby at_96)
  obtain ⟨lc127, X127, N127⟩ : ∃ lc, Stand p l e room_1 s m #[(.int p1)] below meth c T127 lc 1 39 ∧ Fr n0 lc := ⟨_, X127', Fr.snoc X127' N118 (Nat.le_trans Z0 (Nat.le_trans (Keep.refl h0 []).1 (Nat.le_of_eq g2.symm)))⟩
  have V127 : Arv Z h127 b2 k2 (.object "com/example/fourfold/fourfold/Term") (39 : Int32) [(.ref t0), (.ref t1), (.ref t2), (.ref t3), (.ref t4), (.ref t5), (.ref t6), (.ref t7), (.ref t8), (.ref t9), (.ref t10), (.ref t11), (.ref t12), (.ref t13), .null, .null, .null, .null, .null, .null, .null, .null, .null, .null, .null, .null, .null, .null, .null, .null, .null, .null, .null, .null, .null, .null, .null, .null, .null] .null := Arv.set Arq126 ckq126 cSq126 cNq126 cHq126 cGq126 rfl W127 13 rfl (Nat.le_of_ble_eq_true rfl)
  have K129 : Gx p e below s₁ f0 T127 (mkF m 97 #[.val (.int p1), .unset, .unset, .unset, .unset, .unset] [(.ref b2)]) := fun t kt => K125 t (st127 t kt)
  have K130 : Gx p e below s₁ f0 T127 (mkF m 100 #[.val (.int p1), .unset, .unset, .unset, .unset, .unset] [(.int (14 : Int32)), (.ref b2), (.ref b2)]) := fun t kt => K129 t (by
    show Steps p.tables e below (T127.setTop (mkF m 97 #[.val (.int p1), .unset, .unset, .unset, .unset, .unset] [(.ref b2)])) _
    refine XS.dup X127.here hx rfl (hb hby at_97) rfl rfl ?_
    show Steps p.tables e below (T127.setTop (mkF m 98 #[.val (.int p1), .unset, .unset, .unset, .unset, .unset] [(.ref b2), (.ref b2)])) _
    refine XS.bipush X127.here hx rfl (hb hby at_98) ?_
    exact kt)
  have f131 : Old Z n0 h127 := (f122.wr W127 (Nat.le_trans Z0 (Nat.le_trans (Keep.refl h0 []).1 (Nat.le_of_eq g2.symm))))
  have f132 : Sta Z h127 "com/example/fourfold/fourfold/Term" "SUPPORT_WHAT" "Lcom/example/fourfold/fourfold/Term;" (.ref t14) := Sta.ext f131.2 pr15
  obtain ⟨T133, X133, e133, st133⟩ := getS2 X127 hx hZ hown (host := "") (Or.inl (hw _ (List.mem_of_getElem? (i := 32) rfl))) Via.refl e127 f132 (g := (mkF m 100 #[.val (.int p1), .unset, .unset, .unset, .unset, .unset] [(.int (14 : Int32)), (.ref b2), (.ref b2)])) rfl (hb hby at_100)
  have K134 : Gx p e below s₁ f0 T133 (mkF m 103 #[.val (.int p1), .unset, .unset, .unset, .unset, .unset] [(.ref t14), (.int (14 : Int32)), (.ref b2), (.ref b2)]) := fun t kt => K130 t (st133 t kt)
  obtain ⟨clq135, Arq135, ckq135, cSq135, cNq135, cHq135, cGq135⟩ := id V127
  have f137 : Exa Z h127 t14 "com/example/fourfold/fourfold/Term" := pr54.ext f131.2
  obtain ⟨T136, h136, X136', e136, W136, st136⟩ := stR X133 hx hZ e133 Arq135 (j := (14 : Int32)) (inb_of cSq135 ⟨by decide, by decide⟩) rfl (Sto.ofV Arq135 ckq135 O2 (Ins.self f137)) (g := (mkF m 103 #[.val (.int p1), .unset, .unset, .unset, .unset, .unset] [(.ref t14), (.int (14 : Int32)), (.ref b2), (.ref b2)])) rfl rfl (hb hby at_103)
  obtain ⟨lc136, X136, N136⟩ : ∃ lc, Stand p l e room_1 s m #[(.int p1)] below meth c T136 lc 1 39 ∧ Fr n0 lc := ⟨_, X136', Fr.snoc X136' N127 (Nat.le_trans Z0 (Nat.le_trans (Keep.refl h0 []).1 (Nat.le_of_eq g2.symm)))⟩
  have V136 : Arv Z h136 b2 k2 (.object "com/example/fourfold/fourfold/Term") (39 : Int32) [(.ref t0), (.ref t1), (.ref t2), (.ref t3), (.ref t4), (.ref t5), (.ref t6), (.ref t7), (.ref t8), (.ref t9), (.ref t10), (.ref t11), (.ref t12), (.ref t13), (.ref t14), .null, .null, .null, .null, .null, .null, .null, .null, .null, .null, .null, .null, .null, .null, .null, .null, .null, .null, .null, .null, .null, .null, .null, .null] .null := Arv.set Arq135 ckq135 cSq135 cNq135 cHq135 cGq135 rfl W136 14 rfl (Nat.le_of_ble_eq_true rfl)
  have K138 : Gx p e below s₁ f0 T136 (mkF m 104 #[.val (.int p1), .unset, .unset, .unset, .unset, .unset] [(.ref b2)]) := fun t kt => K134 t (st136 t kt)
  have K139 : Gx p e below s₁ f0 T136 (mkF m 107 #[.val (.int p1), .unset, .unset, .unset, .unset, .unset] [(.int (15 : Int32)), (.ref b2), (.ref b2)]) := fun t kt => K138 t (by
    show Steps p.tables e below (T136.setTop (mkF m 104 #[.val (.int p1), .unset, .unset, .unset, .unset, .unset] [(.ref b2)])) _
    refine XS.dup X136.here hx rfl (hb hby at_104) rfl rfl ?_
    show Steps p.tables e below (T136.setTop (mkF m 105 #[.val (.int p1), .unset, .unset, .unset, .unset, .unset] [(.ref b2), (.ref b2)])) _
    refine XS.bipush X136.here hx rfl (hb hby at_105) ?_
    exact kt)
  have f140 : Old Z n0 h136 := (f131.wr W136 (Nat.le_trans Z0 (Nat.le_trans (Keep.refl h0 []).1 (Nat.le_of_eq g2.symm))))
  have f141 : Sta Z h136 "com/example/fourfold/fourfold/Term" "SUPPORT_WHEN" "Lcom/example/fourfold/fourfold/Term;" (.ref t15) := Sta.ext f140.2 pr16
  obtain ⟨T142, X142, e142, st142⟩ := getS2 X136 hx hZ hown (host := "") (Or.inl (hw _ (List.mem_of_getElem? (i := 34) rfl))) Via.refl e136 f141 (g := (mkF m 107 #[.val (.int p1), .unset, .unset, .unset, .unset, .unset] [(.int (15 : Int32)), (.ref b2), (.ref b2)])) rfl (hb hby at_107)
  have K143 : Gx p e below s₁ f0 T142 (mkF m 110 #[.val (.int p1), .unset, .unset, .unset, .unset, .unset] [(.ref t15), (.int (15 : Int32)), (.ref b2), (.ref b2)]) := fun t kt => K139 t (st142 t kt)
  obtain ⟨clq144, Arq144, ckq144, cSq144, cNq144, cHq144, cGq144⟩ := id V136
  have f146 : Exa Z h136 t15 "com/example/fourfold/fourfold/Term" := pr55.ext f140.2
  obtain ⟨T145, h145, X145', e145, W145, st145⟩ := stR X142 hx hZ e142 Arq144 (j := (15 : Int32)) (inb_of cSq144 ⟨by decide, by decide⟩) rfl (Sto.ofV Arq144 ckq144 O2 (Ins.self f146)) (g := (mkF m 110 #[.val (.int p1), .unset, .unset, .unset, .unset, .unset] [(.ref t15), (.int (15 : Int32)), (.ref b2), (.ref b2)])) rfl rfl (hb hby at_110)
  obtain ⟨lc145, X145, N145⟩ : ∃ lc, Stand p l e room_1 s m #[(.int p1)] below meth c T145 lc 1 39 ∧ Fr n0 lc := ⟨_, X145', Fr.snoc X145' N136 (Nat.le_trans Z0 (Nat.le_trans (Keep.refl h0 []).1 (Nat.le_of_eq g2.symm)))⟩
  have V145 : Arv Z h145 b2 k2 (.object "com/example/fourfold/fourfold/Term") (39 : Int32) [(.ref t0), (.ref t1), (.ref t2), (.ref t3), (.ref t4), (.ref t5), (.ref t6), (.ref t7), (.ref t8), (.ref t9), (.ref t10), (.ref t11), (.ref t12), (.ref t13), (.ref t14), (.ref t15), .null, .null, .null, .null, .null, .null, .null, .null, .null, .null, .null, .null, .null, .null, .null, .null, .null, .null, .null, .null, .null, .null, .null] .null := Arv.set Arq144 ckq144 cSq144 cNq144 cHq144 cGq144 rfl W145 15 rfl (Nat.le_of_ble_eq_true rfl)
  have K147 : Gx p e below s₁ f0 T145 (mkF m 111 #[.val (.int p1), .unset, .unset, .unset, .unset, .unset] [(.ref b2)]) := fun t kt => K143 t (st145 t kt)
  have K148 : Gx p e below s₁ f0 T145 (mkF m 114 #[.val (.int p1), .unset, .unset, .unset, .unset, .unset] [(.int (16 : Int32)), (.ref b2), (.ref b2)]) := fun t kt => K147 t (by
    show Steps p.tables e below (T145.setTop (mkF m 111 #[.val (.int p1), .unset, .unset, .unset, .unset, .unset] [(.ref b2)])) _
    refine XS.dup X145.here hx rfl (hb hby at_111) rfl rfl ?_
    show Steps p.tables e below (T145.setTop (mkF m 112 #[.val (.int p1), .unset, .unset, .unset, .unset, .unset] [(.ref b2), (.ref b2)])) _
    refine XS.bipush X145.here hx rfl (hb hby at_112) ?_
    exact kt)
  have f149 : Old Z n0 h145 := (f140.wr W145 (Nat.le_trans Z0 (Nat.le_trans (Keep.refl h0 []).1 (Nat.le_of_eq g2.symm))))
  have f150 : Sta Z h145 "com/example/fourfold/fourfold/Term" "SUPPORT_WHERE" "Lcom/example/fourfold/fourfold/Term;" (.ref t16) := Sta.ext f149.2 pr17
  obtain ⟨T151, X151, e151, st151⟩ := getS2 X145 hx hZ hown (host := "") (Or.inl (hw _ (List.mem_of_getElem? (i := 36) rfl))) Via.refl e145 f150 (g := (mkF m 114 #[.val (.int p1), .unset, .unset, .unset, .unset, .unset] [(.int (16 : Int32)), (.ref b2), (.ref b2)])) rfl (hb hby at_114)
  have K152 : Gx p e below s₁ f0 T151 (mkF m 117 #[.val (.int p1), .unset, .unset, .unset, .unset, .unset] [(.ref t16), (.int (16 : Int32)), (.ref b2), (.ref b2)]) := fun t kt => K148 t (st151 t kt)
  obtain ⟨clq153, Arq153, ckq153, cSq153, cNq153, cHq153, cGq153⟩ := id V145
  have f155 : Exa Z h145 t16 "com/example/fourfold/fourfold/Term" := pr56.ext f149.2
  obtain ⟨T154, h154, X154', e154, W154, st154⟩ := stR X151 hx hZ e151 Arq153 (j := (16 : Int32)) (inb_of cSq153 ⟨by decide, by decide⟩) rfl (Sto.ofV Arq153 ckq153 O2 (Ins.self f155)) (g := (mkF m 117 #[.val (.int p1), .unset, .unset, .unset, .unset, .unset] [(.ref t16), (.int (16 : Int32)), (.ref b2), (.ref b2)])) rfl rfl (hb hby at_117)
  obtain ⟨lc154, X154, N154⟩ : ∃ lc, Stand p l e room_1 s m #[(.int p1)] below meth c T154 lc 1 39 ∧ Fr n0 lc := ⟨_, X154', Fr.snoc X154' N145 (Nat.le_trans Z0 (Nat.le_trans (Keep.refl h0 []).1 (Nat.le_of_eq g2.symm)))⟩
  have V154 : Arv Z h154 b2 k2 (.object "com/example/fourfold/fourfold/Term") (39 : Int32) [(.ref t0), (.ref t1), (.ref t2), (.ref t3), (.ref t4), (.ref t5), (.ref t6), (.ref t7), (.ref t8), (.ref t9), (.ref t10), (.ref t11), (.ref t12), (.ref t13), (.ref t14), (.ref t15), (.ref t16), .null, .null, .null, .null, .null, .null, .null, .null, .null, .null, .null, .null, .null, .null, .null, .null, .null, .null, .null, .null, .null, .null] .null := Arv.set Arq153 ckq153 cSq153 cNq153 cHq153 cGq153 rfl W154 16 rfl (Nat.le_of_ble_eq_true rfl)
  have K156 : Gx p e below s₁ f0 T154 (mkF m 118 #[.val (.int p1), .unset, .unset, .unset, .unset, .unset] [(.ref b2)]) := fun t kt => K152 t (st154 t kt)
  have K157 : Gx p e below s₁ f0 T154 (mkF m 121 #[.val (.int p1), .unset, .unset, .unset, .unset, .unset] [(.int (17 : Int32)), (.ref b2), (.ref b2)]) := fun t kt => K156 t (by
    show Steps p.tables e below (T154.setTop (mkF m 118 #[.val (.int p1), .unset, .unset, .unset, .unset, .unset] [(.ref b2)])) _
    refine XS.dup X154.here hx rfl (hb hby at_118) rfl rfl ?_
    show Steps p.tables e below (T154.setTop (mkF m 119 #[.val (.int p1), .unset, .unset, .unset, .unset, .unset] [(.ref b2), (.ref b2)])) _
    refine XS.bipush X154.here hx rfl (hb hby at_119) ?_
    exact kt)
  have f158 : Old Z n0 h154 := (f149.wr W154 (Nat.le_trans Z0 (Nat.le_trans (Keep.refl h0 []).1 (Nat.le_of_eq g2.symm))))
  have f159 : Sta Z h154 "com/example/fourfold/fourfold/Term" "META_ERC" "Lcom/example/fourfold/fourfold/Term;" (.ref t17) := Sta.ext f158.2 pr18
  obtain ⟨T160, X160, e160, st160⟩ := getS2 X154 hx hZ hown (host := "") (Or.inl (hw _ (List.mem_of_getElem? (i := 38) rfl))) Via.refl e154 f159 (g := (mkF m 121 #[.val (.int p1), .unset, .unset, .unset, .unset, .unset] [(.int (17 : Int32)), (.ref b2), (.ref b2)])) rfl (hb hby at_121)
  have K161 : Gx p e below s₁ f0 T160 (mkF m 124 #[.val (.int p1), .unset, .unset, .unset, .unset, .unset] [(.ref t17), (.int (17 : Int32)), (.ref b2), (.ref b2)]) := fun t kt => K157 t (st160 t kt)
  obtain ⟨clq162, Arq162, ckq162, cSq162, cNq162, cHq162, cGq162⟩ := id V154
  have f164 : Exa Z h154 t17 "com/example/fourfold/fourfold/Term" := pr57.ext f158.2
  obtain ⟨T163, h163, X163', e163, W163, st163⟩ := stR X160 hx hZ e160 Arq162 (j := (17 : Int32)) (inb_of cSq162 ⟨by decide, by decide⟩) rfl (Sto.ofV Arq162 ckq162 O2 (Ins.self f164)) (g := (mkF m 124 #[.val (.int p1), .unset, .unset, .unset, .unset, .unset] [(.ref t17), (.int (17 : Int32)), (.ref b2), (.ref b2)])) rfl rfl (hb hby at_124)
  obtain ⟨lc163, X163, N163⟩ : ∃ lc, Stand p l e room_1 s m #[(.int p1)] below meth c T163 lc 1 39 ∧ Fr n0 lc := ⟨_, X163', Fr.snoc X163' N154 (Nat.le_trans Z0 (Nat.le_trans (Keep.refl h0 []).1 (Nat.le_of_eq g2.symm)))⟩
  have V163 : Arv Z h163 b2 k2 (.object "com/example/fourfold/fourfold/Term") (39 : Int32) [(.ref t0), (.ref t1), (.ref t2), (.ref t3), (.ref t4), (.ref t5), (.ref t6), (.ref t7), (.ref t8), (.ref t9), (.ref t10), (.ref t11), (.ref t12), (.ref t13), (.ref t14), (.ref t15), (.ref t16), (.ref t17), .null, .null, .null, .null, .null, .null, .null, .null, .null, .null, .null, .null, .null, .null, .null, .null, .null, .null, .null, .null, .null] .null := Arv.set Arq162 ckq162 cSq162 cNq162 cHq162 cGq162 rfl W163 17 rfl (Nat.le_of_ble_eq_true rfl)
  have K165 : Gx p e below s₁ f0 T163 (mkF m 125 #[.val (.int p1), .unset, .unset, .unset, .unset, .unset] [(.ref b2)]) := fun t kt => K161 t (st163 t kt)
  have K166 : Gx p e below s₁ f0 T163 (mkF m 128 #[.val (.int p1), .unset, .unset, .unset, .unset, .unset] [(.int (18 : Int32)), (.ref b2), (.ref b2)]) := fun t kt => K165 t (by
    show Steps p.tables e below (T163.setTop (mkF m 125 #[.val (.int p1), .unset, .unset, .unset, .unset, .unset] [(.ref b2)])) _
    refine XS.dup X163.here hx rfl (hb hby at_125) rfl rfl ?_
    show Steps p.tables e below (T163.setTop (mkF m 126 #[.val (.int p1), .unset, .unset, .unset, .unset, .unset] [(.ref b2), (.ref b2)])) _
    refine XS.bipush X163.here hx rfl (hb hby at_126) ?_
    exact kt)
  have f167 : Old Z n0 h163 := (f158.wr W163 (Nat.le_trans Z0 (Nat.le_trans (Keep.refl h0 []).1 (Nat.le_of_eq g2.symm))))
  have f168 : Sta Z h163 "com/example/fourfold/fourfold/Term" "META_WHO" "Lcom/example/fourfold/fourfold/Term;" (.ref t18) := Sta.ext f167.2 pr19
  obtain ⟨T169, X169, e169, st169⟩ := getS2 X163 hx hZ hown (host := "") (Or.inl (hw _ (List.mem_of_getElem? (i := 40) rfl))) Via.refl e163 f168 (g := (mkF m 128 #[.val (.int p1), .unset, .unset, .unset, .unset, .unset] [(.int (18 : Int32)), (.ref b2), (.ref b2)])) rfl (hb hby at_128)
  have K170 : Gx p e below s₁ f0 T169 (mkF m 131 #[.val (.int p1), .unset, .unset, .unset, .unset, .unset] [(.ref t18), (.int (18 : Int32)), (.ref b2), (.ref b2)]) := fun t kt => K166 t (st169 t kt)
  obtain ⟨clq171, Arq171, ckq171, cSq171, cNq171, cHq171, cGq171⟩ := id V163
  have f173 : Exa Z h163 t18 "com/example/fourfold/fourfold/Term" := pr58.ext f167.2
  obtain ⟨T172, h172, X172', e172, W172, st172⟩ := stR X169 hx hZ e169 Arq171 (j := (18 : Int32)) (inb_of cSq171 ⟨by decide, by decide⟩) rfl (Sto.ofV Arq171 ckq171 O2 (Ins.self f173)) (g := (mkF m 131 #[.val (.int p1), .unset, .unset, .unset, .unset, .unset] [(.ref t18), (.int (18 : Int32)), (.ref b2), (.ref b2)])) rfl rfl (hb hby at_131)
  obtain ⟨lc172, X172, N172⟩ : ∃ lc, Stand p l e room_1 s m #[(.int p1)] below meth c T172 lc 1 39 ∧ Fr n0 lc := ⟨_, X172', Fr.snoc X172' N163 (Nat.le_trans Z0 (Nat.le_trans (Keep.refl h0 []).1 (Nat.le_of_eq g2.symm)))⟩
  have V172 : Arv Z h172 b2 k2 (.object "com/example/fourfold/fourfold/Term") (39 : Int32) [(.ref t0), (.ref t1), (.ref t2), (.ref t3), (.ref t4), (.ref t5), (.ref t6), (.ref t7), (.ref t8), (.ref t9), (.ref t10), (.ref t11), (.ref t12), (.ref t13), (.ref t14), (.ref t15), (.ref t16), (.ref t17), (.ref t18), .null, .null, .null, .null, .null, .null, .null, .null, .null, .null, .null, .null, .null, .null, .null, .null, .null, .null, .null, .null] .null := Arv.set Arq171 ckq171 cSq171 cNq171 cHq171 cGq171 rfl W172 18 rfl (Nat.le_of_ble_eq_true rfl)
  have K174 : Gx p e below s₁ f0 T172 (mkF m 132 #[.val (.int p1), .unset, .unset, .unset, .unset, .unset] [(.ref b2)]) := fun t kt => K170 t (st172 t kt)
  have K175 : Gx p e below s₁ f0 T172 (mkF m 135 #[.val (.int p1), .unset, .unset, .unset, .unset, .unset] [(.int (19 : Int32)), (.ref b2), (.ref b2)]) := fun t kt => K174 t (by
    show Steps p.tables e below (T172.setTop (mkF m 132 #[.val (.int p1), .unset, .unset, .unset, .unset, .unset] [(.ref b2)])) _
    refine XS.dup X172.here hx rfl (hb hby at_132) rfl rfl ?_
    show Steps p.tables e below (T172.setTop (mkF m 133 #[.val (.int p1), .unset, .unset, .unset, .unset, .unset] [(.ref b2), (.ref b2)])) _
    refine XS.bipush X172.here hx rfl (hb hby at_133) ?_
    exact kt)
  have f176 : Old Z n0 h172 := (f167.wr W172 (Nat.le_trans Z0 (Nat.le_trans (Keep.refl h0 []).1 (Nat.le_of_eq g2.symm))))
  have f177 : Sta Z h172 "com/example/fourfold/fourfold/Term" "META_WHAT" "Lcom/example/fourfold/fourfold/Term;" (.ref t19) := Sta.ext f176.2 pr20
  obtain ⟨T178, X178, e178, st178⟩ := getS2 X172 hx hZ hown (host := "") (Or.inl (hw _ (List.mem_of_getElem? (i := 42) rfl))) Via.refl e172 f177 (g := (mkF m 135 #[.val (.int p1), .unset, .unset, .unset, .unset, .unset] [(.int (19 : Int32)), (.ref b2), (.ref b2)])) rfl (hb hby at_135)
  have K179 : Gx p e below s₁ f0 T178 (mkF m 138 #[.val (.int p1), .unset, .unset, .unset, .unset, .unset] [(.ref t19), (.int (19 : Int32)), (.ref b2), (.ref b2)]) := fun t kt => K175 t (st178 t kt)
  obtain ⟨clq180, Arq180, ckq180, cSq180, cNq180, cHq180, cGq180⟩ := id V172
  have f182 : Exa Z h172 t19 "com/example/fourfold/fourfold/Term" := pr59.ext f176.2
  obtain ⟨T181, h181, X181', e181, W181, st181⟩ := stR X178 hx hZ e178 Arq180 (j := (19 : Int32)) (inb_of cSq180 ⟨by decide, by decide⟩) rfl (Sto.ofV Arq180 ckq180 O2 (Ins.self f182)) (g := (mkF m 138 #[.val (.int p1), .unset, .unset, .unset, .unset, .unset] [(.ref t19), (.int (19 : Int32)), (.ref b2), (.ref b2)])) rfl rfl (hb hby at_138)
  obtain ⟨lc181, X181, N181⟩ : ∃ lc, Stand p l e room_1 s m #[(.int p1)] below meth c T181 lc 1 39 ∧ Fr n0 lc := ⟨_, X181', Fr.snoc X181' N172 (Nat.le_trans Z0 (Nat.le_trans (Keep.refl h0 []).1 (Nat.le_of_eq g2.symm)))⟩
  have V181 : Arv Z h181 b2 k2 (.object "com/example/fourfold/fourfold/Term") (39 : Int32) [(.ref t0), (.ref t1), (.ref t2), (.ref t3), (.ref t4), (.ref t5), (.ref t6), (.ref t7), (.ref t8), (.ref t9), (.ref t10), (.ref t11), (.ref t12), (.ref t13), (.ref t14), (.ref t15), (.ref t16), (.ref t17), (.ref t18), (.ref t19), .null, .null, .null, .null, .null, .null, .null, .null, .null, .null, .null, .null, .null, .null, .null, .null, .null, .null, .null] .null := Arv.set Arq180 ckq180 cSq180 cNq180 cHq180 cGq180 rfl W181 19 rfl (Nat.le_of_ble_eq_true rfl)
  have K183 : Gx p e below s₁ f0 T181 (mkF m 139 #[.val (.int p1), .unset, .unset, .unset, .unset, .unset] [(.ref b2)]) := fun t kt => K179 t (st181 t kt)
  have K184 : Gx p e below s₁ f0 T181 (mkF m 142 #[.val (.int p1), .unset, .unset, .unset, .unset, .unset] [(.int (20 : Int32)), (.ref b2), (.ref b2)]) := fun t kt => K183 t (by
    show Steps p.tables e below (T181.setTop (mkF m 139 #[.val (.int p1), .unset, .unset, .unset, .unset, .unset] [(.ref b2)])) _
    refine XS.dup X181.here hx rfl (hb hby at_139) rfl rfl ?_
    show Steps p.tables e below (T181.setTop (mkF m 140 #[.val (.int p1), .unset, .unset, .unset, .unset, .unset] [(.ref b2), (.ref b2)])) _
    refine XS.bipush X181.here hx rfl (hb hby at_140) ?_
    exact kt)
  have f185 : Old Z n0 h181 := (f176.wr W181 (Nat.le_trans Z0 (Nat.le_trans (Keep.refl h0 []).1 (Nat.le_of_eq g2.symm))))
  have f186 : Sta Z h181 "com/example/fourfold/fourfold/Term" "META_WHEN" "Lcom/example/fourfold/fourfold/Term;" (.ref t20) := Sta.ext f185.2 pr21
  obtain ⟨T187, X187, e187, st187⟩ := getS2 X181 hx hZ hown (host := "") (Or.inl (hw _ (List.mem_of_getElem? (i := 44) rfl))) Via.refl e181 f186 (g := (mkF m 142 #[.val (.int p1), .unset, .unset, .unset, .unset, .unset] [(.int (20 : Int32)), (.ref b2), (.ref b2)])) rfl (hb hby at_142)
  have K188 : Gx p e below s₁ f0 T187 (mkF m 145 #[.val (.int p1), .unset, .unset, .unset, .unset, .unset] [(.ref t20), (.int (20 : Int32)), (.ref b2), (.ref b2)]) := fun t kt => K184 t (st187 t kt)
  obtain ⟨clq189, Arq189, ckq189, cSq189, cNq189, cHq189, cGq189⟩ := id V181
  have f191 : Exa Z h181 t20 "com/example/fourfold/fourfold/Term" := pr60.ext f185.2
  obtain ⟨T190, h190, X190', e190, W190, st190⟩ := stR X187 hx hZ e187 Arq189 (j := (20 : Int32)) (inb_of cSq189 ⟨by decide, by decide⟩) rfl (Sto.ofV Arq189 ckq189 O2 (Ins.self f191)) (g := (mkF m 145 #[.val (.int p1), .unset, .unset, .unset, .unset, .unset] [(.ref t20), (.int (20 : Int32)), (.ref b2), (.ref b2)])) rfl rfl (hb hby at_145)
  obtain ⟨lc190, X190, N190⟩ : ∃ lc, Stand p l e room_1 s m #[(.int p1)] below meth c T190 lc 1 39 ∧ Fr n0 lc := ⟨_, X190', Fr.snoc X190' N181 (Nat.le_trans Z0 (Nat.le_trans (Keep.refl h0 []).1 (Nat.le_of_eq g2.symm)))⟩
  have V190 : Arv Z h190 b2 k2 (.object "com/example/fourfold/fourfold/Term") (39 : Int32) [(.ref t0), (.ref t1), (.ref t2), (.ref t3), (.ref t4), (.ref t5), (.ref t6), (.ref t7), (.ref t8), (.ref t9), (.ref t10), (.ref t11), (.ref t12), (.ref t13), (.ref t14), (.ref t15), (.ref t16), (.ref t17), (.ref t18), (.ref t19), (.ref t20), .null, .null, .null, .null, .null, .null, .null, .null, .null, .null, .null, .null, .null, .null, .null, .null, .null, .null] .null := Arv.set Arq189 ckq189 cSq189 cNq189 cHq189 cGq189 rfl W190 20 rfl (Nat.le_of_ble_eq_true rfl)
  have K192 : Gx p e below s₁ f0 T190 (mkF m 146 #[.val (.int p1), .unset, .unset, .unset, .unset, .unset] [(.ref b2)]) := fun t kt => K188 t (st190 t kt)
  have K193 : Gx p e below s₁ f0 T190 (mkF m 149 #[.val (.int p1), .unset, .unset, .unset, .unset, .unset] [(.int (21 : Int32)), (.ref b2), (.ref b2)]) := fun t kt => K192 t (by
    show Steps p.tables e below (T190.setTop (mkF m 146 #[.val (.int p1), .unset, .unset, .unset, .unset, .unset] [(.ref b2)])) _
    refine XS.dup X190.here hx rfl (hb hby at_146) rfl rfl ?_
    show Steps p.tables e below (T190.setTop (mkF m 147 #[.val (.int p1), .unset, .unset, .unset, .unset, .unset] [(.ref b2), (.ref b2)])) _
    refine XS.bipush X190.here hx rfl (hb hby at_147) ?_
    exact kt)
  have f194 : Old Z n0 h190 := (f185.wr W190 (Nat.le_trans Z0 (Nat.le_trans (Keep.refl h0 []).1 (Nat.le_of_eq g2.symm))))
  have f195 : Sta Z h190 "com/example/fourfold/fourfold/Term" "META_WHERE" "Lcom/example/fourfold/fourfold/Term;" (.ref t21) := Sta.ext f194.2 pr22
  obtain ⟨T196, X196, e196, st196⟩ := getS2 X190 hx hZ hown (host := "") (Or.inl (hw _ (List.mem_of_getElem? (i := 46) rfl))) Via.refl e190 f195 (g := (mkF m 149 #[.val (.int p1), .unset, .unset, .unset, .unset, .unset] [(.int (21 : Int32)), (.ref b2), (.ref b2)])) rfl (hb hby at_149)
  have K197 : Gx p e below s₁ f0 T196 (mkF m 152 #[.val (.int p1), .unset, .unset, .unset, .unset, .unset] [(.ref t21), (.int (21 : Int32)), (.ref b2), (.ref b2)]) := fun t kt => K193 t (st196 t kt)
  obtain ⟨clq198, Arq198, ckq198, cSq198, cNq198, cHq198, cGq198⟩ := id V190
  have f200 : Exa Z h190 t21 "com/example/fourfold/fourfold/Term" := pr61.ext f194.2
  obtain ⟨T199, h199, X199', e199, W199, st199⟩ := stR X196 hx hZ e196 Arq198 (j := (21 : Int32)) (inb_of cSq198 ⟨by decide, by decide⟩) rfl (Sto.ofV Arq198 ckq198 O2 (Ins.self f200)) (g := (mkF m 152 #[.val (.int p1), .unset, .unset, .unset, .unset, .unset] [(.ref t21), (.int (21 : Int32)), (.ref b2), (.ref b2)])) rfl rfl (hb hby at_152)
  obtain ⟨lc199, X199, N199⟩ : ∃ lc, Stand p l e room_1 s m #[(.int p1)] below meth c T199 lc 1 39 ∧ Fr n0 lc := ⟨_, X199', Fr.snoc X199' N190 (Nat.le_trans Z0 (Nat.le_trans (Keep.refl h0 []).1 (Nat.le_of_eq g2.symm)))⟩
  have V199 : Arv Z h199 b2 k2 (.object "com/example/fourfold/fourfold/Term") (39 : Int32) [(.ref t0), (.ref t1), (.ref t2), (.ref t3), (.ref t4), (.ref t5), (.ref t6), (.ref t7), (.ref t8), (.ref t9), (.ref t10), (.ref t11), (.ref t12), (.ref t13), (.ref t14), (.ref t15), (.ref t16), (.ref t17), (.ref t18), (.ref t19), (.ref t20), (.ref t21), .null, .null, .null, .null, .null, .null, .null, .null, .null, .null, .null, .null, .null, .null, .null, .null, .null] .null := Arv.set Arq198 ckq198 cSq198 cNq198 cHq198 cGq198 rfl W199 21 rfl (Nat.le_of_ble_eq_true rfl)
  have K201 : Gx p e below s₁ f0 T199 (mkF m 153 #[.val (.int p1), .unset, .unset, .unset, .unset, .unset] [(.ref b2)]) := fun t kt => K197 t (st199 t kt)
  have K202 : Gx p e below s₁ f0 T199 (mkF m 156 #[.val (.int p1), .unset, .unset, .unset, .unset, .unset] [(.int (22 : Int32)), (.ref b2), (.ref b2)]) := fun t kt => K201 t (by
    show Steps p.tables e below (T199.setTop (mkF m 153 #[.val (.int p1), .unset, .unset, .unset, .unset, .unset] [(.ref b2)])) _
    refine XS.dup X199.here hx rfl (hb hby at_153) rfl rfl ?_
    show Steps p.tables e below (T199.setTop (mkF m 154 #[.val (.int p1), .unset, .unset, .unset, .unset, .unset] [(.ref b2), (.ref b2)])) _
    refine XS.bipush X199.here hx rfl (hb hby at_154) ?_
    exact kt)
  have f203 : Old Z n0 h199 := (f194.wr W199 (Nat.le_trans Z0 (Nat.le_trans (Keep.refl h0 []).1 (Nat.le_of_eq g2.symm))))
  have f204 : Sta Z h199 "com/example/fourfold/fourfold/Term" "TITLE" "Lcom/example/fourfold/fourfold/Term;" (.ref t22) := Sta.ext f203.2 pr23
  obtain ⟨T205, X205, e205, st205⟩ := getS2 X199 hx hZ hown (host := "") (Or.inl (hw _ (List.mem_of_getElem? (i := 48) rfl))) Via.refl e199 f204 (g := (mkF m 156 #[.val (.int p1), .unset, .unset, .unset, .unset, .unset] [(.int (22 : Int32)), (.ref b2), (.ref b2)])) rfl (hb hby at_156)
  have K206 : Gx p e below s₁ f0 T205 (mkF m 159 #[.val (.int p1), .unset, .unset, .unset, .unset, .unset] [(.ref t22), (.int (22 : Int32)), (.ref b2), (.ref b2)]) := fun t kt => K202 t (st205 t kt)
  obtain ⟨clq207, Arq207, ckq207, cSq207, cNq207, cHq207, cGq207⟩ := id V199
  have f209 : Exa Z h199 t22 "com/example/fourfold/fourfold/Term" := pr62.ext f203.2
  obtain ⟨T208, h208, X208', e208, W208, st208⟩ := stR X205 hx hZ e205 Arq207 (j := (22 : Int32)) (inb_of cSq207 ⟨by decide, by decide⟩) rfl (Sto.ofV Arq207 ckq207 O2 (Ins.self f209)) (g := (mkF m 159 #[.val (.int p1), .unset, .unset, .unset, .unset, .unset] [(.ref t22), (.int (22 : Int32)), (.ref b2), (.ref b2)])) rfl rfl (hb hby at_159)
  obtain ⟨lc208, X208, N208⟩ : ∃ lc, Stand p l e room_1 s m #[(.int p1)] below meth c T208 lc 1 39 ∧ Fr n0 lc := ⟨_, X208', Fr.snoc X208' N199 (Nat.le_trans Z0 (Nat.le_trans (Keep.refl h0 []).1 (Nat.le_of_eq g2.symm)))⟩
  have V208 : Arv Z h208 b2 k2 (.object "com/example/fourfold/fourfold/Term") (39 : Int32) [(.ref t0), (.ref t1), (.ref t2), (.ref t3), (.ref t4), (.ref t5), (.ref t6), (.ref t7), (.ref t8), (.ref t9), (.ref t10), (.ref t11), (.ref t12), (.ref t13), (.ref t14), (.ref t15), (.ref t16), (.ref t17), (.ref t18), (.ref t19), (.ref t20), (.ref t21), (.ref t22), .null, .null, .null, .null, .null, .null, .null, .null, .null, .null, .null, .null, .null, .null, .null, .null] .null := Arv.set Arq207 ckq207 cSq207 cNq207 cHq207 cGq207 rfl W208 22 rfl (Nat.le_of_ble_eq_true rfl)
  have K210 : Gx p e below s₁ f0 T208 (mkF m 160 #[.val (.int p1), .unset, .unset, .unset, .unset, .unset] [(.ref b2)]) := fun t kt => K206 t (st208 t kt)
  have K211 : Gx p e below s₁ f0 T208 (mkF m 163 #[.val (.int p1), .unset, .unset, .unset, .unset, .unset] [(.int (23 : Int32)), (.ref b2), (.ref b2)]) := fun t kt => K210 t (by
    show Steps p.tables e below (T208.setTop (mkF m 160 #[.val (.int p1), .unset, .unset, .unset, .unset, .unset] [(.ref b2)])) _
    refine XS.dup X208.here hx rfl (hb hby at_160) rfl rfl ?_
    show Steps p.tables e below (T208.setTop (mkF m 161 #[.val (.int p1), .unset, .unset, .unset, .unset, .unset] [(.ref b2), (.ref b2)])) _
    refine XS.bipush X208.here hx rfl (hb hby at_161) ?_
    exact kt)
  have f212 : Old Z n0 h208 := (f203.wr W208 (Nat.le_trans Z0 (Nat.le_trans (Keep.refl h0 []).1 (Nat.le_of_eq g2.symm))))
  have f213 : Sta Z h208 "com/example/fourfold/fourfold/Term" "CREATOR" "Lcom/example/fourfold/fourfold/Term;" (.ref t23) := Sta.ext f212.2 pr24
  obtain ⟨T214, X214, e214, st214⟩ := getS2 X208 hx hZ hown (host := "") (Or.inl (hw _ (List.mem_of_getElem? (i := 50) rfl))) Via.refl e208 f213 (g := (mkF m 163 #[.val (.int p1), .unset, .unset, .unset, .unset, .unset] [(.int (23 : Int32)), (.ref b2), (.ref b2)])) rfl (hb hby at_163)
  have K215 : Gx p e below s₁ f0 T214 (mkF m 166 #[.val (.int p1), .unset, .unset, .unset, .unset, .unset] [(.ref t23), (.int (23 : Int32)), (.ref b2), (.ref b2)]) := fun t kt => K211 t (st214 t kt)
  obtain ⟨clq216, Arq216, ckq216, cSq216, cNq216, cHq216, cGq216⟩ := id V208
  have f218 : Exa Z h208 t23 "com/example/fourfold/fourfold/Term" := pr63.ext f212.2
  obtain ⟨T217, h217, X217', e217, W217, st217⟩ := stR X214 hx hZ e214 Arq216 (j := (23 : Int32)) (inb_of cSq216 ⟨by decide, by decide⟩) rfl (Sto.ofV Arq216 ckq216 O2 (Ins.self f218)) (g := (mkF m 166 #[.val (.int p1), .unset, .unset, .unset, .unset, .unset] [(.ref t23), (.int (23 : Int32)), (.ref b2), (.ref b2)])) rfl rfl (hb hby at_166)
  obtain ⟨lc217, X217, N217⟩ : ∃ lc, Stand p l e room_1 s m #[(.int p1)] below meth c T217 lc 1 39 ∧ Fr n0 lc := ⟨_, X217', Fr.snoc X217' N208 (Nat.le_trans Z0 (Nat.le_trans (Keep.refl h0 []).1 (Nat.le_of_eq g2.symm)))⟩
  have V217 : Arv Z h217 b2 k2 (.object "com/example/fourfold/fourfold/Term") (39 : Int32) [(.ref t0), (.ref t1), (.ref t2), (.ref t3), (.ref t4), (.ref t5), (.ref t6), (.ref t7), (.ref t8), (.ref t9), (.ref t10), (.ref t11), (.ref t12), (.ref t13), (.ref t14), (.ref t15), (.ref t16), (.ref t17), (.ref t18), (.ref t19), (.ref t20), (.ref t21), (.ref t22), (.ref t23), .null, .null, .null, .null, .null, .null, .null, .null, .null, .null, .null, .null, .null, .null, .null] .null := Arv.set Arq216 ckq216 cSq216 cNq216 cHq216 cGq216 rfl W217 23 rfl (Nat.le_of_ble_eq_true rfl)
  have K219 : Gx p e below s₁ f0 T217 (mkF m 167 #[.val (.int p1), .unset, .unset, .unset, .unset, .unset] [(.ref b2)]) := fun t kt => K215 t (st217 t kt)
  have K220 : Gx p e below s₁ f0 T217 (mkF m 170 #[.val (.int p1), .unset, .unset, .unset, .unset, .unset] [(.int (24 : Int32)), (.ref b2), (.ref b2)]) := fun t kt => K219 t (by
    show Steps p.tables e below (T217.setTop (mkF m 167 #[.val (.int p1), .unset, .unset, .unset, .unset, .unset] [(.ref b2)])) _
    refine XS.dup X217.here hx rfl (hb hby at_167) rfl rfl ?_
    show Steps p.tables e below (T217.setTop (mkF m 168 #[.val (.int p1), .unset, .unset, .unset, .unset, .unset] [(.ref b2), (.ref b2)])) _
    refine XS.bipush X217.here hx rfl (hb hby at_168) ?_
    exact kt)
  have f221 : Old Z n0 h217 := (f212.wr W217 (Nat.le_trans Z0 (Nat.le_trans (Keep.refl h0 []).1 (Nat.le_of_eq g2.symm))))
  have f222 : Sta Z h217 "com/example/fourfold/fourfold/Term" "SUBJECT" "Lcom/example/fourfold/fourfold/Term;" (.ref t24) := Sta.ext f221.2 pr25
  obtain ⟨T223, X223, e223, st223⟩ := getS2 X217 hx hZ hown (host := "") (Or.inl (hw _ (List.mem_of_getElem? (i := 52) rfl))) Via.refl e217 f222 (g := (mkF m 170 #[.val (.int p1), .unset, .unset, .unset, .unset, .unset] [(.int (24 : Int32)), (.ref b2), (.ref b2)])) rfl (hb hby at_170)
  have K224 : Gx p e below s₁ f0 T223 (mkF m 173 #[.val (.int p1), .unset, .unset, .unset, .unset, .unset] [(.ref t24), (.int (24 : Int32)), (.ref b2), (.ref b2)]) := fun t kt => K220 t (st223 t kt)
  obtain ⟨clq225, Arq225, ckq225, cSq225, cNq225, cHq225, cGq225⟩ := id V217
  have f227 : Exa Z h217 t24 "com/example/fourfold/fourfold/Term" := pr64.ext f221.2
  obtain ⟨T226, h226, X226', e226, W226, st226⟩ := stR X223 hx hZ e223 Arq225 (j := (24 : Int32)) (inb_of cSq225 ⟨by decide, by decide⟩) rfl (Sto.ofV Arq225 ckq225 O2 (Ins.self f227)) (g := (mkF m 173 #[.val (.int p1), .unset, .unset, .unset, .unset, .unset] [(.ref t24), (.int (24 : Int32)), (.ref b2), (.ref b2)])) rfl rfl (hb hby at_173)
  obtain ⟨lc226, X226, N226⟩ : ∃ lc, Stand p l e room_1 s m #[(.int p1)] below meth c T226 lc 1 39 ∧ Fr n0 lc := ⟨_, X226', Fr.snoc X226' N217 (Nat.le_trans Z0 (Nat.le_trans (Keep.refl h0 []).1 (Nat.le_of_eq g2.symm)))⟩
  have V226 : Arv Z h226 b2 k2 (.object "com/example/fourfold/fourfold/Term") (39 : Int32) [(.ref t0), (.ref t1), (.ref t2), (.ref t3), (.ref t4), (.ref t5), (.ref t6), (.ref t7), (.ref t8), (.ref t9), (.ref t10), (.ref t11), (.ref t12), (.ref t13), (.ref t14), (.ref t15), (.ref t16), (.ref t17), (.ref t18), (.ref t19), (.ref t20), (.ref t21), (.ref t22), (.ref t23), (.ref t24), .null, .null, .null, .null, .null, .null, .null, .null, .null, .null, .null, .null, .null, .null] .null := Arv.set Arq225 ckq225 cSq225 cNq225 cHq225 cGq225 rfl W226 24 rfl (Nat.le_of_ble_eq_true rfl)
  have K228 : Gx p e below s₁ f0 T226 (mkF m 174 #[.val (.int p1), .unset, .unset, .unset, .unset, .unset] [(.ref b2)]) := fun t kt => K224 t (st226 t kt)
  have K229 : Gx p e below s₁ f0 T226 (mkF m 177 #[.val (.int p1), .unset, .unset, .unset, .unset, .unset] [(.int (25 : Int32)), (.ref b2), (.ref b2)]) := fun t kt => K228 t (by
    show Steps p.tables e below (T226.setTop (mkF m 174 #[.val (.int p1), .unset, .unset, .unset, .unset, .unset] [(.ref b2)])) _
    refine XS.dup X226.here hx rfl (hb hby at_174) rfl rfl ?_
    show Steps p.tables e below (T226.setTop (mkF m 175 #[.val (.int p1), .unset, .unset, .unset, .unset, .unset] [(.ref b2), (.ref b2)])) _
    refine XS.bipush X226.here hx rfl (hb hby at_175) ?_
    exact kt)
  have f230 : Old Z n0 h226 := (f221.wr W226 (Nat.le_trans Z0 (Nat.le_trans (Keep.refl h0 []).1 (Nat.le_of_eq g2.symm))))
  have f231 : Sta Z h226 "com/example/fourfold/fourfold/Term" "DESCRIPTION" "Lcom/example/fourfold/fourfold/Term;" (.ref t25) := Sta.ext f230.2 pr26
  obtain ⟨T232, X232, e232, st232⟩ := getS2 X226 hx hZ hown (host := "") (Or.inl (hw _ (List.mem_of_getElem? (i := 54) rfl))) Via.refl e226 f231 (g := (mkF m 177 #[.val (.int p1), .unset, .unset, .unset, .unset, .unset] [(.int (25 : Int32)), (.ref b2), (.ref b2)])) rfl (hb hby at_177)
  have K233 : Gx p e below s₁ f0 T232 (mkF m 180 #[.val (.int p1), .unset, .unset, .unset, .unset, .unset] [(.ref t25), (.int (25 : Int32)), (.ref b2), (.ref b2)]) := fun t kt => K229 t (st232 t kt)
  obtain ⟨clq234, Arq234, ckq234, cSq234, cNq234, cHq234, cGq234⟩ := id V226
  have f236 : Exa Z h226 t25 "com/example/fourfold/fourfold/Term" := pr65.ext f230.2
  obtain ⟨T235, h235, X235', e235, W235, st235⟩ := stR X232 hx hZ e232 Arq234 (j := (25 : Int32)) (inb_of cSq234 ⟨by decide, by decide⟩) rfl (Sto.ofV Arq234 ckq234 O2 (Ins.self f236)) (g := (mkF m 180 #[.val (.int p1), .unset, .unset, .unset, .unset, .unset] [(.ref t25), (.int (25 : Int32)), (.ref b2), (.ref b2)])) rfl rfl (hb hby at_180)
  obtain ⟨lc235, X235, N235⟩ : ∃ lc, Stand p l e room_1 s m #[(.int p1)] below meth c T235 lc 1 39 ∧ Fr n0 lc := ⟨_, X235', Fr.snoc X235' N226 (Nat.le_trans Z0 (Nat.le_trans (Keep.refl h0 []).1 (Nat.le_of_eq g2.symm)))⟩
  have V235 : Arv Z h235 b2 k2 (.object "com/example/fourfold/fourfold/Term") (39 : Int32) [(.ref t0), (.ref t1), (.ref t2), (.ref t3), (.ref t4), (.ref t5), (.ref t6), (.ref t7), (.ref t8), (.ref t9), (.ref t10), (.ref t11), (.ref t12), (.ref t13), (.ref t14), (.ref t15), (.ref t16), (.ref t17), (.ref t18), (.ref t19), (.ref t20), (.ref t21), (.ref t22), (.ref t23), (.ref t24), (.ref t25), .null, .null, .null, .null, .null, .null, .null, .null, .null, .null, .null, .null, .null] .null := Arv.set Arq234 ckq234 cSq234 cNq234 cHq234 cGq234 rfl W235 25 rfl (Nat.le_of_ble_eq_true rfl)
  have K237 : Gx p e below s₁ f0 T235 (mkF m 181 #[.val (.int p1), .unset, .unset, .unset, .unset, .unset] [(.ref b2)]) := fun t kt => K233 t (st235 t kt)
  have K238 : Gx p e below s₁ f0 T235 (mkF m 184 #[.val (.int p1), .unset, .unset, .unset, .unset, .unset] [(.int (26 : Int32)), (.ref b2), (.ref b2)]) := fun t kt => K237 t (by
    show Steps p.tables e below (T235.setTop (mkF m 181 #[.val (.int p1), .unset, .unset, .unset, .unset, .unset] [(.ref b2)])) _
    refine XS.dup X235.here hx rfl (hb hby at_181) rfl rfl ?_
    show Steps p.tables e below (T235.setTop (mkF m 182 #[.val (.int p1), .unset, .unset, .unset, .unset, .unset] [(.ref b2), (.ref b2)])) _
    refine XS.bipush X235.here hx rfl (hb hby at_182) ?_
    exact kt)
  have f239 : Old Z n0 h235 := (f230.wr W235 (Nat.le_trans Z0 (Nat.le_trans (Keep.refl h0 []).1 (Nat.le_of_eq g2.symm))))
  have f240 : Sta Z h235 "com/example/fourfold/fourfold/Term" "PUBLISHER" "Lcom/example/fourfold/fourfold/Term;" (.ref t26) := Sta.ext f239.2 pr27
  obtain ⟨T241, X241, e241, st241⟩ := getS2 X235 hx hZ hown (host := "") (Or.inl (hw _ (List.mem_of_getElem? (i := 56) rfl))) Via.refl e235 f240 (g := (mkF m 184 #[.val (.int p1), .unset, .unset, .unset, .unset, .unset] [(.int (26 : Int32)), (.ref b2), (.ref b2)])) rfl (hb hby at_184)
  have K242 : Gx p e below s₁ f0 T241 (mkF m 187 #[.val (.int p1), .unset, .unset, .unset, .unset, .unset] [(.ref t26), (.int (26 : Int32)), (.ref b2), (.ref b2)]) := fun t kt => K238 t (st241 t kt)
  obtain ⟨clq243, Arq243, ckq243, cSq243, cNq243, cHq243, cGq243⟩ := id V235
  have f245 : Exa Z h235 t26 "com/example/fourfold/fourfold/Term" := pr66.ext f239.2
  obtain ⟨T244, h244, X244', e244, W244, st244⟩ := stR X241 hx hZ e241 Arq243 (j := (26 : Int32)) (inb_of cSq243 ⟨by decide, by decide⟩) rfl (Sto.ofV Arq243 ckq243 O2 (Ins.self f245)) (g := (mkF m 187 #[.val (.int p1), .unset, .unset, .unset, .unset, .unset] [(.ref t26), (.int (26 : Int32)), (.ref b2), (.ref b2)])) rfl rfl (hb hby at_187)
  obtain ⟨lc244, X244, N244⟩ : ∃ lc, Stand p l e room_1 s m #[(.int p1)] below meth c T244 lc 1 39 ∧ Fr n0 lc := ⟨_, X244', Fr.snoc X244' N235 (Nat.le_trans Z0 (Nat.le_trans (Keep.refl h0 []).1 (Nat.le_of_eq g2.symm)))⟩
  have V244 : Arv Z h244 b2 k2 (.object "com/example/fourfold/fourfold/Term") (39 : Int32) [(.ref t0), (.ref t1), (.ref t2), (.ref t3), (.ref t4), (.ref t5), (.ref t6), (.ref t7), (.ref t8), (.ref t9), (.ref t10), (.ref t11), (.ref t12), (.ref t13), (.ref t14), (.ref t15), (.ref t16), (.ref t17), (.ref t18), (.ref t19), (.ref t20), (.ref t21), (.ref t22), (.ref t23), (.ref t24), (.ref t25), (.ref t26), .null, .null, .null, .null, .null, .null, .null, .null, .null, .null, .null, .null] .null := Arv.set Arq243 ckq243 cSq243 cNq243 cHq243 cGq243 rfl W244 26 rfl (Nat.le_of_ble_eq_true rfl)
  have K246 : Gx p e below s₁ f0 T244 (mkF m 188 #[.val (.int p1), .unset, .unset, .unset, .unset, .unset] [(.ref b2)]) := fun t kt => K242 t (st244 t kt)
  have K247 : Gx p e below s₁ f0 T244 (mkF m 191 #[.val (.int p1), .unset, .unset, .unset, .unset, .unset] [(.int (27 : Int32)), (.ref b2), (.ref b2)]) := fun t kt => K246 t (by
    show Steps p.tables e below (T244.setTop (mkF m 188 #[.val (.int p1), .unset, .unset, .unset, .unset, .unset] [(.ref b2)])) _
    refine XS.dup X244.here hx rfl (hb hby at_188) rfl rfl ?_
    show Steps p.tables e below (T244.setTop (mkF m 189 #[.val (.int p1), .unset, .unset, .unset, .unset, .unset] [(.ref b2), (.ref b2)])) _
    refine XS.bipush X244.here hx rfl (hb hby at_189) ?_
    exact kt)
  have f248 : Old Z n0 h244 := (f239.wr W244 (Nat.le_trans Z0 (Nat.le_trans (Keep.refl h0 []).1 (Nat.le_of_eq g2.symm))))
  have f249 : Sta Z h244 "com/example/fourfold/fourfold/Term" "CONTRIBUTOR" "Lcom/example/fourfold/fourfold/Term;" (.ref t27) := Sta.ext f248.2 pr28
  obtain ⟨T250, X250, e250, st250⟩ := getS2 X244 hx hZ hown (host := "") (Or.inl (hw _ (List.mem_of_getElem? (i := 58) rfl))) Via.refl e244 f249 (g := (mkF m 191 #[.val (.int p1), .unset, .unset, .unset, .unset, .unset] [(.int (27 : Int32)), (.ref b2), (.ref b2)])) rfl (hb hby at_191)
  have K251 : Gx p e below s₁ f0 T250 (mkF m 194 #[.val (.int p1), .unset, .unset, .unset, .unset, .unset] [(.ref t27), (.int (27 : Int32)), (.ref b2), (.ref b2)]) := fun t kt => K247 t (st250 t kt)
  obtain ⟨clq252, Arq252, ckq252, cSq252, cNq252, cHq252, cGq252⟩ := id V244
  have f254 : Exa Z h244 t27 "com/example/fourfold/fourfold/Term" := pr67.ext f248.2
  obtain ⟨T253, h253, X253', e253, W253, st253⟩ := stR X250 hx hZ e250 Arq252 (j := (27 : Int32)) (inb_of cSq252 ⟨by decide, by decide⟩) rfl (Sto.ofV Arq252 ckq252 O2 (Ins.self f254)) (g := (mkF m 194 #[.val (.int p1), .unset, .unset, .unset, .unset, .unset] [(.ref t27), (.int (27 : Int32)), (.ref b2), (.ref b2)])) rfl rfl (hb hby at_194)
  obtain ⟨lc253, X253, N253⟩ : ∃ lc, Stand p l e room_1 s m #[(.int p1)] below meth c T253 lc 1 39 ∧ Fr n0 lc := ⟨_, X253', Fr.snoc X253' N244 (Nat.le_trans Z0 (Nat.le_trans (Keep.refl h0 []).1 (Nat.le_of_eq g2.symm)))⟩
  have V253 : Arv Z h253 b2 k2 (.object "com/example/fourfold/fourfold/Term") (39 : Int32) [(.ref t0), (.ref t1), (.ref t2), (.ref t3), (.ref t4), (.ref t5), (.ref t6), (.ref t7), (.ref t8), (.ref t9), (.ref t10), (.ref t11), (.ref t12), (.ref t13), (.ref t14), (.ref t15), (.ref t16), (.ref t17), (.ref t18), (.ref t19), (.ref t20), (.ref t21), (.ref t22), (.ref t23), (.ref t24), (.ref t25), (.ref t26), (.ref t27), .null, .null, .null, .null, .null, .null, .null, .null, .null, .null, .null] .null := Arv.set Arq252 ckq252 cSq252 cNq252 cHq252 cGq252 rfl W253 27 rfl (Nat.le_of_ble_eq_true rfl)
  have K255 : Gx p e below s₁ f0 T253 (mkF m 195 #[.val (.int p1), .unset, .unset, .unset, .unset, .unset] [(.ref b2)]) := fun t kt => K251 t (st253 t kt)
  have K256 : Gx p e below s₁ f0 T253 (mkF m 198 #[.val (.int p1), .unset, .unset, .unset, .unset, .unset] [(.int (28 : Int32)), (.ref b2), (.ref b2)]) := fun t kt => K255 t (by
    show Steps p.tables e below (T253.setTop (mkF m 195 #[.val (.int p1), .unset, .unset, .unset, .unset, .unset] [(.ref b2)])) _
    refine XS.dup X253.here hx rfl (hb hby at_195) rfl rfl ?_
    show Steps p.tables e below (T253.setTop (mkF m 196 #[.val (.int p1), .unset, .unset, .unset, .unset, .unset] [(.ref b2), (.ref b2)])) _
    refine XS.bipush X253.here hx rfl (hb hby at_196) ?_
    exact kt)
  have f257 : Old Z n0 h253 := (f248.wr W253 (Nat.le_trans Z0 (Nat.le_trans (Keep.refl h0 []).1 (Nat.le_of_eq g2.symm))))
  have f258 : Sta Z h253 "com/example/fourfold/fourfold/Term" "DATE" "Lcom/example/fourfold/fourfold/Term;" (.ref t28) := Sta.ext f257.2 pr29
  obtain ⟨T259, X259, e259, st259⟩ := getS2 X253 hx hZ hown (host := "") (Or.inl (hw _ (List.mem_of_getElem? (i := 60) rfl))) Via.refl e253 f258 (g := (mkF m 198 #[.val (.int p1), .unset, .unset, .unset, .unset, .unset] [(.int (28 : Int32)), (.ref b2), (.ref b2)])) rfl (hb hby at_198)
  have K260 : Gx p e below s₁ f0 T259 (mkF m 201 #[.val (.int p1), .unset, .unset, .unset, .unset, .unset] [(.ref t28), (.int (28 : Int32)), (.ref b2), (.ref b2)]) := fun t kt => K256 t (st259 t kt)
  obtain ⟨clq261, Arq261, ckq261, cSq261, cNq261, cHq261, cGq261⟩ := id V253
  have f263 : Exa Z h253 t28 "com/example/fourfold/fourfold/Term" := pr68.ext f257.2
  obtain ⟨T262, h262, X262', e262, W262, st262⟩ := stR X259 hx hZ e259 Arq261 (j := (28 : Int32)) (inb_of cSq261 ⟨by decide, by decide⟩) rfl (Sto.ofV Arq261 ckq261 O2 (Ins.self f263)) (g := (mkF m 201 #[.val (.int p1), .unset, .unset, .unset, .unset, .unset] [(.ref t28), (.int (28 : Int32)), (.ref b2), (.ref b2)])) rfl rfl (hb hby at_201)
  obtain ⟨lc262, X262, N262⟩ : ∃ lc, Stand p l e room_1 s m #[(.int p1)] below meth c T262 lc 1 39 ∧ Fr n0 lc := ⟨_, X262', Fr.snoc X262' N253 (Nat.le_trans Z0 (Nat.le_trans (Keep.refl h0 []).1 (Nat.le_of_eq g2.symm)))⟩
  have V262 : Arv Z h262 b2 k2 (.object "com/example/fourfold/fourfold/Term") (39 : Int32) [(.ref t0), (.ref t1), (.ref t2), (.ref t3), (.ref t4), (.ref t5), (.ref t6), (.ref t7), (.ref t8), (.ref t9), (.ref t10), (.ref t11), (.ref t12), (.ref t13), (.ref t14), (.ref t15), (.ref t16), (.ref t17), (.ref t18), (.ref t19), (.ref t20), (.ref t21), (.ref t22), (.ref t23), (.ref t24), (.ref t25), (.ref t26), (.ref t27), (.ref t28), .null, .null, .null, .null, .null, .null, .null, .null, .null, .null] .null := Arv.set Arq261 ckq261 cSq261 cNq261 cHq261 cGq261 rfl W262 28 rfl (Nat.le_of_ble_eq_true rfl)
  have K264 : Gx p e below s₁ f0 T262 (mkF m 202 #[.val (.int p1), .unset, .unset, .unset, .unset, .unset] [(.ref b2)]) := fun t kt => K260 t (st262 t kt)
  have K265 : Gx p e below s₁ f0 T262 (mkF m 205 #[.val (.int p1), .unset, .unset, .unset, .unset, .unset] [(.int (29 : Int32)), (.ref b2), (.ref b2)]) := fun t kt => K264 t (by
    show Steps p.tables e below (T262.setTop (mkF m 202 #[.val (.int p1), .unset, .unset, .unset, .unset, .unset] [(.ref b2)])) _
    refine XS.dup X262.here hx rfl (hb hby at_202) rfl rfl ?_
    show Steps p.tables e below (T262.setTop (mkF m 203 #[.val (.int p1), .unset, .unset, .unset, .unset, .unset] [(.ref b2), (.ref b2)])) _
    refine XS.bipush X262.here hx rfl (hb hby at_203) ?_
    exact kt)
  have f266 : Old Z n0 h262 := (f257.wr W262 (Nat.le_trans Z0 (Nat.le_trans (Keep.refl h0 []).1 (Nat.le_of_eq g2.symm))))
  have f267 : Sta Z h262 "com/example/fourfold/fourfold/Term" "TYPE" "Lcom/example/fourfold/fourfold/Term;" (.ref t29) := Sta.ext f266.2 pr30
  obtain ⟨T268, X268, e268, st268⟩ := getS2 X262 hx hZ hown (host := "") (Or.inl (hw _ (List.mem_of_getElem? (i := 62) rfl))) Via.refl e262 f267 (g := (mkF m 205 #[.val (.int p1), .unset, .unset, .unset, .unset, .unset] [(.int (29 : Int32)), (.ref b2), (.ref b2)])) rfl (hb hby at_205)
  have K269 : Gx p e below s₁ f0 T268 (mkF m 208 #[.val (.int p1), .unset, .unset, .unset, .unset, .unset] [(.ref t29), (.int (29 : Int32)), (.ref b2), (.ref b2)]) := fun t kt => K265 t (st268 t kt)
  obtain ⟨clq270, Arq270, ckq270, cSq270, cNq270, cHq270, cGq270⟩ := id V262
  have f272 : Exa Z h262 t29 "com/example/fourfold/fourfold/Term" := pr69.ext f266.2
  obtain ⟨T271, h271, X271', e271, W271, st271⟩ := stR X268 hx hZ e268 Arq270 (j := (29 : Int32)) (inb_of cSq270 ⟨by decide, by decide⟩) rfl (Sto.ofV Arq270 ckq270 O2 (Ins.self f272)) (g := (mkF m 208 #[.val (.int p1), .unset, .unset, .unset, .unset, .unset] [(.ref t29), (.int (29 : Int32)), (.ref b2), (.ref b2)])) rfl rfl (hb hby at_208)
  obtain ⟨lc271, X271, N271⟩ : ∃ lc, Stand p l e room_1 s m #[(.int p1)] below meth c T271 lc 1 39 ∧ Fr n0 lc := ⟨_, X271', Fr.snoc X271' N262 (Nat.le_trans Z0 (Nat.le_trans (Keep.refl h0 []).1 (Nat.le_of_eq g2.symm)))⟩
  have V271 : Arv Z h271 b2 k2 (.object "com/example/fourfold/fourfold/Term") (39 : Int32) [(.ref t0), (.ref t1), (.ref t2), (.ref t3), (.ref t4), (.ref t5), (.ref t6), (.ref t7), (.ref t8), (.ref t9), (.ref t10), (.ref t11), (.ref t12), (.ref t13), (.ref t14), (.ref t15), (.ref t16), (.ref t17), (.ref t18), (.ref t19), (.ref t20), (.ref t21), (.ref t22), (.ref t23), (.ref t24), (.ref t25), (.ref t26), (.ref t27), (.ref t28), (.ref t29), .null, .null, .null, .null, .null, .null, .null, .null, .null] .null := Arv.set Arq270 ckq270 cSq270 cNq270 cHq270 cGq270 rfl W271 29 rfl (Nat.le_of_ble_eq_true rfl)
  have K273 : Gx p e below s₁ f0 T271 (mkF m 209 #[.val (.int p1), .unset, .unset, .unset, .unset, .unset] [(.ref b2)]) := fun t kt => K269 t (st271 t kt)
  have K274 : Gx p e below s₁ f0 T271 (mkF m 212 #[.val (.int p1), .unset, .unset, .unset, .unset, .unset] [(.int (30 : Int32)), (.ref b2), (.ref b2)]) := fun t kt => K273 t (by
    show Steps p.tables e below (T271.setTop (mkF m 209 #[.val (.int p1), .unset, .unset, .unset, .unset, .unset] [(.ref b2)])) _
    refine XS.dup X271.here hx rfl (hb hby at_209) rfl rfl ?_
    show Steps p.tables e below (T271.setTop (mkF m 210 #[.val (.int p1), .unset, .unset, .unset, .unset, .unset] [(.ref b2), (.ref b2)])) _
    refine XS.bipush X271.here hx rfl (hb hby at_210) ?_
    exact kt)
  have f275 : Old Z n0 h271 := (f266.wr W271 (Nat.le_trans Z0 (Nat.le_trans (Keep.refl h0 []).1 (Nat.le_of_eq g2.symm))))
  have f276 : Sta Z h271 "com/example/fourfold/fourfold/Term" "FORMAT" "Lcom/example/fourfold/fourfold/Term;" (.ref t30) := Sta.ext f275.2 pr31
  obtain ⟨T277, X277, e277, st277⟩ := getS2 X271 hx hZ hown (host := "") (Or.inl (hw _ (List.mem_of_getElem? (i := 64) rfl))) Via.refl e271 f276 (g := (mkF m 212 #[.val (.int p1), .unset, .unset, .unset, .unset, .unset] [(.int (30 : Int32)), (.ref b2), (.ref b2)])) rfl (hb hby at_212)
  have K278 : Gx p e below s₁ f0 T277 (mkF m 215 #[.val (.int p1), .unset, .unset, .unset, .unset, .unset] [(.ref t30), (.int (30 : Int32)), (.ref b2), (.ref b2)]) := fun t kt => K274 t (st277 t kt)
  obtain ⟨clq279, Arq279, ckq279, cSq279, cNq279, cHq279, cGq279⟩ := id V271
  have f281 : Exa Z h271 t30 "com/example/fourfold/fourfold/Term" := pr70.ext f275.2
  obtain ⟨T280, h280, X280', e280, W280, st280⟩ := stR X277 hx hZ e277 Arq279 (j := (30 : Int32)) (inb_of cSq279 ⟨by decide, by decide⟩) rfl (Sto.ofV Arq279 ckq279 O2 (Ins.self f281)) (g := (mkF m 215 #[.val (.int p1), .unset, .unset, .unset, .unset, .unset] [(.ref t30), (.int (30 : Int32)), (.ref b2), (.ref b2)])) rfl rfl (hb hby at_215)
  obtain ⟨lc280, X280, N280⟩ : ∃ lc, Stand p l e room_1 s m #[(.int p1)] below meth c T280 lc 1 39 ∧ Fr n0 lc := ⟨_, X280', Fr.snoc X280' N271 (Nat.le_trans Z0 (Nat.le_trans (Keep.refl h0 []).1 (Nat.le_of_eq g2.symm)))⟩
  have V280 : Arv Z h280 b2 k2 (.object "com/example/fourfold/fourfold/Term") (39 : Int32) [(.ref t0), (.ref t1), (.ref t2), (.ref t3), (.ref t4), (.ref t5), (.ref t6), (.ref t7), (.ref t8), (.ref t9), (.ref t10), (.ref t11), (.ref t12), (.ref t13), (.ref t14), (.ref t15), (.ref t16), (.ref t17), (.ref t18), (.ref t19), (.ref t20), (.ref t21), (.ref t22), (.ref t23), (.ref t24), (.ref t25), (.ref t26), (.ref t27), (.ref t28), (.ref t29), (.ref t30), .null, .null, .null, .null, .null, .null, .null, .null] .null := Arv.set Arq279 ckq279 cSq279 cNq279 cHq279 cGq279 rfl W280 30 rfl (Nat.le_of_ble_eq_true rfl)
  have K282 : Gx p e below s₁ f0 T280 (mkF m 216 #[.val (.int p1), .unset, .unset, .unset, .unset, .unset] [(.ref b2)]) := fun t kt => K278 t (st280 t kt)
  have K283 : Gx p e below s₁ f0 T280 (mkF m 219 #[.val (.int p1), .unset, .unset, .unset, .unset, .unset] [(.int (31 : Int32)), (.ref b2), (.ref b2)]) := fun t kt => K282 t (by
    show Steps p.tables e below (T280.setTop (mkF m 216 #[.val (.int p1), .unset, .unset, .unset, .unset, .unset] [(.ref b2)])) _
    refine XS.dup X280.here hx rfl (hb hby at_216) rfl rfl ?_
    show Steps p.tables e below (T280.setTop (mkF m 217 #[.val (.int p1), .unset, .unset, .unset, .unset, .unset] [(.ref b2), (.ref b2)])) _
    refine XS.bipush X280.here hx rfl (hb hby at_217) ?_
    exact kt)
  have f284 : Old Z n0 h280 := (f275.wr W280 (Nat.le_trans Z0 (Nat.le_trans (Keep.refl h0 []).1 (Nat.le_of_eq g2.symm))))
  have f285 : Sta Z h280 "com/example/fourfold/fourfold/Term" "IDENTIFIER" "Lcom/example/fourfold/fourfold/Term;" (.ref t31) := Sta.ext f284.2 pr32
  obtain ⟨T286, X286, e286, st286⟩ := getS2 X280 hx hZ hown (host := "") (Or.inl (hw _ (List.mem_of_getElem? (i := 66) rfl))) Via.refl e280 f285 (g := (mkF m 219 #[.val (.int p1), .unset, .unset, .unset, .unset, .unset] [(.int (31 : Int32)), (.ref b2), (.ref b2)])) rfl (hb hby at_219)
  have K287 : Gx p e below s₁ f0 T286 (mkF m 222 #[.val (.int p1), .unset, .unset, .unset, .unset, .unset] [(.ref t31), (.int (31 : Int32)), (.ref b2), (.ref b2)]) := fun t kt => K283 t (st286 t kt)
  obtain ⟨clq288, Arq288, ckq288, cSq288, cNq288, cHq288, cGq288⟩ := id V280
  have f290 : Exa Z h280 t31 "com/example/fourfold/fourfold/Term" := pr71.ext f284.2
  obtain ⟨T289, h289, X289', e289, W289, st289⟩ := stR X286 hx hZ e286 Arq288 (j := (31 : Int32)) (inb_of cSq288 ⟨by decide, by decide⟩) rfl (Sto.ofV Arq288 ckq288 O2 (Ins.self f290)) (g := (mkF m 222 #[.val (.int p1), .unset, .unset, .unset, .unset, .unset] [(.ref t31), (.int (31 : Int32)), (.ref b2), (.ref b2)])) rfl rfl (hb hby at_222)
  obtain ⟨lc289, X289, N289⟩ : ∃ lc, Stand p l e room_1 s m #[(.int p1)] below meth c T289 lc 1 39 ∧ Fr n0 lc := ⟨_, X289', Fr.snoc X289' N280 (Nat.le_trans Z0 (Nat.le_trans (Keep.refl h0 []).1 (Nat.le_of_eq g2.symm)))⟩
  have V289 : Arv Z h289 b2 k2 (.object "com/example/fourfold/fourfold/Term") (39 : Int32) [(.ref t0), (.ref t1), (.ref t2), (.ref t3), (.ref t4), (.ref t5), (.ref t6), (.ref t7), (.ref t8), (.ref t9), (.ref t10), (.ref t11), (.ref t12), (.ref t13), (.ref t14), (.ref t15), (.ref t16), (.ref t17), (.ref t18), (.ref t19), (.ref t20), (.ref t21), (.ref t22), (.ref t23), (.ref t24), (.ref t25), (.ref t26), (.ref t27), (.ref t28), (.ref t29), (.ref t30), (.ref t31), .null, .null, .null, .null, .null, .null, .null] .null := Arv.set Arq288 ckq288 cSq288 cNq288 cHq288 cGq288 rfl W289 31 rfl (Nat.le_of_ble_eq_true rfl)
  have K291 : Gx p e below s₁ f0 T289 (mkF m 223 #[.val (.int p1), .unset, .unset, .unset, .unset, .unset] [(.ref b2)]) := fun t kt => K287 t (st289 t kt)
  have K292 : Gx p e below s₁ f0 T289 (mkF m 226 #[.val (.int p1), .unset, .unset, .unset, .unset, .unset] [(.int (32 : Int32)), (.ref b2), (.ref b2)]) := fun t kt => K291 t (by
    show Steps p.tables e below (T289.setTop (mkF m 223 #[.val (.int p1), .unset, .unset, .unset, .unset, .unset] [(.ref b2)])) _
    refine XS.dup X289.here hx rfl (hb hby at_223) rfl rfl ?_
    show Steps p.tables e below (T289.setTop (mkF m 224 #[.val (.int p1), .unset, .unset, .unset, .unset, .unset] [(.ref b2), (.ref b2)])) _
    refine XS.bipush X289.here hx rfl (hb hby at_224) ?_
    exact kt)
  have f293 : Old Z n0 h289 := (f284.wr W289 (Nat.le_trans Z0 (Nat.le_trans (Keep.refl h0 []).1 (Nat.le_of_eq g2.symm))))
  have f294 : Sta Z h289 "com/example/fourfold/fourfold/Term" "SOURCE" "Lcom/example/fourfold/fourfold/Term;" (.ref t32) := Sta.ext f293.2 pr33
  obtain ⟨T295, X295, e295, st295⟩ := getS2 X289 hx hZ hown (host := "") (Or.inl (hw _ (List.mem_of_getElem? (i := 68) rfl))) Via.refl e289 f294 (g := (mkF m 226 #[.val (.int p1), .unset, .unset, .unset, .unset, .unset] [(.int (32 : Int32)), (.ref b2), (.ref b2)])) rfl (hb hby at_226)
  have K296 : Gx p e below s₁ f0 T295 (mkF m 229 #[.val (.int p1), .unset, .unset, .unset, .unset, .unset] [(.ref t32), (.int (32 : Int32)), (.ref b2), (.ref b2)]) := fun t kt => K292 t (st295 t kt)
  obtain ⟨clq297, Arq297, ckq297, cSq297, cNq297, cHq297, cGq297⟩ := id V289
  have f299 : Exa Z h289 t32 "com/example/fourfold/fourfold/Term" := pr72.ext f293.2
  obtain ⟨T298, h298, X298', e298, W298, st298⟩ := stR X295 hx hZ e295 Arq297 (j := (32 : Int32)) (inb_of cSq297 ⟨by decide, by decide⟩) rfl (Sto.ofV Arq297 ckq297 O2 (Ins.self f299)) (g := (mkF m 229 #[.val (.int p1), .unset, .unset, .unset, .unset, .unset] [(.ref t32), (.int (32 : Int32)), (.ref b2), (.ref b2)])) rfl rfl (hb hby at_229)
  obtain ⟨lc298, X298, N298⟩ : ∃ lc, Stand p l e room_1 s m #[(.int p1)] below meth c T298 lc 1 39 ∧ Fr n0 lc := ⟨_, X298', Fr.snoc X298' N289 (Nat.le_trans Z0 (Nat.le_trans (Keep.refl h0 []).1 (Nat.le_of_eq g2.symm)))⟩
  have V298 : Arv Z h298 b2 k2 (.object "com/example/fourfold/fourfold/Term") (39 : Int32) [(.ref t0), (.ref t1), (.ref t2), (.ref t3), (.ref t4), (.ref t5), (.ref t6), (.ref t7), (.ref t8), (.ref t9), (.ref t10), (.ref t11), (.ref t12), (.ref t13), (.ref t14), (.ref t15), (.ref t16), (.ref t17), (.ref t18), (.ref t19), (.ref t20), (.ref t21), (.ref t22), (.ref t23), (.ref t24), (.ref t25), (.ref t26), (.ref t27), (.ref t28), (.ref t29), (.ref t30), (.ref t31), (.ref t32), .null, .null, .null, .null, .null, .null] .null := Arv.set Arq297 ckq297 cSq297 cNq297 cHq297 cGq297 rfl W298 32 rfl (Nat.le_of_ble_eq_true rfl)
  have K300 : Gx p e below s₁ f0 T298 (mkF m 230 #[.val (.int p1), .unset, .unset, .unset, .unset, .unset] [(.ref b2)]) := fun t kt => K296 t (st298 t kt)
  have K301 : Gx p e below s₁ f0 T298 (mkF m 233 #[.val (.int p1), .unset, .unset, .unset, .unset, .unset] [(.int (33 : Int32)), (.ref b2), (.ref b2)]) := fun t kt => K300 t (by
    show Steps p.tables e below (T298.setTop (mkF m 230 #[.val (.int p1), .unset, .unset, .unset, .unset, .unset] [(.ref b2)])) _
    refine XS.dup X298.here hx rfl (hb hby at_230) rfl rfl ?_
    show Steps p.tables e below (T298.setTop (mkF m 231 #[.val (.int p1), .unset, .unset, .unset, .unset, .unset] [(.ref b2), (.ref b2)])) _
    refine XS.bipush X298.here hx rfl (hb hby at_231) ?_
    exact kt)
  have f302 : Old Z n0 h298 := (f293.wr W298 (Nat.le_trans Z0 (Nat.le_trans (Keep.refl h0 []).1 (Nat.le_of_eq g2.symm))))
  have f303 : Sta Z h298 "com/example/fourfold/fourfold/Term" "LANGUAGE" "Lcom/example/fourfold/fourfold/Term;" (.ref t33) := Sta.ext f302.2 pr34
  obtain ⟨T304, X304, e304, st304⟩ := getS2 X298 hx hZ hown (host := "") (Or.inl (hw _ (List.mem_of_getElem? (i := 70) rfl))) Via.refl e298 f303 (g := (mkF m 233 #[.val (.int p1), .unset, .unset, .unset, .unset, .unset] [(.int (33 : Int32)), (.ref b2), (.ref b2)])) rfl (hb hby at_233)
  have K305 : Gx p e below s₁ f0 T304 (mkF m 236 #[.val (.int p1), .unset, .unset, .unset, .unset, .unset] [(.ref t33), (.int (33 : Int32)), (.ref b2), (.ref b2)]) := fun t kt => K301 t (st304 t kt)
  obtain ⟨clq306, Arq306, ckq306, cSq306, cNq306, cHq306, cGq306⟩ := id V298
  have f308 : Exa Z h298 t33 "com/example/fourfold/fourfold/Term" := pr73.ext f302.2
  obtain ⟨T307, h307, X307', e307, W307, st307⟩ := stR X304 hx hZ e304 Arq306 (j := (33 : Int32)) (inb_of cSq306 ⟨by decide, by decide⟩) rfl (Sto.ofV Arq306 ckq306 O2 (Ins.self f308)) (g := (mkF m 236 #[.val (.int p1), .unset, .unset, .unset, .unset, .unset] [(.ref t33), (.int (33 : Int32)), (.ref b2), (.ref b2)])) rfl rfl (hb hby at_236)
  obtain ⟨lc307, X307, N307⟩ : ∃ lc, Stand p l e room_1 s m #[(.int p1)] below meth c T307 lc 1 39 ∧ Fr n0 lc := ⟨_, X307', Fr.snoc X307' N298 (Nat.le_trans Z0 (Nat.le_trans (Keep.refl h0 []).1 (Nat.le_of_eq g2.symm)))⟩
  have V307 : Arv Z h307 b2 k2 (.object "com/example/fourfold/fourfold/Term") (39 : Int32) [(.ref t0), (.ref t1), (.ref t2), (.ref t3), (.ref t4), (.ref t5), (.ref t6), (.ref t7), (.ref t8), (.ref t9), (.ref t10), (.ref t11), (.ref t12), (.ref t13), (.ref t14), (.ref t15), (.ref t16), (.ref t17), (.ref t18), (.ref t19), (.ref t20), (.ref t21), (.ref t22), (.ref t23), (.ref t24), (.ref t25), (.ref t26), (.ref t27), (.ref t28), (.ref t29), (.ref t30), (.ref t31), (.ref t32), (.ref t33), .null, .null, .null, .null, .null] .null := Arv.set Arq306 ckq306 cSq306 cNq306 cHq306 cGq306 rfl W307 33 rfl (Nat.le_of_ble_eq_true rfl)
  have K309 : Gx p e below s₁ f0 T307 (mkF m 237 #[.val (.int p1), .unset, .unset, .unset, .unset, .unset] [(.ref b2)]) := fun t kt => K305 t (st307 t kt)
  have K310 : Gx p e below s₁ f0 T307 (mkF m 240 #[.val (.int p1), .unset, .unset, .unset, .unset, .unset] [(.int (34 : Int32)), (.ref b2), (.ref b2)]) := fun t kt => K309 t (by
    show Steps p.tables e below (T307.setTop (mkF m 237 #[.val (.int p1), .unset, .unset, .unset, .unset, .unset] [(.ref b2)])) _
    refine XS.dup X307.here hx rfl (hb hby at_237) rfl rfl ?_
    show Steps p.tables e below (T307.setTop (mkF m 238 #[.val (.int p1), .unset, .unset, .unset, .unset, .unset] [(.ref b2), (.ref b2)])) _
    refine XS.bipush X307.here hx rfl (hb hby at_238) ?_
    exact kt)
  have f311 : Old Z n0 h307 := (f302.wr W307 (Nat.le_trans Z0 (Nat.le_trans (Keep.refl h0 []).1 (Nat.le_of_eq g2.symm))))
  have f312 : Sta Z h307 "com/example/fourfold/fourfold/Term" "RELATION" "Lcom/example/fourfold/fourfold/Term;" (.ref t34) := Sta.ext f311.2 pr35
  obtain ⟨T313, X313, e313, st313⟩ := getS2 X307 hx hZ hown (host := "") (Or.inl (hw _ (List.mem_of_getElem? (i := 72) rfl))) Via.refl e307 f312 (g := (mkF m 240 #[.val (.int p1), .unset, .unset, .unset, .unset, .unset] [(.int (34 : Int32)), (.ref b2), (.ref b2)])) rfl (hb hby at_240)
  have K314 : Gx p e below s₁ f0 T313 (mkF m 243 #[.val (.int p1), .unset, .unset, .unset, .unset, .unset] [(.ref t34), (.int (34 : Int32)), (.ref b2), (.ref b2)]) := fun t kt => K310 t (st313 t kt)
  obtain ⟨clq315, Arq315, ckq315, cSq315, cNq315, cHq315, cGq315⟩ := id V307
  have f317 : Exa Z h307 t34 "com/example/fourfold/fourfold/Term" := pr74.ext f311.2
  obtain ⟨T316, h316, X316', e316, W316, st316⟩ := stR X313 hx hZ e313 Arq315 (j := (34 : Int32)) (inb_of cSq315 ⟨by decide, by decide⟩) rfl (Sto.ofV Arq315 ckq315 O2 (Ins.self f317)) (g := (mkF m 243 #[.val (.int p1), .unset, .unset, .unset, .unset, .unset] [(.ref t34), (.int (34 : Int32)), (.ref b2), (.ref b2)])) rfl rfl (hb hby at_243)
  obtain ⟨lc316, X316, N316⟩ : ∃ lc, Stand p l e room_1 s m #[(.int p1)] below meth c T316 lc 1 39 ∧ Fr n0 lc := ⟨_, X316', Fr.snoc X316' N307 (Nat.le_trans Z0 (Nat.le_trans (Keep.refl h0 []).1 (Nat.le_of_eq g2.symm)))⟩
  have V316 : Arv Z h316 b2 k2 (.object "com/example/fourfold/fourfold/Term") (39 : Int32) [(.ref t0), (.ref t1), (.ref t2), (.ref t3), (.ref t4), (.ref t5), (.ref t6), (.ref t7), (.ref t8), (.ref t9), (.ref t10), (.ref t11), (.ref t12), (.ref t13), (.ref t14), (.ref t15), (.ref t16), (.ref t17), (.ref t18), (.ref t19), (.ref t20), (.ref t21), (.ref t22), (.ref t23), (.ref t24), (.ref t25), (.ref t26), (.ref t27), (.ref t28), (.ref t29), (.ref t30), (.ref t31), (.ref t32), (.ref t33), (.ref t34), .null, .null, .null, .null] .null := Arv.set Arq315 ckq315 cSq315 cNq315 cHq315 cGq315 rfl W316 34 rfl (Nat.le_of_ble_eq_true rfl)
  have K318 : Gx p e below s₁ f0 T316 (mkF m 244 #[.val (.int p1), .unset, .unset, .unset, .unset, .unset] [(.ref b2)]) := fun t kt => K314 t (st316 t kt)
  have K319 : Gx p e below s₁ f0 T316 (mkF m 247 #[.val (.int p1), .unset, .unset, .unset, .unset, .unset] [(.int (35 : Int32)), (.ref b2), (.ref b2)]) := fun t kt => K318 t (by
    show Steps p.tables e below (T316.setTop (mkF m 244 #[.val (.int p1), .unset, .unset, .unset, .unset, .unset] [(.ref b2)])) _
    refine XS.dup X316.here hx rfl (hb hby at_244) rfl rfl ?_
    show Steps p.tables e below (T316.setTop (mkF m 245 #[.val (.int p1), .unset, .unset, .unset, .unset, .unset] [(.ref b2), (.ref b2)])) _
    refine XS.bipush X316.here hx rfl (hb hby at_245) ?_
    exact kt)
  have f320 : Old Z n0 h316 := (f311.wr W316 (Nat.le_trans Z0 (Nat.le_trans (Keep.refl h0 []).1 (Nat.le_of_eq g2.symm))))
  have f321 : Sta Z h316 "com/example/fourfold/fourfold/Term" "COVERAGE" "Lcom/example/fourfold/fourfold/Term;" (.ref t35) := Sta.ext f320.2 pr36
  obtain ⟨T322, X322, e322, st322⟩ := getS2 X316 hx hZ hown (host := "") (Or.inl (hw _ (List.mem_of_getElem? (i := 74) rfl))) Via.refl e316 f321 (g := (mkF m 247 #[.val (.int p1), .unset, .unset, .unset, .unset, .unset] [(.int (35 : Int32)), (.ref b2), (.ref b2)])) rfl (hb hby at_247)
  have K323 : Gx p e below s₁ f0 T322 (mkF m 250 #[.val (.int p1), .unset, .unset, .unset, .unset, .unset] [(.ref t35), (.int (35 : Int32)), (.ref b2), (.ref b2)]) := fun t kt => K319 t (st322 t kt)
  obtain ⟨clq324, Arq324, ckq324, cSq324, cNq324, cHq324, cGq324⟩ := id V316
  have f326 : Exa Z h316 t35 "com/example/fourfold/fourfold/Term" := pr75.ext f320.2
  obtain ⟨T325, h325, X325', e325, W325, st325⟩ := stR X322 hx hZ e322 Arq324 (j := (35 : Int32)) (inb_of cSq324 ⟨by decide, by decide⟩) rfl (Sto.ofV Arq324 ckq324 O2 (Ins.self f326)) (g := (mkF m 250 #[.val (.int p1), .unset, .unset, .unset, .unset, .unset] [(.ref t35), (.int (35 : Int32)), (.ref b2), (.ref b2)])) rfl rfl (hb hby at_250)
  obtain ⟨lc325, X325, N325⟩ : ∃ lc, Stand p l e room_1 s m #[(.int p1)] below meth c T325 lc 1 39 ∧ Fr n0 lc := ⟨_, X325', Fr.snoc X325' N316 (Nat.le_trans Z0 (Nat.le_trans (Keep.refl h0 []).1 (Nat.le_of_eq g2.symm)))⟩
  have V325 : Arv Z h325 b2 k2 (.object "com/example/fourfold/fourfold/Term") (39 : Int32) [(.ref t0), (.ref t1), (.ref t2), (.ref t3), (.ref t4), (.ref t5), (.ref t6), (.ref t7), (.ref t8), (.ref t9), (.ref t10), (.ref t11), (.ref t12), (.ref t13), (.ref t14), (.ref t15), (.ref t16), (.ref t17), (.ref t18), (.ref t19), (.ref t20), (.ref t21), (.ref t22), (.ref t23), (.ref t24), (.ref t25), (.ref t26), (.ref t27), (.ref t28), (.ref t29), (.ref t30), (.ref t31), (.ref t32), (.ref t33), (.ref t34), (.ref t35), .null, .null, .null] .null := Arv.set Arq324 ckq324 cSq324 cNq324 cHq324 cGq324 rfl W325 35 rfl (Nat.le_of_ble_eq_true rfl)
  have K327 : Gx p e below s₁ f0 T325 (mkF m 251 #[.val (.int p1), .unset, .unset, .unset, .unset, .unset] [(.ref b2)]) := fun t kt => K323 t (st325 t kt)
  have K328 : Gx p e below s₁ f0 T325 (mkF m 254 #[.val (.int p1), .unset, .unset, .unset, .unset, .unset] [(.int (36 : Int32)), (.ref b2), (.ref b2)]) := fun t kt => K327 t (by
    show Steps p.tables e below (T325.setTop (mkF m 251 #[.val (.int p1), .unset, .unset, .unset, .unset, .unset] [(.ref b2)])) _
    refine XS.dup X325.here hx rfl (hb hby at_251) rfl rfl ?_
    show Steps p.tables e below (T325.setTop (mkF m 252 #[.val (.int p1), .unset, .unset, .unset, .unset, .unset] [(.ref b2), (.ref b2)])) _
    refine XS.bipush X325.here hx rfl (hb hby at_252) ?_
    exact kt)
  have f329 : Old Z n0 h325 := (f320.wr W325 (Nat.le_trans Z0 (Nat.le_trans (Keep.refl h0 []).1 (Nat.le_of_eq g2.symm))))
  have f330 : Sta Z h325 "com/example/fourfold/fourfold/Term" "RIGHTS" "Lcom/example/fourfold/fourfold/Term;" (.ref t36) := Sta.ext f329.2 pr37
  obtain ⟨T331, X331, e331, st331⟩ := getS2 X325 hx hZ hown (host := "") (Or.inl (hw _ (List.mem_of_getElem? (i := 76) rfl))) Via.refl e325 f330 (g := (mkF m 254 #[.val (.int p1), .unset, .unset, .unset, .unset, .unset] [(.int (36 : Int32)), (.ref b2), (.ref b2)])) rfl (hb hby at_254)
  have K332 : Gx p e below s₁ f0 T331 (mkF m 257 #[.val (.int p1), .unset, .unset, .unset, .unset, .unset] [(.ref t36), (.int (36 : Int32)), (.ref b2), (.ref b2)]) := fun t kt => K328 t (st331 t kt)
  obtain ⟨clq333, Arq333, ckq333, cSq333, cNq333, cHq333, cGq333⟩ := id V325
  have f335 : Exa Z h325 t36 "com/example/fourfold/fourfold/Term" := pr76.ext f329.2
  obtain ⟨T334, h334, X334', e334, W334, st334⟩ := stR X331 hx hZ e331 Arq333 (j := (36 : Int32)) (inb_of cSq333 ⟨by decide, by decide⟩) rfl (Sto.ofV Arq333 ckq333 O2 (Ins.self f335)) (g := (mkF m 257 #[.val (.int p1), .unset, .unset, .unset, .unset, .unset] [(.ref t36), (.int (36 : Int32)), (.ref b2), (.ref b2)])) rfl rfl (hb hby at_257)
  obtain ⟨lc334, X334, N334⟩ : ∃ lc, Stand p l e room_1 s m #[(.int p1)] below meth c T334 lc 1 39 ∧ Fr n0 lc := ⟨_, X334', Fr.snoc X334' N325 (Nat.le_trans Z0 (Nat.le_trans (Keep.refl h0 []).1 (Nat.le_of_eq g2.symm)))⟩
  have V334 : Arv Z h334 b2 k2 (.object "com/example/fourfold/fourfold/Term") (39 : Int32) [(.ref t0), (.ref t1), (.ref t2), (.ref t3), (.ref t4), (.ref t5), (.ref t6), (.ref t7), (.ref t8), (.ref t9), (.ref t10), (.ref t11), (.ref t12), (.ref t13), (.ref t14), (.ref t15), (.ref t16), (.ref t17), (.ref t18), (.ref t19), (.ref t20), (.ref t21), (.ref t22), (.ref t23), (.ref t24), (.ref t25), (.ref t26), (.ref t27), (.ref t28), (.ref t29), (.ref t30), (.ref t31), (.ref t32), (.ref t33), (.ref t34), (.ref t35), (.ref t36), .null, .null] .null := Arv.set Arq333 ckq333 cSq333 cNq333 cHq333 cGq333 rfl W334 36 rfl (Nat.le_of_ble_eq_true rfl)
  have K336 : Gx p e below s₁ f0 T334 (mkF m 258 #[.val (.int p1), .unset, .unset, .unset, .unset, .unset] [(.ref b2)]) := fun t kt => K332 t (st334 t kt)
  have K337 : Gx p e below s₁ f0 T334 (mkF m 261 #[.val (.int p1), .unset, .unset, .unset, .unset, .unset] [(.int (37 : Int32)), (.ref b2), (.ref b2)]) := fun t kt => K336 t (by
    show Steps p.tables e below (T334.setTop (mkF m 258 #[.val (.int p1), .unset, .unset, .unset, .unset, .unset] [(.ref b2)])) _
    refine XS.dup X334.here hx rfl (hb hby at_258) rfl rfl ?_
    show Steps p.tables e below (T334.setTop (mkF m 259 #[.val (.int p1), .unset, .unset, .unset, .unset, .unset] [(.ref b2), (.ref b2)])) _
    refine XS.bipush X334.here hx rfl (hb hby at_259) ?_
    exact kt)
  have f338 : Old Z n0 h334 := (f329.wr W334 (Nat.le_trans Z0 (Nat.le_trans (Keep.refl h0 []).1 (Nat.le_of_eq g2.symm))))
  have f339 : Sta Z h334 "com/example/fourfold/fourfold/Term" "NOTE" "Lcom/example/fourfold/fourfold/Term;" (.ref t37) := Sta.ext f338.2 pr38
  obtain ⟨T340, X340, e340, st340⟩ := getS2 X334 hx hZ hown (host := "") (Or.inl (hw _ (List.mem_of_getElem? (i := 78) rfl))) Via.refl e334 f339 (g := (mkF m 261 #[.val (.int p1), .unset, .unset, .unset, .unset, .unset] [(.int (37 : Int32)), (.ref b2), (.ref b2)])) rfl (hb hby at_261)
  have K341 : Gx p e below s₁ f0 T340 (mkF m 264 #[.val (.int p1), .unset, .unset, .unset, .unset, .unset] [(.ref t37), (.int (37 : Int32)), (.ref b2), (.ref b2)]) := fun t kt => K337 t (st340 t kt)
  obtain ⟨clq342, Arq342, ckq342, cSq342, cNq342, cHq342, cGq342⟩ := id V334
  have f344 : Exa Z h334 t37 "com/example/fourfold/fourfold/Term" := pr77.ext f338.2
  obtain ⟨T343, h343, X343', e343, W343, st343⟩ := stR X340 hx hZ e340 Arq342 (j := (37 : Int32)) (inb_of cSq342 ⟨by decide, by decide⟩) rfl (Sto.ofV Arq342 ckq342 O2 (Ins.self f344)) (g := (mkF m 264 #[.val (.int p1), .unset, .unset, .unset, .unset, .unset] [(.ref t37), (.int (37 : Int32)), (.ref b2), (.ref b2)])) rfl rfl (hb hby at_264)
  obtain ⟨lc343, X343, N343⟩ : ∃ lc, Stand p l e room_1 s m #[(.int p1)] below meth c T343 lc 1 39 ∧ Fr n0 lc := ⟨_, X343', Fr.snoc X343' N334 (Nat.le_trans Z0 (Nat.le_trans (Keep.refl h0 []).1 (Nat.le_of_eq g2.symm)))⟩
  have V343 : Arv Z h343 b2 k2 (.object "com/example/fourfold/fourfold/Term") (39 : Int32) [(.ref t0), (.ref t1), (.ref t2), (.ref t3), (.ref t4), (.ref t5), (.ref t6), (.ref t7), (.ref t8), (.ref t9), (.ref t10), (.ref t11), (.ref t12), (.ref t13), (.ref t14), (.ref t15), (.ref t16), (.ref t17), (.ref t18), (.ref t19), (.ref t20), (.ref t21), (.ref t22), (.ref t23), (.ref t24), (.ref t25), (.ref t26), (.ref t27), (.ref t28), (.ref t29), (.ref t30), (.ref t31), (.ref t32), (.ref t33), (.ref t34), (.ref t35), (.ref t36), (.ref t37), .null] .null := Arv.set Arq342 ckq342 cSq342 cNq342 cHq342 cGq342 rfl W343 37 rfl (Nat.le_of_ble_eq_true rfl)
  have K345 : Gx p e below s₁ f0 T343 (mkF m 265 #[.val (.int p1), .unset, .unset, .unset, .unset, .unset] [(.ref b2)]) := fun t kt => K341 t (st343 t kt)
  have K346 : Gx p e below s₁ f0 T343 (mkF m 268 #[.val (.int p1), .unset, .unset, .unset, .unset, .unset] [(.int (38 : Int32)), (.ref b2), (.ref b2)]) := fun t kt => K345 t (by
    show Steps p.tables e below (T343.setTop (mkF m 265 #[.val (.int p1), .unset, .unset, .unset, .unset, .unset] [(.ref b2)])) _
    refine XS.dup X343.here hx rfl (hb hby at_265) rfl rfl ?_
    show Steps p.tables e below (T343.setTop (mkF m 266 #[.val (.int p1), .unset, .unset, .unset, .unset, .unset] [(.ref b2), (.ref b2)])) _
    refine XS.bipush X343.here hx rfl (hb hby at_266) ?_
    exact kt)
  have f347 : Old Z n0 h343 := (f338.wr W343 (Nat.le_trans Z0 (Nat.le_trans (Keep.refl h0 []).1 (Nat.le_of_eq g2.symm))))
  have f348 : Sta Z h343 "com/example/fourfold/fourfold/Term" "IN" "Lcom/example/fourfold/fourfold/Term;" (.ref t38) := Sta.ext f347.2 pr39
  obtain ⟨T349, X349, e349, st349⟩ := getS2 X343 hx hZ hown (host := "") (Or.inl (hw _ (List.mem_of_getElem? (i := 80) rfl))) Via.refl e343 f348 (g := (mkF m 268 #[.val (.int p1), .unset, .unset, .unset, .unset, .unset] [(.int (38 : Int32)), (.ref b2), (.ref b2)])) rfl (hb hby at_268)
  have K350 : Gx p e below s₁ f0 T349 (mkF m 271 #[.val (.int p1), .unset, .unset, .unset, .unset, .unset] [(.ref t38), (.int (38 : Int32)), (.ref b2), (.ref b2)]) := fun t kt => K346 t (st349 t kt)
  obtain ⟨clq351, Arq351, ckq351, cSq351, cNq351, cHq351, cGq351⟩ := id V343
  have f353 : Exa Z h343 t38 "com/example/fourfold/fourfold/Term" := pr78.ext f347.2
  obtain ⟨T352, h352, X352', e352, W352, st352⟩ := stR X349 hx hZ e349 Arq351 (j := (38 : Int32)) (inb_of cSq351 ⟨by decide, by decide⟩) rfl (Sto.ofV Arq351 ckq351 O2 (Ins.self f353)) (g := (mkF m 271 #[.val (.int p1), .unset, .unset, .unset, .unset, .unset] [(.ref t38), (.int (38 : Int32)), (.ref b2), (.ref b2)])) rfl rfl (hb hby at_271)
  obtain ⟨lc352, X352, N352⟩ : ∃ lc, Stand p l e room_1 s m #[(.int p1)] below meth c T352 lc 1 39 ∧ Fr n0 lc := ⟨_, X352', Fr.snoc X352' N343 (Nat.le_trans Z0 (Nat.le_trans (Keep.refl h0 []).1 (Nat.le_of_eq g2.symm)))⟩
  have V352 : Arv Z h352 b2 k2 (.object "com/example/fourfold/fourfold/Term") (39 : Int32) [(.ref t0), (.ref t1), (.ref t2), (.ref t3), (.ref t4), (.ref t5), (.ref t6), (.ref t7), (.ref t8), (.ref t9), (.ref t10), (.ref t11), (.ref t12), (.ref t13), (.ref t14), (.ref t15), (.ref t16), (.ref t17), (.ref t18), (.ref t19), (.ref t20), (.ref t21), (.ref t22), (.ref t23), (.ref t24), (.ref t25), (.ref t26), (.ref t27), (.ref t28), (.ref t29), (.ref t30), (.ref t31), (.ref t32), (.ref t33), (.ref t34), (.ref t35), (.ref t36), (.ref t37), (.ref t38)] .null := Arv.set Arq351 ckq351 cSq351 cNq351 cHq351 cGq351 rfl W352 38 rfl (Nat.le_of_ble_eq_true rfl)
  have K354 : Gx p e below s₁ f0 T352 (mkF m 272 #[.val (.int p1), .unset, .unset, .unset, .unset, .unset] [(.ref b2)]) := fun t kt => K350 t (st352 t kt)
  obtain ⟨clq355, Arq355, ckq355, cSq355, cNq355, cHq355, cGq355⟩ := id V352
  have K356 : Gx p e below s₁ f0 T352 (mkF m 281 #[.val (.int p1), .val (.ref b2), .val (.int ((p1 &&& (2147483647 : Int32)) % (39 : Int32))), .unset, .unset, .unset] []) := fun t kt => K354 t (by
    show Steps p.tables e below (T352.setTop (mkF m 272 #[.val (.int p1), .unset, .unset, .unset, .unset, .unset] [(.ref b2)])) _
    refine XS.astoreN X352.here hx rfl (hb hby at_272) rfl rfl (l' := #[.val (.int p1), .val (.ref b2), .unset, .unset, .unset, .unset]) rfl ?_
    show Steps p.tables e below (T352.setTop (mkF m 273 #[.val (.int p1), .val (.ref b2), .unset, .unset, .unset, .unset] [])) _
    refine XS.iloadN X352.here hx rfl (hb hby at_273) rfl ?_
    show Steps p.tables e below (T352.setTop (mkF m 274 #[.val (.int p1), .val (.ref b2), .unset, .unset, .unset, .unset] [(.int p1)])) _
    refine X352.ldcInt hx hown (mvT hZ (hw _ (List.mem_of_getElem? (i := 82) rfl))) (g := (mkF m 274 #[.val (.int p1), .val (.ref b2), .unset, .unset, .unset, .unset] [(.int p1)])) rfl (hb hby at_274) _ ?_
    show Steps p.tables e below (T352.setTop (mkF m 276 #[.val (.int p1), .val (.ref b2), .unset, .unset, .unset, .unset] [(.int (2147483647 : Int32)), (.int p1)])) _
    refine XS.iand X352.here hx rfl (hb hby at_276) rfl ?_
    show Steps p.tables e below (T352.setTop (mkF m 277 #[.val (.int p1), .val (.ref b2), .unset, .unset, .unset, .unset] [(.int (p1 &&& (2147483647 : Int32)))])) _
    refine XS.aloadN X352.here hx rfl (hb hby at_277) rfl rfl ?_
    show Steps p.tables e below (T352.setTop (mkF m 278 #[.val (.int p1), .val (.ref b2), .unset, .unset, .unset, .unset] [(.ref b2), (.int (p1 &&& (2147483647 : Int32)))])) _
    refine X352.arraylength hx (by rw [e352]; exact Arq355.1) (State.isArrayOf_alike hZ.alike Arq355.2.1) (g := (mkF m 278 #[.val (.int p1), .val (.ref b2), .unset, .unset, .unset, .unset] [(.ref b2), (.int (p1 &&& (2147483647 : Int32)))])) rfl rfl (hb hby at_278) _ ?_
    rw [len_of cSq355 cNq355]
    show Steps p.tables e below (T352.setTop (mkF m 279 #[.val (.int p1), .val (.ref b2), .unset, .unset, .unset, .unset] [(.int (39 : Int32)), (.int (p1 &&& (2147483647 : Int32)))])) _
    refine iremM X352 hx rfl (hb hby at_279) rfl (by decide) ?_
    show Steps p.tables e below (T352.setTop (mkF m 280 #[.val (.int p1), .val (.ref b2), .unset, .unset, .unset, .unset] [(.int ((p1 &&& (2147483647 : Int32)) % (39 : Int32)))])) _
    refine XS.istoreN X352.here hx rfl (hb hby at_280) rfl (l' := #[.val (.int p1), .val (.ref b2), .val (.int ((p1 &&& (2147483647 : Int32)) % (39 : Int32))), .unset, .unset, .unset]) rfl ?_
    exact kt)
  obtain ⟨v357, hv357⟩ : ∃ z : Int32, z = ((p1 &&& (2147483647 : Int32)) % (39 : Int32)) := ⟨_, rfl⟩
  rw [← hv357] at K356
  have hix := own_idx p1
  rw [← hv357] at hix
  obtain ⟨y, hy, y1, y2, y3, y4, y5⟩ := hp v357 hix.1 hix.2
  have K358 : Gx p e below s₁ f0 T352 (mkF m 287 #[.val (.int p1), .val (.ref b2), .val (.int v357), .val (.ref y), .unset, .unset] [(.int (1 : Int32)), (.int v357)]) := fun t kt => K356 t (by
    show Steps p.tables e below (T352.setTop (mkF m 281 #[.val (.int p1), .val (.ref b2), .val (.int v357), .unset, .unset, .unset] [])) _
    refine XS.aloadN X352.here hx rfl (hb hby at_281) rfl rfl ?_
    show Steps p.tables e below (T352.setTop (mkF m 282 #[.val (.int p1), .val (.ref b2), .val (.int v357), .unset, .unset, .unset] [(.ref b2)])) _
    refine XS.iloadN X352.here hx rfl (hb hby at_282) rfl ?_
    show Steps p.tables e below (T352.setTop (mkF m 283 #[.val (.int p1), .val (.ref b2), .val (.int v357), .unset, .unset, .unset] [(.int v357), (.ref b2)])) _
    refine X352.aaload hx (j := v357) (v := (.ref y)) (by rw [e352]; exact Arq355.1) (State.isArrayOf_alike hZ.alike Arq355.2.1) rfl Arq355.2.2 (inb_of cSq355 hix) (Has.at cHq355 (inb_of cSq355 hix) hy) (g := (mkF m 283 #[.val (.int p1), .val (.ref b2), .val (.int v357), .unset, .unset, .unset] [(.int v357), (.ref b2)])) rfl rfl (hb hby at_283) _ ?_
    show Steps p.tables e below (T352.setTop (mkF m 284 #[.val (.int p1), .val (.ref b2), .val (.int v357), .unset, .unset, .unset] [(.ref y)])) _
    refine XS.astoreN X352.here hx rfl (hb hby at_284) rfl rfl (l' := #[.val (.int p1), .val (.ref b2), .val (.int v357), .val (.ref y), .unset, .unset]) rfl ?_
    show Steps p.tables e below (T352.setTop (mkF m 285 #[.val (.int p1), .val (.ref b2), .val (.int v357), .val (.ref y), .unset, .unset] [])) _
    refine XS.iloadN X352.here hx rfl (hb hby at_285) rfl ?_
    show Steps p.tables e below (T352.setTop (mkF m 286 #[.val (.int p1), .val (.ref b2), .val (.int v357), .val (.ref y), .unset, .unset] [(.int v357)])) _
    refine XS.iconst X352.here hx rfl (hb hby at_286) ?_
    exact kt)
  by_cases hb359 : v357 = (1 : Int32)
  · skip
    have K360 : Gx p e below s₁ f0 T352 (mkF m 290 #[.val (.int p1), .val (.ref b2), .val (.int v357), .val (.ref y), .unset, .unset] []) := fun t kt => K358 t (by
      show Steps p.tables e below (T352.setTop (mkF m 287 #[.val (.int p1), .val (.ref b2), .val (.int v357), .val (.ref y), .unset, .unset] [(.int (1 : Int32)), (.int v357)])) _
      refine XS.icmpNo X352.here hx rfl (hb hby at_287) rfl (teq hb359).2 ?_
      exact kt)
    have f361 : Old Z n0 h352 := (f347.wr W352 (Nat.le_trans Z0 (Nat.le_trans (Keep.refl h0 []).1 (Nat.le_of_eq g2.symm))))
    have f362 : Sta Z h352 "com/example/fourfold/fourfold/H" "WHO" "Lcom/example/fourfold/fourfold/H;" (.ref hA_) := Sta.ext f361.2 pr85
    obtain ⟨T363, X363, e363, st363⟩ := getS2 X352 hx hZ hown (host := "") (Or.inl (hw _ (List.mem_of_getElem? (i := 97) rfl))) Via.refl e352 f362 (g := (mkF m 290 #[.val (.int p1), .val (.ref b2), .val (.int v357), .val (.ref y), .unset, .unset] [])) rfl (hb hby at_290)
    have K364 : Gx p e below s₁ f0 T363 (mkF m 293 #[.val (.int p1), .val (.ref b2), .val (.int v357), .val (.ref y), .unset, .unset] [(.ref hA_)]) := fun t kt => K360 t (st363 t kt)
    have K365 : Gx p e below s₁ f0 T363 (mkF m 341 #[.val (.int p1), .val (.ref b2), .val (.int v357), .val (.ref y), .val (.ref hA_), .unset] [(.ref y)]) := fun t kt => K364 t (by
      show Steps p.tables e below (T363.setTop (mkF m 293 #[.val (.int p1), .val (.ref b2), .val (.int v357), .val (.ref y), .unset, .unset] [(.ref hA_)])) _
      refine XS.astore X363.here hx rfl (hb hby at_293) rfl rfl (l' := #[.val (.int p1), .val (.ref b2), .val (.int v357), .val (.ref y), .val (.ref hA_), .unset]) rfl ?_
      show Steps p.tables e below (T363.setTop (mkF m 295 #[.val (.int p1), .val (.ref b2), .val (.int v357), .val (.ref y), .val (.ref hA_), .unset] [])) _
      refine XS.goto X363.here hx rfl (pc0 := 295) (pc' := 340) rfl (hb hby at_295) (by decide) (by decide) ?_
      show Steps p.tables e below (T363.setTop (mkF m 340 #[.val (.int p1), .val (.ref b2), .val (.int v357), .val (.ref y), .val (.ref hA_), .unset] [])) _
      refine XS.aloadN X363.here hx rfl (hb hby at_340) rfl rfl ?_
      exact kt)
    have f366 : Sta Z h352 "com/example/fourfold/fourfold/H" "ALL" "[Lcom/example/fourfold/fourfold/H;" (.ref al) := Sta.ext f361.2 pr79
    have f367 : Arv Z h352 al ka (.object "com/example/fourfold/fourfold/H") (4 : Int32) [(.ref hA_), (.ref hB_), (.ref hC_), (.ref hD_)] .null := pr80.ext f361.2
    have f368 : Fld Z h352 hA_ "com/example/fourfold/fourfold/H" "term" "Lcom/example/fourfold/fourfold/Term;" (.ref t1) := pr81.ext f361.2
    have f369 : Fld Z h352 hB_ "com/example/fourfold/fourfold/H" "term" "Lcom/example/fourfold/fourfold/Term;" (.ref t2) := pr82.ext f361.2
    have f370 : Fld Z h352 hC_ "com/example/fourfold/fourfold/H" "term" "Lcom/example/fourfold/fourfold/Term;" (.ref t3) := pr83.ext f361.2
    have f371 : Fld Z h352 hD_ "com/example/fourfold/fourfold/H" "term" "Lcom/example/fourfold/fourfold/Term;" (.ref t4) := pr84.ext f361.2
    have kp372 : Keep h0 h352 [] := (((((((((((((((((((((((((((((((((((((((((Keep.refl h0 []).ext E2).wr W10 (Or.inr (Nat.le_trans (Keep.refl h0 []).1 (Nat.le_of_eq g2.symm)))).wr W19 (Or.inr (Nat.le_trans (Keep.refl h0 []).1 (Nat.le_of_eq g2.symm)))).wr W28 (Or.inr (Nat.le_trans (Keep.refl h0 []).1 (Nat.le_of_eq g2.symm)))).wr W37 (Or.inr (Nat.le_trans (Keep.refl h0 []).1 (Nat.le_of_eq g2.symm)))).wr W46 (Or.inr (Nat.le_trans (Keep.refl h0 []).1 (Nat.le_of_eq g2.symm)))).wr W55 (Or.inr (Nat.le_trans (Keep.refl h0 []).1 (Nat.le_of_eq g2.symm)))).wr W64 (Or.inr (Nat.le_trans (Keep.refl h0 []).1 (Nat.le_of_eq g2.symm)))).wr W73 (Or.inr (Nat.le_trans (Keep.refl h0 []).1 (Nat.le_of_eq g2.symm)))).wr W82 (Or.inr (Nat.le_trans (Keep.refl h0 []).1 (Nat.le_of_eq g2.symm)))).wr W91 (Or.inr (Nat.le_trans (Keep.refl h0 []).1 (Nat.le_of_eq g2.symm)))).wr W100 (Or.inr (Nat.le_trans (Keep.refl h0 []).1 (Nat.le_of_eq g2.symm)))).wr W109 (Or.inr (Nat.le_trans (Keep.refl h0 []).1 (Nat.le_of_eq g2.symm)))).wr W118 (Or.inr (Nat.le_trans (Keep.refl h0 []).1 (Nat.le_of_eq g2.symm)))).wr W127 (Or.inr (Nat.le_trans (Keep.refl h0 []).1 (Nat.le_of_eq g2.symm)))).wr W136 (Or.inr (Nat.le_trans (Keep.refl h0 []).1 (Nat.le_of_eq g2.symm)))).wr W145 (Or.inr (Nat.le_trans (Keep.refl h0 []).1 (Nat.le_of_eq g2.symm)))).wr W154 (Or.inr (Nat.le_trans (Keep.refl h0 []).1 (Nat.le_of_eq g2.symm)))).wr W163 (Or.inr (Nat.le_trans (Keep.refl h0 []).1 (Nat.le_of_eq g2.symm)))).wr W172 (Or.inr (Nat.le_trans (Keep.refl h0 []).1 (Nat.le_of_eq g2.symm)))).wr W181 (Or.inr (Nat.le_trans (Keep.refl h0 []).1 (Nat.le_of_eq g2.symm)))).wr W190 (Or.inr (Nat.le_trans (Keep.refl h0 []).1 (Nat.le_of_eq g2.symm)))).wr W199 (Or.inr (Nat.le_trans (Keep.refl h0 []).1 (Nat.le_of_eq g2.symm)))).wr W208 (Or.inr (Nat.le_trans (Keep.refl h0 []).1 (Nat.le_of_eq g2.symm)))).wr W217 (Or.inr (Nat.le_trans (Keep.refl h0 []).1 (Nat.le_of_eq g2.symm)))).wr W226 (Or.inr (Nat.le_trans (Keep.refl h0 []).1 (Nat.le_of_eq g2.symm)))).wr W235 (Or.inr (Nat.le_trans (Keep.refl h0 []).1 (Nat.le_of_eq g2.symm)))).wr W244 (Or.inr (Nat.le_trans (Keep.refl h0 []).1 (Nat.le_of_eq g2.symm)))).wr W253 (Or.inr (Nat.le_trans (Keep.refl h0 []).1 (Nat.le_of_eq g2.symm)))).wr W262 (Or.inr (Nat.le_trans (Keep.refl h0 []).1 (Nat.le_of_eq g2.symm)))).wr W271 (Or.inr (Nat.le_trans (Keep.refl h0 []).1 (Nat.le_of_eq g2.symm)))).wr W280 (Or.inr (Nat.le_trans (Keep.refl h0 []).1 (Nat.le_of_eq g2.symm)))).wr W289 (Or.inr (Nat.le_trans (Keep.refl h0 []).1 (Nat.le_of_eq g2.symm)))).wr W298 (Or.inr (Nat.le_trans (Keep.refl h0 []).1 (Nat.le_of_eq g2.symm)))).wr W307 (Or.inr (Nat.le_trans (Keep.refl h0 []).1 (Nat.le_of_eq g2.symm)))).wr W316 (Or.inr (Nat.le_trans (Keep.refl h0 []).1 (Nat.le_of_eq g2.symm)))).wr W325 (Or.inr (Nat.le_trans (Keep.refl h0 []).1 (Nat.le_of_eq g2.symm)))).wr W334 (Or.inr (Nat.le_trans (Keep.refl h0 []).1 (Nat.le_of_eq g2.symm)))).wr W343 (Or.inr (Nat.le_trans (Keep.refl h0 []).1 (Nat.le_of_eq g2.symm)))).wr W352 (Or.inr (Nat.le_trans (Keep.refl h0 []).1 (Nat.le_of_eq g2.symm))))
    obtain ⟨_, _, ⟨T373, L373, k373, n373⟩, -, X373', ⟨Lc373, hQ373, l373, y373, z373⟩, st373⟩ := Jvm.LawKit.callS X363 hx (y := (⟨"com/example/fourfold/fourfold/H", "of", "(Lcom/example/fourfold/fourfold/Term;)Lcom/example/fourfold/fourfold/H;"⟩ : MethodName)) hown (mvT hZ (hw _ (List.mem_of_getElem? (i := 83) rfl))) (mvT hZ (hw _ (List.mem_of_getElem? (i := 84) rfl))) (mvT hZ (hw _ (List.mem_of_getElem? (i := 85) rfl))) (mvT hZ (hw _ (List.mem_of_getElem? (i := 86) rfl))) (by decide) (backOf (W := 0) (rmOf l Z a0 hw [] y t1 t2 t3 t4 al ka hA_ hB_ hC_ hD_ h352 n0 (Nat.le_trans Z0 kp372.1) f366 f367 f368 f369 f370 f371) hZ (hw _ (List.mem_of_getElem? (i := 86) rfl)) (hw _ (List.mem_of_getElem? (i := 85) rfl)) (by decide) (by decide)) (g := (mkF m 341 #[.val (.int p1), .val (.ref b2), .val (.int v357), .val (.ref y), .val (.ref hA_), .unset] [(.ref y)])) rfl (by rw [hml]; rfl) (argsL := [(.ref y)]) (rest := []) (lenOf pd__Lcom_example_fourfold_fourfold_Term__Lcom_example_fourfold_fourfold_H_ rfl) rfl (by show 2 * 0 + _ ≤ _; exact Nat.le_of_eq rfl) (hb hby at_341) (fun _ _ => ⟨rfl, e363, (by decide : 1 + 0 ≤ _), (by decide : 39 + 0 ≤ _)⟩)
    dsimp only [Pt.U, Pt.locs, Pt.cells, Pt.slots] at X373' l373 y373 z373 st373 hQ373
    subst l373 y373 z373
    obtain ⟨rfl, N373q, e373⟩ := hQ373
    obtain ⟨lc373, X373, N373⟩ : ∃ lc, Stand p l e room_1 s m #[(.int p1)] below meth c T373 lc 1 39 ∧ Fr n0 lc := ⟨_, X373', Fr.app N352 N373q⟩
    have K374 : Gx p e below s₁ f0 T373 (mkF m 344 #[.val (.int p1), .val (.ref b2), .val (.int v357), .val (.ref y), .val (.ref hA_), .unset] [(ofF t1 t2 t3 t4 hA_ hB_ hC_ hD_ y)]) := fun t kt => K365 t (st373 t kt)
    rw [(show (ofF t1 t2 t3 t4 hA_ hB_ hC_ hD_ y) = .ref hA_ from by rw [y1 hb359]; exact own_of1 hd)] at K374
    have K375 : Gx p e below s₁ f0 T373 (mkF m 358 #[.val (.int p1), .val (.ref b2), .val (.int v357), .val (.ref y), .val (.ref hA_), .val (.ref hA_)] [(.int (1 : Int32))]) := fun t kt => K374 t (by
      show Steps p.tables e below (T373.setTop (mkF m 344 #[.val (.int p1), .val (.ref b2), .val (.int v357), .val (.ref y), .val (.ref hA_), .unset] [(.ref hA_)])) _
      refine XS.astore X373.here hx rfl (hb hby at_344) rfl rfl (l' := #[.val (.int p1), .val (.ref b2), .val (.int v357), .val (.ref y), .val (.ref hA_), .val (.ref hA_)]) rfl ?_
      show Steps p.tables e below (T373.setTop (mkF m 346 #[.val (.int p1), .val (.ref b2), .val (.int v357), .val (.ref y), .val (.ref hA_), .val (.ref hA_)] [])) _
      refine XS.aload X373.here hx rfl (hb hby at_346) rfl rfl ?_
      show Steps p.tables e below (T373.setTop (mkF m 348 #[.val (.int p1), .val (.ref b2), .val (.int v357), .val (.ref y), .val (.ref hA_), .val (.ref hA_)] [(.ref hA_)])) _
      refine XS.aload X373.here hx rfl (hb hby at_348) rfl rfl ?_
      show Steps p.tables e below (T373.setTop (mkF m 350 #[.val (.int p1), .val (.ref b2), .val (.int v357), .val (.ref y), .val (.ref hA_), .val (.ref hA_)] [(.ref hA_), (.ref hA_)])) _
      refine Jvm.RoadKit.acmp (g := (mkF m 350 #[.val (.int p1), .val (.ref b2), .val (.int v357), .val (.ref y), .val (.ref hA_), .val (.ref hA_)] [(.ref hA_), (.ref hA_)])) X373 hx rfl rfl rfl (pc0 := 350) (pc' := 353) (same := true) rfl (hb hby at_350) rfl (decide_eq_true rfl) (by decide) (by decide) ?_
      show Steps p.tables e below (T373.setTop (mkF m 353 #[.val (.int p1), .val (.ref b2), .val (.int v357), .val (.ref y), .val (.ref hA_), .val (.ref hA_)] [])) _
      refine XS.iconst X373.here hx rfl (hb hby at_353) ?_
      show Steps p.tables e below (T373.setTop (mkF m 354 #[.val (.int p1), .val (.ref b2), .val (.int v357), .val (.ref y), .val (.ref hA_), .val (.ref hA_)] [(.int (1 : Int32))])) _
      refine XS.goto X373.here hx rfl (pc0 := 354) (pc' := 358) rfl (hb hby at_354) (by decide) (by decide) ?_
      exact kt)
    obtain ⟨fs376, hr376, hrun376, hended376, hW376, hsame376⟩ := X373.leave (v := some (.int (1 : Int32))) (fun h => by rw [Bd.returns] at h; cases h)
    refine ⟨_, _, pre0 _ (K375 _ ?_), hrun376, hended376, _, _, rfl, ?_, ⟨_, rfl⟩, hW376, hsame376.mono (by decide) (by decide)⟩
    · exact retN X373 hx (t := .boolean) Bd.returns (by simp) (hb hby at_358) hr376
    · show Q0 Z p1 t0 t1 t2 t3 t4 t5 t6 t7 t8 t9 t10 t11 t12 t13 t14 t15 t16 t17 t18 t19 t20 t21 t22 t23 t24 t25 t26 t27 t28 t29 t30 t31 t32 t33 t34 t35 t36 t37 t38 al ka hA_ hB_ hC_ hD_ h0 n0 _ T373.heap _
      rw [e373]
      exact ⟨rfl, N373⟩
  · skip
    have K377 : Gx p e below s₁ f0 T352 (mkF m 300 #[.val (.int p1), .val (.ref b2), .val (.int v357), .val (.ref y), .unset, .unset] [(.int (2 : Int32)), (.int v357)]) := fun t kt => K358 t (by
      show Steps p.tables e below (T352.setTop (mkF m 287 #[.val (.int p1), .val (.ref b2), .val (.int v357), .val (.ref y), .unset, .unset] [(.int (1 : Int32)), (.int v357)])) _
      refine XS.icmpYes X352.here hx rfl (pc0 := 287) (pc' := 298) rfl (hb hby at_287) rfl (feq hb359).2 (by decide) (by decide) ?_
      show Steps p.tables e below (T352.setTop (mkF m 298 #[.val (.int p1), .val (.ref b2), .val (.int v357), .val (.ref y), .unset, .unset] [])) _
      refine XS.iloadN X352.here hx rfl (hb hby at_298) rfl ?_
      show Steps p.tables e below (T352.setTop (mkF m 299 #[.val (.int p1), .val (.ref b2), .val (.int v357), .val (.ref y), .unset, .unset] [(.int v357)])) _
      refine XS.iconst X352.here hx rfl (hb hby at_299) ?_
      exact kt)
    by_cases hb378 : v357 = (2 : Int32)
    · skip
      have K379 : Gx p e below s₁ f0 T352 (mkF m 303 #[.val (.int p1), .val (.ref b2), .val (.int v357), .val (.ref y), .unset, .unset] []) := fun t kt => K377 t (by
        show Steps p.tables e below (T352.setTop (mkF m 300 #[.val (.int p1), .val (.ref b2), .val (.int v357), .val (.ref y), .unset, .unset] [(.int (2 : Int32)), (.int v357)])) _
        refine XS.icmpNo X352.here hx rfl (hb hby at_300) rfl (teq hb378).2 ?_
        exact kt)
      have f380 : Old Z n0 h352 := (f347.wr W352 (Nat.le_trans Z0 (Nat.le_trans (Keep.refl h0 []).1 (Nat.le_of_eq g2.symm))))
      have f381 : Sta Z h352 "com/example/fourfold/fourfold/H" "WHAT" "Lcom/example/fourfold/fourfold/H;" (.ref hB_) := Sta.ext f380.2 pr86
      obtain ⟨T382, X382, e382, st382⟩ := getS2 X352 hx hZ hown (host := "") (Or.inl (hw _ (List.mem_of_getElem? (i := 96) rfl))) Via.refl e352 f381 (g := (mkF m 303 #[.val (.int p1), .val (.ref b2), .val (.int v357), .val (.ref y), .unset, .unset] [])) rfl (hb hby at_303)
      have K383 : Gx p e below s₁ f0 T382 (mkF m 306 #[.val (.int p1), .val (.ref b2), .val (.int v357), .val (.ref y), .unset, .unset] [(.ref hB_)]) := fun t kt => K379 t (st382 t kt)
      have K384 : Gx p e below s₁ f0 T382 (mkF m 341 #[.val (.int p1), .val (.ref b2), .val (.int v357), .val (.ref y), .val (.ref hB_), .unset] [(.ref y)]) := fun t kt => K383 t (by
        show Steps p.tables e below (T382.setTop (mkF m 306 #[.val (.int p1), .val (.ref b2), .val (.int v357), .val (.ref y), .unset, .unset] [(.ref hB_)])) _
        refine XS.astore X382.here hx rfl (hb hby at_306) rfl rfl (l' := #[.val (.int p1), .val (.ref b2), .val (.int v357), .val (.ref y), .val (.ref hB_), .unset]) rfl ?_
        show Steps p.tables e below (T382.setTop (mkF m 308 #[.val (.int p1), .val (.ref b2), .val (.int v357), .val (.ref y), .val (.ref hB_), .unset] [])) _
        refine XS.goto X382.here hx rfl (pc0 := 308) (pc' := 340) rfl (hb hby at_308) (by decide) (by decide) ?_
        show Steps p.tables e below (T382.setTop (mkF m 340 #[.val (.int p1), .val (.ref b2), .val (.int v357), .val (.ref y), .val (.ref hB_), .unset] [])) _
        refine XS.aloadN X382.here hx rfl (hb hby at_340) rfl rfl ?_
        exact kt)
      have f385 : Sta Z h352 "com/example/fourfold/fourfold/H" "ALL" "[Lcom/example/fourfold/fourfold/H;" (.ref al) := Sta.ext f380.2 pr79
      have f386 : Arv Z h352 al ka (.object "com/example/fourfold/fourfold/H") (4 : Int32) [(.ref hA_), (.ref hB_), (.ref hC_), (.ref hD_)] .null := pr80.ext f380.2
      have f387 : Fld Z h352 hA_ "com/example/fourfold/fourfold/H" "term" "Lcom/example/fourfold/fourfold/Term;" (.ref t1) := pr81.ext f380.2
      have f388 : Fld Z h352 hB_ "com/example/fourfold/fourfold/H" "term" "Lcom/example/fourfold/fourfold/Term;" (.ref t2) := pr82.ext f380.2
      have f389 : Fld Z h352 hC_ "com/example/fourfold/fourfold/H" "term" "Lcom/example/fourfold/fourfold/Term;" (.ref t3) := pr83.ext f380.2
      have f390 : Fld Z h352 hD_ "com/example/fourfold/fourfold/H" "term" "Lcom/example/fourfold/fourfold/Term;" (.ref t4) := pr84.ext f380.2
      have kp391 : Keep h0 h352 [] := (((((((((((((((((((((((((((((((((((((((((Keep.refl h0 []).ext E2).wr W10 (Or.inr (Nat.le_trans (Keep.refl h0 []).1 (Nat.le_of_eq g2.symm)))).wr W19 (Or.inr (Nat.le_trans (Keep.refl h0 []).1 (Nat.le_of_eq g2.symm)))).wr W28 (Or.inr (Nat.le_trans (Keep.refl h0 []).1 (Nat.le_of_eq g2.symm)))).wr W37 (Or.inr (Nat.le_trans (Keep.refl h0 []).1 (Nat.le_of_eq g2.symm)))).wr W46 (Or.inr (Nat.le_trans (Keep.refl h0 []).1 (Nat.le_of_eq g2.symm)))).wr W55 (Or.inr (Nat.le_trans (Keep.refl h0 []).1 (Nat.le_of_eq g2.symm)))).wr W64 (Or.inr (Nat.le_trans (Keep.refl h0 []).1 (Nat.le_of_eq g2.symm)))).wr W73 (Or.inr (Nat.le_trans (Keep.refl h0 []).1 (Nat.le_of_eq g2.symm)))).wr W82 (Or.inr (Nat.le_trans (Keep.refl h0 []).1 (Nat.le_of_eq g2.symm)))).wr W91 (Or.inr (Nat.le_trans (Keep.refl h0 []).1 (Nat.le_of_eq g2.symm)))).wr W100 (Or.inr (Nat.le_trans (Keep.refl h0 []).1 (Nat.le_of_eq g2.symm)))).wr W109 (Or.inr (Nat.le_trans (Keep.refl h0 []).1 (Nat.le_of_eq g2.symm)))).wr W118 (Or.inr (Nat.le_trans (Keep.refl h0 []).1 (Nat.le_of_eq g2.symm)))).wr W127 (Or.inr (Nat.le_trans (Keep.refl h0 []).1 (Nat.le_of_eq g2.symm)))).wr W136 (Or.inr (Nat.le_trans (Keep.refl h0 []).1 (Nat.le_of_eq g2.symm)))).wr W145 (Or.inr (Nat.le_trans (Keep.refl h0 []).1 (Nat.le_of_eq g2.symm)))).wr W154 (Or.inr (Nat.le_trans (Keep.refl h0 []).1 (Nat.le_of_eq g2.symm)))).wr W163 (Or.inr (Nat.le_trans (Keep.refl h0 []).1 (Nat.le_of_eq g2.symm)))).wr W172 (Or.inr (Nat.le_trans (Keep.refl h0 []).1 (Nat.le_of_eq g2.symm)))).wr W181 (Or.inr (Nat.le_trans (Keep.refl h0 []).1 (Nat.le_of_eq g2.symm)))).wr W190 (Or.inr (Nat.le_trans (Keep.refl h0 []).1 (Nat.le_of_eq g2.symm)))).wr W199 (Or.inr (Nat.le_trans (Keep.refl h0 []).1 (Nat.le_of_eq g2.symm)))).wr W208 (Or.inr (Nat.le_trans (Keep.refl h0 []).1 (Nat.le_of_eq g2.symm)))).wr W217 (Or.inr (Nat.le_trans (Keep.refl h0 []).1 (Nat.le_of_eq g2.symm)))).wr W226 (Or.inr (Nat.le_trans (Keep.refl h0 []).1 (Nat.le_of_eq g2.symm)))).wr W235 (Or.inr (Nat.le_trans (Keep.refl h0 []).1 (Nat.le_of_eq g2.symm)))).wr W244 (Or.inr (Nat.le_trans (Keep.refl h0 []).1 (Nat.le_of_eq g2.symm)))).wr W253 (Or.inr (Nat.le_trans (Keep.refl h0 []).1 (Nat.le_of_eq g2.symm)))).wr W262 (Or.inr (Nat.le_trans (Keep.refl h0 []).1 (Nat.le_of_eq g2.symm)))).wr W271 (Or.inr (Nat.le_trans (Keep.refl h0 []).1 (Nat.le_of_eq g2.symm)))).wr W280 (Or.inr (Nat.le_trans (Keep.refl h0 []).1 (Nat.le_of_eq g2.symm)))).wr W289 (Or.inr (Nat.le_trans (Keep.refl h0 []).1 (Nat.le_of_eq g2.symm)))).wr W298 (Or.inr (Nat.le_trans (Keep.refl h0 []).1 (Nat.le_of_eq g2.symm)))).wr W307 (Or.inr (Nat.le_trans (Keep.refl h0 []).1 (Nat.le_of_eq g2.symm)))).wr W316 (Or.inr (Nat.le_trans (Keep.refl h0 []).1 (Nat.le_of_eq g2.symm)))).wr W325 (Or.inr (Nat.le_trans (Keep.refl h0 []).1 (Nat.le_of_eq g2.symm)))).wr W334 (Or.inr (Nat.le_trans (Keep.refl h0 []).1 (Nat.le_of_eq g2.symm)))).wr W343 (Or.inr (Nat.le_trans (Keep.refl h0 []).1 (Nat.le_of_eq g2.symm)))).wr W352 (Or.inr (Nat.le_trans (Keep.refl h0 []).1 (Nat.le_of_eq g2.symm))))
      obtain ⟨_, _, ⟨T392, L392, k392, n392⟩, -, X392', ⟨Lc392, hQ392, l392, y392, z392⟩, st392⟩ := Jvm.LawKit.callS X382 hx (y := (⟨"com/example/fourfold/fourfold/H", "of", "(Lcom/example/fourfold/fourfold/Term;)Lcom/example/fourfold/fourfold/H;"⟩ : MethodName)) hown (mvT hZ (hw _ (List.mem_of_getElem? (i := 83) rfl))) (mvT hZ (hw _ (List.mem_of_getElem? (i := 84) rfl))) (mvT hZ (hw _ (List.mem_of_getElem? (i := 85) rfl))) (mvT hZ (hw _ (List.mem_of_getElem? (i := 86) rfl))) (by decide) (backOf (W := 0) (rmOf l Z a0 hw [] y t1 t2 t3 t4 al ka hA_ hB_ hC_ hD_ h352 n0 (Nat.le_trans Z0 kp391.1) f385 f386 f387 f388 f389 f390) hZ (hw _ (List.mem_of_getElem? (i := 86) rfl)) (hw _ (List.mem_of_getElem? (i := 85) rfl)) (by decide) (by decide)) (g := (mkF m 341 #[.val (.int p1), .val (.ref b2), .val (.int v357), .val (.ref y), .val (.ref hB_), .unset] [(.ref y)])) rfl (by rw [hml]; rfl) (argsL := [(.ref y)]) (rest := []) (lenOf pd__Lcom_example_fourfold_fourfold_Term__Lcom_example_fourfold_fourfold_H_ rfl) rfl (by show 2 * 0 + _ ≤ _; exact Nat.le_of_eq rfl) (hb hby at_341) (fun _ _ => ⟨rfl, e382, (by decide : 1 + 0 ≤ _), (by decide : 39 + 0 ≤ _)⟩)
      dsimp only [Pt.U, Pt.locs, Pt.cells, Pt.slots] at X392' l392 y392 z392 st392 hQ392
      subst l392 y392 z392
      obtain ⟨rfl, N392q, e392⟩ := hQ392
      obtain ⟨lc392, X392, N392⟩ : ∃ lc, Stand p l e room_1 s m #[(.int p1)] below meth c T392 lc 1 39 ∧ Fr n0 lc := ⟨_, X392', Fr.app N352 N392q⟩
      have K393 : Gx p e below s₁ f0 T392 (mkF m 344 #[.val (.int p1), .val (.ref b2), .val (.int v357), .val (.ref y), .val (.ref hB_), .unset] [(ofF t1 t2 t3 t4 hA_ hB_ hC_ hD_ y)]) := fun t kt => K384 t (st392 t kt)
      rw [(show (ofF t1 t2 t3 t4 hA_ hB_ hC_ hD_ y) = .ref hB_ from by rw [y2 hb378]; exact own_of2 hd)] at K393
      have K394 : Gx p e below s₁ f0 T392 (mkF m 358 #[.val (.int p1), .val (.ref b2), .val (.int v357), .val (.ref y), .val (.ref hB_), .val (.ref hB_)] [(.int (1 : Int32))]) := fun t kt => K393 t (by
        show Steps p.tables e below (T392.setTop (mkF m 344 #[.val (.int p1), .val (.ref b2), .val (.int v357), .val (.ref y), .val (.ref hB_), .unset] [(.ref hB_)])) _
        refine XS.astore X392.here hx rfl (hb hby at_344) rfl rfl (l' := #[.val (.int p1), .val (.ref b2), .val (.int v357), .val (.ref y), .val (.ref hB_), .val (.ref hB_)]) rfl ?_
        show Steps p.tables e below (T392.setTop (mkF m 346 #[.val (.int p1), .val (.ref b2), .val (.int v357), .val (.ref y), .val (.ref hB_), .val (.ref hB_)] [])) _
        refine XS.aload X392.here hx rfl (hb hby at_346) rfl rfl ?_
        show Steps p.tables e below (T392.setTop (mkF m 348 #[.val (.int p1), .val (.ref b2), .val (.int v357), .val (.ref y), .val (.ref hB_), .val (.ref hB_)] [(.ref hB_)])) _
        refine XS.aload X392.here hx rfl (hb hby at_348) rfl rfl ?_
        show Steps p.tables e below (T392.setTop (mkF m 350 #[.val (.int p1), .val (.ref b2), .val (.int v357), .val (.ref y), .val (.ref hB_), .val (.ref hB_)] [(.ref hB_), (.ref hB_)])) _
        refine Jvm.RoadKit.acmp (g := (mkF m 350 #[.val (.int p1), .val (.ref b2), .val (.int v357), .val (.ref y), .val (.ref hB_), .val (.ref hB_)] [(.ref hB_), (.ref hB_)])) X392 hx rfl rfl rfl (pc0 := 350) (pc' := 353) (same := true) rfl (hb hby at_350) rfl (decide_eq_true rfl) (by decide) (by decide) ?_
        show Steps p.tables e below (T392.setTop (mkF m 353 #[.val (.int p1), .val (.ref b2), .val (.int v357), .val (.ref y), .val (.ref hB_), .val (.ref hB_)] [])) _
        refine XS.iconst X392.here hx rfl (hb hby at_353) ?_
        show Steps p.tables e below (T392.setTop (mkF m 354 #[.val (.int p1), .val (.ref b2), .val (.int v357), .val (.ref y), .val (.ref hB_), .val (.ref hB_)] [(.int (1 : Int32))])) _
        refine XS.goto X392.here hx rfl (pc0 := 354) (pc' := 358) rfl (hb hby at_354) (by decide) (by decide) ?_
        exact kt)
      obtain ⟨fs395, hr395, hrun395, hended395, hW395, hsame395⟩ := X392.leave (v := some (.int (1 : Int32))) (fun h => by rw [Bd.returns] at h; cases h)
      refine ⟨_, _, pre0 _ (K394 _ ?_), hrun395, hended395, _, _, rfl, ?_, ⟨_, rfl⟩, hW395, hsame395.mono (by decide) (by decide)⟩
      · exact retN X392 hx (t := .boolean) Bd.returns (by simp) (hb hby at_358) hr395
      · show Q0 Z p1 t0 t1 t2 t3 t4 t5 t6 t7 t8 t9 t10 t11 t12 t13 t14 t15 t16 t17 t18 t19 t20 t21 t22 t23 t24 t25 t26 t27 t28 t29 t30 t31 t32 t33 t34 t35 t36 t37 t38 al ka hA_ hB_ hC_ hD_ h0 n0 _ T392.heap _
        rw [e392]
        exact ⟨rfl, N392⟩
    · skip
      have K396 : Gx p e below s₁ f0 T352 (mkF m 313 #[.val (.int p1), .val (.ref b2), .val (.int v357), .val (.ref y), .unset, .unset] [(.int (3 : Int32)), (.int v357)]) := fun t kt => K377 t (by
        show Steps p.tables e below (T352.setTop (mkF m 300 #[.val (.int p1), .val (.ref b2), .val (.int v357), .val (.ref y), .unset, .unset] [(.int (2 : Int32)), (.int v357)])) _
        refine XS.icmpYes X352.here hx rfl (pc0 := 300) (pc' := 311) rfl (hb hby at_300) rfl (feq hb378).2 (by decide) (by decide) ?_
        show Steps p.tables e below (T352.setTop (mkF m 311 #[.val (.int p1), .val (.ref b2), .val (.int v357), .val (.ref y), .unset, .unset] [])) _
        refine XS.iloadN X352.here hx rfl (hb hby at_311) rfl ?_
        show Steps p.tables e below (T352.setTop (mkF m 312 #[.val (.int p1), .val (.ref b2), .val (.int v357), .val (.ref y), .unset, .unset] [(.int v357)])) _
        refine XS.iconst X352.here hx rfl (hb hby at_312) ?_
        exact kt)
      by_cases hb397 : v357 = (3 : Int32)
      · skip
        have K398 : Gx p e below s₁ f0 T352 (mkF m 316 #[.val (.int p1), .val (.ref b2), .val (.int v357), .val (.ref y), .unset, .unset] []) := fun t kt => K396 t (by
          show Steps p.tables e below (T352.setTop (mkF m 313 #[.val (.int p1), .val (.ref b2), .val (.int v357), .val (.ref y), .unset, .unset] [(.int (3 : Int32)), (.int v357)])) _
          refine XS.icmpNo X352.here hx rfl (hb hby at_313) rfl (teq hb397).2 ?_
          exact kt)
        have f399 : Old Z n0 h352 := (f347.wr W352 (Nat.le_trans Z0 (Nat.le_trans (Keep.refl h0 []).1 (Nat.le_of_eq g2.symm))))
        have f400 : Sta Z h352 "com/example/fourfold/fourfold/H" "WHEN" "Lcom/example/fourfold/fourfold/H;" (.ref hC_) := Sta.ext f399.2 pr87
        obtain ⟨T401, X401, e401, st401⟩ := getS2 X352 hx hZ hown (host := "") (Or.inl (hw _ (List.mem_of_getElem? (i := 95) rfl))) Via.refl e352 f400 (g := (mkF m 316 #[.val (.int p1), .val (.ref b2), .val (.int v357), .val (.ref y), .unset, .unset] [])) rfl (hb hby at_316)
        have K402 : Gx p e below s₁ f0 T401 (mkF m 319 #[.val (.int p1), .val (.ref b2), .val (.int v357), .val (.ref y), .unset, .unset] [(.ref hC_)]) := fun t kt => K398 t (st401 t kt)
        have K403 : Gx p e below s₁ f0 T401 (mkF m 341 #[.val (.int p1), .val (.ref b2), .val (.int v357), .val (.ref y), .val (.ref hC_), .unset] [(.ref y)]) := fun t kt => K402 t (by
          show Steps p.tables e below (T401.setTop (mkF m 319 #[.val (.int p1), .val (.ref b2), .val (.int v357), .val (.ref y), .unset, .unset] [(.ref hC_)])) _
          refine XS.astore X401.here hx rfl (hb hby at_319) rfl rfl (l' := #[.val (.int p1), .val (.ref b2), .val (.int v357), .val (.ref y), .val (.ref hC_), .unset]) rfl ?_
          show Steps p.tables e below (T401.setTop (mkF m 321 #[.val (.int p1), .val (.ref b2), .val (.int v357), .val (.ref y), .val (.ref hC_), .unset] [])) _
          refine XS.goto X401.here hx rfl (pc0 := 321) (pc' := 340) rfl (hb hby at_321) (by decide) (by decide) ?_
          show Steps p.tables e below (T401.setTop (mkF m 340 #[.val (.int p1), .val (.ref b2), .val (.int v357), .val (.ref y), .val (.ref hC_), .unset] [])) _
          refine XS.aloadN X401.here hx rfl (hb hby at_340) rfl rfl ?_
          exact kt)
        have f404 : Sta Z h352 "com/example/fourfold/fourfold/H" "ALL" "[Lcom/example/fourfold/fourfold/H;" (.ref al) := Sta.ext f399.2 pr79
        have f405 : Arv Z h352 al ka (.object "com/example/fourfold/fourfold/H") (4 : Int32) [(.ref hA_), (.ref hB_), (.ref hC_), (.ref hD_)] .null := pr80.ext f399.2
        have f406 : Fld Z h352 hA_ "com/example/fourfold/fourfold/H" "term" "Lcom/example/fourfold/fourfold/Term;" (.ref t1) := pr81.ext f399.2
        have f407 : Fld Z h352 hB_ "com/example/fourfold/fourfold/H" "term" "Lcom/example/fourfold/fourfold/Term;" (.ref t2) := pr82.ext f399.2
        have f408 : Fld Z h352 hC_ "com/example/fourfold/fourfold/H" "term" "Lcom/example/fourfold/fourfold/Term;" (.ref t3) := pr83.ext f399.2
        have f409 : Fld Z h352 hD_ "com/example/fourfold/fourfold/H" "term" "Lcom/example/fourfold/fourfold/Term;" (.ref t4) := pr84.ext f399.2
        have kp410 : Keep h0 h352 [] := (((((((((((((((((((((((((((((((((((((((((Keep.refl h0 []).ext E2).wr W10 (Or.inr (Nat.le_trans (Keep.refl h0 []).1 (Nat.le_of_eq g2.symm)))).wr W19 (Or.inr (Nat.le_trans (Keep.refl h0 []).1 (Nat.le_of_eq g2.symm)))).wr W28 (Or.inr (Nat.le_trans (Keep.refl h0 []).1 (Nat.le_of_eq g2.symm)))).wr W37 (Or.inr (Nat.le_trans (Keep.refl h0 []).1 (Nat.le_of_eq g2.symm)))).wr W46 (Or.inr (Nat.le_trans (Keep.refl h0 []).1 (Nat.le_of_eq g2.symm)))).wr W55 (Or.inr (Nat.le_trans (Keep.refl h0 []).1 (Nat.le_of_eq g2.symm)))).wr W64 (Or.inr (Nat.le_trans (Keep.refl h0 []).1 (Nat.le_of_eq g2.symm)))).wr W73 (Or.inr (Nat.le_trans (Keep.refl h0 []).1 (Nat.le_of_eq g2.symm)))).wr W82 (Or.inr (Nat.le_trans (Keep.refl h0 []).1 (Nat.le_of_eq g2.symm)))).wr W91 (Or.inr (Nat.le_trans (Keep.refl h0 []).1 (Nat.le_of_eq g2.symm)))).wr W100 (Or.inr (Nat.le_trans (Keep.refl h0 []).1 (Nat.le_of_eq g2.symm)))).wr W109 (Or.inr (Nat.le_trans (Keep.refl h0 []).1 (Nat.le_of_eq g2.symm)))).wr W118 (Or.inr (Nat.le_trans (Keep.refl h0 []).1 (Nat.le_of_eq g2.symm)))).wr W127 (Or.inr (Nat.le_trans (Keep.refl h0 []).1 (Nat.le_of_eq g2.symm)))).wr W136 (Or.inr (Nat.le_trans (Keep.refl h0 []).1 (Nat.le_of_eq g2.symm)))).wr W145 (Or.inr (Nat.le_trans (Keep.refl h0 []).1 (Nat.le_of_eq g2.symm)))).wr W154 (Or.inr (Nat.le_trans (Keep.refl h0 []).1 (Nat.le_of_eq g2.symm)))).wr W163 (Or.inr (Nat.le_trans (Keep.refl h0 []).1 (Nat.le_of_eq g2.symm)))).wr W172 (Or.inr (Nat.le_trans (Keep.refl h0 []).1 (Nat.le_of_eq g2.symm)))).wr W181 (Or.inr (Nat.le_trans (Keep.refl h0 []).1 (Nat.le_of_eq g2.symm)))).wr W190 (Or.inr (Nat.le_trans (Keep.refl h0 []).1 (Nat.le_of_eq g2.symm)))).wr W199 (Or.inr (Nat.le_trans (Keep.refl h0 []).1 (Nat.le_of_eq g2.symm)))).wr W208 (Or.inr (Nat.le_trans (Keep.refl h0 []).1 (Nat.le_of_eq g2.symm)))).wr W217 (Or.inr (Nat.le_trans (Keep.refl h0 []).1 (Nat.le_of_eq g2.symm)))).wr W226 (Or.inr (Nat.le_trans (Keep.refl h0 []).1 (Nat.le_of_eq g2.symm)))).wr W235 (Or.inr (Nat.le_trans (Keep.refl h0 []).1 (Nat.le_of_eq g2.symm)))).wr W244 (Or.inr (Nat.le_trans (Keep.refl h0 []).1 (Nat.le_of_eq g2.symm)))).wr W253 (Or.inr (Nat.le_trans (Keep.refl h0 []).1 (Nat.le_of_eq g2.symm)))).wr W262 (Or.inr (Nat.le_trans (Keep.refl h0 []).1 (Nat.le_of_eq g2.symm)))).wr W271 (Or.inr (Nat.le_trans (Keep.refl h0 []).1 (Nat.le_of_eq g2.symm)))).wr W280 (Or.inr (Nat.le_trans (Keep.refl h0 []).1 (Nat.le_of_eq g2.symm)))).wr W289 (Or.inr (Nat.le_trans (Keep.refl h0 []).1 (Nat.le_of_eq g2.symm)))).wr W298 (Or.inr (Nat.le_trans (Keep.refl h0 []).1 (Nat.le_of_eq g2.symm)))).wr W307 (Or.inr (Nat.le_trans (Keep.refl h0 []).1 (Nat.le_of_eq g2.symm)))).wr W316 (Or.inr (Nat.le_trans (Keep.refl h0 []).1 (Nat.le_of_eq g2.symm)))).wr W325 (Or.inr (Nat.le_trans (Keep.refl h0 []).1 (Nat.le_of_eq g2.symm)))).wr W334 (Or.inr (Nat.le_trans (Keep.refl h0 []).1 (Nat.le_of_eq g2.symm)))).wr W343 (Or.inr (Nat.le_trans (Keep.refl h0 []).1 (Nat.le_of_eq g2.symm)))).wr W352 (Or.inr (Nat.le_trans (Keep.refl h0 []).1 (Nat.le_of_eq g2.symm))))
        obtain ⟨_, _, ⟨T411, L411, k411, n411⟩, -, X411', ⟨Lc411, hQ411, l411, y411, z411⟩, st411⟩ := Jvm.LawKit.callS X401 hx (y := (⟨"com/example/fourfold/fourfold/H", "of", "(Lcom/example/fourfold/fourfold/Term;)Lcom/example/fourfold/fourfold/H;"⟩ : MethodName)) hown (mvT hZ (hw _ (List.mem_of_getElem? (i := 83) rfl))) (mvT hZ (hw _ (List.mem_of_getElem? (i := 84) rfl))) (mvT hZ (hw _ (List.mem_of_getElem? (i := 85) rfl))) (mvT hZ (hw _ (List.mem_of_getElem? (i := 86) rfl))) (by decide) (backOf (W := 0) (rmOf l Z a0 hw [] y t1 t2 t3 t4 al ka hA_ hB_ hC_ hD_ h352 n0 (Nat.le_trans Z0 kp410.1) f404 f405 f406 f407 f408 f409) hZ (hw _ (List.mem_of_getElem? (i := 86) rfl)) (hw _ (List.mem_of_getElem? (i := 85) rfl)) (by decide) (by decide)) (g := (mkF m 341 #[.val (.int p1), .val (.ref b2), .val (.int v357), .val (.ref y), .val (.ref hC_), .unset] [(.ref y)])) rfl (by rw [hml]; rfl) (argsL := [(.ref y)]) (rest := []) (lenOf pd__Lcom_example_fourfold_fourfold_Term__Lcom_example_fourfold_fourfold_H_ rfl) rfl (by show 2 * 0 + _ ≤ _; exact Nat.le_of_eq rfl) (hb hby at_341) (fun _ _ => ⟨rfl, e401, (by decide : 1 + 0 ≤ _), (by decide : 39 + 0 ≤ _)⟩)
        dsimp only [Pt.U, Pt.locs, Pt.cells, Pt.slots] at X411' l411 y411 z411 st411 hQ411
        subst l411 y411 z411
        obtain ⟨rfl, N411q, e411⟩ := hQ411
        obtain ⟨lc411, X411, N411⟩ : ∃ lc, Stand p l e room_1 s m #[(.int p1)] below meth c T411 lc 1 39 ∧ Fr n0 lc := ⟨_, X411', Fr.app N352 N411q⟩
        have K412 : Gx p e below s₁ f0 T411 (mkF m 344 #[.val (.int p1), .val (.ref b2), .val (.int v357), .val (.ref y), .val (.ref hC_), .unset] [(ofF t1 t2 t3 t4 hA_ hB_ hC_ hD_ y)]) := fun t kt => K403 t (st411 t kt)
        rw [(show (ofF t1 t2 t3 t4 hA_ hB_ hC_ hD_ y) = .ref hC_ from by rw [y3 hb397]; exact own_of3 hd)] at K412
        have K413 : Gx p e below s₁ f0 T411 (mkF m 358 #[.val (.int p1), .val (.ref b2), .val (.int v357), .val (.ref y), .val (.ref hC_), .val (.ref hC_)] [(.int (1 : Int32))]) := fun t kt => K412 t (by
          show Steps p.tables e below (T411.setTop (mkF m 344 #[.val (.int p1), .val (.ref b2), .val (.int v357), .val (.ref y), .val (.ref hC_), .unset] [(.ref hC_)])) _
          refine XS.astore X411.here hx rfl (hb hby at_344) rfl rfl (l' := #[.val (.int p1), .val (.ref b2), .val (.int v357), .val (.ref y), .val (.ref hC_), .val (.ref hC_)]) rfl ?_
          show Steps p.tables e below (T411.setTop (mkF m 346 #[.val (.int p1), .val (.ref b2), .val (.int v357), .val (.ref y), .val (.ref hC_), .val (.ref hC_)] [])) _
          refine XS.aload X411.here hx rfl (hb hby at_346) rfl rfl ?_
          show Steps p.tables e below (T411.setTop (mkF m 348 #[.val (.int p1), .val (.ref b2), .val (.int v357), .val (.ref y), .val (.ref hC_), .val (.ref hC_)] [(.ref hC_)])) _
          refine XS.aload X411.here hx rfl (hb hby at_348) rfl rfl ?_
          show Steps p.tables e below (T411.setTop (mkF m 350 #[.val (.int p1), .val (.ref b2), .val (.int v357), .val (.ref y), .val (.ref hC_), .val (.ref hC_)] [(.ref hC_), (.ref hC_)])) _
          refine Jvm.RoadKit.acmp (g := (mkF m 350 #[.val (.int p1), .val (.ref b2), .val (.int v357), .val (.ref y), .val (.ref hC_), .val (.ref hC_)] [(.ref hC_), (.ref hC_)])) X411 hx rfl rfl rfl (pc0 := 350) (pc' := 353) (same := true) rfl (hb hby at_350) rfl (decide_eq_true rfl) (by decide) (by decide) ?_
          show Steps p.tables e below (T411.setTop (mkF m 353 #[.val (.int p1), .val (.ref b2), .val (.int v357), .val (.ref y), .val (.ref hC_), .val (.ref hC_)] [])) _
          refine XS.iconst X411.here hx rfl (hb hby at_353) ?_
          show Steps p.tables e below (T411.setTop (mkF m 354 #[.val (.int p1), .val (.ref b2), .val (.int v357), .val (.ref y), .val (.ref hC_), .val (.ref hC_)] [(.int (1 : Int32))])) _
          refine XS.goto X411.here hx rfl (pc0 := 354) (pc' := 358) rfl (hb hby at_354) (by decide) (by decide) ?_
          exact kt)
        obtain ⟨fs414, hr414, hrun414, hended414, hW414, hsame414⟩ := X411.leave (v := some (.int (1 : Int32))) (fun h => by rw [Bd.returns] at h; cases h)
        refine ⟨_, _, pre0 _ (K413 _ ?_), hrun414, hended414, _, _, rfl, ?_, ⟨_, rfl⟩, hW414, hsame414.mono (by decide) (by decide)⟩
        · exact retN X411 hx (t := .boolean) Bd.returns (by simp) (hb hby at_358) hr414
        · show Q0 Z p1 t0 t1 t2 t3 t4 t5 t6 t7 t8 t9 t10 t11 t12 t13 t14 t15 t16 t17 t18 t19 t20 t21 t22 t23 t24 t25 t26 t27 t28 t29 t30 t31 t32 t33 t34 t35 t36 t37 t38 al ka hA_ hB_ hC_ hD_ h0 n0 _ T411.heap _
          rw [e411]
          exact ⟨rfl, N411⟩
      · skip
        have K415 : Gx p e below s₁ f0 T352 (mkF m 326 #[.val (.int p1), .val (.ref b2), .val (.int v357), .val (.ref y), .unset, .unset] [(.int (4 : Int32)), (.int v357)]) := fun t kt => K396 t (by
          show Steps p.tables e below (T352.setTop (mkF m 313 #[.val (.int p1), .val (.ref b2), .val (.int v357), .val (.ref y), .unset, .unset] [(.int (3 : Int32)), (.int v357)])) _
          refine XS.icmpYes X352.here hx rfl (pc0 := 313) (pc' := 324) rfl (hb hby at_313) rfl (feq hb397).2 (by decide) (by decide) ?_
          show Steps p.tables e below (T352.setTop (mkF m 324 #[.val (.int p1), .val (.ref b2), .val (.int v357), .val (.ref y), .unset, .unset] [])) _
          refine XS.iloadN X352.here hx rfl (hb hby at_324) rfl ?_
          show Steps p.tables e below (T352.setTop (mkF m 325 #[.val (.int p1), .val (.ref b2), .val (.int v357), .val (.ref y), .unset, .unset] [(.int v357)])) _
          refine XS.iconst X352.here hx rfl (hb hby at_325) ?_
          exact kt)
        by_cases hb416 : v357 = (4 : Int32)
        · skip
          have K417 : Gx p e below s₁ f0 T352 (mkF m 329 #[.val (.int p1), .val (.ref b2), .val (.int v357), .val (.ref y), .unset, .unset] []) := fun t kt => K415 t (by
            show Steps p.tables e below (T352.setTop (mkF m 326 #[.val (.int p1), .val (.ref b2), .val (.int v357), .val (.ref y), .unset, .unset] [(.int (4 : Int32)), (.int v357)])) _
            refine XS.icmpNo X352.here hx rfl (hb hby at_326) rfl (teq hb416).2 ?_
            exact kt)
          have f418 : Old Z n0 h352 := (f347.wr W352 (Nat.le_trans Z0 (Nat.le_trans (Keep.refl h0 []).1 (Nat.le_of_eq g2.symm))))
          have f419 : Sta Z h352 "com/example/fourfold/fourfold/H" "WHERE" "Lcom/example/fourfold/fourfold/H;" (.ref hD_) := Sta.ext f418.2 pr88
          obtain ⟨T420, X420, e420, st420⟩ := getS2 X352 hx hZ hown (host := "") (Or.inl (hw _ (List.mem_of_getElem? (i := 98) rfl))) Via.refl e352 f419 (g := (mkF m 329 #[.val (.int p1), .val (.ref b2), .val (.int v357), .val (.ref y), .unset, .unset] [])) rfl (hb hby at_329)
          have K421 : Gx p e below s₁ f0 T420 (mkF m 332 #[.val (.int p1), .val (.ref b2), .val (.int v357), .val (.ref y), .unset, .unset] [(.ref hD_)]) := fun t kt => K417 t (st420 t kt)
          have K422 : Gx p e below s₁ f0 T420 (mkF m 341 #[.val (.int p1), .val (.ref b2), .val (.int v357), .val (.ref y), .val (.ref hD_), .unset] [(.ref y)]) := fun t kt => K421 t (by
            show Steps p.tables e below (T420.setTop (mkF m 332 #[.val (.int p1), .val (.ref b2), .val (.int v357), .val (.ref y), .unset, .unset] [(.ref hD_)])) _
            refine XS.astore X420.here hx rfl (hb hby at_332) rfl rfl (l' := #[.val (.int p1), .val (.ref b2), .val (.int v357), .val (.ref y), .val (.ref hD_), .unset]) rfl ?_
            show Steps p.tables e below (T420.setTop (mkF m 334 #[.val (.int p1), .val (.ref b2), .val (.int v357), .val (.ref y), .val (.ref hD_), .unset] [])) _
            refine XS.goto X420.here hx rfl (pc0 := 334) (pc' := 340) rfl (hb hby at_334) (by decide) (by decide) ?_
            show Steps p.tables e below (T420.setTop (mkF m 340 #[.val (.int p1), .val (.ref b2), .val (.int v357), .val (.ref y), .val (.ref hD_), .unset] [])) _
            refine XS.aloadN X420.here hx rfl (hb hby at_340) rfl rfl ?_
            exact kt)
          have f423 : Sta Z h352 "com/example/fourfold/fourfold/H" "ALL" "[Lcom/example/fourfold/fourfold/H;" (.ref al) := Sta.ext f418.2 pr79
          have f424 : Arv Z h352 al ka (.object "com/example/fourfold/fourfold/H") (4 : Int32) [(.ref hA_), (.ref hB_), (.ref hC_), (.ref hD_)] .null := pr80.ext f418.2
          have f425 : Fld Z h352 hA_ "com/example/fourfold/fourfold/H" "term" "Lcom/example/fourfold/fourfold/Term;" (.ref t1) := pr81.ext f418.2
          have f426 : Fld Z h352 hB_ "com/example/fourfold/fourfold/H" "term" "Lcom/example/fourfold/fourfold/Term;" (.ref t2) := pr82.ext f418.2
          have f427 : Fld Z h352 hC_ "com/example/fourfold/fourfold/H" "term" "Lcom/example/fourfold/fourfold/Term;" (.ref t3) := pr83.ext f418.2
          have f428 : Fld Z h352 hD_ "com/example/fourfold/fourfold/H" "term" "Lcom/example/fourfold/fourfold/Term;" (.ref t4) := pr84.ext f418.2
          have kp429 : Keep h0 h352 [] := (((((((((((((((((((((((((((((((((((((((((Keep.refl h0 []).ext E2).wr W10 (Or.inr (Nat.le_trans (Keep.refl h0 []).1 (Nat.le_of_eq g2.symm)))).wr W19 (Or.inr (Nat.le_trans (Keep.refl h0 []).1 (Nat.le_of_eq g2.symm)))).wr W28 (Or.inr (Nat.le_trans (Keep.refl h0 []).1 (Nat.le_of_eq g2.symm)))).wr W37 (Or.inr (Nat.le_trans (Keep.refl h0 []).1 (Nat.le_of_eq g2.symm)))).wr W46 (Or.inr (Nat.le_trans (Keep.refl h0 []).1 (Nat.le_of_eq g2.symm)))).wr W55 (Or.inr (Nat.le_trans (Keep.refl h0 []).1 (Nat.le_of_eq g2.symm)))).wr W64 (Or.inr (Nat.le_trans (Keep.refl h0 []).1 (Nat.le_of_eq g2.symm)))).wr W73 (Or.inr (Nat.le_trans (Keep.refl h0 []).1 (Nat.le_of_eq g2.symm)))).wr W82 (Or.inr (Nat.le_trans (Keep.refl h0 []).1 (Nat.le_of_eq g2.symm)))).wr W91 (Or.inr (Nat.le_trans (Keep.refl h0 []).1 (Nat.le_of_eq g2.symm)))).wr W100 (Or.inr (Nat.le_trans (Keep.refl h0 []).1 (Nat.le_of_eq g2.symm)))).wr W109 (Or.inr (Nat.le_trans (Keep.refl h0 []).1 (Nat.le_of_eq g2.symm)))).wr W118 (Or.inr (Nat.le_trans (Keep.refl h0 []).1 (Nat.le_of_eq g2.symm)))).wr W127 (Or.inr (Nat.le_trans (Keep.refl h0 []).1 (Nat.le_of_eq g2.symm)))).wr W136 (Or.inr (Nat.le_trans (Keep.refl h0 []).1 (Nat.le_of_eq g2.symm)))).wr W145 (Or.inr (Nat.le_trans (Keep.refl h0 []).1 (Nat.le_of_eq g2.symm)))).wr W154 (Or.inr (Nat.le_trans (Keep.refl h0 []).1 (Nat.le_of_eq g2.symm)))).wr W163 (Or.inr (Nat.le_trans (Keep.refl h0 []).1 (Nat.le_of_eq g2.symm)))).wr W172 (Or.inr (Nat.le_trans (Keep.refl h0 []).1 (Nat.le_of_eq g2.symm)))).wr W181 (Or.inr (Nat.le_trans (Keep.refl h0 []).1 (Nat.le_of_eq g2.symm)))).wr W190 (Or.inr (Nat.le_trans (Keep.refl h0 []).1 (Nat.le_of_eq g2.symm)))).wr W199 (Or.inr (Nat.le_trans (Keep.refl h0 []).1 (Nat.le_of_eq g2.symm)))).wr W208 (Or.inr (Nat.le_trans (Keep.refl h0 []).1 (Nat.le_of_eq g2.symm)))).wr W217 (Or.inr (Nat.le_trans (Keep.refl h0 []).1 (Nat.le_of_eq g2.symm)))).wr W226 (Or.inr (Nat.le_trans (Keep.refl h0 []).1 (Nat.le_of_eq g2.symm)))).wr W235 (Or.inr (Nat.le_trans (Keep.refl h0 []).1 (Nat.le_of_eq g2.symm)))).wr W244 (Or.inr (Nat.le_trans (Keep.refl h0 []).1 (Nat.le_of_eq g2.symm)))).wr W253 (Or.inr (Nat.le_trans (Keep.refl h0 []).1 (Nat.le_of_eq g2.symm)))).wr W262 (Or.inr (Nat.le_trans (Keep.refl h0 []).1 (Nat.le_of_eq g2.symm)))).wr W271 (Or.inr (Nat.le_trans (Keep.refl h0 []).1 (Nat.le_of_eq g2.symm)))).wr W280 (Or.inr (Nat.le_trans (Keep.refl h0 []).1 (Nat.le_of_eq g2.symm)))).wr W289 (Or.inr (Nat.le_trans (Keep.refl h0 []).1 (Nat.le_of_eq g2.symm)))).wr W298 (Or.inr (Nat.le_trans (Keep.refl h0 []).1 (Nat.le_of_eq g2.symm)))).wr W307 (Or.inr (Nat.le_trans (Keep.refl h0 []).1 (Nat.le_of_eq g2.symm)))).wr W316 (Or.inr (Nat.le_trans (Keep.refl h0 []).1 (Nat.le_of_eq g2.symm)))).wr W325 (Or.inr (Nat.le_trans (Keep.refl h0 []).1 (Nat.le_of_eq g2.symm)))).wr W334 (Or.inr (Nat.le_trans (Keep.refl h0 []).1 (Nat.le_of_eq g2.symm)))).wr W343 (Or.inr (Nat.le_trans (Keep.refl h0 []).1 (Nat.le_of_eq g2.symm)))).wr W352 (Or.inr (Nat.le_trans (Keep.refl h0 []).1 (Nat.le_of_eq g2.symm))))
          obtain ⟨_, _, ⟨T430, L430, k430, n430⟩, -, X430', ⟨Lc430, hQ430, l430, y430, z430⟩, st430⟩ := Jvm.LawKit.callS X420 hx (y := (⟨"com/example/fourfold/fourfold/H", "of", "(Lcom/example/fourfold/fourfold/Term;)Lcom/example/fourfold/fourfold/H;"⟩ : MethodName)) hown (mvT hZ (hw _ (List.mem_of_getElem? (i := 83) rfl))) (mvT hZ (hw _ (List.mem_of_getElem? (i := 84) rfl))) (mvT hZ (hw _ (List.mem_of_getElem? (i := 85) rfl))) (mvT hZ (hw _ (List.mem_of_getElem? (i := 86) rfl))) (by decide) (backOf (W := 0) (rmOf l Z a0 hw [] y t1 t2 t3 t4 al ka hA_ hB_ hC_ hD_ h352 n0 (Nat.le_trans Z0 kp429.1) f423 f424 f425 f426 f427 f428) hZ (hw _ (List.mem_of_getElem? (i := 86) rfl)) (hw _ (List.mem_of_getElem? (i := 85) rfl)) (by decide) (by decide)) (g := (mkF m 341 #[.val (.int p1), .val (.ref b2), .val (.int v357), .val (.ref y), .val (.ref hD_), .unset] [(.ref y)])) rfl (by rw [hml]; rfl) (argsL := [(.ref y)]) (rest := []) (lenOf pd__Lcom_example_fourfold_fourfold_Term__Lcom_example_fourfold_fourfold_H_ rfl) rfl (by show 2 * 0 + _ ≤ _; exact Nat.le_of_eq rfl) (hb hby at_341) (fun _ _ => ⟨rfl, e420, (by decide : 1 + 0 ≤ _), (by decide : 39 + 0 ≤ _)⟩)
          dsimp only [Pt.U, Pt.locs, Pt.cells, Pt.slots] at X430' l430 y430 z430 st430 hQ430
          subst l430 y430 z430
          obtain ⟨rfl, N430q, e430⟩ := hQ430
          obtain ⟨lc430, X430, N430⟩ : ∃ lc, Stand p l e room_1 s m #[(.int p1)] below meth c T430 lc 1 39 ∧ Fr n0 lc := ⟨_, X430', Fr.app N352 N430q⟩
          have K431 : Gx p e below s₁ f0 T430 (mkF m 344 #[.val (.int p1), .val (.ref b2), .val (.int v357), .val (.ref y), .val (.ref hD_), .unset] [(ofF t1 t2 t3 t4 hA_ hB_ hC_ hD_ y)]) := fun t kt => K422 t (st430 t kt)
          rw [(show (ofF t1 t2 t3 t4 hA_ hB_ hC_ hD_ y) = .ref hD_ from by rw [y4 hb416]; exact own_of4 hd)] at K431
          have K432 : Gx p e below s₁ f0 T430 (mkF m 358 #[.val (.int p1), .val (.ref b2), .val (.int v357), .val (.ref y), .val (.ref hD_), .val (.ref hD_)] [(.int (1 : Int32))]) := fun t kt => K431 t (by
            show Steps p.tables e below (T430.setTop (mkF m 344 #[.val (.int p1), .val (.ref b2), .val (.int v357), .val (.ref y), .val (.ref hD_), .unset] [(.ref hD_)])) _
            refine XS.astore X430.here hx rfl (hb hby at_344) rfl rfl (l' := #[.val (.int p1), .val (.ref b2), .val (.int v357), .val (.ref y), .val (.ref hD_), .val (.ref hD_)]) rfl ?_
            show Steps p.tables e below (T430.setTop (mkF m 346 #[.val (.int p1), .val (.ref b2), .val (.int v357), .val (.ref y), .val (.ref hD_), .val (.ref hD_)] [])) _
            refine XS.aload X430.here hx rfl (hb hby at_346) rfl rfl ?_
            show Steps p.tables e below (T430.setTop (mkF m 348 #[.val (.int p1), .val (.ref b2), .val (.int v357), .val (.ref y), .val (.ref hD_), .val (.ref hD_)] [(.ref hD_)])) _
            refine XS.aload X430.here hx rfl (hb hby at_348) rfl rfl ?_
            show Steps p.tables e below (T430.setTop (mkF m 350 #[.val (.int p1), .val (.ref b2), .val (.int v357), .val (.ref y), .val (.ref hD_), .val (.ref hD_)] [(.ref hD_), (.ref hD_)])) _
            refine Jvm.RoadKit.acmp (g := (mkF m 350 #[.val (.int p1), .val (.ref b2), .val (.int v357), .val (.ref y), .val (.ref hD_), .val (.ref hD_)] [(.ref hD_), (.ref hD_)])) X430 hx rfl rfl rfl (pc0 := 350) (pc' := 353) (same := true) rfl (hb hby at_350) rfl (decide_eq_true rfl) (by decide) (by decide) ?_
            show Steps p.tables e below (T430.setTop (mkF m 353 #[.val (.int p1), .val (.ref b2), .val (.int v357), .val (.ref y), .val (.ref hD_), .val (.ref hD_)] [])) _
            refine XS.iconst X430.here hx rfl (hb hby at_353) ?_
            show Steps p.tables e below (T430.setTop (mkF m 354 #[.val (.int p1), .val (.ref b2), .val (.int v357), .val (.ref y), .val (.ref hD_), .val (.ref hD_)] [(.int (1 : Int32))])) _
            refine XS.goto X430.here hx rfl (pc0 := 354) (pc' := 358) rfl (hb hby at_354) (by decide) (by decide) ?_
            exact kt)
          obtain ⟨fs433, hr433, hrun433, hended433, hW433, hsame433⟩ := X430.leave (v := some (.int (1 : Int32))) (fun h => by rw [Bd.returns] at h; cases h)
          refine ⟨_, _, pre0 _ (K432 _ ?_), hrun433, hended433, _, _, rfl, ?_, ⟨_, rfl⟩, hW433, hsame433.mono (by decide) (by decide)⟩
          · exact retN X430 hx (t := .boolean) Bd.returns (by simp) (hb hby at_358) hr433
          · show Q0 Z p1 t0 t1 t2 t3 t4 t5 t6 t7 t8 t9 t10 t11 t12 t13 t14 t15 t16 t17 t18 t19 t20 t21 t22 t23 t24 t25 t26 t27 t28 t29 t30 t31 t32 t33 t34 t35 t36 t37 t38 al ka hA_ hB_ hC_ hD_ h0 n0 _ T430.heap _
            rw [e430]
            exact ⟨rfl, N430⟩
        · skip
          have K434 : Gx p e below s₁ f0 T352 (mkF m 341 #[.val (.int p1), .val (.ref b2), .val (.int v357), .val (.ref y), .val .null, .unset] [(.ref y)]) := fun t kt => K415 t (by
            show Steps p.tables e below (T352.setTop (mkF m 326 #[.val (.int p1), .val (.ref b2), .val (.int v357), .val (.ref y), .unset, .unset] [(.int (4 : Int32)), (.int v357)])) _
            refine XS.icmpYes X352.here hx rfl (pc0 := 326) (pc' := 337) rfl (hb hby at_326) rfl (feq hb416).2 (by decide) (by decide) ?_
            show Steps p.tables e below (T352.setTop (mkF m 337 #[.val (.int p1), .val (.ref b2), .val (.int v357), .val (.ref y), .unset, .unset] [])) _
            refine XS.aconstNull X352.here hx rfl (hb hby at_337) ?_
            show Steps p.tables e below (T352.setTop (mkF m 338 #[.val (.int p1), .val (.ref b2), .val (.int v357), .val (.ref y), .unset, .unset] [.null])) _
            refine XS.astore X352.here hx rfl (hb hby at_338) rfl rfl (l' := #[.val (.int p1), .val (.ref b2), .val (.int v357), .val (.ref y), .val .null, .unset]) rfl ?_
            show Steps p.tables e below (T352.setTop (mkF m 340 #[.val (.int p1), .val (.ref b2), .val (.int v357), .val (.ref y), .val .null, .unset] [])) _
            refine XS.aloadN X352.here hx rfl (hb hby at_340) rfl rfl ?_
            exact kt)
          have f435 : Old Z n0 h352 := (f347.wr W352 (Nat.le_trans Z0 (Nat.le_trans (Keep.refl h0 []).1 (Nat.le_of_eq g2.symm))))
          have f436 : Sta Z h352 "com/example/fourfold/fourfold/H" "ALL" "[Lcom/example/fourfold/fourfold/H;" (.ref al) := Sta.ext f435.2 pr79
          have f437 : Arv Z h352 al ka (.object "com/example/fourfold/fourfold/H") (4 : Int32) [(.ref hA_), (.ref hB_), (.ref hC_), (.ref hD_)] .null := pr80.ext f435.2
          have f438 : Fld Z h352 hA_ "com/example/fourfold/fourfold/H" "term" "Lcom/example/fourfold/fourfold/Term;" (.ref t1) := pr81.ext f435.2
          have f439 : Fld Z h352 hB_ "com/example/fourfold/fourfold/H" "term" "Lcom/example/fourfold/fourfold/Term;" (.ref t2) := pr82.ext f435.2
          have f440 : Fld Z h352 hC_ "com/example/fourfold/fourfold/H" "term" "Lcom/example/fourfold/fourfold/Term;" (.ref t3) := pr83.ext f435.2
          have f441 : Fld Z h352 hD_ "com/example/fourfold/fourfold/H" "term" "Lcom/example/fourfold/fourfold/Term;" (.ref t4) := pr84.ext f435.2
          have kp442 : Keep h0 h352 [] := (((((((((((((((((((((((((((((((((((((((((Keep.refl h0 []).ext E2).wr W10 (Or.inr (Nat.le_trans (Keep.refl h0 []).1 (Nat.le_of_eq g2.symm)))).wr W19 (Or.inr (Nat.le_trans (Keep.refl h0 []).1 (Nat.le_of_eq g2.symm)))).wr W28 (Or.inr (Nat.le_trans (Keep.refl h0 []).1 (Nat.le_of_eq g2.symm)))).wr W37 (Or.inr (Nat.le_trans (Keep.refl h0 []).1 (Nat.le_of_eq g2.symm)))).wr W46 (Or.inr (Nat.le_trans (Keep.refl h0 []).1 (Nat.le_of_eq g2.symm)))).wr W55 (Or.inr (Nat.le_trans (Keep.refl h0 []).1 (Nat.le_of_eq g2.symm)))).wr W64 (Or.inr (Nat.le_trans (Keep.refl h0 []).1 (Nat.le_of_eq g2.symm)))).wr W73 (Or.inr (Nat.le_trans (Keep.refl h0 []).1 (Nat.le_of_eq g2.symm)))).wr W82 (Or.inr (Nat.le_trans (Keep.refl h0 []).1 (Nat.le_of_eq g2.symm)))).wr W91 (Or.inr (Nat.le_trans (Keep.refl h0 []).1 (Nat.le_of_eq g2.symm)))).wr W100 (Or.inr (Nat.le_trans (Keep.refl h0 []).1 (Nat.le_of_eq g2.symm)))).wr W109 (Or.inr (Nat.le_trans (Keep.refl h0 []).1 (Nat.le_of_eq g2.symm)))).wr W118 (Or.inr (Nat.le_trans (Keep.refl h0 []).1 (Nat.le_of_eq g2.symm)))).wr W127 (Or.inr (Nat.le_trans (Keep.refl h0 []).1 (Nat.le_of_eq g2.symm)))).wr W136 (Or.inr (Nat.le_trans (Keep.refl h0 []).1 (Nat.le_of_eq g2.symm)))).wr W145 (Or.inr (Nat.le_trans (Keep.refl h0 []).1 (Nat.le_of_eq g2.symm)))).wr W154 (Or.inr (Nat.le_trans (Keep.refl h0 []).1 (Nat.le_of_eq g2.symm)))).wr W163 (Or.inr (Nat.le_trans (Keep.refl h0 []).1 (Nat.le_of_eq g2.symm)))).wr W172 (Or.inr (Nat.le_trans (Keep.refl h0 []).1 (Nat.le_of_eq g2.symm)))).wr W181 (Or.inr (Nat.le_trans (Keep.refl h0 []).1 (Nat.le_of_eq g2.symm)))).wr W190 (Or.inr (Nat.le_trans (Keep.refl h0 []).1 (Nat.le_of_eq g2.symm)))).wr W199 (Or.inr (Nat.le_trans (Keep.refl h0 []).1 (Nat.le_of_eq g2.symm)))).wr W208 (Or.inr (Nat.le_trans (Keep.refl h0 []).1 (Nat.le_of_eq g2.symm)))).wr W217 (Or.inr (Nat.le_trans (Keep.refl h0 []).1 (Nat.le_of_eq g2.symm)))).wr W226 (Or.inr (Nat.le_trans (Keep.refl h0 []).1 (Nat.le_of_eq g2.symm)))).wr W235 (Or.inr (Nat.le_trans (Keep.refl h0 []).1 (Nat.le_of_eq g2.symm)))).wr W244 (Or.inr (Nat.le_trans (Keep.refl h0 []).1 (Nat.le_of_eq g2.symm)))).wr W253 (Or.inr (Nat.le_trans (Keep.refl h0 []).1 (Nat.le_of_eq g2.symm)))).wr W262 (Or.inr (Nat.le_trans (Keep.refl h0 []).1 (Nat.le_of_eq g2.symm)))).wr W271 (Or.inr (Nat.le_trans (Keep.refl h0 []).1 (Nat.le_of_eq g2.symm)))).wr W280 (Or.inr (Nat.le_trans (Keep.refl h0 []).1 (Nat.le_of_eq g2.symm)))).wr W289 (Or.inr (Nat.le_trans (Keep.refl h0 []).1 (Nat.le_of_eq g2.symm)))).wr W298 (Or.inr (Nat.le_trans (Keep.refl h0 []).1 (Nat.le_of_eq g2.symm)))).wr W307 (Or.inr (Nat.le_trans (Keep.refl h0 []).1 (Nat.le_of_eq g2.symm)))).wr W316 (Or.inr (Nat.le_trans (Keep.refl h0 []).1 (Nat.le_of_eq g2.symm)))).wr W325 (Or.inr (Nat.le_trans (Keep.refl h0 []).1 (Nat.le_of_eq g2.symm)))).wr W334 (Or.inr (Nat.le_trans (Keep.refl h0 []).1 (Nat.le_of_eq g2.symm)))).wr W343 (Or.inr (Nat.le_trans (Keep.refl h0 []).1 (Nat.le_of_eq g2.symm)))).wr W352 (Or.inr (Nat.le_trans (Keep.refl h0 []).1 (Nat.le_of_eq g2.symm))))
          obtain ⟨_, _, ⟨T443, L443, k443, n443⟩, -, X443', ⟨Lc443, hQ443, l443, y443, z443⟩, st443⟩ := Jvm.LawKit.callS X352 hx (y := (⟨"com/example/fourfold/fourfold/H", "of", "(Lcom/example/fourfold/fourfold/Term;)Lcom/example/fourfold/fourfold/H;"⟩ : MethodName)) hown (mvT hZ (hw _ (List.mem_of_getElem? (i := 83) rfl))) (mvT hZ (hw _ (List.mem_of_getElem? (i := 84) rfl))) (mvT hZ (hw _ (List.mem_of_getElem? (i := 85) rfl))) (mvT hZ (hw _ (List.mem_of_getElem? (i := 86) rfl))) (by decide) (backOf (W := 0) (rmOf l Z a0 hw [] y t1 t2 t3 t4 al ka hA_ hB_ hC_ hD_ h352 n0 (Nat.le_trans Z0 kp442.1) f436 f437 f438 f439 f440 f441) hZ (hw _ (List.mem_of_getElem? (i := 86) rfl)) (hw _ (List.mem_of_getElem? (i := 85) rfl)) (by decide) (by decide)) (g := (mkF m 341 #[.val (.int p1), .val (.ref b2), .val (.int v357), .val (.ref y), .val .null, .unset] [(.ref y)])) rfl (by rw [hml]; rfl) (argsL := [(.ref y)]) (rest := []) (lenOf pd__Lcom_example_fourfold_fourfold_Term__Lcom_example_fourfold_fourfold_H_ rfl) rfl (by show 2 * 0 + _ ≤ _; exact Nat.le_of_eq rfl) (hb hby at_341) (fun _ _ => ⟨rfl, e352, (by decide : 1 + 0 ≤ _), (by decide : 39 + 0 ≤ _)⟩)
          dsimp only [Pt.U, Pt.locs, Pt.cells, Pt.slots] at X443' l443 y443 z443 st443 hQ443
          subst l443 y443 z443
          obtain ⟨rfl, N443q, e443⟩ := hQ443
          obtain ⟨lc443, X443, N443⟩ : ∃ lc, Stand p l e room_1 s m #[(.int p1)] below meth c T443 lc 1 39 ∧ Fr n0 lc := ⟨_, X443', Fr.app N352 N443q⟩
          have K444 : Gx p e below s₁ f0 T443 (mkF m 344 #[.val (.int p1), .val (.ref b2), .val (.int v357), .val (.ref y), .val .null, .unset] [(ofF t1 t2 t3 t4 hA_ hB_ hC_ hD_ y)]) := fun t kt => K434 t (st443 t kt)
          rw [(show (ofF t1 t2 t3 t4 hA_ hB_ hC_ hD_ y) = .null from own_of0 (y5 hb359 hb378 hb397 hb416))] at K444
          have K445 : Gx p e below s₁ f0 T443 (mkF m 358 #[.val (.int p1), .val (.ref b2), .val (.int v357), .val (.ref y), .val .null, .val .null] [(.int (1 : Int32))]) := fun t kt => K444 t (by
            show Steps p.tables e below (T443.setTop (mkF m 344 #[.val (.int p1), .val (.ref b2), .val (.int v357), .val (.ref y), .val .null, .unset] [.null])) _
            refine XS.astore X443.here hx rfl (hb hby at_344) rfl rfl (l' := #[.val (.int p1), .val (.ref b2), .val (.int v357), .val (.ref y), .val .null, .val .null]) rfl ?_
            show Steps p.tables e below (T443.setTop (mkF m 346 #[.val (.int p1), .val (.ref b2), .val (.int v357), .val (.ref y), .val .null, .val .null] [])) _
            refine XS.aload X443.here hx rfl (hb hby at_346) rfl rfl ?_
            show Steps p.tables e below (T443.setTop (mkF m 348 #[.val (.int p1), .val (.ref b2), .val (.int v357), .val (.ref y), .val .null, .val .null] [.null])) _
            refine XS.aload X443.here hx rfl (hb hby at_348) rfl rfl ?_
            show Steps p.tables e below (T443.setTop (mkF m 350 #[.val (.int p1), .val (.ref b2), .val (.int v357), .val (.ref y), .val .null, .val .null] [.null, .null])) _
            refine Jvm.RoadKit.acmp (g := (mkF m 350 #[.val (.int p1), .val (.ref b2), .val (.int v357), .val (.ref y), .val .null, .val .null] [.null, .null])) X443 hx rfl rfl rfl (pc0 := 350) (pc' := 353) (same := true) rfl (hb hby at_350) rfl (decide_eq_true rfl) (by decide) (by decide) ?_
            show Steps p.tables e below (T443.setTop (mkF m 353 #[.val (.int p1), .val (.ref b2), .val (.int v357), .val (.ref y), .val .null, .val .null] [])) _
            refine XS.iconst X443.here hx rfl (hb hby at_353) ?_
            show Steps p.tables e below (T443.setTop (mkF m 354 #[.val (.int p1), .val (.ref b2), .val (.int v357), .val (.ref y), .val .null, .val .null] [(.int (1 : Int32))])) _
            refine XS.goto X443.here hx rfl (pc0 := 354) (pc' := 358) rfl (hb hby at_354) (by decide) (by decide) ?_
            exact kt)
          obtain ⟨fs446, hr446, hrun446, hended446, hW446, hsame446⟩ := X443.leave (v := some (.int (1 : Int32))) (fun h => by rw [Bd.returns] at h; cases h)
          refine ⟨_, _, pre0 _ (K445 _ ?_), hrun446, hended446, _, _, rfl, ?_, ⟨_, rfl⟩, hW446, hsame446.mono (by decide) (by decide)⟩
          · exact retN X443 hx (t := .boolean) Bd.returns (by simp) (hb hby at_358) hr446
          · show Q0 Z p1 t0 t1 t2 t3 t4 t5 t6 t7 t8 t9 t10 t11 t12 t13 t14 t15 t16 t17 t18 t19 t20 t21 t22 t23 t24 t25 t26 t27 t28 t29 t30 t31 t32 t33 t34 t35 t36 t37 t38 al ka hA_ hB_ hC_ hD_ h0 n0 _ T443.heap _
            rw [e443]
            exact ⟨rfl, N443⟩
set_option maxRecDepth 65536 in
set_option maxHeartbeats 40000000 in
theorem comes_1 {Post : Tables → Env → Array Value → State → Outcome → State → Prop} (hpost : ∀ tb e args s v u, (limb_1_1.after args s (.returned v) u = true ∧ limb_1_2.after args s (.returned v) u = true ∧ True) → FrameEnd s (.returned v) u (Jvm.fieldLocs frame_1_writes args s ++ Jvm.arrayLocs frame_1_arrays args s ++ Jvm.staticLocs frame_1_statics s) 16 192 → Post tb e args s (.returned v) u) :
    ArmFor flags0 classFile x code maxLocals ret World_1 tables_1 room_1 Calls_1 rest_1 Pre_1 Post := by
  intro l hfl _ _ p e ha hc hk s m args below hf hA hF happ hP
  obtain ⟨hcalls, hrest, hpre⟩ := hP
  obtain ⟨-, -, -, hnamed, -, -, -, hat⟩ := (Spec.applies_iff hf).mp happ
  obtain ⟨hg, hn⟩ := and_e (Cond.before_iff.mp (show (Jvm.Cond.and given_1 narrow_1).before args s = true from hpre))
  obtain ⟨g1, g2⟩ := and_e hg
  obtain ⟨w0, rfl⟩ : ∃ w0 : Value, args = #[w0] := by
    have hs : args.size = 1 := by simpa [Cond.value, given_1] using g1
    obtain ⟨L⟩ := args
    match L, hs with
    | [w0], _ => exact ⟨w0, rfl⟩
  have hw := fun d (hd : d ∈ tables_1) => atoms_spec (ws := Jvm.Cond.code x code maxLocals ret :: tables_1) hat d (List.mem_cons_of_mem _ hd)
  have hfit : Fit s := fun {y c} hc i hi => by
    obtain ⟨ha, rfl⟩ := Array.getElem?_eq_some_iff.mp hc
    have q := List.all_eq_true.mp ((Array.all_eq_true_iff_forall_mem.mp hF) _ (Array.getElem_mem ha)) i (List.mem_range.mpr hi)
    simpa [Array.getElem?_eq_getElem hi] using q
  obtain ⟨i0, ei0⟩ := is_v g2
  obtain rfl : w0 = (.int i0) := Option.some.inj ei0
  obtain ⟨g3, g4⟩ := and_e hn
  obtain ⟨g5, g6⟩ := and_e g4
  obtain ⟨g7, g8⟩ := and_e g6
  obtain ⟨g9, g10⟩ := and_e g8
  obtain ⟨g11, g12⟩ := and_e g10
  obtain ⟨g13, g14⟩ := and_e g12
  obtain ⟨g15, g16⟩ := and_e g14
  obtain ⟨g17, g18⟩ := and_e g16
  obtain ⟨g19, g20⟩ := and_e g18
  obtain ⟨g21, g22⟩ := and_e g20
  obtain ⟨g23, g24⟩ := and_e g22
  obtain ⟨g25, g26⟩ := and_e g24
  obtain ⟨g27, g28⟩ := and_e g26
  obtain ⟨g29, g30⟩ := and_e g28
  obtain ⟨g31, g32⟩ := and_e g30
  obtain ⟨g33, g34⟩ := and_e g32
  obtain ⟨g35, g36⟩ := and_e g34
  obtain ⟨g37, g38⟩ := and_e g36
  obtain ⟨g39, g40⟩ := and_e g38
  obtain ⟨g41, g42⟩ := and_e g40
  obtain ⟨g43, g44⟩ := and_e g42
  obtain ⟨g45, g46⟩ := and_e g44
  obtain ⟨g47, g48⟩ := and_e g46
  obtain ⟨g49, g50⟩ := and_e g48
  obtain ⟨g51, g52⟩ := and_e g50
  obtain ⟨g53, g54⟩ := and_e g52
  obtain ⟨g55, g56⟩ := and_e g54
  obtain ⟨g57, g58⟩ := and_e g56
  obtain ⟨g59, g60⟩ := and_e g58
  obtain ⟨g61, g62⟩ := and_e g60
  obtain ⟨g63, g64⟩ := and_e g62
  obtain ⟨g65, g66⟩ := and_e g64
  obtain ⟨g67, g68⟩ := and_e g66
  obtain ⟨g69, g70⟩ := and_e g68
  obtain ⟨g71, g72⟩ := and_e g70
  obtain ⟨g73, g74⟩ := and_e g72
  obtain ⟨g75, g76⟩ := and_e g74
  obtain ⟨g77, g78⟩ := and_e g76
  obtain ⟨g79, g80⟩ := and_e g78
  obtain ⟨g81, g82⟩ := and_e g80
  obtain ⟨g83, g84⟩ := and_e g82
  obtain ⟨g85, g86⟩ := and_e g84
  obtain ⟨g87, g88⟩ := and_e g86
  obtain ⟨g89, g90⟩ := and_e g88
  obtain ⟨g91, g92⟩ := and_e g90
  obtain ⟨g93, g94⟩ := and_e g92
  obtain ⟨g95, g96⟩ := and_e g94
  obtain ⟨g97, g98⟩ := and_e g96
  obtain ⟨g99, g100⟩ := and_e g98
  obtain ⟨g101, g102⟩ := and_e g100
  obtain ⟨g103, g104⟩ := and_e g102
  obtain ⟨g105, g106⟩ := and_e g104
  obtain ⟨g107, g108⟩ := and_e g106
  obtain ⟨g109, g110⟩ := and_e g108
  obtain ⟨g111, g112⟩ := and_e g110
  obtain ⟨g113, g114⟩ := and_e g112
  obtain ⟨g115, g116⟩ := and_e g114
  obtain ⟨g117, g118⟩ := and_e g116
  obtain ⟨g119, g120⟩ := and_e g118
  obtain ⟨g121, g122⟩ := and_e g120
  obtain ⟨g123, g124⟩ := and_e g122
  obtain ⟨g125, g126⟩ := and_e g124
  obtain ⟨g127, g128⟩ := and_e g126
  obtain ⟨g129, g130⟩ := and_e g128
  obtain ⟨g131, g132⟩ := and_e g130
  obtain ⟨g133, g134⟩ := and_e g132
  obtain ⟨g135, g136⟩ := and_e g134
  obtain ⟨g137, g138⟩ := and_e g136
  obtain ⟨g139, g140⟩ := and_e g138
  obtain ⟨g141, g142⟩ := and_e g140
  obtain ⟨g143, g144⟩ := and_e g142
  obtain ⟨g145, g146⟩ := and_e g144
  obtain ⟨g147, g148⟩ := and_e g146
  obtain ⟨g149, g150⟩ := and_e g148
  obtain ⟨g151, g152⟩ := and_e g150
  obtain ⟨g153, g154⟩ := and_e g152
  obtain ⟨g155, g156⟩ := and_e g154
  obtain ⟨g157, g158⟩ := and_e g156
  obtain ⟨g159, g160⟩ := and_e g158
  obtain ⟨g161, g162⟩ := and_e g160
  obtain ⟨g163, g164⟩ := and_e g162
  obtain ⟨g165, g166⟩ := and_e g164
  obtain ⟨g167, g168⟩ := and_e g166
  obtain ⟨g169, g170⟩ := and_e g168
  obtain ⟨g171, g172⟩ := and_e g170
  obtain ⟨g173, g174⟩ := and_e g172
  obtain ⟨g175, g176⟩ := and_e g174
  obtain ⟨g177, g178⟩ := and_e g176
  obtain ⟨g179, g180⟩ := and_e g178
  obtain ⟨g181, g182⟩ := and_e g180
  obtain ⟨g183, g184⟩ := and_e g182
  obtain ⟨st185, evst185⟩ := exa_v g3
  have Sst185 := Sta.start evst185 (Or.inr ⟨(hw _ (List.mem_of_getElem? (i := 3) rfl)), (hw _ (List.mem_of_getElem? (i := 4) rfl))⟩)
  have Est185 := Exa.start evst185 g3
  obtain ⟨st186, evst186⟩ := exa_v g5
  have Sst186 := Sta.start evst186 (Or.inr ⟨(hw _ (List.mem_of_getElem? (i := 3) rfl)), (hw _ (List.mem_of_getElem? (i := 7) rfl))⟩)
  have Est186 := Exa.start evst186 g5
  obtain ⟨st187, evst187⟩ := exa_v g7
  have Sst187 := Sta.start evst187 (Or.inr ⟨(hw _ (List.mem_of_getElem? (i := 3) rfl)), (hw _ (List.mem_of_getElem? (i := 9) rfl))⟩)
  have Est187 := Exa.start evst187 g7
  obtain ⟨st188, evst188⟩ := exa_v g9
  have Sst188 := Sta.start evst188 (Or.inr ⟨(hw _ (List.mem_of_getElem? (i := 3) rfl)), (hw _ (List.mem_of_getElem? (i := 11) rfl))⟩)
  have Est188 := Exa.start evst188 g9
  obtain ⟨st189, evst189⟩ := exa_v g11
  have Sst189 := Sta.start evst189 (Or.inr ⟨(hw _ (List.mem_of_getElem? (i := 3) rfl)), (hw _ (List.mem_of_getElem? (i := 13) rfl))⟩)
  have Est189 := Exa.start evst189 g11
  obtain ⟨st190, evst190⟩ := exa_v g13
  have Sst190 := Sta.start evst190 (Or.inr ⟨(hw _ (List.mem_of_getElem? (i := 3) rfl)), (hw _ (List.mem_of_getElem? (i := 15) rfl))⟩)
  have Est190 := Exa.start evst190 g13
  obtain ⟨st191, evst191⟩ := exa_v g15
  have Sst191 := Sta.start evst191 (Or.inr ⟨(hw _ (List.mem_of_getElem? (i := 3) rfl)), (hw _ (List.mem_of_getElem? (i := 17) rfl))⟩)
  have Est191 := Exa.start evst191 g15
  obtain ⟨st192, evst192⟩ := exa_v g17
  have Sst192 := Sta.start evst192 (Or.inr ⟨(hw _ (List.mem_of_getElem? (i := 3) rfl)), (hw _ (List.mem_of_getElem? (i := 19) rfl))⟩)
  have Est192 := Exa.start evst192 g17
  obtain ⟨st193, evst193⟩ := exa_v g19
  have Sst193 := Sta.start evst193 (Or.inr ⟨(hw _ (List.mem_of_getElem? (i := 3) rfl)), (hw _ (List.mem_of_getElem? (i := 21) rfl))⟩)
  have Est193 := Exa.start evst193 g19
  obtain ⟨st194, evst194⟩ := exa_v g21
  have Sst194 := Sta.start evst194 (Or.inr ⟨(hw _ (List.mem_of_getElem? (i := 3) rfl)), (hw _ (List.mem_of_getElem? (i := 23) rfl))⟩)
  have Est194 := Exa.start evst194 g21
  obtain ⟨st195, evst195⟩ := exa_v g23
  have Sst195 := Sta.start evst195 (Or.inr ⟨(hw _ (List.mem_of_getElem? (i := 3) rfl)), (hw _ (List.mem_of_getElem? (i := 25) rfl))⟩)
  have Est195 := Exa.start evst195 g23
  obtain ⟨st196, evst196⟩ := exa_v g25
  have Sst196 := Sta.start evst196 (Or.inr ⟨(hw _ (List.mem_of_getElem? (i := 3) rfl)), (hw _ (List.mem_of_getElem? (i := 27) rfl))⟩)
  have Est196 := Exa.start evst196 g25
  obtain ⟨st197, evst197⟩ := exa_v g27
  have Sst197 := Sta.start evst197 (Or.inr ⟨(hw _ (List.mem_of_getElem? (i := 3) rfl)), (hw _ (List.mem_of_getElem? (i := 29) rfl))⟩)
  have Est197 := Exa.start evst197 g27
  obtain ⟨st198, evst198⟩ := exa_v g29
  have Sst198 := Sta.start evst198 (Or.inr ⟨(hw _ (List.mem_of_getElem? (i := 3) rfl)), (hw _ (List.mem_of_getElem? (i := 31) rfl))⟩)
  have Est198 := Exa.start evst198 g29
  obtain ⟨st199, evst199⟩ := exa_v g31
  have Sst199 := Sta.start evst199 (Or.inr ⟨(hw _ (List.mem_of_getElem? (i := 3) rfl)), (hw _ (List.mem_of_getElem? (i := 33) rfl))⟩)
  have Est199 := Exa.start evst199 g31
  obtain ⟨st200, evst200⟩ := exa_v g33
  have Sst200 := Sta.start evst200 (Or.inr ⟨(hw _ (List.mem_of_getElem? (i := 3) rfl)), (hw _ (List.mem_of_getElem? (i := 35) rfl))⟩)
  have Est200 := Exa.start evst200 g33
  obtain ⟨st201, evst201⟩ := exa_v g35
  have Sst201 := Sta.start evst201 (Or.inr ⟨(hw _ (List.mem_of_getElem? (i := 3) rfl)), (hw _ (List.mem_of_getElem? (i := 37) rfl))⟩)
  have Est201 := Exa.start evst201 g35
  obtain ⟨st202, evst202⟩ := exa_v g37
  have Sst202 := Sta.start evst202 (Or.inr ⟨(hw _ (List.mem_of_getElem? (i := 3) rfl)), (hw _ (List.mem_of_getElem? (i := 39) rfl))⟩)
  have Est202 := Exa.start evst202 g37
  obtain ⟨st203, evst203⟩ := exa_v g39
  have Sst203 := Sta.start evst203 (Or.inr ⟨(hw _ (List.mem_of_getElem? (i := 3) rfl)), (hw _ (List.mem_of_getElem? (i := 41) rfl))⟩)
  have Est203 := Exa.start evst203 g39
  obtain ⟨st204, evst204⟩ := exa_v g41
  have Sst204 := Sta.start evst204 (Or.inr ⟨(hw _ (List.mem_of_getElem? (i := 3) rfl)), (hw _ (List.mem_of_getElem? (i := 43) rfl))⟩)
  have Est204 := Exa.start evst204 g41
  obtain ⟨st205, evst205⟩ := exa_v g43
  have Sst205 := Sta.start evst205 (Or.inr ⟨(hw _ (List.mem_of_getElem? (i := 3) rfl)), (hw _ (List.mem_of_getElem? (i := 45) rfl))⟩)
  have Est205 := Exa.start evst205 g43
  obtain ⟨st206, evst206⟩ := exa_v g45
  have Sst206 := Sta.start evst206 (Or.inr ⟨(hw _ (List.mem_of_getElem? (i := 3) rfl)), (hw _ (List.mem_of_getElem? (i := 47) rfl))⟩)
  have Est206 := Exa.start evst206 g45
  obtain ⟨st207, evst207⟩ := exa_v g47
  have Sst207 := Sta.start evst207 (Or.inr ⟨(hw _ (List.mem_of_getElem? (i := 3) rfl)), (hw _ (List.mem_of_getElem? (i := 49) rfl))⟩)
  have Est207 := Exa.start evst207 g47
  obtain ⟨st208, evst208⟩ := exa_v g49
  have Sst208 := Sta.start evst208 (Or.inr ⟨(hw _ (List.mem_of_getElem? (i := 3) rfl)), (hw _ (List.mem_of_getElem? (i := 51) rfl))⟩)
  have Est208 := Exa.start evst208 g49
  obtain ⟨st209, evst209⟩ := exa_v g51
  have Sst209 := Sta.start evst209 (Or.inr ⟨(hw _ (List.mem_of_getElem? (i := 3) rfl)), (hw _ (List.mem_of_getElem? (i := 53) rfl))⟩)
  have Est209 := Exa.start evst209 g51
  obtain ⟨st210, evst210⟩ := exa_v g53
  have Sst210 := Sta.start evst210 (Or.inr ⟨(hw _ (List.mem_of_getElem? (i := 3) rfl)), (hw _ (List.mem_of_getElem? (i := 55) rfl))⟩)
  have Est210 := Exa.start evst210 g53
  obtain ⟨st211, evst211⟩ := exa_v g55
  have Sst211 := Sta.start evst211 (Or.inr ⟨(hw _ (List.mem_of_getElem? (i := 3) rfl)), (hw _ (List.mem_of_getElem? (i := 57) rfl))⟩)
  have Est211 := Exa.start evst211 g55
  obtain ⟨st212, evst212⟩ := exa_v g57
  have Sst212 := Sta.start evst212 (Or.inr ⟨(hw _ (List.mem_of_getElem? (i := 3) rfl)), (hw _ (List.mem_of_getElem? (i := 59) rfl))⟩)
  have Est212 := Exa.start evst212 g57
  obtain ⟨st213, evst213⟩ := exa_v g59
  have Sst213 := Sta.start evst213 (Or.inr ⟨(hw _ (List.mem_of_getElem? (i := 3) rfl)), (hw _ (List.mem_of_getElem? (i := 61) rfl))⟩)
  have Est213 := Exa.start evst213 g59
  obtain ⟨st214, evst214⟩ := exa_v g61
  have Sst214 := Sta.start evst214 (Or.inr ⟨(hw _ (List.mem_of_getElem? (i := 3) rfl)), (hw _ (List.mem_of_getElem? (i := 63) rfl))⟩)
  have Est214 := Exa.start evst214 g61
  obtain ⟨st215, evst215⟩ := exa_v g63
  have Sst215 := Sta.start evst215 (Or.inr ⟨(hw _ (List.mem_of_getElem? (i := 3) rfl)), (hw _ (List.mem_of_getElem? (i := 65) rfl))⟩)
  have Est215 := Exa.start evst215 g63
  obtain ⟨st216, evst216⟩ := exa_v g65
  have Sst216 := Sta.start evst216 (Or.inr ⟨(hw _ (List.mem_of_getElem? (i := 3) rfl)), (hw _ (List.mem_of_getElem? (i := 67) rfl))⟩)
  have Est216 := Exa.start evst216 g65
  obtain ⟨st217, evst217⟩ := exa_v g67
  have Sst217 := Sta.start evst217 (Or.inr ⟨(hw _ (List.mem_of_getElem? (i := 3) rfl)), (hw _ (List.mem_of_getElem? (i := 69) rfl))⟩)
  have Est217 := Exa.start evst217 g67
  obtain ⟨st218, evst218⟩ := exa_v g69
  have Sst218 := Sta.start evst218 (Or.inr ⟨(hw _ (List.mem_of_getElem? (i := 3) rfl)), (hw _ (List.mem_of_getElem? (i := 71) rfl))⟩)
  have Est218 := Exa.start evst218 g69
  obtain ⟨st219, evst219⟩ := exa_v g71
  have Sst219 := Sta.start evst219 (Or.inr ⟨(hw _ (List.mem_of_getElem? (i := 3) rfl)), (hw _ (List.mem_of_getElem? (i := 73) rfl))⟩)
  have Est219 := Exa.start evst219 g71
  obtain ⟨st220, evst220⟩ := exa_v g73
  have Sst220 := Sta.start evst220 (Or.inr ⟨(hw _ (List.mem_of_getElem? (i := 3) rfl)), (hw _ (List.mem_of_getElem? (i := 75) rfl))⟩)
  have Est220 := Exa.start evst220 g73
  obtain ⟨st221, evst221⟩ := exa_v g75
  have Sst221 := Sta.start evst221 (Or.inr ⟨(hw _ (List.mem_of_getElem? (i := 3) rfl)), (hw _ (List.mem_of_getElem? (i := 77) rfl))⟩)
  have Est221 := Exa.start evst221 g75
  obtain ⟨st222, evst222⟩ := exa_v g77
  have Sst222 := Sta.start evst222 (Or.inr ⟨(hw _ (List.mem_of_getElem? (i := 3) rfl)), (hw _ (List.mem_of_getElem? (i := 79) rfl))⟩)
  have Est222 := Exa.start evst222 g77
  obtain ⟨st223, evst223⟩ := exa_v g79
  have Sst223 := Sta.start evst223 (Or.inr ⟨(hw _ (List.mem_of_getElem? (i := 3) rfl)), (hw _ (List.mem_of_getElem? (i := 81) rfl))⟩)
  have Est223 := Exa.start evst223 g79
  obtain ⟨st224, evst224⟩ := arr_v g81
  have Sst224 := Sta.start evst224 (Or.inr ⟨(hw _ (List.mem_of_getElem? (i := 85) rfl)), (hw _ (List.mem_of_getElem? (i := 88) rfl))⟩)
  obtain ⟨clst224, Ast224⟩ := Arr.start evst224 g81
  obtain ⟨st225, evst225⟩ := exa_v g85
  have Sst225 := Sta.start evst225 (Or.inr ⟨(hw _ (List.mem_of_getElem? (i := 85) rfl)), (hw _ (List.mem_of_getElem? (i := 89) rfl))⟩)
  have Est225 := Exa.start evst225 g85
  have F226 : Fld s s.heap st186 "java/lang/Enum" "ordinal" "I" (.int (1 : Int32)) := own_fldI evst186 g91
  have F227 : Fld s s.heap st185 "java/lang/Enum" "ordinal" "I" (.int (0 : Int32)) := own_fldI evst185 g93
  obtain ⟨st228, evst228⟩ := exa_v g95
  have Sst228 := Sta.start evst228 (Or.inr ⟨(hw _ (List.mem_of_getElem? (i := 85) rfl)), (hw _ (List.mem_of_getElem? (i := 92) rfl))⟩)
  have Est228 := Exa.start evst228 g95
  have F229 : Fld s s.heap st187 "java/lang/Enum" "ordinal" "I" (.int (2 : Int32)) := own_fldI evst187 g101
  obtain ⟨st230, evst230⟩ := exa_v g103
  have Sst230 := Sta.start evst230 (Or.inr ⟨(hw _ (List.mem_of_getElem? (i := 85) rfl)), (hw _ (List.mem_of_getElem? (i := 93) rfl))⟩)
  have Est230 := Exa.start evst230 g103
  have F231 : Fld s s.heap st188 "java/lang/Enum" "ordinal" "I" (.int (3 : Int32)) := own_fldI evst188 g109
  obtain ⟨st232, evst232⟩ := exa_v g111
  have Sst232 := Sta.start evst232 (Or.inr ⟨(hw _ (List.mem_of_getElem? (i := 85) rfl)), (hw _ (List.mem_of_getElem? (i := 94) rfl))⟩)
  have Est232 := Exa.start evst232 g111
  have F233 : Fld s s.heap st189 "java/lang/Enum" "ordinal" "I" (.int (4 : Int32)) := own_fldI evst189 g117
  have F234 : Fld s s.heap st217 "java/lang/Enum" "ordinal" "I" (.int (32 : Int32)) := own_fldI evst217 g119
  have F235 : Fld s s.heap st216 "java/lang/Enum" "ordinal" "I" (.int (31 : Int32)) := own_fldI evst216 g121
  have F236 : Fld s s.heap st218 "java/lang/Enum" "ordinal" "I" (.int (33 : Int32)) := own_fldI evst218 g123
  have F237 : Fld s s.heap st220 "java/lang/Enum" "ordinal" "I" (.int (35 : Int32)) := own_fldI evst220 g125
  have F238 : Fld s s.heap st192 "java/lang/Enum" "ordinal" "I" (.int (7 : Int32)) := own_fldI evst192 g127
  have F239 : Fld s s.heap st196 "java/lang/Enum" "ordinal" "I" (.int (11 : Int32)) := own_fldI evst196 g129
  have F240 : Fld s s.heap st193 "java/lang/Enum" "ordinal" "I" (.int (8 : Int32)) := own_fldI evst193 g131
  have F241 : Fld s s.heap st222 "java/lang/Enum" "ordinal" "I" (.int (37 : Int32)) := own_fldI evst222 g133
  have F242 : Fld s s.heap st195 "java/lang/Enum" "ordinal" "I" (.int (10 : Int32)) := own_fldI evst195 g135
  have F243 : Fld s s.heap st206 "java/lang/Enum" "ordinal" "I" (.int (21 : Int32)) := own_fldI evst206 g137
  have F244 : Fld s s.heap st198 "java/lang/Enum" "ordinal" "I" (.int (13 : Int32)) := own_fldI evst198 g139
  have F245 : Fld s s.heap st201 "java/lang/Enum" "ordinal" "I" (.int (16 : Int32)) := own_fldI evst201 g141
  have F246 : Fld s s.heap st223 "java/lang/Enum" "ordinal" "I" (.int (38 : Int32)) := own_fldI evst223 g143
  have F247 : Fld s s.heap st200 "java/lang/Enum" "ordinal" "I" (.int (15 : Int32)) := own_fldI evst200 g145
  have F248 : Fld s s.heap st208 "java/lang/Enum" "ordinal" "I" (.int (23 : Int32)) := own_fldI evst208 g147
  have F249 : Fld s s.heap st204 "java/lang/Enum" "ordinal" "I" (.int (19 : Int32)) := own_fldI evst204 g149
  have F250 : Fld s s.heap st199 "java/lang/Enum" "ordinal" "I" (.int (14 : Int32)) := own_fldI evst199 g151
  have F251 : Fld s s.heap st212 "java/lang/Enum" "ordinal" "I" (.int (27 : Int32)) := own_fldI evst212 g153
  have F252 : Fld s s.heap st207 "java/lang/Enum" "ordinal" "I" (.int (22 : Int32)) := own_fldI evst207 g155
  have F253 : Fld s s.heap st213 "java/lang/Enum" "ordinal" "I" (.int (28 : Int32)) := own_fldI evst213 g157
  have F254 : Fld s s.heap st214 "java/lang/Enum" "ordinal" "I" (.int (29 : Int32)) := own_fldI evst214 g159
  have F255 : Fld s s.heap st190 "java/lang/Enum" "ordinal" "I" (.int (5 : Int32)) := own_fldI evst190 g161
  have F256 : Fld s s.heap st202 "java/lang/Enum" "ordinal" "I" (.int (17 : Int32)) := own_fldI evst202 g163
  have F257 : Fld s s.heap st191 "java/lang/Enum" "ordinal" "I" (.int (6 : Int32)) := own_fldI evst191 g165
  have F258 : Fld s s.heap st194 "java/lang/Enum" "ordinal" "I" (.int (9 : Int32)) := own_fldI evst194 g167
  have F259 : Fld s s.heap st197 "java/lang/Enum" "ordinal" "I" (.int (12 : Int32)) := own_fldI evst197 g169
  have F260 : Fld s s.heap st210 "java/lang/Enum" "ordinal" "I" (.int (25 : Int32)) := own_fldI evst210 g171
  have F261 : Fld s s.heap st209 "java/lang/Enum" "ordinal" "I" (.int (24 : Int32)) := own_fldI evst209 g173
  have F262 : Fld s s.heap st205 "java/lang/Enum" "ordinal" "I" (.int (20 : Int32)) := own_fldI evst205 g175
  have F263 : Fld s s.heap st203 "java/lang/Enum" "ordinal" "I" (.int (18 : Int32)) := own_fldI evst203 g177
  have F264 : Fld s s.heap st215 "java/lang/Enum" "ordinal" "I" (.int (30 : Int32)) := own_fldI evst215 g179
  have F265 : Fld s s.heap st221 "java/lang/Enum" "ordinal" "I" (.int (36 : Int32)) := own_fldI evst221 g181
  have F266 : Fld s s.heap st211 "java/lang/Enum" "ordinal" "I" (.int (26 : Int32)) := own_fldI evst211 g183
  have F267 : Fld s s.heap st219 "java/lang/Enum" "ordinal" "I" (.int (34 : Int32)) := own_fldI evst219 g184
  have hlen := IntBox.length_fwd (Cond.before_iff.mpr g83) evst224 Ast224.1 Ast224.2.1 Ast224.2.2
  have VA : Arv s s.heap st224 clst224.cls (.object "com/example/fourfold/fourfold/H") (4 : Int32) [(.ref st225), (.ref st228), (.ref st230), (.ref st232)] .null := Arv.start hfit Ast224 hlen.1 hlen.2 (by decide) rfl ⟨own_elR evst224 Ast224 evst225 g87, own_elR evst224 Ast224 evst228 g97, own_elR evst224 Ast224 evst230 g105, own_elR evst224 Ast224 evst232 g113, trivial⟩
  have FT1 : Fld s s.heap st225 "com/example/fourfold/fourfold/H" "term" "Lcom/example/fourfold/fourfold/Term;" (.ref st186) := own_fldR evst225 evst186 g89
  have FT2 : Fld s s.heap st228 "com/example/fourfold/fourfold/H" "term" "Lcom/example/fourfold/fourfold/Term;" (.ref st187) := own_fldR evst228 evst187 g99
  have FT3 : Fld s s.heap st230 "com/example/fourfold/fourfold/H" "term" "Lcom/example/fourfold/fourfold/Term;" (.ref st188) := own_fldR evst230 evst188 g107
  have FT4 : Fld s s.heap st232 "com/example/fourfold/fourfold/H" "term" "Lcom/example/fourfold/fourfold/Term;" (.ref st189) := own_fldR evst232 evst189 g115
  have hd : st186 ≠ st187 ∧ st186 ≠ st188 ∧ st186 ≠ st189 ∧ st187 ≠ st188 ∧ st187 ≠ st189 ∧ st188 ≠ st189 := ⟨(Fld.ne F226 F229 (by intro q; cases q)), (Fld.ne F226 F231 (by intro q; cases q)), (Fld.ne F226 F233 (by intro q; cases q)), (Fld.ne F229 F231 (by intro q; cases q)), (Fld.ne F229 F233 (by intro q; cases q)), (Fld.ne F231 F233 (by intro q; cases q))⟩
  have hp : ∀ j : Int32, ¬ (j < (0 : Int32)) → j < (39 : Int32) → ∃ y : Addr, ([(.ref st185), (.ref st186), (.ref st187), (.ref st188), (.ref st189), (.ref st190), (.ref st191), (.ref st192), (.ref st193), (.ref st194), (.ref st195), (.ref st196), (.ref st197), (.ref st198), (.ref st199), (.ref st200), (.ref st201), (.ref st202), (.ref st203), (.ref st204), (.ref st205), (.ref st206), (.ref st207), (.ref st208), (.ref st209), (.ref st210), (.ref st211), (.ref st212), (.ref st213), (.ref st214), (.ref st215), (.ref st216), (.ref st217), (.ref st218), (.ref st219), (.ref st220), (.ref st221), (.ref st222), (.ref st223)] : List Value).getD j.toNatClampNeg .null = .ref y ∧ (j = (1 : Int32) → y = st186) ∧ (j = (2 : Int32) → y = st187) ∧ (j = (3 : Int32) → y = st188) ∧ (j = (4 : Int32) → y = st189) ∧ (¬ (j = (1 : Int32)) → ¬ (j = (2 : Int32)) → ¬ (j = (3 : Int32)) → ¬ (j = (4 : Int32)) → st186 ≠ y ∧ st187 ≠ y ∧ st188 ≠ y ∧ st189 ≠ y) := by
    intro j h1 h2
    rcases own_39 h1 h2 with rfl | rfl | rfl | rfl | rfl | rfl | rfl | rfl | rfl | rfl | rfl | rfl | rfl | rfl | rfl | rfl | rfl | rfl | rfl | rfl | rfl | rfl | rfl | rfl | rfl | rfl | rfl | rfl | rfl | rfl | rfl | rfl | rfl | rfl | rfl | rfl | rfl | rfl | rfl
    · exact ⟨st185, rfl, fun q => absurd q (by decide), fun q => absurd q (by decide), fun q => absurd q (by decide), fun q => absurd q (by decide), fun _ _ _ _ => ⟨(Fld.ne F226 F227 (by intro q; cases q)), (Fld.ne F229 F227 (by intro q; cases q)), (Fld.ne F231 F227 (by intro q; cases q)), (Fld.ne F233 F227 (by intro q; cases q))⟩⟩
    · exact ⟨st186, rfl, fun _ => rfl, fun q => absurd q (by decide), fun q => absurd q (by decide), fun q => absurd q (by decide), fun q1 q2 q3 q4 => absurd rfl q1⟩
    · exact ⟨st187, rfl, fun q => absurd q (by decide), fun _ => rfl, fun q => absurd q (by decide), fun q => absurd q (by decide), fun q1 q2 q3 q4 => absurd rfl q2⟩
    · exact ⟨st188, rfl, fun q => absurd q (by decide), fun q => absurd q (by decide), fun _ => rfl, fun q => absurd q (by decide), fun q1 q2 q3 q4 => absurd rfl q3⟩
    · exact ⟨st189, rfl, fun q => absurd q (by decide), fun q => absurd q (by decide), fun q => absurd q (by decide), fun _ => rfl, fun q1 q2 q3 q4 => absurd rfl q4⟩
    · exact ⟨st190, rfl, fun q => absurd q (by decide), fun q => absurd q (by decide), fun q => absurd q (by decide), fun q => absurd q (by decide), fun _ _ _ _ => ⟨(Fld.ne F226 F255 (by intro q; cases q)), (Fld.ne F229 F255 (by intro q; cases q)), (Fld.ne F231 F255 (by intro q; cases q)), (Fld.ne F233 F255 (by intro q; cases q))⟩⟩
    · exact ⟨st191, rfl, fun q => absurd q (by decide), fun q => absurd q (by decide), fun q => absurd q (by decide), fun q => absurd q (by decide), fun _ _ _ _ => ⟨(Fld.ne F226 F257 (by intro q; cases q)), (Fld.ne F229 F257 (by intro q; cases q)), (Fld.ne F231 F257 (by intro q; cases q)), (Fld.ne F233 F257 (by intro q; cases q))⟩⟩
    · exact ⟨st192, rfl, fun q => absurd q (by decide), fun q => absurd q (by decide), fun q => absurd q (by decide), fun q => absurd q (by decide), fun _ _ _ _ => ⟨(Fld.ne F226 F238 (by intro q; cases q)), (Fld.ne F229 F238 (by intro q; cases q)), (Fld.ne F231 F238 (by intro q; cases q)), (Fld.ne F233 F238 (by intro q; cases q))⟩⟩
    · exact ⟨st193, rfl, fun q => absurd q (by decide), fun q => absurd q (by decide), fun q => absurd q (by decide), fun q => absurd q (by decide), fun _ _ _ _ => ⟨(Fld.ne F226 F240 (by intro q; cases q)), (Fld.ne F229 F240 (by intro q; cases q)), (Fld.ne F231 F240 (by intro q; cases q)), (Fld.ne F233 F240 (by intro q; cases q))⟩⟩
    · exact ⟨st194, rfl, fun q => absurd q (by decide), fun q => absurd q (by decide), fun q => absurd q (by decide), fun q => absurd q (by decide), fun _ _ _ _ => ⟨(Fld.ne F226 F258 (by intro q; cases q)), (Fld.ne F229 F258 (by intro q; cases q)), (Fld.ne F231 F258 (by intro q; cases q)), (Fld.ne F233 F258 (by intro q; cases q))⟩⟩
    · exact ⟨st195, rfl, fun q => absurd q (by decide), fun q => absurd q (by decide), fun q => absurd q (by decide), fun q => absurd q (by decide), fun _ _ _ _ => ⟨(Fld.ne F226 F242 (by intro q; cases q)), (Fld.ne F229 F242 (by intro q; cases q)), (Fld.ne F231 F242 (by intro q; cases q)), (Fld.ne F233 F242 (by intro q; cases q))⟩⟩
    · exact ⟨st196, rfl, fun q => absurd q (by decide), fun q => absurd q (by decide), fun q => absurd q (by decide), fun q => absurd q (by decide), fun _ _ _ _ => ⟨(Fld.ne F226 F239 (by intro q; cases q)), (Fld.ne F229 F239 (by intro q; cases q)), (Fld.ne F231 F239 (by intro q; cases q)), (Fld.ne F233 F239 (by intro q; cases q))⟩⟩
    · exact ⟨st197, rfl, fun q => absurd q (by decide), fun q => absurd q (by decide), fun q => absurd q (by decide), fun q => absurd q (by decide), fun _ _ _ _ => ⟨(Fld.ne F226 F259 (by intro q; cases q)), (Fld.ne F229 F259 (by intro q; cases q)), (Fld.ne F231 F259 (by intro q; cases q)), (Fld.ne F233 F259 (by intro q; cases q))⟩⟩
    · exact ⟨st198, rfl, fun q => absurd q (by decide), fun q => absurd q (by decide), fun q => absurd q (by decide), fun q => absurd q (by decide), fun _ _ _ _ => ⟨(Fld.ne F226 F244 (by intro q; cases q)), (Fld.ne F229 F244 (by intro q; cases q)), (Fld.ne F231 F244 (by intro q; cases q)), (Fld.ne F233 F244 (by intro q; cases q))⟩⟩
    · exact ⟨st199, rfl, fun q => absurd q (by decide), fun q => absurd q (by decide), fun q => absurd q (by decide), fun q => absurd q (by decide), fun _ _ _ _ => ⟨(Fld.ne F226 F250 (by intro q; cases q)), (Fld.ne F229 F250 (by intro q; cases q)), (Fld.ne F231 F250 (by intro q; cases q)), (Fld.ne F233 F250 (by intro q; cases q))⟩⟩
    · exact ⟨st200, rfl, fun q => absurd q (by decide), fun q => absurd q (by decide), fun q => absurd q (by decide), fun q => absurd q (by decide), fun _ _ _ _ => ⟨(Fld.ne F226 F247 (by intro q; cases q)), (Fld.ne F229 F247 (by intro q; cases q)), (Fld.ne F231 F247 (by intro q; cases q)), (Fld.ne F233 F247 (by intro q; cases q))⟩⟩
    · exact ⟨st201, rfl, fun q => absurd q (by decide), fun q => absurd q (by decide), fun q => absurd q (by decide), fun q => absurd q (by decide), fun _ _ _ _ => ⟨(Fld.ne F226 F245 (by intro q; cases q)), (Fld.ne F229 F245 (by intro q; cases q)), (Fld.ne F231 F245 (by intro q; cases q)), (Fld.ne F233 F245 (by intro q; cases q))⟩⟩
    · exact ⟨st202, rfl, fun q => absurd q (by decide), fun q => absurd q (by decide), fun q => absurd q (by decide), fun q => absurd q (by decide), fun _ _ _ _ => ⟨(Fld.ne F226 F256 (by intro q; cases q)), (Fld.ne F229 F256 (by intro q; cases q)), (Fld.ne F231 F256 (by intro q; cases q)), (Fld.ne F233 F256 (by intro q; cases q))⟩⟩
    · exact ⟨st203, rfl, fun q => absurd q (by decide), fun q => absurd q (by decide), fun q => absurd q (by decide), fun q => absurd q (by decide), fun _ _ _ _ => ⟨(Fld.ne F226 F263 (by intro q; cases q)), (Fld.ne F229 F263 (by intro q; cases q)), (Fld.ne F231 F263 (by intro q; cases q)), (Fld.ne F233 F263 (by intro q; cases q))⟩⟩
    · exact ⟨st204, rfl, fun q => absurd q (by decide), fun q => absurd q (by decide), fun q => absurd q (by decide), fun q => absurd q (by decide), fun _ _ _ _ => ⟨(Fld.ne F226 F249 (by intro q; cases q)), (Fld.ne F229 F249 (by intro q; cases q)), (Fld.ne F231 F249 (by intro q; cases q)), (Fld.ne F233 F249 (by intro q; cases q))⟩⟩
    · exact ⟨st205, rfl, fun q => absurd q (by decide), fun q => absurd q (by decide), fun q => absurd q (by decide), fun q => absurd q (by decide), fun _ _ _ _ => ⟨(Fld.ne F226 F262 (by intro q; cases q)), (Fld.ne F229 F262 (by intro q; cases q)), (Fld.ne F231 F262 (by intro q; cases q)), (Fld.ne F233 F262 (by intro q; cases q))⟩⟩
    · exact ⟨st206, rfl, fun q => absurd q (by decide), fun q => absurd q (by decide), fun q => absurd q (by decide), fun q => absurd q (by decide), fun _ _ _ _ => ⟨(Fld.ne F226 F243 (by intro q; cases q)), (Fld.ne F229 F243 (by intro q; cases q)), (Fld.ne F231 F243 (by intro q; cases q)), (Fld.ne F233 F243 (by intro q; cases q))⟩⟩
    · exact ⟨st207, rfl, fun q => absurd q (by decide), fun q => absurd q (by decide), fun q => absurd q (by decide), fun q => absurd q (by decide), fun _ _ _ _ => ⟨(Fld.ne F226 F252 (by intro q; cases q)), (Fld.ne F229 F252 (by intro q; cases q)), (Fld.ne F231 F252 (by intro q; cases q)), (Fld.ne F233 F252 (by intro q; cases q))⟩⟩
    · exact ⟨st208, rfl, fun q => absurd q (by decide), fun q => absurd q (by decide), fun q => absurd q (by decide), fun q => absurd q (by decide), fun _ _ _ _ => ⟨(Fld.ne F226 F248 (by intro q; cases q)), (Fld.ne F229 F248 (by intro q; cases q)), (Fld.ne F231 F248 (by intro q; cases q)), (Fld.ne F233 F248 (by intro q; cases q))⟩⟩
    · exact ⟨st209, rfl, fun q => absurd q (by decide), fun q => absurd q (by decide), fun q => absurd q (by decide), fun q => absurd q (by decide), fun _ _ _ _ => ⟨(Fld.ne F226 F261 (by intro q; cases q)), (Fld.ne F229 F261 (by intro q; cases q)), (Fld.ne F231 F261 (by intro q; cases q)), (Fld.ne F233 F261 (by intro q; cases q))⟩⟩
    · exact ⟨st210, rfl, fun q => absurd q (by decide), fun q => absurd q (by decide), fun q => absurd q (by decide), fun q => absurd q (by decide), fun _ _ _ _ => ⟨(Fld.ne F226 F260 (by intro q; cases q)), (Fld.ne F229 F260 (by intro q; cases q)), (Fld.ne F231 F260 (by intro q; cases q)), (Fld.ne F233 F260 (by intro q; cases q))⟩⟩
    · exact ⟨st211, rfl, fun q => absurd q (by decide), fun q => absurd q (by decide), fun q => absurd q (by decide), fun q => absurd q (by decide), fun _ _ _ _ => ⟨(Fld.ne F226 F266 (by intro q; cases q)), (Fld.ne F229 F266 (by intro q; cases q)), (Fld.ne F231 F266 (by intro q; cases q)), (Fld.ne F233 F266 (by intro q; cases q))⟩⟩
    · exact ⟨st212, rfl, fun q => absurd q (by decide), fun q => absurd q (by decide), fun q => absurd q (by decide), fun q => absurd q (by decide), fun _ _ _ _ => ⟨(Fld.ne F226 F251 (by intro q; cases q)), (Fld.ne F229 F251 (by intro q; cases q)), (Fld.ne F231 F251 (by intro q; cases q)), (Fld.ne F233 F251 (by intro q; cases q))⟩⟩
    · exact ⟨st213, rfl, fun q => absurd q (by decide), fun q => absurd q (by decide), fun q => absurd q (by decide), fun q => absurd q (by decide), fun _ _ _ _ => ⟨(Fld.ne F226 F253 (by intro q; cases q)), (Fld.ne F229 F253 (by intro q; cases q)), (Fld.ne F231 F253 (by intro q; cases q)), (Fld.ne F233 F253 (by intro q; cases q))⟩⟩
    · exact ⟨st214, rfl, fun q => absurd q (by decide), fun q => absurd q (by decide), fun q => absurd q (by decide), fun q => absurd q (by decide), fun _ _ _ _ => ⟨(Fld.ne F226 F254 (by intro q; cases q)), (Fld.ne F229 F254 (by intro q; cases q)), (Fld.ne F231 F254 (by intro q; cases q)), (Fld.ne F233 F254 (by intro q; cases q))⟩⟩
    · exact ⟨st215, rfl, fun q => absurd q (by decide), fun q => absurd q (by decide), fun q => absurd q (by decide), fun q => absurd q (by decide), fun _ _ _ _ => ⟨(Fld.ne F226 F264 (by intro q; cases q)), (Fld.ne F229 F264 (by intro q; cases q)), (Fld.ne F231 F264 (by intro q; cases q)), (Fld.ne F233 F264 (by intro q; cases q))⟩⟩
    · exact ⟨st216, rfl, fun q => absurd q (by decide), fun q => absurd q (by decide), fun q => absurd q (by decide), fun q => absurd q (by decide), fun _ _ _ _ => ⟨(Fld.ne F226 F235 (by intro q; cases q)), (Fld.ne F229 F235 (by intro q; cases q)), (Fld.ne F231 F235 (by intro q; cases q)), (Fld.ne F233 F235 (by intro q; cases q))⟩⟩
    · exact ⟨st217, rfl, fun q => absurd q (by decide), fun q => absurd q (by decide), fun q => absurd q (by decide), fun q => absurd q (by decide), fun _ _ _ _ => ⟨(Fld.ne F226 F234 (by intro q; cases q)), (Fld.ne F229 F234 (by intro q; cases q)), (Fld.ne F231 F234 (by intro q; cases q)), (Fld.ne F233 F234 (by intro q; cases q))⟩⟩
    · exact ⟨st218, rfl, fun q => absurd q (by decide), fun q => absurd q (by decide), fun q => absurd q (by decide), fun q => absurd q (by decide), fun _ _ _ _ => ⟨(Fld.ne F226 F236 (by intro q; cases q)), (Fld.ne F229 F236 (by intro q; cases q)), (Fld.ne F231 F236 (by intro q; cases q)), (Fld.ne F233 F236 (by intro q; cases q))⟩⟩
    · exact ⟨st219, rfl, fun q => absurd q (by decide), fun q => absurd q (by decide), fun q => absurd q (by decide), fun q => absurd q (by decide), fun _ _ _ _ => ⟨(Fld.ne F226 F267 (by intro q; cases q)), (Fld.ne F229 F267 (by intro q; cases q)), (Fld.ne F231 F267 (by intro q; cases q)), (Fld.ne F233 F267 (by intro q; cases q))⟩⟩
    · exact ⟨st220, rfl, fun q => absurd q (by decide), fun q => absurd q (by decide), fun q => absurd q (by decide), fun q => absurd q (by decide), fun _ _ _ _ => ⟨(Fld.ne F226 F237 (by intro q; cases q)), (Fld.ne F229 F237 (by intro q; cases q)), (Fld.ne F231 F237 (by intro q; cases q)), (Fld.ne F233 F237 (by intro q; cases q))⟩⟩
    · exact ⟨st221, rfl, fun q => absurd q (by decide), fun q => absurd q (by decide), fun q => absurd q (by decide), fun q => absurd q (by decide), fun _ _ _ _ => ⟨(Fld.ne F226 F265 (by intro q; cases q)), (Fld.ne F229 F265 (by intro q; cases q)), (Fld.ne F231 F265 (by intro q; cases q)), (Fld.ne F233 F265 (by intro q; cases q))⟩⟩
    · exact ⟨st222, rfl, fun q => absurd q (by decide), fun q => absurd q (by decide), fun q => absurd q (by decide), fun q => absurd q (by decide), fun _ _ _ _ => ⟨(Fld.ne F226 F241 (by intro q; cases q)), (Fld.ne F229 F241 (by intro q; cases q)), (Fld.ne F231 F241 (by intro q; cases q)), (Fld.ne F233 F241 (by intro q; cases q))⟩⟩
    · exact ⟨st223, rfl, fun q => absurd q (by decide), fun q => absurd q (by decide), fun q => absurd q (by decide), fun q => absurd q (by decide), fun _ _ _ _ => ⟨(Fld.ne F226 F246 (by intro q; cases q)), (Fld.ne F229 F246 (by intro q; cases q)), (Fld.ne F231 F246 (by intro q; cases q)), (Fld.ne F233 F246 (by intro q; cases q))⟩⟩
  obtain ⟨n, o, h1, h2, h3, _, L, rfl, ⟨rfl, N⟩, hq⟩ := rm0 l s _ hw tables_1 i0 st185 st186 st187 st188 st189 st190 st191 st192 st193 st194 st195 st196 st197 st198 st199 st200 st201 st202 st203 st204 st205 st206 st207 st208 st209 st210 st211 st212 st213 st214 st215 st216 st217 st218 st219 st220 st221 st222 st223 st224 clst224.cls st225 st228 st230 st232 s.heap s.heap.size (Nat.le_refl _) (Old.start s) Sst185 Sst186 Sst187 Sst188 Sst189 Sst190 Sst191 Sst192 Sst193 Sst194 Sst195 Sst196 Sst197 Sst198 Sst199 Sst200 Sst201 Sst202 Sst203 Sst204 Sst205 Sst206 Sst207 Sst208 Sst209 Sst210 Sst211 Sst212 Sst213 Sst214 Sst215 Sst216 Sst217 Sst218 Sst219 Sst220 Sst221 Sst222 Sst223 Est185 Est186 Est187 Est188 Est189 Est190 Est191 Est192 Est193 Est194 Est195 Est196 Est197 Est198 Est199 Est200 Est201 Est202 Est203 Est204 Est205 Est206 Est207 Est208 Est209 Est210 Est211 Est212 Est213 Est214 Est215 Est216 Est217 Est218 Est219 Est220 Est221 Est222 Est223 Sst224 VA FT1 FT2 FT3 FT4 Sst225 Sst228 Sst230 Sst232 hp hd p e ha hc hk s m _ below hf ((Spec.applies_iff_loose hf).mp happ).1 ⟨rfl, State.Warmed39.refl s, rfl⟩ trivial
  refine ⟨n, _, h1, h2, h3, hpost _ _ _ _ _ _ ⟨Cond.after_iff.mpr rfl, Cond.after_iff.mpr (eq_i res_at (Term.int_eval (1)) rfl), trivial⟩ ⟨hq.1, hq.2.1, (hq.2.2.sift fun y hy => Or.inr (N y hy)).mono (by decide) (by decide)⟩⟩
theorem main_1_1 : Claimed_1_1 := comes_1 fun _ _ _ _ _ _ h hF => ⟨h.1, hF⟩
theorem main_1_2 : Claimed_1_2 := comes_1 fun _ _ _ _ _ _ h hF => ⟨h.2.1, hF⟩
end Jvm.Pilot.@@N@@
namespace Jvm.Pilot.@@N@@
open Jvm Jvm.ClassFile Sem Op Lib Jvm.Free Jvm.Stand Jvm.Pilot.@@N@@.Jvm.D
/-! MADE BY PROGRAM (witnessworld.py) out of the Statement's table words and the real class files: 15 classes; the members and pool entries that the words name. The judged class is class 1, her method 1. -/
namespace start1
open Jvm.ClassFile
def u (s : String) : CpInfo := .utf8 (stringToUtf16 s)
/-- a pool by its gaps: so many unusable entries, then the entry; so many at the end -/
def gap : Nat → List CpInfo → List CpInfo
  | 0, r => r
  | n + 1, r => .unusable :: gap n r
def poolList (es : List (Nat × CpInfo)) (last : Nat) : List CpInfo := es.foldr (fun e r => gap e.1 (e.2 :: r)) (gap last [])
def pool (es : List (Nat × CpInfo)) (last : Nat) : Array CpInfo := ⟨poolList es last⟩
def fileOf (pool : Array CpInfo) (this : Nat) (attrs : Array Attribute := #[]) (ms : Array MethodInfo := #[]) (fl : Nat := 33) (sup : Nat := 0) (ifs : Array Nat := #[]) (fds : Array FieldInfo := #[]) : ClassFile where
  minorVersion := 0
  majorVersion := 65
  constantPool := pool
  accessFlags := fl
  thisClass := this
  superClass := sup
  interfaces := ifs
  fields := fds
  methods := ms
  attributes := attrs
def plain (name : String) (sup : Option ClassId) : Class where
  name := name
  kind := .ordinary
  loader := none
  accessFlags := 33
  super := sup
  interfaces := #[]
  cf := none
  fields := #[]
  methods := #[]
  instanceTypes := #[]
  staticTypes := #[]
  resolved := #[]
  callSites := []
  init := .initialized
  statics := none
  mirror := none

def pool0 : Array CpInfo := pool [(5, u "<init>"), (0, u "()V"), (1, .class_ 10), (1, u "java/lang/Object")] 113

def k0m0 : Method := { name := "<init>", desc := "()V", sig := { parameters := [], returnType := none }, accessFlags := 1, code := none }
/-- java/lang/Object -/
def k0 : Class := { plain "java/lang/Object" none with
  accessFlags := 33
  interfaces := #[]
  cf := some (fileOf pool0 8 #[] #[{ accessFlags := 1, nameIndex := 5, descriptorIndex := 6, attributes := #[] }] 33 0 #[] #[])
  fields := #[]
  methods := #[k0m0]
  instanceTypes := #[]
  staticTypes := #[]
  resolved := Array.replicate 124 none
  statics := none }

def pool1 : Array CpInfo := pool [(2, .class_ 4), (1, u "java/lang/Object"), (0, u "<init>"), (0, u "()V"), (0, .class_ 8), (0, u "com/example/fourfold/fourfold/Term"), (0, .fieldref 7 10), (0, .nameAndType 11 12), (0, u "ERC"), (0, u "Lcom/example/fourfold/fourfold/Term;"), (0, .fieldref 7 14), (0, .nameAndType 15 12), (0, u "WHO"), (0, .fieldref 7 17), (0, .nameAndType 18 12), (0, u "WHAT"), (0, .fieldref 7 20), (0, .nameAndType 21 12), (0, u "WHEN"), (0, .fieldref 7 23), (0, .nameAndType 24 12), (0, u "WHERE"), (0, .fieldref 7 26), (0, .nameAndType 27 12), (0, u "HOW"), (0, .fieldref 7 29), (0, .nameAndType 30 12), (0, u "ABOUT_ERC"), (0, .fieldref 7 32), (0, .nameAndType 33 12), (0, u "ABOUT_WHO"), (0, .fieldref 7 35), (0, .nameAndType 36 12), (0, u "ABOUT_WHAT"), (0, .fieldref 7 38), (0, .nameAndType 39 12), (0, u "ABOUT_WHEN"), (0, .fieldref 7 41), (0, .nameAndType 42 12), (0, u "ABOUT_WHERE"), (0, .fieldref 7 44), (0, .nameAndType 45 12), (0, u "ABOUT_HOW"), (0, .fieldref 7 47), (0, .nameAndType 48 12), (0, u "SUPPORT_ERC"), (0, .fieldref 7 50), (0, .nameAndType 51 12), (0, u "SUPPORT_WHO"), (0, .fieldref 7 53), (0, .nameAndType 54 12), (0, u "SUPPORT_WHAT"), (0, .fieldref 7 56), (0, .nameAndType 57 12), (0, u "SUPPORT_WHEN"), (0, .fieldref 7 59), (0, .nameAndType 60 12), (0, u "SUPPORT_WHERE"), (0, .fieldref 7 62), (0, .nameAndType 63 12), (0, u "META_ERC"), (0, .fieldref 7 65), (0, .nameAndType 66 12), (0, u "META_WHO"), (0, .fieldref 7 68), (0, .nameAndType 69 12), (0, u "META_WHAT"), (0, .fieldref 7 71), (0, .nameAndType 72 12), (0, u "META_WHEN"), (0, .fieldref 7 74), (0, .nameAndType 75 12), (0, u "META_WHERE"), (0, .fieldref 7 77), (0, .nameAndType 78 12), (0, u "TITLE"), (0, .fieldref 7 80), (0, .nameAndType 81 12), (0, u "CREATOR"), (0, .fieldref 7 83), (0, .nameAndType 84 12), (0, u "SUBJECT"), (0, .fieldref 7 86), (0, .nameAndType 87 12), (0, u "DESCRIPTION"), (0, .fieldref 7 89), (0, .nameAndType 90 12), (0, u "PUBLISHER"), (0, .fieldref 7 92), (0, .nameAndType 93 12), (0, u "CONTRIBUTOR"), (0, .fieldref 7 95), (0, .nameAndType 96 12), (0, u "DATE"), (0, .fieldref 7 98), (0, .nameAndType 99 12), (0, u "TYPE"), (0, .fieldref 7 101), (0, .nameAndType 102 12), (0, u "FORMAT"), (0, .fieldref 7 104), (0, .nameAndType 105 12), (0, u "IDENTIFIER"), (0, .fieldref 7 107), (0, .nameAndType 108 12), (0, u "SOURCE"), (0, .fieldref 7 110), (0, .nameAndType 111 12), (0, u "LANGUAGE"), (0, .fieldref 7 113), (0, .nameAndType 114 12), (0, u "RELATION"), (0, .fieldref 7 116), (0, .nameAndType 117 12), (0, u "COVERAGE"), (0, .fieldref 7 119), (0, .nameAndType 120 12), (0, u "RIGHTS"), (0, .fieldref 7 122), (0, .nameAndType 123 12), (0, u "NOTE"), (0, .fieldref 7 125), (0, .nameAndType 126 12), (0, u "IN"), (0, .integer 2147483647), (0, .fieldref 129 130), (0, .class_ 131), (0, .nameAndType 15 132), (0, u "com/example/fourfold/fourfold/H"), (0, u "Lcom/example/fourfold/fourfold/H;"), (0, .fieldref 129 134), (0, .nameAndType 18 132), (0, .fieldref 129 136), (0, .nameAndType 21 132), (0, .fieldref 129 138), (0, .nameAndType 24 132), (0, .methodref 129 140), (0, .nameAndType 141 142), (0, u "of"), (0, u "(Lcom/example/fourfold/fourfold/Term;)Lcom/example/fourfold/fourfold/H;"), (0, .class_ 144), (0, u "com/example/fourfold/fourfold/HOfPinLaw"), (2, u "law"), (0, u "(I)Z")] 5

def k1m0 : Method := { name := "<init>", desc := "()V", sig := { parameters := [], returnType := none }, accessFlags := 2, code := none }
def k1c1 : Code := { maxStack := 4, maxLocals := 6, code := code, exceptionTable := #[], attributes := #[] }
def k1m1 : Method := { name := "law", desc := "(I)Z", sig := { parameters := [.int], returnType := some .boolean }, accessFlags := 9, code := some k1c1 }
/-- com/example/fourfold/fourfold/HOfPinLaw -/
def k1 : Class := { plain "com/example/fourfold/fourfold/HOfPinLaw" (some 0) with
  accessFlags := 49
  interfaces := #[]
  cf := some (fileOf pool1 143 #[] #[{ accessFlags := 2, nameIndex := 5, descriptorIndex := 6, attributes := #[] }, { accessFlags := 9, nameIndex := 147, descriptorIndex := 148, attributes := #[] }] 49 2 #[] #[])
  fields := #[]
  methods := #[k1m0, k1m1]
  instanceTypes := #[]
  staticTypes := #[]
  resolved := Array.replicate 154 none
  statics := none }

def pool2 : Array CpInfo := pool [(1, .class_ 2), (0, u "java/lang/constant/Constable"), (0, .class_ 4), (0, u "java/lang/Object")] 6

/-- java/lang/constant/Constable -/
def k2 : Class := { plain "java/lang/constant/Constable" (some 0) with
  accessFlags := 1537
  interfaces := #[]
  cf := some (fileOf pool2 1 #[] #[] 1537 3 #[] #[])
  fields := #[]
  methods := #[]
  instanceTypes := #[]
  staticTypes := #[]
  resolved := Array.replicate 11 none
  statics := none }

def pool3 : Array CpInfo := pool [(1, .class_ 2), (0, u "java/lang/Comparable"), (0, .class_ 4), (0, u "java/lang/Object")] 7

/-- java/lang/Comparable -/
def k3 : Class := { plain "java/lang/Comparable" (some 0) with
  accessFlags := 1537
  interfaces := #[]
  cf := some (fileOf pool3 1 #[] #[] 1537 3 #[] #[])
  fields := #[]
  methods := #[]
  instanceTypes := #[]
  staticTypes := #[]
  resolved := Array.replicate 12 none
  statics := none }

def pool4 : Array CpInfo := pool [(1, .class_ 2), (0, u "java/io/Serializable"), (0, .class_ 4), (0, u "java/lang/Object")] 2

/-- java/io/Serializable -/
def k4 : Class := { plain "java/io/Serializable" (some 0) with
  accessFlags := 1537
  interfaces := #[]
  cf := some (fileOf pool4 1 #[] #[] 1537 3 #[] #[])
  fields := #[]
  methods := #[]
  instanceTypes := #[]
  staticTypes := #[]
  resolved := Array.replicate 7 none
  statics := none }

def pool5 : Array CpInfo := pool [(2, .class_ 4), (1, u "java/lang/Enum"), (0, u "name"), (0, u "Ljava/lang/String;"), (2, u "ordinal"), (0, u "I"), (1, .class_ 14), (1, u "java/lang/Object"), (4, u "hash"), (86, .class_ 108), (1, u "java/lang/Enum$EnumDesc"), (2, .class_ 112), (0, u "java/lang/constant/Constable"), (0, .class_ 114), (0, u "java/lang/Comparable"), (0, .class_ 116), (0, u "java/io/Serializable")] 87

/-- java/lang/Enum -/
def k5 : Class := { plain "java/lang/Enum" (some 0) with
  accessFlags := 1057
  interfaces := #[2, 3, 4]
  cf := some (fileOf pool5 2 #[.nestMembers #[106]] #[] 1057 12 #[111, 113, 115] #[{ accessFlags := 18, nameIndex := 5, descriptorIndex := 6, attributes := #[] }, { accessFlags := 18, nameIndex := 9, descriptorIndex := 10, attributes := #[] }, { accessFlags := 2, nameIndex := 19, descriptorIndex := 10, attributes := #[] }])
  fields := #[{ name := "name", type := (.object "java/lang/String"), accessFlags := 18, slot := 0, constantValue := 0 }, { name := "ordinal", type := .int, accessFlags := 18, slot := 1, constantValue := 0 }, { name := "hash", type := .int, accessFlags := 2, slot := 2, constantValue := 0 }]
  methods := #[]
  instanceTypes := #[(.object "java/lang/String"), .int, .int]
  staticTypes := #[]
  resolved := Array.replicate 204 none
  statics := none }

def pool6 : Array CpInfo := pool [(1, .class_ 2), (0, u "com/example/fourfold/fourfold/Term"), (2, u "ERC"), (0, u "Lcom/example/fourfold/fourfold/Term;"), (2, u "WHO"), (2, u "WHAT"), (2, u "WHEN"), (2, u "WHERE"), (2, u "HOW"), (2, u "ABOUT_ERC"), (2, u "ABOUT_WHO"), (2, u "ABOUT_WHAT"), (2, u "ABOUT_WHEN"), (2, u "ABOUT_WHERE"), (2, u "ABOUT_HOW"), (2, u "SUPPORT_ERC"), (2, u "SUPPORT_WHO"), (2, u "SUPPORT_WHAT"), (2, u "SUPPORT_WHEN"), (2, u "SUPPORT_WHERE"), (2, u "META_ERC"), (2, u "META_WHO"), (2, u "META_WHAT"), (2, u "META_WHEN"), (2, u "META_WHERE"), (2, u "TITLE"), (2, u "CREATOR"), (2, u "SUBJECT"), (2, u "DESCRIPTION"), (2, u "PUBLISHER"), (2, u "CONTRIBUTOR"), (2, u "DATE"), (2, u "TYPE"), (2, u "FORMAT"), (2, u "IDENTIFIER"), (2, u "SOURCE"), (2, u "LANGUAGE"), (2, u "RELATION"), (2, u "COVERAGE"), (2, u "RIGHTS"), (2, u "NOTE"), (2, u "IN"), (2, u "$VALUES"), (0, u "[Lcom/example/fourfold/fourfold/Term;"), (6, .class_ 133), (1, u "java/lang/Enum"), (8, u "word"), (0, u "Ljava/lang/String;"), (2, u "synonym"), (2, u "STORIES"), (0, u "Ljava/util/Map;"), (14, u "BY_WORD"), (6, u "BY_SYNONYM")] 242

/-- com/example/fourfold/fourfold/Term -/
def k6 : Class := { plain "com/example/fourfold/fourfold/Term" (some 5) with
  accessFlags := 16432
  interfaces := #[]
  cf := some (fileOf pool6 1 #[] #[] 16432 131 #[] #[{ accessFlags := 16409, nameIndex := 5, descriptorIndex := 6, attributes := #[] }, { accessFlags := 16409, nameIndex := 9, descriptorIndex := 6, attributes := #[] }, { accessFlags := 16409, nameIndex := 12, descriptorIndex := 6, attributes := #[] }, { accessFlags := 16409, nameIndex := 15, descriptorIndex := 6, attributes := #[] }, { accessFlags := 16409, nameIndex := 18, descriptorIndex := 6, attributes := #[] }, { accessFlags := 16409, nameIndex := 21, descriptorIndex := 6, attributes := #[] }, { accessFlags := 16409, nameIndex := 24, descriptorIndex := 6, attributes := #[] }, { accessFlags := 16409, nameIndex := 27, descriptorIndex := 6, attributes := #[] }, { accessFlags := 16409, nameIndex := 30, descriptorIndex := 6, attributes := #[] }, { accessFlags := 16409, nameIndex := 33, descriptorIndex := 6, attributes := #[] }, { accessFlags := 16409, nameIndex := 36, descriptorIndex := 6, attributes := #[] }, { accessFlags := 16409, nameIndex := 39, descriptorIndex := 6, attributes := #[] }, { accessFlags := 16409, nameIndex := 42, descriptorIndex := 6, attributes := #[] }, { accessFlags := 16409, nameIndex := 45, descriptorIndex := 6, attributes := #[] }, { accessFlags := 16409, nameIndex := 48, descriptorIndex := 6, attributes := #[] }, { accessFlags := 16409, nameIndex := 51, descriptorIndex := 6, attributes := #[] }, { accessFlags := 16409, nameIndex := 54, descriptorIndex := 6, attributes := #[] }, { accessFlags := 16409, nameIndex := 57, descriptorIndex := 6, attributes := #[] }, { accessFlags := 16409, nameIndex := 60, descriptorIndex := 6, attributes := #[] }, { accessFlags := 16409, nameIndex := 63, descriptorIndex := 6, attributes := #[] }, { accessFlags := 16409, nameIndex := 66, descriptorIndex := 6, attributes := #[] }, { accessFlags := 16409, nameIndex := 69, descriptorIndex := 6, attributes := #[] }, { accessFlags := 16409, nameIndex := 72, descriptorIndex := 6, attributes := #[] }, { accessFlags := 16409, nameIndex := 75, descriptorIndex := 6, attributes := #[] }, { accessFlags := 16409, nameIndex := 78, descriptorIndex := 6, attributes := #[] }, { accessFlags := 16409, nameIndex := 81, descriptorIndex := 6, attributes := #[] }, { accessFlags := 16409, nameIndex := 84, descriptorIndex := 6, attributes := #[] }, { accessFlags := 16409, nameIndex := 87, descriptorIndex := 6, attributes := #[] }, { accessFlags := 16409, nameIndex := 90, descriptorIndex := 6, attributes := #[] }, { accessFlags := 16409, nameIndex := 93, descriptorIndex := 6, attributes := #[] }, { accessFlags := 16409, nameIndex := 96, descriptorIndex := 6, attributes := #[] }, { accessFlags := 16409, nameIndex := 99, descriptorIndex := 6, attributes := #[] }, { accessFlags := 16409, nameIndex := 102, descriptorIndex := 6, attributes := #[] }, { accessFlags := 16409, nameIndex := 105, descriptorIndex := 6, attributes := #[] }, { accessFlags := 16409, nameIndex := 108, descriptorIndex := 6, attributes := #[] }, { accessFlags := 16409, nameIndex := 111, descriptorIndex := 6, attributes := #[] }, { accessFlags := 16409, nameIndex := 114, descriptorIndex := 6, attributes := #[] }, { accessFlags := 16409, nameIndex := 117, descriptorIndex := 6, attributes := #[] }, { accessFlags := 16409, nameIndex := 120, descriptorIndex := 6, attributes := #[] }, { accessFlags := 26, nameIndex := 165, descriptorIndex := 150, attributes := #[] }, { accessFlags := 26, nameIndex := 172, descriptorIndex := 150, attributes := #[] }, { accessFlags := 26, nameIndex := 149, descriptorIndex := 150, attributes := #[] }, { accessFlags := 18, nameIndex := 142, descriptorIndex := 143, attributes := #[] }, { accessFlags := 18, nameIndex := 146, descriptorIndex := 143, attributes := #[] }, { accessFlags := 4122, nameIndex := 123, descriptorIndex := 124, attributes := #[] }])
  fields := #[{ name := "ERC", type := (.object "com/example/fourfold/fourfold/Term"), accessFlags := 16409, slot := 0, constantValue := 0 }, { name := "WHO", type := (.object "com/example/fourfold/fourfold/Term"), accessFlags := 16409, slot := 1, constantValue := 0 }, { name := "WHAT", type := (.object "com/example/fourfold/fourfold/Term"), accessFlags := 16409, slot := 2, constantValue := 0 }, { name := "WHEN", type := (.object "com/example/fourfold/fourfold/Term"), accessFlags := 16409, slot := 3, constantValue := 0 }, { name := "WHERE", type := (.object "com/example/fourfold/fourfold/Term"), accessFlags := 16409, slot := 4, constantValue := 0 }, { name := "HOW", type := (.object "com/example/fourfold/fourfold/Term"), accessFlags := 16409, slot := 5, constantValue := 0 }, { name := "ABOUT_ERC", type := (.object "com/example/fourfold/fourfold/Term"), accessFlags := 16409, slot := 6, constantValue := 0 }, { name := "ABOUT_WHO", type := (.object "com/example/fourfold/fourfold/Term"), accessFlags := 16409, slot := 7, constantValue := 0 }, { name := "ABOUT_WHAT", type := (.object "com/example/fourfold/fourfold/Term"), accessFlags := 16409, slot := 8, constantValue := 0 }, { name := "ABOUT_WHEN", type := (.object "com/example/fourfold/fourfold/Term"), accessFlags := 16409, slot := 9, constantValue := 0 }, { name := "ABOUT_WHERE", type := (.object "com/example/fourfold/fourfold/Term"), accessFlags := 16409, slot := 10, constantValue := 0 }, { name := "ABOUT_HOW", type := (.object "com/example/fourfold/fourfold/Term"), accessFlags := 16409, slot := 11, constantValue := 0 }, { name := "SUPPORT_ERC", type := (.object "com/example/fourfold/fourfold/Term"), accessFlags := 16409, slot := 12, constantValue := 0 }, { name := "SUPPORT_WHO", type := (.object "com/example/fourfold/fourfold/Term"), accessFlags := 16409, slot := 13, constantValue := 0 }, { name := "SUPPORT_WHAT", type := (.object "com/example/fourfold/fourfold/Term"), accessFlags := 16409, slot := 14, constantValue := 0 }, { name := "SUPPORT_WHEN", type := (.object "com/example/fourfold/fourfold/Term"), accessFlags := 16409, slot := 15, constantValue := 0 }, { name := "SUPPORT_WHERE", type := (.object "com/example/fourfold/fourfold/Term"), accessFlags := 16409, slot := 16, constantValue := 0 }, { name := "META_ERC", type := (.object "com/example/fourfold/fourfold/Term"), accessFlags := 16409, slot := 17, constantValue := 0 }, { name := "META_WHO", type := (.object "com/example/fourfold/fourfold/Term"), accessFlags := 16409, slot := 18, constantValue := 0 }, { name := "META_WHAT", type := (.object "com/example/fourfold/fourfold/Term"), accessFlags := 16409, slot := 19, constantValue := 0 }, { name := "META_WHEN", type := (.object "com/example/fourfold/fourfold/Term"), accessFlags := 16409, slot := 20, constantValue := 0 }, { name := "META_WHERE", type := (.object "com/example/fourfold/fourfold/Term"), accessFlags := 16409, slot := 21, constantValue := 0 }, { name := "TITLE", type := (.object "com/example/fourfold/fourfold/Term"), accessFlags := 16409, slot := 22, constantValue := 0 }, { name := "CREATOR", type := (.object "com/example/fourfold/fourfold/Term"), accessFlags := 16409, slot := 23, constantValue := 0 }, { name := "SUBJECT", type := (.object "com/example/fourfold/fourfold/Term"), accessFlags := 16409, slot := 24, constantValue := 0 }, { name := "DESCRIPTION", type := (.object "com/example/fourfold/fourfold/Term"), accessFlags := 16409, slot := 25, constantValue := 0 }, { name := "PUBLISHER", type := (.object "com/example/fourfold/fourfold/Term"), accessFlags := 16409, slot := 26, constantValue := 0 }, { name := "CONTRIBUTOR", type := (.object "com/example/fourfold/fourfold/Term"), accessFlags := 16409, slot := 27, constantValue := 0 }, { name := "DATE", type := (.object "com/example/fourfold/fourfold/Term"), accessFlags := 16409, slot := 28, constantValue := 0 }, { name := "TYPE", type := (.object "com/example/fourfold/fourfold/Term"), accessFlags := 16409, slot := 29, constantValue := 0 }, { name := "FORMAT", type := (.object "com/example/fourfold/fourfold/Term"), accessFlags := 16409, slot := 30, constantValue := 0 }, { name := "IDENTIFIER", type := (.object "com/example/fourfold/fourfold/Term"), accessFlags := 16409, slot := 31, constantValue := 0 }, { name := "SOURCE", type := (.object "com/example/fourfold/fourfold/Term"), accessFlags := 16409, slot := 32, constantValue := 0 }, { name := "LANGUAGE", type := (.object "com/example/fourfold/fourfold/Term"), accessFlags := 16409, slot := 33, constantValue := 0 }, { name := "RELATION", type := (.object "com/example/fourfold/fourfold/Term"), accessFlags := 16409, slot := 34, constantValue := 0 }, { name := "COVERAGE", type := (.object "com/example/fourfold/fourfold/Term"), accessFlags := 16409, slot := 35, constantValue := 0 }, { name := "RIGHTS", type := (.object "com/example/fourfold/fourfold/Term"), accessFlags := 16409, slot := 36, constantValue := 0 }, { name := "NOTE", type := (.object "com/example/fourfold/fourfold/Term"), accessFlags := 16409, slot := 37, constantValue := 0 }, { name := "IN", type := (.object "com/example/fourfold/fourfold/Term"), accessFlags := 16409, slot := 38, constantValue := 0 }, { name := "BY_WORD", type := (.object "java/util/Map"), accessFlags := 26, slot := 39, constantValue := 0 }, { name := "BY_SYNONYM", type := (.object "java/util/Map"), accessFlags := 26, slot := 40, constantValue := 0 }, { name := "STORIES", type := (.object "java/util/Map"), accessFlags := 26, slot := 41, constantValue := 0 }, { name := "word", type := (.object "java/lang/String"), accessFlags := 18, slot := 3, constantValue := 0 }, { name := "synonym", type := (.object "java/lang/String"), accessFlags := 18, slot := 4, constantValue := 0 }, { name := "$VALUES", type := (.array (.object "com/example/fourfold/fourfold/Term")), accessFlags := 4122, slot := 42, constantValue := 0 }]
  methods := #[]
  instanceTypes := #[(.object "java/lang/String"), .int, .int, (.object "java/lang/String"), (.object "java/lang/String")]
  staticTypes := #[(.object "com/example/fourfold/fourfold/Term"), (.object "com/example/fourfold/fourfold/Term"), (.object "com/example/fourfold/fourfold/Term"), (.object "com/example/fourfold/fourfold/Term"), (.object "com/example/fourfold/fourfold/Term"), (.object "com/example/fourfold/fourfold/Term"), (.object "com/example/fourfold/fourfold/Term"), (.object "com/example/fourfold/fourfold/Term"), (.object "com/example/fourfold/fourfold/Term"), (.object "com/example/fourfold/fourfold/Term"), (.object "com/example/fourfold/fourfold/Term"), (.object "com/example/fourfold/fourfold/Term"), (.object "com/example/fourfold/fourfold/Term"), (.object "com/example/fourfold/fourfold/Term"), (.object "com/example/fourfold/fourfold/Term"), (.object "com/example/fourfold/fourfold/Term"), (.object "com/example/fourfold/fourfold/Term"), (.object "com/example/fourfold/fourfold/Term"), (.object "com/example/fourfold/fourfold/Term"), (.object "com/example/fourfold/fourfold/Term"), (.object "com/example/fourfold/fourfold/Term"), (.object "com/example/fourfold/fourfold/Term"), (.object "com/example/fourfold/fourfold/Term"), (.object "com/example/fourfold/fourfold/Term"), (.object "com/example/fourfold/fourfold/Term"), (.object "com/example/fourfold/fourfold/Term"), (.object "com/example/fourfold/fourfold/Term"), (.object "com/example/fourfold/fourfold/Term"), (.object "com/example/fourfold/fourfold/Term"), (.object "com/example/fourfold/fourfold/Term"), (.object "com/example/fourfold/fourfold/Term"), (.object "com/example/fourfold/fourfold/Term"), (.object "com/example/fourfold/fourfold/Term"), (.object "com/example/fourfold/fourfold/Term"), (.object "com/example/fourfold/fourfold/Term"), (.object "com/example/fourfold/fourfold/Term"), (.object "com/example/fourfold/fourfold/Term"), (.object "com/example/fourfold/fourfold/Term"), (.object "com/example/fourfold/fourfold/Term"), (.object "java/util/Map"), (.object "java/util/Map"), (.object "java/util/Map"), (.array (.object "com/example/fourfold/fourfold/Term"))]
  resolved := Array.replicate 415 none
  statics := some 0 }

def pool7 : Array CpInfo := pool [(1, .class_ 2), (0, u "com/example/fourfold/fourfold/H"), (2, u "WHO"), (0, u "Lcom/example/fourfold/fourfold/H;"), (2, u "WHAT"), (2, u "WHEN"), (2, u "WHERE"), (2, u "$VALUES"), (0, u "[Lcom/example/fourfold/fourfold/H;"), (6, .class_ 28), (1, u "java/lang/Enum"), (6, .fieldref 1 36), (0, .nameAndType 37 38), (0, u "term"), (0, u "Lcom/example/fourfold/fourfold/Term;"), (6, .fieldref 1 46), (0, .nameAndType 47 19), (0, u "ALL"), (28, u "of"), (0, u "(Lcom/example/fourfold/fourfold/Term;)Lcom/example/fourfold/fourfold/H;")] 6

def k7c0 : Code := { maxStack := 2, maxLocals := 5, code := prog_12_method_5_code, exceptionTable := #[], attributes := #[] }
def k7m0 : Method := { name := "of", desc := "(Lcom/example/fourfold/fourfold/Term;)Lcom/example/fourfold/fourfold/H;", sig := { parameters := [(.object "com/example/fourfold/fourfold/Term")], returnType := some (.object "com/example/fourfold/fourfold/H") }, accessFlags := 8, code := some k7c0 }
/-- com/example/fourfold/fourfold/H -/
def k7 : Class := { plain "com/example/fourfold/fourfold/H" (some 5) with
  accessFlags := 16432
  interfaces := #[]
  cf := some (fileOf pool7 1 #[] #[{ accessFlags := 8, nameIndex := 76, descriptorIndex := 77, attributes := #[] }] 16432 26 #[] #[{ accessFlags := 16409, nameIndex := 5, descriptorIndex := 6, attributes := #[] }, { accessFlags := 16409, nameIndex := 9, descriptorIndex := 6, attributes := #[] }, { accessFlags := 16409, nameIndex := 12, descriptorIndex := 6, attributes := #[] }, { accessFlags := 16409, nameIndex := 15, descriptorIndex := 6, attributes := #[] }, { accessFlags := 26, nameIndex := 47, descriptorIndex := 19, attributes := #[] }, { accessFlags := 18, nameIndex := 37, descriptorIndex := 38, attributes := #[] }, { accessFlags := 4122, nameIndex := 18, descriptorIndex := 19, attributes := #[] }])
  fields := #[{ name := "WHO", type := (.object "com/example/fourfold/fourfold/H"), accessFlags := 16409, slot := 0, constantValue := 0 }, { name := "WHAT", type := (.object "com/example/fourfold/fourfold/H"), accessFlags := 16409, slot := 1, constantValue := 0 }, { name := "WHEN", type := (.object "com/example/fourfold/fourfold/H"), accessFlags := 16409, slot := 2, constantValue := 0 }, { name := "WHERE", type := (.object "com/example/fourfold/fourfold/H"), accessFlags := 16409, slot := 3, constantValue := 0 }, { name := "ALL", type := (.array (.object "com/example/fourfold/fourfold/H")), accessFlags := 26, slot := 4, constantValue := 0 }, { name := "term", type := (.object "com/example/fourfold/fourfold/Term"), accessFlags := 18, slot := 3, constantValue := 0 }, { name := "$VALUES", type := (.array (.object "com/example/fourfold/fourfold/H")), accessFlags := 4122, slot := 5, constantValue := 0 }]
  methods := #[k7m0]
  instanceTypes := #[(.object "java/lang/String"), .int, .int, (.object "com/example/fourfold/fourfold/Term")]
  staticTypes := #[(.object "com/example/fourfold/fourfold/H"), (.object "com/example/fourfold/fourfold/H"), (.object "com/example/fourfold/fourfold/H"), (.object "com/example/fourfold/fourfold/H"), (.array (.object "com/example/fourfold/fourfold/H")), (.array (.object "com/example/fourfold/fourfold/H"))]
  resolved := Array.replicate 84 none
  statics := some 1 }

def pool8 : Array CpInfo := pool [(1, u "java/lang/Cloneable"), (0, .class_ 1), (0, u "java/lang/Object"), (0, .class_ 3)] 3

/-- java/lang/Cloneable -/
def k8 : Class := { plain "java/lang/Cloneable" (some 0) with
  accessFlags := 1537
  interfaces := #[]
  cf := some (fileOf pool8 2 #[] #[] 1537 4 #[] #[])
  fields := #[]
  methods := #[]
  instanceTypes := #[]
  staticTypes := #[]
  resolved := Array.replicate 8 none
  statics := none }

/-- the primitive byte -/
def k9 : Class := { plain "byte" none with kind := .primitive 'B', accessFlags := 0x411 }
/-- [B -/
def k10 : Class := { plain "[B" (some 0) with kind := .array 9 .byte, interfaces := #[8, 4], accessFlags := 1041 }

/-- the primitive int -/
def k11 : Class := { plain "int" none with kind := .primitive 'I', accessFlags := 0x411 }
/-- [I -/
def k12 : Class := { plain "[I" (some 0) with kind := .array 11 .int, interfaces := #[8, 4], accessFlags := 1041 }

/-- [Lcom/example/fourfold/fourfold/H; -/
def k13 : Class := { plain "[Lcom/example/fourfold/fourfold/H;" (some 0) with kind := .array 7 (.object "com/example/fourfold/fourfold/H"), interfaces := #[8, 4], accessFlags := 1041 }

/-- [Lcom/example/fourfold/fourfold/Term; -/
def k14 : Class := { plain "[Lcom/example/fourfold/fourfold/Term;" (some 0) with kind := .array 6 (.object "com/example/fourfold/fourfold/Term"), interfaces := #[8, 4], accessFlags := 1041 }

def heap : Heap := #[{ cls := 6, slots := #[.ref 3, .ref 4, .ref 5, .ref 6, .ref 7, .ref 8, .ref 9, .ref 10, .ref 11, .ref 12, .ref 13, .ref 14, .ref 15, .ref 16, .ref 17, .ref 18, .ref 19, .ref 20, .ref 21, .ref 22, .ref 23, .ref 24, .ref 25, .ref 26, .ref 27, .ref 28, .ref 29, .ref 30, .ref 31, .ref 32, .ref 33, .ref 34, .ref 35, .ref 36, .ref 37, .ref 38, .ref 39, .ref 40, .ref 41, .null, .null, .null, .null], vm := .statics 6 },
  { cls := 7, slots := #[.ref 42, .ref 43, .ref 44, .ref 45, .ref 2, .null], vm := .statics 7 },
  { cls := 13, slots := #[.ref 42, .ref 43, .ref 44, .ref 45], vm := .none },
  { cls := 6, slots := #[.null, .int 0, .int 0, .null, .null], vm := .none },
  { cls := 6, slots := #[.null, .int 1, .int 0, .null, .null], vm := .none },
  { cls := 6, slots := #[.null, .int 2, .int 0, .null, .null], vm := .none },
  { cls := 6, slots := #[.null, .int 3, .int 0, .null, .null], vm := .none },
  { cls := 6, slots := #[.null, .int 4, .int 0, .null, .null], vm := .none },
  { cls := 6, slots := #[.null, .int 5, .int 0, .null, .null], vm := .none },
  { cls := 6, slots := #[.null, .int 6, .int 0, .null, .null], vm := .none },
  { cls := 6, slots := #[.null, .int 7, .int 0, .null, .null], vm := .none },
  { cls := 6, slots := #[.null, .int 8, .int 0, .null, .null], vm := .none },
  { cls := 6, slots := #[.null, .int 9, .int 0, .null, .null], vm := .none },
  { cls := 6, slots := #[.null, .int 10, .int 0, .null, .null], vm := .none },
  { cls := 6, slots := #[.null, .int 11, .int 0, .null, .null], vm := .none },
  { cls := 6, slots := #[.null, .int 12, .int 0, .null, .null], vm := .none },
  { cls := 6, slots := #[.null, .int 13, .int 0, .null, .null], vm := .none },
  { cls := 6, slots := #[.null, .int 14, .int 0, .null, .null], vm := .none },
  { cls := 6, slots := #[.null, .int 15, .int 0, .null, .null], vm := .none },
  { cls := 6, slots := #[.null, .int 16, .int 0, .null, .null], vm := .none },
  { cls := 6, slots := #[.null, .int 17, .int 0, .null, .null], vm := .none },
  { cls := 6, slots := #[.null, .int 18, .int 0, .null, .null], vm := .none },
  { cls := 6, slots := #[.null, .int 19, .int 0, .null, .null], vm := .none },
  { cls := 6, slots := #[.null, .int 20, .int 0, .null, .null], vm := .none },
  { cls := 6, slots := #[.null, .int 21, .int 0, .null, .null], vm := .none },
  { cls := 6, slots := #[.null, .int 22, .int 0, .null, .null], vm := .none },
  { cls := 6, slots := #[.null, .int 23, .int 0, .null, .null], vm := .none },
  { cls := 6, slots := #[.null, .int 24, .int 0, .null, .null], vm := .none },
  { cls := 6, slots := #[.null, .int 25, .int 0, .null, .null], vm := .none },
  { cls := 6, slots := #[.null, .int 26, .int 0, .null, .null], vm := .none },
  { cls := 6, slots := #[.null, .int 27, .int 0, .null, .null], vm := .none },
  { cls := 6, slots := #[.null, .int 28, .int 0, .null, .null], vm := .none },
  { cls := 6, slots := #[.null, .int 29, .int 0, .null, .null], vm := .none },
  { cls := 6, slots := #[.null, .int 30, .int 0, .null, .null], vm := .none },
  { cls := 6, slots := #[.null, .int 31, .int 0, .null, .null], vm := .none },
  { cls := 6, slots := #[.null, .int 32, .int 0, .null, .null], vm := .none },
  { cls := 6, slots := #[.null, .int 33, .int 0, .null, .null], vm := .none },
  { cls := 6, slots := #[.null, .int 34, .int 0, .null, .null], vm := .none },
  { cls := 6, slots := #[.null, .int 35, .int 0, .null, .null], vm := .none },
  { cls := 6, slots := #[.null, .int 36, .int 0, .null, .null], vm := .none },
  { cls := 6, slots := #[.null, .int 37, .int 0, .null, .null], vm := .none },
  { cls := 6, slots := #[.null, .int 38, .int 0, .null, .null], vm := .none },
  { cls := 7, slots := #[.null, .int 0, .int 0, .ref 4], vm := .none },
  { cls := 7, slots := #[.null, .int 1, .int 0, .ref 5], vm := .none },
  { cls := 7, slots := #[.null, .int 2, .int 0, .ref 6], vm := .none },
  { cls := 7, slots := #[.null, .int 3, .int 0, .ref 7], vm := .none }]
def classes : Array Class := #[k0, k1, k2, k3, k4, k5, k6, k7, k8, k9, k10, k11, k12, k13, k14]
def interned : List (Array UInt16 × Addr) := []
def slotsUsed : Nat := 264
def theMethod : MethodId := ⟨1, 1⟩
def args0 : Array Value := #[.int 5]
def aboutOver (below : List Frame) : State where
  vm := { classes := classes, interned := interned.toArray }
  heap := heap
  slotsUsed := slotsUsed
  threads := #[{ frames := .invoking theMethod args0 :: below }]
def below0 : List Frame := [.native { method := ⟨0, 0⟩, args := #[] }]
def about1 : State := aboutOver below0
def p0 : Program := .bare "" "" ""
def e0 : Env := launch0.env 0 0 0
theorem w_frames : about1.frames = Frame.invoking theMethod args0 :: below0 := rfl
set_option maxRecDepth 65536 in
theorem w_args : argsFit about1.vm theMethod args0 = true := by decide +kernel
set_option maxRecDepth 65536 in
theorem w_heap : heapFits about1 = true := by decide +kernel
set_option maxRecDepth 65536 in
theorem w_runnable : about1.curStatus? = some .runnable := by decide +kernel
set_option maxRecDepth 65536 in
theorem w_alone : about1.alone = true := by decide +kernel
set_option maxRecDepth 65536 in
theorem w_named : about1.methodNamed? x = some theMethod := by decide +kernel
set_option maxRecDepth 65536 in
theorem w_hears : about1.hears theMethod below0 = true := by decide +kernel
set_option maxRecDepth 65536 in
theorem w_ripe : about1.ripe theMethod args0 below0 = true := by decide +kernel
theorem w_running : about1.status = .running := rfl
set_option maxRecDepth 65536 in
theorem w_room : about1.hasRoom e0.platform room_1 = true :=
  launch0.hasRoom_least _ room_1 (by decide +kernel) (by decide +kernel) (by decide +kernel) (by decide +kernel) (by decide +kernel) (by decide +kernel)
theorem allAtoms_all (ts : List Jvm.Cond) (a : Array Jvm.Value) (st : Jvm.State) : (allAtoms ts).before a st = ts.all (fun c => c.before a st) := by
  induction ts with
  | nil => rfl
  | cons c t ih =>
    show (Jvm.Cond.and c (allAtoms t)).before a st = _
    rw [Jvm.Cond.before_and, ih, List.all_cons]
def words1 : List Jvm.Cond := Jvm.Cond.code x code maxLocals ret :: tables_1
/-- a 'code' word, met by the world's own term for the bytes: nothing is compared byte by byte -/
theorem code_word {y : MethodName} {bytes : ByteArray} {mx : Nat} {rt : Option FieldType} {a : Array Value} {s : State} {m : MethodId} {meth : Method} {c : Code} (h1 : s.methodNamed? y = some m) (h2 : s.vm.method? m = some meth) (h3 : meth.code = some c) (h4 : c.code = bytes)
    (h5 : (c.maxLocals == mx && c.exceptionTable.isEmpty && decide (c.maxStack ≤ mostOperands) && decide (meth.sig.returnType = rt) && !meth.locks && decide (parseMethodDescriptor y.desc = some meth.sig)) = true) : (Jvm.Cond.code y bytes mx rt).before a s = true := by
  simp only [Bool.and_eq_true, beq_iff_eq, Bool.not_eq_true', decide_eq_true_eq] at h5
  obtain ⟨⟨⟨⟨⟨g1, g2⟩, g3⟩, g4⟩, g5⟩, g6⟩ := h5
  simp [Cond.before, Cond.holds, Cond.value, h1, h2, h3, h4, g1, g2, g3, g4, g5, g6]
def isCode : Jvm.Cond → Bool
  | .code _ _ _ _ => true
  | _ => false
theorem all_split {L : List Jvm.Cond} {P : Jvm.Cond → Bool} (h1 : L.all (fun c => isCode c || P c) = true) (h2 : ∀ c ∈ L.filter isCode, P c = true) : L.all P = true := by
  refine List.all_eq_true.mpr fun c hc => ?_
  have h := List.all_eq_true.mp h1 c hc
  rcases Bool.eq_false_or_eq_true (isCode c) with hi | hi
  · exact h2 c (List.mem_filter.mpr ⟨hc, hi⟩)
  · simpa [hi] using h
set_option maxRecDepth 65536 in
theorem w_c0 : (Jvm.Cond.code x code maxLocals ret).before args0 about1 = true := code_word (m := ⟨1, 1⟩) (meth := k1m1) (c := k1c1) (by decide +kernel) rfl rfl rfl (by decide +kernel)
set_option maxRecDepth 65536 in
theorem w_c1 : (Jvm.Cond.code ({ cls := "com/example/fourfold/fourfold/H", name := "of", desc := "(Lcom/example/fourfold/fourfold/Term;)Lcom/example/fourfold/fourfold/H;" } : Jvm.MethodName) prog_12_method_5_code (5 : Nat) (Option.some (Jvm.ClassFile.FieldType.object "com/example/fourfold/fourfold/H"))).before args0 about1 = true := code_word (m := ⟨7, 0⟩) (meth := k7m0) (c := k7c0) (by decide +kernel) rfl rfl rfl (by decide +kernel)
def codes1 : List Jvm.Cond := [Jvm.Cond.code x code maxLocals ret, Jvm.Cond.code ({ cls := "com/example/fourfold/fourfold/H", name := "of", desc := "(Lcom/example/fourfold/fourfold/Term;)Lcom/example/fourfold/fourfold/H;" } : Jvm.MethodName) prog_12_method_5_code (5 : Nat) (Option.some (Jvm.ClassFile.FieldType.object "com/example/fourfold/fourfold/H"))]
set_option maxRecDepth 65536 in
theorem codes_eq : words1.filter isCode = codes1 := rfl
theorem w_codes : ∀ c ∈ words1.filter isCode, c.before args0 about1 = true := by
  rw [codes_eq]
  intro c hc
  simp only [codes1, List.mem_cons, List.not_mem_nil, or_false] at hc
  rcases hc with rfl | rfl
  · exact w_c0
  · exact w_c1
set_option maxRecDepth 65536 in
theorem w_t1 : (words1.take 24).all (fun c => isCode c || c.before args0 about1) = true := by decide +kernel
set_option maxRecDepth 65536 in
theorem w_t2 : ((words1.drop 24).take 24).all (fun c => isCode c || c.before args0 about1) = true := by decide +kernel
set_option maxRecDepth 65536 in
theorem w_t3 : (((words1.drop 24).drop 24).take 24).all (fun c => isCode c || c.before args0 about1) = true := by decide +kernel
set_option maxRecDepth 65536 in
theorem w_t4 : ((((words1.drop 24).drop 24).drop 24).take 24).all (fun c => isCode c || c.before args0 about1) = true := by decide +kernel
set_option maxRecDepth 65536 in
theorem w_t5 : ((((words1.drop 24).drop 24).drop 24).drop 24).all (fun c => isCode c || c.before args0 about1) = true := by decide +kernel
theorem w_tables : (allAtoms (Jvm.Cond.code x code maxLocals ret :: tables_1)).before args0 about1 = true := by
  rw [allAtoms_all]
  show words1.all (fun c => c.before args0 about1) = true
  refine all_split ?_ w_codes
  rw [← List.take_append_drop 24 words1, List.all_append, w_t1, ← List.take_append_drop 24 (words1.drop 24), List.all_append, w_t2, ← List.take_append_drop 24 ((words1.drop 24).drop 24), List.all_append, w_t3, ← List.take_append_drop 24 (((words1.drop 24).drop 24).drop 24), List.all_append, w_t4, w_t5]
  rfl
set_option maxRecDepth 65536 in
theorem w_case : (Jvm.Cond.and given_1 narrow_1).before args0 about1 = true := by decide +kernel
theorem w_applies : (headSpec (Jvm.Cond.code x code maxLocals ret :: tables_1) room_1).applies x e0.platform about1 = true :=
  (Spec.applies_iff w_frames).mpr ⟨w_running, w_runnable, w_alone, w_named, w_hears, w_ripe, w_room, w_tables⟩
theorem atStart : AtStart classFile x code maxLocals ret World_1 tables_1 room_1 Calls_1 rest_1 Pre_1 launch0 p0 e0 about1 theMethod args0 below0 :=
  ⟨lists_1, trivial, launch0.admits_env _ _ _, launch0.least_env, fairChoices_fair.cas, fairChoices_fair.clock, w_frames, w_args, w_heap, w_applies, trivial, trivial, w_case⟩
end start1
theorem witness_1 : WitnessClaimed_1 := ⟨start1.p0, start1.e0, start1.about1, start1.theMethod, start1.args0, start1.below0, start1.atStart⟩
end Jvm.Pilot.@@N@@
