import JvmDerived
import JvmDerived.Pilot.@@N@@Statement
import JvmDerived.Pilot.@@N@@Code
set_option linter.unusedVariables false
set_option linter.unusedSimpArgs false
@@BLOCK:NumsL.lean.txt@@
namespace Jvm.RoadKit
open Sem ClassFile Op Lib Jvm.Stand Jvm.Free Jvm.LawKit
section New
variable {p : Program} {l : Launch} {e : Env} {R : Room} {s : State} {m : MethodId} {args : Array Value} {below : List Frame} {meth : Method} {c : Code} {T : State} {locs : List Loc} {cells slots : Nat}
theorem retI (X : Stand p l e R s m args below meth c T locs cells slots) (hx : p.tables.exec = Jvm.exec) {pc : Nat} {Ls : Array Slot} {z : Int32} {rest : List Value} (hret : meth.sig.returnType = some .int) (hd : decode c.code pc = .ok (.ireturn, 1)) {fs : List Frame}
    (hl : ∀ (f : JFrame) (acts : List Action), f.method = m → f.locked = none → f.entered = [] → (doReturn e (T.setTop f) acts (some (.int z))).1 = T.setFrames fs) : Steps p.tables e below (T.setTop (mkF m pc Ls (.int z :: rest))) (T.setFrames fs) := by
  have hm' : T.vm.method? m = some meth := X.method'
  have hn : narrow .int (.int z) = .int z := rfl
  show Steps p.tables e below (T.setTop { method := m, pc := pc, locals := Ls, stack := _ :: rest, locked := none }) _
  jvm_step X.here [X.here.top, hx, hd, hm', hret, hn]
  first | (intro acts; rw [hl _ acts rfl rfl rfl]) | rw [hl _ _ rfl rfl rfl]
  exact Steps.refl _
end New
end Jvm.RoadKit
namespace Jvm.Pilot.@@N@@
open Jvm Jvm.ClassFile Sem Op Lib Jvm.Free Jvm.Stand Jvm.LawKit Jvm.RoadKit Bundle Jvm.Pilot.@@N@@.Jvm.D
abbrev Gx (p : Program) (e : Env) (below : List Frame) (T0 : State) (f0 : JFrame) (T : State) (f : JFrame) : Prop := ∀ t, Steps p.tables e below (T.setTop f) t → Steps p.tables e below (T0.setTop f0) t
theorem own_selp {Z s : State} {a0 args : Array Value} {y : MethodName} {n : Nat} (hZ : Z.Warmed39 s.vm) (wi : (Jvm.Cond.instantiable y.cls n).before a0 Z = true) (wp : (Jvm.Cond.privateMethod y).before a0 Z = true) (wm : (Jvm.Cond.instanceMethod y).before a0 Z = true) (hy : y.cls ≠ "java/lang/invoke/MethodHandle" ∧ y.cls ≠ "java/lang/invoke/VarHandle") : (Jvm.Cond.selects y.cls y y).before args s = true := by
  have wi' : (Jvm.Cond.instantiable y.cls n).before args s = true := mvT hZ wi
  obtain ⟨c, k, h1, h2, -, h4, -⟩ := Cond.instantiable_spec wi'
  have h5 : k.isInterface = false := by simp only [Bool.or_eq_false_iff] at h4; exact h4.1
  exact Jvm.Stand.selects_self_of_private h1 h2 h5 (Cond.privateMethod_at (mvP hZ wp (args := args))) (mvT hZ wm) hy
def lst (l : List Nat) : List Value := l.map fun i => Value.int (Int32.ofNat i)
theorem own_small {a : Nat} (h : a ≤ 5) : a = 0 ∨ a = 1 ∨ a = 2 ∨ a = 3 ∨ a = 4 ∨ a = 5 := by omega
theorem own_cl {a : Nat} (h : a ≤ 5) : (Int32.ofNat a).toNatClampNeg = a := by
  rcases own_small h with rfl | rfl | rfl | rfl | rfl | rfl <;> decide
theorem own_in {a n : Nat} (h : a < n) (hn : n ≤ 4) : ¬ (Int32.ofNat a < (0 : Int32)) ∧ Int32.ofNat a < Int32.ofNat n := by
  rcases own_small (show n ≤ 5 by omega) with rfl | rfl | rfl | rfl | rfl | rfl <;> rcases own_small (show a ≤ 5 by omega) with rfl | rfl | rfl | rfl | rfl | rfl <;> first | decide | omega
theorem own_inj {a n : Nat} (ha : a ≤ 5) (hn : n ≤ 5) (h : Int32.ofNat a = Int32.ofNat n) : a = n := by
  have := congrArg Int32.toNatClampNeg h
  rwa [own_cl ha, own_cl hn] at this
theorem own_rd {l : List Nat} {a n : Nat} (hl : l.length = n) (h : a < n) (hn : n ≤ 4) : (lst l).getD (Int32.ofNat a).toNatClampNeg (.int (0 : Int32)) = .int (Int32.ofNat (l.getD a 0)) := by
  rw [own_cl (by omega)]
  have : a < l.length := by omega
  simp [lst, List.getD_eq_getElem?_getD, this]
theorem own_set (l : List Nat) (a x : Nat) : (lst l).set a (.int (Int32.ofNat x)) = lst (l.set a x) := by
  simp [lst, List.map_set]
theorem own_ln {l : List Nat} {a n : Nat} (hl : l.length = n) (h : a < n) : a < (lst l).length := by
  simp [lst]; omega
theorem own_dec {c : Nat} (h : 0 < c) : (Int32.ofNat c) - (1 : Int32) = Int32.ofNat (c - 1) := by
  obtain ⟨d, rfl⟩ : ∃ d, c = d + 1 := ⟨c - 1, by omega⟩
  exact dec_ofNat d
theorem own_inc (c : Nat) : (Int32.ofNat c) + (1 : Int32) = Int32.ofNat (c + 1) := (inc_ofNat c).symm
theorem own_nz {n : Nat} (h : n ≤ 4) : (Int32.ofNat n) + (1 : Int32) ≠ 0 := by
  rcases own_small (show n ≤ 5 by omega) with rfl | rfl | rfl | rfl | rfl | rfl <;> first | decide | omega
theorem own_s (x : Int32) {n : Nat} (h : n ≤ 4) : ∃ q : Nat, ((x &&& (2147483647 : Int32)) % ((Int32.ofNat n) + (1 : Int32))) = Int32.ofNat q ∧ q < n + 1 := by
  have hd : ((Int32.ofNat n) + (1 : Int32)).toInt = (n : Int) + 1 := by
    rcases own_small (show n ≤ 5 by omega) with rfl | rfl | rfl | rfl | rfl | rfl <;> first | decide | omega
  have h1 : 0 ≤ (x &&& (2147483647 : Int32)).toInt := (c_andS x (2147483647 : Int32)).2.2 (by decide)
  have h2 := (c_irem (x &&& (2147483647 : Int32)) ((Int32.ofNat n) + (1 : Int32)) _ hd).1 h1
  have h3 : 0 ≤ ((x &&& (2147483647 : Int32)) % ((Int32.ofNat n) + (1 : Int32))).toInt ∧ ((x &&& (2147483647 : Int32)) % ((Int32.ofNat n) + (1 : Int32))).toInt < (n : Int) + 1 := by
    rw [h2]; exact ⟨Int.emod_nonneg _ (by omega), Int.emod_lt_of_pos _ (by omega)⟩
  generalize ((x &&& (2147483647 : Int32)) % ((Int32.ofNat n) + (1 : Int32))) = r at *
  refine ⟨r.toInt.toNat, ?_, by omega⟩
  have h4 : r.toInt = 0 ∨ r.toInt = 1 ∨ r.toInt = 2 ∨ r.toInt = 3 ∨ r.toInt = 4 := by omega
  rcases h4 with h4 | h4 | h4 | h4 | h4 <;> (apply Int32.toInt_inj.mp; rw [h4]; decide)
def swS (st : List Nat) (a b : Nat) : List Nat := (st.set a (st.getD b 0)).set b (st.getD a 0)
def swP (st pl : List Nat) (a b : Nat) : List Nat := (pl.set (st.getD b 0) a).set (st.getD a 0) b
def bitF (q : Nat) : Int32 := (1 : Int32) <<< ((Int32.ofNat q) &&& 31)
abbrev startOk (n : Nat) (st pl : List Nat) (cnt q : Nat) : Prop := q < n ∧ 0 < cnt ∧ cnt ≤ n ∧ st.length = n ∧ pl.length = n ∧ pl.getD q 0 < n ∧ st.getD (pl.getD q 0) 0 < n ∧ st.getD (cnt - 1) 0 < n
abbrev arriveOk (n : Nat) (st pl : List Nat) (cnt q : Nat) : Prop := q < n ∧ cnt < n ∧ st.length = n ∧ pl.length = n ∧ pl.getD q 0 < n ∧ st.getD (pl.getD q 0) 0 < n ∧ st.getD cnt 0 < n
def okM (n : Nat) (st pl : List Nat) (cnt : Nat) (mask : Int32) (q : Nat) : Bool :=
  if q = n then true else if (mask &&& bitF q) = (0 : Int32) then decide (startOk n st pl cnt q) else decide (arriveOk n st pl cnt q)
def stepR (n : Nat) (st pl : List Nat) (cnt : Nat) (mask : Int32) (q : Nat) : List Nat × List Nat × Nat × Int32 :=
  if q = n then (st, pl, cnt, mask) else if (mask &&& bitF q) = (0 : Int32) then (swS st (pl.getD q 0) (cnt - 1), swP st pl (pl.getD q 0) (cnt - 1), cnt - 1, mask ||| bitF q) else (swS st (pl.getD q 0) cnt, swP st pl (pl.getD q 0) cnt, cnt + 1, mask &&& (bitF q ^^^ (-1 : Int32)))
def mvF (pl : List Nat) (cnt q : Nat) : Int32 := if Int32.ofNat (pl.getD q 0) < Int32.ofNat cnt then (0 : Int32) else (1 : Int32)
abbrev finOk (pl : List Nat) (cnt : Nat) (mask : Int32) (i : Nat) : Prop := nar .boolean (mvF pl cnt i) = (if ((mask >>> ((Int32.ofNat i) &&& 31)) &&& (1 : Int32)) = (0 : Int32) then (0 : Int32) else (1 : Int32))
def allOk (n : Nat) (s1 s2 s3 s4 : Nat) : Bool :=
  let r1 := stepR n (List.range n) (List.range n) n 0 s1
  let r2 := stepR n r1.1 r1.2.1 r1.2.2.1 r1.2.2.2 s2
  let r3 := stepR n r2.1 r2.2.1 r2.2.2.1 r2.2.2.2 s3
  let r4 := stepR n r3.1 r3.2.1 r3.2.2.1 r3.2.2.2 s4
  okM n (List.range n) (List.range n) n 0 s1 && okM n r1.1 r1.2.1 r1.2.2.1 r1.2.2.2 s2 && okM n r2.1 r2.2.1 r2.2.2.1 r2.2.2.2 s3 && okM n r3.1 r3.2.1 r3.2.2.1 r3.2.2.2 s4 && decide (r4.2.1.length = n) && (List.range n).all fun i => decide (finOk r4.2.1 r4.2.2.1 r4.2.2.2 i)
set_option maxRecDepth 65536 in
theorem own_all1 : ∀ s1, s1 < 2 → ∀ s2, s2 < 2 → ∀ s3, s3 < 2 → ∀ s4, s4 < 2 → allOk 1 s1 s2 s3 s4 = true := by decide +kernel
set_option maxRecDepth 65536 in
theorem own_all2 : ∀ s1, s1 < 3 → ∀ s2, s2 < 3 → ∀ s3, s3 < 3 → ∀ s4, s4 < 3 → allOk 2 s1 s2 s3 s4 = true := by decide +kernel
set_option maxRecDepth 65536 in
theorem own_all3 : ∀ s1, s1 < 4 → ∀ s2, s2 < 4 → ∀ s3, s3 < 4 → ∀ s4, s4 < 4 → allOk 3 s1 s2 s3 s4 = true := by decide +kernel
set_option maxRecDepth 65536 in
theorem own_all4 : ∀ s1, s1 < 5 → ∀ s2, s2 < 5 → ∀ s3, s3 < 5 → ∀ s4, s4 < 5 → allOk 4 s1 s2 s3 s4 = true := by decide +kernel
theorem own_u1 {n s1 s2 s3 s4 : Nat} {a1 b1 : List Nat} {c1 : Nat} {m1 : Int32} (h : allOk n s1 s2 s3 s4 = true) (e1 : stepR n (List.range n) (List.range n) n 0 s1 = (a1, b1, c1, m1)) : okM n a1 b1 c1 m1 s2 = true := by
  simp only [allOk, Bool.and_eq_true, decide_eq_true_eq, e1] at h
  exact h.1.1.1.1.2
theorem own_u2 {n s1 s2 s3 s4 : Nat} {a1 b1 a2 b2 : List Nat} {c1 c2 : Nat} {m1 m2 : Int32} (h : allOk n s1 s2 s3 s4 = true) (e1 : stepR n (List.range n) (List.range n) n 0 s1 = (a1, b1, c1, m1)) (e2 : stepR n a1 b1 c1 m1 s2 = (a2, b2, c2, m2)) : okM n a2 b2 c2 m2 s3 = true := by
  simp only [allOk, Bool.and_eq_true, decide_eq_true_eq, e1, e2] at h
  exact h.1.1.1.2
theorem own_u3 {n s1 s2 s3 s4 : Nat} {a1 b1 a2 b2 a3 b3 : List Nat} {c1 c2 c3 : Nat} {m1 m2 m3 : Int32} (h : allOk n s1 s2 s3 s4 = true) (e1 : stepR n (List.range n) (List.range n) n 0 s1 = (a1, b1, c1, m1)) (e2 : stepR n a1 b1 c1 m1 s2 = (a2, b2, c2, m2)) (e3 : stepR n a2 b2 c2 m2 s3 = (a3, b3, c3, m3)) : okM n a3 b3 c3 m3 s4 = true := by
  simp only [allOk, Bool.and_eq_true, decide_eq_true_eq, e1, e2, e3] at h
  exact h.1.1.2
theorem own_u4 {n s1 s2 s3 s4 : Nat} {a1 b1 a2 b2 a3 b3 a4 b4 : List Nat} {c1 c2 c3 c4 : Nat} {m1 m2 m3 m4 : Int32} (h : allOk n s1 s2 s3 s4 = true) (e1 : stepR n (List.range n) (List.range n) n 0 s1 = (a1, b1, c1, m1)) (e2 : stepR n a1 b1 c1 m1 s2 = (a2, b2, c2, m2)) (e3 : stepR n a2 b2 c2 m2 s3 = (a3, b3, c3, m3)) (e4 : stepR n a3 b3 c3 m3 s4 = (a4, b4, c4, m4)) : b4.length = n ∧ ∀ i, i < n → finOk b4 c4 m4 i := by
  simp only [allOk, Bool.and_eq_true, decide_eq_true_eq, e1, e2, e3, e4] at h
  exact ⟨h.1.2, fun i hi => of_decide_eq_true (List.all_eq_true.mp h.2 i (List.mem_range.mpr hi))⟩
theorem own_fin (v : Int32) (n : Nat) (h0 : 0 ≤ v.toInt) (h1 : v.toInt < n) (hn : n ≤ 100000) : ∃ i : Fin n, v = Int32.ofNat i.1 := by
  refine ⟨⟨v.toInt.toNat, by omega⟩, ?_⟩
  apply Int32.toInt_inj.mp
  show _ = (Int32.ofNat v.toInt.toNat).toInt
  rw [toInt_of (n := Int32.ofNat v.toInt.toNat) rfl (by omega)]
  omega
theorem own_and3 (x : Int32) : x &&& (3 : Int32) = 0 ∨ x &&& (3 : Int32) = 1 ∨ x &&& (3 : Int32) = 2 ∨ x &&& (3 : Int32) = 3 := by
  have h := Jvm.Kit.i32_mask x 3 (k := 2) (by decide) (by decide)
  obtain ⟨i, hi⟩ := own_fin (x &&& (3 : Int32)) 4 (by omega) (by omega) (by decide)
  rw [hi]
  clear hi h
  revert i
  decide
theorem d1_0 : decode prog_56_method_1_code 0 = .ok (.aload_n 0, 1) := by decide +kernel
theorem d1_1 : decode prog_56_method_1_code 1 = .ok (.invokespecial 1, 3) := by decide +kernel
theorem d1_4 : decode prog_56_method_1_code 4 = .ok (.aload_n 0, 1) := by decide +kernel
theorem d1_5 : decode prog_56_method_1_code 5 = .ok (.iload_n 1, 1) := by decide +kernel
theorem d1_6 : decode prog_56_method_1_code 6 = .ok (.newarray .int, 2) := by decide +kernel
theorem d1_8 : decode prog_56_method_1_code 8 = .ok (.putfield 7, 3) := by decide +kernel
theorem d1_11 : decode prog_56_method_1_code 11 = .ok (.aload_n 0, 1) := by decide +kernel
theorem d1_12 : decode prog_56_method_1_code 12 = .ok (.iload_n 1, 1) := by decide +kernel
theorem d1_13 : decode prog_56_method_1_code 13 = .ok (.newarray .int, 2) := by decide +kernel
theorem d1_15 : decode prog_56_method_1_code 15 = .ok (.putfield 13, 3) := by decide +kernel
theorem d1_18 : decode prog_56_method_1_code 18 = .ok (.iconst 0, 1) := by decide +kernel
theorem d1_19 : decode prog_56_method_1_code 19 = .ok (.istore_n 2, 1) := by decide +kernel
theorem d1_20 : decode prog_56_method_1_code 20 = .ok (.iload_n 2, 1) := by decide +kernel
theorem d1_21 : decode prog_56_method_1_code 21 = .ok (.iload_n 1, 1) := by decide +kernel
theorem d1_22 : decode prog_56_method_1_code 22 = .ok (.if_icmp .ge 23, 3) := by decide +kernel
theorem d1_25 : decode prog_56_method_1_code 25 = .ok (.aload_n 0, 1) := by decide +kernel
theorem d1_26 : decode prog_56_method_1_code 26 = .ok (.getfield 7, 3) := by decide +kernel
theorem d1_29 : decode prog_56_method_1_code 29 = .ok (.iload_n 2, 1) := by decide +kernel
theorem d1_30 : decode prog_56_method_1_code 30 = .ok (.iload_n 2, 1) := by decide +kernel
theorem d1_31 : decode prog_56_method_1_code 31 = .ok (.iastore, 1) := by decide +kernel
theorem d1_32 : decode prog_56_method_1_code 32 = .ok (.aload_n 0, 1) := by decide +kernel
theorem d1_33 : decode prog_56_method_1_code 33 = .ok (.getfield 13, 3) := by decide +kernel
theorem d1_36 : decode prog_56_method_1_code 36 = .ok (.iload_n 2, 1) := by decide +kernel
theorem d1_37 : decode prog_56_method_1_code 37 = .ok (.iload_n 2, 1) := by decide +kernel
theorem d1_38 : decode prog_56_method_1_code 38 = .ok (.iastore, 1) := by decide +kernel
theorem d1_39 : decode prog_56_method_1_code 39 = .ok (.iinc 2 1, 3) := by decide +kernel
theorem d1_42 : decode prog_56_method_1_code 42 = .ok (.goto (-22), 3) := by decide +kernel
theorem d1_45 : decode prog_56_method_1_code 45 = .ok (.aload_n 0, 1) := by decide +kernel
theorem d1_46 : decode prog_56_method_1_code 46 = .ok (.iload_n 1, 1) := by decide +kernel
theorem d1_47 : decode prog_56_method_1_code 47 = .ok (.putfield 16, 3) := by decide +kernel
theorem d1_50 : decode prog_56_method_1_code 50 = .ok (.return_, 1) := by decide +kernel
theorem pn_1 : plainName "com/example/tideshift/tideshift/engine/MovingShards" = true := by first | (simp [plainName, overriddenIn]; done) | decide +kernel
theorem ef_Ini1 (m : MethodId) (a1 : Addr) : entryFrame m #[(.ref a1), (.int (1 : Int32))] 3 = mkF m 0 #[.val (.ref a1), .val (.int (1 : Int32)), .unset] [] := by first | (simp [entryFrame, mkF, argsToLocals, Value.category]; done) | rfl
def QIni1 (Z : State) (a1 : Addr) (h0 : Heap) (n0 : Nat) (v : Option Value) (h : Heap) (L : List Loc) : Prop := ∃ bS : Addr, ∃ bP : Addr, ∃ kS : ClassId, ∃ kP : ClassId, v = none ∧ Fr n0 L ∧ Keep h0 h [a1] ∧ Exa Z h a1 "com/example/tideshift/tideshift/engine/MovingShards" ∧ Fld Z h a1 "com/example/tideshift/tideshift/engine/MovingShards" "still" "[I" (.ref bS) ∧ Fld Z h a1 "com/example/tideshift/tideshift/engine/MovingShards" "placeOf" "[I" (.ref bP) ∧ Fld Z h a1 "com/example/tideshift/tideshift/engine/MovingShards" "stillCount" "I" (.int (Int32.ofNat 1)) ∧ h0.size ≤ bS ∧ h0.size ≤ bP ∧ bS ≠ bP ∧ Arv Z h bS kS .int (Int32.ofNat 1) (lst (List.range 1)) (.int (0 : Int32)) ∧ Arv Z h bP kP .int (Int32.ofNat 1) (lst (List.range 1)) (.int (0 : Int32))
set_option maxRecDepth 65536 in
set_option maxHeartbeats 40000000 in
theorem rmIni1 (l : Launch) (Z : State) (a0 : Array Value) (hw : ∀ d ∈ tables_1, d.before a0 Z = true) (ws : List Jvm.Cond) (a1 : Addr) (h0 : Heap) (n0 : Nat) (Z0 : n0 ≤ h0.size) (pr0 : Exa Z h0 a1 "com/example/tideshift/tideshift/engine/MovingShards") (pr1 : n0 ≤ a1) (pr2 : Fld Z h0 a1 "com/example/tideshift/tideshift/engine/MovingShards" "still" "[I" .null) (pr3 : Fld Z h0 a1 "com/example/tideshift/tideshift/engine/MovingShards" "placeOf" "[I" .null) (pr4 : Fld Z h0 a1 "com/example/tideshift/tideshift/engine/MovingShards" "stillCount" "I" (.int (0 : Int32))) :
    MetFree l (⟨"com/example/tideshift/tideshift/engine/MovingShards", "<init>", "(I)V"⟩ : MethodName) (head1 (Jvm.Cond.code (⟨"com/example/tideshift/tideshift/engine/MovingShards", "<init>", "(I)V"⟩ : MethodName) prog_56_method_1_code 3 none :: ws) ({ frames := 1, cells := 2, slots := 2, locals := 12 } : Room)) (fun a U => a = #[(.ref a1), (.int (1 : Int32))] ∧ Z.Warmed39 U.vm ∧ U.heap = h0) (fun _ _ _ _ _ => True) (fun _ U o U' => ∃ v L, o = .returned v ∧ QIni1 Z a1 h0 n0 v U'.heap L ∧ FrameEnd U o U' L ({ frames := 1, cells := 2, slots := 2, locals := 12 } : Room).cells ({ frames := 1, cells := 2, slots := 2, locals := 12 } : Room).slots) := by
  refine MetFree.of_bodySF (plainFor_of_name pn_1) hisR ?_
  intro p e s m args below meth c s₁ Bd hml0 hP hK
  obtain ⟨rfl, hZ, hh⟩ := hP
  have hx := Bd.exec
  have hby := Bd.bytes
  have hml : c.maxLocals = 3 := hml0
  have hown : s.vm.findClass "com/example/tideshift/tideshift/engine/MovingShards" = some m.cls := findClass_of_methodNamed Bd.named
  have hnm := (name_of_methodNamed Bd.named Bd.method).1
  have X0 : Stand p l e ({ frames := 1, cells := 2, slots := 2, locals := 12 } : Room) s m #[(.ref a1), (.int (1 : Int32))] below meth c s₁ [] 0 0 := Stand.of_body Bd
  have hs0 : h0 = s.heap := hh.symm
  have e0 : s₁.heap = h0 := by rw [← hh, Bd.state]; rfl
  have N0 := Fr.nil n0
  obtain ⟨f0, hf0⟩ : ∃ f, f = entryFrame m #[(.ref a1), (.int (1 : Int32))] 3 := ⟨_, rfl⟩
  have pre0 : ∀ t, Steps p.tables e below (s₁.setTop f0) t → Steps p.tables e below (s₁.setTop (entryFrame m #[(.ref a1), (.int (1 : Int32))] 3)) t := fun t k => hf0 ▸ k
  have K0 : Gx p e below s₁ f0 s₁ (mkF m 0 #[.val (.ref a1), .val (.int (1 : Int32)), .unset] []) := fun t kt => by rw [hf0]; exact castTop (ef_Ini1 m a1) kt
  have K1 : Gx p e below s₁ f0 s₁ (mkF m 1 #[.val (.ref a1), .val (.int (1 : Int32)), .unset] [(.ref a1)]) := fun t kt => K0 t (by
    show Steps p.tables e below (s₁.setTop (mkF m 0 #[.val (.ref a1), .val (.int (1 : Int32)), .unset] [])) _
    refine XS.aloadN X0.here hx rfl (hb hby d1_0) rfl rfl ?_
    exact kt)
  obtain ⟨T2, X2, e2, st2⟩ := initO X0 hx hZ hown (hw _ (List.mem_of_getElem? (i := 6) rfl)) (hw _ (List.mem_of_getElem? (i := 7) rfl)) (hw _ (List.mem_of_getElem? (i := 8) rfl)) e0 (g := (mkF m 1 #[.val (.ref a1), .val (.int (1 : Int32)), .unset] [(.ref a1)])) rfl (by rw [hml]; rfl) rfl (hb hby d1_1) (by decide) (W := 0) (by show 2 * 0 + _ ≤ _; exact Nat.le_of_eq rfl) (by decide)
  have K3 : Gx p e below s₁ f0 T2 (mkF m 4 #[.val (.ref a1), .val (.int (1 : Int32)), .unset] []) := fun t kt => K1 t (st2 t kt)
  have K4 : Gx p e below s₁ f0 T2 (mkF m 6 #[.val (.ref a1), .val (.int (1 : Int32)), .unset] [(.int (1 : Int32)), (.ref a1)]) := fun t kt => K3 t (by
    show Steps p.tables e below (T2.setTop (mkF m 4 #[.val (.ref a1), .val (.int (1 : Int32)), .unset] [])) _
    refine XS.aloadN X2.here hx rfl (hb hby d1_4) rfl rfl ?_
    show Steps p.tables e below (T2.setTop (mkF m 5 #[.val (.ref a1), .val (.int (1 : Int32)), .unset] [(.ref a1)])) _
    refine XS.iloadN X2.here hx rfl (hb hby d1_5) rfl ?_
    exact kt)
  obtain ⟨T5, h5, k5, X5, e5, E5, A5, st5⟩ := newP X2 hx hZ (hw _ (List.mem_of_getElem? (i := 9) rfl)) e2 (g := (mkF m 6 #[.val (.ref a1), .val (.int (1 : Int32)), .unset] [(.int (1 : Int32)), (.ref a1)])) rfl (hb hby d1_6) rfl (by decide) (cap := 1) (by decide) (by decide) (by decide) (by decide)
  obtain ⟨b5, g5⟩ : ∃ z, z = h0.size := ⟨_, rfl⟩
  rw [← g5] at A5 st5
  have V5 : Arv Z h5 b5 k5 .int (1 : Int32) [(.int (0 : Int32))] (.int (0 : Int32)) := (Arv.new A5 (by decide)).pad (pad_rep [] (.int (0 : Int32)) 1)
  have K6 : Gx p e below s₁ f0 T5 (mkF m 8 #[.val (.ref a1), .val (.int (1 : Int32)), .unset] [(.ref b5), (.ref a1)]) := fun t kt => K4 t (st5 t kt)
  have f7 : Fld Z h5 a1 "com/example/tideshift/tideshift/engine/MovingShards" "still" "[I" .null := (pr2.ext E5)
  have f8 : Exa Z h5 a1 "com/example/tideshift/tideshift/engine/MovingShards" := (pr0.ext E5)
  obtain ⟨T9, h9, X9', e9, W9, st9⟩ := putF X5 hx hZ hown (host := "") (Or.inl (hw _ (List.mem_of_getElem? (i := 10) rfl))) Via.refl e5 f7 f8 (Or.inr ⟨(hw _ (List.mem_of_getElem? (i := 11) rfl)), rfl, hnm⟩) (hw _ (List.mem_of_getElem? (i := 1) rfl)) (ty := (.array .int)) (by decide) rfl rfl (g := (mkF m 8 #[.val (.ref a1), .val (.int (1 : Int32)), .unset] [(.ref b5), (.ref a1)])) rfl rfl (hb hby d1_8)
  obtain ⟨lc9, X9, N9⟩ : ∃ lc, Stand p l e ({ frames := 1, cells := 2, slots := 2, locals := 12 } : Room) s m #[(.ref a1), (.int (1 : Int32))] below meth c T9 lc 1 1 ∧ Fr n0 lc := ⟨_, X9', Fr.snoc X9' N0 pr1⟩
  have f9_ : Fld Z h9 a1 "com/example/tideshift/tideshift/engine/MovingShards" "still" "[I" (.ref b5) := f7.same W9
  have K10 : Gx p e below s₁ f0 T9 (mkF m 11 #[.val (.ref a1), .val (.int (1 : Int32)), .unset] []) := fun t kt => K6 t (st9 t kt)
  have K11 : Gx p e below s₁ f0 T9 (mkF m 13 #[.val (.ref a1), .val (.int (1 : Int32)), .unset] [(.int (1 : Int32)), (.ref a1)]) := fun t kt => K10 t (by
    show Steps p.tables e below (T9.setTop (mkF m 11 #[.val (.ref a1), .val (.int (1 : Int32)), .unset] [])) _
    refine XS.aloadN X9.here hx rfl (hb hby d1_11) rfl rfl ?_
    show Steps p.tables e below (T9.setTop (mkF m 12 #[.val (.ref a1), .val (.int (1 : Int32)), .unset] [(.ref a1)])) _
    refine XS.iloadN X9.here hx rfl (hb hby d1_12) rfl ?_
    exact kt)
  obtain ⟨T12, h12, k12, X12, e12, E12, A12, st12⟩ := newP X9 hx hZ (hw _ (List.mem_of_getElem? (i := 9) rfl)) e9 (g := (mkF m 13 #[.val (.ref a1), .val (.int (1 : Int32)), .unset] [(.int (1 : Int32)), (.ref a1)])) rfl (hb hby d1_13) rfl (by decide) (cap := 1) (by decide) (by decide) (by decide) (by decide)
  obtain ⟨b12, g12⟩ : ∃ z, z = h9.size := ⟨_, rfl⟩
  rw [← g12] at A12 st12
  have V12 : Arv Z h12 b12 k12 .int (1 : Int32) [(.int (0 : Int32))] (.int (0 : Int32)) := (Arv.new A12 (by decide)).pad (pad_rep [] (.int (0 : Int32)) 1)
  have K13 : Gx p e below s₁ f0 T12 (mkF m 15 #[.val (.ref a1), .val (.int (1 : Int32)), .unset] [(.ref b12), (.ref a1)]) := fun t kt => K11 t (st12 t kt)
  have f14 : Fld Z h12 a1 "com/example/tideshift/tideshift/engine/MovingShards" "placeOf" "[I" .null := (((pr3.ext E5).other W9 (Or.inr (slot_ne (Or.inr (hw _ (List.mem_of_getElem? (i := 13) rfl))) (Or.inr (hw _ (List.mem_of_getElem? (i := 11) rfl))) (by decide) (t := (.array .int)) (t' := (.array .int)) (by decide) (by decide)))).ext E12)
  have f15 : Exa Z h12 a1 "com/example/tideshift/tideshift/engine/MovingShards" := ((f8.wr W9).ext E12)
  obtain ⟨T16, h16, X16', e16, W16, st16⟩ := putF X12 hx hZ hown (host := "") (Or.inl (hw _ (List.mem_of_getElem? (i := 12) rfl))) Via.refl e12 f14 f15 (Or.inr ⟨(hw _ (List.mem_of_getElem? (i := 13) rfl)), rfl, hnm⟩) (hw _ (List.mem_of_getElem? (i := 1) rfl)) (ty := (.array .int)) (by decide) rfl rfl (g := (mkF m 15 #[.val (.ref a1), .val (.int (1 : Int32)), .unset] [(.ref b12), (.ref a1)])) rfl rfl (hb hby d1_15)
  obtain ⟨lc16, X16, N16⟩ : ∃ lc, Stand p l e ({ frames := 1, cells := 2, slots := 2, locals := 12 } : Room) s m #[(.ref a1), (.int (1 : Int32))] below meth c T16 lc 2 2 ∧ Fr n0 lc := ⟨_, X16', Fr.snoc X16' N9 pr1⟩
  have f16_ : Fld Z h16 a1 "com/example/tideshift/tideshift/engine/MovingShards" "placeOf" "[I" (.ref b12) := f14.same W16
  have K17 : Gx p e below s₁ f0 T16 (mkF m 18 #[.val (.ref a1), .val (.int (1 : Int32)), .unset] []) := fun t kt => K13 t (st16 t kt)
  have K18 : Gx p e below s₁ f0 T16 (mkF m 26 #[.val (.ref a1), .val (.int (1 : Int32)), .val (.int (0 : Int32))] [(.ref a1)]) := fun t kt => K17 t (by
    show Steps p.tables e below (T16.setTop (mkF m 18 #[.val (.ref a1), .val (.int (1 : Int32)), .unset] [])) _
    refine XS.iconst X16.here hx rfl (hb hby d1_18) ?_
    show Steps p.tables e below (T16.setTop (mkF m 19 #[.val (.ref a1), .val (.int (1 : Int32)), .unset] [(.int (0 : Int32))])) _
    refine XS.istoreN X16.here hx rfl (hb hby d1_19) rfl (l' := #[.val (.ref a1), .val (.int (1 : Int32)), .val (.int (0 : Int32))]) rfl ?_
    show Steps p.tables e below (T16.setTop (mkF m 20 #[.val (.ref a1), .val (.int (1 : Int32)), .val (.int (0 : Int32))] [])) _
    refine XS.iloadN X16.here hx rfl (hb hby d1_20) rfl ?_
    show Steps p.tables e below (T16.setTop (mkF m 21 #[.val (.ref a1), .val (.int (1 : Int32)), .val (.int (0 : Int32))] [(.int (0 : Int32))])) _
    refine XS.iloadN X16.here hx rfl (hb hby d1_21) rfl ?_
    show Steps p.tables e below (T16.setTop (mkF m 22 #[.val (.ref a1), .val (.int (1 : Int32)), .val (.int (0 : Int32))] [(.int (1 : Int32)), (.int (0 : Int32))])) _
    refine XS.icmpNo X16.here hx rfl (hb hby d1_22) rfl (tlt (by decide)).2.1 ?_
    show Steps p.tables e below (T16.setTop (mkF m 25 #[.val (.ref a1), .val (.int (1 : Int32)), .val (.int (0 : Int32))] [])) _
    refine XS.aloadN X16.here hx rfl (hb hby d1_25) rfl rfl ?_
    exact kt)
  have f19 : Fld Z h16 a1 "com/example/tideshift/tideshift/engine/MovingShards" "still" "[I" (.ref b5) := ((f9_.ext E12).other W16 (Or.inr (slot_ne (Or.inr (hw _ (List.mem_of_getElem? (i := 11) rfl))) (Or.inr (hw _ (List.mem_of_getElem? (i := 13) rfl))) (by decide) (t := (.array .int)) (t' := (.array .int)) (by decide) (by decide))))
  obtain ⟨T20, X20, e20, st20⟩ := getF X16 hx hZ hown (host := "") (Or.inl (hw _ (List.mem_of_getElem? (i := 10) rfl))) Via.refl e16 f19 (g := (mkF m 26 #[.val (.ref a1), .val (.int (1 : Int32)), .val (.int (0 : Int32))] [(.ref a1)])) rfl rfl (hb hby d1_26)
  have K21 : Gx p e below s₁ f0 T20 (mkF m 29 #[.val (.ref a1), .val (.int (1 : Int32)), .val (.int (0 : Int32))] [(.ref b5)]) := fun t kt => K18 t (st20 t kt)
  have K22 : Gx p e below s₁ f0 T20 (mkF m 31 #[.val (.ref a1), .val (.int (1 : Int32)), .val (.int (0 : Int32))] [(.int (0 : Int32)), (.int (0 : Int32)), (.ref b5)]) := fun t kt => K21 t (by
    show Steps p.tables e below (T20.setTop (mkF m 29 #[.val (.ref a1), .val (.int (1 : Int32)), .val (.int (0 : Int32))] [(.ref b5)])) _
    refine XS.iloadN X20.here hx rfl (hb hby d1_29) rfl ?_
    show Steps p.tables e below (T20.setTop (mkF m 30 #[.val (.ref a1), .val (.int (1 : Int32)), .val (.int (0 : Int32))] [(.int (0 : Int32)), (.ref b5)])) _
    refine XS.iloadN X20.here hx rfl (hb hby d1_30) rfl ?_
    exact kt)
  have f23 : Arv Z h16 b5 k5 .int (1 : Int32) [(.int (0 : Int32))] (.int (0 : Int32)) := (((V5.other W9 (Ne.symm (Nat.ne_of_lt (Nat.lt_of_lt_of_le pr0.lt (Nat.le_of_eq g5.symm))))).ext E12).other W16 (Ne.symm (Nat.ne_of_lt (Nat.lt_of_lt_of_le pr0.lt (Nat.le_of_eq g5.symm)))))
  obtain ⟨clq24, Arq24, ckq24, cSq24, cNq24, cHq24, cGq24⟩ := id f23
  obtain ⟨T25, h25, X25', e25, W25, st25⟩ := stI X20 hx hZ e20 Arq24 (j := (0 : Int32)) (inb_of cSq24 ⟨by decide, by decide⟩) (g := (mkF m 31 #[.val (.ref a1), .val (.int (1 : Int32)), .val (.int (0 : Int32))] [(.int (0 : Int32)), (.int (0 : Int32)), (.ref b5)])) rfl rfl (hb hby d1_31)
  obtain ⟨lc25, X25, N25⟩ : ∃ lc, Stand p l e ({ frames := 1, cells := 2, slots := 2, locals := 12 } : Room) s m #[(.ref a1), (.int (1 : Int32))] below meth c T25 lc 2 2 ∧ Fr n0 lc := ⟨_, X25', Fr.snoc X25' N16 (Nat.le_trans Z0 (Nat.le_trans (Keep.refl h0 [a1]).1 (Nat.le_of_eq g5.symm)))⟩
  have V25 : Arv Z h25 b5 k5 .int (1 : Int32) [(.int (0 : Int32))] (.int (0 : Int32)) := Arv.set Arq24 ckq24 cSq24 cNq24 cHq24 cGq24 rfl W25 0 rfl (Nat.le_of_ble_eq_true rfl)
  have K26 : Gx p e below s₁ f0 T25 (mkF m 32 #[.val (.ref a1), .val (.int (1 : Int32)), .val (.int (0 : Int32))] []) := fun t kt => K22 t (st25 t kt)
  have K27 : Gx p e below s₁ f0 T25 (mkF m 33 #[.val (.ref a1), .val (.int (1 : Int32)), .val (.int (0 : Int32))] [(.ref a1)]) := fun t kt => K26 t (by
    show Steps p.tables e below (T25.setTop (mkF m 32 #[.val (.ref a1), .val (.int (1 : Int32)), .val (.int (0 : Int32))] [])) _
    refine XS.aloadN X25.here hx rfl (hb hby d1_32) rfl rfl ?_
    exact kt)
  have f28 : Fld Z h25 a1 "com/example/tideshift/tideshift/engine/MovingShards" "placeOf" "[I" (.ref b12) := (f16_.other W25 (Or.inl (Nat.ne_of_lt (Nat.lt_of_lt_of_le pr0.lt (Nat.le_of_eq g5.symm)))))
  obtain ⟨T29, X29, e29, st29⟩ := getF X25 hx hZ hown (host := "") (Or.inl (hw _ (List.mem_of_getElem? (i := 12) rfl))) Via.refl e25 f28 (g := (mkF m 33 #[.val (.ref a1), .val (.int (1 : Int32)), .val (.int (0 : Int32))] [(.ref a1)])) rfl rfl (hb hby d1_33)
  have K30 : Gx p e below s₁ f0 T29 (mkF m 36 #[.val (.ref a1), .val (.int (1 : Int32)), .val (.int (0 : Int32))] [(.ref b12)]) := fun t kt => K27 t (st29 t kt)
  have K31 : Gx p e below s₁ f0 T29 (mkF m 38 #[.val (.ref a1), .val (.int (1 : Int32)), .val (.int (0 : Int32))] [(.int (0 : Int32)), (.int (0 : Int32)), (.ref b12)]) := fun t kt => K30 t (by
    show Steps p.tables e below (T29.setTop (mkF m 36 #[.val (.ref a1), .val (.int (1 : Int32)), .val (.int (0 : Int32))] [(.ref b12)])) _
    refine XS.iloadN X29.here hx rfl (hb hby d1_36) rfl ?_
    show Steps p.tables e below (T29.setTop (mkF m 37 #[.val (.ref a1), .val (.int (1 : Int32)), .val (.int (0 : Int32))] [(.int (0 : Int32)), (.ref b12)])) _
    refine XS.iloadN X29.here hx rfl (hb hby d1_37) rfl ?_
    exact kt)
  have f32 : Arv Z h25 b12 k12 .int (1 : Int32) [(.int (0 : Int32))] (.int (0 : Int32)) := ((V12.other W16 (Ne.symm (Nat.ne_of_lt (Nat.lt_of_lt_of_le f9_.lt (Nat.le_of_eq g12.symm))))).other W25 (Ne.symm (Nat.ne_of_lt (Nat.lt_of_lt_of_le (V5.other W9 (Ne.symm (Nat.ne_of_lt (Nat.lt_of_lt_of_le pr0.lt (Nat.le_of_eq g5.symm))))).lt (Nat.le_of_eq g12.symm)))))
  obtain ⟨clq33, Arq33, ckq33, cSq33, cNq33, cHq33, cGq33⟩ := id f32
  obtain ⟨T34, h34, X34', e34, W34, st34⟩ := stI X29 hx hZ e29 Arq33 (j := (0 : Int32)) (inb_of cSq33 ⟨by decide, by decide⟩) (g := (mkF m 38 #[.val (.ref a1), .val (.int (1 : Int32)), .val (.int (0 : Int32))] [(.int (0 : Int32)), (.int (0 : Int32)), (.ref b12)])) rfl rfl (hb hby d1_38)
  obtain ⟨lc34, X34, N34⟩ : ∃ lc, Stand p l e ({ frames := 1, cells := 2, slots := 2, locals := 12 } : Room) s m #[(.ref a1), (.int (1 : Int32))] below meth c T34 lc 2 2 ∧ Fr n0 lc := ⟨_, X34', Fr.snoc X34' N25 (Nat.le_trans Z0 (Nat.le_trans (((Keep.refl h0 [a1]).ext E5).wr W9 (Or.inl (List.mem_of_getElem? (i := 0) rfl))).1 (Nat.le_of_eq g12.symm)))⟩
  have V34 : Arv Z h34 b12 k12 .int (1 : Int32) [(.int (0 : Int32))] (.int (0 : Int32)) := Arv.set Arq33 ckq33 cSq33 cNq33 cHq33 cGq33 rfl W34 0 rfl (Nat.le_of_ble_eq_true rfl)
  have K35 : Gx p e below s₁ f0 T34 (mkF m 39 #[.val (.ref a1), .val (.int (1 : Int32)), .val (.int (0 : Int32))] []) := fun t kt => K31 t (st34 t kt)
  have K36 : Gx p e below s₁ f0 T34 (mkF m 47 #[.val (.ref a1), .val (.int (1 : Int32)), .val (.int (1 : Int32))] [(.int (1 : Int32)), (.ref a1)]) := fun t kt => K35 t (by
    show Steps p.tables e below (T34.setTop (mkF m 39 #[.val (.ref a1), .val (.int (1 : Int32)), .val (.int (0 : Int32))] [])) _
    refine XS.iinc X34.here hx rfl (hb hby d1_39) rfl (l' := #[.val (.ref a1), .val (.int (1 : Int32)), .val (.int (1 : Int32))]) rfl ?_
    show Steps p.tables e below (T34.setTop (mkF m 42 #[.val (.ref a1), .val (.int (1 : Int32)), .val (.int (1 : Int32))] [])) _
    refine XS.goto X34.here hx rfl (pc0 := 42) (pc' := 20) rfl (hb hby d1_42) (by decide) (by decide) ?_
    show Steps p.tables e below (T34.setTop (mkF m 20 #[.val (.ref a1), .val (.int (1 : Int32)), .val (.int (1 : Int32))] [])) _
    refine XS.iloadN X34.here hx rfl (hb hby d1_20) rfl ?_
    show Steps p.tables e below (T34.setTop (mkF m 21 #[.val (.ref a1), .val (.int (1 : Int32)), .val (.int (1 : Int32))] [(.int (1 : Int32))])) _
    refine XS.iloadN X34.here hx rfl (hb hby d1_21) rfl ?_
    show Steps p.tables e below (T34.setTop (mkF m 22 #[.val (.ref a1), .val (.int (1 : Int32)), .val (.int (1 : Int32))] [(.int (1 : Int32)), (.int (1 : Int32))])) _
    refine XS.icmpYes X34.here hx rfl (pc0 := 22) (pc' := 45) rfl (hb hby d1_22) rfl (flt (by decide)).2.1 (by decide) (by decide) ?_
    show Steps p.tables e below (T34.setTop (mkF m 45 #[.val (.ref a1), .val (.int (1 : Int32)), .val (.int (1 : Int32))] [])) _
    refine XS.aloadN X34.here hx rfl (hb hby d1_45) rfl rfl ?_
    show Steps p.tables e below (T34.setTop (mkF m 46 #[.val (.ref a1), .val (.int (1 : Int32)), .val (.int (1 : Int32))] [(.ref a1)])) _
    refine XS.iloadN X34.here hx rfl (hb hby d1_46) rfl ?_
    exact kt)
  have f37 : Fld Z h34 a1 "com/example/tideshift/tideshift/engine/MovingShards" "stillCount" "I" (.int (0 : Int32)) := ((((((pr4.ext E5).other W9 (Or.inr (slot_ne (Or.inl (hw _ (List.mem_of_getElem? (i := 15) rfl))) (Or.inr (hw _ (List.mem_of_getElem? (i := 11) rfl))) (by decide) (t := .int) (t' := (.array .int)) (by decide) (by decide)))).ext E12).other W16 (Or.inr (slot_ne (Or.inl (hw _ (List.mem_of_getElem? (i := 15) rfl))) (Or.inr (hw _ (List.mem_of_getElem? (i := 13) rfl))) (by decide) (t := .int) (t' := (.array .int)) (by decide) (by decide)))).other W25 (Or.inl (Nat.ne_of_lt (Nat.lt_of_lt_of_le pr0.lt (Nat.le_of_eq g5.symm))))).other W34 (Or.inl (Nat.ne_of_lt (Nat.lt_of_lt_of_le f9_.lt (Nat.le_of_eq g12.symm)))))
  have f38 : Exa Z h34 a1 "com/example/tideshift/tideshift/engine/MovingShards" := (((f15.wr W16).wr W25).wr W34)
  obtain ⟨T39, h39, X39', e39, W39, st39⟩ := putF X34 hx hZ hown (host := "") (Or.inl (hw _ (List.mem_of_getElem? (i := 14) rfl))) Via.refl e34 f37 f38 (Or.inl (hw _ (List.mem_of_getElem? (i := 15) rfl))) (hw _ (List.mem_of_getElem? (i := 1) rfl)) (ty := .int) (by decide) rfl rfl (g := (mkF m 47 #[.val (.ref a1), .val (.int (1 : Int32)), .val (.int (1 : Int32))] [(.int (1 : Int32)), (.ref a1)])) rfl rfl (hb hby d1_47)
  obtain ⟨lc39, X39, N39⟩ : ∃ lc, Stand p l e ({ frames := 1, cells := 2, slots := 2, locals := 12 } : Room) s m #[(.ref a1), (.int (1 : Int32))] below meth c T39 lc 2 2 ∧ Fr n0 lc := ⟨_, X39', Fr.snoc X39' N34 pr1⟩
  have f39_ : Fld Z h39 a1 "com/example/tideshift/tideshift/engine/MovingShards" "stillCount" "I" (.int (1 : Int32)) := f37.same W39
  have K40 : Gx p e below s₁ f0 T39 (mkF m 50 #[.val (.ref a1), .val (.int (1 : Int32)), .val (.int (1 : Int32))] []) := fun t kt => K36 t (st39 t kt)
  have f42 : Fld Z h39 a1 "com/example/tideshift/tideshift/engine/MovingShards" "still" "[I" (.ref b5) := (((f19.other W25 (Or.inl (Nat.ne_of_lt (Nat.lt_of_lt_of_le pr0.lt (Nat.le_of_eq g5.symm))))).other W34 (Or.inl (Nat.ne_of_lt (Nat.lt_of_lt_of_le f9_.lt (Nat.le_of_eq g12.symm))))).other W39 (Or.inr (slot_ne (Or.inr (hw _ (List.mem_of_getElem? (i := 11) rfl))) (Or.inl (hw _ (List.mem_of_getElem? (i := 15) rfl))) (by decide) (t := (.array .int)) (t' := .int) (by decide) (by decide))))
  have f43 : Fld Z h39 a1 "com/example/tideshift/tideshift/engine/MovingShards" "placeOf" "[I" (.ref b12) := ((f28.other W34 (Or.inl (Nat.ne_of_lt (Nat.lt_of_lt_of_le f9_.lt (Nat.le_of_eq g12.symm))))).other W39 (Or.inr (slot_ne (Or.inr (hw _ (List.mem_of_getElem? (i := 13) rfl))) (Or.inl (hw _ (List.mem_of_getElem? (i := 15) rfl))) (by decide) (t := (.array .int)) (t' := .int) (by decide) (by decide))))
  have f44 : Arv Z h39 b5 k5 .int (1 : Int32) [(.int (0 : Int32))] (.int (0 : Int32)) := ((V25.other W34 (Nat.ne_of_lt (Nat.lt_of_lt_of_le (V5.other W9 (Ne.symm (Nat.ne_of_lt (Nat.lt_of_lt_of_le pr0.lt (Nat.le_of_eq g5.symm))))).lt (Nat.le_of_eq g12.symm)))).other W39 (Ne.symm (Nat.ne_of_lt (Nat.lt_of_lt_of_le pr0.lt (Nat.le_of_eq g5.symm)))))
  have f45 : Arv Z h39 b12 k12 .int (1 : Int32) [(.int (0 : Int32))] (.int (0 : Int32)) := (V34.other W39 (Ne.symm (Nat.ne_of_lt (Nat.lt_of_lt_of_le f9_.lt (Nat.le_of_eq g12.symm)))))
  have kp46 : Keep h0 h39 [a1] := ((((((((Keep.refl h0 [a1]).ext E5).wr W9 (Or.inl (List.mem_of_getElem? (i := 0) rfl))).ext E12).wr W16 (Or.inl (List.mem_of_getElem? (i := 0) rfl))).wr W25 (Or.inr (Nat.le_trans (Keep.refl h0 [a1]).1 (Nat.le_of_eq g5.symm)))).wr W34 (Or.inr (Nat.le_trans (((Keep.refl h0 [a1]).ext E5).wr W9 (Or.inl (List.mem_of_getElem? (i := 0) rfl))).1 (Nat.le_of_eq g12.symm)))).wr W39 (Or.inl (List.mem_of_getElem? (i := 0) rfl)))
  have f47 : Exa Z h39 a1 "com/example/tideshift/tideshift/engine/MovingShards" := (f38.wr W39)
  obtain ⟨fs41, hr41, hrun41, hended41, hW41, hsame41⟩ := X39.leave (v := none) (fun _ => rfl)
  refine ⟨_, _, pre0 _ (K40 _ ?_), hrun41, hended41, _, _, rfl, ?_, ⟨_, rfl⟩, hW41, hsame41.mono (by decide) (by decide)⟩
  · exact X39.returnOut hx Bd.returns (hb hby d1_50) hr41
  · show QIni1 Z a1 h0 n0 _ T39.heap _
    rw [e39]
    exact ⟨b5, b12, k5, k12, rfl, N39, kp46, f47, f42, f43, f39_, (Nat.le_trans (Keep.refl h0 [a1]).1 (Nat.le_of_eq g5.symm)), (Nat.le_trans (((Keep.refl h0 [a1]).ext E5).wr W9 (Or.inl (List.mem_of_getElem? (i := 0) rfl))).1 (Nat.le_of_eq g12.symm)), (Nat.ne_of_lt (Nat.lt_of_lt_of_le (V5.other W9 (Ne.symm (Nat.ne_of_lt (Nat.lt_of_lt_of_le pr0.lt (Nat.le_of_eq g5.symm))))).lt (Nat.le_of_eq g12.symm))), f44, f45⟩
theorem ef_Ini2 (m : MethodId) (a1 : Addr) : entryFrame m #[(.ref a1), (.int (2 : Int32))] 3 = mkF m 0 #[.val (.ref a1), .val (.int (2 : Int32)), .unset] [] := by first | (simp [entryFrame, mkF, argsToLocals, Value.category]; done) | rfl
def QIni2 (Z : State) (a1 : Addr) (h0 : Heap) (n0 : Nat) (v : Option Value) (h : Heap) (L : List Loc) : Prop := ∃ bS : Addr, ∃ bP : Addr, ∃ kS : ClassId, ∃ kP : ClassId, v = none ∧ Fr n0 L ∧ Keep h0 h [a1] ∧ Exa Z h a1 "com/example/tideshift/tideshift/engine/MovingShards" ∧ Fld Z h a1 "com/example/tideshift/tideshift/engine/MovingShards" "still" "[I" (.ref bS) ∧ Fld Z h a1 "com/example/tideshift/tideshift/engine/MovingShards" "placeOf" "[I" (.ref bP) ∧ Fld Z h a1 "com/example/tideshift/tideshift/engine/MovingShards" "stillCount" "I" (.int (Int32.ofNat 2)) ∧ h0.size ≤ bS ∧ h0.size ≤ bP ∧ bS ≠ bP ∧ Arv Z h bS kS .int (Int32.ofNat 2) (lst (List.range 2)) (.int (0 : Int32)) ∧ Arv Z h bP kP .int (Int32.ofNat 2) (lst (List.range 2)) (.int (0 : Int32))
set_option maxRecDepth 65536 in
set_option maxHeartbeats 40000000 in
theorem rmIni2 (l : Launch) (Z : State) (a0 : Array Value) (hw : ∀ d ∈ tables_1, d.before a0 Z = true) (ws : List Jvm.Cond) (a1 : Addr) (h0 : Heap) (n0 : Nat) (Z0 : n0 ≤ h0.size) (pr0 : Exa Z h0 a1 "com/example/tideshift/tideshift/engine/MovingShards") (pr1 : n0 ≤ a1) (pr2 : Fld Z h0 a1 "com/example/tideshift/tideshift/engine/MovingShards" "still" "[I" .null) (pr3 : Fld Z h0 a1 "com/example/tideshift/tideshift/engine/MovingShards" "placeOf" "[I" .null) (pr4 : Fld Z h0 a1 "com/example/tideshift/tideshift/engine/MovingShards" "stillCount" "I" (.int (0 : Int32))) :
    MetFree l (⟨"com/example/tideshift/tideshift/engine/MovingShards", "<init>", "(I)V"⟩ : MethodName) (head1 (Jvm.Cond.code (⟨"com/example/tideshift/tideshift/engine/MovingShards", "<init>", "(I)V"⟩ : MethodName) prog_56_method_1_code 3 none :: ws) ({ frames := 1, cells := 2, slots := 4, locals := 12 } : Room)) (fun a U => a = #[(.ref a1), (.int (2 : Int32))] ∧ Z.Warmed39 U.vm ∧ U.heap = h0) (fun _ _ _ _ _ => True) (fun _ U o U' => ∃ v L, o = .returned v ∧ QIni2 Z a1 h0 n0 v U'.heap L ∧ FrameEnd U o U' L ({ frames := 1, cells := 2, slots := 4, locals := 12 } : Room).cells ({ frames := 1, cells := 2, slots := 4, locals := 12 } : Room).slots) := by
  refine MetFree.of_bodySF (plainFor_of_name pn_1) hisR ?_
  intro p e s m args below meth c s₁ Bd hml0 hP hK
  obtain ⟨rfl, hZ, hh⟩ := hP
  have hx := Bd.exec
  have hby := Bd.bytes
  have hml : c.maxLocals = 3 := hml0
  have hown : s.vm.findClass "com/example/tideshift/tideshift/engine/MovingShards" = some m.cls := findClass_of_methodNamed Bd.named
  have hnm := (name_of_methodNamed Bd.named Bd.method).1
  have X0 : Stand p l e ({ frames := 1, cells := 2, slots := 4, locals := 12 } : Room) s m #[(.ref a1), (.int (2 : Int32))] below meth c s₁ [] 0 0 := Stand.of_body Bd
  have hs0 : h0 = s.heap := hh.symm
  have e0 : s₁.heap = h0 := by rw [← hh, Bd.state]; rfl
  have N0 := Fr.nil n0
  obtain ⟨f0, hf0⟩ : ∃ f, f = entryFrame m #[(.ref a1), (.int (2 : Int32))] 3 := ⟨_, rfl⟩
  have pre0 : ∀ t, Steps p.tables e below (s₁.setTop f0) t → Steps p.tables e below (s₁.setTop (entryFrame m #[(.ref a1), (.int (2 : Int32))] 3)) t := fun t k => hf0 ▸ k
  have K0 : Gx p e below s₁ f0 s₁ (mkF m 0 #[.val (.ref a1), .val (.int (2 : Int32)), .unset] []) := fun t kt => by rw [hf0]; exact castTop (ef_Ini2 m a1) kt
  have K1 : Gx p e below s₁ f0 s₁ (mkF m 1 #[.val (.ref a1), .val (.int (2 : Int32)), .unset] [(.ref a1)]) := fun t kt => K0 t (by
    show Steps p.tables e below (s₁.setTop (mkF m 0 #[.val (.ref a1), .val (.int (2 : Int32)), .unset] [])) _
    refine XS.aloadN X0.here hx rfl (hb hby d1_0) rfl rfl ?_
    exact kt)
  obtain ⟨T2, X2, e2, st2⟩ := initO X0 hx hZ hown (hw _ (List.mem_of_getElem? (i := 6) rfl)) (hw _ (List.mem_of_getElem? (i := 7) rfl)) (hw _ (List.mem_of_getElem? (i := 8) rfl)) e0 (g := (mkF m 1 #[.val (.ref a1), .val (.int (2 : Int32)), .unset] [(.ref a1)])) rfl (by rw [hml]; rfl) rfl (hb hby d1_1) (by decide) (W := 0) (by show 2 * 0 + _ ≤ _; exact Nat.le_of_eq rfl) (by decide)
  have K3 : Gx p e below s₁ f0 T2 (mkF m 4 #[.val (.ref a1), .val (.int (2 : Int32)), .unset] []) := fun t kt => K1 t (st2 t kt)
  have K4 : Gx p e below s₁ f0 T2 (mkF m 6 #[.val (.ref a1), .val (.int (2 : Int32)), .unset] [(.int (2 : Int32)), (.ref a1)]) := fun t kt => K3 t (by
    show Steps p.tables e below (T2.setTop (mkF m 4 #[.val (.ref a1), .val (.int (2 : Int32)), .unset] [])) _
    refine XS.aloadN X2.here hx rfl (hb hby d1_4) rfl rfl ?_
    show Steps p.tables e below (T2.setTop (mkF m 5 #[.val (.ref a1), .val (.int (2 : Int32)), .unset] [(.ref a1)])) _
    refine XS.iloadN X2.here hx rfl (hb hby d1_5) rfl ?_
    exact kt)
  obtain ⟨T5, h5, k5, X5, e5, E5, A5, st5⟩ := newP X2 hx hZ (hw _ (List.mem_of_getElem? (i := 9) rfl)) e2 (g := (mkF m 6 #[.val (.ref a1), .val (.int (2 : Int32)), .unset] [(.int (2 : Int32)), (.ref a1)])) rfl (hb hby d1_6) rfl (by decide) (cap := 2) (by decide) (by decide) (by decide) (by decide)
  obtain ⟨b5, g5⟩ : ∃ z, z = h0.size := ⟨_, rfl⟩
  rw [← g5] at A5 st5
  have V5 : Arv Z h5 b5 k5 .int (2 : Int32) [(.int (0 : Int32)), (.int (0 : Int32))] (.int (0 : Int32)) := (Arv.new A5 (by decide)).pad (pad_rep [] (.int (0 : Int32)) 2)
  have K6 : Gx p e below s₁ f0 T5 (mkF m 8 #[.val (.ref a1), .val (.int (2 : Int32)), .unset] [(.ref b5), (.ref a1)]) := fun t kt => K4 t (st5 t kt)
  have f7 : Fld Z h5 a1 "com/example/tideshift/tideshift/engine/MovingShards" "still" "[I" .null := (pr2.ext E5)
  have f8 : Exa Z h5 a1 "com/example/tideshift/tideshift/engine/MovingShards" := (pr0.ext E5)
  obtain ⟨T9, h9, X9', e9, W9, st9⟩ := putF X5 hx hZ hown (host := "") (Or.inl (hw _ (List.mem_of_getElem? (i := 10) rfl))) Via.refl e5 f7 f8 (Or.inr ⟨(hw _ (List.mem_of_getElem? (i := 11) rfl)), rfl, hnm⟩) (hw _ (List.mem_of_getElem? (i := 1) rfl)) (ty := (.array .int)) (by decide) rfl rfl (g := (mkF m 8 #[.val (.ref a1), .val (.int (2 : Int32)), .unset] [(.ref b5), (.ref a1)])) rfl rfl (hb hby d1_8)
  obtain ⟨lc9, X9, N9⟩ : ∃ lc, Stand p l e ({ frames := 1, cells := 2, slots := 4, locals := 12 } : Room) s m #[(.ref a1), (.int (2 : Int32))] below meth c T9 lc 1 2 ∧ Fr n0 lc := ⟨_, X9', Fr.snoc X9' N0 pr1⟩
  have f9_ : Fld Z h9 a1 "com/example/tideshift/tideshift/engine/MovingShards" "still" "[I" (.ref b5) := f7.same W9
  have K10 : Gx p e below s₁ f0 T9 (mkF m 11 #[.val (.ref a1), .val (.int (2 : Int32)), .unset] []) := fun t kt => K6 t (st9 t kt)
  have K11 : Gx p e below s₁ f0 T9 (mkF m 13 #[.val (.ref a1), .val (.int (2 : Int32)), .unset] [(.int (2 : Int32)), (.ref a1)]) := fun t kt => K10 t (by
    show Steps p.tables e below (T9.setTop (mkF m 11 #[.val (.ref a1), .val (.int (2 : Int32)), .unset] [])) _
    refine XS.aloadN X9.here hx rfl (hb hby d1_11) rfl rfl ?_
    show Steps p.tables e below (T9.setTop (mkF m 12 #[.val (.ref a1), .val (.int (2 : Int32)), .unset] [(.ref a1)])) _
    refine XS.iloadN X9.here hx rfl (hb hby d1_12) rfl ?_
    exact kt)
  obtain ⟨T12, h12, k12, X12, e12, E12, A12, st12⟩ := newP X9 hx hZ (hw _ (List.mem_of_getElem? (i := 9) rfl)) e9 (g := (mkF m 13 #[.val (.ref a1), .val (.int (2 : Int32)), .unset] [(.int (2 : Int32)), (.ref a1)])) rfl (hb hby d1_13) rfl (by decide) (cap := 2) (by decide) (by decide) (by decide) (by decide)
  obtain ⟨b12, g12⟩ : ∃ z, z = h9.size := ⟨_, rfl⟩
  rw [← g12] at A12 st12
  have V12 : Arv Z h12 b12 k12 .int (2 : Int32) [(.int (0 : Int32)), (.int (0 : Int32))] (.int (0 : Int32)) := (Arv.new A12 (by decide)).pad (pad_rep [] (.int (0 : Int32)) 2)
  have K13 : Gx p e below s₁ f0 T12 (mkF m 15 #[.val (.ref a1), .val (.int (2 : Int32)), .unset] [(.ref b12), (.ref a1)]) := fun t kt => K11 t (st12 t kt)
  have f14 : Fld Z h12 a1 "com/example/tideshift/tideshift/engine/MovingShards" "placeOf" "[I" .null := (((pr3.ext E5).other W9 (Or.inr (slot_ne (Or.inr (hw _ (List.mem_of_getElem? (i := 13) rfl))) (Or.inr (hw _ (List.mem_of_getElem? (i := 11) rfl))) (by decide) (t := (.array .int)) (t' := (.array .int)) (by decide) (by decide)))).ext E12)
  have f15 : Exa Z h12 a1 "com/example/tideshift/tideshift/engine/MovingShards" := ((f8.wr W9).ext E12)
  obtain ⟨T16, h16, X16', e16, W16, st16⟩ := putF X12 hx hZ hown (host := "") (Or.inl (hw _ (List.mem_of_getElem? (i := 12) rfl))) Via.refl e12 f14 f15 (Or.inr ⟨(hw _ (List.mem_of_getElem? (i := 13) rfl)), rfl, hnm⟩) (hw _ (List.mem_of_getElem? (i := 1) rfl)) (ty := (.array .int)) (by decide) rfl rfl (g := (mkF m 15 #[.val (.ref a1), .val (.int (2 : Int32)), .unset] [(.ref b12), (.ref a1)])) rfl rfl (hb hby d1_15)
  obtain ⟨lc16, X16, N16⟩ : ∃ lc, Stand p l e ({ frames := 1, cells := 2, slots := 4, locals := 12 } : Room) s m #[(.ref a1), (.int (2 : Int32))] below meth c T16 lc 2 4 ∧ Fr n0 lc := ⟨_, X16', Fr.snoc X16' N9 pr1⟩
  have f16_ : Fld Z h16 a1 "com/example/tideshift/tideshift/engine/MovingShards" "placeOf" "[I" (.ref b12) := f14.same W16
  have K17 : Gx p e below s₁ f0 T16 (mkF m 18 #[.val (.ref a1), .val (.int (2 : Int32)), .unset] []) := fun t kt => K13 t (st16 t kt)
  have K18 : Gx p e below s₁ f0 T16 (mkF m 26 #[.val (.ref a1), .val (.int (2 : Int32)), .val (.int (0 : Int32))] [(.ref a1)]) := fun t kt => K17 t (by
    show Steps p.tables e below (T16.setTop (mkF m 18 #[.val (.ref a1), .val (.int (2 : Int32)), .unset] [])) _
    refine XS.iconst X16.here hx rfl (hb hby d1_18) ?_
    show Steps p.tables e below (T16.setTop (mkF m 19 #[.val (.ref a1), .val (.int (2 : Int32)), .unset] [(.int (0 : Int32))])) _
    refine XS.istoreN X16.here hx rfl (hb hby d1_19) rfl (l' := #[.val (.ref a1), .val (.int (2 : Int32)), .val (.int (0 : Int32))]) rfl ?_
    show Steps p.tables e below (T16.setTop (mkF m 20 #[.val (.ref a1), .val (.int (2 : Int32)), .val (.int (0 : Int32))] [])) _
    refine XS.iloadN X16.here hx rfl (hb hby d1_20) rfl ?_
    show Steps p.tables e below (T16.setTop (mkF m 21 #[.val (.ref a1), .val (.int (2 : Int32)), .val (.int (0 : Int32))] [(.int (0 : Int32))])) _
    refine XS.iloadN X16.here hx rfl (hb hby d1_21) rfl ?_
    show Steps p.tables e below (T16.setTop (mkF m 22 #[.val (.ref a1), .val (.int (2 : Int32)), .val (.int (0 : Int32))] [(.int (2 : Int32)), (.int (0 : Int32))])) _
    refine XS.icmpNo X16.here hx rfl (hb hby d1_22) rfl (tlt (by decide)).2.1 ?_
    show Steps p.tables e below (T16.setTop (mkF m 25 #[.val (.ref a1), .val (.int (2 : Int32)), .val (.int (0 : Int32))] [])) _
    refine XS.aloadN X16.here hx rfl (hb hby d1_25) rfl rfl ?_
    exact kt)
  have f19 : Fld Z h16 a1 "com/example/tideshift/tideshift/engine/MovingShards" "still" "[I" (.ref b5) := ((f9_.ext E12).other W16 (Or.inr (slot_ne (Or.inr (hw _ (List.mem_of_getElem? (i := 11) rfl))) (Or.inr (hw _ (List.mem_of_getElem? (i := 13) rfl))) (by decide) (t := (.array .int)) (t' := (.array .int)) (by decide) (by decide))))
  obtain ⟨T20, X20, e20, st20⟩ := getF X16 hx hZ hown (host := "") (Or.inl (hw _ (List.mem_of_getElem? (i := 10) rfl))) Via.refl e16 f19 (g := (mkF m 26 #[.val (.ref a1), .val (.int (2 : Int32)), .val (.int (0 : Int32))] [(.ref a1)])) rfl rfl (hb hby d1_26)
  have K21 : Gx p e below s₁ f0 T20 (mkF m 29 #[.val (.ref a1), .val (.int (2 : Int32)), .val (.int (0 : Int32))] [(.ref b5)]) := fun t kt => K18 t (st20 t kt)
  have K22 : Gx p e below s₁ f0 T20 (mkF m 31 #[.val (.ref a1), .val (.int (2 : Int32)), .val (.int (0 : Int32))] [(.int (0 : Int32)), (.int (0 : Int32)), (.ref b5)]) := fun t kt => K21 t (by
    show Steps p.tables e below (T20.setTop (mkF m 29 #[.val (.ref a1), .val (.int (2 : Int32)), .val (.int (0 : Int32))] [(.ref b5)])) _
    refine XS.iloadN X20.here hx rfl (hb hby d1_29) rfl ?_
    show Steps p.tables e below (T20.setTop (mkF m 30 #[.val (.ref a1), .val (.int (2 : Int32)), .val (.int (0 : Int32))] [(.int (0 : Int32)), (.ref b5)])) _
    refine XS.iloadN X20.here hx rfl (hb hby d1_30) rfl ?_
    exact kt)
  have f23 : Arv Z h16 b5 k5 .int (2 : Int32) [(.int (0 : Int32)), (.int (0 : Int32))] (.int (0 : Int32)) := (((V5.other W9 (Ne.symm (Nat.ne_of_lt (Nat.lt_of_lt_of_le pr0.lt (Nat.le_of_eq g5.symm))))).ext E12).other W16 (Ne.symm (Nat.ne_of_lt (Nat.lt_of_lt_of_le pr0.lt (Nat.le_of_eq g5.symm)))))
  obtain ⟨clq24, Arq24, ckq24, cSq24, cNq24, cHq24, cGq24⟩ := id f23
  obtain ⟨T25, h25, X25', e25, W25, st25⟩ := stI X20 hx hZ e20 Arq24 (j := (0 : Int32)) (inb_of cSq24 ⟨by decide, by decide⟩) (g := (mkF m 31 #[.val (.ref a1), .val (.int (2 : Int32)), .val (.int (0 : Int32))] [(.int (0 : Int32)), (.int (0 : Int32)), (.ref b5)])) rfl rfl (hb hby d1_31)
  obtain ⟨lc25, X25, N25⟩ : ∃ lc, Stand p l e ({ frames := 1, cells := 2, slots := 4, locals := 12 } : Room) s m #[(.ref a1), (.int (2 : Int32))] below meth c T25 lc 2 4 ∧ Fr n0 lc := ⟨_, X25', Fr.snoc X25' N16 (Nat.le_trans Z0 (Nat.le_trans (Keep.refl h0 [a1]).1 (Nat.le_of_eq g5.symm)))⟩
  have V25 : Arv Z h25 b5 k5 .int (2 : Int32) [(.int (0 : Int32)), (.int (0 : Int32))] (.int (0 : Int32)) := Arv.set Arq24 ckq24 cSq24 cNq24 cHq24 cGq24 rfl W25 0 rfl (Nat.le_of_ble_eq_true rfl)
  have K26 : Gx p e below s₁ f0 T25 (mkF m 32 #[.val (.ref a1), .val (.int (2 : Int32)), .val (.int (0 : Int32))] []) := fun t kt => K22 t (st25 t kt)
  have K27 : Gx p e below s₁ f0 T25 (mkF m 33 #[.val (.ref a1), .val (.int (2 : Int32)), .val (.int (0 : Int32))] [(.ref a1)]) := fun t kt => K26 t (by
    show Steps p.tables e below (T25.setTop (mkF m 32 #[.val (.ref a1), .val (.int (2 : Int32)), .val (.int (0 : Int32))] [])) _
    refine XS.aloadN X25.here hx rfl (hb hby d1_32) rfl rfl ?_
    exact kt)
  have f28 : Fld Z h25 a1 "com/example/tideshift/tideshift/engine/MovingShards" "placeOf" "[I" (.ref b12) := (f16_.other W25 (Or.inl (Nat.ne_of_lt (Nat.lt_of_lt_of_le pr0.lt (Nat.le_of_eq g5.symm)))))
  obtain ⟨T29, X29, e29, st29⟩ := getF X25 hx hZ hown (host := "") (Or.inl (hw _ (List.mem_of_getElem? (i := 12) rfl))) Via.refl e25 f28 (g := (mkF m 33 #[.val (.ref a1), .val (.int (2 : Int32)), .val (.int (0 : Int32))] [(.ref a1)])) rfl rfl (hb hby d1_33)
  have K30 : Gx p e below s₁ f0 T29 (mkF m 36 #[.val (.ref a1), .val (.int (2 : Int32)), .val (.int (0 : Int32))] [(.ref b12)]) := fun t kt => K27 t (st29 t kt)
  have K31 : Gx p e below s₁ f0 T29 (mkF m 38 #[.val (.ref a1), .val (.int (2 : Int32)), .val (.int (0 : Int32))] [(.int (0 : Int32)), (.int (0 : Int32)), (.ref b12)]) := fun t kt => K30 t (by
    show Steps p.tables e below (T29.setTop (mkF m 36 #[.val (.ref a1), .val (.int (2 : Int32)), .val (.int (0 : Int32))] [(.ref b12)])) _
    refine XS.iloadN X29.here hx rfl (hb hby d1_36) rfl ?_
    show Steps p.tables e below (T29.setTop (mkF m 37 #[.val (.ref a1), .val (.int (2 : Int32)), .val (.int (0 : Int32))] [(.int (0 : Int32)), (.ref b12)])) _
    refine XS.iloadN X29.here hx rfl (hb hby d1_37) rfl ?_
    exact kt)
  have f32 : Arv Z h25 b12 k12 .int (2 : Int32) [(.int (0 : Int32)), (.int (0 : Int32))] (.int (0 : Int32)) := ((V12.other W16 (Ne.symm (Nat.ne_of_lt (Nat.lt_of_lt_of_le f9_.lt (Nat.le_of_eq g12.symm))))).other W25 (Ne.symm (Nat.ne_of_lt (Nat.lt_of_lt_of_le (V5.other W9 (Ne.symm (Nat.ne_of_lt (Nat.lt_of_lt_of_le pr0.lt (Nat.le_of_eq g5.symm))))).lt (Nat.le_of_eq g12.symm)))))
  obtain ⟨clq33, Arq33, ckq33, cSq33, cNq33, cHq33, cGq33⟩ := id f32
  obtain ⟨T34, h34, X34', e34, W34, st34⟩ := stI X29 hx hZ e29 Arq33 (j := (0 : Int32)) (inb_of cSq33 ⟨by decide, by decide⟩) (g := (mkF m 38 #[.val (.ref a1), .val (.int (2 : Int32)), .val (.int (0 : Int32))] [(.int (0 : Int32)), (.int (0 : Int32)), (.ref b12)])) rfl rfl (hb hby d1_38)
  obtain ⟨lc34, X34, N34⟩ : ∃ lc, Stand p l e ({ frames := 1, cells := 2, slots := 4, locals := 12 } : Room) s m #[(.ref a1), (.int (2 : Int32))] below meth c T34 lc 2 4 ∧ Fr n0 lc := ⟨_, X34', Fr.snoc X34' N25 (Nat.le_trans Z0 (Nat.le_trans (((Keep.refl h0 [a1]).ext E5).wr W9 (Or.inl (List.mem_of_getElem? (i := 0) rfl))).1 (Nat.le_of_eq g12.symm)))⟩
  have V34 : Arv Z h34 b12 k12 .int (2 : Int32) [(.int (0 : Int32)), (.int (0 : Int32))] (.int (0 : Int32)) := Arv.set Arq33 ckq33 cSq33 cNq33 cHq33 cGq33 rfl W34 0 rfl (Nat.le_of_ble_eq_true rfl)
  have K35 : Gx p e below s₁ f0 T34 (mkF m 39 #[.val (.ref a1), .val (.int (2 : Int32)), .val (.int (0 : Int32))] []) := fun t kt => K31 t (st34 t kt)
  have K36 : Gx p e below s₁ f0 T34 (mkF m 26 #[.val (.ref a1), .val (.int (2 : Int32)), .val (.int (1 : Int32))] [(.ref a1)]) := fun t kt => K35 t (by
    show Steps p.tables e below (T34.setTop (mkF m 39 #[.val (.ref a1), .val (.int (2 : Int32)), .val (.int (0 : Int32))] [])) _
    refine XS.iinc X34.here hx rfl (hb hby d1_39) rfl (l' := #[.val (.ref a1), .val (.int (2 : Int32)), .val (.int (1 : Int32))]) rfl ?_
    show Steps p.tables e below (T34.setTop (mkF m 42 #[.val (.ref a1), .val (.int (2 : Int32)), .val (.int (1 : Int32))] [])) _
    refine XS.goto X34.here hx rfl (pc0 := 42) (pc' := 20) rfl (hb hby d1_42) (by decide) (by decide) ?_
    show Steps p.tables e below (T34.setTop (mkF m 20 #[.val (.ref a1), .val (.int (2 : Int32)), .val (.int (1 : Int32))] [])) _
    refine XS.iloadN X34.here hx rfl (hb hby d1_20) rfl ?_
    show Steps p.tables e below (T34.setTop (mkF m 21 #[.val (.ref a1), .val (.int (2 : Int32)), .val (.int (1 : Int32))] [(.int (1 : Int32))])) _
    refine XS.iloadN X34.here hx rfl (hb hby d1_21) rfl ?_
    show Steps p.tables e below (T34.setTop (mkF m 22 #[.val (.ref a1), .val (.int (2 : Int32)), .val (.int (1 : Int32))] [(.int (2 : Int32)), (.int (1 : Int32))])) _
    refine XS.icmpNo X34.here hx rfl (hb hby d1_22) rfl (tlt (by decide)).2.1 ?_
    show Steps p.tables e below (T34.setTop (mkF m 25 #[.val (.ref a1), .val (.int (2 : Int32)), .val (.int (1 : Int32))] [])) _
    refine XS.aloadN X34.here hx rfl (hb hby d1_25) rfl rfl ?_
    exact kt)
  have f37 : Fld Z h34 a1 "com/example/tideshift/tideshift/engine/MovingShards" "still" "[I" (.ref b5) := ((f19.other W25 (Or.inl (Nat.ne_of_lt (Nat.lt_of_lt_of_le pr0.lt (Nat.le_of_eq g5.symm))))).other W34 (Or.inl (Nat.ne_of_lt (Nat.lt_of_lt_of_le f9_.lt (Nat.le_of_eq g12.symm)))))
  obtain ⟨T38, X38, e38, st38⟩ := getF X34 hx hZ hown (host := "") (Or.inl (hw _ (List.mem_of_getElem? (i := 10) rfl))) Via.refl e34 f37 (g := (mkF m 26 #[.val (.ref a1), .val (.int (2 : Int32)), .val (.int (1 : Int32))] [(.ref a1)])) rfl rfl (hb hby d1_26)
  have K39 : Gx p e below s₁ f0 T38 (mkF m 29 #[.val (.ref a1), .val (.int (2 : Int32)), .val (.int (1 : Int32))] [(.ref b5)]) := fun t kt => K36 t (st38 t kt)
  have K40 : Gx p e below s₁ f0 T38 (mkF m 31 #[.val (.ref a1), .val (.int (2 : Int32)), .val (.int (1 : Int32))] [(.int (1 : Int32)), (.int (1 : Int32)), (.ref b5)]) := fun t kt => K39 t (by
    show Steps p.tables e below (T38.setTop (mkF m 29 #[.val (.ref a1), .val (.int (2 : Int32)), .val (.int (1 : Int32))] [(.ref b5)])) _
    refine XS.iloadN X38.here hx rfl (hb hby d1_29) rfl ?_
    show Steps p.tables e below (T38.setTop (mkF m 30 #[.val (.ref a1), .val (.int (2 : Int32)), .val (.int (1 : Int32))] [(.int (1 : Int32)), (.ref b5)])) _
    refine XS.iloadN X38.here hx rfl (hb hby d1_30) rfl ?_
    exact kt)
  have f41 : Arv Z h34 b5 k5 .int (2 : Int32) [(.int (0 : Int32)), (.int (0 : Int32))] (.int (0 : Int32)) := (V25.other W34 (Nat.ne_of_lt (Nat.lt_of_lt_of_le (V5.other W9 (Ne.symm (Nat.ne_of_lt (Nat.lt_of_lt_of_le pr0.lt (Nat.le_of_eq g5.symm))))).lt (Nat.le_of_eq g12.symm))))
  obtain ⟨clq42, Arq42, ckq42, cSq42, cNq42, cHq42, cGq42⟩ := id f41
  obtain ⟨T43, h43, X43', e43, W43, st43⟩ := stI X38 hx hZ e38 Arq42 (j := (1 : Int32)) (inb_of cSq42 ⟨by decide, by decide⟩) (g := (mkF m 31 #[.val (.ref a1), .val (.int (2 : Int32)), .val (.int (1 : Int32))] [(.int (1 : Int32)), (.int (1 : Int32)), (.ref b5)])) rfl rfl (hb hby d1_31)
  obtain ⟨lc43, X43, N43⟩ : ∃ lc, Stand p l e ({ frames := 1, cells := 2, slots := 4, locals := 12 } : Room) s m #[(.ref a1), (.int (2 : Int32))] below meth c T43 lc 2 4 ∧ Fr n0 lc := ⟨_, X43', Fr.snoc X43' N34 (Nat.le_trans Z0 (Nat.le_trans (Keep.refl h0 [a1]).1 (Nat.le_of_eq g5.symm)))⟩
  have V43 : Arv Z h43 b5 k5 .int (2 : Int32) [(.int (0 : Int32)), (.int (1 : Int32))] (.int (0 : Int32)) := Arv.set Arq42 ckq42 cSq42 cNq42 cHq42 cGq42 rfl W43 1 rfl (Nat.le_of_ble_eq_true rfl)
  have K44 : Gx p e below s₁ f0 T43 (mkF m 32 #[.val (.ref a1), .val (.int (2 : Int32)), .val (.int (1 : Int32))] []) := fun t kt => K40 t (st43 t kt)
  have K45 : Gx p e below s₁ f0 T43 (mkF m 33 #[.val (.ref a1), .val (.int (2 : Int32)), .val (.int (1 : Int32))] [(.ref a1)]) := fun t kt => K44 t (by
    show Steps p.tables e below (T43.setTop (mkF m 32 #[.val (.ref a1), .val (.int (2 : Int32)), .val (.int (1 : Int32))] [])) _
    refine XS.aloadN X43.here hx rfl (hb hby d1_32) rfl rfl ?_
    exact kt)
  have f46 : Fld Z h43 a1 "com/example/tideshift/tideshift/engine/MovingShards" "placeOf" "[I" (.ref b12) := ((f28.other W34 (Or.inl (Nat.ne_of_lt (Nat.lt_of_lt_of_le f9_.lt (Nat.le_of_eq g12.symm))))).other W43 (Or.inl (Nat.ne_of_lt (Nat.lt_of_lt_of_le pr0.lt (Nat.le_of_eq g5.symm)))))
  obtain ⟨T47, X47, e47, st47⟩ := getF X43 hx hZ hown (host := "") (Or.inl (hw _ (List.mem_of_getElem? (i := 12) rfl))) Via.refl e43 f46 (g := (mkF m 33 #[.val (.ref a1), .val (.int (2 : Int32)), .val (.int (1 : Int32))] [(.ref a1)])) rfl rfl (hb hby d1_33)
  have K48 : Gx p e below s₁ f0 T47 (mkF m 36 #[.val (.ref a1), .val (.int (2 : Int32)), .val (.int (1 : Int32))] [(.ref b12)]) := fun t kt => K45 t (st47 t kt)
  have K49 : Gx p e below s₁ f0 T47 (mkF m 38 #[.val (.ref a1), .val (.int (2 : Int32)), .val (.int (1 : Int32))] [(.int (1 : Int32)), (.int (1 : Int32)), (.ref b12)]) := fun t kt => K48 t (by
    show Steps p.tables e below (T47.setTop (mkF m 36 #[.val (.ref a1), .val (.int (2 : Int32)), .val (.int (1 : Int32))] [(.ref b12)])) _
    refine XS.iloadN X47.here hx rfl (hb hby d1_36) rfl ?_
    show Steps p.tables e below (T47.setTop (mkF m 37 #[.val (.ref a1), .val (.int (2 : Int32)), .val (.int (1 : Int32))] [(.int (1 : Int32)), (.ref b12)])) _
    refine XS.iloadN X47.here hx rfl (hb hby d1_37) rfl ?_
    exact kt)
  have f50 : Arv Z h43 b12 k12 .int (2 : Int32) [(.int (0 : Int32)), (.int (0 : Int32))] (.int (0 : Int32)) := (V34.other W43 (Ne.symm (Nat.ne_of_lt (Nat.lt_of_lt_of_le (V5.other W9 (Ne.symm (Nat.ne_of_lt (Nat.lt_of_lt_of_le pr0.lt (Nat.le_of_eq g5.symm))))).lt (Nat.le_of_eq g12.symm)))))
  obtain ⟨clq51, Arq51, ckq51, cSq51, cNq51, cHq51, cGq51⟩ := id f50
  obtain ⟨T52, h52, X52', e52, W52, st52⟩ := stI X47 hx hZ e47 Arq51 (j := (1 : Int32)) (inb_of cSq51 ⟨by decide, by decide⟩) (g := (mkF m 38 #[.val (.ref a1), .val (.int (2 : Int32)), .val (.int (1 : Int32))] [(.int (1 : Int32)), (.int (1 : Int32)), (.ref b12)])) rfl rfl (hb hby d1_38)
  obtain ⟨lc52, X52, N52⟩ : ∃ lc, Stand p l e ({ frames := 1, cells := 2, slots := 4, locals := 12 } : Room) s m #[(.ref a1), (.int (2 : Int32))] below meth c T52 lc 2 4 ∧ Fr n0 lc := ⟨_, X52', Fr.snoc X52' N43 (Nat.le_trans Z0 (Nat.le_trans (((Keep.refl h0 [a1]).ext E5).wr W9 (Or.inl (List.mem_of_getElem? (i := 0) rfl))).1 (Nat.le_of_eq g12.symm)))⟩
  have V52 : Arv Z h52 b12 k12 .int (2 : Int32) [(.int (0 : Int32)), (.int (1 : Int32))] (.int (0 : Int32)) := Arv.set Arq51 ckq51 cSq51 cNq51 cHq51 cGq51 rfl W52 1 rfl (Nat.le_of_ble_eq_true rfl)
  have K53 : Gx p e below s₁ f0 T52 (mkF m 39 #[.val (.ref a1), .val (.int (2 : Int32)), .val (.int (1 : Int32))] []) := fun t kt => K49 t (st52 t kt)
  have K54 : Gx p e below s₁ f0 T52 (mkF m 47 #[.val (.ref a1), .val (.int (2 : Int32)), .val (.int (2 : Int32))] [(.int (2 : Int32)), (.ref a1)]) := fun t kt => K53 t (by
    show Steps p.tables e below (T52.setTop (mkF m 39 #[.val (.ref a1), .val (.int (2 : Int32)), .val (.int (1 : Int32))] [])) _
    refine XS.iinc X52.here hx rfl (hb hby d1_39) rfl (l' := #[.val (.ref a1), .val (.int (2 : Int32)), .val (.int (2 : Int32))]) rfl ?_
    show Steps p.tables e below (T52.setTop (mkF m 42 #[.val (.ref a1), .val (.int (2 : Int32)), .val (.int (2 : Int32))] [])) _
    refine XS.goto X52.here hx rfl (pc0 := 42) (pc' := 20) rfl (hb hby d1_42) (by decide) (by decide) ?_
    show Steps p.tables e below (T52.setTop (mkF m 20 #[.val (.ref a1), .val (.int (2 : Int32)), .val (.int (2 : Int32))] [])) _
    refine XS.iloadN X52.here hx rfl (hb hby d1_20) rfl ?_
    show Steps p.tables e below (T52.setTop (mkF m 21 #[.val (.ref a1), .val (.int (2 : Int32)), .val (.int (2 : Int32))] [(.int (2 : Int32))])) _
    refine XS.iloadN X52.here hx rfl (hb hby d1_21) rfl ?_
    show Steps p.tables e below (T52.setTop (mkF m 22 #[.val (.ref a1), .val (.int (2 : Int32)), .val (.int (2 : Int32))] [(.int (2 : Int32)), (.int (2 : Int32))])) _
    refine XS.icmpYes X52.here hx rfl (pc0 := 22) (pc' := 45) rfl (hb hby d1_22) rfl (flt (by decide)).2.1 (by decide) (by decide) ?_
    show Steps p.tables e below (T52.setTop (mkF m 45 #[.val (.ref a1), .val (.int (2 : Int32)), .val (.int (2 : Int32))] [])) _
    refine XS.aloadN X52.here hx rfl (hb hby d1_45) rfl rfl ?_
    show Steps p.tables e below (T52.setTop (mkF m 46 #[.val (.ref a1), .val (.int (2 : Int32)), .val (.int (2 : Int32))] [(.ref a1)])) _
    refine XS.iloadN X52.here hx rfl (hb hby d1_46) rfl ?_
    exact kt)
  have f55 : Fld Z h52 a1 "com/example/tideshift/tideshift/engine/MovingShards" "stillCount" "I" (.int (0 : Int32)) := ((((((((pr4.ext E5).other W9 (Or.inr (slot_ne (Or.inl (hw _ (List.mem_of_getElem? (i := 15) rfl))) (Or.inr (hw _ (List.mem_of_getElem? (i := 11) rfl))) (by decide) (t := .int) (t' := (.array .int)) (by decide) (by decide)))).ext E12).other W16 (Or.inr (slot_ne (Or.inl (hw _ (List.mem_of_getElem? (i := 15) rfl))) (Or.inr (hw _ (List.mem_of_getElem? (i := 13) rfl))) (by decide) (t := .int) (t' := (.array .int)) (by decide) (by decide)))).other W25 (Or.inl (Nat.ne_of_lt (Nat.lt_of_lt_of_le pr0.lt (Nat.le_of_eq g5.symm))))).other W34 (Or.inl (Nat.ne_of_lt (Nat.lt_of_lt_of_le f9_.lt (Nat.le_of_eq g12.symm))))).other W43 (Or.inl (Nat.ne_of_lt (Nat.lt_of_lt_of_le pr0.lt (Nat.le_of_eq g5.symm))))).other W52 (Or.inl (Nat.ne_of_lt (Nat.lt_of_lt_of_le f9_.lt (Nat.le_of_eq g12.symm)))))
  have f56 : Exa Z h52 a1 "com/example/tideshift/tideshift/engine/MovingShards" := (((((f15.wr W16).wr W25).wr W34).wr W43).wr W52)
  obtain ⟨T57, h57, X57', e57, W57, st57⟩ := putF X52 hx hZ hown (host := "") (Or.inl (hw _ (List.mem_of_getElem? (i := 14) rfl))) Via.refl e52 f55 f56 (Or.inl (hw _ (List.mem_of_getElem? (i := 15) rfl))) (hw _ (List.mem_of_getElem? (i := 1) rfl)) (ty := .int) (by decide) rfl rfl (g := (mkF m 47 #[.val (.ref a1), .val (.int (2 : Int32)), .val (.int (2 : Int32))] [(.int (2 : Int32)), (.ref a1)])) rfl rfl (hb hby d1_47)
  obtain ⟨lc57, X57, N57⟩ : ∃ lc, Stand p l e ({ frames := 1, cells := 2, slots := 4, locals := 12 } : Room) s m #[(.ref a1), (.int (2 : Int32))] below meth c T57 lc 2 4 ∧ Fr n0 lc := ⟨_, X57', Fr.snoc X57' N52 pr1⟩
  have f57_ : Fld Z h57 a1 "com/example/tideshift/tideshift/engine/MovingShards" "stillCount" "I" (.int (2 : Int32)) := f55.same W57
  have K58 : Gx p e below s₁ f0 T57 (mkF m 50 #[.val (.ref a1), .val (.int (2 : Int32)), .val (.int (2 : Int32))] []) := fun t kt => K54 t (st57 t kt)
  have f60 : Fld Z h57 a1 "com/example/tideshift/tideshift/engine/MovingShards" "still" "[I" (.ref b5) := (((f37.other W43 (Or.inl (Nat.ne_of_lt (Nat.lt_of_lt_of_le pr0.lt (Nat.le_of_eq g5.symm))))).other W52 (Or.inl (Nat.ne_of_lt (Nat.lt_of_lt_of_le f9_.lt (Nat.le_of_eq g12.symm))))).other W57 (Or.inr (slot_ne (Or.inr (hw _ (List.mem_of_getElem? (i := 11) rfl))) (Or.inl (hw _ (List.mem_of_getElem? (i := 15) rfl))) (by decide) (t := (.array .int)) (t' := .int) (by decide) (by decide))))
  have f61 : Fld Z h57 a1 "com/example/tideshift/tideshift/engine/MovingShards" "placeOf" "[I" (.ref b12) := ((f46.other W52 (Or.inl (Nat.ne_of_lt (Nat.lt_of_lt_of_le f9_.lt (Nat.le_of_eq g12.symm))))).other W57 (Or.inr (slot_ne (Or.inr (hw _ (List.mem_of_getElem? (i := 13) rfl))) (Or.inl (hw _ (List.mem_of_getElem? (i := 15) rfl))) (by decide) (t := (.array .int)) (t' := .int) (by decide) (by decide))))
  have f62 : Arv Z h57 b5 k5 .int (2 : Int32) [(.int (0 : Int32)), (.int (1 : Int32))] (.int (0 : Int32)) := ((V43.other W52 (Nat.ne_of_lt (Nat.lt_of_lt_of_le (V5.other W9 (Ne.symm (Nat.ne_of_lt (Nat.lt_of_lt_of_le pr0.lt (Nat.le_of_eq g5.symm))))).lt (Nat.le_of_eq g12.symm)))).other W57 (Ne.symm (Nat.ne_of_lt (Nat.lt_of_lt_of_le pr0.lt (Nat.le_of_eq g5.symm)))))
  have f63 : Arv Z h57 b12 k12 .int (2 : Int32) [(.int (0 : Int32)), (.int (1 : Int32))] (.int (0 : Int32)) := (V52.other W57 (Ne.symm (Nat.ne_of_lt (Nat.lt_of_lt_of_le f9_.lt (Nat.le_of_eq g12.symm)))))
  have kp64 : Keep h0 h57 [a1] := ((((((((((Keep.refl h0 [a1]).ext E5).wr W9 (Or.inl (List.mem_of_getElem? (i := 0) rfl))).ext E12).wr W16 (Or.inl (List.mem_of_getElem? (i := 0) rfl))).wr W25 (Or.inr (Nat.le_trans (Keep.refl h0 [a1]).1 (Nat.le_of_eq g5.symm)))).wr W34 (Or.inr (Nat.le_trans (((Keep.refl h0 [a1]).ext E5).wr W9 (Or.inl (List.mem_of_getElem? (i := 0) rfl))).1 (Nat.le_of_eq g12.symm)))).wr W43 (Or.inr (Nat.le_trans (Keep.refl h0 [a1]).1 (Nat.le_of_eq g5.symm)))).wr W52 (Or.inr (Nat.le_trans (((Keep.refl h0 [a1]).ext E5).wr W9 (Or.inl (List.mem_of_getElem? (i := 0) rfl))).1 (Nat.le_of_eq g12.symm)))).wr W57 (Or.inl (List.mem_of_getElem? (i := 0) rfl)))
  have f65 : Exa Z h57 a1 "com/example/tideshift/tideshift/engine/MovingShards" := (f56.wr W57)
  obtain ⟨fs59, hr59, hrun59, hended59, hW59, hsame59⟩ := X57.leave (v := none) (fun _ => rfl)
  refine ⟨_, _, pre0 _ (K58 _ ?_), hrun59, hended59, _, _, rfl, ?_, ⟨_, rfl⟩, hW59, hsame59.mono (by decide) (by decide)⟩
  · exact X57.returnOut hx Bd.returns (hb hby d1_50) hr59
  · show QIni2 Z a1 h0 n0 _ T57.heap _
    rw [e57]
    exact ⟨b5, b12, k5, k12, rfl, N57, kp64, f65, f60, f61, f57_, (Nat.le_trans (Keep.refl h0 [a1]).1 (Nat.le_of_eq g5.symm)), (Nat.le_trans (((Keep.refl h0 [a1]).ext E5).wr W9 (Or.inl (List.mem_of_getElem? (i := 0) rfl))).1 (Nat.le_of_eq g12.symm)), (Nat.ne_of_lt (Nat.lt_of_lt_of_le (V5.other W9 (Ne.symm (Nat.ne_of_lt (Nat.lt_of_lt_of_le pr0.lt (Nat.le_of_eq g5.symm))))).lt (Nat.le_of_eq g12.symm))), f62, f63⟩
theorem ef_Ini3 (m : MethodId) (a1 : Addr) : entryFrame m #[(.ref a1), (.int (3 : Int32))] 3 = mkF m 0 #[.val (.ref a1), .val (.int (3 : Int32)), .unset] [] := by first | (simp [entryFrame, mkF, argsToLocals, Value.category]; done) | rfl
def QIni3 (Z : State) (a1 : Addr) (h0 : Heap) (n0 : Nat) (v : Option Value) (h : Heap) (L : List Loc) : Prop := ∃ bS : Addr, ∃ bP : Addr, ∃ kS : ClassId, ∃ kP : ClassId, v = none ∧ Fr n0 L ∧ Keep h0 h [a1] ∧ Exa Z h a1 "com/example/tideshift/tideshift/engine/MovingShards" ∧ Fld Z h a1 "com/example/tideshift/tideshift/engine/MovingShards" "still" "[I" (.ref bS) ∧ Fld Z h a1 "com/example/tideshift/tideshift/engine/MovingShards" "placeOf" "[I" (.ref bP) ∧ Fld Z h a1 "com/example/tideshift/tideshift/engine/MovingShards" "stillCount" "I" (.int (Int32.ofNat 3)) ∧ h0.size ≤ bS ∧ h0.size ≤ bP ∧ bS ≠ bP ∧ Arv Z h bS kS .int (Int32.ofNat 3) (lst (List.range 3)) (.int (0 : Int32)) ∧ Arv Z h bP kP .int (Int32.ofNat 3) (lst (List.range 3)) (.int (0 : Int32))
set_option maxRecDepth 65536 in
set_option maxHeartbeats 40000000 in
theorem rmIni3 (l : Launch) (Z : State) (a0 : Array Value) (hw : ∀ d ∈ tables_1, d.before a0 Z = true) (ws : List Jvm.Cond) (a1 : Addr) (h0 : Heap) (n0 : Nat) (Z0 : n0 ≤ h0.size) (pr0 : Exa Z h0 a1 "com/example/tideshift/tideshift/engine/MovingShards") (pr1 : n0 ≤ a1) (pr2 : Fld Z h0 a1 "com/example/tideshift/tideshift/engine/MovingShards" "still" "[I" .null) (pr3 : Fld Z h0 a1 "com/example/tideshift/tideshift/engine/MovingShards" "placeOf" "[I" .null) (pr4 : Fld Z h0 a1 "com/example/tideshift/tideshift/engine/MovingShards" "stillCount" "I" (.int (0 : Int32))) :
    MetFree l (⟨"com/example/tideshift/tideshift/engine/MovingShards", "<init>", "(I)V"⟩ : MethodName) (head1 (Jvm.Cond.code (⟨"com/example/tideshift/tideshift/engine/MovingShards", "<init>", "(I)V"⟩ : MethodName) prog_56_method_1_code 3 none :: ws) ({ frames := 1, cells := 2, slots := 6, locals := 12 } : Room)) (fun a U => a = #[(.ref a1), (.int (3 : Int32))] ∧ Z.Warmed39 U.vm ∧ U.heap = h0) (fun _ _ _ _ _ => True) (fun _ U o U' => ∃ v L, o = .returned v ∧ QIni3 Z a1 h0 n0 v U'.heap L ∧ FrameEnd U o U' L ({ frames := 1, cells := 2, slots := 6, locals := 12 } : Room).cells ({ frames := 1, cells := 2, slots := 6, locals := 12 } : Room).slots) := by
  refine MetFree.of_bodySF (plainFor_of_name pn_1) hisR ?_
  intro p e s m args below meth c s₁ Bd hml0 hP hK
  obtain ⟨rfl, hZ, hh⟩ := hP
  have hx := Bd.exec
  have hby := Bd.bytes
  have hml : c.maxLocals = 3 := hml0
  have hown : s.vm.findClass "com/example/tideshift/tideshift/engine/MovingShards" = some m.cls := findClass_of_methodNamed Bd.named
  have hnm := (name_of_methodNamed Bd.named Bd.method).1
  have X0 : Stand p l e ({ frames := 1, cells := 2, slots := 6, locals := 12 } : Room) s m #[(.ref a1), (.int (3 : Int32))] below meth c s₁ [] 0 0 := Stand.of_body Bd
  have hs0 : h0 = s.heap := hh.symm
  have e0 : s₁.heap = h0 := by rw [← hh, Bd.state]; rfl
  have N0 := Fr.nil n0
  obtain ⟨f0, hf0⟩ : ∃ f, f = entryFrame m #[(.ref a1), (.int (3 : Int32))] 3 := ⟨_, rfl⟩
  have pre0 : ∀ t, Steps p.tables e below (s₁.setTop f0) t → Steps p.tables e below (s₁.setTop (entryFrame m #[(.ref a1), (.int (3 : Int32))] 3)) t := fun t k => hf0 ▸ k
  have K0 : Gx p e below s₁ f0 s₁ (mkF m 0 #[.val (.ref a1), .val (.int (3 : Int32)), .unset] []) := fun t kt => by rw [hf0]; exact castTop (ef_Ini3 m a1) kt
  have K1 : Gx p e below s₁ f0 s₁ (mkF m 1 #[.val (.ref a1), .val (.int (3 : Int32)), .unset] [(.ref a1)]) := fun t kt => K0 t (by
    show Steps p.tables e below (s₁.setTop (mkF m 0 #[.val (.ref a1), .val (.int (3 : Int32)), .unset] [])) _
    refine XS.aloadN X0.here hx rfl (hb hby d1_0) rfl rfl ?_
    exact kt)
  obtain ⟨T2, X2, e2, st2⟩ := initO X0 hx hZ hown (hw _ (List.mem_of_getElem? (i := 6) rfl)) (hw _ (List.mem_of_getElem? (i := 7) rfl)) (hw _ (List.mem_of_getElem? (i := 8) rfl)) e0 (g := (mkF m 1 #[.val (.ref a1), .val (.int (3 : Int32)), .unset] [(.ref a1)])) rfl (by rw [hml]; rfl) rfl (hb hby d1_1) (by decide) (W := 0) (by show 2 * 0 + _ ≤ _; exact Nat.le_of_eq rfl) (by decide)
  have K3 : Gx p e below s₁ f0 T2 (mkF m 4 #[.val (.ref a1), .val (.int (3 : Int32)), .unset] []) := fun t kt => K1 t (st2 t kt)
  have K4 : Gx p e below s₁ f0 T2 (mkF m 6 #[.val (.ref a1), .val (.int (3 : Int32)), .unset] [(.int (3 : Int32)), (.ref a1)]) := fun t kt => K3 t (by
    show Steps p.tables e below (T2.setTop (mkF m 4 #[.val (.ref a1), .val (.int (3 : Int32)), .unset] [])) _
    refine XS.aloadN X2.here hx rfl (hb hby d1_4) rfl rfl ?_
    show Steps p.tables e below (T2.setTop (mkF m 5 #[.val (.ref a1), .val (.int (3 : Int32)), .unset] [(.ref a1)])) _
    refine XS.iloadN X2.here hx rfl (hb hby d1_5) rfl ?_
    exact kt)
  obtain ⟨T5, h5, k5, X5, e5, E5, A5, st5⟩ := newP X2 hx hZ (hw _ (List.mem_of_getElem? (i := 9) rfl)) e2 (g := (mkF m 6 #[.val (.ref a1), .val (.int (3 : Int32)), .unset] [(.int (3 : Int32)), (.ref a1)])) rfl (hb hby d1_6) rfl (by decide) (cap := 3) (by decide) (by decide) (by decide) (by decide)
  obtain ⟨b5, g5⟩ : ∃ z, z = h0.size := ⟨_, rfl⟩
  rw [← g5] at A5 st5
  have V5 : Arv Z h5 b5 k5 .int (3 : Int32) [(.int (0 : Int32)), (.int (0 : Int32)), (.int (0 : Int32))] (.int (0 : Int32)) := (Arv.new A5 (by decide)).pad (pad_rep [] (.int (0 : Int32)) 3)
  have K6 : Gx p e below s₁ f0 T5 (mkF m 8 #[.val (.ref a1), .val (.int (3 : Int32)), .unset] [(.ref b5), (.ref a1)]) := fun t kt => K4 t (st5 t kt)
  have f7 : Fld Z h5 a1 "com/example/tideshift/tideshift/engine/MovingShards" "still" "[I" .null := (pr2.ext E5)
  have f8 : Exa Z h5 a1 "com/example/tideshift/tideshift/engine/MovingShards" := (pr0.ext E5)
  obtain ⟨T9, h9, X9', e9, W9, st9⟩ := putF X5 hx hZ hown (host := "") (Or.inl (hw _ (List.mem_of_getElem? (i := 10) rfl))) Via.refl e5 f7 f8 (Or.inr ⟨(hw _ (List.mem_of_getElem? (i := 11) rfl)), rfl, hnm⟩) (hw _ (List.mem_of_getElem? (i := 1) rfl)) (ty := (.array .int)) (by decide) rfl rfl (g := (mkF m 8 #[.val (.ref a1), .val (.int (3 : Int32)), .unset] [(.ref b5), (.ref a1)])) rfl rfl (hb hby d1_8)
  obtain ⟨lc9, X9, N9⟩ : ∃ lc, Stand p l e ({ frames := 1, cells := 2, slots := 6, locals := 12 } : Room) s m #[(.ref a1), (.int (3 : Int32))] below meth c T9 lc 1 3 ∧ Fr n0 lc := ⟨_, X9', Fr.snoc X9' N0 pr1⟩
  have f9_ : Fld Z h9 a1 "com/example/tideshift/tideshift/engine/MovingShards" "still" "[I" (.ref b5) := f7.same W9
  have K10 : Gx p e below s₁ f0 T9 (mkF m 11 #[.val (.ref a1), .val (.int (3 : Int32)), .unset] []) := fun t kt => K6 t (st9 t kt)
  have K11 : Gx p e below s₁ f0 T9 (mkF m 13 #[.val (.ref a1), .val (.int (3 : Int32)), .unset] [(.int (3 : Int32)), (.ref a1)]) := fun t kt => K10 t (by
    show Steps p.tables e below (T9.setTop (mkF m 11 #[.val (.ref a1), .val (.int (3 : Int32)), .unset] [])) _
    refine XS.aloadN X9.here hx rfl (hb hby d1_11) rfl rfl ?_
    show Steps p.tables e below (T9.setTop (mkF m 12 #[.val (.ref a1), .val (.int (3 : Int32)), .unset] [(.ref a1)])) _
    refine XS.iloadN X9.here hx rfl (hb hby d1_12) rfl ?_
    exact kt)
  obtain ⟨T12, h12, k12, X12, e12, E12, A12, st12⟩ := newP X9 hx hZ (hw _ (List.mem_of_getElem? (i := 9) rfl)) e9 (g := (mkF m 13 #[.val (.ref a1), .val (.int (3 : Int32)), .unset] [(.int (3 : Int32)), (.ref a1)])) rfl (hb hby d1_13) rfl (by decide) (cap := 3) (by decide) (by decide) (by decide) (by decide)
  obtain ⟨b12, g12⟩ : ∃ z, z = h9.size := ⟨_, rfl⟩
  rw [← g12] at A12 st12
  have V12 : Arv Z h12 b12 k12 .int (3 : Int32) [(.int (0 : Int32)), (.int (0 : Int32)), (.int (0 : Int32))] (.int (0 : Int32)) := (Arv.new A12 (by decide)).pad (pad_rep [] (.int (0 : Int32)) 3)
  have K13 : Gx p e below s₁ f0 T12 (mkF m 15 #[.val (.ref a1), .val (.int (3 : Int32)), .unset] [(.ref b12), (.ref a1)]) := fun t kt => K11 t (st12 t kt)
  have f14 : Fld Z h12 a1 "com/example/tideshift/tideshift/engine/MovingShards" "placeOf" "[I" .null := (((pr3.ext E5).other W9 (Or.inr (slot_ne (Or.inr (hw _ (List.mem_of_getElem? (i := 13) rfl))) (Or.inr (hw _ (List.mem_of_getElem? (i := 11) rfl))) (by decide) (t := (.array .int)) (t' := (.array .int)) (by decide) (by decide)))).ext E12)
  have f15 : Exa Z h12 a1 "com/example/tideshift/tideshift/engine/MovingShards" := ((f8.wr W9).ext E12)
  obtain ⟨T16, h16, X16', e16, W16, st16⟩ := putF X12 hx hZ hown (host := "") (Or.inl (hw _ (List.mem_of_getElem? (i := 12) rfl))) Via.refl e12 f14 f15 (Or.inr ⟨(hw _ (List.mem_of_getElem? (i := 13) rfl)), rfl, hnm⟩) (hw _ (List.mem_of_getElem? (i := 1) rfl)) (ty := (.array .int)) (by decide) rfl rfl (g := (mkF m 15 #[.val (.ref a1), .val (.int (3 : Int32)), .unset] [(.ref b12), (.ref a1)])) rfl rfl (hb hby d1_15)
  obtain ⟨lc16, X16, N16⟩ : ∃ lc, Stand p l e ({ frames := 1, cells := 2, slots := 6, locals := 12 } : Room) s m #[(.ref a1), (.int (3 : Int32))] below meth c T16 lc 2 6 ∧ Fr n0 lc := ⟨_, X16', Fr.snoc X16' N9 pr1⟩
  have f16_ : Fld Z h16 a1 "com/example/tideshift/tideshift/engine/MovingShards" "placeOf" "[I" (.ref b12) := f14.same W16
  have K17 : Gx p e below s₁ f0 T16 (mkF m 18 #[.val (.ref a1), .val (.int (3 : Int32)), .unset] []) := fun t kt => K13 t (st16 t kt)
  have K18 : Gx p e below s₁ f0 T16 (mkF m 26 #[.val (.ref a1), .val (.int (3 : Int32)), .val (.int (0 : Int32))] [(.ref a1)]) := fun t kt => K17 t (by
    show Steps p.tables e below (T16.setTop (mkF m 18 #[.val (.ref a1), .val (.int (3 : Int32)), .unset] [])) _
    refine XS.iconst X16.here hx rfl (hb hby d1_18) ?_
    show Steps p.tables e below (T16.setTop (mkF m 19 #[.val (.ref a1), .val (.int (3 : Int32)), .unset] [(.int (0 : Int32))])) _
    refine XS.istoreN X16.here hx rfl (hb hby d1_19) rfl (l' := #[.val (.ref a1), .val (.int (3 : Int32)), .val (.int (0 : Int32))]) rfl ?_
    show Steps p.tables e below (T16.setTop (mkF m 20 #[.val (.ref a1), .val (.int (3 : Int32)), .val (.int (0 : Int32))] [])) _
    refine XS.iloadN X16.here hx rfl (hb hby d1_20) rfl ?_
    show Steps p.tables e below (T16.setTop (mkF m 21 #[.val (.ref a1), .val (.int (3 : Int32)), .val (.int (0 : Int32))] [(.int (0 : Int32))])) _
    refine XS.iloadN X16.here hx rfl (hb hby d1_21) rfl ?_
    show Steps p.tables e below (T16.setTop (mkF m 22 #[.val (.ref a1), .val (.int (3 : Int32)), .val (.int (0 : Int32))] [(.int (3 : Int32)), (.int (0 : Int32))])) _
    refine XS.icmpNo X16.here hx rfl (hb hby d1_22) rfl (tlt (by decide)).2.1 ?_
    show Steps p.tables e below (T16.setTop (mkF m 25 #[.val (.ref a1), .val (.int (3 : Int32)), .val (.int (0 : Int32))] [])) _
    refine XS.aloadN X16.here hx rfl (hb hby d1_25) rfl rfl ?_
    exact kt)
  have f19 : Fld Z h16 a1 "com/example/tideshift/tideshift/engine/MovingShards" "still" "[I" (.ref b5) := ((f9_.ext E12).other W16 (Or.inr (slot_ne (Or.inr (hw _ (List.mem_of_getElem? (i := 11) rfl))) (Or.inr (hw _ (List.mem_of_getElem? (i := 13) rfl))) (by decide) (t := (.array .int)) (t' := (.array .int)) (by decide) (by decide))))
  obtain ⟨T20, X20, e20, st20⟩ := getF X16 hx hZ hown (host := "") (Or.inl (hw _ (List.mem_of_getElem? (i := 10) rfl))) Via.refl e16 f19 (g := (mkF m 26 #[.val (.ref a1), .val (.int (3 : Int32)), .val (.int (0 : Int32))] [(.ref a1)])) rfl rfl (hb hby d1_26)
  have K21 : Gx p e below s₁ f0 T20 (mkF m 29 #[.val (.ref a1), .val (.int (3 : Int32)), .val (.int (0 : Int32))] [(.ref b5)]) := fun t kt => K18 t (st20 t kt)
  have K22 : Gx p e below s₁ f0 T20 (mkF m 31 #[.val (.ref a1), .val (.int (3 : Int32)), .val (.int (0 : Int32))] [(.int (0 : Int32)), (.int (0 : Int32)), (.ref b5)]) := fun t kt => K21 t (by
    show Steps p.tables e below (T20.setTop (mkF m 29 #[.val (.ref a1), .val (.int (3 : Int32)), .val (.int (0 : Int32))] [(.ref b5)])) _
    refine XS.iloadN X20.here hx rfl (hb hby d1_29) rfl ?_
    show Steps p.tables e below (T20.setTop (mkF m 30 #[.val (.ref a1), .val (.int (3 : Int32)), .val (.int (0 : Int32))] [(.int (0 : Int32)), (.ref b5)])) _
    refine XS.iloadN X20.here hx rfl (hb hby d1_30) rfl ?_
    exact kt)
  have f23 : Arv Z h16 b5 k5 .int (3 : Int32) [(.int (0 : Int32)), (.int (0 : Int32)), (.int (0 : Int32))] (.int (0 : Int32)) := (((V5.other W9 (Ne.symm (Nat.ne_of_lt (Nat.lt_of_lt_of_le pr0.lt (Nat.le_of_eq g5.symm))))).ext E12).other W16 (Ne.symm (Nat.ne_of_lt (Nat.lt_of_lt_of_le pr0.lt (Nat.le_of_eq g5.symm)))))
  obtain ⟨clq24, Arq24, ckq24, cSq24, cNq24, cHq24, cGq24⟩ := id f23
  obtain ⟨T25, h25, X25', e25, W25, st25⟩ := stI X20 hx hZ e20 Arq24 (j := (0 : Int32)) (inb_of cSq24 ⟨by decide, by decide⟩) (g := (mkF m 31 #[.val (.ref a1), .val (.int (3 : Int32)), .val (.int (0 : Int32))] [(.int (0 : Int32)), (.int (0 : Int32)), (.ref b5)])) rfl rfl (hb hby d1_31)
  obtain ⟨lc25, X25, N25⟩ : ∃ lc, Stand p l e ({ frames := 1, cells := 2, slots := 6, locals := 12 } : Room) s m #[(.ref a1), (.int (3 : Int32))] below meth c T25 lc 2 6 ∧ Fr n0 lc := ⟨_, X25', Fr.snoc X25' N16 (Nat.le_trans Z0 (Nat.le_trans (Keep.refl h0 [a1]).1 (Nat.le_of_eq g5.symm)))⟩
  have V25 : Arv Z h25 b5 k5 .int (3 : Int32) [(.int (0 : Int32)), (.int (0 : Int32)), (.int (0 : Int32))] (.int (0 : Int32)) := Arv.set Arq24 ckq24 cSq24 cNq24 cHq24 cGq24 rfl W25 0 rfl (Nat.le_of_ble_eq_true rfl)
  have K26 : Gx p e below s₁ f0 T25 (mkF m 32 #[.val (.ref a1), .val (.int (3 : Int32)), .val (.int (0 : Int32))] []) := fun t kt => K22 t (st25 t kt)
  have K27 : Gx p e below s₁ f0 T25 (mkF m 33 #[.val (.ref a1), .val (.int (3 : Int32)), .val (.int (0 : Int32))] [(.ref a1)]) := fun t kt => K26 t (by
    show Steps p.tables e below (T25.setTop (mkF m 32 #[.val (.ref a1), .val (.int (3 : Int32)), .val (.int (0 : Int32))] [])) _
    refine XS.aloadN X25.here hx rfl (hb hby d1_32) rfl rfl ?_
    exact kt)
  have f28 : Fld Z h25 a1 "com/example/tideshift/tideshift/engine/MovingShards" "placeOf" "[I" (.ref b12) := (f16_.other W25 (Or.inl (Nat.ne_of_lt (Nat.lt_of_lt_of_le pr0.lt (Nat.le_of_eq g5.symm)))))
  obtain ⟨T29, X29, e29, st29⟩ := getF X25 hx hZ hown (host := "") (Or.inl (hw _ (List.mem_of_getElem? (i := 12) rfl))) Via.refl e25 f28 (g := (mkF m 33 #[.val (.ref a1), .val (.int (3 : Int32)), .val (.int (0 : Int32))] [(.ref a1)])) rfl rfl (hb hby d1_33)
  have K30 : Gx p e below s₁ f0 T29 (mkF m 36 #[.val (.ref a1), .val (.int (3 : Int32)), .val (.int (0 : Int32))] [(.ref b12)]) := fun t kt => K27 t (st29 t kt)
  have K31 : Gx p e below s₁ f0 T29 (mkF m 38 #[.val (.ref a1), .val (.int (3 : Int32)), .val (.int (0 : Int32))] [(.int (0 : Int32)), (.int (0 : Int32)), (.ref b12)]) := fun t kt => K30 t (by
    show Steps p.tables e below (T29.setTop (mkF m 36 #[.val (.ref a1), .val (.int (3 : Int32)), .val (.int (0 : Int32))] [(.ref b12)])) _
    refine XS.iloadN X29.here hx rfl (hb hby d1_36) rfl ?_
    show Steps p.tables e below (T29.setTop (mkF m 37 #[.val (.ref a1), .val (.int (3 : Int32)), .val (.int (0 : Int32))] [(.int (0 : Int32)), (.ref b12)])) _
    refine XS.iloadN X29.here hx rfl (hb hby d1_37) rfl ?_
    exact kt)
  have f32 : Arv Z h25 b12 k12 .int (3 : Int32) [(.int (0 : Int32)), (.int (0 : Int32)), (.int (0 : Int32))] (.int (0 : Int32)) := ((V12.other W16 (Ne.symm (Nat.ne_of_lt (Nat.lt_of_lt_of_le f9_.lt (Nat.le_of_eq g12.symm))))).other W25 (Ne.symm (Nat.ne_of_lt (Nat.lt_of_lt_of_le (V5.other W9 (Ne.symm (Nat.ne_of_lt (Nat.lt_of_lt_of_le pr0.lt (Nat.le_of_eq g5.symm))))).lt (Nat.le_of_eq g12.symm)))))
  obtain ⟨clq33, Arq33, ckq33, cSq33, cNq33, cHq33, cGq33⟩ := id f32
  obtain ⟨T34, h34, X34', e34, W34, st34⟩ := stI X29 hx hZ e29 Arq33 (j := (0 : Int32)) (inb_of cSq33 ⟨by decide, by decide⟩) (g := (mkF m 38 #[.val (.ref a1), .val (.int (3 : Int32)), .val (.int (0 : Int32))] [(.int (0 : Int32)), (.int (0 : Int32)), (.ref b12)])) rfl rfl (hb hby d1_38)
  obtain ⟨lc34, X34, N34⟩ : ∃ lc, Stand p l e ({ frames := 1, cells := 2, slots := 6, locals := 12 } : Room) s m #[(.ref a1), (.int (3 : Int32))] below meth c T34 lc 2 6 ∧ Fr n0 lc := ⟨_, X34', Fr.snoc X34' N25 (Nat.le_trans Z0 (Nat.le_trans (((Keep.refl h0 [a1]).ext E5).wr W9 (Or.inl (List.mem_of_getElem? (i := 0) rfl))).1 (Nat.le_of_eq g12.symm)))⟩
  have V34 : Arv Z h34 b12 k12 .int (3 : Int32) [(.int (0 : Int32)), (.int (0 : Int32)), (.int (0 : Int32))] (.int (0 : Int32)) := Arv.set Arq33 ckq33 cSq33 cNq33 cHq33 cGq33 rfl W34 0 rfl (Nat.le_of_ble_eq_true rfl)
  have K35 : Gx p e below s₁ f0 T34 (mkF m 39 #[.val (.ref a1), .val (.int (3 : Int32)), .val (.int (0 : Int32))] []) := fun t kt => K31 t (st34 t kt)
  have K36 : Gx p e below s₁ f0 T34 (mkF m 26 #[.val (.ref a1), .val (.int (3 : Int32)), .val (.int (1 : Int32))] [(.ref a1)]) := fun t kt => K35 t (by
    show Steps p.tables e below (T34.setTop (mkF m 39 #[.val (.ref a1), .val (.int (3 : Int32)), .val (.int (0 : Int32))] [])) _
    refine XS.iinc X34.here hx rfl (hb hby d1_39) rfl (l' := #[.val (.ref a1), .val (.int (3 : Int32)), .val (.int (1 : Int32))]) rfl ?_
    show Steps p.tables e below (T34.setTop (mkF m 42 #[.val (.ref a1), .val (.int (3 : Int32)), .val (.int (1 : Int32))] [])) _
    refine XS.goto X34.here hx rfl (pc0 := 42) (pc' := 20) rfl (hb hby d1_42) (by decide) (by decide) ?_
    show Steps p.tables e below (T34.setTop (mkF m 20 #[.val (.ref a1), .val (.int (3 : Int32)), .val (.int (1 : Int32))] [])) _
    refine XS.iloadN X34.here hx rfl (hb hby d1_20) rfl ?_
    show Steps p.tables e below (T34.setTop (mkF m 21 #[.val (.ref a1), .val (.int (3 : Int32)), .val (.int (1 : Int32))] [(.int (1 : Int32))])) _
    refine XS.iloadN X34.here hx rfl (hb hby d1_21) rfl ?_
    show Steps p.tables e below (T34.setTop (mkF m 22 #[.val (.ref a1), .val (.int (3 : Int32)), .val (.int (1 : Int32))] [(.int (3 : Int32)), (.int (1 : Int32))])) _
    refine XS.icmpNo X34.here hx rfl (hb hby d1_22) rfl (tlt (by decide)).2.1 ?_
    show Steps p.tables e below (T34.setTop (mkF m 25 #[.val (.ref a1), .val (.int (3 : Int32)), .val (.int (1 : Int32))] [])) _
    refine XS.aloadN X34.here hx rfl (hb hby d1_25) rfl rfl ?_
    exact kt)
  have f37 : Fld Z h34 a1 "com/example/tideshift/tideshift/engine/MovingShards" "still" "[I" (.ref b5) := ((f19.other W25 (Or.inl (Nat.ne_of_lt (Nat.lt_of_lt_of_le pr0.lt (Nat.le_of_eq g5.symm))))).other W34 (Or.inl (Nat.ne_of_lt (Nat.lt_of_lt_of_le f9_.lt (Nat.le_of_eq g12.symm)))))
  obtain ⟨T38, X38, e38, st38⟩ := getF X34 hx hZ hown (host := "") (Or.inl (hw _ (List.mem_of_getElem? (i := 10) rfl))) Via.refl e34 f37 (g := (mkF m 26 #[.val (.ref a1), .val (.int (3 : Int32)), .val (.int (1 : Int32))] [(.ref a1)])) rfl rfl (hb hby d1_26)
  have K39 : Gx p e below s₁ f0 T38 (mkF m 29 #[.val (.ref a1), .val (.int (3 : Int32)), .val (.int (1 : Int32))] [(.ref b5)]) := fun t kt => K36 t (st38 t kt)
  have K40 : Gx p e below s₁ f0 T38 (mkF m 31 #[.val (.ref a1), .val (.int (3 : Int32)), .val (.int (1 : Int32))] [(.int (1 : Int32)), (.int (1 : Int32)), (.ref b5)]) := fun t kt => K39 t (by
    show Steps p.tables e below (T38.setTop (mkF m 29 #[.val (.ref a1), .val (.int (3 : Int32)), .val (.int (1 : Int32))] [(.ref b5)])) _
    refine XS.iloadN X38.here hx rfl (hb hby d1_29) rfl ?_
    show Steps p.tables e below (T38.setTop (mkF m 30 #[.val (.ref a1), .val (.int (3 : Int32)), .val (.int (1 : Int32))] [(.int (1 : Int32)), (.ref b5)])) _
    refine XS.iloadN X38.here hx rfl (hb hby d1_30) rfl ?_
    exact kt)
  have f41 : Arv Z h34 b5 k5 .int (3 : Int32) [(.int (0 : Int32)), (.int (0 : Int32)), (.int (0 : Int32))] (.int (0 : Int32)) := (V25.other W34 (Nat.ne_of_lt (Nat.lt_of_lt_of_le (V5.other W9 (Ne.symm (Nat.ne_of_lt (Nat.lt_of_lt_of_le pr0.lt (Nat.le_of_eq g5.symm))))).lt (Nat.le_of_eq g12.symm))))
  obtain ⟨clq42, Arq42, ckq42, cSq42, cNq42, cHq42, cGq42⟩ := id f41
  obtain ⟨T43, h43, X43', e43, W43, st43⟩ := stI X38 hx hZ e38 Arq42 (j := (1 : Int32)) (inb_of cSq42 ⟨by decide, by decide⟩) (g := (mkF m 31 #[.val (.ref a1), .val (.int (3 : Int32)), .val (.int (1 : Int32))] [(.int (1 : Int32)), (.int (1 : Int32)), (.ref b5)])) rfl rfl (hb hby d1_31)
  obtain ⟨lc43, X43, N43⟩ : ∃ lc, Stand p l e ({ frames := 1, cells := 2, slots := 6, locals := 12 } : Room) s m #[(.ref a1), (.int (3 : Int32))] below meth c T43 lc 2 6 ∧ Fr n0 lc := ⟨_, X43', Fr.snoc X43' N34 (Nat.le_trans Z0 (Nat.le_trans (Keep.refl h0 [a1]).1 (Nat.le_of_eq g5.symm)))⟩
  have V43 : Arv Z h43 b5 k5 .int (3 : Int32) [(.int (0 : Int32)), (.int (1 : Int32)), (.int (0 : Int32))] (.int (0 : Int32)) := Arv.set Arq42 ckq42 cSq42 cNq42 cHq42 cGq42 rfl W43 1 rfl (Nat.le_of_ble_eq_true rfl)
  have K44 : Gx p e below s₁ f0 T43 (mkF m 32 #[.val (.ref a1), .val (.int (3 : Int32)), .val (.int (1 : Int32))] []) := fun t kt => K40 t (st43 t kt)
  have K45 : Gx p e below s₁ f0 T43 (mkF m 33 #[.val (.ref a1), .val (.int (3 : Int32)), .val (.int (1 : Int32))] [(.ref a1)]) := fun t kt => K44 t (by
    show Steps p.tables e below (T43.setTop (mkF m 32 #[.val (.ref a1), .val (.int (3 : Int32)), .val (.int (1 : Int32))] [])) _
    refine XS.aloadN X43.here hx rfl (hb hby d1_32) rfl rfl ?_
    exact kt)
  have f46 : Fld Z h43 a1 "com/example/tideshift/tideshift/engine/MovingShards" "placeOf" "[I" (.ref b12) := ((f28.other W34 (Or.inl (Nat.ne_of_lt (Nat.lt_of_lt_of_le f9_.lt (Nat.le_of_eq g12.symm))))).other W43 (Or.inl (Nat.ne_of_lt (Nat.lt_of_lt_of_le pr0.lt (Nat.le_of_eq g5.symm)))))
  obtain ⟨T47, X47, e47, st47⟩ := getF X43 hx hZ hown (host := "") (Or.inl (hw _ (List.mem_of_getElem? (i := 12) rfl))) Via.refl e43 f46 (g := (mkF m 33 #[.val (.ref a1), .val (.int (3 : Int32)), .val (.int (1 : Int32))] [(.ref a1)])) rfl rfl (hb hby d1_33)
  have K48 : Gx p e below s₁ f0 T47 (mkF m 36 #[.val (.ref a1), .val (.int (3 : Int32)), .val (.int (1 : Int32))] [(.ref b12)]) := fun t kt => K45 t (st47 t kt)
  have K49 : Gx p e below s₁ f0 T47 (mkF m 38 #[.val (.ref a1), .val (.int (3 : Int32)), .val (.int (1 : Int32))] [(.int (1 : Int32)), (.int (1 : Int32)), (.ref b12)]) := fun t kt => K48 t (by
    show Steps p.tables e below (T47.setTop (mkF m 36 #[.val (.ref a1), .val (.int (3 : Int32)), .val (.int (1 : Int32))] [(.ref b12)])) _
    refine XS.iloadN X47.here hx rfl (hb hby d1_36) rfl ?_
    show Steps p.tables e below (T47.setTop (mkF m 37 #[.val (.ref a1), .val (.int (3 : Int32)), .val (.int (1 : Int32))] [(.int (1 : Int32)), (.ref b12)])) _
    refine XS.iloadN X47.here hx rfl (hb hby d1_37) rfl ?_
    exact kt)
  have f50 : Arv Z h43 b12 k12 .int (3 : Int32) [(.int (0 : Int32)), (.int (0 : Int32)), (.int (0 : Int32))] (.int (0 : Int32)) := (V34.other W43 (Ne.symm (Nat.ne_of_lt (Nat.lt_of_lt_of_le (V5.other W9 (Ne.symm (Nat.ne_of_lt (Nat.lt_of_lt_of_le pr0.lt (Nat.le_of_eq g5.symm))))).lt (Nat.le_of_eq g12.symm)))))
  obtain ⟨clq51, Arq51, ckq51, cSq51, cNq51, cHq51, cGq51⟩ := id f50
  obtain ⟨T52, h52, X52', e52, W52, st52⟩ := stI X47 hx hZ e47 Arq51 (j := (1 : Int32)) (inb_of cSq51 ⟨by decide, by decide⟩) (g := (mkF m 38 #[.val (.ref a1), .val (.int (3 : Int32)), .val (.int (1 : Int32))] [(.int (1 : Int32)), (.int (1 : Int32)), (.ref b12)])) rfl rfl (hb hby d1_38)
  obtain ⟨lc52, X52, N52⟩ : ∃ lc, Stand p l e ({ frames := 1, cells := 2, slots := 6, locals := 12 } : Room) s m #[(.ref a1), (.int (3 : Int32))] below meth c T52 lc 2 6 ∧ Fr n0 lc := ⟨_, X52', Fr.snoc X52' N43 (Nat.le_trans Z0 (Nat.le_trans (((Keep.refl h0 [a1]).ext E5).wr W9 (Or.inl (List.mem_of_getElem? (i := 0) rfl))).1 (Nat.le_of_eq g12.symm)))⟩
  have V52 : Arv Z h52 b12 k12 .int (3 : Int32) [(.int (0 : Int32)), (.int (1 : Int32)), (.int (0 : Int32))] (.int (0 : Int32)) := Arv.set Arq51 ckq51 cSq51 cNq51 cHq51 cGq51 rfl W52 1 rfl (Nat.le_of_ble_eq_true rfl)
  have K53 : Gx p e below s₁ f0 T52 (mkF m 39 #[.val (.ref a1), .val (.int (3 : Int32)), .val (.int (1 : Int32))] []) := fun t kt => K49 t (st52 t kt)
  have K54 : Gx p e below s₁ f0 T52 (mkF m 26 #[.val (.ref a1), .val (.int (3 : Int32)), .val (.int (2 : Int32))] [(.ref a1)]) := fun t kt => K53 t (by
    show Steps p.tables e below (T52.setTop (mkF m 39 #[.val (.ref a1), .val (.int (3 : Int32)), .val (.int (1 : Int32))] [])) _
    refine XS.iinc X52.here hx rfl (hb hby d1_39) rfl (l' := #[.val (.ref a1), .val (.int (3 : Int32)), .val (.int (2 : Int32))]) rfl ?_
    show Steps p.tables e below (T52.setTop (mkF m 42 #[.val (.ref a1), .val (.int (3 : Int32)), .val (.int (2 : Int32))] [])) _
    refine XS.goto X52.here hx rfl (pc0 := 42) (pc' := 20) rfl (hb hby d1_42) (by decide) (by decide) ?_
    show Steps p.tables e below (T52.setTop (mkF m 20 #[.val (.ref a1), .val (.int (3 : Int32)), .val (.int (2 : Int32))] [])) _
    refine XS.iloadN X52.here hx rfl (hb hby d1_20) rfl ?_
    show Steps p.tables e below (T52.setTop (mkF m 21 #[.val (.ref a1), .val (.int (3 : Int32)), .val (.int (2 : Int32))] [(.int (2 : Int32))])) _
    refine XS.iloadN X52.here hx rfl (hb hby d1_21) rfl ?_
    show Steps p.tables e below (T52.setTop (mkF m 22 #[.val (.ref a1), .val (.int (3 : Int32)), .val (.int (2 : Int32))] [(.int (3 : Int32)), (.int (2 : Int32))])) _
    refine XS.icmpNo X52.here hx rfl (hb hby d1_22) rfl (tlt (by decide)).2.1 ?_
    show Steps p.tables e below (T52.setTop (mkF m 25 #[.val (.ref a1), .val (.int (3 : Int32)), .val (.int (2 : Int32))] [])) _
    refine XS.aloadN X52.here hx rfl (hb hby d1_25) rfl rfl ?_
    exact kt)
  have f55 : Fld Z h52 a1 "com/example/tideshift/tideshift/engine/MovingShards" "still" "[I" (.ref b5) := ((f37.other W43 (Or.inl (Nat.ne_of_lt (Nat.lt_of_lt_of_le pr0.lt (Nat.le_of_eq g5.symm))))).other W52 (Or.inl (Nat.ne_of_lt (Nat.lt_of_lt_of_le f9_.lt (Nat.le_of_eq g12.symm)))))
  obtain ⟨T56, X56, e56, st56⟩ := getF X52 hx hZ hown (host := "") (Or.inl (hw _ (List.mem_of_getElem? (i := 10) rfl))) Via.refl e52 f55 (g := (mkF m 26 #[.val (.ref a1), .val (.int (3 : Int32)), .val (.int (2 : Int32))] [(.ref a1)])) rfl rfl (hb hby d1_26)
  have K57 : Gx p e below s₁ f0 T56 (mkF m 29 #[.val (.ref a1), .val (.int (3 : Int32)), .val (.int (2 : Int32))] [(.ref b5)]) := fun t kt => K54 t (st56 t kt)
  have K58 : Gx p e below s₁ f0 T56 (mkF m 31 #[.val (.ref a1), .val (.int (3 : Int32)), .val (.int (2 : Int32))] [(.int (2 : Int32)), (.int (2 : Int32)), (.ref b5)]) := fun t kt => K57 t (by
    show Steps p.tables e below (T56.setTop (mkF m 29 #[.val (.ref a1), .val (.int (3 : Int32)), .val (.int (2 : Int32))] [(.ref b5)])) _
    refine XS.iloadN X56.here hx rfl (hb hby d1_29) rfl ?_
    show Steps p.tables e below (T56.setTop (mkF m 30 #[.val (.ref a1), .val (.int (3 : Int32)), .val (.int (2 : Int32))] [(.int (2 : Int32)), (.ref b5)])) _
    refine XS.iloadN X56.here hx rfl (hb hby d1_30) rfl ?_
    exact kt)
  have f59 : Arv Z h52 b5 k5 .int (3 : Int32) [(.int (0 : Int32)), (.int (1 : Int32)), (.int (0 : Int32))] (.int (0 : Int32)) := (V43.other W52 (Nat.ne_of_lt (Nat.lt_of_lt_of_le (V5.other W9 (Ne.symm (Nat.ne_of_lt (Nat.lt_of_lt_of_le pr0.lt (Nat.le_of_eq g5.symm))))).lt (Nat.le_of_eq g12.symm))))
  obtain ⟨clq60, Arq60, ckq60, cSq60, cNq60, cHq60, cGq60⟩ := id f59
  obtain ⟨T61, h61, X61', e61, W61, st61⟩ := stI X56 hx hZ e56 Arq60 (j := (2 : Int32)) (inb_of cSq60 ⟨by decide, by decide⟩) (g := (mkF m 31 #[.val (.ref a1), .val (.int (3 : Int32)), .val (.int (2 : Int32))] [(.int (2 : Int32)), (.int (2 : Int32)), (.ref b5)])) rfl rfl (hb hby d1_31)
  obtain ⟨lc61, X61, N61⟩ : ∃ lc, Stand p l e ({ frames := 1, cells := 2, slots := 6, locals := 12 } : Room) s m #[(.ref a1), (.int (3 : Int32))] below meth c T61 lc 2 6 ∧ Fr n0 lc := ⟨_, X61', Fr.snoc X61' N52 (Nat.le_trans Z0 (Nat.le_trans (Keep.refl h0 [a1]).1 (Nat.le_of_eq g5.symm)))⟩
  have V61 : Arv Z h61 b5 k5 .int (3 : Int32) [(.int (0 : Int32)), (.int (1 : Int32)), (.int (2 : Int32))] (.int (0 : Int32)) := Arv.set Arq60 ckq60 cSq60 cNq60 cHq60 cGq60 rfl W61 2 rfl (Nat.le_of_ble_eq_true rfl)
  have K62 : Gx p e below s₁ f0 T61 (mkF m 32 #[.val (.ref a1), .val (.int (3 : Int32)), .val (.int (2 : Int32))] []) := fun t kt => K58 t (st61 t kt)
  have K63 : Gx p e below s₁ f0 T61 (mkF m 33 #[.val (.ref a1), .val (.int (3 : Int32)), .val (.int (2 : Int32))] [(.ref a1)]) := fun t kt => K62 t (by
    show Steps p.tables e below (T61.setTop (mkF m 32 #[.val (.ref a1), .val (.int (3 : Int32)), .val (.int (2 : Int32))] [])) _
    refine XS.aloadN X61.here hx rfl (hb hby d1_32) rfl rfl ?_
    exact kt)
  have f64 : Fld Z h61 a1 "com/example/tideshift/tideshift/engine/MovingShards" "placeOf" "[I" (.ref b12) := ((f46.other W52 (Or.inl (Nat.ne_of_lt (Nat.lt_of_lt_of_le f9_.lt (Nat.le_of_eq g12.symm))))).other W61 (Or.inl (Nat.ne_of_lt (Nat.lt_of_lt_of_le pr0.lt (Nat.le_of_eq g5.symm)))))
  obtain ⟨T65, X65, e65, st65⟩ := getF X61 hx hZ hown (host := "") (Or.inl (hw _ (List.mem_of_getElem? (i := 12) rfl))) Via.refl e61 f64 (g := (mkF m 33 #[.val (.ref a1), .val (.int (3 : Int32)), .val (.int (2 : Int32))] [(.ref a1)])) rfl rfl (hb hby d1_33)
  have K66 : Gx p e below s₁ f0 T65 (mkF m 36 #[.val (.ref a1), .val (.int (3 : Int32)), .val (.int (2 : Int32))] [(.ref b12)]) := fun t kt => K63 t (st65 t kt)
  have K67 : Gx p e below s₁ f0 T65 (mkF m 38 #[.val (.ref a1), .val (.int (3 : Int32)), .val (.int (2 : Int32))] [(.int (2 : Int32)), (.int (2 : Int32)), (.ref b12)]) := fun t kt => K66 t (by
    show Steps p.tables e below (T65.setTop (mkF m 36 #[.val (.ref a1), .val (.int (3 : Int32)), .val (.int (2 : Int32))] [(.ref b12)])) _
    refine XS.iloadN X65.here hx rfl (hb hby d1_36) rfl ?_
    show Steps p.tables e below (T65.setTop (mkF m 37 #[.val (.ref a1), .val (.int (3 : Int32)), .val (.int (2 : Int32))] [(.int (2 : Int32)), (.ref b12)])) _
    refine XS.iloadN X65.here hx rfl (hb hby d1_37) rfl ?_
    exact kt)
  have f68 : Arv Z h61 b12 k12 .int (3 : Int32) [(.int (0 : Int32)), (.int (1 : Int32)), (.int (0 : Int32))] (.int (0 : Int32)) := (V52.other W61 (Ne.symm (Nat.ne_of_lt (Nat.lt_of_lt_of_le (V5.other W9 (Ne.symm (Nat.ne_of_lt (Nat.lt_of_lt_of_le pr0.lt (Nat.le_of_eq g5.symm))))).lt (Nat.le_of_eq g12.symm)))))
  obtain ⟨clq69, Arq69, ckq69, cSq69, cNq69, cHq69, cGq69⟩ := id f68
  obtain ⟨T70, h70, X70', e70, W70, st70⟩ := stI X65 hx hZ e65 Arq69 (j := (2 : Int32)) (inb_of cSq69 ⟨by decide, by decide⟩) (g := (mkF m 38 #[.val (.ref a1), .val (.int (3 : Int32)), .val (.int (2 : Int32))] [(.int (2 : Int32)), (.int (2 : Int32)), (.ref b12)])) rfl rfl (hb hby d1_38)
  obtain ⟨lc70, X70, N70⟩ : ∃ lc, Stand p l e ({ frames := 1, cells := 2, slots := 6, locals := 12 } : Room) s m #[(.ref a1), (.int (3 : Int32))] below meth c T70 lc 2 6 ∧ Fr n0 lc := ⟨_, X70', Fr.snoc X70' N61 (Nat.le_trans Z0 (Nat.le_trans (((Keep.refl h0 [a1]).ext E5).wr W9 (Or.inl (List.mem_of_getElem? (i := 0) rfl))).1 (Nat.le_of_eq g12.symm)))⟩
  have V70 : Arv Z h70 b12 k12 .int (3 : Int32) [(.int (0 : Int32)), (.int (1 : Int32)), (.int (2 : Int32))] (.int (0 : Int32)) := Arv.set Arq69 ckq69 cSq69 cNq69 cHq69 cGq69 rfl W70 2 rfl (Nat.le_of_ble_eq_true rfl)
  have K71 : Gx p e below s₁ f0 T70 (mkF m 39 #[.val (.ref a1), .val (.int (3 : Int32)), .val (.int (2 : Int32))] []) := fun t kt => K67 t (st70 t kt)
  have K72 : Gx p e below s₁ f0 T70 (mkF m 47 #[.val (.ref a1), .val (.int (3 : Int32)), .val (.int (3 : Int32))] [(.int (3 : Int32)), (.ref a1)]) := fun t kt => K71 t (by
    show Steps p.tables e below (T70.setTop (mkF m 39 #[.val (.ref a1), .val (.int (3 : Int32)), .val (.int (2 : Int32))] [])) _
    refine XS.iinc X70.here hx rfl (hb hby d1_39) rfl (l' := #[.val (.ref a1), .val (.int (3 : Int32)), .val (.int (3 : Int32))]) rfl ?_
    show Steps p.tables e below (T70.setTop (mkF m 42 #[.val (.ref a1), .val (.int (3 : Int32)), .val (.int (3 : Int32))] [])) _
    refine XS.goto X70.here hx rfl (pc0 := 42) (pc' := 20) rfl (hb hby d1_42) (by decide) (by decide) ?_
    show Steps p.tables e below (T70.setTop (mkF m 20 #[.val (.ref a1), .val (.int (3 : Int32)), .val (.int (3 : Int32))] [])) _
    refine XS.iloadN X70.here hx rfl (hb hby d1_20) rfl ?_
    show Steps p.tables e below (T70.setTop (mkF m 21 #[.val (.ref a1), .val (.int (3 : Int32)), .val (.int (3 : Int32))] [(.int (3 : Int32))])) _
    refine XS.iloadN X70.here hx rfl (hb hby d1_21) rfl ?_
    show Steps p.tables e below (T70.setTop (mkF m 22 #[.val (.ref a1), .val (.int (3 : Int32)), .val (.int (3 : Int32))] [(.int (3 : Int32)), (.int (3 : Int32))])) _
    refine XS.icmpYes X70.here hx rfl (pc0 := 22) (pc' := 45) rfl (hb hby d1_22) rfl (flt (by decide)).2.1 (by decide) (by decide) ?_
    show Steps p.tables e below (T70.setTop (mkF m 45 #[.val (.ref a1), .val (.int (3 : Int32)), .val (.int (3 : Int32))] [])) _
    refine XS.aloadN X70.here hx rfl (hb hby d1_45) rfl rfl ?_
    show Steps p.tables e below (T70.setTop (mkF m 46 #[.val (.ref a1), .val (.int (3 : Int32)), .val (.int (3 : Int32))] [(.ref a1)])) _
    refine XS.iloadN X70.here hx rfl (hb hby d1_46) rfl ?_
    exact kt)
  have f73 : Fld Z h70 a1 "com/example/tideshift/tideshift/engine/MovingShards" "stillCount" "I" (.int (0 : Int32)) := ((((((((((pr4.ext E5).other W9 (Or.inr (slot_ne (Or.inl (hw _ (List.mem_of_getElem? (i := 15) rfl))) (Or.inr (hw _ (List.mem_of_getElem? (i := 11) rfl))) (by decide) (t := .int) (t' := (.array .int)) (by decide) (by decide)))).ext E12).other W16 (Or.inr (slot_ne (Or.inl (hw _ (List.mem_of_getElem? (i := 15) rfl))) (Or.inr (hw _ (List.mem_of_getElem? (i := 13) rfl))) (by decide) (t := .int) (t' := (.array .int)) (by decide) (by decide)))).other W25 (Or.inl (Nat.ne_of_lt (Nat.lt_of_lt_of_le pr0.lt (Nat.le_of_eq g5.symm))))).other W34 (Or.inl (Nat.ne_of_lt (Nat.lt_of_lt_of_le f9_.lt (Nat.le_of_eq g12.symm))))).other W43 (Or.inl (Nat.ne_of_lt (Nat.lt_of_lt_of_le pr0.lt (Nat.le_of_eq g5.symm))))).other W52 (Or.inl (Nat.ne_of_lt (Nat.lt_of_lt_of_le f9_.lt (Nat.le_of_eq g12.symm))))).other W61 (Or.inl (Nat.ne_of_lt (Nat.lt_of_lt_of_le pr0.lt (Nat.le_of_eq g5.symm))))).other W70 (Or.inl (Nat.ne_of_lt (Nat.lt_of_lt_of_le f9_.lt (Nat.le_of_eq g12.symm)))))
  have f74 : Exa Z h70 a1 "com/example/tideshift/tideshift/engine/MovingShards" := (((((((f15.wr W16).wr W25).wr W34).wr W43).wr W52).wr W61).wr W70)
  obtain ⟨T75, h75, X75', e75, W75, st75⟩ := putF X70 hx hZ hown (host := "") (Or.inl (hw _ (List.mem_of_getElem? (i := 14) rfl))) Via.refl e70 f73 f74 (Or.inl (hw _ (List.mem_of_getElem? (i := 15) rfl))) (hw _ (List.mem_of_getElem? (i := 1) rfl)) (ty := .int) (by decide) rfl rfl (g := (mkF m 47 #[.val (.ref a1), .val (.int (3 : Int32)), .val (.int (3 : Int32))] [(.int (3 : Int32)), (.ref a1)])) rfl rfl (hb hby d1_47)
  obtain ⟨lc75, X75, N75⟩ : ∃ lc, Stand p l e ({ frames := 1, cells := 2, slots := 6, locals := 12 } : Room) s m #[(.ref a1), (.int (3 : Int32))] below meth c T75 lc 2 6 ∧ Fr n0 lc := ⟨_, X75', Fr.snoc X75' N70 pr1⟩
  have f75_ : Fld Z h75 a1 "com/example/tideshift/tideshift/engine/MovingShards" "stillCount" "I" (.int (3 : Int32)) := f73.same W75
  have K76 : Gx p e below s₁ f0 T75 (mkF m 50 #[.val (.ref a1), .val (.int (3 : Int32)), .val (.int (3 : Int32))] []) := fun t kt => K72 t (st75 t kt)
  have f78 : Fld Z h75 a1 "com/example/tideshift/tideshift/engine/MovingShards" "still" "[I" (.ref b5) := (((f55.other W61 (Or.inl (Nat.ne_of_lt (Nat.lt_of_lt_of_le pr0.lt (Nat.le_of_eq g5.symm))))).other W70 (Or.inl (Nat.ne_of_lt (Nat.lt_of_lt_of_le f9_.lt (Nat.le_of_eq g12.symm))))).other W75 (Or.inr (slot_ne (Or.inr (hw _ (List.mem_of_getElem? (i := 11) rfl))) (Or.inl (hw _ (List.mem_of_getElem? (i := 15) rfl))) (by decide) (t := (.array .int)) (t' := .int) (by decide) (by decide))))
  have f79 : Fld Z h75 a1 "com/example/tideshift/tideshift/engine/MovingShards" "placeOf" "[I" (.ref b12) := ((f64.other W70 (Or.inl (Nat.ne_of_lt (Nat.lt_of_lt_of_le f9_.lt (Nat.le_of_eq g12.symm))))).other W75 (Or.inr (slot_ne (Or.inr (hw _ (List.mem_of_getElem? (i := 13) rfl))) (Or.inl (hw _ (List.mem_of_getElem? (i := 15) rfl))) (by decide) (t := (.array .int)) (t' := .int) (by decide) (by decide))))
  have f80 : Arv Z h75 b5 k5 .int (3 : Int32) [(.int (0 : Int32)), (.int (1 : Int32)), (.int (2 : Int32))] (.int (0 : Int32)) := ((V61.other W70 (Nat.ne_of_lt (Nat.lt_of_lt_of_le (V5.other W9 (Ne.symm (Nat.ne_of_lt (Nat.lt_of_lt_of_le pr0.lt (Nat.le_of_eq g5.symm))))).lt (Nat.le_of_eq g12.symm)))).other W75 (Ne.symm (Nat.ne_of_lt (Nat.lt_of_lt_of_le pr0.lt (Nat.le_of_eq g5.symm)))))
  have f81 : Arv Z h75 b12 k12 .int (3 : Int32) [(.int (0 : Int32)), (.int (1 : Int32)), (.int (2 : Int32))] (.int (0 : Int32)) := (V70.other W75 (Ne.symm (Nat.ne_of_lt (Nat.lt_of_lt_of_le f9_.lt (Nat.le_of_eq g12.symm)))))
  have kp82 : Keep h0 h75 [a1] := ((((((((((((Keep.refl h0 [a1]).ext E5).wr W9 (Or.inl (List.mem_of_getElem? (i := 0) rfl))).ext E12).wr W16 (Or.inl (List.mem_of_getElem? (i := 0) rfl))).wr W25 (Or.inr (Nat.le_trans (Keep.refl h0 [a1]).1 (Nat.le_of_eq g5.symm)))).wr W34 (Or.inr (Nat.le_trans (((Keep.refl h0 [a1]).ext E5).wr W9 (Or.inl (List.mem_of_getElem? (i := 0) rfl))).1 (Nat.le_of_eq g12.symm)))).wr W43 (Or.inr (Nat.le_trans (Keep.refl h0 [a1]).1 (Nat.le_of_eq g5.symm)))).wr W52 (Or.inr (Nat.le_trans (((Keep.refl h0 [a1]).ext E5).wr W9 (Or.inl (List.mem_of_getElem? (i := 0) rfl))).1 (Nat.le_of_eq g12.symm)))).wr W61 (Or.inr (Nat.le_trans (Keep.refl h0 [a1]).1 (Nat.le_of_eq g5.symm)))).wr W70 (Or.inr (Nat.le_trans (((Keep.refl h0 [a1]).ext E5).wr W9 (Or.inl (List.mem_of_getElem? (i := 0) rfl))).1 (Nat.le_of_eq g12.symm)))).wr W75 (Or.inl (List.mem_of_getElem? (i := 0) rfl)))
  have f83 : Exa Z h75 a1 "com/example/tideshift/tideshift/engine/MovingShards" := (f74.wr W75)
  obtain ⟨fs77, hr77, hrun77, hended77, hW77, hsame77⟩ := X75.leave (v := none) (fun _ => rfl)
  refine ⟨_, _, pre0 _ (K76 _ ?_), hrun77, hended77, _, _, rfl, ?_, ⟨_, rfl⟩, hW77, hsame77.mono (by decide) (by decide)⟩
  · exact X75.returnOut hx Bd.returns (hb hby d1_50) hr77
  · show QIni3 Z a1 h0 n0 _ T75.heap _
    rw [e75]
    exact ⟨b5, b12, k5, k12, rfl, N75, kp82, f83, f78, f79, f75_, (Nat.le_trans (Keep.refl h0 [a1]).1 (Nat.le_of_eq g5.symm)), (Nat.le_trans (((Keep.refl h0 [a1]).ext E5).wr W9 (Or.inl (List.mem_of_getElem? (i := 0) rfl))).1 (Nat.le_of_eq g12.symm)), (Nat.ne_of_lt (Nat.lt_of_lt_of_le (V5.other W9 (Ne.symm (Nat.ne_of_lt (Nat.lt_of_lt_of_le pr0.lt (Nat.le_of_eq g5.symm))))).lt (Nat.le_of_eq g12.symm))), f80, f81⟩
theorem ef_Ini4 (m : MethodId) (a1 : Addr) : entryFrame m #[(.ref a1), (.int (4 : Int32))] 3 = mkF m 0 #[.val (.ref a1), .val (.int (4 : Int32)), .unset] [] := by first | (simp [entryFrame, mkF, argsToLocals, Value.category]; done) | rfl
def QIni4 (Z : State) (a1 : Addr) (h0 : Heap) (n0 : Nat) (v : Option Value) (h : Heap) (L : List Loc) : Prop := ∃ bS : Addr, ∃ bP : Addr, ∃ kS : ClassId, ∃ kP : ClassId, v = none ∧ Fr n0 L ∧ Keep h0 h [a1] ∧ Exa Z h a1 "com/example/tideshift/tideshift/engine/MovingShards" ∧ Fld Z h a1 "com/example/tideshift/tideshift/engine/MovingShards" "still" "[I" (.ref bS) ∧ Fld Z h a1 "com/example/tideshift/tideshift/engine/MovingShards" "placeOf" "[I" (.ref bP) ∧ Fld Z h a1 "com/example/tideshift/tideshift/engine/MovingShards" "stillCount" "I" (.int (Int32.ofNat 4)) ∧ h0.size ≤ bS ∧ h0.size ≤ bP ∧ bS ≠ bP ∧ Arv Z h bS kS .int (Int32.ofNat 4) (lst (List.range 4)) (.int (0 : Int32)) ∧ Arv Z h bP kP .int (Int32.ofNat 4) (lst (List.range 4)) (.int (0 : Int32))
set_option maxRecDepth 65536 in
set_option maxHeartbeats 40000000 in
theorem rmIni4 (l : Launch) (Z : State) (a0 : Array Value) (hw : ∀ d ∈ tables_1, d.before a0 Z = true) (ws : List Jvm.Cond) (a1 : Addr) (h0 : Heap) (n0 : Nat) (Z0 : n0 ≤ h0.size) (pr0 : Exa Z h0 a1 "com/example/tideshift/tideshift/engine/MovingShards") (pr1 : n0 ≤ a1) (pr2 : Fld Z h0 a1 "com/example/tideshift/tideshift/engine/MovingShards" "still" "[I" .null) (pr3 : Fld Z h0 a1 "com/example/tideshift/tideshift/engine/MovingShards" "placeOf" "[I" .null) (pr4 : Fld Z h0 a1 "com/example/tideshift/tideshift/engine/MovingShards" "stillCount" "I" (.int (0 : Int32))) :
    MetFree l (⟨"com/example/tideshift/tideshift/engine/MovingShards", "<init>", "(I)V"⟩ : MethodName) (head1 (Jvm.Cond.code (⟨"com/example/tideshift/tideshift/engine/MovingShards", "<init>", "(I)V"⟩ : MethodName) prog_56_method_1_code 3 none :: ws) ({ frames := 1, cells := 2, slots := 8, locals := 12 } : Room)) (fun a U => a = #[(.ref a1), (.int (4 : Int32))] ∧ Z.Warmed39 U.vm ∧ U.heap = h0) (fun _ _ _ _ _ => True) (fun _ U o U' => ∃ v L, o = .returned v ∧ QIni4 Z a1 h0 n0 v U'.heap L ∧ FrameEnd U o U' L ({ frames := 1, cells := 2, slots := 8, locals := 12 } : Room).cells ({ frames := 1, cells := 2, slots := 8, locals := 12 } : Room).slots) := by
  refine MetFree.of_bodySF (plainFor_of_name pn_1) hisR ?_
  intro p e s m args below meth c s₁ Bd hml0 hP hK
  obtain ⟨rfl, hZ, hh⟩ := hP
  have hx := Bd.exec
  have hby := Bd.bytes
  have hml : c.maxLocals = 3 := hml0
  have hown : s.vm.findClass "com/example/tideshift/tideshift/engine/MovingShards" = some m.cls := findClass_of_methodNamed Bd.named
  have hnm := (name_of_methodNamed Bd.named Bd.method).1
  have X0 : Stand p l e ({ frames := 1, cells := 2, slots := 8, locals := 12 } : Room) s m #[(.ref a1), (.int (4 : Int32))] below meth c s₁ [] 0 0 := Stand.of_body Bd
  have hs0 : h0 = s.heap := hh.symm
  have e0 : s₁.heap = h0 := by rw [← hh, Bd.state]; rfl
  have N0 := Fr.nil n0
  obtain ⟨f0, hf0⟩ : ∃ f, f = entryFrame m #[(.ref a1), (.int (4 : Int32))] 3 := ⟨_, rfl⟩
  have pre0 : ∀ t, Steps p.tables e below (s₁.setTop f0) t → Steps p.tables e below (s₁.setTop (entryFrame m #[(.ref a1), (.int (4 : Int32))] 3)) t := fun t k => hf0 ▸ k
  have K0 : Gx p e below s₁ f0 s₁ (mkF m 0 #[.val (.ref a1), .val (.int (4 : Int32)), .unset] []) := fun t kt => by rw [hf0]; exact castTop (ef_Ini4 m a1) kt
  have K1 : Gx p e below s₁ f0 s₁ (mkF m 1 #[.val (.ref a1), .val (.int (4 : Int32)), .unset] [(.ref a1)]) := fun t kt => K0 t (by
    show Steps p.tables e below (s₁.setTop (mkF m 0 #[.val (.ref a1), .val (.int (4 : Int32)), .unset] [])) _
    refine XS.aloadN X0.here hx rfl (hb hby d1_0) rfl rfl ?_
    exact kt)
  obtain ⟨T2, X2, e2, st2⟩ := initO X0 hx hZ hown (hw _ (List.mem_of_getElem? (i := 6) rfl)) (hw _ (List.mem_of_getElem? (i := 7) rfl)) (hw _ (List.mem_of_getElem? (i := 8) rfl)) e0 (g := (mkF m 1 #[.val (.ref a1), .val (.int (4 : Int32)), .unset] [(.ref a1)])) rfl (by rw [hml]; rfl) rfl (hb hby d1_1) (by decide) (W := 0) (by show 2 * 0 + _ ≤ _; exact Nat.le_of_eq rfl) (by decide)
  have K3 : Gx p e below s₁ f0 T2 (mkF m 4 #[.val (.ref a1), .val (.int (4 : Int32)), .unset] []) := fun t kt => K1 t (st2 t kt)
  have K4 : Gx p e below s₁ f0 T2 (mkF m 6 #[.val (.ref a1), .val (.int (4 : Int32)), .unset] [(.int (4 : Int32)), (.ref a1)]) := fun t kt => K3 t (by
    show Steps p.tables e below (T2.setTop (mkF m 4 #[.val (.ref a1), .val (.int (4 : Int32)), .unset] [])) _
    refine XS.aloadN X2.here hx rfl (hb hby d1_4) rfl rfl ?_
    show Steps p.tables e below (T2.setTop (mkF m 5 #[.val (.ref a1), .val (.int (4 : Int32)), .unset] [(.ref a1)])) _
    refine XS.iloadN X2.here hx rfl (hb hby d1_5) rfl ?_
    exact kt)
  obtain ⟨T5, h5, k5, X5, e5, E5, A5, st5⟩ := newP X2 hx hZ (hw _ (List.mem_of_getElem? (i := 9) rfl)) e2 (g := (mkF m 6 #[.val (.ref a1), .val (.int (4 : Int32)), .unset] [(.int (4 : Int32)), (.ref a1)])) rfl (hb hby d1_6) rfl (by decide) (cap := 4) (by decide) (by decide) (by decide) (by decide)
  obtain ⟨b5, g5⟩ : ∃ z, z = h0.size := ⟨_, rfl⟩
  rw [← g5] at A5 st5
  have V5 : Arv Z h5 b5 k5 .int (4 : Int32) [(.int (0 : Int32)), (.int (0 : Int32)), (.int (0 : Int32)), (.int (0 : Int32))] (.int (0 : Int32)) := (Arv.new A5 (by decide)).pad (pad_rep [] (.int (0 : Int32)) 4)
  have K6 : Gx p e below s₁ f0 T5 (mkF m 8 #[.val (.ref a1), .val (.int (4 : Int32)), .unset] [(.ref b5), (.ref a1)]) := fun t kt => K4 t (st5 t kt)
  have f7 : Fld Z h5 a1 "com/example/tideshift/tideshift/engine/MovingShards" "still" "[I" .null := (pr2.ext E5)
  have f8 : Exa Z h5 a1 "com/example/tideshift/tideshift/engine/MovingShards" := (pr0.ext E5)
  obtain ⟨T9, h9, X9', e9, W9, st9⟩ := putF X5 hx hZ hown (host := "") (Or.inl (hw _ (List.mem_of_getElem? (i := 10) rfl))) Via.refl e5 f7 f8 (Or.inr ⟨(hw _ (List.mem_of_getElem? (i := 11) rfl)), rfl, hnm⟩) (hw _ (List.mem_of_getElem? (i := 1) rfl)) (ty := (.array .int)) (by decide) rfl rfl (g := (mkF m 8 #[.val (.ref a1), .val (.int (4 : Int32)), .unset] [(.ref b5), (.ref a1)])) rfl rfl (hb hby d1_8)
  obtain ⟨lc9, X9, N9⟩ : ∃ lc, Stand p l e ({ frames := 1, cells := 2, slots := 8, locals := 12 } : Room) s m #[(.ref a1), (.int (4 : Int32))] below meth c T9 lc 1 4 ∧ Fr n0 lc := ⟨_, X9', Fr.snoc X9' N0 pr1⟩
  have f9_ : Fld Z h9 a1 "com/example/tideshift/tideshift/engine/MovingShards" "still" "[I" (.ref b5) := f7.same W9
  have K10 : Gx p e below s₁ f0 T9 (mkF m 11 #[.val (.ref a1), .val (.int (4 : Int32)), .unset] []) := fun t kt => K6 t (st9 t kt)
  have K11 : Gx p e below s₁ f0 T9 (mkF m 13 #[.val (.ref a1), .val (.int (4 : Int32)), .unset] [(.int (4 : Int32)), (.ref a1)]) := fun t kt => K10 t (by
    show Steps p.tables e below (T9.setTop (mkF m 11 #[.val (.ref a1), .val (.int (4 : Int32)), .unset] [])) _
    refine XS.aloadN X9.here hx rfl (hb hby d1_11) rfl rfl ?_
    show Steps p.tables e below (T9.setTop (mkF m 12 #[.val (.ref a1), .val (.int (4 : Int32)), .unset] [(.ref a1)])) _
    refine XS.iloadN X9.here hx rfl (hb hby d1_12) rfl ?_
    exact kt)
  obtain ⟨T12, h12, k12, X12, e12, E12, A12, st12⟩ := newP X9 hx hZ (hw _ (List.mem_of_getElem? (i := 9) rfl)) e9 (g := (mkF m 13 #[.val (.ref a1), .val (.int (4 : Int32)), .unset] [(.int (4 : Int32)), (.ref a1)])) rfl (hb hby d1_13) rfl (by decide) (cap := 4) (by decide) (by decide) (by decide) (by decide)
  obtain ⟨b12, g12⟩ : ∃ z, z = h9.size := ⟨_, rfl⟩
  rw [← g12] at A12 st12
  have V12 : Arv Z h12 b12 k12 .int (4 : Int32) [(.int (0 : Int32)), (.int (0 : Int32)), (.int (0 : Int32)), (.int (0 : Int32))] (.int (0 : Int32)) := (Arv.new A12 (by decide)).pad (pad_rep [] (.int (0 : Int32)) 4)
  have K13 : Gx p e below s₁ f0 T12 (mkF m 15 #[.val (.ref a1), .val (.int (4 : Int32)), .unset] [(.ref b12), (.ref a1)]) := fun t kt => K11 t (st12 t kt)
  have f14 : Fld Z h12 a1 "com/example/tideshift/tideshift/engine/MovingShards" "placeOf" "[I" .null := (((pr3.ext E5).other W9 (Or.inr (slot_ne (Or.inr (hw _ (List.mem_of_getElem? (i := 13) rfl))) (Or.inr (hw _ (List.mem_of_getElem? (i := 11) rfl))) (by decide) (t := (.array .int)) (t' := (.array .int)) (by decide) (by decide)))).ext E12)
  have f15 : Exa Z h12 a1 "com/example/tideshift/tideshift/engine/MovingShards" := ((f8.wr W9).ext E12)
  obtain ⟨T16, h16, X16', e16, W16, st16⟩ := putF X12 hx hZ hown (host := "") (Or.inl (hw _ (List.mem_of_getElem? (i := 12) rfl))) Via.refl e12 f14 f15 (Or.inr ⟨(hw _ (List.mem_of_getElem? (i := 13) rfl)), rfl, hnm⟩) (hw _ (List.mem_of_getElem? (i := 1) rfl)) (ty := (.array .int)) (by decide) rfl rfl (g := (mkF m 15 #[.val (.ref a1), .val (.int (4 : Int32)), .unset] [(.ref b12), (.ref a1)])) rfl rfl (hb hby d1_15)
  obtain ⟨lc16, X16, N16⟩ : ∃ lc, Stand p l e ({ frames := 1, cells := 2, slots := 8, locals := 12 } : Room) s m #[(.ref a1), (.int (4 : Int32))] below meth c T16 lc 2 8 ∧ Fr n0 lc := ⟨_, X16', Fr.snoc X16' N9 pr1⟩
  have f16_ : Fld Z h16 a1 "com/example/tideshift/tideshift/engine/MovingShards" "placeOf" "[I" (.ref b12) := f14.same W16
  have K17 : Gx p e below s₁ f0 T16 (mkF m 18 #[.val (.ref a1), .val (.int (4 : Int32)), .unset] []) := fun t kt => K13 t (st16 t kt)
  have K18 : Gx p e below s₁ f0 T16 (mkF m 26 #[.val (.ref a1), .val (.int (4 : Int32)), .val (.int (0 : Int32))] [(.ref a1)]) := fun t kt => K17 t (by
    show Steps p.tables e below (T16.setTop (mkF m 18 #[.val (.ref a1), .val (.int (4 : Int32)), .unset] [])) _
    refine XS.iconst X16.here hx rfl (hb hby d1_18) ?_
    show Steps p.tables e below (T16.setTop (mkF m 19 #[.val (.ref a1), .val (.int (4 : Int32)), .unset] [(.int (0 : Int32))])) _
    refine XS.istoreN X16.here hx rfl (hb hby d1_19) rfl (l' := #[.val (.ref a1), .val (.int (4 : Int32)), .val (.int (0 : Int32))]) rfl ?_
    show Steps p.tables e below (T16.setTop (mkF m 20 #[.val (.ref a1), .val (.int (4 : Int32)), .val (.int (0 : Int32))] [])) _
    refine XS.iloadN X16.here hx rfl (hb hby d1_20) rfl ?_
    show Steps p.tables e below (T16.setTop (mkF m 21 #[.val (.ref a1), .val (.int (4 : Int32)), .val (.int (0 : Int32))] [(.int (0 : Int32))])) _
    refine XS.iloadN X16.here hx rfl (hb hby d1_21) rfl ?_
    show Steps p.tables e below (T16.setTop (mkF m 22 #[.val (.ref a1), .val (.int (4 : Int32)), .val (.int (0 : Int32))] [(.int (4 : Int32)), (.int (0 : Int32))])) _
    refine XS.icmpNo X16.here hx rfl (hb hby d1_22) rfl (tlt (by decide)).2.1 ?_
    show Steps p.tables e below (T16.setTop (mkF m 25 #[.val (.ref a1), .val (.int (4 : Int32)), .val (.int (0 : Int32))] [])) _
    refine XS.aloadN X16.here hx rfl (hb hby d1_25) rfl rfl ?_
    exact kt)
  have f19 : Fld Z h16 a1 "com/example/tideshift/tideshift/engine/MovingShards" "still" "[I" (.ref b5) := ((f9_.ext E12).other W16 (Or.inr (slot_ne (Or.inr (hw _ (List.mem_of_getElem? (i := 11) rfl))) (Or.inr (hw _ (List.mem_of_getElem? (i := 13) rfl))) (by decide) (t := (.array .int)) (t' := (.array .int)) (by decide) (by decide))))
  obtain ⟨T20, X20, e20, st20⟩ := getF X16 hx hZ hown (host := "") (Or.inl (hw _ (List.mem_of_getElem? (i := 10) rfl))) Via.refl e16 f19 (g := (mkF m 26 #[.val (.ref a1), .val (.int (4 : Int32)), .val (.int (0 : Int32))] [(.ref a1)])) rfl rfl (hb hby d1_26)
  have K21 : Gx p e below s₁ f0 T20 (mkF m 29 #[.val (.ref a1), .val (.int (4 : Int32)), .val (.int (0 : Int32))] [(.ref b5)]) := fun t kt => K18 t (st20 t kt)
  have K22 : Gx p e below s₁ f0 T20 (mkF m 31 #[.val (.ref a1), .val (.int (4 : Int32)), .val (.int (0 : Int32))] [(.int (0 : Int32)), (.int (0 : Int32)), (.ref b5)]) := fun t kt => K21 t (by
    show Steps p.tables e below (T20.setTop (mkF m 29 #[.val (.ref a1), .val (.int (4 : Int32)), .val (.int (0 : Int32))] [(.ref b5)])) _
    refine XS.iloadN X20.here hx rfl (hb hby d1_29) rfl ?_
    show Steps p.tables e below (T20.setTop (mkF m 30 #[.val (.ref a1), .val (.int (4 : Int32)), .val (.int (0 : Int32))] [(.int (0 : Int32)), (.ref b5)])) _
    refine XS.iloadN X20.here hx rfl (hb hby d1_30) rfl ?_
    exact kt)
  have f23 : Arv Z h16 b5 k5 .int (4 : Int32) [(.int (0 : Int32)), (.int (0 : Int32)), (.int (0 : Int32)), (.int (0 : Int32))] (.int (0 : Int32)) := (((V5.other W9 (Ne.symm (Nat.ne_of_lt (Nat.lt_of_lt_of_le pr0.lt (Nat.le_of_eq g5.symm))))).ext E12).other W16 (Ne.symm (Nat.ne_of_lt (Nat.lt_of_lt_of_le pr0.lt (Nat.le_of_eq g5.symm)))))
  obtain ⟨clq24, Arq24, ckq24, cSq24, cNq24, cHq24, cGq24⟩ := id f23
  obtain ⟨T25, h25, X25', e25, W25, st25⟩ := stI X20 hx hZ e20 Arq24 (j := (0 : Int32)) (inb_of cSq24 ⟨by decide, by decide⟩) (g := (mkF m 31 #[.val (.ref a1), .val (.int (4 : Int32)), .val (.int (0 : Int32))] [(.int (0 : Int32)), (.int (0 : Int32)), (.ref b5)])) rfl rfl (hb hby d1_31)
  obtain ⟨lc25, X25, N25⟩ : ∃ lc, Stand p l e ({ frames := 1, cells := 2, slots := 8, locals := 12 } : Room) s m #[(.ref a1), (.int (4 : Int32))] below meth c T25 lc 2 8 ∧ Fr n0 lc := ⟨_, X25', Fr.snoc X25' N16 (Nat.le_trans Z0 (Nat.le_trans (Keep.refl h0 [a1]).1 (Nat.le_of_eq g5.symm)))⟩
  have V25 : Arv Z h25 b5 k5 .int (4 : Int32) [(.int (0 : Int32)), (.int (0 : Int32)), (.int (0 : Int32)), (.int (0 : Int32))] (.int (0 : Int32)) := Arv.set Arq24 ckq24 cSq24 cNq24 cHq24 cGq24 rfl W25 0 rfl (Nat.le_of_ble_eq_true rfl)
  have K26 : Gx p e below s₁ f0 T25 (mkF m 32 #[.val (.ref a1), .val (.int (4 : Int32)), .val (.int (0 : Int32))] []) := fun t kt => K22 t (st25 t kt)
  have K27 : Gx p e below s₁ f0 T25 (mkF m 33 #[.val (.ref a1), .val (.int (4 : Int32)), .val (.int (0 : Int32))] [(.ref a1)]) := fun t kt => K26 t (by
    show Steps p.tables e below (T25.setTop (mkF m 32 #[.val (.ref a1), .val (.int (4 : Int32)), .val (.int (0 : Int32))] [])) _
    refine XS.aloadN X25.here hx rfl (hb hby d1_32) rfl rfl ?_
    exact kt)
  have f28 : Fld Z h25 a1 "com/example/tideshift/tideshift/engine/MovingShards" "placeOf" "[I" (.ref b12) := (f16_.other W25 (Or.inl (Nat.ne_of_lt (Nat.lt_of_lt_of_le pr0.lt (Nat.le_of_eq g5.symm)))))
  obtain ⟨T29, X29, e29, st29⟩ := getF X25 hx hZ hown (host := "") (Or.inl (hw _ (List.mem_of_getElem? (i := 12) rfl))) Via.refl e25 f28 (g := (mkF m 33 #[.val (.ref a1), .val (.int (4 : Int32)), .val (.int (0 : Int32))] [(.ref a1)])) rfl rfl (hb hby d1_33)
  have K30 : Gx p e below s₁ f0 T29 (mkF m 36 #[.val (.ref a1), .val (.int (4 : Int32)), .val (.int (0 : Int32))] [(.ref b12)]) := fun t kt => K27 t (st29 t kt)
  have K31 : Gx p e below s₁ f0 T29 (mkF m 38 #[.val (.ref a1), .val (.int (4 : Int32)), .val (.int (0 : Int32))] [(.int (0 : Int32)), (.int (0 : Int32)), (.ref b12)]) := fun t kt => K30 t (by
    show Steps p.tables e below (T29.setTop (mkF m 36 #[.val (.ref a1), .val (.int (4 : Int32)), .val (.int (0 : Int32))] [(.ref b12)])) _
    refine XS.iloadN X29.here hx rfl (hb hby d1_36) rfl ?_
    show Steps p.tables e below (T29.setTop (mkF m 37 #[.val (.ref a1), .val (.int (4 : Int32)), .val (.int (0 : Int32))] [(.int (0 : Int32)), (.ref b12)])) _
    refine XS.iloadN X29.here hx rfl (hb hby d1_37) rfl ?_
    exact kt)
  have f32 : Arv Z h25 b12 k12 .int (4 : Int32) [(.int (0 : Int32)), (.int (0 : Int32)), (.int (0 : Int32)), (.int (0 : Int32))] (.int (0 : Int32)) := ((V12.other W16 (Ne.symm (Nat.ne_of_lt (Nat.lt_of_lt_of_le f9_.lt (Nat.le_of_eq g12.symm))))).other W25 (Ne.symm (Nat.ne_of_lt (Nat.lt_of_lt_of_le (V5.other W9 (Ne.symm (Nat.ne_of_lt (Nat.lt_of_lt_of_le pr0.lt (Nat.le_of_eq g5.symm))))).lt (Nat.le_of_eq g12.symm)))))
  obtain ⟨clq33, Arq33, ckq33, cSq33, cNq33, cHq33, cGq33⟩ := id f32
  obtain ⟨T34, h34, X34', e34, W34, st34⟩ := stI X29 hx hZ e29 Arq33 (j := (0 : Int32)) (inb_of cSq33 ⟨by decide, by decide⟩) (g := (mkF m 38 #[.val (.ref a1), .val (.int (4 : Int32)), .val (.int (0 : Int32))] [(.int (0 : Int32)), (.int (0 : Int32)), (.ref b12)])) rfl rfl (hb hby d1_38)
  obtain ⟨lc34, X34, N34⟩ : ∃ lc, Stand p l e ({ frames := 1, cells := 2, slots := 8, locals := 12 } : Room) s m #[(.ref a1), (.int (4 : Int32))] below meth c T34 lc 2 8 ∧ Fr n0 lc := ⟨_, X34', Fr.snoc X34' N25 (Nat.le_trans Z0 (Nat.le_trans (((Keep.refl h0 [a1]).ext E5).wr W9 (Or.inl (List.mem_of_getElem? (i := 0) rfl))).1 (Nat.le_of_eq g12.symm)))⟩
  have V34 : Arv Z h34 b12 k12 .int (4 : Int32) [(.int (0 : Int32)), (.int (0 : Int32)), (.int (0 : Int32)), (.int (0 : Int32))] (.int (0 : Int32)) := Arv.set Arq33 ckq33 cSq33 cNq33 cHq33 cGq33 rfl W34 0 rfl (Nat.le_of_ble_eq_true rfl)
  have K35 : Gx p e below s₁ f0 T34 (mkF m 39 #[.val (.ref a1), .val (.int (4 : Int32)), .val (.int (0 : Int32))] []) := fun t kt => K31 t (st34 t kt)
  have K36 : Gx p e below s₁ f0 T34 (mkF m 26 #[.val (.ref a1), .val (.int (4 : Int32)), .val (.int (1 : Int32))] [(.ref a1)]) := fun t kt => K35 t (by
    show Steps p.tables e below (T34.setTop (mkF m 39 #[.val (.ref a1), .val (.int (4 : Int32)), .val (.int (0 : Int32))] [])) _
    refine XS.iinc X34.here hx rfl (hb hby d1_39) rfl (l' := #[.val (.ref a1), .val (.int (4 : Int32)), .val (.int (1 : Int32))]) rfl ?_
    show Steps p.tables e below (T34.setTop (mkF m 42 #[.val (.ref a1), .val (.int (4 : Int32)), .val (.int (1 : Int32))] [])) _
    refine XS.goto X34.here hx rfl (pc0 := 42) (pc' := 20) rfl (hb hby d1_42) (by decide) (by decide) ?_
    show Steps p.tables e below (T34.setTop (mkF m 20 #[.val (.ref a1), .val (.int (4 : Int32)), .val (.int (1 : Int32))] [])) _
    refine XS.iloadN X34.here hx rfl (hb hby d1_20) rfl ?_
    show Steps p.tables e below (T34.setTop (mkF m 21 #[.val (.ref a1), .val (.int (4 : Int32)), .val (.int (1 : Int32))] [(.int (1 : Int32))])) _
    refine XS.iloadN X34.here hx rfl (hb hby d1_21) rfl ?_
    show Steps p.tables e below (T34.setTop (mkF m 22 #[.val (.ref a1), .val (.int (4 : Int32)), .val (.int (1 : Int32))] [(.int (4 : Int32)), (.int (1 : Int32))])) _
    refine XS.icmpNo X34.here hx rfl (hb hby d1_22) rfl (tlt (by decide)).2.1 ?_
    show Steps p.tables e below (T34.setTop (mkF m 25 #[.val (.ref a1), .val (.int (4 : Int32)), .val (.int (1 : Int32))] [])) _
    refine XS.aloadN X34.here hx rfl (hb hby d1_25) rfl rfl ?_
    exact kt)
  have f37 : Fld Z h34 a1 "com/example/tideshift/tideshift/engine/MovingShards" "still" "[I" (.ref b5) := ((f19.other W25 (Or.inl (Nat.ne_of_lt (Nat.lt_of_lt_of_le pr0.lt (Nat.le_of_eq g5.symm))))).other W34 (Or.inl (Nat.ne_of_lt (Nat.lt_of_lt_of_le f9_.lt (Nat.le_of_eq g12.symm)))))
  obtain ⟨T38, X38, e38, st38⟩ := getF X34 hx hZ hown (host := "") (Or.inl (hw _ (List.mem_of_getElem? (i := 10) rfl))) Via.refl e34 f37 (g := (mkF m 26 #[.val (.ref a1), .val (.int (4 : Int32)), .val (.int (1 : Int32))] [(.ref a1)])) rfl rfl (hb hby d1_26)
  have K39 : Gx p e below s₁ f0 T38 (mkF m 29 #[.val (.ref a1), .val (.int (4 : Int32)), .val (.int (1 : Int32))] [(.ref b5)]) := fun t kt => K36 t (st38 t kt)
  have K40 : Gx p e below s₁ f0 T38 (mkF m 31 #[.val (.ref a1), .val (.int (4 : Int32)), .val (.int (1 : Int32))] [(.int (1 : Int32)), (.int (1 : Int32)), (.ref b5)]) := fun t kt => K39 t (by
    show Steps p.tables e below (T38.setTop (mkF m 29 #[.val (.ref a1), .val (.int (4 : Int32)), .val (.int (1 : Int32))] [(.ref b5)])) _
    refine XS.iloadN X38.here hx rfl (hb hby d1_29) rfl ?_
    show Steps p.tables e below (T38.setTop (mkF m 30 #[.val (.ref a1), .val (.int (4 : Int32)), .val (.int (1 : Int32))] [(.int (1 : Int32)), (.ref b5)])) _
    refine XS.iloadN X38.here hx rfl (hb hby d1_30) rfl ?_
    exact kt)
  have f41 : Arv Z h34 b5 k5 .int (4 : Int32) [(.int (0 : Int32)), (.int (0 : Int32)), (.int (0 : Int32)), (.int (0 : Int32))] (.int (0 : Int32)) := (V25.other W34 (Nat.ne_of_lt (Nat.lt_of_lt_of_le (V5.other W9 (Ne.symm (Nat.ne_of_lt (Nat.lt_of_lt_of_le pr0.lt (Nat.le_of_eq g5.symm))))).lt (Nat.le_of_eq g12.symm))))
  obtain ⟨clq42, Arq42, ckq42, cSq42, cNq42, cHq42, cGq42⟩ := id f41
  obtain ⟨T43, h43, X43', e43, W43, st43⟩ := stI X38 hx hZ e38 Arq42 (j := (1 : Int32)) (inb_of cSq42 ⟨by decide, by decide⟩) (g := (mkF m 31 #[.val (.ref a1), .val (.int (4 : Int32)), .val (.int (1 : Int32))] [(.int (1 : Int32)), (.int (1 : Int32)), (.ref b5)])) rfl rfl (hb hby d1_31)
  obtain ⟨lc43, X43, N43⟩ : ∃ lc, Stand p l e ({ frames := 1, cells := 2, slots := 8, locals := 12 } : Room) s m #[(.ref a1), (.int (4 : Int32))] below meth c T43 lc 2 8 ∧ Fr n0 lc := ⟨_, X43', Fr.snoc X43' N34 (Nat.le_trans Z0 (Nat.le_trans (Keep.refl h0 [a1]).1 (Nat.le_of_eq g5.symm)))⟩
  have V43 : Arv Z h43 b5 k5 .int (4 : Int32) [(.int (0 : Int32)), (.int (1 : Int32)), (.int (0 : Int32)), (.int (0 : Int32))] (.int (0 : Int32)) := Arv.set Arq42 ckq42 cSq42 cNq42 cHq42 cGq42 rfl W43 1 rfl (Nat.le_of_ble_eq_true rfl)
  have K44 : Gx p e below s₁ f0 T43 (mkF m 32 #[.val (.ref a1), .val (.int (4 : Int32)), .val (.int (1 : Int32))] []) := fun t kt => K40 t (st43 t kt)
  have K45 : Gx p e below s₁ f0 T43 (mkF m 33 #[.val (.ref a1), .val (.int (4 : Int32)), .val (.int (1 : Int32))] [(.ref a1)]) := fun t kt => K44 t (by
    show Steps p.tables e below (T43.setTop (mkF m 32 #[.val (.ref a1), .val (.int (4 : Int32)), .val (.int (1 : Int32))] [])) _
    refine XS.aloadN X43.here hx rfl (hb hby d1_32) rfl rfl ?_
    exact kt)
  have f46 : Fld Z h43 a1 "com/example/tideshift/tideshift/engine/MovingShards" "placeOf" "[I" (.ref b12) := ((f28.other W34 (Or.inl (Nat.ne_of_lt (Nat.lt_of_lt_of_le f9_.lt (Nat.le_of_eq g12.symm))))).other W43 (Or.inl (Nat.ne_of_lt (Nat.lt_of_lt_of_le pr0.lt (Nat.le_of_eq g5.symm)))))
  obtain ⟨T47, X47, e47, st47⟩ := getF X43 hx hZ hown (host := "") (Or.inl (hw _ (List.mem_of_getElem? (i := 12) rfl))) Via.refl e43 f46 (g := (mkF m 33 #[.val (.ref a1), .val (.int (4 : Int32)), .val (.int (1 : Int32))] [(.ref a1)])) rfl rfl (hb hby d1_33)
  have K48 : Gx p e below s₁ f0 T47 (mkF m 36 #[.val (.ref a1), .val (.int (4 : Int32)), .val (.int (1 : Int32))] [(.ref b12)]) := fun t kt => K45 t (st47 t kt)
  have K49 : Gx p e below s₁ f0 T47 (mkF m 38 #[.val (.ref a1), .val (.int (4 : Int32)), .val (.int (1 : Int32))] [(.int (1 : Int32)), (.int (1 : Int32)), (.ref b12)]) := fun t kt => K48 t (by
    show Steps p.tables e below (T47.setTop (mkF m 36 #[.val (.ref a1), .val (.int (4 : Int32)), .val (.int (1 : Int32))] [(.ref b12)])) _
    refine XS.iloadN X47.here hx rfl (hb hby d1_36) rfl ?_
    show Steps p.tables e below (T47.setTop (mkF m 37 #[.val (.ref a1), .val (.int (4 : Int32)), .val (.int (1 : Int32))] [(.int (1 : Int32)), (.ref b12)])) _
    refine XS.iloadN X47.here hx rfl (hb hby d1_37) rfl ?_
    exact kt)
  have f50 : Arv Z h43 b12 k12 .int (4 : Int32) [(.int (0 : Int32)), (.int (0 : Int32)), (.int (0 : Int32)), (.int (0 : Int32))] (.int (0 : Int32)) := (V34.other W43 (Ne.symm (Nat.ne_of_lt (Nat.lt_of_lt_of_le (V5.other W9 (Ne.symm (Nat.ne_of_lt (Nat.lt_of_lt_of_le pr0.lt (Nat.le_of_eq g5.symm))))).lt (Nat.le_of_eq g12.symm)))))
  obtain ⟨clq51, Arq51, ckq51, cSq51, cNq51, cHq51, cGq51⟩ := id f50
  obtain ⟨T52, h52, X52', e52, W52, st52⟩ := stI X47 hx hZ e47 Arq51 (j := (1 : Int32)) (inb_of cSq51 ⟨by decide, by decide⟩) (g := (mkF m 38 #[.val (.ref a1), .val (.int (4 : Int32)), .val (.int (1 : Int32))] [(.int (1 : Int32)), (.int (1 : Int32)), (.ref b12)])) rfl rfl (hb hby d1_38)
  obtain ⟨lc52, X52, N52⟩ : ∃ lc, Stand p l e ({ frames := 1, cells := 2, slots := 8, locals := 12 } : Room) s m #[(.ref a1), (.int (4 : Int32))] below meth c T52 lc 2 8 ∧ Fr n0 lc := ⟨_, X52', Fr.snoc X52' N43 (Nat.le_trans Z0 (Nat.le_trans (((Keep.refl h0 [a1]).ext E5).wr W9 (Or.inl (List.mem_of_getElem? (i := 0) rfl))).1 (Nat.le_of_eq g12.symm)))⟩
  have V52 : Arv Z h52 b12 k12 .int (4 : Int32) [(.int (0 : Int32)), (.int (1 : Int32)), (.int (0 : Int32)), (.int (0 : Int32))] (.int (0 : Int32)) := Arv.set Arq51 ckq51 cSq51 cNq51 cHq51 cGq51 rfl W52 1 rfl (Nat.le_of_ble_eq_true rfl)
  have K53 : Gx p e below s₁ f0 T52 (mkF m 39 #[.val (.ref a1), .val (.int (4 : Int32)), .val (.int (1 : Int32))] []) := fun t kt => K49 t (st52 t kt)
  have K54 : Gx p e below s₁ f0 T52 (mkF m 26 #[.val (.ref a1), .val (.int (4 : Int32)), .val (.int (2 : Int32))] [(.ref a1)]) := fun t kt => K53 t (by
    show Steps p.tables e below (T52.setTop (mkF m 39 #[.val (.ref a1), .val (.int (4 : Int32)), .val (.int (1 : Int32))] [])) _
    refine XS.iinc X52.here hx rfl (hb hby d1_39) rfl (l' := #[.val (.ref a1), .val (.int (4 : Int32)), .val (.int (2 : Int32))]) rfl ?_
    show Steps p.tables e below (T52.setTop (mkF m 42 #[.val (.ref a1), .val (.int (4 : Int32)), .val (.int (2 : Int32))] [])) _
    refine XS.goto X52.here hx rfl (pc0 := 42) (pc' := 20) rfl (hb hby d1_42) (by decide) (by decide) ?_
    show Steps p.tables e below (T52.setTop (mkF m 20 #[.val (.ref a1), .val (.int (4 : Int32)), .val (.int (2 : Int32))] [])) _
    refine XS.iloadN X52.here hx rfl (hb hby d1_20) rfl ?_
    show Steps p.tables e below (T52.setTop (mkF m 21 #[.val (.ref a1), .val (.int (4 : Int32)), .val (.int (2 : Int32))] [(.int (2 : Int32))])) _
    refine XS.iloadN X52.here hx rfl (hb hby d1_21) rfl ?_
    show Steps p.tables e below (T52.setTop (mkF m 22 #[.val (.ref a1), .val (.int (4 : Int32)), .val (.int (2 : Int32))] [(.int (4 : Int32)), (.int (2 : Int32))])) _
    refine XS.icmpNo X52.here hx rfl (hb hby d1_22) rfl (tlt (by decide)).2.1 ?_
    show Steps p.tables e below (T52.setTop (mkF m 25 #[.val (.ref a1), .val (.int (4 : Int32)), .val (.int (2 : Int32))] [])) _
    refine XS.aloadN X52.here hx rfl (hb hby d1_25) rfl rfl ?_
    exact kt)
  have f55 : Fld Z h52 a1 "com/example/tideshift/tideshift/engine/MovingShards" "still" "[I" (.ref b5) := ((f37.other W43 (Or.inl (Nat.ne_of_lt (Nat.lt_of_lt_of_le pr0.lt (Nat.le_of_eq g5.symm))))).other W52 (Or.inl (Nat.ne_of_lt (Nat.lt_of_lt_of_le f9_.lt (Nat.le_of_eq g12.symm)))))
  obtain ⟨T56, X56, e56, st56⟩ := getF X52 hx hZ hown (host := "") (Or.inl (hw _ (List.mem_of_getElem? (i := 10) rfl))) Via.refl e52 f55 (g := (mkF m 26 #[.val (.ref a1), .val (.int (4 : Int32)), .val (.int (2 : Int32))] [(.ref a1)])) rfl rfl (hb hby d1_26)
  have K57 : Gx p e below s₁ f0 T56 (mkF m 29 #[.val (.ref a1), .val (.int (4 : Int32)), .val (.int (2 : Int32))] [(.ref b5)]) := fun t kt => K54 t (st56 t kt)
  have K58 : Gx p e below s₁ f0 T56 (mkF m 31 #[.val (.ref a1), .val (.int (4 : Int32)), .val (.int (2 : Int32))] [(.int (2 : Int32)), (.int (2 : Int32)), (.ref b5)]) := fun t kt => K57 t (by
    show Steps p.tables e below (T56.setTop (mkF m 29 #[.val (.ref a1), .val (.int (4 : Int32)), .val (.int (2 : Int32))] [(.ref b5)])) _
    refine XS.iloadN X56.here hx rfl (hb hby d1_29) rfl ?_
    show Steps p.tables e below (T56.setTop (mkF m 30 #[.val (.ref a1), .val (.int (4 : Int32)), .val (.int (2 : Int32))] [(.int (2 : Int32)), (.ref b5)])) _
    refine XS.iloadN X56.here hx rfl (hb hby d1_30) rfl ?_
    exact kt)
  have f59 : Arv Z h52 b5 k5 .int (4 : Int32) [(.int (0 : Int32)), (.int (1 : Int32)), (.int (0 : Int32)), (.int (0 : Int32))] (.int (0 : Int32)) := (V43.other W52 (Nat.ne_of_lt (Nat.lt_of_lt_of_le (V5.other W9 (Ne.symm (Nat.ne_of_lt (Nat.lt_of_lt_of_le pr0.lt (Nat.le_of_eq g5.symm))))).lt (Nat.le_of_eq g12.symm))))
  obtain ⟨clq60, Arq60, ckq60, cSq60, cNq60, cHq60, cGq60⟩ := id f59
  obtain ⟨T61, h61, X61', e61, W61, st61⟩ := stI X56 hx hZ e56 Arq60 (j := (2 : Int32)) (inb_of cSq60 ⟨by decide, by decide⟩) (g := (mkF m 31 #[.val (.ref a1), .val (.int (4 : Int32)), .val (.int (2 : Int32))] [(.int (2 : Int32)), (.int (2 : Int32)), (.ref b5)])) rfl rfl (hb hby d1_31)
  obtain ⟨lc61, X61, N61⟩ : ∃ lc, Stand p l e ({ frames := 1, cells := 2, slots := 8, locals := 12 } : Room) s m #[(.ref a1), (.int (4 : Int32))] below meth c T61 lc 2 8 ∧ Fr n0 lc := ⟨_, X61', Fr.snoc X61' N52 (Nat.le_trans Z0 (Nat.le_trans (Keep.refl h0 [a1]).1 (Nat.le_of_eq g5.symm)))⟩
  have V61 : Arv Z h61 b5 k5 .int (4 : Int32) [(.int (0 : Int32)), (.int (1 : Int32)), (.int (2 : Int32)), (.int (0 : Int32))] (.int (0 : Int32)) := Arv.set Arq60 ckq60 cSq60 cNq60 cHq60 cGq60 rfl W61 2 rfl (Nat.le_of_ble_eq_true rfl)
  have K62 : Gx p e below s₁ f0 T61 (mkF m 32 #[.val (.ref a1), .val (.int (4 : Int32)), .val (.int (2 : Int32))] []) := fun t kt => K58 t (st61 t kt)
  have K63 : Gx p e below s₁ f0 T61 (mkF m 33 #[.val (.ref a1), .val (.int (4 : Int32)), .val (.int (2 : Int32))] [(.ref a1)]) := fun t kt => K62 t (by
    show Steps p.tables e below (T61.setTop (mkF m 32 #[.val (.ref a1), .val (.int (4 : Int32)), .val (.int (2 : Int32))] [])) _
    refine XS.aloadN X61.here hx rfl (hb hby d1_32) rfl rfl ?_
    exact kt)
  have f64 : Fld Z h61 a1 "com/example/tideshift/tideshift/engine/MovingShards" "placeOf" "[I" (.ref b12) := ((f46.other W52 (Or.inl (Nat.ne_of_lt (Nat.lt_of_lt_of_le f9_.lt (Nat.le_of_eq g12.symm))))).other W61 (Or.inl (Nat.ne_of_lt (Nat.lt_of_lt_of_le pr0.lt (Nat.le_of_eq g5.symm)))))
  obtain ⟨T65, X65, e65, st65⟩ := getF X61 hx hZ hown (host := "") (Or.inl (hw _ (List.mem_of_getElem? (i := 12) rfl))) Via.refl e61 f64 (g := (mkF m 33 #[.val (.ref a1), .val (.int (4 : Int32)), .val (.int (2 : Int32))] [(.ref a1)])) rfl rfl (hb hby d1_33)
  have K66 : Gx p e below s₁ f0 T65 (mkF m 36 #[.val (.ref a1), .val (.int (4 : Int32)), .val (.int (2 : Int32))] [(.ref b12)]) := fun t kt => K63 t (st65 t kt)
  have K67 : Gx p e below s₁ f0 T65 (mkF m 38 #[.val (.ref a1), .val (.int (4 : Int32)), .val (.int (2 : Int32))] [(.int (2 : Int32)), (.int (2 : Int32)), (.ref b12)]) := fun t kt => K66 t (by
    show Steps p.tables e below (T65.setTop (mkF m 36 #[.val (.ref a1), .val (.int (4 : Int32)), .val (.int (2 : Int32))] [(.ref b12)])) _
    refine XS.iloadN X65.here hx rfl (hb hby d1_36) rfl ?_
    show Steps p.tables e below (T65.setTop (mkF m 37 #[.val (.ref a1), .val (.int (4 : Int32)), .val (.int (2 : Int32))] [(.int (2 : Int32)), (.ref b12)])) _
    refine XS.iloadN X65.here hx rfl (hb hby d1_37) rfl ?_
    exact kt)
  have f68 : Arv Z h61 b12 k12 .int (4 : Int32) [(.int (0 : Int32)), (.int (1 : Int32)), (.int (0 : Int32)), (.int (0 : Int32))] (.int (0 : Int32)) := (V52.other W61 (Ne.symm (Nat.ne_of_lt (Nat.lt_of_lt_of_le (V5.other W9 (Ne.symm (Nat.ne_of_lt (Nat.lt_of_lt_of_le pr0.lt (Nat.le_of_eq g5.symm))))).lt (Nat.le_of_eq g12.symm)))))
  obtain ⟨clq69, Arq69, ckq69, cSq69, cNq69, cHq69, cGq69⟩ := id f68
  obtain ⟨T70, h70, X70', e70, W70, st70⟩ := stI X65 hx hZ e65 Arq69 (j := (2 : Int32)) (inb_of cSq69 ⟨by decide, by decide⟩) (g := (mkF m 38 #[.val (.ref a1), .val (.int (4 : Int32)), .val (.int (2 : Int32))] [(.int (2 : Int32)), (.int (2 : Int32)), (.ref b12)])) rfl rfl (hb hby d1_38)
  obtain ⟨lc70, X70, N70⟩ : ∃ lc, Stand p l e ({ frames := 1, cells := 2, slots := 8, locals := 12 } : Room) s m #[(.ref a1), (.int (4 : Int32))] below meth c T70 lc 2 8 ∧ Fr n0 lc := ⟨_, X70', Fr.snoc X70' N61 (Nat.le_trans Z0 (Nat.le_trans (((Keep.refl h0 [a1]).ext E5).wr W9 (Or.inl (List.mem_of_getElem? (i := 0) rfl))).1 (Nat.le_of_eq g12.symm)))⟩
  have V70 : Arv Z h70 b12 k12 .int (4 : Int32) [(.int (0 : Int32)), (.int (1 : Int32)), (.int (2 : Int32)), (.int (0 : Int32))] (.int (0 : Int32)) := Arv.set Arq69 ckq69 cSq69 cNq69 cHq69 cGq69 rfl W70 2 rfl (Nat.le_of_ble_eq_true rfl)
  have K71 : Gx p e below s₁ f0 T70 (mkF m 39 #[.val (.ref a1), .val (.int (4 : Int32)), .val (.int (2 : Int32))] []) := fun t kt => K67 t (st70 t kt)
  have K72 : Gx p e below s₁ f0 T70 (mkF m 26 #[.val (.ref a1), .val (.int (4 : Int32)), .val (.int (3 : Int32))] [(.ref a1)]) := fun t kt => K71 t (by
    show Steps p.tables e below (T70.setTop (mkF m 39 #[.val (.ref a1), .val (.int (4 : Int32)), .val (.int (2 : Int32))] [])) _
    refine XS.iinc X70.here hx rfl (hb hby d1_39) rfl (l' := #[.val (.ref a1), .val (.int (4 : Int32)), .val (.int (3 : Int32))]) rfl ?_
    show Steps p.tables e below (T70.setTop (mkF m 42 #[.val (.ref a1), .val (.int (4 : Int32)), .val (.int (3 : Int32))] [])) _
    refine XS.goto X70.here hx rfl (pc0 := 42) (pc' := 20) rfl (hb hby d1_42) (by decide) (by decide) ?_
    show Steps p.tables e below (T70.setTop (mkF m 20 #[.val (.ref a1), .val (.int (4 : Int32)), .val (.int (3 : Int32))] [])) _
    refine XS.iloadN X70.here hx rfl (hb hby d1_20) rfl ?_
    show Steps p.tables e below (T70.setTop (mkF m 21 #[.val (.ref a1), .val (.int (4 : Int32)), .val (.int (3 : Int32))] [(.int (3 : Int32))])) _
    refine XS.iloadN X70.here hx rfl (hb hby d1_21) rfl ?_
    show Steps p.tables e below (T70.setTop (mkF m 22 #[.val (.ref a1), .val (.int (4 : Int32)), .val (.int (3 : Int32))] [(.int (4 : Int32)), (.int (3 : Int32))])) _
    refine XS.icmpNo X70.here hx rfl (hb hby d1_22) rfl (tlt (by decide)).2.1 ?_
    show Steps p.tables e below (T70.setTop (mkF m 25 #[.val (.ref a1), .val (.int (4 : Int32)), .val (.int (3 : Int32))] [])) _
    refine XS.aloadN X70.here hx rfl (hb hby d1_25) rfl rfl ?_
    exact kt)
  have f73 : Fld Z h70 a1 "com/example/tideshift/tideshift/engine/MovingShards" "still" "[I" (.ref b5) := ((f55.other W61 (Or.inl (Nat.ne_of_lt (Nat.lt_of_lt_of_le pr0.lt (Nat.le_of_eq g5.symm))))).other W70 (Or.inl (Nat.ne_of_lt (Nat.lt_of_lt_of_le f9_.lt (Nat.le_of_eq g12.symm)))))
  obtain ⟨T74, X74, e74, st74⟩ := getF X70 hx hZ hown (host := "") (Or.inl (hw _ (List.mem_of_getElem? (i := 10) rfl))) Via.refl e70 f73 (g := (mkF m 26 #[.val (.ref a1), .val (.int (4 : Int32)), .val (.int (3 : Int32))] [(.ref a1)])) rfl rfl (hb hby d1_26)
  have K75 : Gx p e below s₁ f0 T74 (mkF m 29 #[.val (.ref a1), .val (.int (4 : Int32)), .val (.int (3 : Int32))] [(.ref b5)]) := fun t kt => K72 t (st74 t kt)
  have K76 : Gx p e below s₁ f0 T74 (mkF m 31 #[.val (.ref a1), .val (.int (4 : Int32)), .val (.int (3 : Int32))] [(.int (3 : Int32)), (.int (3 : Int32)), (.ref b5)]) := fun t kt => K75 t (by
    show Steps p.tables e below (T74.setTop (mkF m 29 #[.val (.ref a1), .val (.int (4 : Int32)), .val (.int (3 : Int32))] [(.ref b5)])) _
    refine XS.iloadN X74.here hx rfl (hb hby d1_29) rfl ?_
    show Steps p.tables e below (T74.setTop (mkF m 30 #[.val (.ref a1), .val (.int (4 : Int32)), .val (.int (3 : Int32))] [(.int (3 : Int32)), (.ref b5)])) _
    refine XS.iloadN X74.here hx rfl (hb hby d1_30) rfl ?_
    exact kt)
  have f77 : Arv Z h70 b5 k5 .int (4 : Int32) [(.int (0 : Int32)), (.int (1 : Int32)), (.int (2 : Int32)), (.int (0 : Int32))] (.int (0 : Int32)) := (V61.other W70 (Nat.ne_of_lt (Nat.lt_of_lt_of_le (V5.other W9 (Ne.symm (Nat.ne_of_lt (Nat.lt_of_lt_of_le pr0.lt (Nat.le_of_eq g5.symm))))).lt (Nat.le_of_eq g12.symm))))
  obtain ⟨clq78, Arq78, ckq78, cSq78, cNq78, cHq78, cGq78⟩ := id f77
  obtain ⟨T79, h79, X79', e79, W79, st79⟩ := stI X74 hx hZ e74 Arq78 (j := (3 : Int32)) (inb_of cSq78 ⟨by decide, by decide⟩) (g := (mkF m 31 #[.val (.ref a1), .val (.int (4 : Int32)), .val (.int (3 : Int32))] [(.int (3 : Int32)), (.int (3 : Int32)), (.ref b5)])) rfl rfl (hb hby d1_31)
  obtain ⟨lc79, X79, N79⟩ : ∃ lc, Stand p l e ({ frames := 1, cells := 2, slots := 8, locals := 12 } : Room) s m #[(.ref a1), (.int (4 : Int32))] below meth c T79 lc 2 8 ∧ Fr n0 lc := ⟨_, X79', Fr.snoc X79' N70 (Nat.le_trans Z0 (Nat.le_trans (Keep.refl h0 [a1]).1 (Nat.le_of_eq g5.symm)))⟩
  have V79 : Arv Z h79 b5 k5 .int (4 : Int32) [(.int (0 : Int32)), (.int (1 : Int32)), (.int (2 : Int32)), (.int (3 : Int32))] (.int (0 : Int32)) := Arv.set Arq78 ckq78 cSq78 cNq78 cHq78 cGq78 rfl W79 3 rfl (Nat.le_of_ble_eq_true rfl)
  have K80 : Gx p e below s₁ f0 T79 (mkF m 32 #[.val (.ref a1), .val (.int (4 : Int32)), .val (.int (3 : Int32))] []) := fun t kt => K76 t (st79 t kt)
  have K81 : Gx p e below s₁ f0 T79 (mkF m 33 #[.val (.ref a1), .val (.int (4 : Int32)), .val (.int (3 : Int32))] [(.ref a1)]) := fun t kt => K80 t (by
    show Steps p.tables e below (T79.setTop (mkF m 32 #[.val (.ref a1), .val (.int (4 : Int32)), .val (.int (3 : Int32))] [])) _
    refine XS.aloadN X79.here hx rfl (hb hby d1_32) rfl rfl ?_
    exact kt)
  have f82 : Fld Z h79 a1 "com/example/tideshift/tideshift/engine/MovingShards" "placeOf" "[I" (.ref b12) := ((f64.other W70 (Or.inl (Nat.ne_of_lt (Nat.lt_of_lt_of_le f9_.lt (Nat.le_of_eq g12.symm))))).other W79 (Or.inl (Nat.ne_of_lt (Nat.lt_of_lt_of_le pr0.lt (Nat.le_of_eq g5.symm)))))
  obtain ⟨T83, X83, e83, st83⟩ := getF X79 hx hZ hown (host := "") (Or.inl (hw _ (List.mem_of_getElem? (i := 12) rfl))) Via.refl e79 f82 (g := (mkF m 33 #[.val (.ref a1), .val (.int (4 : Int32)), .val (.int (3 : Int32))] [(.ref a1)])) rfl rfl (hb hby d1_33)
  have K84 : Gx p e below s₁ f0 T83 (mkF m 36 #[.val (.ref a1), .val (.int (4 : Int32)), .val (.int (3 : Int32))] [(.ref b12)]) := fun t kt => K81 t (st83 t kt)
  have K85 : Gx p e below s₁ f0 T83 (mkF m 38 #[.val (.ref a1), .val (.int (4 : Int32)), .val (.int (3 : Int32))] [(.int (3 : Int32)), (.int (3 : Int32)), (.ref b12)]) := fun t kt => K84 t (by
    show Steps p.tables e below (T83.setTop (mkF m 36 #[.val (.ref a1), .val (.int (4 : Int32)), .val (.int (3 : Int32))] [(.ref b12)])) _
    refine XS.iloadN X83.here hx rfl (hb hby d1_36) rfl ?_
    show Steps p.tables e below (T83.setTop (mkF m 37 #[.val (.ref a1), .val (.int (4 : Int32)), .val (.int (3 : Int32))] [(.int (3 : Int32)), (.ref b12)])) _
    refine XS.iloadN X83.here hx rfl (hb hby d1_37) rfl ?_
    exact kt)
  have f86 : Arv Z h79 b12 k12 .int (4 : Int32) [(.int (0 : Int32)), (.int (1 : Int32)), (.int (2 : Int32)), (.int (0 : Int32))] (.int (0 : Int32)) := (V70.other W79 (Ne.symm (Nat.ne_of_lt (Nat.lt_of_lt_of_le (V5.other W9 (Ne.symm (Nat.ne_of_lt (Nat.lt_of_lt_of_le pr0.lt (Nat.le_of_eq g5.symm))))).lt (Nat.le_of_eq g12.symm)))))
  obtain ⟨clq87, Arq87, ckq87, cSq87, cNq87, cHq87, cGq87⟩ := id f86
  obtain ⟨T88, h88, X88', e88, W88, st88⟩ := stI X83 hx hZ e83 Arq87 (j := (3 : Int32)) (inb_of cSq87 ⟨by decide, by decide⟩) (g := (mkF m 38 #[.val (.ref a1), .val (.int (4 : Int32)), .val (.int (3 : Int32))] [(.int (3 : Int32)), (.int (3 : Int32)), (.ref b12)])) rfl rfl (hb hby d1_38)
  obtain ⟨lc88, X88, N88⟩ : ∃ lc, Stand p l e ({ frames := 1, cells := 2, slots := 8, locals := 12 } : Room) s m #[(.ref a1), (.int (4 : Int32))] below meth c T88 lc 2 8 ∧ Fr n0 lc := ⟨_, X88', Fr.snoc X88' N79 (Nat.le_trans Z0 (Nat.le_trans (((Keep.refl h0 [a1]).ext E5).wr W9 (Or.inl (List.mem_of_getElem? (i := 0) rfl))).1 (Nat.le_of_eq g12.symm)))⟩
  have V88 : Arv Z h88 b12 k12 .int (4 : Int32) [(.int (0 : Int32)), (.int (1 : Int32)), (.int (2 : Int32)), (.int (3 : Int32))] (.int (0 : Int32)) := Arv.set Arq87 ckq87 cSq87 cNq87 cHq87 cGq87 rfl W88 3 rfl (Nat.le_of_ble_eq_true rfl)
  have K89 : Gx p e below s₁ f0 T88 (mkF m 39 #[.val (.ref a1), .val (.int (4 : Int32)), .val (.int (3 : Int32))] []) := fun t kt => K85 t (st88 t kt)
  have K90 : Gx p e below s₁ f0 T88 (mkF m 47 #[.val (.ref a1), .val (.int (4 : Int32)), .val (.int (4 : Int32))] [(.int (4 : Int32)), (.ref a1)]) := fun t kt => K89 t (by
    show Steps p.tables e below (T88.setTop (mkF m 39 #[.val (.ref a1), .val (.int (4 : Int32)), .val (.int (3 : Int32))] [])) _
    refine XS.iinc X88.here hx rfl (hb hby d1_39) rfl (l' := #[.val (.ref a1), .val (.int (4 : Int32)), .val (.int (4 : Int32))]) rfl ?_
    show Steps p.tables e below (T88.setTop (mkF m 42 #[.val (.ref a1), .val (.int (4 : Int32)), .val (.int (4 : Int32))] [])) _
    refine XS.goto X88.here hx rfl (pc0 := 42) (pc' := 20) rfl (hb hby d1_42) (by decide) (by decide) ?_
    show Steps p.tables e below (T88.setTop (mkF m 20 #[.val (.ref a1), .val (.int (4 : Int32)), .val (.int (4 : Int32))] [])) _
    refine XS.iloadN X88.here hx rfl (hb hby d1_20) rfl ?_
    show Steps p.tables e below (T88.setTop (mkF m 21 #[.val (.ref a1), .val (.int (4 : Int32)), .val (.int (4 : Int32))] [(.int (4 : Int32))])) _
    refine XS.iloadN X88.here hx rfl (hb hby d1_21) rfl ?_
    show Steps p.tables e below (T88.setTop (mkF m 22 #[.val (.ref a1), .val (.int (4 : Int32)), .val (.int (4 : Int32))] [(.int (4 : Int32)), (.int (4 : Int32))])) _
    refine XS.icmpYes X88.here hx rfl (pc0 := 22) (pc' := 45) rfl (hb hby d1_22) rfl (flt (by decide)).2.1 (by decide) (by decide) ?_
    show Steps p.tables e below (T88.setTop (mkF m 45 #[.val (.ref a1), .val (.int (4 : Int32)), .val (.int (4 : Int32))] [])) _
    refine XS.aloadN X88.here hx rfl (hb hby d1_45) rfl rfl ?_
    show Steps p.tables e below (T88.setTop (mkF m 46 #[.val (.ref a1), .val (.int (4 : Int32)), .val (.int (4 : Int32))] [(.ref a1)])) _
    refine XS.iloadN X88.here hx rfl (hb hby d1_46) rfl ?_
    exact kt)
  have f91 : Fld Z h88 a1 "com/example/tideshift/tideshift/engine/MovingShards" "stillCount" "I" (.int (0 : Int32)) := ((((((((((((pr4.ext E5).other W9 (Or.inr (slot_ne (Or.inl (hw _ (List.mem_of_getElem? (i := 15) rfl))) (Or.inr (hw _ (List.mem_of_getElem? (i := 11) rfl))) (by decide) (t := .int) (t' := (.array .int)) (by decide) (by decide)))).ext E12).other W16 (Or.inr (slot_ne (Or.inl (hw _ (List.mem_of_getElem? (i := 15) rfl))) (Or.inr (hw _ (List.mem_of_getElem? (i := 13) rfl))) (by decide) (t := .int) (t' := (.array .int)) (by decide) (by decide)))).other W25 (Or.inl (Nat.ne_of_lt (Nat.lt_of_lt_of_le pr0.lt (Nat.le_of_eq g5.symm))))).other W34 (Or.inl (Nat.ne_of_lt (Nat.lt_of_lt_of_le f9_.lt (Nat.le_of_eq g12.symm))))).other W43 (Or.inl (Nat.ne_of_lt (Nat.lt_of_lt_of_le pr0.lt (Nat.le_of_eq g5.symm))))).other W52 (Or.inl (Nat.ne_of_lt (Nat.lt_of_lt_of_le f9_.lt (Nat.le_of_eq g12.symm))))).other W61 (Or.inl (Nat.ne_of_lt (Nat.lt_of_lt_of_le pr0.lt (Nat.le_of_eq g5.symm))))).other W70 (Or.inl (Nat.ne_of_lt (Nat.lt_of_lt_of_le f9_.lt (Nat.le_of_eq g12.symm))))).other W79 (Or.inl (Nat.ne_of_lt (Nat.lt_of_lt_of_le pr0.lt (Nat.le_of_eq g5.symm))))).other W88 (Or.inl (Nat.ne_of_lt (Nat.lt_of_lt_of_le f9_.lt (Nat.le_of_eq g12.symm)))))
  have f92 : Exa Z h88 a1 "com/example/tideshift/tideshift/engine/MovingShards" := (((((((((f15.wr W16).wr W25).wr W34).wr W43).wr W52).wr W61).wr W70).wr W79).wr W88)
  obtain ⟨T93, h93, X93', e93, W93, st93⟩ := putF X88 hx hZ hown (host := "") (Or.inl (hw _ (List.mem_of_getElem? (i := 14) rfl))) Via.refl e88 f91 f92 (Or.inl (hw _ (List.mem_of_getElem? (i := 15) rfl))) (hw _ (List.mem_of_getElem? (i := 1) rfl)) (ty := .int) (by decide) rfl rfl (g := (mkF m 47 #[.val (.ref a1), .val (.int (4 : Int32)), .val (.int (4 : Int32))] [(.int (4 : Int32)), (.ref a1)])) rfl rfl (hb hby d1_47)
  obtain ⟨lc93, X93, N93⟩ : ∃ lc, Stand p l e ({ frames := 1, cells := 2, slots := 8, locals := 12 } : Room) s m #[(.ref a1), (.int (4 : Int32))] below meth c T93 lc 2 8 ∧ Fr n0 lc := ⟨_, X93', Fr.snoc X93' N88 pr1⟩
  have f93_ : Fld Z h93 a1 "com/example/tideshift/tideshift/engine/MovingShards" "stillCount" "I" (.int (4 : Int32)) := f91.same W93
  have K94 : Gx p e below s₁ f0 T93 (mkF m 50 #[.val (.ref a1), .val (.int (4 : Int32)), .val (.int (4 : Int32))] []) := fun t kt => K90 t (st93 t kt)
  have f96 : Fld Z h93 a1 "com/example/tideshift/tideshift/engine/MovingShards" "still" "[I" (.ref b5) := (((f73.other W79 (Or.inl (Nat.ne_of_lt (Nat.lt_of_lt_of_le pr0.lt (Nat.le_of_eq g5.symm))))).other W88 (Or.inl (Nat.ne_of_lt (Nat.lt_of_lt_of_le f9_.lt (Nat.le_of_eq g12.symm))))).other W93 (Or.inr (slot_ne (Or.inr (hw _ (List.mem_of_getElem? (i := 11) rfl))) (Or.inl (hw _ (List.mem_of_getElem? (i := 15) rfl))) (by decide) (t := (.array .int)) (t' := .int) (by decide) (by decide))))
  have f97 : Fld Z h93 a1 "com/example/tideshift/tideshift/engine/MovingShards" "placeOf" "[I" (.ref b12) := ((f82.other W88 (Or.inl (Nat.ne_of_lt (Nat.lt_of_lt_of_le f9_.lt (Nat.le_of_eq g12.symm))))).other W93 (Or.inr (slot_ne (Or.inr (hw _ (List.mem_of_getElem? (i := 13) rfl))) (Or.inl (hw _ (List.mem_of_getElem? (i := 15) rfl))) (by decide) (t := (.array .int)) (t' := .int) (by decide) (by decide))))
  have f98 : Arv Z h93 b5 k5 .int (4 : Int32) [(.int (0 : Int32)), (.int (1 : Int32)), (.int (2 : Int32)), (.int (3 : Int32))] (.int (0 : Int32)) := ((V79.other W88 (Nat.ne_of_lt (Nat.lt_of_lt_of_le (V5.other W9 (Ne.symm (Nat.ne_of_lt (Nat.lt_of_lt_of_le pr0.lt (Nat.le_of_eq g5.symm))))).lt (Nat.le_of_eq g12.symm)))).other W93 (Ne.symm (Nat.ne_of_lt (Nat.lt_of_lt_of_le pr0.lt (Nat.le_of_eq g5.symm)))))
  have f99 : Arv Z h93 b12 k12 .int (4 : Int32) [(.int (0 : Int32)), (.int (1 : Int32)), (.int (2 : Int32)), (.int (3 : Int32))] (.int (0 : Int32)) := (V88.other W93 (Ne.symm (Nat.ne_of_lt (Nat.lt_of_lt_of_le f9_.lt (Nat.le_of_eq g12.symm)))))
  have kp100 : Keep h0 h93 [a1] := ((((((((((((((Keep.refl h0 [a1]).ext E5).wr W9 (Or.inl (List.mem_of_getElem? (i := 0) rfl))).ext E12).wr W16 (Or.inl (List.mem_of_getElem? (i := 0) rfl))).wr W25 (Or.inr (Nat.le_trans (Keep.refl h0 [a1]).1 (Nat.le_of_eq g5.symm)))).wr W34 (Or.inr (Nat.le_trans (((Keep.refl h0 [a1]).ext E5).wr W9 (Or.inl (List.mem_of_getElem? (i := 0) rfl))).1 (Nat.le_of_eq g12.symm)))).wr W43 (Or.inr (Nat.le_trans (Keep.refl h0 [a1]).1 (Nat.le_of_eq g5.symm)))).wr W52 (Or.inr (Nat.le_trans (((Keep.refl h0 [a1]).ext E5).wr W9 (Or.inl (List.mem_of_getElem? (i := 0) rfl))).1 (Nat.le_of_eq g12.symm)))).wr W61 (Or.inr (Nat.le_trans (Keep.refl h0 [a1]).1 (Nat.le_of_eq g5.symm)))).wr W70 (Or.inr (Nat.le_trans (((Keep.refl h0 [a1]).ext E5).wr W9 (Or.inl (List.mem_of_getElem? (i := 0) rfl))).1 (Nat.le_of_eq g12.symm)))).wr W79 (Or.inr (Nat.le_trans (Keep.refl h0 [a1]).1 (Nat.le_of_eq g5.symm)))).wr W88 (Or.inr (Nat.le_trans (((Keep.refl h0 [a1]).ext E5).wr W9 (Or.inl (List.mem_of_getElem? (i := 0) rfl))).1 (Nat.le_of_eq g12.symm)))).wr W93 (Or.inl (List.mem_of_getElem? (i := 0) rfl)))
  have f101 : Exa Z h93 a1 "com/example/tideshift/tideshift/engine/MovingShards" := (f92.wr W93)
  obtain ⟨fs95, hr95, hrun95, hended95, hW95, hsame95⟩ := X93.leave (v := none) (fun _ => rfl)
  refine ⟨_, _, pre0 _ (K94 _ ?_), hrun95, hended95, _, _, rfl, ?_, ⟨_, rfl⟩, hW95, hsame95.mono (by decide) (by decide)⟩
  · exact X93.returnOut hx Bd.returns (hb hby d1_50) hr95
  · show QIni4 Z a1 h0 n0 _ T93.heap _
    rw [e93]
    exact ⟨b5, b12, k5, k12, rfl, N93, kp100, f101, f96, f97, f93_, (Nat.le_trans (Keep.refl h0 [a1]).1 (Nat.le_of_eq g5.symm)), (Nat.le_trans (((Keep.refl h0 [a1]).ext E5).wr W9 (Or.inl (List.mem_of_getElem? (i := 0) rfl))).1 (Nat.le_of_eq g12.symm)), (Nat.ne_of_lt (Nat.lt_of_lt_of_le (V5.other W9 (Ne.symm (Nat.ne_of_lt (Nat.lt_of_lt_of_le pr0.lt (Nat.le_of_eq g5.symm))))).lt (Nat.le_of_eq g12.symm))), f98, f99⟩
theorem d5_0 : decode prog_56_method_8_code 0 = .ok (.aload_n 0, 1) := by decide +kernel
theorem d5_1 : decode prog_56_method_8_code 1 = .ok (.getfield 7, 3) := by decide +kernel
theorem d5_4 : decode prog_56_method_8_code 4 = .ok (.iload_n 1, 1) := by decide +kernel
theorem d5_5 : decode prog_56_method_8_code 5 = .ok (.iaload, 1) := by decide +kernel
theorem d5_6 : decode prog_56_method_8_code 6 = .ok (.istore_n 3, 1) := by decide +kernel
theorem d5_7 : decode prog_56_method_8_code 7 = .ok (.aload_n 0, 1) := by decide +kernel
theorem d5_8 : decode prog_56_method_8_code 8 = .ok (.getfield 7, 3) := by decide +kernel
theorem d5_11 : decode prog_56_method_8_code 11 = .ok (.iload_n 2, 1) := by decide +kernel
theorem d5_12 : decode prog_56_method_8_code 12 = .ok (.iaload, 1) := by decide +kernel
theorem d5_13 : decode prog_56_method_8_code 13 = .ok (.istore 4, 2) := by decide +kernel
theorem d5_15 : decode prog_56_method_8_code 15 = .ok (.aload_n 0, 1) := by decide +kernel
theorem d5_16 : decode prog_56_method_8_code 16 = .ok (.getfield 7, 3) := by decide +kernel
theorem d5_19 : decode prog_56_method_8_code 19 = .ok (.iload_n 1, 1) := by decide +kernel
theorem d5_20 : decode prog_56_method_8_code 20 = .ok (.iload 4, 2) := by decide +kernel
theorem d5_22 : decode prog_56_method_8_code 22 = .ok (.iastore, 1) := by decide +kernel
theorem d5_23 : decode prog_56_method_8_code 23 = .ok (.aload_n 0, 1) := by decide +kernel
theorem d5_24 : decode prog_56_method_8_code 24 = .ok (.getfield 13, 3) := by decide +kernel
theorem d5_27 : decode prog_56_method_8_code 27 = .ok (.iload 4, 2) := by decide +kernel
theorem d5_29 : decode prog_56_method_8_code 29 = .ok (.iload_n 1, 1) := by decide +kernel
theorem d5_30 : decode prog_56_method_8_code 30 = .ok (.iastore, 1) := by decide +kernel
theorem d5_31 : decode prog_56_method_8_code 31 = .ok (.aload_n 0, 1) := by decide +kernel
theorem d5_32 : decode prog_56_method_8_code 32 = .ok (.getfield 7, 3) := by decide +kernel
theorem d5_35 : decode prog_56_method_8_code 35 = .ok (.iload_n 2, 1) := by decide +kernel
theorem d5_36 : decode prog_56_method_8_code 36 = .ok (.iload_n 3, 1) := by decide +kernel
theorem d5_37 : decode prog_56_method_8_code 37 = .ok (.iastore, 1) := by decide +kernel
theorem d5_38 : decode prog_56_method_8_code 38 = .ok (.aload_n 0, 1) := by decide +kernel
theorem d5_39 : decode prog_56_method_8_code 39 = .ok (.getfield 13, 3) := by decide +kernel
theorem d5_42 : decode prog_56_method_8_code 42 = .ok (.iload_n 3, 1) := by decide +kernel
theorem d5_43 : decode prog_56_method_8_code 43 = .ok (.iload_n 2, 1) := by decide +kernel
theorem d5_44 : decode prog_56_method_8_code 44 = .ok (.iastore, 1) := by decide +kernel
theorem d5_45 : decode prog_56_method_8_code 45 = .ok (.return_, 1) := by decide +kernel
theorem pn_5 : plainName "com/example/tideshift/tideshift/engine/MovingShards" = true := by first | (simp [plainName, overriddenIn]; done) | decide +kernel
theorem ef_Swp (m : MethodId) (a1 : Addr) (p1 : Int32) (p2 : Int32) : entryFrame m #[(.ref a1), (.int p1), (.int p2)] 5 = mkF m 0 #[.val (.ref a1), .val (.int p1), .val (.int p2), .unset, .unset] [] := by first | (simp [entryFrame, mkF, argsToLocals, Value.category]; done) | rfl
def QSwp (Z : State) (a1 : Addr) (p1 : Int32) (p2 : Int32) (aS : Addr) (aP : Addr) (kS : ClassId) (kP : ClassId) (n : Nat) (st : List Nat) (pl : List Nat) (a : Nat) (b : Nat) (h0 : Heap) (n0 : Nat) (v : Option Value) (h : Heap) (L : List Loc) : Prop := v = none ∧ Fr n0 L ∧ Keep h0 h [aS, aP] ∧ Arv Z h aS kS .int (Int32.ofNat n) (lst (swS st a b)) (.int (0 : Int32)) ∧ Arv Z h aP kP .int (Int32.ofNat n) (lst (swP st pl a b)) (.int (0 : Int32))
set_option maxRecDepth 65536 in
set_option maxHeartbeats 40000000 in
theorem rmSwp (l : Launch) (Z : State) (a0 : Array Value) (hw : ∀ d ∈ tables_1, d.before a0 Z = true) (ws : List Jvm.Cond) (a1 : Addr) (p1 : Int32) (p2 : Int32) (aS : Addr) (aP : Addr) (kS : ClassId) (kP : ClassId) (n : Nat) (st : List Nat) (pl : List Nat) (a : Nat) (b : Nat) (h0 : Heap) (n0 : Nat) (Z0 : n0 ≤ h0.size) (pr0 : Exa Z h0 a1 "com/example/tideshift/tideshift/engine/MovingShards") (pr1 : Fld Z h0 a1 "com/example/tideshift/tideshift/engine/MovingShards" "still" "[I" (.ref aS)) (pr2 : Fld Z h0 a1 "com/example/tideshift/tideshift/engine/MovingShards" "placeOf" "[I" (.ref aP)) (pr3 : Arv Z h0 aS kS .int (Int32.ofNat n) (lst st) (.int (0 : Int32))) (pr4 : Arv Z h0 aP kP .int (Int32.ofNat n) (lst pl) (.int (0 : Int32))) (pr5 : n0 ≤ aS) (pr6 : n0 ≤ aP) (pr7 : a1 ≠ aS) (pr8 : a1 ≠ aP) (pr9 : aS ≠ aP) (hn : n ≤ 4) (ha : p1 = Int32.ofNat a) (hb_ : p2 = Int32.ofNat b) (hok : a < n ∧ b < n ∧ st.length = n ∧ pl.length = n ∧ st.getD a 0 < n ∧ st.getD b 0 < n) :
    MetFree l (⟨"com/example/tideshift/tideshift/engine/MovingShards", "swap", "(II)V"⟩ : MethodName) (head1 (Jvm.Cond.code (⟨"com/example/tideshift/tideshift/engine/MovingShards", "swap", "(II)V"⟩ : MethodName) prog_56_method_8_code 5 none :: ws) ({ frames := 0, cells := 0, slots := 0, locals := 0 } : Room)) (fun a U => a = #[(.ref a1), (.int p1), (.int p2)] ∧ Z.Warmed39 U.vm ∧ U.heap = h0) (fun _ _ _ _ _ => True) (fun _ U o U' => ∃ v L, o = .returned v ∧ QSwp Z a1 p1 p2 aS aP kS kP n st pl a b h0 n0 v U'.heap L ∧ FrameEnd U o U' L ({ frames := 0, cells := 0, slots := 0, locals := 0 } : Room).cells ({ frames := 0, cells := 0, slots := 0, locals := 0 } : Room).slots) := by
  refine MetFree.of_bodySF (plainFor_of_name pn_5) hisR ?_
  intro p e s m args below meth c s₁ Bd hml0 hP hK
  obtain ⟨rfl, hZ, hh⟩ := hP
  have hx := Bd.exec
  have hby := Bd.bytes
  have hml : c.maxLocals = 5 := hml0
  have hown : s.vm.findClass "com/example/tideshift/tideshift/engine/MovingShards" = some m.cls := findClass_of_methodNamed Bd.named
  have hnm := (name_of_methodNamed Bd.named Bd.method).1
  have X0 : Stand p l e ({ frames := 0, cells := 0, slots := 0, locals := 0 } : Room) s m #[(.ref a1), (.int p1), (.int p2)] below meth c s₁ [] 0 0 := Stand.of_body Bd
  have hs0 : h0 = s.heap := hh.symm
  have e0 : s₁.heap = h0 := by rw [← hh, Bd.state]; rfl
  have N0 := Fr.nil n0
  obtain ⟨f0, hf0⟩ : ∃ f, f = entryFrame m #[(.ref a1), (.int p1), (.int p2)] 5 := ⟨_, rfl⟩
  have pre0 : ∀ t, Steps p.tables e below (s₁.setTop f0) t → Steps p.tables e below (s₁.setTop (entryFrame m #[(.ref a1), (.int p1), (.int p2)] 5)) t := fun t k => hf0 ▸ k
  have K0 : Gx p e below s₁ f0 s₁ (mkF m 0 #[.val (.ref a1), .val (.int p1), .val (.int p2), .unset, .unset] []) := fun t kt => by rw [hf0]; exact castTop (ef_Swp m a1 p1 p2) kt
  obtain ⟨hA, hB, hSl, hPl, hTa, hTb⟩ := hok
  rw [ha] at K0
  rw [hb_] at K0
  have K1 : Gx p e below s₁ f0 s₁ (mkF m 1 #[.val (.ref a1), .val (.int (Int32.ofNat a)), .val (.int (Int32.ofNat b)), .unset, .unset] [(.ref a1)]) := fun t kt => K0 t (by
    show Steps p.tables e below (s₁.setTop (mkF m 0 #[.val (.ref a1), .val (.int (Int32.ofNat a)), .val (.int (Int32.ofNat b)), .unset, .unset] [])) _
    refine XS.aloadN X0.here hx rfl (hb hby d5_0) rfl rfl ?_
    exact kt)
  obtain ⟨T2, X2, e2, st2⟩ := getF X0 hx hZ hown (host := "") (Or.inl (hw _ (List.mem_of_getElem? (i := 10) rfl))) Via.refl e0 pr1 (g := (mkF m 1 #[.val (.ref a1), .val (.int (Int32.ofNat a)), .val (.int (Int32.ofNat b)), .unset, .unset] [(.ref a1)])) rfl rfl (hb hby d5_1)
  have K3 : Gx p e below s₁ f0 T2 (mkF m 4 #[.val (.ref a1), .val (.int (Int32.ofNat a)), .val (.int (Int32.ofNat b)), .unset, .unset] [(.ref aS)]) := fun t kt => K1 t (st2 t kt)
  obtain ⟨clq4, Arq4, ckq4, cSq4, cNq4, cHq4, cGq4⟩ := id pr3
  have K5 : Gx p e below s₁ f0 T2 (mkF m 8 #[.val (.ref a1), .val (.int (Int32.ofNat a)), .val (.int (Int32.ofNat b)), .val (.int (Int32.ofNat (st.getD a 0))), .unset] [(.ref a1)]) := fun t kt => K3 t (by
    show Steps p.tables e below (T2.setTop (mkF m 4 #[.val (.ref a1), .val (.int (Int32.ofNat a)), .val (.int (Int32.ofNat b)), .unset, .unset] [(.ref aS)])) _
    refine XS.iloadN X2.here hx rfl (hb hby d5_4) rfl ?_
    show Steps p.tables e below (T2.setTop (mkF m 5 #[.val (.ref a1), .val (.int (Int32.ofNat a)), .val (.int (Int32.ofNat b)), .unset, .unset] [(.int (Int32.ofNat a)), (.ref aS)])) _
    refine X2.iaload hx (j := (Int32.ofNat a)) (v := (.int (Int32.ofNat (st.getD a 0)))) (by rw [e2]; exact Arq4.1) (State.isArrayOf_alike hZ.alike Arq4.2.1) Arq4.2.2 (inb_of cSq4 (own_in hA hn)) (Has.at cHq4 (inb_of cSq4 (own_in hA hn)) (own_rd hSl hA hn)) (g := (mkF m 5 #[.val (.ref a1), .val (.int (Int32.ofNat a)), .val (.int (Int32.ofNat b)), .unset, .unset] [(.int (Int32.ofNat a)), (.ref aS)])) rfl rfl (hb hby d5_5) _ ?_
    show Steps p.tables e below (T2.setTop (mkF m 6 #[.val (.ref a1), .val (.int (Int32.ofNat a)), .val (.int (Int32.ofNat b)), .unset, .unset] [(.int (Int32.ofNat (st.getD a 0)))])) _
    refine XS.istoreN X2.here hx rfl (hb hby d5_6) rfl (l' := #[.val (.ref a1), .val (.int (Int32.ofNat a)), .val (.int (Int32.ofNat b)), .val (.int (Int32.ofNat (st.getD a 0))), .unset]) rfl ?_
    show Steps p.tables e below (T2.setTop (mkF m 7 #[.val (.ref a1), .val (.int (Int32.ofNat a)), .val (.int (Int32.ofNat b)), .val (.int (Int32.ofNat (st.getD a 0))), .unset] [])) _
    refine XS.aloadN X2.here hx rfl (hb hby d5_7) rfl rfl ?_
    exact kt)
  obtain ⟨T6, X6, e6, st6⟩ := getF X2 hx hZ hown (host := "") (Or.inl (hw _ (List.mem_of_getElem? (i := 10) rfl))) Via.refl e2 pr1 (g := (mkF m 8 #[.val (.ref a1), .val (.int (Int32.ofNat a)), .val (.int (Int32.ofNat b)), .val (.int (Int32.ofNat (st.getD a 0))), .unset] [(.ref a1)])) rfl rfl (hb hby d5_8)
  have K7 : Gx p e below s₁ f0 T6 (mkF m 11 #[.val (.ref a1), .val (.int (Int32.ofNat a)), .val (.int (Int32.ofNat b)), .val (.int (Int32.ofNat (st.getD a 0))), .unset] [(.ref aS)]) := fun t kt => K5 t (st6 t kt)
  have K8 : Gx p e below s₁ f0 T6 (mkF m 16 #[.val (.ref a1), .val (.int (Int32.ofNat a)), .val (.int (Int32.ofNat b)), .val (.int (Int32.ofNat (st.getD a 0))), .val (.int (Int32.ofNat (st.getD b 0)))] [(.ref a1)]) := fun t kt => K7 t (by
    show Steps p.tables e below (T6.setTop (mkF m 11 #[.val (.ref a1), .val (.int (Int32.ofNat a)), .val (.int (Int32.ofNat b)), .val (.int (Int32.ofNat (st.getD a 0))), .unset] [(.ref aS)])) _
    refine XS.iloadN X6.here hx rfl (hb hby d5_11) rfl ?_
    show Steps p.tables e below (T6.setTop (mkF m 12 #[.val (.ref a1), .val (.int (Int32.ofNat a)), .val (.int (Int32.ofNat b)), .val (.int (Int32.ofNat (st.getD a 0))), .unset] [(.int (Int32.ofNat b)), (.ref aS)])) _
    refine X6.iaload hx (j := (Int32.ofNat b)) (v := (.int (Int32.ofNat (st.getD b 0)))) (by rw [e6]; exact Arq4.1) (State.isArrayOf_alike hZ.alike Arq4.2.1) Arq4.2.2 (inb_of cSq4 (own_in hB hn)) (Has.at cHq4 (inb_of cSq4 (own_in hB hn)) (own_rd hSl hB hn)) (g := (mkF m 12 #[.val (.ref a1), .val (.int (Int32.ofNat a)), .val (.int (Int32.ofNat b)), .val (.int (Int32.ofNat (st.getD a 0))), .unset] [(.int (Int32.ofNat b)), (.ref aS)])) rfl rfl (hb hby d5_12) _ ?_
    show Steps p.tables e below (T6.setTop (mkF m 13 #[.val (.ref a1), .val (.int (Int32.ofNat a)), .val (.int (Int32.ofNat b)), .val (.int (Int32.ofNat (st.getD a 0))), .unset] [(.int (Int32.ofNat (st.getD b 0)))])) _
    refine XS.istore X6.here hx rfl (hb hby d5_13) rfl (l' := #[.val (.ref a1), .val (.int (Int32.ofNat a)), .val (.int (Int32.ofNat b)), .val (.int (Int32.ofNat (st.getD a 0))), .val (.int (Int32.ofNat (st.getD b 0)))]) rfl ?_
    show Steps p.tables e below (T6.setTop (mkF m 15 #[.val (.ref a1), .val (.int (Int32.ofNat a)), .val (.int (Int32.ofNat b)), .val (.int (Int32.ofNat (st.getD a 0))), .val (.int (Int32.ofNat (st.getD b 0)))] [])) _
    refine XS.aloadN X6.here hx rfl (hb hby d5_15) rfl rfl ?_
    exact kt)
  obtain ⟨T9, X9, e9, st9⟩ := getF X6 hx hZ hown (host := "") (Or.inl (hw _ (List.mem_of_getElem? (i := 10) rfl))) Via.refl e6 pr1 (g := (mkF m 16 #[.val (.ref a1), .val (.int (Int32.ofNat a)), .val (.int (Int32.ofNat b)), .val (.int (Int32.ofNat (st.getD a 0))), .val (.int (Int32.ofNat (st.getD b 0)))] [(.ref a1)])) rfl rfl (hb hby d5_16)
  have K10 : Gx p e below s₁ f0 T9 (mkF m 19 #[.val (.ref a1), .val (.int (Int32.ofNat a)), .val (.int (Int32.ofNat b)), .val (.int (Int32.ofNat (st.getD a 0))), .val (.int (Int32.ofNat (st.getD b 0)))] [(.ref aS)]) := fun t kt => K8 t (st9 t kt)
  have K11 : Gx p e below s₁ f0 T9 (mkF m 22 #[.val (.ref a1), .val (.int (Int32.ofNat a)), .val (.int (Int32.ofNat b)), .val (.int (Int32.ofNat (st.getD a 0))), .val (.int (Int32.ofNat (st.getD b 0)))] [(.int (Int32.ofNat (st.getD b 0))), (.int (Int32.ofNat a)), (.ref aS)]) := fun t kt => K10 t (by
    show Steps p.tables e below (T9.setTop (mkF m 19 #[.val (.ref a1), .val (.int (Int32.ofNat a)), .val (.int (Int32.ofNat b)), .val (.int (Int32.ofNat (st.getD a 0))), .val (.int (Int32.ofNat (st.getD b 0)))] [(.ref aS)])) _
    refine XS.iloadN X9.here hx rfl (hb hby d5_19) rfl ?_
    show Steps p.tables e below (T9.setTop (mkF m 20 #[.val (.ref a1), .val (.int (Int32.ofNat a)), .val (.int (Int32.ofNat b)), .val (.int (Int32.ofNat (st.getD a 0))), .val (.int (Int32.ofNat (st.getD b 0)))] [(.int (Int32.ofNat a)), (.ref aS)])) _
    refine XS.iload X9.here hx rfl (hb hby d5_20) rfl ?_
    exact kt)
  obtain ⟨T12, h12, X12', e12, W12, st12⟩ := stI X9 hx hZ e9 Arq4 (j := (Int32.ofNat a)) (inb_of cSq4 (own_in hA hn)) (g := (mkF m 22 #[.val (.ref a1), .val (.int (Int32.ofNat a)), .val (.int (Int32.ofNat b)), .val (.int (Int32.ofNat (st.getD a 0))), .val (.int (Int32.ofNat (st.getD b 0)))] [(.int (Int32.ofNat (st.getD b 0))), (.int (Int32.ofNat a)), (.ref aS)])) rfl rfl (hb hby d5_22)
  obtain ⟨lc12, X12, N12⟩ : ∃ lc, Stand p l e ({ frames := 0, cells := 0, slots := 0, locals := 0 } : Room) s m #[(.ref a1), (.int p1), (.int p2)] below meth c T12 lc 0 0 ∧ Fr n0 lc := ⟨_, X12', Fr.snoc X12' N0 pr5⟩
  have V12 : Arv Z h12 aS kS .int (Int32.ofNat n) ((lst st).set a (.int (Int32.ofNat (st.getD b 0)))) (.int (0 : Int32)) := Arv.set Arq4 ckq4 cSq4 cNq4 cHq4 cGq4 rfl W12 a (own_cl (Nat.le_trans (Nat.le_of_lt hA) (Nat.le_trans hn (by decide)))) (own_ln hSl hA)
  have K13 : Gx p e below s₁ f0 T12 (mkF m 23 #[.val (.ref a1), .val (.int (Int32.ofNat a)), .val (.int (Int32.ofNat b)), .val (.int (Int32.ofNat (st.getD a 0))), .val (.int (Int32.ofNat (st.getD b 0)))] []) := fun t kt => K11 t (st12 t kt)
  have f14 : Arv Z h12 aS kS .int (Int32.ofNat n) (lst (st.set a (st.getD b 0))) (.int (0 : Int32)) := by rw [← own_set]; exact V12
  have K15 : Gx p e below s₁ f0 T12 (mkF m 24 #[.val (.ref a1), .val (.int (Int32.ofNat a)), .val (.int (Int32.ofNat b)), .val (.int (Int32.ofNat (st.getD a 0))), .val (.int (Int32.ofNat (st.getD b 0)))] [(.ref a1)]) := fun t kt => K13 t (by
    show Steps p.tables e below (T12.setTop (mkF m 23 #[.val (.ref a1), .val (.int (Int32.ofNat a)), .val (.int (Int32.ofNat b)), .val (.int (Int32.ofNat (st.getD a 0))), .val (.int (Int32.ofNat (st.getD b 0)))] [])) _
    refine XS.aloadN X12.here hx rfl (hb hby d5_23) rfl rfl ?_
    exact kt)
  have f16 : Fld Z h12 a1 "com/example/tideshift/tideshift/engine/MovingShards" "placeOf" "[I" (.ref aP) := (pr2.other W12 (Or.inl pr7))
  obtain ⟨T17, X17, e17, st17⟩ := getF X12 hx hZ hown (host := "") (Or.inl (hw _ (List.mem_of_getElem? (i := 12) rfl))) Via.refl e12 f16 (g := (mkF m 24 #[.val (.ref a1), .val (.int (Int32.ofNat a)), .val (.int (Int32.ofNat b)), .val (.int (Int32.ofNat (st.getD a 0))), .val (.int (Int32.ofNat (st.getD b 0)))] [(.ref a1)])) rfl rfl (hb hby d5_24)
  have K18 : Gx p e below s₁ f0 T17 (mkF m 27 #[.val (.ref a1), .val (.int (Int32.ofNat a)), .val (.int (Int32.ofNat b)), .val (.int (Int32.ofNat (st.getD a 0))), .val (.int (Int32.ofNat (st.getD b 0)))] [(.ref aP)]) := fun t kt => K15 t (st17 t kt)
  have K19 : Gx p e below s₁ f0 T17 (mkF m 30 #[.val (.ref a1), .val (.int (Int32.ofNat a)), .val (.int (Int32.ofNat b)), .val (.int (Int32.ofNat (st.getD a 0))), .val (.int (Int32.ofNat (st.getD b 0)))] [(.int (Int32.ofNat a)), (.int (Int32.ofNat (st.getD b 0))), (.ref aP)]) := fun t kt => K18 t (by
    show Steps p.tables e below (T17.setTop (mkF m 27 #[.val (.ref a1), .val (.int (Int32.ofNat a)), .val (.int (Int32.ofNat b)), .val (.int (Int32.ofNat (st.getD a 0))), .val (.int (Int32.ofNat (st.getD b 0)))] [(.ref aP)])) _
    refine XS.iload X17.here hx rfl (hb hby d5_27) rfl ?_
    show Steps p.tables e below (T17.setTop (mkF m 29 #[.val (.ref a1), .val (.int (Int32.ofNat a)), .val (.int (Int32.ofNat b)), .val (.int (Int32.ofNat (st.getD a 0))), .val (.int (Int32.ofNat (st.getD b 0)))] [(.int (Int32.ofNat (st.getD b 0))), (.ref aP)])) _
    refine XS.iloadN X17.here hx rfl (hb hby d5_29) rfl ?_
    exact kt)
  have f20 : Arv Z h12 aP kP .int (Int32.ofNat n) (lst pl) (.int (0 : Int32)) := (pr4.other W12 (Ne.symm pr9))
  obtain ⟨clq21, Arq21, ckq21, cSq21, cNq21, cHq21, cGq21⟩ := id f20
  obtain ⟨T22, h22, X22', e22, W22, st22⟩ := stI X17 hx hZ e17 Arq21 (j := (Int32.ofNat (st.getD b 0))) (inb_of cSq21 (own_in hTb hn)) (g := (mkF m 30 #[.val (.ref a1), .val (.int (Int32.ofNat a)), .val (.int (Int32.ofNat b)), .val (.int (Int32.ofNat (st.getD a 0))), .val (.int (Int32.ofNat (st.getD b 0)))] [(.int (Int32.ofNat a)), (.int (Int32.ofNat (st.getD b 0))), (.ref aP)])) rfl rfl (hb hby d5_30)
  obtain ⟨lc22, X22, N22⟩ : ∃ lc, Stand p l e ({ frames := 0, cells := 0, slots := 0, locals := 0 } : Room) s m #[(.ref a1), (.int p1), (.int p2)] below meth c T22 lc 0 0 ∧ Fr n0 lc := ⟨_, X22', Fr.snoc X22' N12 pr6⟩
  have V22 : Arv Z h22 aP kP .int (Int32.ofNat n) ((lst pl).set (st.getD b 0) (.int (Int32.ofNat a))) (.int (0 : Int32)) := Arv.set Arq21 ckq21 cSq21 cNq21 cHq21 cGq21 rfl W22 (st.getD b 0) (own_cl (Nat.le_trans (Nat.le_of_lt hTb) (Nat.le_trans hn (by decide)))) (own_ln hPl hTb)
  have K23 : Gx p e below s₁ f0 T22 (mkF m 31 #[.val (.ref a1), .val (.int (Int32.ofNat a)), .val (.int (Int32.ofNat b)), .val (.int (Int32.ofNat (st.getD a 0))), .val (.int (Int32.ofNat (st.getD b 0)))] []) := fun t kt => K19 t (st22 t kt)
  have f24 : Arv Z h22 aP kP .int (Int32.ofNat n) (lst (pl.set (st.getD b 0) a)) (.int (0 : Int32)) := by rw [← own_set]; exact V22
  have K25 : Gx p e below s₁ f0 T22 (mkF m 32 #[.val (.ref a1), .val (.int (Int32.ofNat a)), .val (.int (Int32.ofNat b)), .val (.int (Int32.ofNat (st.getD a 0))), .val (.int (Int32.ofNat (st.getD b 0)))] [(.ref a1)]) := fun t kt => K23 t (by
    show Steps p.tables e below (T22.setTop (mkF m 31 #[.val (.ref a1), .val (.int (Int32.ofNat a)), .val (.int (Int32.ofNat b)), .val (.int (Int32.ofNat (st.getD a 0))), .val (.int (Int32.ofNat (st.getD b 0)))] [])) _
    refine XS.aloadN X22.here hx rfl (hb hby d5_31) rfl rfl ?_
    exact kt)
  have f26 : Fld Z h22 a1 "com/example/tideshift/tideshift/engine/MovingShards" "still" "[I" (.ref aS) := ((pr1.other W12 (Or.inl pr7)).other W22 (Or.inl pr8))
  obtain ⟨T27, X27, e27, st27⟩ := getF X22 hx hZ hown (host := "") (Or.inl (hw _ (List.mem_of_getElem? (i := 10) rfl))) Via.refl e22 f26 (g := (mkF m 32 #[.val (.ref a1), .val (.int (Int32.ofNat a)), .val (.int (Int32.ofNat b)), .val (.int (Int32.ofNat (st.getD a 0))), .val (.int (Int32.ofNat (st.getD b 0)))] [(.ref a1)])) rfl rfl (hb hby d5_32)
  have K28 : Gx p e below s₁ f0 T27 (mkF m 35 #[.val (.ref a1), .val (.int (Int32.ofNat a)), .val (.int (Int32.ofNat b)), .val (.int (Int32.ofNat (st.getD a 0))), .val (.int (Int32.ofNat (st.getD b 0)))] [(.ref aS)]) := fun t kt => K25 t (st27 t kt)
  have K29 : Gx p e below s₁ f0 T27 (mkF m 37 #[.val (.ref a1), .val (.int (Int32.ofNat a)), .val (.int (Int32.ofNat b)), .val (.int (Int32.ofNat (st.getD a 0))), .val (.int (Int32.ofNat (st.getD b 0)))] [(.int (Int32.ofNat (st.getD a 0))), (.int (Int32.ofNat b)), (.ref aS)]) := fun t kt => K28 t (by
    show Steps p.tables e below (T27.setTop (mkF m 35 #[.val (.ref a1), .val (.int (Int32.ofNat a)), .val (.int (Int32.ofNat b)), .val (.int (Int32.ofNat (st.getD a 0))), .val (.int (Int32.ofNat (st.getD b 0)))] [(.ref aS)])) _
    refine XS.iloadN X27.here hx rfl (hb hby d5_35) rfl ?_
    show Steps p.tables e below (T27.setTop (mkF m 36 #[.val (.ref a1), .val (.int (Int32.ofNat a)), .val (.int (Int32.ofNat b)), .val (.int (Int32.ofNat (st.getD a 0))), .val (.int (Int32.ofNat (st.getD b 0)))] [(.int (Int32.ofNat b)), (.ref aS)])) _
    refine XS.iloadN X27.here hx rfl (hb hby d5_36) rfl ?_
    exact kt)
  have f30 : Arv Z h22 aS kS .int (Int32.ofNat n) (lst (st.set a (st.getD b 0))) (.int (0 : Int32)) := (f14.other W22 pr9)
  obtain ⟨clq31, Arq31, ckq31, cSq31, cNq31, cHq31, cGq31⟩ := id f30
  obtain ⟨T32, h32, X32', e32, W32, st32⟩ := stI X27 hx hZ e27 Arq31 (j := (Int32.ofNat b)) (inb_of cSq31 (own_in hB hn)) (g := (mkF m 37 #[.val (.ref a1), .val (.int (Int32.ofNat a)), .val (.int (Int32.ofNat b)), .val (.int (Int32.ofNat (st.getD a 0))), .val (.int (Int32.ofNat (st.getD b 0)))] [(.int (Int32.ofNat (st.getD a 0))), (.int (Int32.ofNat b)), (.ref aS)])) rfl rfl (hb hby d5_37)
  obtain ⟨lc32, X32, N32⟩ : ∃ lc, Stand p l e ({ frames := 0, cells := 0, slots := 0, locals := 0 } : Room) s m #[(.ref a1), (.int p1), (.int p2)] below meth c T32 lc 0 0 ∧ Fr n0 lc := ⟨_, X32', Fr.snoc X32' N22 pr5⟩
  have V32 : Arv Z h32 aS kS .int (Int32.ofNat n) ((lst (st.set a (st.getD b 0))).set b (.int (Int32.ofNat (st.getD a 0)))) (.int (0 : Int32)) := Arv.set Arq31 ckq31 cSq31 cNq31 cHq31 cGq31 rfl W32 b (own_cl (Nat.le_trans (Nat.le_of_lt hB) (Nat.le_trans hn (by decide)))) (own_ln (by simp only [List.length_set]; exact hSl) hB)
  have K33 : Gx p e below s₁ f0 T32 (mkF m 38 #[.val (.ref a1), .val (.int (Int32.ofNat a)), .val (.int (Int32.ofNat b)), .val (.int (Int32.ofNat (st.getD a 0))), .val (.int (Int32.ofNat (st.getD b 0)))] []) := fun t kt => K29 t (st32 t kt)
  have f34 : Arv Z h32 aS kS .int (Int32.ofNat n) (lst ((st.set a (st.getD b 0)).set b (st.getD a 0))) (.int (0 : Int32)) := by rw [← own_set]; exact V32
  have K35 : Gx p e below s₁ f0 T32 (mkF m 39 #[.val (.ref a1), .val (.int (Int32.ofNat a)), .val (.int (Int32.ofNat b)), .val (.int (Int32.ofNat (st.getD a 0))), .val (.int (Int32.ofNat (st.getD b 0)))] [(.ref a1)]) := fun t kt => K33 t (by
    show Steps p.tables e below (T32.setTop (mkF m 38 #[.val (.ref a1), .val (.int (Int32.ofNat a)), .val (.int (Int32.ofNat b)), .val (.int (Int32.ofNat (st.getD a 0))), .val (.int (Int32.ofNat (st.getD b 0)))] [])) _
    refine XS.aloadN X32.here hx rfl (hb hby d5_38) rfl rfl ?_
    exact kt)
  have f36 : Fld Z h32 a1 "com/example/tideshift/tideshift/engine/MovingShards" "placeOf" "[I" (.ref aP) := ((f16.other W22 (Or.inl pr8)).other W32 (Or.inl pr7))
  obtain ⟨T37, X37, e37, st37⟩ := getF X32 hx hZ hown (host := "") (Or.inl (hw _ (List.mem_of_getElem? (i := 12) rfl))) Via.refl e32 f36 (g := (mkF m 39 #[.val (.ref a1), .val (.int (Int32.ofNat a)), .val (.int (Int32.ofNat b)), .val (.int (Int32.ofNat (st.getD a 0))), .val (.int (Int32.ofNat (st.getD b 0)))] [(.ref a1)])) rfl rfl (hb hby d5_39)
  have K38 : Gx p e below s₁ f0 T37 (mkF m 42 #[.val (.ref a1), .val (.int (Int32.ofNat a)), .val (.int (Int32.ofNat b)), .val (.int (Int32.ofNat (st.getD a 0))), .val (.int (Int32.ofNat (st.getD b 0)))] [(.ref aP)]) := fun t kt => K35 t (st37 t kt)
  have K39 : Gx p e below s₁ f0 T37 (mkF m 44 #[.val (.ref a1), .val (.int (Int32.ofNat a)), .val (.int (Int32.ofNat b)), .val (.int (Int32.ofNat (st.getD a 0))), .val (.int (Int32.ofNat (st.getD b 0)))] [(.int (Int32.ofNat b)), (.int (Int32.ofNat (st.getD a 0))), (.ref aP)]) := fun t kt => K38 t (by
    show Steps p.tables e below (T37.setTop (mkF m 42 #[.val (.ref a1), .val (.int (Int32.ofNat a)), .val (.int (Int32.ofNat b)), .val (.int (Int32.ofNat (st.getD a 0))), .val (.int (Int32.ofNat (st.getD b 0)))] [(.ref aP)])) _
    refine XS.iloadN X37.here hx rfl (hb hby d5_42) rfl ?_
    show Steps p.tables e below (T37.setTop (mkF m 43 #[.val (.ref a1), .val (.int (Int32.ofNat a)), .val (.int (Int32.ofNat b)), .val (.int (Int32.ofNat (st.getD a 0))), .val (.int (Int32.ofNat (st.getD b 0)))] [(.int (Int32.ofNat (st.getD a 0))), (.ref aP)])) _
    refine XS.iloadN X37.here hx rfl (hb hby d5_43) rfl ?_
    exact kt)
  have f40 : Arv Z h32 aP kP .int (Int32.ofNat n) (lst (pl.set (st.getD b 0) a)) (.int (0 : Int32)) := (f24.other W32 (Ne.symm pr9))
  obtain ⟨clq41, Arq41, ckq41, cSq41, cNq41, cHq41, cGq41⟩ := id f40
  obtain ⟨T42, h42, X42', e42, W42, st42⟩ := stI X37 hx hZ e37 Arq41 (j := (Int32.ofNat (st.getD a 0))) (inb_of cSq41 (own_in hTa hn)) (g := (mkF m 44 #[.val (.ref a1), .val (.int (Int32.ofNat a)), .val (.int (Int32.ofNat b)), .val (.int (Int32.ofNat (st.getD a 0))), .val (.int (Int32.ofNat (st.getD b 0)))] [(.int (Int32.ofNat b)), (.int (Int32.ofNat (st.getD a 0))), (.ref aP)])) rfl rfl (hb hby d5_44)
  obtain ⟨lc42, X42, N42⟩ : ∃ lc, Stand p l e ({ frames := 0, cells := 0, slots := 0, locals := 0 } : Room) s m #[(.ref a1), (.int p1), (.int p2)] below meth c T42 lc 0 0 ∧ Fr n0 lc := ⟨_, X42', Fr.snoc X42' N32 pr6⟩
  have V42 : Arv Z h42 aP kP .int (Int32.ofNat n) ((lst (pl.set (st.getD b 0) a)).set (st.getD a 0) (.int (Int32.ofNat b))) (.int (0 : Int32)) := Arv.set Arq41 ckq41 cSq41 cNq41 cHq41 cGq41 rfl W42 (st.getD a 0) (own_cl (Nat.le_trans (Nat.le_of_lt hTa) (Nat.le_trans hn (by decide)))) (own_ln (by simp only [List.length_set]; exact hPl) hTa)
  have K43 : Gx p e below s₁ f0 T42 (mkF m 45 #[.val (.ref a1), .val (.int (Int32.ofNat a)), .val (.int (Int32.ofNat b)), .val (.int (Int32.ofNat (st.getD a 0))), .val (.int (Int32.ofNat (st.getD b 0)))] []) := fun t kt => K39 t (st42 t kt)
  have f44 : Arv Z h42 aP kP .int (Int32.ofNat n) (lst ((pl.set (st.getD b 0) a).set (st.getD a 0) b)) (.int (0 : Int32)) := by rw [← own_set]; exact V42
  have kp46 : Keep h0 h42 [aS, aP] := (((((Keep.refl h0 [aS, aP]).wr W12 (Or.inl (List.mem_of_getElem? (i := 0) rfl))).wr W22 (Or.inl (List.mem_of_getElem? (i := 1) rfl))).wr W32 (Or.inl (List.mem_of_getElem? (i := 0) rfl))).wr W42 (Or.inl (List.mem_of_getElem? (i := 1) rfl)))
  have f47 : Arv Z h42 aS kS .int (Int32.ofNat n) (lst ((st.set a (st.getD b 0)).set b (st.getD a 0))) (.int (0 : Int32)) := (f34.other W42 pr9)
  obtain ⟨fs45, hr45, hrun45, hended45, hW45, hsame45⟩ := X42.leave (v := none) (fun _ => rfl)
  refine ⟨_, _, pre0 _ (K43 _ ?_), hrun45, hended45, _, _, rfl, ?_, ⟨_, rfl⟩, hW45, hsame45.mono (by decide) (by decide)⟩
  · exact X42.returnOut hx Bd.returns (hb hby d5_45) hr45
  · show QSwp Z a1 p1 p2 aS aP kS kP n st pl a b h0 n0 _ T42.heap _
    rw [e42]
    exact ⟨rfl, N42, kp46, f47, f44⟩
theorem d4_0 : decode prog_56_method_6_code 0 = .ok (.aload_n 0, 1) := by decide +kernel
theorem d4_1 : decode prog_56_method_6_code 1 = .ok (.dup, 1) := by decide +kernel
theorem d4_2 : decode prog_56_method_6_code 2 = .ok (.getfield 16, 3) := by decide +kernel
theorem d4_5 : decode prog_56_method_6_code 5 = .ok (.iconst 1, 1) := by decide +kernel
theorem d4_6 : decode prog_56_method_6_code 6 = .ok (.isub, 1) := by decide +kernel
theorem d4_7 : decode prog_56_method_6_code 7 = .ok (.putfield 16, 3) := by decide +kernel
theorem d4_10 : decode prog_56_method_6_code 10 = .ok (.aload_n 0, 1) := by decide +kernel
theorem d4_11 : decode prog_56_method_6_code 11 = .ok (.aload_n 0, 1) := by decide +kernel
theorem d4_12 : decode prog_56_method_6_code 12 = .ok (.getfield 13, 3) := by decide +kernel
theorem d4_15 : decode prog_56_method_6_code 15 = .ok (.iload_n 1, 1) := by decide +kernel
theorem d4_16 : decode prog_56_method_6_code 16 = .ok (.iaload, 1) := by decide +kernel
theorem d4_17 : decode prog_56_method_6_code 17 = .ok (.aload_n 0, 1) := by decide +kernel
theorem d4_18 : decode prog_56_method_6_code 18 = .ok (.getfield 16, 3) := by decide +kernel
theorem d4_21 : decode prog_56_method_6_code 21 = .ok (.invokevirtual 20, 3) := by decide +kernel
theorem d4_24 : decode prog_56_method_6_code 24 = .ok (.return_, 1) := by decide +kernel
theorem pn_4 : plainName "com/example/tideshift/tideshift/engine/MovingShards" = true := by first | (simp [plainName, overriddenIn]; done) | decide +kernel
theorem pd__II_V : parseMethodDescriptor "(II)V" = some ⟨[.int, .int], none⟩ := by decide +kernel
theorem ef_Sta (m : MethodId) (a1 : Addr) (p1 : Int32) : entryFrame m #[(.ref a1), (.int p1)] 2 = mkF m 0 #[.val (.ref a1), .val (.int p1)] [] := by first | (simp [entryFrame, mkF, argsToLocals, Value.category]; done) | rfl
def QSta (Z : State) (a1 : Addr) (p1 : Int32) (aS : Addr) (aP : Addr) (kS : ClassId) (kP : ClassId) (n : Nat) (st : List Nat) (pl : List Nat) (cnt : Nat) (q : Nat) (h0 : Heap) (n0 : Nat) (v : Option Value) (h : Heap) (L : List Loc) : Prop := v = none ∧ Fr n0 L ∧ Keep h0 h [a1, aS, aP] ∧ Exa Z h a1 "com/example/tideshift/tideshift/engine/MovingShards" ∧ Fld Z h a1 "com/example/tideshift/tideshift/engine/MovingShards" "still" "[I" (.ref aS) ∧ Fld Z h a1 "com/example/tideshift/tideshift/engine/MovingShards" "placeOf" "[I" (.ref aP) ∧ Fld Z h a1 "com/example/tideshift/tideshift/engine/MovingShards" "stillCount" "I" (.int (Int32.ofNat (cnt - 1))) ∧ Arv Z h aS kS .int (Int32.ofNat n) (lst (swS st (pl.getD q 0) (cnt - 1))) (.int (0 : Int32)) ∧ Arv Z h aP kP .int (Int32.ofNat n) (lst (swP st pl (pl.getD q 0) (cnt - 1))) (.int (0 : Int32))
set_option maxRecDepth 65536 in
set_option maxHeartbeats 40000000 in
theorem rmSta (l : Launch) (Z : State) (a0 : Array Value) (hw : ∀ d ∈ tables_1, d.before a0 Z = true) (ws : List Jvm.Cond) (a1 : Addr) (p1 : Int32) (aS : Addr) (aP : Addr) (kS : ClassId) (kP : ClassId) (n : Nat) (st : List Nat) (pl : List Nat) (cnt : Nat) (q : Nat) (h0 : Heap) (n0 : Nat) (Z0 : n0 ≤ h0.size) (pr0 : Exa Z h0 a1 "com/example/tideshift/tideshift/engine/MovingShards") (pr1 : Fld Z h0 a1 "com/example/tideshift/tideshift/engine/MovingShards" "still" "[I" (.ref aS)) (pr2 : Fld Z h0 a1 "com/example/tideshift/tideshift/engine/MovingShards" "placeOf" "[I" (.ref aP)) (pr3 : Arv Z h0 aS kS .int (Int32.ofNat n) (lst st) (.int (0 : Int32))) (pr4 : Arv Z h0 aP kP .int (Int32.ofNat n) (lst pl) (.int (0 : Int32))) (pr5 : Fld Z h0 a1 "com/example/tideshift/tideshift/engine/MovingShards" "stillCount" "I" (.int (Int32.ofNat cnt))) (pr6 : n0 ≤ a1) (pr7 : n0 ≤ aS) (pr8 : n0 ≤ aP) (pr9 : a1 ≠ aS) (pr10 : a1 ≠ aP) (pr11 : aS ≠ aP) (hn : n ≤ 4) (hq : p1 = Int32.ofNat q) (hok : startOk n st pl cnt q) :
    MetFree l (⟨"com/example/tideshift/tideshift/engine/MovingShards", "started", "(I)V"⟩ : MethodName) (head1 (Jvm.Cond.code (⟨"com/example/tideshift/tideshift/engine/MovingShards", "started", "(I)V"⟩ : MethodName) prog_56_method_6_code 2 none :: ws) ({ frames := 1, cells := 0, slots := 0, locals := 16 } : Room)) (fun a U => a = #[(.ref a1), (.int p1)] ∧ Z.Warmed39 U.vm ∧ U.heap = h0) (fun _ _ _ _ _ => True) (fun _ U o U' => ∃ v L, o = .returned v ∧ QSta Z a1 p1 aS aP kS kP n st pl cnt q h0 n0 v U'.heap L ∧ FrameEnd U o U' L ({ frames := 1, cells := 0, slots := 0, locals := 16 } : Room).cells ({ frames := 1, cells := 0, slots := 0, locals := 16 } : Room).slots) := by
  refine MetFree.of_bodySF (plainFor_of_name pn_4) hisR ?_
  intro p e s m args below meth c s₁ Bd hml0 hP hK
  obtain ⟨rfl, hZ, hh⟩ := hP
  have hx := Bd.exec
  have hby := Bd.bytes
  have hml : c.maxLocals = 2 := hml0
  have hown : s.vm.findClass "com/example/tideshift/tideshift/engine/MovingShards" = some m.cls := findClass_of_methodNamed Bd.named
  have hnm := (name_of_methodNamed Bd.named Bd.method).1
  have X0 : Stand p l e ({ frames := 1, cells := 0, slots := 0, locals := 16 } : Room) s m #[(.ref a1), (.int p1)] below meth c s₁ [] 0 0 := Stand.of_body Bd
  have hs0 : h0 = s.heap := hh.symm
  have e0 : s₁.heap = h0 := by rw [← hh, Bd.state]; rfl
  have N0 := Fr.nil n0
  obtain ⟨f0, hf0⟩ : ∃ f, f = entryFrame m #[(.ref a1), (.int p1)] 2 := ⟨_, rfl⟩
  have pre0 : ∀ t, Steps p.tables e below (s₁.setTop f0) t → Steps p.tables e below (s₁.setTop (entryFrame m #[(.ref a1), (.int p1)] 2)) t := fun t k => hf0 ▸ k
  have K0 : Gx p e below s₁ f0 s₁ (mkF m 0 #[.val (.ref a1), .val (.int p1)] []) := fun t kt => by rw [hf0]; exact castTop (ef_Sta m a1 p1) kt
  obtain ⟨hQ, hC0, hC1, hSl, hPl, hP1, hT1, hT2⟩ := hok
  rw [hq] at K0
  have K1 : Gx p e below s₁ f0 s₁ (mkF m 2 #[.val (.ref a1), .val (.int (Int32.ofNat q))] [(.ref a1), (.ref a1)]) := fun t kt => K0 t (by
    show Steps p.tables e below (s₁.setTop (mkF m 0 #[.val (.ref a1), .val (.int (Int32.ofNat q))] [])) _
    refine XS.aloadN X0.here hx rfl (hb hby d4_0) rfl rfl ?_
    show Steps p.tables e below (s₁.setTop (mkF m 1 #[.val (.ref a1), .val (.int (Int32.ofNat q))] [(.ref a1)])) _
    refine XS.dup X0.here hx rfl (hb hby d4_1) rfl rfl ?_
    exact kt)
  obtain ⟨T2, X2, e2, st2⟩ := getF X0 hx hZ hown (host := "") (Or.inl (hw _ (List.mem_of_getElem? (i := 14) rfl))) Via.refl e0 pr5 (g := (mkF m 2 #[.val (.ref a1), .val (.int (Int32.ofNat q))] [(.ref a1), (.ref a1)])) rfl rfl (hb hby d4_2)
  have K3 : Gx p e below s₁ f0 T2 (mkF m 5 #[.val (.ref a1), .val (.int (Int32.ofNat q))] [(.int (Int32.ofNat cnt)), (.ref a1)]) := fun t kt => K1 t (st2 t kt)
  have K4 : Gx p e below s₁ f0 T2 (mkF m 7 #[.val (.ref a1), .val (.int (Int32.ofNat q))] [(.int ((Int32.ofNat cnt) - (1 : Int32))), (.ref a1)]) := fun t kt => K3 t (by
    show Steps p.tables e below (T2.setTop (mkF m 5 #[.val (.ref a1), .val (.int (Int32.ofNat q))] [(.int (Int32.ofNat cnt)), (.ref a1)])) _
    refine XS.iconst X2.here hx rfl (hb hby d4_5) ?_
    show Steps p.tables e below (T2.setTop (mkF m 6 #[.val (.ref a1), .val (.int (Int32.ofNat q))] [(.int (1 : Int32)), (.int (Int32.ofNat cnt)), (.ref a1)])) _
    refine XS.isub X2.here hx rfl (hb hby d4_6) rfl ?_
    exact kt)
  rw [(own_dec hC0)] at K4
  obtain ⟨T5, h5, X5', e5, W5, st5⟩ := putF X2 hx hZ hown (host := "") (Or.inl (hw _ (List.mem_of_getElem? (i := 14) rfl))) Via.refl e2 pr5 pr0 (Or.inl (hw _ (List.mem_of_getElem? (i := 15) rfl))) (hw _ (List.mem_of_getElem? (i := 1) rfl)) (ty := .int) (by decide) rfl rfl (g := (mkF m 7 #[.val (.ref a1), .val (.int (Int32.ofNat q))] [(.int (Int32.ofNat (cnt - 1))), (.ref a1)])) rfl rfl (hb hby d4_7)
  obtain ⟨lc5, X5, N5⟩ : ∃ lc, Stand p l e ({ frames := 1, cells := 0, slots := 0, locals := 16 } : Room) s m #[(.ref a1), (.int p1)] below meth c T5 lc 0 0 ∧ Fr n0 lc := ⟨_, X5', Fr.snoc X5' N0 pr6⟩
  have f5_ : Fld Z h5 a1 "com/example/tideshift/tideshift/engine/MovingShards" "stillCount" "I" (.int (Int32.ofNat (cnt - 1))) := pr5.same W5
  have K6 : Gx p e below s₁ f0 T5 (mkF m 10 #[.val (.ref a1), .val (.int (Int32.ofNat q))] []) := fun t kt => K4 t (st5 t kt)
  have K7 : Gx p e below s₁ f0 T5 (mkF m 12 #[.val (.ref a1), .val (.int (Int32.ofNat q))] [(.ref a1), (.ref a1)]) := fun t kt => K6 t (by
    show Steps p.tables e below (T5.setTop (mkF m 10 #[.val (.ref a1), .val (.int (Int32.ofNat q))] [])) _
    refine XS.aloadN X5.here hx rfl (hb hby d4_10) rfl rfl ?_
    show Steps p.tables e below (T5.setTop (mkF m 11 #[.val (.ref a1), .val (.int (Int32.ofNat q))] [(.ref a1)])) _
    refine XS.aloadN X5.here hx rfl (hb hby d4_11) rfl rfl ?_
    exact kt)
  have f8 : Fld Z h5 a1 "com/example/tideshift/tideshift/engine/MovingShards" "placeOf" "[I" (.ref aP) := (pr2.other W5 (Or.inr (slot_ne (Or.inr (hw _ (List.mem_of_getElem? (i := 13) rfl))) (Or.inl (hw _ (List.mem_of_getElem? (i := 15) rfl))) (by decide) (t := (.array .int)) (t' := .int) (by decide) (by decide))))
  obtain ⟨T9, X9, e9, st9⟩ := getF X5 hx hZ hown (host := "") (Or.inl (hw _ (List.mem_of_getElem? (i := 12) rfl))) Via.refl e5 f8 (g := (mkF m 12 #[.val (.ref a1), .val (.int (Int32.ofNat q))] [(.ref a1), (.ref a1)])) rfl rfl (hb hby d4_12)
  have K10 : Gx p e below s₁ f0 T9 (mkF m 15 #[.val (.ref a1), .val (.int (Int32.ofNat q))] [(.ref aP), (.ref a1)]) := fun t kt => K7 t (st9 t kt)
  have f11 : Arv Z h5 aP kP .int (Int32.ofNat n) (lst pl) (.int (0 : Int32)) := (pr4.other W5 (Ne.symm pr10))
  obtain ⟨clq12, Arq12, ckq12, cSq12, cNq12, cHq12, cGq12⟩ := id f11
  have K13 : Gx p e below s₁ f0 T9 (mkF m 18 #[.val (.ref a1), .val (.int (Int32.ofNat q))] [(.ref a1), (.int (Int32.ofNat (pl.getD q 0))), (.ref a1)]) := fun t kt => K10 t (by
    show Steps p.tables e below (T9.setTop (mkF m 15 #[.val (.ref a1), .val (.int (Int32.ofNat q))] [(.ref aP), (.ref a1)])) _
    refine XS.iloadN X9.here hx rfl (hb hby d4_15) rfl ?_
    show Steps p.tables e below (T9.setTop (mkF m 16 #[.val (.ref a1), .val (.int (Int32.ofNat q))] [(.int (Int32.ofNat q)), (.ref aP), (.ref a1)])) _
    refine X9.iaload hx (j := (Int32.ofNat q)) (v := (.int (Int32.ofNat (pl.getD q 0)))) (by rw [e9]; exact Arq12.1) (State.isArrayOf_alike hZ.alike Arq12.2.1) Arq12.2.2 (inb_of cSq12 (own_in hQ hn)) (Has.at cHq12 (inb_of cSq12 (own_in hQ hn)) (own_rd hPl hQ hn)) (g := (mkF m 16 #[.val (.ref a1), .val (.int (Int32.ofNat q))] [(.int (Int32.ofNat q)), (.ref aP), (.ref a1)])) rfl rfl (hb hby d4_16) _ ?_
    show Steps p.tables e below (T9.setTop (mkF m 17 #[.val (.ref a1), .val (.int (Int32.ofNat q))] [(.int (Int32.ofNat (pl.getD q 0))), (.ref a1)])) _
    refine XS.aloadN X9.here hx rfl (hb hby d4_17) rfl rfl ?_
    exact kt)
  obtain ⟨T14, X14, e14, st14⟩ := getF X9 hx hZ hown (host := "") (Or.inl (hw _ (List.mem_of_getElem? (i := 14) rfl))) Via.refl e9 f5_ (g := (mkF m 18 #[.val (.ref a1), .val (.int (Int32.ofNat q))] [(.ref a1), (.int (Int32.ofNat (pl.getD q 0))), (.ref a1)])) rfl rfl (hb hby d4_18)
  have K15 : Gx p e below s₁ f0 T14 (mkF m 21 #[.val (.ref a1), .val (.int (Int32.ofNat q))] [(.int (Int32.ofNat (cnt - 1))), (.int (Int32.ofNat (pl.getD q 0))), (.ref a1)]) := fun t kt => K13 t (st14 t kt)
  have f16 : Fld Z h5 a1 "com/example/tideshift/tideshift/engine/MovingShards" "still" "[I" (.ref aS) := (pr1.other W5 (Or.inr (slot_ne (Or.inr (hw _ (List.mem_of_getElem? (i := 11) rfl))) (Or.inl (hw _ (List.mem_of_getElem? (i := 15) rfl))) (by decide) (t := (.array .int)) (t' := .int) (by decide) (by decide))))
  have f17 : Arv Z h5 aS kS .int (Int32.ofNat n) (lst st) (.int (0 : Int32)) := (pr3.other W5 (Ne.symm pr9))
  have f18 : Exa Z h5 a1 "com/example/tideshift/tideshift/engine/MovingShards" := (pr0.wr W5)
  have kp19 : Keep h0 h5 [a1, aS, aP] := ((Keep.refl h0 [a1, aS, aP]).wr W5 (Or.inl (List.mem_of_getElem? (i := 0) rfl)))
  obtain ⟨cq20, q20, q20'⟩ := f18.cell
  obtain ⟨_, _, ⟨T20, L20, k20, n20⟩, -, X20', ⟨Lc20, hQ20, l20, y20, z20⟩, st20⟩ := X14.privateBack hx (y := (⟨"com/example/tideshift/tideshift/engine/MovingShards", "swap", "(II)V"⟩ : MethodName)) hown (mvT hZ (hw _ (List.mem_of_getElem? (i := 26) rfl))) (mvT hZ (hw _ (List.mem_of_getElem? (i := 27) rfl))) (own_selp hZ (hw _ (List.mem_of_getElem? (i := 1) rfl)) (hw _ (List.mem_of_getElem? (i := 28) rfl)) (hw _ (List.mem_of_getElem? (i := 27) rfl)) (by decide)) (Cond.privateMethod_at (mvP hZ (hw _ (List.mem_of_getElem? (i := 28) rfl)) (args := #[]))) (mvT hZ (hw _ (List.mem_of_getElem? (i := 29) rfl))) (by decide) (backOf (W := 0) (rmSwp l Z a0 hw [] a1 (Int32.ofNat (pl.getD q 0)) (Int32.ofNat (cnt - 1)) aS aP kS kP n st pl (pl.getD q 0) (cnt - 1) h5 n0 (Nat.le_trans Z0 kp19.1) f18 f16 f8 f17 f11 pr7 pr8 pr9 pr10 pr11 hn rfl rfl ⟨hP1, Nat.lt_of_lt_of_le (Nat.sub_lt hC0 (by decide)) hC1, hSl, hPl, hT1, hT2⟩) hZ (hw _ (List.mem_of_getElem? (i := 29) rfl)) (hw _ (List.mem_of_getElem? (i := 2) rfl)) (by decide) (by decide)) (g := (mkF m 21 #[.val (.ref a1), .val (.int (Int32.ofNat q))] [(.int (Int32.ofNat (cnt - 1))), (.int (Int32.ofNat (pl.getD q 0))), (.ref a1)])) rfl (by rw [hml]; rfl) (Steps.refl _) (a := a1) (by rw [e14]; exact q20) q20' (argsL := [(.int (Int32.ofNat (pl.getD q 0))), (.int (Int32.ofNat (cnt - 1)))]) (rest := []) (lenOf pd__II_V rfl) rfl (by show 2 * 0 + _ ≤ _; exact Nat.le_of_eq rfl) (hb hby d4_21) (fun _ _ => ⟨rfl, e14, (by decide : 0 + 0 ≤ _), (by decide : 0 + 0 ≤ _)⟩)
  dsimp only [Pt.U, Pt.locs, Pt.cells, Pt.slots] at X20' l20 y20 z20 st20 hQ20
  subst l20 y20 z20
  obtain ⟨h20, e20⟩ : ∃ z, T20.heap = z := ⟨_, rfl⟩
  rw [e20] at hQ20
  obtain ⟨rfl, N20q, Kc20, f21, f22⟩ := hQ20
  obtain ⟨lc20, X20, N20⟩ : ∃ lc, Stand p l e ({ frames := 1, cells := 0, slots := 0, locals := 16 } : Room) s m #[(.ref a1), (.int p1)] below meth c T20 lc 0 0 ∧ Fr n0 lc := ⟨_, X20', Fr.app N5 N20q⟩
  have K23 : Gx p e below s₁ f0 T20 (mkF m 24 #[.val (.ref a1), .val (.int (Int32.ofNat q))] []) := fun t kt => K15 t (st20.trans kt)
  have kp25 : Keep h0 h20 [a1, aS, aP] := (Keep.trans kp19 Kc20 (allS (Or.inl (List.mem_of_getElem? (i := 1) rfl)) (allS (Or.inl (List.mem_of_getElem? (i := 2) rfl)) all0)))
  have f26 : Exa Z h20 a1 "com/example/tideshift/tideshift/engine/MovingShards" := (f18.keep Kc20)
  have f27 : Fld Z h20 a1 "com/example/tideshift/tideshift/engine/MovingShards" "still" "[I" (.ref aS) := (f16.keep Kc20 (ninS pr9 (ninS pr10 nin0)))
  have f28 : Fld Z h20 a1 "com/example/tideshift/tideshift/engine/MovingShards" "placeOf" "[I" (.ref aP) := (f8.keep Kc20 (ninS pr9 (ninS pr10 nin0)))
  have f29 : Fld Z h20 a1 "com/example/tideshift/tideshift/engine/MovingShards" "stillCount" "I" (.int (Int32.ofNat (cnt - 1))) := (f5_.keep Kc20 (ninS pr9 (ninS pr10 nin0)))
  obtain ⟨fs24, hr24, hrun24, hended24, hW24, hsame24⟩ := X20.leave (v := none) (fun _ => rfl)
  refine ⟨_, _, pre0 _ (K23 _ ?_), hrun24, hended24, _, _, rfl, ?_, ⟨_, rfl⟩, hW24, hsame24.mono (by decide) (by decide)⟩
  · exact X20.returnOut hx Bd.returns (hb hby d4_24) hr24
  · show QSta Z a1 p1 aS aP kS kP n st pl cnt q h0 n0 _ T20.heap _
    rw [e20]
    exact ⟨rfl, N20, kp25, f26, f27, f28, f29, f21, f22⟩
theorem d6_0 : decode prog_56_method_7_code 0 = .ok (.aload_n 0, 1) := by decide +kernel
theorem d6_1 : decode prog_56_method_7_code 1 = .ok (.aload_n 0, 1) := by decide +kernel
theorem d6_2 : decode prog_56_method_7_code 2 = .ok (.getfield 13, 3) := by decide +kernel
theorem d6_5 : decode prog_56_method_7_code 5 = .ok (.iload_n 1, 1) := by decide +kernel
theorem d6_6 : decode prog_56_method_7_code 6 = .ok (.iaload, 1) := by decide +kernel
theorem d6_7 : decode prog_56_method_7_code 7 = .ok (.aload_n 0, 1) := by decide +kernel
theorem d6_8 : decode prog_56_method_7_code 8 = .ok (.getfield 16, 3) := by decide +kernel
theorem d6_11 : decode prog_56_method_7_code 11 = .ok (.invokevirtual 20, 3) := by decide +kernel
theorem d6_14 : decode prog_56_method_7_code 14 = .ok (.aload_n 0, 1) := by decide +kernel
theorem d6_15 : decode prog_56_method_7_code 15 = .ok (.dup, 1) := by decide +kernel
theorem d6_16 : decode prog_56_method_7_code 16 = .ok (.getfield 16, 3) := by decide +kernel
theorem d6_19 : decode prog_56_method_7_code 19 = .ok (.iconst 1, 1) := by decide +kernel
theorem d6_20 : decode prog_56_method_7_code 20 = .ok (.iadd, 1) := by decide +kernel
theorem d6_21 : decode prog_56_method_7_code 21 = .ok (.putfield 16, 3) := by decide +kernel
theorem d6_24 : decode prog_56_method_7_code 24 = .ok (.return_, 1) := by decide +kernel
theorem pn_6 : plainName "com/example/tideshift/tideshift/engine/MovingShards" = true := by first | (simp [plainName, overriddenIn]; done) | decide +kernel
theorem ef_Arr_ (m : MethodId) (a1 : Addr) (p1 : Int32) : entryFrame m #[(.ref a1), (.int p1)] 2 = mkF m 0 #[.val (.ref a1), .val (.int p1)] [] := by first | (simp [entryFrame, mkF, argsToLocals, Value.category]; done) | rfl
def QArr_ (Z : State) (a1 : Addr) (p1 : Int32) (aS : Addr) (aP : Addr) (kS : ClassId) (kP : ClassId) (n : Nat) (st : List Nat) (pl : List Nat) (cnt : Nat) (q : Nat) (h0 : Heap) (n0 : Nat) (v : Option Value) (h : Heap) (L : List Loc) : Prop := v = none ∧ Fr n0 L ∧ Keep h0 h [a1, aS, aP] ∧ Exa Z h a1 "com/example/tideshift/tideshift/engine/MovingShards" ∧ Fld Z h a1 "com/example/tideshift/tideshift/engine/MovingShards" "still" "[I" (.ref aS) ∧ Fld Z h a1 "com/example/tideshift/tideshift/engine/MovingShards" "placeOf" "[I" (.ref aP) ∧ Fld Z h a1 "com/example/tideshift/tideshift/engine/MovingShards" "stillCount" "I" (.int (Int32.ofNat (cnt + 1))) ∧ Arv Z h aS kS .int (Int32.ofNat n) (lst (swS st (pl.getD q 0) cnt)) (.int (0 : Int32)) ∧ Arv Z h aP kP .int (Int32.ofNat n) (lst (swP st pl (pl.getD q 0) cnt)) (.int (0 : Int32))
set_option maxRecDepth 65536 in
set_option maxHeartbeats 40000000 in
theorem rmArr_ (l : Launch) (Z : State) (a0 : Array Value) (hw : ∀ d ∈ tables_1, d.before a0 Z = true) (ws : List Jvm.Cond) (a1 : Addr) (p1 : Int32) (aS : Addr) (aP : Addr) (kS : ClassId) (kP : ClassId) (n : Nat) (st : List Nat) (pl : List Nat) (cnt : Nat) (q : Nat) (h0 : Heap) (n0 : Nat) (Z0 : n0 ≤ h0.size) (pr0 : Exa Z h0 a1 "com/example/tideshift/tideshift/engine/MovingShards") (pr1 : Fld Z h0 a1 "com/example/tideshift/tideshift/engine/MovingShards" "still" "[I" (.ref aS)) (pr2 : Fld Z h0 a1 "com/example/tideshift/tideshift/engine/MovingShards" "placeOf" "[I" (.ref aP)) (pr3 : Arv Z h0 aS kS .int (Int32.ofNat n) (lst st) (.int (0 : Int32))) (pr4 : Arv Z h0 aP kP .int (Int32.ofNat n) (lst pl) (.int (0 : Int32))) (pr5 : Fld Z h0 a1 "com/example/tideshift/tideshift/engine/MovingShards" "stillCount" "I" (.int (Int32.ofNat cnt))) (pr6 : n0 ≤ a1) (pr7 : n0 ≤ aS) (pr8 : n0 ≤ aP) (pr9 : a1 ≠ aS) (pr10 : a1 ≠ aP) (pr11 : aS ≠ aP) (hn : n ≤ 4) (hq : p1 = Int32.ofNat q) (hok : arriveOk n st pl cnt q) :
    MetFree l (⟨"com/example/tideshift/tideshift/engine/MovingShards", "arrived", "(I)V"⟩ : MethodName) (head1 (Jvm.Cond.code (⟨"com/example/tideshift/tideshift/engine/MovingShards", "arrived", "(I)V"⟩ : MethodName) prog_56_method_7_code 2 none :: ws) ({ frames := 1, cells := 0, slots := 0, locals := 16 } : Room)) (fun a U => a = #[(.ref a1), (.int p1)] ∧ Z.Warmed39 U.vm ∧ U.heap = h0) (fun _ _ _ _ _ => True) (fun _ U o U' => ∃ v L, o = .returned v ∧ QArr_ Z a1 p1 aS aP kS kP n st pl cnt q h0 n0 v U'.heap L ∧ FrameEnd U o U' L ({ frames := 1, cells := 0, slots := 0, locals := 16 } : Room).cells ({ frames := 1, cells := 0, slots := 0, locals := 16 } : Room).slots) := by
  refine MetFree.of_bodySF (plainFor_of_name pn_6) hisR ?_
  intro p e s m args below meth c s₁ Bd hml0 hP hK
  obtain ⟨rfl, hZ, hh⟩ := hP
  have hx := Bd.exec
  have hby := Bd.bytes
  have hml : c.maxLocals = 2 := hml0
  have hown : s.vm.findClass "com/example/tideshift/tideshift/engine/MovingShards" = some m.cls := findClass_of_methodNamed Bd.named
  have hnm := (name_of_methodNamed Bd.named Bd.method).1
  have X0 : Stand p l e ({ frames := 1, cells := 0, slots := 0, locals := 16 } : Room) s m #[(.ref a1), (.int p1)] below meth c s₁ [] 0 0 := Stand.of_body Bd
  have hs0 : h0 = s.heap := hh.symm
  have e0 : s₁.heap = h0 := by rw [← hh, Bd.state]; rfl
  have N0 := Fr.nil n0
  obtain ⟨f0, hf0⟩ : ∃ f, f = entryFrame m #[(.ref a1), (.int p1)] 2 := ⟨_, rfl⟩
  have pre0 : ∀ t, Steps p.tables e below (s₁.setTop f0) t → Steps p.tables e below (s₁.setTop (entryFrame m #[(.ref a1), (.int p1)] 2)) t := fun t k => hf0 ▸ k
  have K0 : Gx p e below s₁ f0 s₁ (mkF m 0 #[.val (.ref a1), .val (.int p1)] []) := fun t kt => by rw [hf0]; exact castTop (ef_Arr_ m a1 p1) kt
  obtain ⟨hQ, hC1, hSl, hPl, hP1, hT1, hT2⟩ := hok
  rw [hq] at K0
  have K1 : Gx p e below s₁ f0 s₁ (mkF m 2 #[.val (.ref a1), .val (.int (Int32.ofNat q))] [(.ref a1), (.ref a1)]) := fun t kt => K0 t (by
    show Steps p.tables e below (s₁.setTop (mkF m 0 #[.val (.ref a1), .val (.int (Int32.ofNat q))] [])) _
    refine XS.aloadN X0.here hx rfl (hb hby d6_0) rfl rfl ?_
    show Steps p.tables e below (s₁.setTop (mkF m 1 #[.val (.ref a1), .val (.int (Int32.ofNat q))] [(.ref a1)])) _
    refine XS.aloadN X0.here hx rfl (hb hby d6_1) rfl rfl ?_
    exact kt)
  obtain ⟨T2, X2, e2, st2⟩ := getF X0 hx hZ hown (host := "") (Or.inl (hw _ (List.mem_of_getElem? (i := 12) rfl))) Via.refl e0 pr2 (g := (mkF m 2 #[.val (.ref a1), .val (.int (Int32.ofNat q))] [(.ref a1), (.ref a1)])) rfl rfl (hb hby d6_2)
  have K3 : Gx p e below s₁ f0 T2 (mkF m 5 #[.val (.ref a1), .val (.int (Int32.ofNat q))] [(.ref aP), (.ref a1)]) := fun t kt => K1 t (st2 t kt)
  obtain ⟨clq4, Arq4, ckq4, cSq4, cNq4, cHq4, cGq4⟩ := id pr4
  have K5 : Gx p e below s₁ f0 T2 (mkF m 8 #[.val (.ref a1), .val (.int (Int32.ofNat q))] [(.ref a1), (.int (Int32.ofNat (pl.getD q 0))), (.ref a1)]) := fun t kt => K3 t (by
    show Steps p.tables e below (T2.setTop (mkF m 5 #[.val (.ref a1), .val (.int (Int32.ofNat q))] [(.ref aP), (.ref a1)])) _
    refine XS.iloadN X2.here hx rfl (hb hby d6_5) rfl ?_
    show Steps p.tables e below (T2.setTop (mkF m 6 #[.val (.ref a1), .val (.int (Int32.ofNat q))] [(.int (Int32.ofNat q)), (.ref aP), (.ref a1)])) _
    refine X2.iaload hx (j := (Int32.ofNat q)) (v := (.int (Int32.ofNat (pl.getD q 0)))) (by rw [e2]; exact Arq4.1) (State.isArrayOf_alike hZ.alike Arq4.2.1) Arq4.2.2 (inb_of cSq4 (own_in hQ hn)) (Has.at cHq4 (inb_of cSq4 (own_in hQ hn)) (own_rd hPl hQ hn)) (g := (mkF m 6 #[.val (.ref a1), .val (.int (Int32.ofNat q))] [(.int (Int32.ofNat q)), (.ref aP), (.ref a1)])) rfl rfl (hb hby d6_6) _ ?_
    show Steps p.tables e below (T2.setTop (mkF m 7 #[.val (.ref a1), .val (.int (Int32.ofNat q))] [(.int (Int32.ofNat (pl.getD q 0))), (.ref a1)])) _
    refine XS.aloadN X2.here hx rfl (hb hby d6_7) rfl rfl ?_
    exact kt)
  obtain ⟨T6, X6, e6, st6⟩ := getF X2 hx hZ hown (host := "") (Or.inl (hw _ (List.mem_of_getElem? (i := 14) rfl))) Via.refl e2 pr5 (g := (mkF m 8 #[.val (.ref a1), .val (.int (Int32.ofNat q))] [(.ref a1), (.int (Int32.ofNat (pl.getD q 0))), (.ref a1)])) rfl rfl (hb hby d6_8)
  have K7 : Gx p e below s₁ f0 T6 (mkF m 11 #[.val (.ref a1), .val (.int (Int32.ofNat q))] [(.int (Int32.ofNat cnt)), (.int (Int32.ofNat (pl.getD q 0))), (.ref a1)]) := fun t kt => K5 t (st6 t kt)
  obtain ⟨cq8, q8, q8'⟩ := pr0.cell
  obtain ⟨_, _, ⟨T8, L8, k8, n8⟩, -, X8', ⟨Lc8, hQ8, l8, y8, z8⟩, st8⟩ := X6.privateBack hx (y := (⟨"com/example/tideshift/tideshift/engine/MovingShards", "swap", "(II)V"⟩ : MethodName)) hown (mvT hZ (hw _ (List.mem_of_getElem? (i := 26) rfl))) (mvT hZ (hw _ (List.mem_of_getElem? (i := 27) rfl))) (own_selp hZ (hw _ (List.mem_of_getElem? (i := 1) rfl)) (hw _ (List.mem_of_getElem? (i := 28) rfl)) (hw _ (List.mem_of_getElem? (i := 27) rfl)) (by decide)) (Cond.privateMethod_at (mvP hZ (hw _ (List.mem_of_getElem? (i := 28) rfl)) (args := #[]))) (mvT hZ (hw _ (List.mem_of_getElem? (i := 29) rfl))) (by decide) (backOf (W := 0) (rmSwp l Z a0 hw [] a1 (Int32.ofNat (pl.getD q 0)) (Int32.ofNat cnt) aS aP kS kP n st pl (pl.getD q 0) cnt h0 n0 (Nat.le_trans Z0 (Keep.refl h0 [a1, aS, aP]).1) pr0 pr1 pr2 pr3 pr4 pr7 pr8 pr9 pr10 pr11 hn rfl rfl ⟨hP1, hC1, hSl, hPl, hT1, hT2⟩) hZ (hw _ (List.mem_of_getElem? (i := 29) rfl)) (hw _ (List.mem_of_getElem? (i := 2) rfl)) (by decide) (by decide)) (g := (mkF m 11 #[.val (.ref a1), .val (.int (Int32.ofNat q))] [(.int (Int32.ofNat cnt)), (.int (Int32.ofNat (pl.getD q 0))), (.ref a1)])) rfl (by rw [hml]; rfl) (Steps.refl _) (a := a1) (by rw [e6]; exact q8) q8' (argsL := [(.int (Int32.ofNat (pl.getD q 0))), (.int (Int32.ofNat cnt))]) (rest := []) (lenOf pd__II_V rfl) rfl (by show 2 * 0 + _ ≤ _; exact Nat.le_of_eq rfl) (hb hby d6_11) (fun _ _ => ⟨rfl, e6, (by decide : 0 + 0 ≤ _), (by decide : 0 + 0 ≤ _)⟩)
  dsimp only [Pt.U, Pt.locs, Pt.cells, Pt.slots] at X8' l8 y8 z8 st8 hQ8
  subst l8 y8 z8
  obtain ⟨h8, e8⟩ : ∃ z, T8.heap = z := ⟨_, rfl⟩
  rw [e8] at hQ8
  obtain ⟨rfl, N8q, Kc8, f9, f10⟩ := hQ8
  obtain ⟨lc8, X8, N8⟩ : ∃ lc, Stand p l e ({ frames := 1, cells := 0, slots := 0, locals := 16 } : Room) s m #[(.ref a1), (.int p1)] below meth c T8 lc 0 0 ∧ Fr n0 lc := ⟨_, X8', Fr.app N0 N8q⟩
  have K11 : Gx p e below s₁ f0 T8 (mkF m 14 #[.val (.ref a1), .val (.int (Int32.ofNat q))] []) := fun t kt => K7 t (st8.trans kt)
  have K12 : Gx p e below s₁ f0 T8 (mkF m 16 #[.val (.ref a1), .val (.int (Int32.ofNat q))] [(.ref a1), (.ref a1)]) := fun t kt => K11 t (by
    show Steps p.tables e below (T8.setTop (mkF m 14 #[.val (.ref a1), .val (.int (Int32.ofNat q))] [])) _
    refine XS.aloadN X8.here hx rfl (hb hby d6_14) rfl rfl ?_
    show Steps p.tables e below (T8.setTop (mkF m 15 #[.val (.ref a1), .val (.int (Int32.ofNat q))] [(.ref a1)])) _
    refine XS.dup X8.here hx rfl (hb hby d6_15) rfl rfl ?_
    exact kt)
  have f13 : Fld Z h8 a1 "com/example/tideshift/tideshift/engine/MovingShards" "stillCount" "I" (.int (Int32.ofNat cnt)) := (pr5.keep Kc8 (ninS pr9 (ninS pr10 nin0)))
  obtain ⟨T14, X14, e14, st14⟩ := getF X8 hx hZ hown (host := "") (Or.inl (hw _ (List.mem_of_getElem? (i := 14) rfl))) Via.refl e8 f13 (g := (mkF m 16 #[.val (.ref a1), .val (.int (Int32.ofNat q))] [(.ref a1), (.ref a1)])) rfl rfl (hb hby d6_16)
  have K15 : Gx p e below s₁ f0 T14 (mkF m 19 #[.val (.ref a1), .val (.int (Int32.ofNat q))] [(.int (Int32.ofNat cnt)), (.ref a1)]) := fun t kt => K12 t (st14 t kt)
  have K16 : Gx p e below s₁ f0 T14 (mkF m 21 #[.val (.ref a1), .val (.int (Int32.ofNat q))] [(.int ((Int32.ofNat cnt) + (1 : Int32))), (.ref a1)]) := fun t kt => K15 t (by
    show Steps p.tables e below (T14.setTop (mkF m 19 #[.val (.ref a1), .val (.int (Int32.ofNat q))] [(.int (Int32.ofNat cnt)), (.ref a1)])) _
    refine XS.iconst X14.here hx rfl (hb hby d6_19) ?_
    show Steps p.tables e below (T14.setTop (mkF m 20 #[.val (.ref a1), .val (.int (Int32.ofNat q))] [(.int (1 : Int32)), (.int (Int32.ofNat cnt)), (.ref a1)])) _
    refine XS.iadd X14.here hx rfl (hb hby d6_20) rfl ?_
    exact kt)
  rw [(own_inc cnt)] at K16
  have f17 : Exa Z h8 a1 "com/example/tideshift/tideshift/engine/MovingShards" := (pr0.keep Kc8)
  obtain ⟨T18, h18, X18', e18, W18, st18⟩ := putF X14 hx hZ hown (host := "") (Or.inl (hw _ (List.mem_of_getElem? (i := 14) rfl))) Via.refl e14 f13 f17 (Or.inl (hw _ (List.mem_of_getElem? (i := 15) rfl))) (hw _ (List.mem_of_getElem? (i := 1) rfl)) (ty := .int) (by decide) rfl rfl (g := (mkF m 21 #[.val (.ref a1), .val (.int (Int32.ofNat q))] [(.int (Int32.ofNat (cnt + 1))), (.ref a1)])) rfl rfl (hb hby d6_21)
  obtain ⟨lc18, X18, N18⟩ : ∃ lc, Stand p l e ({ frames := 1, cells := 0, slots := 0, locals := 16 } : Room) s m #[(.ref a1), (.int p1)] below meth c T18 lc 0 0 ∧ Fr n0 lc := ⟨_, X18', Fr.snoc X18' N8 pr6⟩
  have f18_ : Fld Z h18 a1 "com/example/tideshift/tideshift/engine/MovingShards" "stillCount" "I" (.int (Int32.ofNat (cnt + 1))) := f13.same W18
  have K19 : Gx p e below s₁ f0 T18 (mkF m 24 #[.val (.ref a1), .val (.int (Int32.ofNat q))] []) := fun t kt => K16 t (st18 t kt)
  have kp21 : Keep h0 h18 [a1, aS, aP] := ((Keep.trans (Keep.refl h0 [a1, aS, aP]) Kc8 (allS (Or.inl (List.mem_of_getElem? (i := 1) rfl)) (allS (Or.inl (List.mem_of_getElem? (i := 2) rfl)) all0))).wr W18 (Or.inl (List.mem_of_getElem? (i := 0) rfl)))
  have f22 : Exa Z h18 a1 "com/example/tideshift/tideshift/engine/MovingShards" := (f17.wr W18)
  have f23 : Fld Z h18 a1 "com/example/tideshift/tideshift/engine/MovingShards" "still" "[I" (.ref aS) := ((pr1.keep Kc8 (ninS pr9 (ninS pr10 nin0))).other W18 (Or.inr (slot_ne (Or.inr (hw _ (List.mem_of_getElem? (i := 11) rfl))) (Or.inl (hw _ (List.mem_of_getElem? (i := 15) rfl))) (by decide) (t := (.array .int)) (t' := .int) (by decide) (by decide))))
  have f24 : Fld Z h18 a1 "com/example/tideshift/tideshift/engine/MovingShards" "placeOf" "[I" (.ref aP) := ((pr2.keep Kc8 (ninS pr9 (ninS pr10 nin0))).other W18 (Or.inr (slot_ne (Or.inr (hw _ (List.mem_of_getElem? (i := 13) rfl))) (Or.inl (hw _ (List.mem_of_getElem? (i := 15) rfl))) (by decide) (t := (.array .int)) (t' := .int) (by decide) (by decide))))
  have f25 : Arv Z h18 aS kS .int (Int32.ofNat n) (lst (swS st (pl.getD q 0) cnt)) (.int (0 : Int32)) := (f9.other W18 (Ne.symm pr9))
  have f26 : Arv Z h18 aP kP .int (Int32.ofNat n) (lst (swP st pl (pl.getD q 0) cnt)) (.int (0 : Int32)) := (f10.other W18 (Ne.symm pr10))
  obtain ⟨fs20, hr20, hrun20, hended20, hW20, hsame20⟩ := X18.leave (v := none) (fun _ => rfl)
  refine ⟨_, _, pre0 _ (K19 _ ?_), hrun20, hended20, _, _, rfl, ?_, ⟨_, rfl⟩, hW20, hsame20.mono (by decide) (by decide)⟩
  · exact X18.returnOut hx Bd.returns (hb hby d6_24) hr20
  · show QArr_ Z a1 p1 aS aP kS kP n st pl cnt q h0 n0 _ T18.heap _
    rw [e18]
    exact ⟨rfl, N18, kp21, f22, f23, f24, f18_, f25, f26⟩
theorem d7_0 : decode prog_56_method_2_code 0 = .ok (.aload_n 0, 1) := by decide +kernel
theorem d7_1 : decode prog_56_method_2_code 1 = .ok (.getfield 13, 3) := by decide +kernel
theorem d7_4 : decode prog_56_method_2_code 4 = .ok (.iload_n 1, 1) := by decide +kernel
theorem d7_5 : decode prog_56_method_2_code 5 = .ok (.iaload, 1) := by decide +kernel
theorem d7_6 : decode prog_56_method_2_code 6 = .ok (.aload_n 0, 1) := by decide +kernel
theorem d7_7 : decode prog_56_method_2_code 7 = .ok (.getfield 16, 3) := by decide +kernel
theorem d7_10 : decode prog_56_method_2_code 10 = .ok (.if_icmp .lt 7, 3) := by decide +kernel
theorem d7_13 : decode prog_56_method_2_code 13 = .ok (.iconst 1, 1) := by decide +kernel
theorem d7_14 : decode prog_56_method_2_code 14 = .ok (.goto 4, 3) := by decide +kernel
theorem d7_17 : decode prog_56_method_2_code 17 = .ok (.iconst 0, 1) := by decide +kernel
theorem d7_18 : decode prog_56_method_2_code 18 = .ok (.ireturn, 1) := by decide +kernel
theorem pn_7 : plainName "com/example/tideshift/tideshift/engine/MovingShards" = true := by first | (simp [plainName, overriddenIn]; done) | decide +kernel
theorem ef_Ism (m : MethodId) (a1 : Addr) (p1 : Int32) : entryFrame m #[(.ref a1), (.int p1)] 2 = mkF m 0 #[.val (.ref a1), .val (.int p1)] [] := by first | (simp [entryFrame, mkF, argsToLocals, Value.category]; done) | rfl
def QIsm (Z : State) (a1 : Addr) (p1 : Int32) (aP : Addr) (kP : ClassId) (n : Nat) (pl : List Nat) (cnt : Nat) (q : Nat) (h0 : Heap) (n0 : Nat) (v : Option Value) (h : Heap) (L : List Loc) : Prop := v = some (.int (nar .boolean (mvF pl cnt q))) ∧ Fr n0 L ∧ h = h0
set_option maxRecDepth 65536 in
set_option maxHeartbeats 40000000 in
theorem rmIsm (l : Launch) (Z : State) (a0 : Array Value) (hw : ∀ d ∈ tables_1, d.before a0 Z = true) (ws : List Jvm.Cond) (a1 : Addr) (p1 : Int32) (aP : Addr) (kP : ClassId) (n : Nat) (pl : List Nat) (cnt : Nat) (q : Nat) (h0 : Heap) (n0 : Nat) (Z0 : n0 ≤ h0.size) (pr0 : Fld Z h0 a1 "com/example/tideshift/tideshift/engine/MovingShards" "placeOf" "[I" (.ref aP)) (pr1 : Arv Z h0 aP kP .int (Int32.ofNat n) (lst pl) (.int (0 : Int32))) (pr2 : Fld Z h0 a1 "com/example/tideshift/tideshift/engine/MovingShards" "stillCount" "I" (.int (Int32.ofNat cnt))) (hn : n ≤ 4) (hq : p1 = Int32.ofNat q) (hok : q < n ∧ pl.length = n) :
    MetFree l (⟨"com/example/tideshift/tideshift/engine/MovingShards", "isMoving", "(I)Z"⟩ : MethodName) (head1 (Jvm.Cond.code (⟨"com/example/tideshift/tideshift/engine/MovingShards", "isMoving", "(I)Z"⟩ : MethodName) prog_56_method_2_code 2 (some .boolean) :: ws) ({ frames := 0, cells := 0, slots := 0, locals := 0 } : Room)) (fun a U => a = #[(.ref a1), (.int p1)] ∧ Z.Warmed39 U.vm ∧ U.heap = h0) (fun _ _ _ _ _ => True) (fun _ U o U' => ∃ v L, o = .returned v ∧ QIsm Z a1 p1 aP kP n pl cnt q h0 n0 v U'.heap L ∧ FrameEnd U o U' L ({ frames := 0, cells := 0, slots := 0, locals := 0 } : Room).cells ({ frames := 0, cells := 0, slots := 0, locals := 0 } : Room).slots) := by
  refine MetFree.of_bodySF (plainFor_of_name pn_7) hisR ?_
  intro p e s m args below meth c s₁ Bd hml0 hP hK
  obtain ⟨rfl, hZ, hh⟩ := hP
  have hx := Bd.exec
  have hby := Bd.bytes
  have hml : c.maxLocals = 2 := hml0
  have hown : s.vm.findClass "com/example/tideshift/tideshift/engine/MovingShards" = some m.cls := findClass_of_methodNamed Bd.named
  have hnm := (name_of_methodNamed Bd.named Bd.method).1
  have X0 : Stand p l e ({ frames := 0, cells := 0, slots := 0, locals := 0 } : Room) s m #[(.ref a1), (.int p1)] below meth c s₁ [] 0 0 := Stand.of_body Bd
  have hs0 : h0 = s.heap := hh.symm
  have e0 : s₁.heap = h0 := by rw [← hh, Bd.state]; rfl
  have N0 := Fr.nil n0
  obtain ⟨f0, hf0⟩ : ∃ f, f = entryFrame m #[(.ref a1), (.int p1)] 2 := ⟨_, rfl⟩
  have pre0 : ∀ t, Steps p.tables e below (s₁.setTop f0) t → Steps p.tables e below (s₁.setTop (entryFrame m #[(.ref a1), (.int p1)] 2)) t := fun t k => hf0 ▸ k
  have K0 : Gx p e below s₁ f0 s₁ (mkF m 0 #[.val (.ref a1), .val (.int p1)] []) := fun t kt => by rw [hf0]; exact castTop (ef_Ism m a1 p1) kt
  obtain ⟨hQ, hPl⟩ := hok
  rw [hq] at K0
  have K1 : Gx p e below s₁ f0 s₁ (mkF m 1 #[.val (.ref a1), .val (.int (Int32.ofNat q))] [(.ref a1)]) := fun t kt => K0 t (by
    show Steps p.tables e below (s₁.setTop (mkF m 0 #[.val (.ref a1), .val (.int (Int32.ofNat q))] [])) _
    refine XS.aloadN X0.here hx rfl (hb hby d7_0) rfl rfl ?_
    exact kt)
  obtain ⟨T2, X2, e2, st2⟩ := getF X0 hx hZ hown (host := "") (Or.inl (hw _ (List.mem_of_getElem? (i := 12) rfl))) Via.refl e0 pr0 (g := (mkF m 1 #[.val (.ref a1), .val (.int (Int32.ofNat q))] [(.ref a1)])) rfl rfl (hb hby d7_1)
  have K3 : Gx p e below s₁ f0 T2 (mkF m 4 #[.val (.ref a1), .val (.int (Int32.ofNat q))] [(.ref aP)]) := fun t kt => K1 t (st2 t kt)
  obtain ⟨clq4, Arq4, ckq4, cSq4, cNq4, cHq4, cGq4⟩ := id pr1
  have K5 : Gx p e below s₁ f0 T2 (mkF m 7 #[.val (.ref a1), .val (.int (Int32.ofNat q))] [(.ref a1), (.int (Int32.ofNat (pl.getD q 0)))]) := fun t kt => K3 t (by
    show Steps p.tables e below (T2.setTop (mkF m 4 #[.val (.ref a1), .val (.int (Int32.ofNat q))] [(.ref aP)])) _
    refine XS.iloadN X2.here hx rfl (hb hby d7_4) rfl ?_
    show Steps p.tables e below (T2.setTop (mkF m 5 #[.val (.ref a1), .val (.int (Int32.ofNat q))] [(.int (Int32.ofNat q)), (.ref aP)])) _
    refine X2.iaload hx (j := (Int32.ofNat q)) (v := (.int (Int32.ofNat (pl.getD q 0)))) (by rw [e2]; exact Arq4.1) (State.isArrayOf_alike hZ.alike Arq4.2.1) Arq4.2.2 (inb_of cSq4 (own_in hQ hn)) (Has.at cHq4 (inb_of cSq4 (own_in hQ hn)) (own_rd hPl hQ hn)) (g := (mkF m 5 #[.val (.ref a1), .val (.int (Int32.ofNat q))] [(.int (Int32.ofNat q)), (.ref aP)])) rfl rfl (hb hby d7_5) _ ?_
    show Steps p.tables e below (T2.setTop (mkF m 6 #[.val (.ref a1), .val (.int (Int32.ofNat q))] [(.int (Int32.ofNat (pl.getD q 0)))])) _
    refine XS.aloadN X2.here hx rfl (hb hby d7_6) rfl rfl ?_
    exact kt)
  obtain ⟨T6, X6, e6, st6⟩ := getF X2 hx hZ hown (host := "") (Or.inl (hw _ (List.mem_of_getElem? (i := 14) rfl))) Via.refl e2 pr2 (g := (mkF m 7 #[.val (.ref a1), .val (.int (Int32.ofNat q))] [(.ref a1), (.int (Int32.ofNat (pl.getD q 0)))])) rfl rfl (hb hby d7_7)
  have K7 : Gx p e below s₁ f0 T6 (mkF m 10 #[.val (.ref a1), .val (.int (Int32.ofNat q))] [(.int (Int32.ofNat cnt)), (.int (Int32.ofNat (pl.getD q 0)))]) := fun t kt => K5 t (st6 t kt)
  obtain ⟨v9, hv9⟩ : ∃ z : Int32, z = (if (Int32.ofNat (pl.getD q 0)) < (Int32.ofNat cnt) then (0 : Int32) else (1 : Int32)) := ⟨_, rfl⟩
  have K10 : Gx p e below s₁ f0 T6 (mkF m 18 #[.val (.ref a1), .val (.int (Int32.ofNat q))] [(.int v9)]) := fun t kt => K7 t (by
    by_cases hc10_7 : (Int32.ofNat (pl.getD q 0)) < (Int32.ofNat cnt)
    · skip
      show Steps p.tables e below (T6.setTop (mkF m 10 #[.val (.ref a1), .val (.int (Int32.ofNat q))] [(.int (Int32.ofNat cnt)), (.int (Int32.ofNat (pl.getD q 0)))])) _
      refine XS.icmpYes X6.here hx rfl (pc0 := 10) (pc' := 17) rfl (hb hby d7_10) rfl (tlt hc10_7).1 (by decide) (by decide) ?_
      show Steps p.tables e below (T6.setTop (mkF m 17 #[.val (.ref a1), .val (.int (Int32.ofNat q))] [])) _
      refine XS.iconst X6.here hx rfl (hb hby d7_17) ?_
      show Steps p.tables e below (T6.setTop (mkF m 18 #[.val (.ref a1), .val (.int (Int32.ofNat q))] [(.int (0 : Int32))])) _
      exact castTop (by simp only [hv9, if_pos hc10_7]) kt
    · skip
      show Steps p.tables e below (T6.setTop (mkF m 10 #[.val (.ref a1), .val (.int (Int32.ofNat q))] [(.int (Int32.ofNat cnt)), (.int (Int32.ofNat (pl.getD q 0)))])) _
      refine XS.icmpNo X6.here hx rfl (hb hby d7_10) rfl (flt hc10_7).1 ?_
      show Steps p.tables e below (T6.setTop (mkF m 13 #[.val (.ref a1), .val (.int (Int32.ofNat q))] [])) _
      refine XS.iconst X6.here hx rfl (hb hby d7_13) ?_
      show Steps p.tables e below (T6.setTop (mkF m 14 #[.val (.ref a1), .val (.int (Int32.ofNat q))] [(.int (1 : Int32))])) _
      refine XS.goto X6.here hx rfl (pc0 := 14) (pc' := 18) rfl (hb hby d7_14) (by decide) (by decide) ?_
      show Steps p.tables e below (T6.setTop (mkF m 18 #[.val (.ref a1), .val (.int (Int32.ofNat q))] [(.int (1 : Int32))])) _
      exact castTop (by simp only [hv9, if_neg hc10_7]) kt)
  obtain ⟨fs11, hr11, hrun11, hended11, hW11, hsame11⟩ := X6.leave (v := some (.int (nar .boolean v9))) (fun h => by rw [Bd.returns] at h; cases h)
  refine ⟨_, _, pre0 _ (K10 _ ?_), hrun11, hended11, _, _, rfl, ?_, ⟨_, rfl⟩, hW11, hsame11.mono (by decide) (by decide)⟩
  · exact retN X6 hx (t := .boolean) Bd.returns (by simp) (hb hby d7_18) hr11
  · show QIsm Z a1 p1 aP kP n pl cnt q h0 n0 _ T6.heap _
    rw [e6]
    exact ⟨(congrArg some (congrArg Value.int (by first | (simp only [mvF, hv9, if_pos hn, if_pos hq, if_pos hok]; done) | (rw [hv9]; rfl) | rfl))), N0, rfl⟩
theorem d3_0 : decode method_3_code 0 = .ok (.iload_n 3, 1) := by decide +kernel
theorem d3_1 : decode method_3_code 1 = .ok (.ldc 22, 2) := by decide +kernel
theorem d3_3 : decode method_3_code 3 = .ok (.iand, 1) := by decide +kernel
theorem d3_4 : decode method_3_code 4 = .ok (.iload_n 2, 1) := by decide +kernel
theorem d3_5 : decode method_3_code 5 = .ok (.iconst 1, 1) := by decide +kernel
theorem d3_6 : decode method_3_code 6 = .ok (.iadd, 1) := by decide +kernel
theorem d3_7 : decode method_3_code 7 = .ok (.irem, 1) := by decide +kernel
theorem d3_8 : decode method_3_code 8 = .ok (.istore 4, 2) := by decide +kernel
theorem d3_10 : decode method_3_code 10 = .ok (.iload 4, 2) := by decide +kernel
theorem d3_12 : decode method_3_code 12 = .ok (.iload_n 2, 1) := by decide +kernel
theorem d3_13 : decode method_3_code 13 = .ok (.if_icmp .ne 5, 3) := by decide +kernel
theorem d3_16 : decode method_3_code 16 = .ok (.iload_n 1, 1) := by decide +kernel
theorem d3_17 : decode method_3_code 17 = .ok (.ireturn, 1) := by decide +kernel
theorem d3_18 : decode method_3_code 18 = .ok (.iconst 1, 1) := by decide +kernel
theorem d3_19 : decode method_3_code 19 = .ok (.iload 4, 2) := by decide +kernel
theorem d3_21 : decode method_3_code 21 = .ok (.ishl, 1) := by decide +kernel
theorem d3_22 : decode method_3_code 22 = .ok (.istore 5, 2) := by decide +kernel
theorem d3_24 : decode method_3_code 24 = .ok (.iload_n 1, 1) := by decide +kernel
theorem d3_25 : decode method_3_code 25 = .ok (.iload 5, 2) := by decide +kernel
theorem d3_27 : decode method_3_code 27 = .ok (.iand, 1) := by decide +kernel
theorem d3_28 : decode method_3_code 28 = .ok (.ifCond .eq 16, 3) := by decide +kernel
theorem d3_31 : decode method_3_code 31 = .ok (.aload_n 0, 1) := by decide +kernel
theorem d3_32 : decode method_3_code 32 = .ok (.iload 4, 2) := by decide +kernel
theorem d3_34 : decode method_3_code 34 = .ok (.invokevirtual 23, 3) := by decide +kernel
theorem d3_37 : decode method_3_code 37 = .ok (.iload_n 1, 1) := by decide +kernel
theorem d3_38 : decode method_3_code 38 = .ok (.iload 5, 2) := by decide +kernel
theorem d3_40 : decode method_3_code 40 = .ok (.iconst (-1), 1) := by decide +kernel
theorem d3_41 : decode method_3_code 41 = .ok (.ixor, 1) := by decide +kernel
theorem d3_42 : decode method_3_code 42 = .ok (.iand, 1) := by decide +kernel
theorem d3_43 : decode method_3_code 43 = .ok (.ireturn, 1) := by decide +kernel
theorem d3_44 : decode method_3_code 44 = .ok (.aload_n 0, 1) := by decide +kernel
theorem d3_45 : decode method_3_code 45 = .ok (.iload 4, 2) := by decide +kernel
theorem d3_47 : decode method_3_code 47 = .ok (.invokevirtual 26, 3) := by decide +kernel
theorem d3_50 : decode method_3_code 50 = .ok (.iload_n 1, 1) := by decide +kernel
theorem d3_51 : decode method_3_code 51 = .ok (.iload 5, 2) := by decide +kernel
theorem d3_53 : decode method_3_code 53 = .ok (.ior, 1) := by decide +kernel
theorem d3_54 : decode method_3_code 54 = .ok (.ireturn, 1) := by decide +kernel
theorem pn_3 : plainName "com/example/tideshift/tideshift/engine/MovingShardsIsMovingPinLaw" = true := by first | (simp [plainName, overriddenIn]; done) | decide +kernel
theorem pd__I_V : parseMethodDescriptor "(I)V" = some ⟨[.int], none⟩ := by decide +kernel
theorem ef_Stp (m : MethodId) (a1 : Addr) (p2 : Int32) (p3 : Int32) (p4 : Int32) : entryFrame m #[(.ref a1), (.int p2), (.int p3), (.int p4)] 6 = mkF m 0 #[.val (.ref a1), .val (.int p2), .val (.int p3), .val (.int p4), .unset, .unset] [] := by first | (simp [entryFrame, mkF, argsToLocals, Value.category]; done) | rfl
def QStp (Z : State) (a1 : Addr) (p2 : Int32) (p3 : Int32) (p4 : Int32) (aS : Addr) (aP : Addr) (kS : ClassId) (kP : ClassId) (n : Nat) (st : List Nat) (pl : List Nat) (cnt : Nat) (q : Nat) (h0 : Heap) (n0 : Nat) (v : Option Value) (h : Heap) (L : List Loc) : Prop := ∃ stx : List Nat, ∃ plx : List Nat, ∃ ctx : Nat, ∃ mkx : Int32, v = some (.int mkx) ∧ Fr n0 L ∧ Keep h0 h [a1, aS, aP] ∧ Exa Z h a1 "com/example/tideshift/tideshift/engine/MovingShards" ∧ Fld Z h a1 "com/example/tideshift/tideshift/engine/MovingShards" "still" "[I" (.ref aS) ∧ Fld Z h a1 "com/example/tideshift/tideshift/engine/MovingShards" "placeOf" "[I" (.ref aP) ∧ Fld Z h a1 "com/example/tideshift/tideshift/engine/MovingShards" "stillCount" "I" (.int (Int32.ofNat ctx)) ∧ Arv Z h aS kS .int (Int32.ofNat n) (lst stx) (.int (0 : Int32)) ∧ Arv Z h aP kP .int (Int32.ofNat n) (lst plx) (.int (0 : Int32)) ∧ (stepR n st pl cnt p2 q = (stx, plx, ctx, mkx))
set_option maxRecDepth 65536 in
set_option maxHeartbeats 40000000 in
theorem rmStp (l : Launch) (Z : State) (a0 : Array Value) (hw : ∀ d ∈ tables_1, d.before a0 Z = true) (ws : List Jvm.Cond) (a1 : Addr) (p2 : Int32) (p3 : Int32) (p4 : Int32) (aS : Addr) (aP : Addr) (kS : ClassId) (kP : ClassId) (n : Nat) (st : List Nat) (pl : List Nat) (cnt : Nat) (q : Nat) (h0 : Heap) (n0 : Nat) (Z0 : n0 ≤ h0.size) (pr0 : Exa Z h0 a1 "com/example/tideshift/tideshift/engine/MovingShards") (pr1 : Fld Z h0 a1 "com/example/tideshift/tideshift/engine/MovingShards" "still" "[I" (.ref aS)) (pr2 : Fld Z h0 a1 "com/example/tideshift/tideshift/engine/MovingShards" "placeOf" "[I" (.ref aP)) (pr3 : Arv Z h0 aS kS .int (Int32.ofNat n) (lst st) (.int (0 : Int32))) (pr4 : Arv Z h0 aP kP .int (Int32.ofNat n) (lst pl) (.int (0 : Int32))) (pr5 : Fld Z h0 a1 "com/example/tideshift/tideshift/engine/MovingShards" "stillCount" "I" (.int (Int32.ofNat cnt))) (pr6 : n0 ≤ a1) (pr7 : n0 ≤ aS) (pr8 : n0 ≤ aP) (pr9 : a1 ≠ aS) (pr10 : a1 ≠ aP) (pr11 : aS ≠ aP) (hn : n ≤ 4) (hp3 : p3 = Int32.ofNat n) (hs : ((p4 &&& (2147483647 : Int32)) % ((Int32.ofNat n) + (1 : Int32))) = Int32.ofNat q) (hq : q < n + 1) (hok : okM n st pl cnt p2 q = true) :
    MetFree l (⟨"com/example/tideshift/tideshift/engine/MovingShardsIsMovingPinLaw", "step", "(Lcom/example/tideshift/tideshift/engine/MovingShards;III)I"⟩ : MethodName) (head1 (Jvm.Cond.code (⟨"com/example/tideshift/tideshift/engine/MovingShardsIsMovingPinLaw", "step", "(Lcom/example/tideshift/tideshift/engine/MovingShards;III)I"⟩ : MethodName) method_3_code 6 (some .int) :: ws) ({ frames := 2, cells := 0, slots := 0, locals := 29 } : Room)) (fun a U => a = #[(.ref a1), (.int p2), (.int p3), (.int p4)] ∧ Z.Warmed39 U.vm ∧ U.heap = h0) (fun _ _ _ _ _ => True) (fun _ U o U' => ∃ v L, o = .returned v ∧ QStp Z a1 p2 p3 p4 aS aP kS kP n st pl cnt q h0 n0 v U'.heap L ∧ FrameEnd U o U' L ({ frames := 2, cells := 0, slots := 0, locals := 29 } : Room).cells ({ frames := 2, cells := 0, slots := 0, locals := 29 } : Room).slots) := by
  refine MetFree.of_bodySF (plainFor_of_name pn_3) hisR ?_
  intro p e s m args below meth c s₁ Bd hml0 hP hK
  obtain ⟨rfl, hZ, hh⟩ := hP
  have hx := Bd.exec
  have hby := Bd.bytes
  have hml : c.maxLocals = 6 := hml0
  have hown : s.vm.findClass "com/example/tideshift/tideshift/engine/MovingShardsIsMovingPinLaw" = some m.cls := findClass_of_methodNamed Bd.named
  have hnm := (name_of_methodNamed Bd.named Bd.method).1
  have X0 : Stand p l e ({ frames := 2, cells := 0, slots := 0, locals := 29 } : Room) s m #[(.ref a1), (.int p2), (.int p3), (.int p4)] below meth c s₁ [] 0 0 := Stand.of_body Bd
  have hs0 : h0 = s.heap := hh.symm
  have e0 : s₁.heap = h0 := by rw [← hh, Bd.state]; rfl
  have N0 := Fr.nil n0
  obtain ⟨f0, hf0⟩ : ∃ f, f = entryFrame m #[(.ref a1), (.int p2), (.int p3), (.int p4)] 6 := ⟨_, rfl⟩
  have pre0 : ∀ t, Steps p.tables e below (s₁.setTop f0) t → Steps p.tables e below (s₁.setTop (entryFrame m #[(.ref a1), (.int p2), (.int p3), (.int p4)] 6)) t := fun t k => hf0 ▸ k
  have K0 : Gx p e below s₁ f0 s₁ (mkF m 0 #[.val (.ref a1), .val (.int p2), .val (.int p3), .val (.int p4), .unset, .unset] []) := fun t kt => by rw [hf0]; exact castTop (ef_Stp m a1 p2 p3 p4) kt
  rw [hp3] at K0
  have K1 : Gx p e below s₁ f0 s₁ (mkF m 8 #[.val (.ref a1), .val (.int p2), .val (.int (Int32.ofNat n)), .val (.int p4), .unset, .unset] [(.int ((p4 &&& (2147483647 : Int32)) % ((Int32.ofNat n) + (1 : Int32))))]) := fun t kt => K0 t (by
    show Steps p.tables e below (s₁.setTop (mkF m 0 #[.val (.ref a1), .val (.int p2), .val (.int (Int32.ofNat n)), .val (.int p4), .unset, .unset] [])) _
    refine XS.iloadN X0.here hx rfl (hb hby d3_0) rfl ?_
    show Steps p.tables e below (s₁.setTop (mkF m 1 #[.val (.ref a1), .val (.int p2), .val (.int (Int32.ofNat n)), .val (.int p4), .unset, .unset] [(.int p4)])) _
    refine X0.ldcInt hx hown (mvT hZ (hw _ (List.mem_of_getElem? (i := 20) rfl))) (g := (mkF m 1 #[.val (.ref a1), .val (.int p2), .val (.int (Int32.ofNat n)), .val (.int p4), .unset, .unset] [(.int p4)])) rfl (hb hby d3_1) _ ?_
    show Steps p.tables e below (s₁.setTop (mkF m 3 #[.val (.ref a1), .val (.int p2), .val (.int (Int32.ofNat n)), .val (.int p4), .unset, .unset] [(.int (2147483647 : Int32)), (.int p4)])) _
    refine XS.iand X0.here hx rfl (hb hby d3_3) rfl ?_
    show Steps p.tables e below (s₁.setTop (mkF m 4 #[.val (.ref a1), .val (.int p2), .val (.int (Int32.ofNat n)), .val (.int p4), .unset, .unset] [(.int (p4 &&& (2147483647 : Int32)))])) _
    refine XS.iloadN X0.here hx rfl (hb hby d3_4) rfl ?_
    show Steps p.tables e below (s₁.setTop (mkF m 5 #[.val (.ref a1), .val (.int p2), .val (.int (Int32.ofNat n)), .val (.int p4), .unset, .unset] [(.int (Int32.ofNat n)), (.int (p4 &&& (2147483647 : Int32)))])) _
    refine XS.iconst X0.here hx rfl (hb hby d3_5) ?_
    show Steps p.tables e below (s₁.setTop (mkF m 6 #[.val (.ref a1), .val (.int p2), .val (.int (Int32.ofNat n)), .val (.int p4), .unset, .unset] [(.int (1 : Int32)), (.int (Int32.ofNat n)), (.int (p4 &&& (2147483647 : Int32)))])) _
    refine XS.iadd X0.here hx rfl (hb hby d3_6) rfl ?_
    show Steps p.tables e below (s₁.setTop (mkF m 7 #[.val (.ref a1), .val (.int p2), .val (.int (Int32.ofNat n)), .val (.int p4), .unset, .unset] [(.int ((Int32.ofNat n) + (1 : Int32))), (.int (p4 &&& (2147483647 : Int32)))])) _
    refine iremM X0 hx rfl (hb hby d3_7) rfl (own_nz hn) ?_
    exact kt)
  rw [hs] at K1
  have K2 : Gx p e below s₁ f0 s₁ (mkF m 13 #[.val (.ref a1), .val (.int p2), .val (.int (Int32.ofNat n)), .val (.int p4), .val (.int (Int32.ofNat q)), .unset] [(.int (Int32.ofNat n)), (.int (Int32.ofNat q))]) := fun t kt => K1 t (by
    show Steps p.tables e below (s₁.setTop (mkF m 8 #[.val (.ref a1), .val (.int p2), .val (.int (Int32.ofNat n)), .val (.int p4), .unset, .unset] [(.int (Int32.ofNat q))])) _
    refine XS.istore X0.here hx rfl (hb hby d3_8) rfl (l' := #[.val (.ref a1), .val (.int p2), .val (.int (Int32.ofNat n)), .val (.int p4), .val (.int (Int32.ofNat q)), .unset]) rfl ?_
    show Steps p.tables e below (s₁.setTop (mkF m 10 #[.val (.ref a1), .val (.int p2), .val (.int (Int32.ofNat n)), .val (.int p4), .val (.int (Int32.ofNat q)), .unset] [])) _
    refine XS.iload X0.here hx rfl (hb hby d3_10) rfl ?_
    show Steps p.tables e below (s₁.setTop (mkF m 12 #[.val (.ref a1), .val (.int p2), .val (.int (Int32.ofNat n)), .val (.int p4), .val (.int (Int32.ofNat q)), .unset] [(.int (Int32.ofNat q))])) _
    refine XS.iloadN X0.here hx rfl (hb hby d3_12) rfl ?_
    exact kt)
  by_cases hb3 : (Int32.ofNat q) = (Int32.ofNat n)
  · skip
    have hqn : q = n := own_inj (Nat.le_trans (Nat.le_of_lt_succ hq) (Nat.le_trans hn (by decide))) (Nat.le_trans hn (by decide)) hb3
    have K4 : Gx p e below s₁ f0 s₁ (mkF m 17 #[.val (.ref a1), .val (.int p2), .val (.int (Int32.ofNat n)), .val (.int p4), .val (.int (Int32.ofNat q)), .unset] [(.int p2)]) := fun t kt => K2 t (by
      show Steps p.tables e below (s₁.setTop (mkF m 13 #[.val (.ref a1), .val (.int p2), .val (.int (Int32.ofNat n)), .val (.int p4), .val (.int (Int32.ofNat q)), .unset] [(.int (Int32.ofNat n)), (.int (Int32.ofNat q))])) _
      refine XS.icmpNo X0.here hx rfl (hb hby d3_13) rfl (teq hb3).2 ?_
      show Steps p.tables e below (s₁.setTop (mkF m 16 #[.val (.ref a1), .val (.int p2), .val (.int (Int32.ofNat n)), .val (.int p4), .val (.int (Int32.ofNat q)), .unset] [])) _
      refine XS.iloadN X0.here hx rfl (hb hby d3_16) rfl ?_
      exact kt)
    obtain ⟨fs5, hr5, hrun5, hended5, hW5, hsame5⟩ := X0.leave (v := some (.int p2)) (fun h => by rw [Bd.returns] at h; cases h)
    refine ⟨_, _, pre0 _ (K4 _ ?_), hrun5, hended5, _, _, rfl, ?_, ⟨_, rfl⟩, hW5, hsame5.mono (by decide) (by decide)⟩
    · exact retI X0 hx Bd.returns (hb hby d3_17) hr5
    · show QStp Z a1 p2 p3 p4 aS aP kS kP n st pl cnt q h0 n0 _ s₁.heap _
      rw [e0]
      exact ⟨st, pl, cnt, p2, rfl, N0, (Keep.refl h0 [a1, aS, aP]), pr0, pr1, pr2, pr5, pr3, pr4, (by unfold stepR; rw [if_pos hqn])⟩
  · skip
    have hqn : q ≠ n := fun z => hb3 (congrArg Int32.ofNat z)
    have K6 : Gx p e below s₁ f0 s₁ (mkF m 22 #[.val (.ref a1), .val (.int p2), .val (.int (Int32.ofNat n)), .val (.int p4), .val (.int (Int32.ofNat q)), .unset] [(.int ((1 : Int32) <<< ((Int32.ofNat q) &&& 31)))]) := fun t kt => K2 t (by
      show Steps p.tables e below (s₁.setTop (mkF m 13 #[.val (.ref a1), .val (.int p2), .val (.int (Int32.ofNat n)), .val (.int p4), .val (.int (Int32.ofNat q)), .unset] [(.int (Int32.ofNat n)), (.int (Int32.ofNat q))])) _
      refine XS.icmpYes X0.here hx rfl (pc0 := 13) (pc' := 18) rfl (hb hby d3_13) rfl (feq hb3).2 (by decide) (by decide) ?_
      show Steps p.tables e below (s₁.setTop (mkF m 18 #[.val (.ref a1), .val (.int p2), .val (.int (Int32.ofNat n)), .val (.int p4), .val (.int (Int32.ofNat q)), .unset] [])) _
      refine XS.iconst X0.here hx rfl (hb hby d3_18) ?_
      show Steps p.tables e below (s₁.setTop (mkF m 19 #[.val (.ref a1), .val (.int p2), .val (.int (Int32.ofNat n)), .val (.int p4), .val (.int (Int32.ofNat q)), .unset] [(.int (1 : Int32))])) _
      refine XS.iload X0.here hx rfl (hb hby d3_19) rfl ?_
      show Steps p.tables e below (s₁.setTop (mkF m 21 #[.val (.ref a1), .val (.int p2), .val (.int (Int32.ofNat n)), .val (.int p4), .val (.int (Int32.ofNat q)), .unset] [(.int (Int32.ofNat q)), (.int (1 : Int32))])) _
      refine XS.ishl X0.here hx rfl (hb hby d3_21) rfl ?_
      exact kt)
    rw [(show ((1 : Int32) <<< ((Int32.ofNat q) &&& 31)) = bitF q from rfl)] at K6
    have K7 : Gx p e below s₁ f0 s₁ (mkF m 28 #[.val (.ref a1), .val (.int p2), .val (.int (Int32.ofNat n)), .val (.int p4), .val (.int (Int32.ofNat q)), .val (.int (bitF q))] [(.int (p2 &&& (bitF q)))]) := fun t kt => K6 t (by
      show Steps p.tables e below (s₁.setTop (mkF m 22 #[.val (.ref a1), .val (.int p2), .val (.int (Int32.ofNat n)), .val (.int p4), .val (.int (Int32.ofNat q)), .unset] [(.int (bitF q))])) _
      refine XS.istore X0.here hx rfl (hb hby d3_22) rfl (l' := #[.val (.ref a1), .val (.int p2), .val (.int (Int32.ofNat n)), .val (.int p4), .val (.int (Int32.ofNat q)), .val (.int (bitF q))]) rfl ?_
      show Steps p.tables e below (s₁.setTop (mkF m 24 #[.val (.ref a1), .val (.int p2), .val (.int (Int32.ofNat n)), .val (.int p4), .val (.int (Int32.ofNat q)), .val (.int (bitF q))] [])) _
      refine XS.iloadN X0.here hx rfl (hb hby d3_24) rfl ?_
      show Steps p.tables e below (s₁.setTop (mkF m 25 #[.val (.ref a1), .val (.int p2), .val (.int (Int32.ofNat n)), .val (.int p4), .val (.int (Int32.ofNat q)), .val (.int (bitF q))] [(.int p2)])) _
      refine XS.iload X0.here hx rfl (hb hby d3_25) rfl ?_
      show Steps p.tables e below (s₁.setTop (mkF m 27 #[.val (.ref a1), .val (.int p2), .val (.int (Int32.ofNat n)), .val (.int p4), .val (.int (Int32.ofNat q)), .val (.int (bitF q))] [(.int (bitF q)), (.int p2)])) _
      refine XS.iand X0.here hx rfl (hb hby d3_27) rfl ?_
      exact kt)
    by_cases hb8 : (p2 &&& (bitF q)) = (0 : Int32)
    · skip
      have hA : startOk n st pl cnt q := by unfold okM at hok; rw [if_neg hqn, if_pos hb8] at hok; exact of_decide_eq_true hok
      have K9 : Gx p e below s₁ f0 s₁ (mkF m 47 #[.val (.ref a1), .val (.int p2), .val (.int (Int32.ofNat n)), .val (.int p4), .val (.int (Int32.ofNat q)), .val (.int (bitF q))] [(.int (Int32.ofNat q)), (.ref a1)]) := fun t kt => K7 t (by
        show Steps p.tables e below (s₁.setTop (mkF m 28 #[.val (.ref a1), .val (.int p2), .val (.int (Int32.ofNat n)), .val (.int p4), .val (.int (Int32.ofNat q)), .val (.int (bitF q))] [(.int (p2 &&& (bitF q)))])) _
        refine XS.ifYes X0.here hx rfl (pc0 := 28) (pc' := 44) rfl (hb hby d3_28) rfl ((if0 _ _).trans (teq hb8).1) (by decide) (by decide) ?_
        show Steps p.tables e below (s₁.setTop (mkF m 44 #[.val (.ref a1), .val (.int p2), .val (.int (Int32.ofNat n)), .val (.int p4), .val (.int (Int32.ofNat q)), .val (.int (bitF q))] [])) _
        refine XS.aloadN X0.here hx rfl (hb hby d3_44) rfl rfl ?_
        show Steps p.tables e below (s₁.setTop (mkF m 45 #[.val (.ref a1), .val (.int p2), .val (.int (Int32.ofNat n)), .val (.int p4), .val (.int (Int32.ofNat q)), .val (.int (bitF q))] [(.ref a1)])) _
        refine XS.iload X0.here hx rfl (hb hby d3_45) rfl ?_
        exact kt)
      obtain ⟨cq10, kq10, q10a, q10b, q10c⟩ := isOf hZ e0 pr0
      obtain ⟨_, _, ⟨T10, L10, k10, n10⟩, -, X10', ⟨Lc10, hQ10, l10, y10, z10⟩, st10⟩ := X0.virtualBack hx (y := (⟨"com/example/tideshift/tideshift/engine/MovingShards", "started", "(I)V"⟩ : MethodName)) (z := (⟨"com/example/tideshift/tideshift/engine/MovingShards", "started", "(I)V"⟩ : MethodName)) hown (mvT hZ (hw _ (List.mem_of_getElem? (i := 21) rfl))) (mvT hZ (hw _ (List.mem_of_getElem? (i := 22) rfl))) (notFace_of_selects (args := #[]) (mvT hZ (hw _ (List.mem_of_getElem? (i := 24) rfl)))) (mvT hZ (hw _ (List.mem_of_getElem? (i := 24) rfl))) (mvT hZ (hw _ (List.mem_of_getElem? (i := 23) rfl))) (by decide) (backOf (W := 0) (rmSta l Z a0 hw [] a1 (Int32.ofNat q) aS aP kS kP n st pl cnt q h0 n0 (Nat.le_trans Z0 (Keep.refl h0 [a1, aS, aP]).1) pr0 pr1 pr2 pr3 pr4 pr5 pr6 pr7 pr8 pr9 pr10 pr11 hn rfl hA) hZ (hw _ (List.mem_of_getElem? (i := 25) rfl)) (hw _ (List.mem_of_getElem? (i := 2) rfl)) (by decide) (by decide)) q10a q10c (g := (mkF m 47 #[.val (.ref a1), .val (.int p2), .val (.int (Int32.ofNat n)), .val (.int p4), .val (.int (Int32.ofNat q)), .val (.int (bitF q))] [(.int (Int32.ofNat q)), (.ref a1)])) rfl (by rw [hml]; rfl) (Steps.refl _) (argsL := [(.int (Int32.ofNat q))]) (rest := []) (lenOf pd__I_V rfl) rfl (by show 2 * 0 + _ ≤ _; exact Nat.le_of_eq rfl) (hb hby d3_47) (fun _ _ => ⟨rfl, e0, (by decide : 0 + 0 ≤ _), (by decide : 0 + 0 ≤ _)⟩)
      dsimp only [Pt.U, Pt.locs, Pt.cells, Pt.slots] at X10' l10 y10 z10 st10 hQ10
      subst l10 y10 z10
      obtain ⟨h10, e10⟩ : ∃ z, T10.heap = z := ⟨_, rfl⟩
      rw [e10] at hQ10
      obtain ⟨rfl, N10q, Kc10, f11, f12, f13, f14, f15, f16⟩ := hQ10
      obtain ⟨lc10, X10, N10⟩ : ∃ lc, Stand p l e ({ frames := 2, cells := 0, slots := 0, locals := 29 } : Room) s m #[(.ref a1), (.int p2), (.int p3), (.int p4)] below meth c T10 lc 0 0 ∧ Fr n0 lc := ⟨_, X10', Fr.app N0 N10q⟩
      have K17 : Gx p e below s₁ f0 T10 (mkF m 50 #[.val (.ref a1), .val (.int p2), .val (.int (Int32.ofNat n)), .val (.int p4), .val (.int (Int32.ofNat q)), .val (.int (bitF q))] []) := fun t kt => K9 t (st10.trans kt)
      have K18 : Gx p e below s₁ f0 T10 (mkF m 54 #[.val (.ref a1), .val (.int p2), .val (.int (Int32.ofNat n)), .val (.int p4), .val (.int (Int32.ofNat q)), .val (.int (bitF q))] [(.int (p2 ||| (bitF q)))]) := fun t kt => K17 t (by
        show Steps p.tables e below (T10.setTop (mkF m 50 #[.val (.ref a1), .val (.int p2), .val (.int (Int32.ofNat n)), .val (.int p4), .val (.int (Int32.ofNat q)), .val (.int (bitF q))] [])) _
        refine XS.iloadN X10.here hx rfl (hb hby d3_50) rfl ?_
        show Steps p.tables e below (T10.setTop (mkF m 51 #[.val (.ref a1), .val (.int p2), .val (.int (Int32.ofNat n)), .val (.int p4), .val (.int (Int32.ofNat q)), .val (.int (bitF q))] [(.int p2)])) _
        refine XS.iload X10.here hx rfl (hb hby d3_51) rfl ?_
        show Steps p.tables e below (T10.setTop (mkF m 53 #[.val (.ref a1), .val (.int p2), .val (.int (Int32.ofNat n)), .val (.int p4), .val (.int (Int32.ofNat q)), .val (.int (bitF q))] [(.int (bitF q)), (.int p2)])) _
        refine XS.ior X10.here hx rfl (hb hby d3_53) rfl ?_
        exact kt)
      have kp20 : Keep h0 h10 [a1, aS, aP] := (Keep.trans (Keep.refl h0 [a1, aS, aP]) Kc10 (allS (Or.inl (List.mem_of_getElem? (i := 0) rfl)) (allS (Or.inl (List.mem_of_getElem? (i := 1) rfl)) (allS (Or.inl (List.mem_of_getElem? (i := 2) rfl)) all0))))
      obtain ⟨fs19, hr19, hrun19, hended19, hW19, hsame19⟩ := X10.leave (v := some (.int (p2 ||| (bitF q)))) (fun h => by rw [Bd.returns] at h; cases h)
      refine ⟨_, _, pre0 _ (K18 _ ?_), hrun19, hended19, _, _, rfl, ?_, ⟨_, rfl⟩, hW19, hsame19.mono (by decide) (by decide)⟩
      · exact retI X10 hx Bd.returns (hb hby d3_54) hr19
      · show QStp Z a1 p2 p3 p4 aS aP kS kP n st pl cnt q h0 n0 _ T10.heap _
        rw [e10]
        exact ⟨(swS st (pl.getD q 0) (cnt - 1)), (swP st pl (pl.getD q 0) (cnt - 1)), (cnt - 1), (p2 ||| (bitF q)), rfl, N10, kp20, f11, f12, f13, f14, f15, f16, (by unfold stepR; rw [if_neg hqn, if_pos hb8])⟩
    · skip
      have hA : arriveOk n st pl cnt q := by unfold okM at hok; rw [if_neg hqn, if_neg hb8] at hok; exact of_decide_eq_true hok
      have K21 : Gx p e below s₁ f0 s₁ (mkF m 34 #[.val (.ref a1), .val (.int p2), .val (.int (Int32.ofNat n)), .val (.int p4), .val (.int (Int32.ofNat q)), .val (.int (bitF q))] [(.int (Int32.ofNat q)), (.ref a1)]) := fun t kt => K7 t (by
        show Steps p.tables e below (s₁.setTop (mkF m 28 #[.val (.ref a1), .val (.int p2), .val (.int (Int32.ofNat n)), .val (.int p4), .val (.int (Int32.ofNat q)), .val (.int (bitF q))] [(.int (p2 &&& (bitF q)))])) _
        refine XS.ifNo X0.here hx rfl (hb hby d3_28) rfl ((if0 _ _).trans (feq hb8).1) ?_
        show Steps p.tables e below (s₁.setTop (mkF m 31 #[.val (.ref a1), .val (.int p2), .val (.int (Int32.ofNat n)), .val (.int p4), .val (.int (Int32.ofNat q)), .val (.int (bitF q))] [])) _
        refine XS.aloadN X0.here hx rfl (hb hby d3_31) rfl rfl ?_
        show Steps p.tables e below (s₁.setTop (mkF m 32 #[.val (.ref a1), .val (.int p2), .val (.int (Int32.ofNat n)), .val (.int p4), .val (.int (Int32.ofNat q)), .val (.int (bitF q))] [(.ref a1)])) _
        refine XS.iload X0.here hx rfl (hb hby d3_32) rfl ?_
        exact kt)
      obtain ⟨cq22, kq22, q22a, q22b, q22c⟩ := isOf hZ e0 pr0
      obtain ⟨_, _, ⟨T22, L22, k22, n22⟩, -, X22', ⟨Lc22, hQ22, l22, y22, z22⟩, st22⟩ := X0.virtualBack hx (y := (⟨"com/example/tideshift/tideshift/engine/MovingShards", "arrived", "(I)V"⟩ : MethodName)) (z := (⟨"com/example/tideshift/tideshift/engine/MovingShards", "arrived", "(I)V"⟩ : MethodName)) hown (mvT hZ (hw _ (List.mem_of_getElem? (i := 30) rfl))) (mvT hZ (hw _ (List.mem_of_getElem? (i := 31) rfl))) (notFace_of_selects (args := #[]) (mvT hZ (hw _ (List.mem_of_getElem? (i := 33) rfl)))) (mvT hZ (hw _ (List.mem_of_getElem? (i := 33) rfl))) (mvT hZ (hw _ (List.mem_of_getElem? (i := 32) rfl))) (by decide) (backOf (W := 0) (rmArr_ l Z a0 hw [] a1 (Int32.ofNat q) aS aP kS kP n st pl cnt q h0 n0 (Nat.le_trans Z0 (Keep.refl h0 [a1, aS, aP]).1) pr0 pr1 pr2 pr3 pr4 pr5 pr6 pr7 pr8 pr9 pr10 pr11 hn rfl hA) hZ (hw _ (List.mem_of_getElem? (i := 34) rfl)) (hw _ (List.mem_of_getElem? (i := 2) rfl)) (by decide) (by decide)) q22a q22c (g := (mkF m 34 #[.val (.ref a1), .val (.int p2), .val (.int (Int32.ofNat n)), .val (.int p4), .val (.int (Int32.ofNat q)), .val (.int (bitF q))] [(.int (Int32.ofNat q)), (.ref a1)])) rfl (by rw [hml]; rfl) (Steps.refl _) (argsL := [(.int (Int32.ofNat q))]) (rest := []) (lenOf pd__I_V rfl) rfl (by show 2 * 0 + _ ≤ _; exact Nat.le_of_eq rfl) (hb hby d3_34) (fun _ _ => ⟨rfl, e0, (by decide : 0 + 0 ≤ _), (by decide : 0 + 0 ≤ _)⟩)
      dsimp only [Pt.U, Pt.locs, Pt.cells, Pt.slots] at X22' l22 y22 z22 st22 hQ22
      subst l22 y22 z22
      obtain ⟨h22, e22⟩ : ∃ z, T22.heap = z := ⟨_, rfl⟩
      rw [e22] at hQ22
      obtain ⟨rfl, N22q, Kc22, f23, f24, f25, f26, f27, f28⟩ := hQ22
      obtain ⟨lc22, X22, N22⟩ : ∃ lc, Stand p l e ({ frames := 2, cells := 0, slots := 0, locals := 29 } : Room) s m #[(.ref a1), (.int p2), (.int p3), (.int p4)] below meth c T22 lc 0 0 ∧ Fr n0 lc := ⟨_, X22', Fr.app N0 N22q⟩
      have K29 : Gx p e below s₁ f0 T22 (mkF m 37 #[.val (.ref a1), .val (.int p2), .val (.int (Int32.ofNat n)), .val (.int p4), .val (.int (Int32.ofNat q)), .val (.int (bitF q))] []) := fun t kt => K21 t (st22.trans kt)
      have K30 : Gx p e below s₁ f0 T22 (mkF m 43 #[.val (.ref a1), .val (.int p2), .val (.int (Int32.ofNat n)), .val (.int p4), .val (.int (Int32.ofNat q)), .val (.int (bitF q))] [(.int (p2 &&& ((bitF q) ^^^ (-1 : Int32))))]) := fun t kt => K29 t (by
        show Steps p.tables e below (T22.setTop (mkF m 37 #[.val (.ref a1), .val (.int p2), .val (.int (Int32.ofNat n)), .val (.int p4), .val (.int (Int32.ofNat q)), .val (.int (bitF q))] [])) _
        refine XS.iloadN X22.here hx rfl (hb hby d3_37) rfl ?_
        show Steps p.tables e below (T22.setTop (mkF m 38 #[.val (.ref a1), .val (.int p2), .val (.int (Int32.ofNat n)), .val (.int p4), .val (.int (Int32.ofNat q)), .val (.int (bitF q))] [(.int p2)])) _
        refine XS.iload X22.here hx rfl (hb hby d3_38) rfl ?_
        show Steps p.tables e below (T22.setTop (mkF m 40 #[.val (.ref a1), .val (.int p2), .val (.int (Int32.ofNat n)), .val (.int p4), .val (.int (Int32.ofNat q)), .val (.int (bitF q))] [(.int (bitF q)), (.int p2)])) _
        refine XS.iconst X22.here hx rfl (hb hby d3_40) ?_
        show Steps p.tables e below (T22.setTop (mkF m 41 #[.val (.ref a1), .val (.int p2), .val (.int (Int32.ofNat n)), .val (.int p4), .val (.int (Int32.ofNat q)), .val (.int (bitF q))] [(.int (-1 : Int32)), (.int (bitF q)), (.int p2)])) _
        refine XS.ixor X22.here hx rfl (hb hby d3_41) rfl ?_
        show Steps p.tables e below (T22.setTop (mkF m 42 #[.val (.ref a1), .val (.int p2), .val (.int (Int32.ofNat n)), .val (.int p4), .val (.int (Int32.ofNat q)), .val (.int (bitF q))] [(.int ((bitF q) ^^^ (-1 : Int32))), (.int p2)])) _
        refine XS.iand X22.here hx rfl (hb hby d3_42) rfl ?_
        exact kt)
      have kp32 : Keep h0 h22 [a1, aS, aP] := (Keep.trans (Keep.refl h0 [a1, aS, aP]) Kc22 (allS (Or.inl (List.mem_of_getElem? (i := 0) rfl)) (allS (Or.inl (List.mem_of_getElem? (i := 1) rfl)) (allS (Or.inl (List.mem_of_getElem? (i := 2) rfl)) all0))))
      obtain ⟨fs31, hr31, hrun31, hended31, hW31, hsame31⟩ := X22.leave (v := some (.int (p2 &&& ((bitF q) ^^^ (-1 : Int32))))) (fun h => by rw [Bd.returns] at h; cases h)
      refine ⟨_, _, pre0 _ (K30 _ ?_), hrun31, hended31, _, _, rfl, ?_, ⟨_, rfl⟩, hW31, hsame31.mono (by decide) (by decide)⟩
      · exact retI X22 hx Bd.returns (hb hby d3_43) hr31
      · show QStp Z a1 p2 p3 p4 aS aP kS kP n st pl cnt q h0 n0 _ T22.heap _
        rw [e22]
        exact ⟨(swS st (pl.getD q 0) cnt), (swP st pl (pl.getD q 0) cnt), (cnt + 1), (p2 &&& ((bitF q) ^^^ (-1 : Int32))), rfl, N22, kp32, f23, f24, f25, f26, f27, f28, (by unfold stepR; rw [if_neg hqn, if_neg hb8])⟩
theorem pn_0 : plainName "com/example/tideshift/tideshift/engine/MovingShardsIsMovingPinLaw" = true := by first | (simp [plainName, overriddenIn]; done) | decide +kernel
theorem pd__Lcom_example_tideshift_tideshift_engine_MovingShards_III_I : parseMethodDescriptor "(Lcom/example/tideshift/tideshift/engine/MovingShards;III)I" = some ⟨[(.object "com/example/tideshift/tideshift/engine/MovingShards"), .int, .int, .int], some .int⟩ := by decide +kernel
theorem pd__I_Z : parseMethodDescriptor "(I)Z" = some ⟨[.int], some .boolean⟩ := by decide +kernel
theorem ef_0_1 (m : MethodId) (p1 : Int32) (p2 : Int32) (p3 : Int32) (p4 : Int32) (p5 : Int32) : entryFrame m #[(.int p1), (.int p2), (.int p3), (.int p4), (.int p5)] maxLocals = mkF m 0 #[.val (.int p1), .val (.int p2), .val (.int p3), .val (.int p4), .val (.int p5), .unset, .unset, .unset, .unset] [] := by first | (simp [entryFrame, mkF, argsToLocals, Value.category, maxLocals]; done) | rfl
def Q0 (Z : State) (p1 : Int32) (p2 : Int32) (p3 : Int32) (p4 : Int32) (p5 : Int32) (h0 : Heap) (n0 : Nat) (v : Option Value) (h : Heap) (L : List Loc) : Prop := v = some (.int (1 : Int32)) ∧ Fr n0 L
set_option maxRecDepth 65536 in
set_option maxHeartbeats 40000000 in
theorem rm0_1 (l : Launch) (Z : State) (a0 : Array Value) (hw : ∀ d ∈ tables_1, d.before a0 Z = true) (ws : List Jvm.Cond) (p1 : Int32) (p2 : Int32) (p3 : Int32) (p4 : Int32) (p5 : Int32) (h0 : Heap) (n0 : Nat) (Z0 : n0 ≤ h0.size) (ha_ : (p1 &&& (3 : Int32)) = (0 : Int32)) :
    MetFree l x (head1 (Jvm.Cond.code x code maxLocals ret :: ws) room_1) (fun a U => a = #[(.int p1), (.int p2), (.int p3), (.int p4), (.int p5)] ∧ Z.Warmed39 U.vm ∧ U.heap = h0) (fun _ _ _ _ _ => True) (fun _ U o U' => ∃ v L, o = .returned v ∧ Q0 Z p1 p2 p3 p4 p5 h0 n0 v U'.heap L ∧ FrameEnd U o U' L room_1.cells room_1.slots) := by
  refine MetFree.of_bodySF (plainFor_of_name pn_0) hisR ?_
  intro p e s m args below meth c s₁ Bd hml0 hP hK
  obtain ⟨rfl, hZ, hh⟩ := hP
  have hx := Bd.exec
  have hby := Bd.bytes
  have hml : c.maxLocals = 9 := hml0
  have hown : s.vm.findClass "com/example/tideshift/tideshift/engine/MovingShardsIsMovingPinLaw" = some m.cls := findClass_of_methodNamed Bd.named
  have hnm := (name_of_methodNamed Bd.named Bd.method).1
  have X0 : Stand p l e room_1 s m #[(.int p1), (.int p2), (.int p3), (.int p4), (.int p5)] below meth c s₁ [] 0 0 := Stand.of_body Bd
  have hs0 : h0 = s.heap := hh.symm
  have e0 : s₁.heap = h0 := by rw [← hh, Bd.state]; rfl
  have N0 := Fr.nil n0
  obtain ⟨f0, hf0⟩ : ∃ f, f = entryFrame m #[(.int p1), (.int p2), (.int p3), (.int p4), (.int p5)] maxLocals := ⟨_, rfl⟩
  have pre0 : ∀ t, Steps p.tables e below (s₁.setTop f0) t → Steps p.tables e below (s₁.setTop (entryFrame m #[(.int p1), (.int p2), (.int p3), (.int p4), (.int p5)] maxLocals)) t := fun t k => hf0 ▸ k
  have K0 : Gx p e below s₁ f0 s₁ (mkF m 0 #[.val (.int p1), .val (.int p2), .val (.int p3), .val (.int p4), .val (.int p5), .unset, .unset, .unset, .unset] []) := fun t kt => by rw [hf0]; exact castTop (ef_0_1 m p1 p2 p3 p4 p5) kt
  obtain ⟨s1, hs1, hq1⟩ := own_s p2 (n := 1) (by decide)
  obtain ⟨s2, hs2, hq2⟩ := own_s p3 (n := 1) (by decide)
  obtain ⟨s3, hs3, hq3⟩ := own_s p4 (n := 1) (by decide)
  obtain ⟨s4, hs4, hq4⟩ := own_s p5 (n := 1) (by decide)
  have hB := own_all1 s1 hq1 s2 hq2 s3 hq3 s4 hq4
  have K1 : Gx p e below s₁ f0 s₁ (mkF m 4 #[.val (.int p1), .val (.int p2), .val (.int p3), .val (.int p4), .val (.int p5), .unset, .unset, .unset, .unset] [(.int (p1 &&& (3 : Int32))), (.int (1 : Int32))]) := fun t kt => K0 t (by
    show Steps p.tables e below (s₁.setTop (mkF m 0 #[.val (.int p1), .val (.int p2), .val (.int p3), .val (.int p4), .val (.int p5), .unset, .unset, .unset, .unset] [])) _
    refine XS.iconst X0.here hx rfl (hb hby at_0) ?_
    show Steps p.tables e below (s₁.setTop (mkF m 1 #[.val (.int p1), .val (.int p2), .val (.int p3), .val (.int p4), .val (.int p5), .unset, .unset, .unset, .unset] [(.int (1 : Int32))])) _
    refine XS.iloadN X0.here hx rfl (hb hby at_1) rfl ?_
    show Steps p.tables e below (s₁.setTop (mkF m 2 #[.val (.int p1), .val (.int p2), .val (.int p3), .val (.int p4), .val (.int p5), .unset, .unset, .unset, .unset] [(.int p1), (.int (1 : Int32))])) _
    refine XS.iconst X0.here hx rfl (hb hby at_2) ?_
    show Steps p.tables e below (s₁.setTop (mkF m 3 #[.val (.int p1), .val (.int p2), .val (.int p3), .val (.int p4), .val (.int p5), .unset, .unset, .unset, .unset] [(.int (3 : Int32)), (.int p1), (.int (1 : Int32))])) _
    refine XS.iand X0.here hx rfl (hb hby at_3) rfl ?_
    exact kt)
  rw [ha_] at K1
  have K2 : Gx p e below s₁ f0 s₁ (mkF m 7 #[.val (.int p1), .val (.int p2), .val (.int p3), .val (.int p4), .val (.int p5), .val (.int (1 : Int32)), .unset, .unset, .unset] []) := fun t kt => K1 t (by
    show Steps p.tables e below (s₁.setTop (mkF m 4 #[.val (.int p1), .val (.int p2), .val (.int p3), .val (.int p4), .val (.int p5), .unset, .unset, .unset, .unset] [(.int (0 : Int32)), (.int (1 : Int32))])) _
    refine XS.iadd X0.here hx rfl (hb hby at_4) rfl ?_
    show Steps p.tables e below (s₁.setTop (mkF m 5 #[.val (.int p1), .val (.int p2), .val (.int p3), .val (.int p4), .val (.int p5), .unset, .unset, .unset, .unset] [(.int (1 : Int32))])) _
    refine XS.istore X0.here hx rfl (hb hby at_5) rfl (l' := #[.val (.int p1), .val (.int p2), .val (.int p3), .val (.int p4), .val (.int p5), .val (.int (1 : Int32)), .unset, .unset, .unset]) rfl ?_
    exact kt)
  obtain ⟨T3, h3, X3, e3, E3, A3, D3, -, st3⟩ := newO X0 hx hZ hown (hw _ (List.mem_of_getElem? (i := 0) rfl)) (hw _ (List.mem_of_getElem? (i := 1) rfl)) (hw _ (List.mem_of_getElem? (i := 2) rfl)) e0 (g := (mkF m 7 #[.val (.int p1), .val (.int p2), .val (.int p3), .val (.int p4), .val (.int p5), .val (.int (1 : Int32)), .unset, .unset, .unset] [])) rfl (hb hby at_7) (by decide) (by decide)
  obtain ⟨b3, g3⟩ : ∃ z, z = h0.size := ⟨_, rfl⟩
  rw [← g3] at A3 D3 st3
  have f4 : Fld Z h3 b3 "com/example/tideshift/tideshift/engine/MovingShards" "still" "[I" .null := D3 (Or.inr (hw _ (List.mem_of_getElem? (i := 11) rfl))) (ty := (.array .int)) (by decide)
  have f5 : Fld Z h3 b3 "com/example/tideshift/tideshift/engine/MovingShards" "placeOf" "[I" .null := D3 (Or.inr (hw _ (List.mem_of_getElem? (i := 13) rfl))) (ty := (.array .int)) (by decide)
  have f6 : Fld Z h3 b3 "com/example/tideshift/tideshift/engine/MovingShards" "stillCount" "I" (.int (0 : Int32)) := D3 (Or.inl (hw _ (List.mem_of_getElem? (i := 15) rfl))) (ty := .int) (by decide)
  have K7 : Gx p e below s₁ f0 T3 (mkF m 10 #[.val (.int p1), .val (.int p2), .val (.int p3), .val (.int p4), .val (.int p5), .val (.int (1 : Int32)), .unset, .unset, .unset] [(.ref b3)]) := fun t kt => K2 t (st3 t kt)
  have K8 : Gx p e below s₁ f0 T3 (mkF m 13 #[.val (.int p1), .val (.int p2), .val (.int p3), .val (.int p4), .val (.int p5), .val (.int (1 : Int32)), .unset, .unset, .unset] [(.int (1 : Int32)), (.ref b3), (.ref b3)]) := fun t kt => K7 t (by
    show Steps p.tables e below (T3.setTop (mkF m 10 #[.val (.int p1), .val (.int p2), .val (.int p3), .val (.int p4), .val (.int p5), .val (.int (1 : Int32)), .unset, .unset, .unset] [(.ref b3)])) _
    refine XS.dup X3.here hx rfl (hb hby at_10) rfl rfl ?_
    show Steps p.tables e below (T3.setTop (mkF m 11 #[.val (.int p1), .val (.int p2), .val (.int p3), .val (.int p4), .val (.int p5), .val (.int (1 : Int32)), .unset, .unset, .unset] [(.ref b3), (.ref b3)])) _
    refine XS.iload X3.here hx rfl (hb hby at_11) rfl ?_
    exact kt)
  have kp9 : Keep h0 h3 [] := ((Keep.refl h0 []).ext E3)
  obtain ⟨_, _, ⟨T10, L10, k10, n10⟩, -, X10', ⟨Lc10, hQ10, l10, y10, z10⟩, st10⟩ := X3.specialBack hx (y := (⟨"com/example/tideshift/tideshift/engine/MovingShards", "<init>", "(I)V"⟩ : MethodName)) rfl hown (mvT hZ (hw _ (List.mem_of_getElem? (i := 3) rfl))) (mvT hZ (hw _ (List.mem_of_getElem? (i := 4) rfl))) (mvT hZ (hw _ (List.mem_of_getElem? (i := 5) rfl))) (by decide) (backOf (W := 1) (rmIni1 l Z a0 hw [] b3 h3 n0 (Nat.le_trans Z0 kp9.1) A3 (Nat.le_trans Z0 (Nat.le_trans (Keep.refl h0 []).1 (Nat.le_of_eq g3.symm))) f4 f5 f6) hZ (hw _ (List.mem_of_getElem? (i := 5) rfl)) (hw _ (List.mem_of_getElem? (i := 2) rfl)) (by decide) (by decide)) (g := (mkF m 13 #[.val (.int p1), .val (.int p2), .val (.int p3), .val (.int p4), .val (.int p5), .val (.int (1 : Int32)), .unset, .unset, .unset] [(.int (1 : Int32)), (.ref b3), (.ref b3)])) rfl (by rw [hml]; rfl) (Steps.refl _) (a := b3) (argsL := [(.int (1 : Int32))]) (rest := [(.ref b3)]) (lenOf pd__I_V rfl) rfl (by show 2 * 0 + _ ≤ _; exact Nat.le_of_eq rfl) (hb hby at_13) (fun _ _ => ⟨rfl, e3, (by decide : 1 + 2 ≤ _), (by decide : 3 + 2 ≤ _)⟩)
  dsimp only [Pt.U, Pt.locs, Pt.cells, Pt.slots] at X10' l10 y10 z10 st10 hQ10
  subst l10 y10 z10
  obtain ⟨h10, e10⟩ : ∃ z, T10.heap = z := ⟨_, rfl⟩
  rw [e10] at hQ10
  obtain ⟨bS_10, bP_10, kS_10, kP_10, rfl, N10q, Kc10, f11, f12, f13, f14, f15, f16, f17, f18, f19⟩ := hQ10
  obtain ⟨lc10, X10, N10⟩ : ∃ lc, Stand p l e room_1 s m #[(.int p1), (.int p2), (.int p3), (.int p4), (.int p5)] below meth c T10 lc 3 5 ∧ Fr n0 lc := ⟨_, X10', Fr.app N0 N10q⟩
  have K20 : Gx p e below s₁ f0 T10 (mkF m 16 #[.val (.int p1), .val (.int p2), .val (.int p3), .val (.int p4), .val (.int p5), .val (.int (1 : Int32)), .unset, .unset, .unset] [(.ref b3)]) := fun t kt => K8 t (st10.trans kt)
  have K21 : Gx p e below s₁ f0 T10 (mkF m 28 #[.val (.int p1), .val (.int p2), .val (.int p3), .val (.int p4), .val (.int p5), .val (.int (1 : Int32)), .val (.ref b3), .val (.int (0 : Int32)), .unset] [(.int p2), (.int (1 : Int32)), (.int (0 : Int32)), (.ref b3)]) := fun t kt => K20 t (by
    show Steps p.tables e below (T10.setTop (mkF m 16 #[.val (.int p1), .val (.int p2), .val (.int p3), .val (.int p4), .val (.int p5), .val (.int (1 : Int32)), .unset, .unset, .unset] [(.ref b3)])) _
    refine XS.astore X10.here hx rfl (hb hby at_16) rfl rfl (l' := #[.val (.int p1), .val (.int p2), .val (.int p3), .val (.int p4), .val (.int p5), .val (.int (1 : Int32)), .val (.ref b3), .unset, .unset]) rfl ?_
    show Steps p.tables e below (T10.setTop (mkF m 18 #[.val (.int p1), .val (.int p2), .val (.int p3), .val (.int p4), .val (.int p5), .val (.int (1 : Int32)), .val (.ref b3), .unset, .unset] [])) _
    refine XS.iconst X10.here hx rfl (hb hby at_18) ?_
    show Steps p.tables e below (T10.setTop (mkF m 19 #[.val (.int p1), .val (.int p2), .val (.int p3), .val (.int p4), .val (.int p5), .val (.int (1 : Int32)), .val (.ref b3), .unset, .unset] [(.int (0 : Int32))])) _
    refine XS.istore X10.here hx rfl (hb hby at_19) rfl (l' := #[.val (.int p1), .val (.int p2), .val (.int p3), .val (.int p4), .val (.int p5), .val (.int (1 : Int32)), .val (.ref b3), .val (.int (0 : Int32)), .unset]) rfl ?_
    show Steps p.tables e below (T10.setTop (mkF m 21 #[.val (.int p1), .val (.int p2), .val (.int p3), .val (.int p4), .val (.int p5), .val (.int (1 : Int32)), .val (.ref b3), .val (.int (0 : Int32)), .unset] [])) _
    refine XS.aload X10.here hx rfl (hb hby at_21) rfl rfl ?_
    show Steps p.tables e below (T10.setTop (mkF m 23 #[.val (.int p1), .val (.int p2), .val (.int p3), .val (.int p4), .val (.int p5), .val (.int (1 : Int32)), .val (.ref b3), .val (.int (0 : Int32)), .unset] [(.ref b3)])) _
    refine XS.iload X10.here hx rfl (hb hby at_23) rfl ?_
    show Steps p.tables e below (T10.setTop (mkF m 25 #[.val (.int p1), .val (.int p2), .val (.int p3), .val (.int p4), .val (.int p5), .val (.int (1 : Int32)), .val (.ref b3), .val (.int (0 : Int32)), .unset] [(.int (0 : Int32)), (.ref b3)])) _
    refine XS.iload X10.here hx rfl (hb hby at_25) rfl ?_
    show Steps p.tables e below (T10.setTop (mkF m 27 #[.val (.int p1), .val (.int p2), .val (.int p3), .val (.int p4), .val (.int p5), .val (.int (1 : Int32)), .val (.ref b3), .val (.int (0 : Int32)), .unset] [(.int (1 : Int32)), (.int (0 : Int32)), (.ref b3)])) _
    refine XS.iloadN X10.here hx rfl (hb hby at_27) rfl ?_
    exact kt)
  have kp22 : Keep h0 h10 [] := (Keep.trans kp9 Kc10 (allS (Or.inr (Nat.le_trans (Keep.refl h0 []).1 (Nat.le_of_eq g3.symm))) all0))
  obtain ⟨_, _, ⟨T23, L23, k23, n23⟩, -, X23', ⟨Lc23, hQ23, l23, y23, z23⟩, st23⟩ := Jvm.LawKit.callS X10 hx (y := (⟨"com/example/tideshift/tideshift/engine/MovingShardsIsMovingPinLaw", "step", "(Lcom/example/tideshift/tideshift/engine/MovingShards;III)I"⟩ : MethodName)) hown (mvT hZ (hw _ (List.mem_of_getElem? (i := 16) rfl))) (mvT hZ (hw _ (List.mem_of_getElem? (i := 17) rfl))) (mvT hZ (hw _ (List.mem_of_getElem? (i := 18) rfl))) (mvT hZ (hw _ (List.mem_of_getElem? (i := 19) rfl))) (by decide) (backOf (W := 0) (rmStp l Z a0 hw [] b3 (0 : Int32) (1 : Int32) p2 bS_10 bP_10 kS_10 kP_10 1 (List.range 1) (List.range 1) 1 s1 h10 n0 (Nat.le_trans Z0 kp22.1) f11 f12 f13 f18 f19 f14 (Nat.le_trans Z0 (Nat.le_trans (Keep.refl h0 []).1 (Nat.le_of_eq g3.symm))) (Nat.le_trans Z0 (Nat.le_trans kp9.1 f15)) (Nat.le_trans Z0 (Nat.le_trans kp9.1 f16)) (Nat.ne_of_lt (Nat.lt_of_lt_of_le A3.lt f15)) (Nat.ne_of_lt (Nat.lt_of_lt_of_le A3.lt f16)) f17 (by decide) (by decide) hs1 hq1 (by have h := hB; unfold allOk at h; simp only [Bool.and_eq_true] at h; exact h.1.1.1.1.1)) hZ (hw _ (List.mem_of_getElem? (i := 19) rfl)) (hw _ (List.mem_of_getElem? (i := 18) rfl)) (by decide) (by decide)) (g := (mkF m 28 #[.val (.int p1), .val (.int p2), .val (.int p3), .val (.int p4), .val (.int p5), .val (.int (1 : Int32)), .val (.ref b3), .val (.int (0 : Int32)), .unset] [(.int p2), (.int (1 : Int32)), (.int (0 : Int32)), (.ref b3)])) rfl (by rw [hml]; rfl) (argsL := [(.ref b3), (.int (0 : Int32)), (.int (1 : Int32)), (.int p2)]) (rest := []) (lenOf pd__Lcom_example_tideshift_tideshift_engine_MovingShards_III_I rfl) rfl (by show 2 * 0 + _ ≤ _; exact Nat.le_of_eq rfl) (hb hby at_28) (fun _ _ => ⟨rfl, e10, (by decide : 3 + 0 ≤ _), (by decide : 5 + 0 ≤ _)⟩)
  dsimp only [Pt.U, Pt.locs, Pt.cells, Pt.slots] at X23' l23 y23 z23 st23 hQ23
  subst l23 y23 z23
  obtain ⟨h23, e23⟩ : ∃ z, T23.heap = z := ⟨_, rfl⟩
  rw [e23] at hQ23
  obtain ⟨stx_23, plx_23, ctx_23, mkx_23, rfl, N23q, Kc23, f24, f25, f26, f27, f28, f29, f30⟩ := hQ23
  obtain ⟨lc23, X23, N23⟩ : ∃ lc, Stand p l e room_1 s m #[(.int p1), (.int p2), (.int p3), (.int p4), (.int p5)] below meth c T23 lc 3 5 ∧ Fr n0 lc := ⟨_, X23', Fr.app N10 N23q⟩
  have K31 : Gx p e below s₁ f0 T23 (mkF m 31 #[.val (.int p1), .val (.int p2), .val (.int p3), .val (.int p4), .val (.int p5), .val (.int (1 : Int32)), .val (.ref b3), .val (.int (0 : Int32)), .unset] [(.int mkx_23)]) := fun t kt => K21 t (st23 t kt)
  have u1 := own_u1 (n := 1) hB f30
  have K32 : Gx p e below s₁ f0 T23 (mkF m 40 #[.val (.int p1), .val (.int p2), .val (.int p3), .val (.int p4), .val (.int p5), .val (.int (1 : Int32)), .val (.ref b3), .val (.int mkx_23), .unset] [(.int p3), (.int (1 : Int32)), (.int mkx_23), (.ref b3)]) := fun t kt => K31 t (by
    show Steps p.tables e below (T23.setTop (mkF m 31 #[.val (.int p1), .val (.int p2), .val (.int p3), .val (.int p4), .val (.int p5), .val (.int (1 : Int32)), .val (.ref b3), .val (.int (0 : Int32)), .unset] [(.int mkx_23)])) _
    refine XS.istore X23.here hx rfl (hb hby at_31) rfl (l' := #[.val (.int p1), .val (.int p2), .val (.int p3), .val (.int p4), .val (.int p5), .val (.int (1 : Int32)), .val (.ref b3), .val (.int mkx_23), .unset]) rfl ?_
    show Steps p.tables e below (T23.setTop (mkF m 33 #[.val (.int p1), .val (.int p2), .val (.int p3), .val (.int p4), .val (.int p5), .val (.int (1 : Int32)), .val (.ref b3), .val (.int mkx_23), .unset] [])) _
    refine XS.aload X23.here hx rfl (hb hby at_33) rfl rfl ?_
    show Steps p.tables e below (T23.setTop (mkF m 35 #[.val (.int p1), .val (.int p2), .val (.int p3), .val (.int p4), .val (.int p5), .val (.int (1 : Int32)), .val (.ref b3), .val (.int mkx_23), .unset] [(.ref b3)])) _
    refine XS.iload X23.here hx rfl (hb hby at_35) rfl ?_
    show Steps p.tables e below (T23.setTop (mkF m 37 #[.val (.int p1), .val (.int p2), .val (.int p3), .val (.int p4), .val (.int p5), .val (.int (1 : Int32)), .val (.ref b3), .val (.int mkx_23), .unset] [(.int mkx_23), (.ref b3)])) _
    refine XS.iload X23.here hx rfl (hb hby at_37) rfl ?_
    show Steps p.tables e below (T23.setTop (mkF m 39 #[.val (.int p1), .val (.int p2), .val (.int p3), .val (.int p4), .val (.int p5), .val (.int (1 : Int32)), .val (.ref b3), .val (.int mkx_23), .unset] [(.int (1 : Int32)), (.int mkx_23), (.ref b3)])) _
    refine XS.iloadN X23.here hx rfl (hb hby at_39) rfl ?_
    exact kt)
  have kp33 : Keep h0 h23 [] := (Keep.trans kp22 Kc23 (allS (Or.inr (Nat.le_trans (Keep.refl h0 []).1 (Nat.le_of_eq g3.symm))) (allS (Or.inr (Nat.le_trans kp9.1 f15)) (allS (Or.inr (Nat.le_trans kp9.1 f16)) all0))))
  obtain ⟨_, _, ⟨T34, L34, k34, n34⟩, -, X34', ⟨Lc34, hQ34, l34, y34, z34⟩, st34⟩ := Jvm.LawKit.callS X23 hx (y := (⟨"com/example/tideshift/tideshift/engine/MovingShardsIsMovingPinLaw", "step", "(Lcom/example/tideshift/tideshift/engine/MovingShards;III)I"⟩ : MethodName)) hown (mvT hZ (hw _ (List.mem_of_getElem? (i := 16) rfl))) (mvT hZ (hw _ (List.mem_of_getElem? (i := 17) rfl))) (mvT hZ (hw _ (List.mem_of_getElem? (i := 18) rfl))) (mvT hZ (hw _ (List.mem_of_getElem? (i := 19) rfl))) (by decide) (backOf (W := 0) (rmStp l Z a0 hw [] b3 mkx_23 (1 : Int32) p3 bS_10 bP_10 kS_10 kP_10 1 stx_23 plx_23 ctx_23 s2 h23 n0 (Nat.le_trans Z0 kp33.1) f24 f25 f26 f28 f29 f27 (Nat.le_trans Z0 (Nat.le_trans (Keep.refl h0 []).1 (Nat.le_of_eq g3.symm))) (Nat.le_trans Z0 (Nat.le_trans kp9.1 f15)) (Nat.le_trans Z0 (Nat.le_trans kp9.1 f16)) (Nat.ne_of_lt (Nat.lt_of_lt_of_le A3.lt f15)) (Nat.ne_of_lt (Nat.lt_of_lt_of_le A3.lt f16)) f17 (by decide) (by decide) hs2 hq2 u1) hZ (hw _ (List.mem_of_getElem? (i := 19) rfl)) (hw _ (List.mem_of_getElem? (i := 18) rfl)) (by decide) (by decide)) (g := (mkF m 40 #[.val (.int p1), .val (.int p2), .val (.int p3), .val (.int p4), .val (.int p5), .val (.int (1 : Int32)), .val (.ref b3), .val (.int mkx_23), .unset] [(.int p3), (.int (1 : Int32)), (.int mkx_23), (.ref b3)])) rfl (by rw [hml]; rfl) (argsL := [(.ref b3), (.int mkx_23), (.int (1 : Int32)), (.int p3)]) (rest := []) (lenOf pd__Lcom_example_tideshift_tideshift_engine_MovingShards_III_I rfl) rfl (by show 2 * 0 + _ ≤ _; exact Nat.le_of_eq rfl) (hb hby at_40) (fun _ _ => ⟨rfl, e23, (by decide : 3 + 0 ≤ _), (by decide : 5 + 0 ≤ _)⟩)
  dsimp only [Pt.U, Pt.locs, Pt.cells, Pt.slots] at X34' l34 y34 z34 st34 hQ34
  subst l34 y34 z34
  obtain ⟨h34, e34⟩ : ∃ z, T34.heap = z := ⟨_, rfl⟩
  rw [e34] at hQ34
  obtain ⟨stx_34, plx_34, ctx_34, mkx_34, rfl, N34q, Kc34, f35, f36, f37, f38, f39, f40, f41⟩ := hQ34
  obtain ⟨lc34, X34, N34⟩ : ∃ lc, Stand p l e room_1 s m #[(.int p1), (.int p2), (.int p3), (.int p4), (.int p5)] below meth c T34 lc 3 5 ∧ Fr n0 lc := ⟨_, X34', Fr.app N23 N34q⟩
  have K42 : Gx p e below s₁ f0 T34 (mkF m 43 #[.val (.int p1), .val (.int p2), .val (.int p3), .val (.int p4), .val (.int p5), .val (.int (1 : Int32)), .val (.ref b3), .val (.int mkx_23), .unset] [(.int mkx_34)]) := fun t kt => K32 t (st34 t kt)
  have u2 := own_u2 (n := 1) hB f30 f41
  have K43 : Gx p e below s₁ f0 T34 (mkF m 52 #[.val (.int p1), .val (.int p2), .val (.int p3), .val (.int p4), .val (.int p5), .val (.int (1 : Int32)), .val (.ref b3), .val (.int mkx_34), .unset] [(.int p4), (.int (1 : Int32)), (.int mkx_34), (.ref b3)]) := fun t kt => K42 t (by
    show Steps p.tables e below (T34.setTop (mkF m 43 #[.val (.int p1), .val (.int p2), .val (.int p3), .val (.int p4), .val (.int p5), .val (.int (1 : Int32)), .val (.ref b3), .val (.int mkx_23), .unset] [(.int mkx_34)])) _
    refine XS.istore X34.here hx rfl (hb hby at_43) rfl (l' := #[.val (.int p1), .val (.int p2), .val (.int p3), .val (.int p4), .val (.int p5), .val (.int (1 : Int32)), .val (.ref b3), .val (.int mkx_34), .unset]) rfl ?_
    show Steps p.tables e below (T34.setTop (mkF m 45 #[.val (.int p1), .val (.int p2), .val (.int p3), .val (.int p4), .val (.int p5), .val (.int (1 : Int32)), .val (.ref b3), .val (.int mkx_34), .unset] [])) _
    refine XS.aload X34.here hx rfl (hb hby at_45) rfl rfl ?_
    show Steps p.tables e below (T34.setTop (mkF m 47 #[.val (.int p1), .val (.int p2), .val (.int p3), .val (.int p4), .val (.int p5), .val (.int (1 : Int32)), .val (.ref b3), .val (.int mkx_34), .unset] [(.ref b3)])) _
    refine XS.iload X34.here hx rfl (hb hby at_47) rfl ?_
    show Steps p.tables e below (T34.setTop (mkF m 49 #[.val (.int p1), .val (.int p2), .val (.int p3), .val (.int p4), .val (.int p5), .val (.int (1 : Int32)), .val (.ref b3), .val (.int mkx_34), .unset] [(.int mkx_34), (.ref b3)])) _
    refine XS.iload X34.here hx rfl (hb hby at_49) rfl ?_
    show Steps p.tables e below (T34.setTop (mkF m 51 #[.val (.int p1), .val (.int p2), .val (.int p3), .val (.int p4), .val (.int p5), .val (.int (1 : Int32)), .val (.ref b3), .val (.int mkx_34), .unset] [(.int (1 : Int32)), (.int mkx_34), (.ref b3)])) _
    refine XS.iloadN X34.here hx rfl (hb hby at_51) rfl ?_
    exact kt)
  have kp44 : Keep h0 h34 [] := (Keep.trans kp33 Kc34 (allS (Or.inr (Nat.le_trans (Keep.refl h0 []).1 (Nat.le_of_eq g3.symm))) (allS (Or.inr (Nat.le_trans kp9.1 f15)) (allS (Or.inr (Nat.le_trans kp9.1 f16)) all0))))
  obtain ⟨_, _, ⟨T45, L45, k45, n45⟩, -, X45', ⟨Lc45, hQ45, l45, y45, z45⟩, st45⟩ := Jvm.LawKit.callS X34 hx (y := (⟨"com/example/tideshift/tideshift/engine/MovingShardsIsMovingPinLaw", "step", "(Lcom/example/tideshift/tideshift/engine/MovingShards;III)I"⟩ : MethodName)) hown (mvT hZ (hw _ (List.mem_of_getElem? (i := 16) rfl))) (mvT hZ (hw _ (List.mem_of_getElem? (i := 17) rfl))) (mvT hZ (hw _ (List.mem_of_getElem? (i := 18) rfl))) (mvT hZ (hw _ (List.mem_of_getElem? (i := 19) rfl))) (by decide) (backOf (W := 0) (rmStp l Z a0 hw [] b3 mkx_34 (1 : Int32) p4 bS_10 bP_10 kS_10 kP_10 1 stx_34 plx_34 ctx_34 s3 h34 n0 (Nat.le_trans Z0 kp44.1) f35 f36 f37 f39 f40 f38 (Nat.le_trans Z0 (Nat.le_trans (Keep.refl h0 []).1 (Nat.le_of_eq g3.symm))) (Nat.le_trans Z0 (Nat.le_trans kp9.1 f15)) (Nat.le_trans Z0 (Nat.le_trans kp9.1 f16)) (Nat.ne_of_lt (Nat.lt_of_lt_of_le A3.lt f15)) (Nat.ne_of_lt (Nat.lt_of_lt_of_le A3.lt f16)) f17 (by decide) (by decide) hs3 hq3 u2) hZ (hw _ (List.mem_of_getElem? (i := 19) rfl)) (hw _ (List.mem_of_getElem? (i := 18) rfl)) (by decide) (by decide)) (g := (mkF m 52 #[.val (.int p1), .val (.int p2), .val (.int p3), .val (.int p4), .val (.int p5), .val (.int (1 : Int32)), .val (.ref b3), .val (.int mkx_34), .unset] [(.int p4), (.int (1 : Int32)), (.int mkx_34), (.ref b3)])) rfl (by rw [hml]; rfl) (argsL := [(.ref b3), (.int mkx_34), (.int (1 : Int32)), (.int p4)]) (rest := []) (lenOf pd__Lcom_example_tideshift_tideshift_engine_MovingShards_III_I rfl) rfl (by show 2 * 0 + _ ≤ _; exact Nat.le_of_eq rfl) (hb hby at_52) (fun _ _ => ⟨rfl, e34, (by decide : 3 + 0 ≤ _), (by decide : 5 + 0 ≤ _)⟩)
  dsimp only [Pt.U, Pt.locs, Pt.cells, Pt.slots] at X45' l45 y45 z45 st45 hQ45
  subst l45 y45 z45
  obtain ⟨h45, e45⟩ : ∃ z, T45.heap = z := ⟨_, rfl⟩
  rw [e45] at hQ45
  obtain ⟨stx_45, plx_45, ctx_45, mkx_45, rfl, N45q, Kc45, f46, f47, f48, f49, f50, f51, f52⟩ := hQ45
  obtain ⟨lc45, X45, N45⟩ : ∃ lc, Stand p l e room_1 s m #[(.int p1), (.int p2), (.int p3), (.int p4), (.int p5)] below meth c T45 lc 3 5 ∧ Fr n0 lc := ⟨_, X45', Fr.app N34 N45q⟩
  have K53 : Gx p e below s₁ f0 T45 (mkF m 55 #[.val (.int p1), .val (.int p2), .val (.int p3), .val (.int p4), .val (.int p5), .val (.int (1 : Int32)), .val (.ref b3), .val (.int mkx_34), .unset] [(.int mkx_45)]) := fun t kt => K43 t (st45 t kt)
  have u3 := own_u3 (n := 1) hB f30 f41 f52
  have K54 : Gx p e below s₁ f0 T45 (mkF m 65 #[.val (.int p1), .val (.int p2), .val (.int p3), .val (.int p4), .val (.int p5), .val (.int (1 : Int32)), .val (.ref b3), .val (.int mkx_45), .unset] [(.int p5), (.int (1 : Int32)), (.int mkx_45), (.ref b3)]) := fun t kt => K53 t (by
    show Steps p.tables e below (T45.setTop (mkF m 55 #[.val (.int p1), .val (.int p2), .val (.int p3), .val (.int p4), .val (.int p5), .val (.int (1 : Int32)), .val (.ref b3), .val (.int mkx_34), .unset] [(.int mkx_45)])) _
    refine XS.istore X45.here hx rfl (hb hby at_55) rfl (l' := #[.val (.int p1), .val (.int p2), .val (.int p3), .val (.int p4), .val (.int p5), .val (.int (1 : Int32)), .val (.ref b3), .val (.int mkx_45), .unset]) rfl ?_
    show Steps p.tables e below (T45.setTop (mkF m 57 #[.val (.int p1), .val (.int p2), .val (.int p3), .val (.int p4), .val (.int p5), .val (.int (1 : Int32)), .val (.ref b3), .val (.int mkx_45), .unset] [])) _
    refine XS.aload X45.here hx rfl (hb hby at_57) rfl rfl ?_
    show Steps p.tables e below (T45.setTop (mkF m 59 #[.val (.int p1), .val (.int p2), .val (.int p3), .val (.int p4), .val (.int p5), .val (.int (1 : Int32)), .val (.ref b3), .val (.int mkx_45), .unset] [(.ref b3)])) _
    refine XS.iload X45.here hx rfl (hb hby at_59) rfl ?_
    show Steps p.tables e below (T45.setTop (mkF m 61 #[.val (.int p1), .val (.int p2), .val (.int p3), .val (.int p4), .val (.int p5), .val (.int (1 : Int32)), .val (.ref b3), .val (.int mkx_45), .unset] [(.int mkx_45), (.ref b3)])) _
    refine XS.iload X45.here hx rfl (hb hby at_61) rfl ?_
    show Steps p.tables e below (T45.setTop (mkF m 63 #[.val (.int p1), .val (.int p2), .val (.int p3), .val (.int p4), .val (.int p5), .val (.int (1 : Int32)), .val (.ref b3), .val (.int mkx_45), .unset] [(.int (1 : Int32)), (.int mkx_45), (.ref b3)])) _
    refine XS.iload X45.here hx rfl (hb hby at_63) rfl ?_
    exact kt)
  have kp55 : Keep h0 h45 [] := (Keep.trans kp44 Kc45 (allS (Or.inr (Nat.le_trans (Keep.refl h0 []).1 (Nat.le_of_eq g3.symm))) (allS (Or.inr (Nat.le_trans kp9.1 f15)) (allS (Or.inr (Nat.le_trans kp9.1 f16)) all0))))
  obtain ⟨_, _, ⟨T56, L56, k56, n56⟩, -, X56', ⟨Lc56, hQ56, l56, y56, z56⟩, st56⟩ := Jvm.LawKit.callS X45 hx (y := (⟨"com/example/tideshift/tideshift/engine/MovingShardsIsMovingPinLaw", "step", "(Lcom/example/tideshift/tideshift/engine/MovingShards;III)I"⟩ : MethodName)) hown (mvT hZ (hw _ (List.mem_of_getElem? (i := 16) rfl))) (mvT hZ (hw _ (List.mem_of_getElem? (i := 17) rfl))) (mvT hZ (hw _ (List.mem_of_getElem? (i := 18) rfl))) (mvT hZ (hw _ (List.mem_of_getElem? (i := 19) rfl))) (by decide) (backOf (W := 0) (rmStp l Z a0 hw [] b3 mkx_45 (1 : Int32) p5 bS_10 bP_10 kS_10 kP_10 1 stx_45 plx_45 ctx_45 s4 h45 n0 (Nat.le_trans Z0 kp55.1) f46 f47 f48 f50 f51 f49 (Nat.le_trans Z0 (Nat.le_trans (Keep.refl h0 []).1 (Nat.le_of_eq g3.symm))) (Nat.le_trans Z0 (Nat.le_trans kp9.1 f15)) (Nat.le_trans Z0 (Nat.le_trans kp9.1 f16)) (Nat.ne_of_lt (Nat.lt_of_lt_of_le A3.lt f15)) (Nat.ne_of_lt (Nat.lt_of_lt_of_le A3.lt f16)) f17 (by decide) (by decide) hs4 hq4 u3) hZ (hw _ (List.mem_of_getElem? (i := 19) rfl)) (hw _ (List.mem_of_getElem? (i := 18) rfl)) (by decide) (by decide)) (g := (mkF m 65 #[.val (.int p1), .val (.int p2), .val (.int p3), .val (.int p4), .val (.int p5), .val (.int (1 : Int32)), .val (.ref b3), .val (.int mkx_45), .unset] [(.int p5), (.int (1 : Int32)), (.int mkx_45), (.ref b3)])) rfl (by rw [hml]; rfl) (argsL := [(.ref b3), (.int mkx_45), (.int (1 : Int32)), (.int p5)]) (rest := []) (lenOf pd__Lcom_example_tideshift_tideshift_engine_MovingShards_III_I rfl) rfl (by show 2 * 0 + _ ≤ _; exact Nat.le_of_eq rfl) (hb hby at_65) (fun _ _ => ⟨rfl, e45, (by decide : 3 + 0 ≤ _), (by decide : 5 + 0 ≤ _)⟩)
  dsimp only [Pt.U, Pt.locs, Pt.cells, Pt.slots] at X56' l56 y56 z56 st56 hQ56
  subst l56 y56 z56
  obtain ⟨h56, e56⟩ : ∃ z, T56.heap = z := ⟨_, rfl⟩
  rw [e56] at hQ56
  obtain ⟨stx_56, plx_56, ctx_56, mkx_56, rfl, N56q, Kc56, f57, f58, f59, f60, f61, f62, f63⟩ := hQ56
  obtain ⟨lc56, X56, N56⟩ : ∃ lc, Stand p l e room_1 s m #[(.int p1), (.int p2), (.int p3), (.int p4), (.int p5)] below meth c T56 lc 3 5 ∧ Fr n0 lc := ⟨_, X56', Fr.app N45 N56q⟩
  have K64 : Gx p e below s₁ f0 T56 (mkF m 68 #[.val (.int p1), .val (.int p2), .val (.int p3), .val (.int p4), .val (.int p5), .val (.int (1 : Int32)), .val (.ref b3), .val (.int mkx_45), .unset] [(.int mkx_56)]) := fun t kt => K54 t (st56 t kt)
  have u4 := own_u4 (n := 1) hB f30 f41 f52 f63
  have K65 : Gx p e below s₁ f0 T56 (mkF m 73 #[.val (.int p1), .val (.int p2), .val (.int p3), .val (.int p4), .val (.int p5), .val (.int (1 : Int32)), .val (.ref b3), .val (.int mkx_56), .unset] [(.int (0 : Int32)), (.ref b3)]) := fun t kt => K64 t (by
    show Steps p.tables e below (T56.setTop (mkF m 68 #[.val (.int p1), .val (.int p2), .val (.int p3), .val (.int p4), .val (.int p5), .val (.int (1 : Int32)), .val (.ref b3), .val (.int mkx_45), .unset] [(.int mkx_56)])) _
    refine XS.istore X56.here hx rfl (hb hby at_68) rfl (l' := #[.val (.int p1), .val (.int p2), .val (.int p3), .val (.int p4), .val (.int p5), .val (.int (1 : Int32)), .val (.ref b3), .val (.int mkx_56), .unset]) rfl ?_
    show Steps p.tables e below (T56.setTop (mkF m 70 #[.val (.int p1), .val (.int p2), .val (.int p3), .val (.int p4), .val (.int p5), .val (.int (1 : Int32)), .val (.ref b3), .val (.int mkx_56), .unset] [])) _
    refine XS.aload X56.here hx rfl (hb hby at_70) rfl rfl ?_
    show Steps p.tables e below (T56.setTop (mkF m 72 #[.val (.int p1), .val (.int p2), .val (.int p3), .val (.int p4), .val (.int p5), .val (.int (1 : Int32)), .val (.ref b3), .val (.int mkx_56), .unset] [(.ref b3)])) _
    refine XS.iconst X56.here hx rfl (hb hby at_72) ?_
    exact kt)
  have kp66 : Keep h0 h56 [] := (Keep.trans kp55 Kc56 (allS (Or.inr (Nat.le_trans (Keep.refl h0 []).1 (Nat.le_of_eq g3.symm))) (allS (Or.inr (Nat.le_trans kp9.1 f15)) (allS (Or.inr (Nat.le_trans kp9.1 f16)) all0))))
  obtain ⟨cq67, kq67, q67a, q67b, q67c⟩ := isOf hZ e56 f57
  obtain ⟨_, _, ⟨T67, L67, k67, n67⟩, -, X67', ⟨Lc67, hQ67, l67, y67, z67⟩, st67⟩ := X56.virtualBack hx (y := (⟨"com/example/tideshift/tideshift/engine/MovingShards", "isMoving", "(I)Z"⟩ : MethodName)) (z := (⟨"com/example/tideshift/tideshift/engine/MovingShards", "isMoving", "(I)Z"⟩ : MethodName)) hown (mvT hZ (hw _ (List.mem_of_getElem? (i := 35) rfl))) (mvT hZ (hw _ (List.mem_of_getElem? (i := 36) rfl))) (notFace_of_selects (args := #[]) (mvT hZ (hw _ (List.mem_of_getElem? (i := 38) rfl)))) (mvT hZ (hw _ (List.mem_of_getElem? (i := 38) rfl))) (mvT hZ (hw _ (List.mem_of_getElem? (i := 37) rfl))) (by decide) (backOf (W := 0) (rmIsm l Z a0 hw [] b3 (0 : Int32) bP_10 kP_10 1 plx_56 ctx_56 0 h56 n0 (Nat.le_trans Z0 kp66.1) f59 f62 f60 (by decide) (by decide) ⟨by decide, u4.1⟩) hZ (hw _ (List.mem_of_getElem? (i := 39) rfl)) (hw _ (List.mem_of_getElem? (i := 2) rfl)) (by decide) (by decide)) q67a q67c (g := (mkF m 73 #[.val (.int p1), .val (.int p2), .val (.int p3), .val (.int p4), .val (.int p5), .val (.int (1 : Int32)), .val (.ref b3), .val (.int mkx_56), .unset] [(.int (0 : Int32)), (.ref b3)])) rfl (by rw [hml]; rfl) (Steps.refl _) (argsL := [(.int (0 : Int32))]) (rest := []) (lenOf pd__I_Z rfl) rfl (by show 2 * 0 + _ ≤ _; exact Nat.le_of_eq rfl) (hb hby at_73) (fun _ _ => ⟨rfl, e56, (by decide : 3 + 0 ≤ _), (by decide : 5 + 0 ≤ _)⟩)
  dsimp only [Pt.U, Pt.locs, Pt.cells, Pt.slots] at X67' l67 y67 z67 st67 hQ67
  subst l67 y67 z67
  obtain ⟨rfl, N67q, e67⟩ := hQ67
  obtain ⟨lc67, X67, N67⟩ : ∃ lc, Stand p l e room_1 s m #[(.int p1), (.int p2), (.int p3), (.int p4), (.int p5)] below meth c T67 lc 3 5 ∧ Fr n0 lc := ⟨_, X67', Fr.app N56 N67q⟩
  have K68 : Gx p e below s₁ f0 T67 (mkF m 76 #[.val (.int p1), .val (.int p2), .val (.int p3), .val (.int p4), .val (.int p5), .val (.int (1 : Int32)), .val (.ref b3), .val (.int mkx_56), .unset] [(.int (nar .boolean (mvF plx_56 ctx_56 0)))]) := fun t kt => K65 t (st67.trans kt)
  have K71 : Gx p e below s₁ f0 T67 (mkF m 82 #[.val (.int p1), .val (.int p2), .val (.int p3), .val (.int p4), .val (.int p5), .val (.int (1 : Int32)), .val (.ref b3), .val (.int mkx_56), .unset] [(.int ((mkx_56 >>> ((0 : Int32) &&& 31)) &&& (1 : Int32))), (.int (nar .boolean (mvF plx_56 ctx_56 0)))]) := fun t kt => K68 t (by
    show Steps p.tables e below (T67.setTop (mkF m 76 #[.val (.int p1), .val (.int p2), .val (.int p3), .val (.int p4), .val (.int p5), .val (.int (1 : Int32)), .val (.ref b3), .val (.int mkx_56), .unset] [(.int (nar .boolean (mvF plx_56 ctx_56 0)))])) _
    refine XS.iload X67.here hx rfl (hb hby at_76) rfl ?_
    show Steps p.tables e below (T67.setTop (mkF m 78 #[.val (.int p1), .val (.int p2), .val (.int p3), .val (.int p4), .val (.int p5), .val (.int (1 : Int32)), .val (.ref b3), .val (.int mkx_56), .unset] [(.int mkx_56), (.int (nar .boolean (mvF plx_56 ctx_56 0)))])) _
    refine XS.iconst X67.here hx rfl (hb hby at_78) ?_
    show Steps p.tables e below (T67.setTop (mkF m 79 #[.val (.int p1), .val (.int p2), .val (.int p3), .val (.int p4), .val (.int p5), .val (.int (1 : Int32)), .val (.ref b3), .val (.int mkx_56), .unset] [(.int (0 : Int32)), (.int mkx_56), (.int (nar .boolean (mvF plx_56 ctx_56 0)))])) _
    refine XS.ishr X67.here hx rfl (hb hby at_79) rfl ?_
    show Steps p.tables e below (T67.setTop (mkF m 80 #[.val (.int p1), .val (.int p2), .val (.int p3), .val (.int p4), .val (.int p5), .val (.int (1 : Int32)), .val (.ref b3), .val (.int mkx_56), .unset] [(.int (mkx_56 >>> ((0 : Int32) &&& 31))), (.int (nar .boolean (mvF plx_56 ctx_56 0)))])) _
    refine XS.iconst X67.here hx rfl (hb hby at_80) ?_
    show Steps p.tables e below (T67.setTop (mkF m 81 #[.val (.int p1), .val (.int p2), .val (.int p3), .val (.int p4), .val (.int p5), .val (.int (1 : Int32)), .val (.ref b3), .val (.int mkx_56), .unset] [(.int (1 : Int32)), (.int (mkx_56 >>> ((0 : Int32) &&& 31))), (.int (nar .boolean (mvF plx_56 ctx_56 0)))])) _
    refine XS.iand X67.here hx rfl (hb hby at_81) rfl ?_
    exact kt)
  obtain ⟨v70, hv70⟩ : ∃ z : Int32, z = (if ((mkx_56 >>> ((0 : Int32) &&& 31)) &&& (1 : Int32)) = (0 : Int32) then (0 : Int32) else (1 : Int32)) := ⟨_, rfl⟩
  have K72 : Gx p e below s₁ f0 T67 (mkF m 90 #[.val (.int p1), .val (.int p2), .val (.int p3), .val (.int p4), .val (.int p5), .val (.int (1 : Int32)), .val (.ref b3), .val (.int mkx_56), .unset] [(.int v70), (.int (nar .boolean (mvF plx_56 ctx_56 0)))]) := fun t kt => K71 t (by
    by_cases hc82_68 : ((mkx_56 >>> ((0 : Int32) &&& 31)) &&& (1 : Int32)) = (0 : Int32)
    · skip
      show Steps p.tables e below (T67.setTop (mkF m 82 #[.val (.int p1), .val (.int p2), .val (.int p3), .val (.int p4), .val (.int p5), .val (.int (1 : Int32)), .val (.ref b3), .val (.int mkx_56), .unset] [(.int ((mkx_56 >>> ((0 : Int32) &&& 31)) &&& (1 : Int32))), (.int (nar .boolean (mvF plx_56 ctx_56 0)))])) _
      refine XS.ifYes X67.here hx rfl (pc0 := 82) (pc' := 89) rfl (hb hby at_82) rfl ((if0 _ _).trans (teq hc82_68).1) (by decide) (by decide) ?_
      show Steps p.tables e below (T67.setTop (mkF m 89 #[.val (.int p1), .val (.int p2), .val (.int p3), .val (.int p4), .val (.int p5), .val (.int (1 : Int32)), .val (.ref b3), .val (.int mkx_56), .unset] [(.int (nar .boolean (mvF plx_56 ctx_56 0)))])) _
      refine XS.iconst X67.here hx rfl (hb hby at_89) ?_
      show Steps p.tables e below (T67.setTop (mkF m 90 #[.val (.int p1), .val (.int p2), .val (.int p3), .val (.int p4), .val (.int p5), .val (.int (1 : Int32)), .val (.ref b3), .val (.int mkx_56), .unset] [(.int (0 : Int32)), (.int (nar .boolean (mvF plx_56 ctx_56 0)))])) _
      exact castTop (by simp only [hv70, if_pos hc82_68]) kt
    · skip
      show Steps p.tables e below (T67.setTop (mkF m 82 #[.val (.int p1), .val (.int p2), .val (.int p3), .val (.int p4), .val (.int p5), .val (.int (1 : Int32)), .val (.ref b3), .val (.int mkx_56), .unset] [(.int ((mkx_56 >>> ((0 : Int32) &&& 31)) &&& (1 : Int32))), (.int (nar .boolean (mvF plx_56 ctx_56 0)))])) _
      refine XS.ifNo X67.here hx rfl (hb hby at_82) rfl ((if0 _ _).trans (feq hc82_68).1) ?_
      show Steps p.tables e below (T67.setTop (mkF m 85 #[.val (.int p1), .val (.int p2), .val (.int p3), .val (.int p4), .val (.int p5), .val (.int (1 : Int32)), .val (.ref b3), .val (.int mkx_56), .unset] [(.int (nar .boolean (mvF plx_56 ctx_56 0)))])) _
      refine XS.iconst X67.here hx rfl (hb hby at_85) ?_
      show Steps p.tables e below (T67.setTop (mkF m 86 #[.val (.int p1), .val (.int p2), .val (.int p3), .val (.int p4), .val (.int p5), .val (.int (1 : Int32)), .val (.ref b3), .val (.int mkx_56), .unset] [(.int (1 : Int32)), (.int (nar .boolean (mvF plx_56 ctx_56 0)))])) _
      refine XS.goto X67.here hx rfl (pc0 := 86) (pc' := 90) rfl (hb hby at_86) (by decide) (by decide) ?_
      show Steps p.tables e below (T67.setTop (mkF m 90 #[.val (.int p1), .val (.int p2), .val (.int p3), .val (.int p4), .val (.int p5), .val (.int (1 : Int32)), .val (.ref b3), .val (.int mkx_56), .unset] [(.int (1 : Int32)), (.int (nar .boolean (mvF plx_56 ctx_56 0)))])) _
      exact castTop (by simp only [hv70, if_neg hc82_68]) kt)
  have K73 : Gx p e below s₁ f0 T67 (mkF m 225 #[.val (.int p1), .val (.int p2), .val (.int p3), .val (.int p4), .val (.int p5), .val (.int (1 : Int32)), .val (.ref b3), .val (.int mkx_56), .val (.int (1 : Int32))] [(.int (1 : Int32))]) := fun t kt => K72 t (by
    show Steps p.tables e below (T67.setTop (mkF m 90 #[.val (.int p1), .val (.int p2), .val (.int p3), .val (.int p4), .val (.int p5), .val (.int (1 : Int32)), .val (.ref b3), .val (.int mkx_56), .unset] [(.int v70), (.int (nar .boolean (mvF plx_56 ctx_56 0)))])) _
    refine XS.icmpNo X67.here hx rfl (hb hby at_90) rfl (teq (by rw [hv70]; exact u4.2 0 (by decide))).2 ?_
    show Steps p.tables e below (T67.setTop (mkF m 93 #[.val (.int p1), .val (.int p2), .val (.int p3), .val (.int p4), .val (.int p5), .val (.int (1 : Int32)), .val (.ref b3), .val (.int mkx_56), .unset] [])) _
    refine XS.iconst X67.here hx rfl (hb hby at_93) ?_
    show Steps p.tables e below (T67.setTop (mkF m 94 #[.val (.int p1), .val (.int p2), .val (.int p3), .val (.int p4), .val (.int p5), .val (.int (1 : Int32)), .val (.ref b3), .val (.int mkx_56), .unset] [(.int (1 : Int32))])) _
    refine XS.goto X67.here hx rfl (pc0 := 94) (pc' := 98) rfl (hb hby at_94) (by decide) (by decide) ?_
    show Steps p.tables e below (T67.setTop (mkF m 98 #[.val (.int p1), .val (.int p2), .val (.int p3), .val (.int p4), .val (.int p5), .val (.int (1 : Int32)), .val (.ref b3), .val (.int mkx_56), .unset] [(.int (1 : Int32))])) _
    refine XS.istore X67.here hx rfl (hb hby at_98) rfl (l' := #[.val (.int p1), .val (.int p2), .val (.int p3), .val (.int p4), .val (.int p5), .val (.int (1 : Int32)), .val (.ref b3), .val (.int mkx_56), .val (.int (1 : Int32))]) rfl ?_
    show Steps p.tables e below (T67.setTop (mkF m 100 #[.val (.int p1), .val (.int p2), .val (.int p3), .val (.int p4), .val (.int p5), .val (.int (1 : Int32)), .val (.ref b3), .val (.int mkx_56), .val (.int (1 : Int32))] [])) _
    refine XS.iload X67.here hx rfl (hb hby at_100) rfl ?_
    show Steps p.tables e below (T67.setTop (mkF m 102 #[.val (.int p1), .val (.int p2), .val (.int p3), .val (.int p4), .val (.int p5), .val (.int (1 : Int32)), .val (.ref b3), .val (.int mkx_56), .val (.int (1 : Int32))] [(.int (1 : Int32))])) _
    refine XS.iconst X67.here hx rfl (hb hby at_102) ?_
    show Steps p.tables e below (T67.setTop (mkF m 103 #[.val (.int p1), .val (.int p2), .val (.int p3), .val (.int p4), .val (.int p5), .val (.int (1 : Int32)), .val (.ref b3), .val (.int mkx_56), .val (.int (1 : Int32))] [(.int (1 : Int32)), (.int (1 : Int32))])) _
    refine XS.icmpYes X67.here hx rfl (pc0 := 103) (pc' := 141) rfl (hb hby at_103) rfl (flt (by decide)).2.2.2 (by decide) (by decide) ?_
    show Steps p.tables e below (T67.setTop (mkF m 141 #[.val (.int p1), .val (.int p2), .val (.int p3), .val (.int p4), .val (.int p5), .val (.int (1 : Int32)), .val (.ref b3), .val (.int mkx_56), .val (.int (1 : Int32))] [])) _
    refine XS.iload X67.here hx rfl (hb hby at_141) rfl ?_
    show Steps p.tables e below (T67.setTop (mkF m 143 #[.val (.int p1), .val (.int p2), .val (.int p3), .val (.int p4), .val (.int p5), .val (.int (1 : Int32)), .val (.ref b3), .val (.int mkx_56), .val (.int (1 : Int32))] [(.int (1 : Int32))])) _
    refine XS.iconst X67.here hx rfl (hb hby at_143) ?_
    show Steps p.tables e below (T67.setTop (mkF m 144 #[.val (.int p1), .val (.int p2), .val (.int p3), .val (.int p4), .val (.int p5), .val (.int (1 : Int32)), .val (.ref b3), .val (.int mkx_56), .val (.int (1 : Int32))] [(.int (2 : Int32)), (.int (1 : Int32))])) _
    refine XS.icmpYes X67.here hx rfl (pc0 := 144) (pc' := 182) rfl (hb hby at_144) rfl (flt (by decide)).2.2.2 (by decide) (by decide) ?_
    show Steps p.tables e below (T67.setTop (mkF m 182 #[.val (.int p1), .val (.int p2), .val (.int p3), .val (.int p4), .val (.int p5), .val (.int (1 : Int32)), .val (.ref b3), .val (.int mkx_56), .val (.int (1 : Int32))] [])) _
    refine XS.iload X67.here hx rfl (hb hby at_182) rfl ?_
    show Steps p.tables e below (T67.setTop (mkF m 184 #[.val (.int p1), .val (.int p2), .val (.int p3), .val (.int p4), .val (.int p5), .val (.int (1 : Int32)), .val (.ref b3), .val (.int mkx_56), .val (.int (1 : Int32))] [(.int (1 : Int32))])) _
    refine XS.iconst X67.here hx rfl (hb hby at_184) ?_
    show Steps p.tables e below (T67.setTop (mkF m 185 #[.val (.int p1), .val (.int p2), .val (.int p3), .val (.int p4), .val (.int p5), .val (.int (1 : Int32)), .val (.ref b3), .val (.int mkx_56), .val (.int (1 : Int32))] [(.int (3 : Int32)), (.int (1 : Int32))])) _
    refine XS.icmpYes X67.here hx rfl (pc0 := 185) (pc' := 223) rfl (hb hby at_185) rfl (flt (by decide)).2.2.2 (by decide) (by decide) ?_
    show Steps p.tables e below (T67.setTop (mkF m 223 #[.val (.int p1), .val (.int p2), .val (.int p3), .val (.int p4), .val (.int p5), .val (.int (1 : Int32)), .val (.ref b3), .val (.int mkx_56), .val (.int (1 : Int32))] [])) _
    refine XS.iload X67.here hx rfl (hb hby at_223) rfl ?_
    exact kt)
  obtain ⟨fs74, hr74, hrun74, hended74, hW74, hsame74⟩ := X67.leave (v := some (.int (1 : Int32))) (fun h => by rw [Bd.returns] at h; cases h)
  refine ⟨_, _, pre0 _ (K73 _ ?_), hrun74, hended74, _, _, rfl, ?_, ⟨_, rfl⟩, hW74, hsame74.mono (by decide) (by decide)⟩
  · exact retN X67 hx (t := .boolean) Bd.returns (by simp) (hb hby at_225) hr74
  · show Q0 Z p1 p2 p3 p4 p5 h0 n0 _ T67.heap _
    rw [e67]
    exact ⟨rfl, N67⟩
theorem ef_0_2 (m : MethodId) (p1 : Int32) (p2 : Int32) (p3 : Int32) (p4 : Int32) (p5 : Int32) : entryFrame m #[(.int p1), (.int p2), (.int p3), (.int p4), (.int p5)] maxLocals = mkF m 0 #[.val (.int p1), .val (.int p2), .val (.int p3), .val (.int p4), .val (.int p5), .unset, .unset, .unset, .unset] [] := by first | (simp [entryFrame, mkF, argsToLocals, Value.category, maxLocals]; done) | rfl
set_option maxRecDepth 65536 in
set_option maxHeartbeats 40000000 in
theorem rm0_2 (l : Launch) (Z : State) (a0 : Array Value) (hw : ∀ d ∈ tables_1, d.before a0 Z = true) (ws : List Jvm.Cond) (p1 : Int32) (p2 : Int32) (p3 : Int32) (p4 : Int32) (p5 : Int32) (h0 : Heap) (n0 : Nat) (Z0 : n0 ≤ h0.size) (ha_ : (p1 &&& (3 : Int32)) = (1 : Int32)) :
    MetFree l x (head1 (Jvm.Cond.code x code maxLocals ret :: ws) room_1) (fun a U => a = #[(.int p1), (.int p2), (.int p3), (.int p4), (.int p5)] ∧ Z.Warmed39 U.vm ∧ U.heap = h0) (fun _ _ _ _ _ => True) (fun _ U o U' => ∃ v L, o = .returned v ∧ Q0 Z p1 p2 p3 p4 p5 h0 n0 v U'.heap L ∧ FrameEnd U o U' L room_1.cells room_1.slots) := by
  refine MetFree.of_bodySF (plainFor_of_name pn_0) hisR ?_
  intro p e s m args below meth c s₁ Bd hml0 hP hK
  obtain ⟨rfl, hZ, hh⟩ := hP
  have hx := Bd.exec
  have hby := Bd.bytes
  have hml : c.maxLocals = 9 := hml0
  have hown : s.vm.findClass "com/example/tideshift/tideshift/engine/MovingShardsIsMovingPinLaw" = some m.cls := findClass_of_methodNamed Bd.named
  have hnm := (name_of_methodNamed Bd.named Bd.method).1
  have X0 : Stand p l e room_1 s m #[(.int p1), (.int p2), (.int p3), (.int p4), (.int p5)] below meth c s₁ [] 0 0 := Stand.of_body Bd
  have hs0 : h0 = s.heap := hh.symm
  have e0 : s₁.heap = h0 := by rw [← hh, Bd.state]; rfl
  have N0 := Fr.nil n0
  obtain ⟨f0, hf0⟩ : ∃ f, f = entryFrame m #[(.int p1), (.int p2), (.int p3), (.int p4), (.int p5)] maxLocals := ⟨_, rfl⟩
  have pre0 : ∀ t, Steps p.tables e below (s₁.setTop f0) t → Steps p.tables e below (s₁.setTop (entryFrame m #[(.int p1), (.int p2), (.int p3), (.int p4), (.int p5)] maxLocals)) t := fun t k => hf0 ▸ k
  have K0 : Gx p e below s₁ f0 s₁ (mkF m 0 #[.val (.int p1), .val (.int p2), .val (.int p3), .val (.int p4), .val (.int p5), .unset, .unset, .unset, .unset] []) := fun t kt => by rw [hf0]; exact castTop (ef_0_2 m p1 p2 p3 p4 p5) kt
  obtain ⟨s1, hs1, hq1⟩ := own_s p2 (n := 2) (by decide)
  obtain ⟨s2, hs2, hq2⟩ := own_s p3 (n := 2) (by decide)
  obtain ⟨s3, hs3, hq3⟩ := own_s p4 (n := 2) (by decide)
  obtain ⟨s4, hs4, hq4⟩ := own_s p5 (n := 2) (by decide)
  have hB := own_all2 s1 hq1 s2 hq2 s3 hq3 s4 hq4
  have K1 : Gx p e below s₁ f0 s₁ (mkF m 4 #[.val (.int p1), .val (.int p2), .val (.int p3), .val (.int p4), .val (.int p5), .unset, .unset, .unset, .unset] [(.int (p1 &&& (3 : Int32))), (.int (1 : Int32))]) := fun t kt => K0 t (by
    show Steps p.tables e below (s₁.setTop (mkF m 0 #[.val (.int p1), .val (.int p2), .val (.int p3), .val (.int p4), .val (.int p5), .unset, .unset, .unset, .unset] [])) _
    refine XS.iconst X0.here hx rfl (hb hby at_0) ?_
    show Steps p.tables e below (s₁.setTop (mkF m 1 #[.val (.int p1), .val (.int p2), .val (.int p3), .val (.int p4), .val (.int p5), .unset, .unset, .unset, .unset] [(.int (1 : Int32))])) _
    refine XS.iloadN X0.here hx rfl (hb hby at_1) rfl ?_
    show Steps p.tables e below (s₁.setTop (mkF m 2 #[.val (.int p1), .val (.int p2), .val (.int p3), .val (.int p4), .val (.int p5), .unset, .unset, .unset, .unset] [(.int p1), (.int (1 : Int32))])) _
    refine XS.iconst X0.here hx rfl (hb hby at_2) ?_
    show Steps p.tables e below (s₁.setTop (mkF m 3 #[.val (.int p1), .val (.int p2), .val (.int p3), .val (.int p4), .val (.int p5), .unset, .unset, .unset, .unset] [(.int (3 : Int32)), (.int p1), (.int (1 : Int32))])) _
    refine XS.iand X0.here hx rfl (hb hby at_3) rfl ?_
    exact kt)
  rw [ha_] at K1
  have K2 : Gx p e below s₁ f0 s₁ (mkF m 7 #[.val (.int p1), .val (.int p2), .val (.int p3), .val (.int p4), .val (.int p5), .val (.int (2 : Int32)), .unset, .unset, .unset] []) := fun t kt => K1 t (by
    show Steps p.tables e below (s₁.setTop (mkF m 4 #[.val (.int p1), .val (.int p2), .val (.int p3), .val (.int p4), .val (.int p5), .unset, .unset, .unset, .unset] [(.int (1 : Int32)), (.int (1 : Int32))])) _
    refine XS.iadd X0.here hx rfl (hb hby at_4) rfl ?_
    show Steps p.tables e below (s₁.setTop (mkF m 5 #[.val (.int p1), .val (.int p2), .val (.int p3), .val (.int p4), .val (.int p5), .unset, .unset, .unset, .unset] [(.int (2 : Int32))])) _
    refine XS.istore X0.here hx rfl (hb hby at_5) rfl (l' := #[.val (.int p1), .val (.int p2), .val (.int p3), .val (.int p4), .val (.int p5), .val (.int (2 : Int32)), .unset, .unset, .unset]) rfl ?_
    exact kt)
  obtain ⟨T3, h3, X3, e3, E3, A3, D3, -, st3⟩ := newO X0 hx hZ hown (hw _ (List.mem_of_getElem? (i := 0) rfl)) (hw _ (List.mem_of_getElem? (i := 1) rfl)) (hw _ (List.mem_of_getElem? (i := 2) rfl)) e0 (g := (mkF m 7 #[.val (.int p1), .val (.int p2), .val (.int p3), .val (.int p4), .val (.int p5), .val (.int (2 : Int32)), .unset, .unset, .unset] [])) rfl (hb hby at_7) (by decide) (by decide)
  obtain ⟨b3, g3⟩ : ∃ z, z = h0.size := ⟨_, rfl⟩
  rw [← g3] at A3 D3 st3
  have f4 : Fld Z h3 b3 "com/example/tideshift/tideshift/engine/MovingShards" "still" "[I" .null := D3 (Or.inr (hw _ (List.mem_of_getElem? (i := 11) rfl))) (ty := (.array .int)) (by decide)
  have f5 : Fld Z h3 b3 "com/example/tideshift/tideshift/engine/MovingShards" "placeOf" "[I" .null := D3 (Or.inr (hw _ (List.mem_of_getElem? (i := 13) rfl))) (ty := (.array .int)) (by decide)
  have f6 : Fld Z h3 b3 "com/example/tideshift/tideshift/engine/MovingShards" "stillCount" "I" (.int (0 : Int32)) := D3 (Or.inl (hw _ (List.mem_of_getElem? (i := 15) rfl))) (ty := .int) (by decide)
  have K7 : Gx p e below s₁ f0 T3 (mkF m 10 #[.val (.int p1), .val (.int p2), .val (.int p3), .val (.int p4), .val (.int p5), .val (.int (2 : Int32)), .unset, .unset, .unset] [(.ref b3)]) := fun t kt => K2 t (st3 t kt)
  have K8 : Gx p e below s₁ f0 T3 (mkF m 13 #[.val (.int p1), .val (.int p2), .val (.int p3), .val (.int p4), .val (.int p5), .val (.int (2 : Int32)), .unset, .unset, .unset] [(.int (2 : Int32)), (.ref b3), (.ref b3)]) := fun t kt => K7 t (by
    show Steps p.tables e below (T3.setTop (mkF m 10 #[.val (.int p1), .val (.int p2), .val (.int p3), .val (.int p4), .val (.int p5), .val (.int (2 : Int32)), .unset, .unset, .unset] [(.ref b3)])) _
    refine XS.dup X3.here hx rfl (hb hby at_10) rfl rfl ?_
    show Steps p.tables e below (T3.setTop (mkF m 11 #[.val (.int p1), .val (.int p2), .val (.int p3), .val (.int p4), .val (.int p5), .val (.int (2 : Int32)), .unset, .unset, .unset] [(.ref b3), (.ref b3)])) _
    refine XS.iload X3.here hx rfl (hb hby at_11) rfl ?_
    exact kt)
  have kp9 : Keep h0 h3 [] := ((Keep.refl h0 []).ext E3)
  obtain ⟨_, _, ⟨T10, L10, k10, n10⟩, -, X10', ⟨Lc10, hQ10, l10, y10, z10⟩, st10⟩ := X3.specialBack hx (y := (⟨"com/example/tideshift/tideshift/engine/MovingShards", "<init>", "(I)V"⟩ : MethodName)) rfl hown (mvT hZ (hw _ (List.mem_of_getElem? (i := 3) rfl))) (mvT hZ (hw _ (List.mem_of_getElem? (i := 4) rfl))) (mvT hZ (hw _ (List.mem_of_getElem? (i := 5) rfl))) (by decide) (backOf (W := 1) (rmIni2 l Z a0 hw [] b3 h3 n0 (Nat.le_trans Z0 kp9.1) A3 (Nat.le_trans Z0 (Nat.le_trans (Keep.refl h0 []).1 (Nat.le_of_eq g3.symm))) f4 f5 f6) hZ (hw _ (List.mem_of_getElem? (i := 5) rfl)) (hw _ (List.mem_of_getElem? (i := 2) rfl)) (by decide) (by decide)) (g := (mkF m 13 #[.val (.int p1), .val (.int p2), .val (.int p3), .val (.int p4), .val (.int p5), .val (.int (2 : Int32)), .unset, .unset, .unset] [(.int (2 : Int32)), (.ref b3), (.ref b3)])) rfl (by rw [hml]; rfl) (Steps.refl _) (a := b3) (argsL := [(.int (2 : Int32))]) (rest := [(.ref b3)]) (lenOf pd__I_V rfl) rfl (by show 2 * 0 + _ ≤ _; exact Nat.le_of_eq rfl) (hb hby at_13) (fun _ _ => ⟨rfl, e3, (by decide : 1 + 2 ≤ _), (by decide : 3 + 4 ≤ _)⟩)
  dsimp only [Pt.U, Pt.locs, Pt.cells, Pt.slots] at X10' l10 y10 z10 st10 hQ10
  subst l10 y10 z10
  obtain ⟨h10, e10⟩ : ∃ z, T10.heap = z := ⟨_, rfl⟩
  rw [e10] at hQ10
  obtain ⟨bS_10, bP_10, kS_10, kP_10, rfl, N10q, Kc10, f11, f12, f13, f14, f15, f16, f17, f18, f19⟩ := hQ10
  obtain ⟨lc10, X10, N10⟩ : ∃ lc, Stand p l e room_1 s m #[(.int p1), (.int p2), (.int p3), (.int p4), (.int p5)] below meth c T10 lc 3 7 ∧ Fr n0 lc := ⟨_, X10', Fr.app N0 N10q⟩
  have K20 : Gx p e below s₁ f0 T10 (mkF m 16 #[.val (.int p1), .val (.int p2), .val (.int p3), .val (.int p4), .val (.int p5), .val (.int (2 : Int32)), .unset, .unset, .unset] [(.ref b3)]) := fun t kt => K8 t (st10.trans kt)
  have K21 : Gx p e below s₁ f0 T10 (mkF m 28 #[.val (.int p1), .val (.int p2), .val (.int p3), .val (.int p4), .val (.int p5), .val (.int (2 : Int32)), .val (.ref b3), .val (.int (0 : Int32)), .unset] [(.int p2), (.int (2 : Int32)), (.int (0 : Int32)), (.ref b3)]) := fun t kt => K20 t (by
    show Steps p.tables e below (T10.setTop (mkF m 16 #[.val (.int p1), .val (.int p2), .val (.int p3), .val (.int p4), .val (.int p5), .val (.int (2 : Int32)), .unset, .unset, .unset] [(.ref b3)])) _
    refine XS.astore X10.here hx rfl (hb hby at_16) rfl rfl (l' := #[.val (.int p1), .val (.int p2), .val (.int p3), .val (.int p4), .val (.int p5), .val (.int (2 : Int32)), .val (.ref b3), .unset, .unset]) rfl ?_
    show Steps p.tables e below (T10.setTop (mkF m 18 #[.val (.int p1), .val (.int p2), .val (.int p3), .val (.int p4), .val (.int p5), .val (.int (2 : Int32)), .val (.ref b3), .unset, .unset] [])) _
    refine XS.iconst X10.here hx rfl (hb hby at_18) ?_
    show Steps p.tables e below (T10.setTop (mkF m 19 #[.val (.int p1), .val (.int p2), .val (.int p3), .val (.int p4), .val (.int p5), .val (.int (2 : Int32)), .val (.ref b3), .unset, .unset] [(.int (0 : Int32))])) _
    refine XS.istore X10.here hx rfl (hb hby at_19) rfl (l' := #[.val (.int p1), .val (.int p2), .val (.int p3), .val (.int p4), .val (.int p5), .val (.int (2 : Int32)), .val (.ref b3), .val (.int (0 : Int32)), .unset]) rfl ?_
    show Steps p.tables e below (T10.setTop (mkF m 21 #[.val (.int p1), .val (.int p2), .val (.int p3), .val (.int p4), .val (.int p5), .val (.int (2 : Int32)), .val (.ref b3), .val (.int (0 : Int32)), .unset] [])) _
    refine XS.aload X10.here hx rfl (hb hby at_21) rfl rfl ?_
    show Steps p.tables e below (T10.setTop (mkF m 23 #[.val (.int p1), .val (.int p2), .val (.int p3), .val (.int p4), .val (.int p5), .val (.int (2 : Int32)), .val (.ref b3), .val (.int (0 : Int32)), .unset] [(.ref b3)])) _
    refine XS.iload X10.here hx rfl (hb hby at_23) rfl ?_
    show Steps p.tables e below (T10.setTop (mkF m 25 #[.val (.int p1), .val (.int p2), .val (.int p3), .val (.int p4), .val (.int p5), .val (.int (2 : Int32)), .val (.ref b3), .val (.int (0 : Int32)), .unset] [(.int (0 : Int32)), (.ref b3)])) _
    refine XS.iload X10.here hx rfl (hb hby at_25) rfl ?_
    show Steps p.tables e below (T10.setTop (mkF m 27 #[.val (.int p1), .val (.int p2), .val (.int p3), .val (.int p4), .val (.int p5), .val (.int (2 : Int32)), .val (.ref b3), .val (.int (0 : Int32)), .unset] [(.int (2 : Int32)), (.int (0 : Int32)), (.ref b3)])) _
    refine XS.iloadN X10.here hx rfl (hb hby at_27) rfl ?_
    exact kt)
  have kp22 : Keep h0 h10 [] := (Keep.trans kp9 Kc10 (allS (Or.inr (Nat.le_trans (Keep.refl h0 []).1 (Nat.le_of_eq g3.symm))) all0))
  obtain ⟨_, _, ⟨T23, L23, k23, n23⟩, -, X23', ⟨Lc23, hQ23, l23, y23, z23⟩, st23⟩ := Jvm.LawKit.callS X10 hx (y := (⟨"com/example/tideshift/tideshift/engine/MovingShardsIsMovingPinLaw", "step", "(Lcom/example/tideshift/tideshift/engine/MovingShards;III)I"⟩ : MethodName)) hown (mvT hZ (hw _ (List.mem_of_getElem? (i := 16) rfl))) (mvT hZ (hw _ (List.mem_of_getElem? (i := 17) rfl))) (mvT hZ (hw _ (List.mem_of_getElem? (i := 18) rfl))) (mvT hZ (hw _ (List.mem_of_getElem? (i := 19) rfl))) (by decide) (backOf (W := 0) (rmStp l Z a0 hw [] b3 (0 : Int32) (2 : Int32) p2 bS_10 bP_10 kS_10 kP_10 2 (List.range 2) (List.range 2) 2 s1 h10 n0 (Nat.le_trans Z0 kp22.1) f11 f12 f13 f18 f19 f14 (Nat.le_trans Z0 (Nat.le_trans (Keep.refl h0 []).1 (Nat.le_of_eq g3.symm))) (Nat.le_trans Z0 (Nat.le_trans kp9.1 f15)) (Nat.le_trans Z0 (Nat.le_trans kp9.1 f16)) (Nat.ne_of_lt (Nat.lt_of_lt_of_le A3.lt f15)) (Nat.ne_of_lt (Nat.lt_of_lt_of_le A3.lt f16)) f17 (by decide) (by decide) hs1 hq1 (by have h := hB; unfold allOk at h; simp only [Bool.and_eq_true] at h; exact h.1.1.1.1.1)) hZ (hw _ (List.mem_of_getElem? (i := 19) rfl)) (hw _ (List.mem_of_getElem? (i := 18) rfl)) (by decide) (by decide)) (g := (mkF m 28 #[.val (.int p1), .val (.int p2), .val (.int p3), .val (.int p4), .val (.int p5), .val (.int (2 : Int32)), .val (.ref b3), .val (.int (0 : Int32)), .unset] [(.int p2), (.int (2 : Int32)), (.int (0 : Int32)), (.ref b3)])) rfl (by rw [hml]; rfl) (argsL := [(.ref b3), (.int (0 : Int32)), (.int (2 : Int32)), (.int p2)]) (rest := []) (lenOf pd__Lcom_example_tideshift_tideshift_engine_MovingShards_III_I rfl) rfl (by show 2 * 0 + _ ≤ _; exact Nat.le_of_eq rfl) (hb hby at_28) (fun _ _ => ⟨rfl, e10, (by decide : 3 + 0 ≤ _), (by decide : 7 + 0 ≤ _)⟩)
  dsimp only [Pt.U, Pt.locs, Pt.cells, Pt.slots] at X23' l23 y23 z23 st23 hQ23
  subst l23 y23 z23
  obtain ⟨h23, e23⟩ : ∃ z, T23.heap = z := ⟨_, rfl⟩
  rw [e23] at hQ23
  obtain ⟨stx_23, plx_23, ctx_23, mkx_23, rfl, N23q, Kc23, f24, f25, f26, f27, f28, f29, f30⟩ := hQ23
  obtain ⟨lc23, X23, N23⟩ : ∃ lc, Stand p l e room_1 s m #[(.int p1), (.int p2), (.int p3), (.int p4), (.int p5)] below meth c T23 lc 3 7 ∧ Fr n0 lc := ⟨_, X23', Fr.app N10 N23q⟩
  have K31 : Gx p e below s₁ f0 T23 (mkF m 31 #[.val (.int p1), .val (.int p2), .val (.int p3), .val (.int p4), .val (.int p5), .val (.int (2 : Int32)), .val (.ref b3), .val (.int (0 : Int32)), .unset] [(.int mkx_23)]) := fun t kt => K21 t (st23 t kt)
  have u1 := own_u1 (n := 2) hB f30
  have K32 : Gx p e below s₁ f0 T23 (mkF m 40 #[.val (.int p1), .val (.int p2), .val (.int p3), .val (.int p4), .val (.int p5), .val (.int (2 : Int32)), .val (.ref b3), .val (.int mkx_23), .unset] [(.int p3), (.int (2 : Int32)), (.int mkx_23), (.ref b3)]) := fun t kt => K31 t (by
    show Steps p.tables e below (T23.setTop (mkF m 31 #[.val (.int p1), .val (.int p2), .val (.int p3), .val (.int p4), .val (.int p5), .val (.int (2 : Int32)), .val (.ref b3), .val (.int (0 : Int32)), .unset] [(.int mkx_23)])) _
    refine XS.istore X23.here hx rfl (hb hby at_31) rfl (l' := #[.val (.int p1), .val (.int p2), .val (.int p3), .val (.int p4), .val (.int p5), .val (.int (2 : Int32)), .val (.ref b3), .val (.int mkx_23), .unset]) rfl ?_
    show Steps p.tables e below (T23.setTop (mkF m 33 #[.val (.int p1), .val (.int p2), .val (.int p3), .val (.int p4), .val (.int p5), .val (.int (2 : Int32)), .val (.ref b3), .val (.int mkx_23), .unset] [])) _
    refine XS.aload X23.here hx rfl (hb hby at_33) rfl rfl ?_
    show Steps p.tables e below (T23.setTop (mkF m 35 #[.val (.int p1), .val (.int p2), .val (.int p3), .val (.int p4), .val (.int p5), .val (.int (2 : Int32)), .val (.ref b3), .val (.int mkx_23), .unset] [(.ref b3)])) _
    refine XS.iload X23.here hx rfl (hb hby at_35) rfl ?_
    show Steps p.tables e below (T23.setTop (mkF m 37 #[.val (.int p1), .val (.int p2), .val (.int p3), .val (.int p4), .val (.int p5), .val (.int (2 : Int32)), .val (.ref b3), .val (.int mkx_23), .unset] [(.int mkx_23), (.ref b3)])) _
    refine XS.iload X23.here hx rfl (hb hby at_37) rfl ?_
    show Steps p.tables e below (T23.setTop (mkF m 39 #[.val (.int p1), .val (.int p2), .val (.int p3), .val (.int p4), .val (.int p5), .val (.int (2 : Int32)), .val (.ref b3), .val (.int mkx_23), .unset] [(.int (2 : Int32)), (.int mkx_23), (.ref b3)])) _
    refine XS.iloadN X23.here hx rfl (hb hby at_39) rfl ?_
    exact kt)
  have kp33 : Keep h0 h23 [] := (Keep.trans kp22 Kc23 (allS (Or.inr (Nat.le_trans (Keep.refl h0 []).1 (Nat.le_of_eq g3.symm))) (allS (Or.inr (Nat.le_trans kp9.1 f15)) (allS (Or.inr (Nat.le_trans kp9.1 f16)) all0))))
  obtain ⟨_, _, ⟨T34, L34, k34, n34⟩, -, X34', ⟨Lc34, hQ34, l34, y34, z34⟩, st34⟩ := Jvm.LawKit.callS X23 hx (y := (⟨"com/example/tideshift/tideshift/engine/MovingShardsIsMovingPinLaw", "step", "(Lcom/example/tideshift/tideshift/engine/MovingShards;III)I"⟩ : MethodName)) hown (mvT hZ (hw _ (List.mem_of_getElem? (i := 16) rfl))) (mvT hZ (hw _ (List.mem_of_getElem? (i := 17) rfl))) (mvT hZ (hw _ (List.mem_of_getElem? (i := 18) rfl))) (mvT hZ (hw _ (List.mem_of_getElem? (i := 19) rfl))) (by decide) (backOf (W := 0) (rmStp l Z a0 hw [] b3 mkx_23 (2 : Int32) p3 bS_10 bP_10 kS_10 kP_10 2 stx_23 plx_23 ctx_23 s2 h23 n0 (Nat.le_trans Z0 kp33.1) f24 f25 f26 f28 f29 f27 (Nat.le_trans Z0 (Nat.le_trans (Keep.refl h0 []).1 (Nat.le_of_eq g3.symm))) (Nat.le_trans Z0 (Nat.le_trans kp9.1 f15)) (Nat.le_trans Z0 (Nat.le_trans kp9.1 f16)) (Nat.ne_of_lt (Nat.lt_of_lt_of_le A3.lt f15)) (Nat.ne_of_lt (Nat.lt_of_lt_of_le A3.lt f16)) f17 (by decide) (by decide) hs2 hq2 u1) hZ (hw _ (List.mem_of_getElem? (i := 19) rfl)) (hw _ (List.mem_of_getElem? (i := 18) rfl)) (by decide) (by decide)) (g := (mkF m 40 #[.val (.int p1), .val (.int p2), .val (.int p3), .val (.int p4), .val (.int p5), .val (.int (2 : Int32)), .val (.ref b3), .val (.int mkx_23), .unset] [(.int p3), (.int (2 : Int32)), (.int mkx_23), (.ref b3)])) rfl (by rw [hml]; rfl) (argsL := [(.ref b3), (.int mkx_23), (.int (2 : Int32)), (.int p3)]) (rest := []) (lenOf pd__Lcom_example_tideshift_tideshift_engine_MovingShards_III_I rfl) rfl (by show 2 * 0 + _ ≤ _; exact Nat.le_of_eq rfl) (hb hby at_40) (fun _ _ => ⟨rfl, e23, (by decide : 3 + 0 ≤ _), (by decide : 7 + 0 ≤ _)⟩)
  dsimp only [Pt.U, Pt.locs, Pt.cells, Pt.slots] at X34' l34 y34 z34 st34 hQ34
  subst l34 y34 z34
  obtain ⟨h34, e34⟩ : ∃ z, T34.heap = z := ⟨_, rfl⟩
  rw [e34] at hQ34
  obtain ⟨stx_34, plx_34, ctx_34, mkx_34, rfl, N34q, Kc34, f35, f36, f37, f38, f39, f40, f41⟩ := hQ34
  obtain ⟨lc34, X34, N34⟩ : ∃ lc, Stand p l e room_1 s m #[(.int p1), (.int p2), (.int p3), (.int p4), (.int p5)] below meth c T34 lc 3 7 ∧ Fr n0 lc := ⟨_, X34', Fr.app N23 N34q⟩
  have K42 : Gx p e below s₁ f0 T34 (mkF m 43 #[.val (.int p1), .val (.int p2), .val (.int p3), .val (.int p4), .val (.int p5), .val (.int (2 : Int32)), .val (.ref b3), .val (.int mkx_23), .unset] [(.int mkx_34)]) := fun t kt => K32 t (st34 t kt)
  have u2 := own_u2 (n := 2) hB f30 f41
  have K43 : Gx p e below s₁ f0 T34 (mkF m 52 #[.val (.int p1), .val (.int p2), .val (.int p3), .val (.int p4), .val (.int p5), .val (.int (2 : Int32)), .val (.ref b3), .val (.int mkx_34), .unset] [(.int p4), (.int (2 : Int32)), (.int mkx_34), (.ref b3)]) := fun t kt => K42 t (by
    show Steps p.tables e below (T34.setTop (mkF m 43 #[.val (.int p1), .val (.int p2), .val (.int p3), .val (.int p4), .val (.int p5), .val (.int (2 : Int32)), .val (.ref b3), .val (.int mkx_23), .unset] [(.int mkx_34)])) _
    refine XS.istore X34.here hx rfl (hb hby at_43) rfl (l' := #[.val (.int p1), .val (.int p2), .val (.int p3), .val (.int p4), .val (.int p5), .val (.int (2 : Int32)), .val (.ref b3), .val (.int mkx_34), .unset]) rfl ?_
    show Steps p.tables e below (T34.setTop (mkF m 45 #[.val (.int p1), .val (.int p2), .val (.int p3), .val (.int p4), .val (.int p5), .val (.int (2 : Int32)), .val (.ref b3), .val (.int mkx_34), .unset] [])) _
    refine XS.aload X34.here hx rfl (hb hby at_45) rfl rfl ?_
    show Steps p.tables e below (T34.setTop (mkF m 47 #[.val (.int p1), .val (.int p2), .val (.int p3), .val (.int p4), .val (.int p5), .val (.int (2 : Int32)), .val (.ref b3), .val (.int mkx_34), .unset] [(.ref b3)])) _
    refine XS.iload X34.here hx rfl (hb hby at_47) rfl ?_
    show Steps p.tables e below (T34.setTop (mkF m 49 #[.val (.int p1), .val (.int p2), .val (.int p3), .val (.int p4), .val (.int p5), .val (.int (2 : Int32)), .val (.ref b3), .val (.int mkx_34), .unset] [(.int mkx_34), (.ref b3)])) _
    refine XS.iload X34.here hx rfl (hb hby at_49) rfl ?_
    show Steps p.tables e below (T34.setTop (mkF m 51 #[.val (.int p1), .val (.int p2), .val (.int p3), .val (.int p4), .val (.int p5), .val (.int (2 : Int32)), .val (.ref b3), .val (.int mkx_34), .unset] [(.int (2 : Int32)), (.int mkx_34), (.ref b3)])) _
    refine XS.iloadN X34.here hx rfl (hb hby at_51) rfl ?_
    exact kt)
  have kp44 : Keep h0 h34 [] := (Keep.trans kp33 Kc34 (allS (Or.inr (Nat.le_trans (Keep.refl h0 []).1 (Nat.le_of_eq g3.symm))) (allS (Or.inr (Nat.le_trans kp9.1 f15)) (allS (Or.inr (Nat.le_trans kp9.1 f16)) all0))))
  obtain ⟨_, _, ⟨T45, L45, k45, n45⟩, -, X45', ⟨Lc45, hQ45, l45, y45, z45⟩, st45⟩ := Jvm.LawKit.callS X34 hx (y := (⟨"com/example/tideshift/tideshift/engine/MovingShardsIsMovingPinLaw", "step", "(Lcom/example/tideshift/tideshift/engine/MovingShards;III)I"⟩ : MethodName)) hown (mvT hZ (hw _ (List.mem_of_getElem? (i := 16) rfl))) (mvT hZ (hw _ (List.mem_of_getElem? (i := 17) rfl))) (mvT hZ (hw _ (List.mem_of_getElem? (i := 18) rfl))) (mvT hZ (hw _ (List.mem_of_getElem? (i := 19) rfl))) (by decide) (backOf (W := 0) (rmStp l Z a0 hw [] b3 mkx_34 (2 : Int32) p4 bS_10 bP_10 kS_10 kP_10 2 stx_34 plx_34 ctx_34 s3 h34 n0 (Nat.le_trans Z0 kp44.1) f35 f36 f37 f39 f40 f38 (Nat.le_trans Z0 (Nat.le_trans (Keep.refl h0 []).1 (Nat.le_of_eq g3.symm))) (Nat.le_trans Z0 (Nat.le_trans kp9.1 f15)) (Nat.le_trans Z0 (Nat.le_trans kp9.1 f16)) (Nat.ne_of_lt (Nat.lt_of_lt_of_le A3.lt f15)) (Nat.ne_of_lt (Nat.lt_of_lt_of_le A3.lt f16)) f17 (by decide) (by decide) hs3 hq3 u2) hZ (hw _ (List.mem_of_getElem? (i := 19) rfl)) (hw _ (List.mem_of_getElem? (i := 18) rfl)) (by decide) (by decide)) (g := (mkF m 52 #[.val (.int p1), .val (.int p2), .val (.int p3), .val (.int p4), .val (.int p5), .val (.int (2 : Int32)), .val (.ref b3), .val (.int mkx_34), .unset] [(.int p4), (.int (2 : Int32)), (.int mkx_34), (.ref b3)])) rfl (by rw [hml]; rfl) (argsL := [(.ref b3), (.int mkx_34), (.int (2 : Int32)), (.int p4)]) (rest := []) (lenOf pd__Lcom_example_tideshift_tideshift_engine_MovingShards_III_I rfl) rfl (by show 2 * 0 + _ ≤ _; exact Nat.le_of_eq rfl) (hb hby at_52) (fun _ _ => ⟨rfl, e34, (by decide : 3 + 0 ≤ _), (by decide : 7 + 0 ≤ _)⟩)
  dsimp only [Pt.U, Pt.locs, Pt.cells, Pt.slots] at X45' l45 y45 z45 st45 hQ45
  subst l45 y45 z45
  obtain ⟨h45, e45⟩ : ∃ z, T45.heap = z := ⟨_, rfl⟩
  rw [e45] at hQ45
  obtain ⟨stx_45, plx_45, ctx_45, mkx_45, rfl, N45q, Kc45, f46, f47, f48, f49, f50, f51, f52⟩ := hQ45
  obtain ⟨lc45, X45, N45⟩ : ∃ lc, Stand p l e room_1 s m #[(.int p1), (.int p2), (.int p3), (.int p4), (.int p5)] below meth c T45 lc 3 7 ∧ Fr n0 lc := ⟨_, X45', Fr.app N34 N45q⟩
  have K53 : Gx p e below s₁ f0 T45 (mkF m 55 #[.val (.int p1), .val (.int p2), .val (.int p3), .val (.int p4), .val (.int p5), .val (.int (2 : Int32)), .val (.ref b3), .val (.int mkx_34), .unset] [(.int mkx_45)]) := fun t kt => K43 t (st45 t kt)
  have u3 := own_u3 (n := 2) hB f30 f41 f52
  have K54 : Gx p e below s₁ f0 T45 (mkF m 65 #[.val (.int p1), .val (.int p2), .val (.int p3), .val (.int p4), .val (.int p5), .val (.int (2 : Int32)), .val (.ref b3), .val (.int mkx_45), .unset] [(.int p5), (.int (2 : Int32)), (.int mkx_45), (.ref b3)]) := fun t kt => K53 t (by
    show Steps p.tables e below (T45.setTop (mkF m 55 #[.val (.int p1), .val (.int p2), .val (.int p3), .val (.int p4), .val (.int p5), .val (.int (2 : Int32)), .val (.ref b3), .val (.int mkx_34), .unset] [(.int mkx_45)])) _
    refine XS.istore X45.here hx rfl (hb hby at_55) rfl (l' := #[.val (.int p1), .val (.int p2), .val (.int p3), .val (.int p4), .val (.int p5), .val (.int (2 : Int32)), .val (.ref b3), .val (.int mkx_45), .unset]) rfl ?_
    show Steps p.tables e below (T45.setTop (mkF m 57 #[.val (.int p1), .val (.int p2), .val (.int p3), .val (.int p4), .val (.int p5), .val (.int (2 : Int32)), .val (.ref b3), .val (.int mkx_45), .unset] [])) _
    refine XS.aload X45.here hx rfl (hb hby at_57) rfl rfl ?_
    show Steps p.tables e below (T45.setTop (mkF m 59 #[.val (.int p1), .val (.int p2), .val (.int p3), .val (.int p4), .val (.int p5), .val (.int (2 : Int32)), .val (.ref b3), .val (.int mkx_45), .unset] [(.ref b3)])) _
    refine XS.iload X45.here hx rfl (hb hby at_59) rfl ?_
    show Steps p.tables e below (T45.setTop (mkF m 61 #[.val (.int p1), .val (.int p2), .val (.int p3), .val (.int p4), .val (.int p5), .val (.int (2 : Int32)), .val (.ref b3), .val (.int mkx_45), .unset] [(.int mkx_45), (.ref b3)])) _
    refine XS.iload X45.here hx rfl (hb hby at_61) rfl ?_
    show Steps p.tables e below (T45.setTop (mkF m 63 #[.val (.int p1), .val (.int p2), .val (.int p3), .val (.int p4), .val (.int p5), .val (.int (2 : Int32)), .val (.ref b3), .val (.int mkx_45), .unset] [(.int (2 : Int32)), (.int mkx_45), (.ref b3)])) _
    refine XS.iload X45.here hx rfl (hb hby at_63) rfl ?_
    exact kt)
  have kp55 : Keep h0 h45 [] := (Keep.trans kp44 Kc45 (allS (Or.inr (Nat.le_trans (Keep.refl h0 []).1 (Nat.le_of_eq g3.symm))) (allS (Or.inr (Nat.le_trans kp9.1 f15)) (allS (Or.inr (Nat.le_trans kp9.1 f16)) all0))))
  obtain ⟨_, _, ⟨T56, L56, k56, n56⟩, -, X56', ⟨Lc56, hQ56, l56, y56, z56⟩, st56⟩ := Jvm.LawKit.callS X45 hx (y := (⟨"com/example/tideshift/tideshift/engine/MovingShardsIsMovingPinLaw", "step", "(Lcom/example/tideshift/tideshift/engine/MovingShards;III)I"⟩ : MethodName)) hown (mvT hZ (hw _ (List.mem_of_getElem? (i := 16) rfl))) (mvT hZ (hw _ (List.mem_of_getElem? (i := 17) rfl))) (mvT hZ (hw _ (List.mem_of_getElem? (i := 18) rfl))) (mvT hZ (hw _ (List.mem_of_getElem? (i := 19) rfl))) (by decide) (backOf (W := 0) (rmStp l Z a0 hw [] b3 mkx_45 (2 : Int32) p5 bS_10 bP_10 kS_10 kP_10 2 stx_45 plx_45 ctx_45 s4 h45 n0 (Nat.le_trans Z0 kp55.1) f46 f47 f48 f50 f51 f49 (Nat.le_trans Z0 (Nat.le_trans (Keep.refl h0 []).1 (Nat.le_of_eq g3.symm))) (Nat.le_trans Z0 (Nat.le_trans kp9.1 f15)) (Nat.le_trans Z0 (Nat.le_trans kp9.1 f16)) (Nat.ne_of_lt (Nat.lt_of_lt_of_le A3.lt f15)) (Nat.ne_of_lt (Nat.lt_of_lt_of_le A3.lt f16)) f17 (by decide) (by decide) hs4 hq4 u3) hZ (hw _ (List.mem_of_getElem? (i := 19) rfl)) (hw _ (List.mem_of_getElem? (i := 18) rfl)) (by decide) (by decide)) (g := (mkF m 65 #[.val (.int p1), .val (.int p2), .val (.int p3), .val (.int p4), .val (.int p5), .val (.int (2 : Int32)), .val (.ref b3), .val (.int mkx_45), .unset] [(.int p5), (.int (2 : Int32)), (.int mkx_45), (.ref b3)])) rfl (by rw [hml]; rfl) (argsL := [(.ref b3), (.int mkx_45), (.int (2 : Int32)), (.int p5)]) (rest := []) (lenOf pd__Lcom_example_tideshift_tideshift_engine_MovingShards_III_I rfl) rfl (by show 2 * 0 + _ ≤ _; exact Nat.le_of_eq rfl) (hb hby at_65) (fun _ _ => ⟨rfl, e45, (by decide : 3 + 0 ≤ _), (by decide : 7 + 0 ≤ _)⟩)
  dsimp only [Pt.U, Pt.locs, Pt.cells, Pt.slots] at X56' l56 y56 z56 st56 hQ56
  subst l56 y56 z56
  obtain ⟨h56, e56⟩ : ∃ z, T56.heap = z := ⟨_, rfl⟩
  rw [e56] at hQ56
  obtain ⟨stx_56, plx_56, ctx_56, mkx_56, rfl, N56q, Kc56, f57, f58, f59, f60, f61, f62, f63⟩ := hQ56
  obtain ⟨lc56, X56, N56⟩ : ∃ lc, Stand p l e room_1 s m #[(.int p1), (.int p2), (.int p3), (.int p4), (.int p5)] below meth c T56 lc 3 7 ∧ Fr n0 lc := ⟨_, X56', Fr.app N45 N56q⟩
  have K64 : Gx p e below s₁ f0 T56 (mkF m 68 #[.val (.int p1), .val (.int p2), .val (.int p3), .val (.int p4), .val (.int p5), .val (.int (2 : Int32)), .val (.ref b3), .val (.int mkx_45), .unset] [(.int mkx_56)]) := fun t kt => K54 t (st56 t kt)
  have u4 := own_u4 (n := 2) hB f30 f41 f52 f63
  have K65 : Gx p e below s₁ f0 T56 (mkF m 73 #[.val (.int p1), .val (.int p2), .val (.int p3), .val (.int p4), .val (.int p5), .val (.int (2 : Int32)), .val (.ref b3), .val (.int mkx_56), .unset] [(.int (0 : Int32)), (.ref b3)]) := fun t kt => K64 t (by
    show Steps p.tables e below (T56.setTop (mkF m 68 #[.val (.int p1), .val (.int p2), .val (.int p3), .val (.int p4), .val (.int p5), .val (.int (2 : Int32)), .val (.ref b3), .val (.int mkx_45), .unset] [(.int mkx_56)])) _
    refine XS.istore X56.here hx rfl (hb hby at_68) rfl (l' := #[.val (.int p1), .val (.int p2), .val (.int p3), .val (.int p4), .val (.int p5), .val (.int (2 : Int32)), .val (.ref b3), .val (.int mkx_56), .unset]) rfl ?_
    show Steps p.tables e below (T56.setTop (mkF m 70 #[.val (.int p1), .val (.int p2), .val (.int p3), .val (.int p4), .val (.int p5), .val (.int (2 : Int32)), .val (.ref b3), .val (.int mkx_56), .unset] [])) _
    refine XS.aload X56.here hx rfl (hb hby at_70) rfl rfl ?_
    show Steps p.tables e below (T56.setTop (mkF m 72 #[.val (.int p1), .val (.int p2), .val (.int p3), .val (.int p4), .val (.int p5), .val (.int (2 : Int32)), .val (.ref b3), .val (.int mkx_56), .unset] [(.ref b3)])) _
    refine XS.iconst X56.here hx rfl (hb hby at_72) ?_
    exact kt)
  have kp66 : Keep h0 h56 [] := (Keep.trans kp55 Kc56 (allS (Or.inr (Nat.le_trans (Keep.refl h0 []).1 (Nat.le_of_eq g3.symm))) (allS (Or.inr (Nat.le_trans kp9.1 f15)) (allS (Or.inr (Nat.le_trans kp9.1 f16)) all0))))
  obtain ⟨cq67, kq67, q67a, q67b, q67c⟩ := isOf hZ e56 f57
  obtain ⟨_, _, ⟨T67, L67, k67, n67⟩, -, X67', ⟨Lc67, hQ67, l67, y67, z67⟩, st67⟩ := X56.virtualBack hx (y := (⟨"com/example/tideshift/tideshift/engine/MovingShards", "isMoving", "(I)Z"⟩ : MethodName)) (z := (⟨"com/example/tideshift/tideshift/engine/MovingShards", "isMoving", "(I)Z"⟩ : MethodName)) hown (mvT hZ (hw _ (List.mem_of_getElem? (i := 35) rfl))) (mvT hZ (hw _ (List.mem_of_getElem? (i := 36) rfl))) (notFace_of_selects (args := #[]) (mvT hZ (hw _ (List.mem_of_getElem? (i := 38) rfl)))) (mvT hZ (hw _ (List.mem_of_getElem? (i := 38) rfl))) (mvT hZ (hw _ (List.mem_of_getElem? (i := 37) rfl))) (by decide) (backOf (W := 0) (rmIsm l Z a0 hw [] b3 (0 : Int32) bP_10 kP_10 2 plx_56 ctx_56 0 h56 n0 (Nat.le_trans Z0 kp66.1) f59 f62 f60 (by decide) (by decide) ⟨by decide, u4.1⟩) hZ (hw _ (List.mem_of_getElem? (i := 39) rfl)) (hw _ (List.mem_of_getElem? (i := 2) rfl)) (by decide) (by decide)) q67a q67c (g := (mkF m 73 #[.val (.int p1), .val (.int p2), .val (.int p3), .val (.int p4), .val (.int p5), .val (.int (2 : Int32)), .val (.ref b3), .val (.int mkx_56), .unset] [(.int (0 : Int32)), (.ref b3)])) rfl (by rw [hml]; rfl) (Steps.refl _) (argsL := [(.int (0 : Int32))]) (rest := []) (lenOf pd__I_Z rfl) rfl (by show 2 * 0 + _ ≤ _; exact Nat.le_of_eq rfl) (hb hby at_73) (fun _ _ => ⟨rfl, e56, (by decide : 3 + 0 ≤ _), (by decide : 7 + 0 ≤ _)⟩)
  dsimp only [Pt.U, Pt.locs, Pt.cells, Pt.slots] at X67' l67 y67 z67 st67 hQ67
  subst l67 y67 z67
  obtain ⟨rfl, N67q, e67⟩ := hQ67
  obtain ⟨lc67, X67, N67⟩ : ∃ lc, Stand p l e room_1 s m #[(.int p1), (.int p2), (.int p3), (.int p4), (.int p5)] below meth c T67 lc 3 7 ∧ Fr n0 lc := ⟨_, X67', Fr.app N56 N67q⟩
  have K68 : Gx p e below s₁ f0 T67 (mkF m 76 #[.val (.int p1), .val (.int p2), .val (.int p3), .val (.int p4), .val (.int p5), .val (.int (2 : Int32)), .val (.ref b3), .val (.int mkx_56), .unset] [(.int (nar .boolean (mvF plx_56 ctx_56 0)))]) := fun t kt => K65 t (st67.trans kt)
  have K71 : Gx p e below s₁ f0 T67 (mkF m 82 #[.val (.int p1), .val (.int p2), .val (.int p3), .val (.int p4), .val (.int p5), .val (.int (2 : Int32)), .val (.ref b3), .val (.int mkx_56), .unset] [(.int ((mkx_56 >>> ((0 : Int32) &&& 31)) &&& (1 : Int32))), (.int (nar .boolean (mvF plx_56 ctx_56 0)))]) := fun t kt => K68 t (by
    show Steps p.tables e below (T67.setTop (mkF m 76 #[.val (.int p1), .val (.int p2), .val (.int p3), .val (.int p4), .val (.int p5), .val (.int (2 : Int32)), .val (.ref b3), .val (.int mkx_56), .unset] [(.int (nar .boolean (mvF plx_56 ctx_56 0)))])) _
    refine XS.iload X67.here hx rfl (hb hby at_76) rfl ?_
    show Steps p.tables e below (T67.setTop (mkF m 78 #[.val (.int p1), .val (.int p2), .val (.int p3), .val (.int p4), .val (.int p5), .val (.int (2 : Int32)), .val (.ref b3), .val (.int mkx_56), .unset] [(.int mkx_56), (.int (nar .boolean (mvF plx_56 ctx_56 0)))])) _
    refine XS.iconst X67.here hx rfl (hb hby at_78) ?_
    show Steps p.tables e below (T67.setTop (mkF m 79 #[.val (.int p1), .val (.int p2), .val (.int p3), .val (.int p4), .val (.int p5), .val (.int (2 : Int32)), .val (.ref b3), .val (.int mkx_56), .unset] [(.int (0 : Int32)), (.int mkx_56), (.int (nar .boolean (mvF plx_56 ctx_56 0)))])) _
    refine XS.ishr X67.here hx rfl (hb hby at_79) rfl ?_
    show Steps p.tables e below (T67.setTop (mkF m 80 #[.val (.int p1), .val (.int p2), .val (.int p3), .val (.int p4), .val (.int p5), .val (.int (2 : Int32)), .val (.ref b3), .val (.int mkx_56), .unset] [(.int (mkx_56 >>> ((0 : Int32) &&& 31))), (.int (nar .boolean (mvF plx_56 ctx_56 0)))])) _
    refine XS.iconst X67.here hx rfl (hb hby at_80) ?_
    show Steps p.tables e below (T67.setTop (mkF m 81 #[.val (.int p1), .val (.int p2), .val (.int p3), .val (.int p4), .val (.int p5), .val (.int (2 : Int32)), .val (.ref b3), .val (.int mkx_56), .unset] [(.int (1 : Int32)), (.int (mkx_56 >>> ((0 : Int32) &&& 31))), (.int (nar .boolean (mvF plx_56 ctx_56 0)))])) _
    refine XS.iand X67.here hx rfl (hb hby at_81) rfl ?_
    exact kt)
  obtain ⟨v70, hv70⟩ : ∃ z : Int32, z = (if ((mkx_56 >>> ((0 : Int32) &&& 31)) &&& (1 : Int32)) = (0 : Int32) then (0 : Int32) else (1 : Int32)) := ⟨_, rfl⟩
  have K72 : Gx p e below s₁ f0 T67 (mkF m 90 #[.val (.int p1), .val (.int p2), .val (.int p3), .val (.int p4), .val (.int p5), .val (.int (2 : Int32)), .val (.ref b3), .val (.int mkx_56), .unset] [(.int v70), (.int (nar .boolean (mvF plx_56 ctx_56 0)))]) := fun t kt => K71 t (by
    by_cases hc82_68 : ((mkx_56 >>> ((0 : Int32) &&& 31)) &&& (1 : Int32)) = (0 : Int32)
    · skip
      show Steps p.tables e below (T67.setTop (mkF m 82 #[.val (.int p1), .val (.int p2), .val (.int p3), .val (.int p4), .val (.int p5), .val (.int (2 : Int32)), .val (.ref b3), .val (.int mkx_56), .unset] [(.int ((mkx_56 >>> ((0 : Int32) &&& 31)) &&& (1 : Int32))), (.int (nar .boolean (mvF plx_56 ctx_56 0)))])) _
      refine XS.ifYes X67.here hx rfl (pc0 := 82) (pc' := 89) rfl (hb hby at_82) rfl ((if0 _ _).trans (teq hc82_68).1) (by decide) (by decide) ?_
      show Steps p.tables e below (T67.setTop (mkF m 89 #[.val (.int p1), .val (.int p2), .val (.int p3), .val (.int p4), .val (.int p5), .val (.int (2 : Int32)), .val (.ref b3), .val (.int mkx_56), .unset] [(.int (nar .boolean (mvF plx_56 ctx_56 0)))])) _
      refine XS.iconst X67.here hx rfl (hb hby at_89) ?_
      show Steps p.tables e below (T67.setTop (mkF m 90 #[.val (.int p1), .val (.int p2), .val (.int p3), .val (.int p4), .val (.int p5), .val (.int (2 : Int32)), .val (.ref b3), .val (.int mkx_56), .unset] [(.int (0 : Int32)), (.int (nar .boolean (mvF plx_56 ctx_56 0)))])) _
      exact castTop (by simp only [hv70, if_pos hc82_68]) kt
    · skip
      show Steps p.tables e below (T67.setTop (mkF m 82 #[.val (.int p1), .val (.int p2), .val (.int p3), .val (.int p4), .val (.int p5), .val (.int (2 : Int32)), .val (.ref b3), .val (.int mkx_56), .unset] [(.int ((mkx_56 >>> ((0 : Int32) &&& 31)) &&& (1 : Int32))), (.int (nar .boolean (mvF plx_56 ctx_56 0)))])) _
      refine XS.ifNo X67.here hx rfl (hb hby at_82) rfl ((if0 _ _).trans (feq hc82_68).1) ?_
      show Steps p.tables e below (T67.setTop (mkF m 85 #[.val (.int p1), .val (.int p2), .val (.int p3), .val (.int p4), .val (.int p5), .val (.int (2 : Int32)), .val (.ref b3), .val (.int mkx_56), .unset] [(.int (nar .boolean (mvF plx_56 ctx_56 0)))])) _
      refine XS.iconst X67.here hx rfl (hb hby at_85) ?_
      show Steps p.tables e below (T67.setTop (mkF m 86 #[.val (.int p1), .val (.int p2), .val (.int p3), .val (.int p4), .val (.int p5), .val (.int (2 : Int32)), .val (.ref b3), .val (.int mkx_56), .unset] [(.int (1 : Int32)), (.int (nar .boolean (mvF plx_56 ctx_56 0)))])) _
      refine XS.goto X67.here hx rfl (pc0 := 86) (pc' := 90) rfl (hb hby at_86) (by decide) (by decide) ?_
      show Steps p.tables e below (T67.setTop (mkF m 90 #[.val (.int p1), .val (.int p2), .val (.int p3), .val (.int p4), .val (.int p5), .val (.int (2 : Int32)), .val (.ref b3), .val (.int mkx_56), .unset] [(.int (1 : Int32)), (.int (nar .boolean (mvF plx_56 ctx_56 0)))])) _
      exact castTop (by simp only [hv70, if_neg hc82_68]) kt)
  have K73 : Gx p e below s₁ f0 T67 (mkF m 114 #[.val (.int p1), .val (.int p2), .val (.int p3), .val (.int p4), .val (.int p5), .val (.int (2 : Int32)), .val (.ref b3), .val (.int mkx_56), .val (.int (1 : Int32))] [(.int (1 : Int32)), (.ref b3)]) := fun t kt => K72 t (by
    show Steps p.tables e below (T67.setTop (mkF m 90 #[.val (.int p1), .val (.int p2), .val (.int p3), .val (.int p4), .val (.int p5), .val (.int (2 : Int32)), .val (.ref b3), .val (.int mkx_56), .unset] [(.int v70), (.int (nar .boolean (mvF plx_56 ctx_56 0)))])) _
    refine XS.icmpNo X67.here hx rfl (hb hby at_90) rfl (teq (by rw [hv70]; exact u4.2 0 (by decide))).2 ?_
    show Steps p.tables e below (T67.setTop (mkF m 93 #[.val (.int p1), .val (.int p2), .val (.int p3), .val (.int p4), .val (.int p5), .val (.int (2 : Int32)), .val (.ref b3), .val (.int mkx_56), .unset] [])) _
    refine XS.iconst X67.here hx rfl (hb hby at_93) ?_
    show Steps p.tables e below (T67.setTop (mkF m 94 #[.val (.int p1), .val (.int p2), .val (.int p3), .val (.int p4), .val (.int p5), .val (.int (2 : Int32)), .val (.ref b3), .val (.int mkx_56), .unset] [(.int (1 : Int32))])) _
    refine XS.goto X67.here hx rfl (pc0 := 94) (pc' := 98) rfl (hb hby at_94) (by decide) (by decide) ?_
    show Steps p.tables e below (T67.setTop (mkF m 98 #[.val (.int p1), .val (.int p2), .val (.int p3), .val (.int p4), .val (.int p5), .val (.int (2 : Int32)), .val (.ref b3), .val (.int mkx_56), .unset] [(.int (1 : Int32))])) _
    refine XS.istore X67.here hx rfl (hb hby at_98) rfl (l' := #[.val (.int p1), .val (.int p2), .val (.int p3), .val (.int p4), .val (.int p5), .val (.int (2 : Int32)), .val (.ref b3), .val (.int mkx_56), .val (.int (1 : Int32))]) rfl ?_
    show Steps p.tables e below (T67.setTop (mkF m 100 #[.val (.int p1), .val (.int p2), .val (.int p3), .val (.int p4), .val (.int p5), .val (.int (2 : Int32)), .val (.ref b3), .val (.int mkx_56), .val (.int (1 : Int32))] [])) _
    refine XS.iload X67.here hx rfl (hb hby at_100) rfl ?_
    show Steps p.tables e below (T67.setTop (mkF m 102 #[.val (.int p1), .val (.int p2), .val (.int p3), .val (.int p4), .val (.int p5), .val (.int (2 : Int32)), .val (.ref b3), .val (.int mkx_56), .val (.int (1 : Int32))] [(.int (2 : Int32))])) _
    refine XS.iconst X67.here hx rfl (hb hby at_102) ?_
    show Steps p.tables e below (T67.setTop (mkF m 103 #[.val (.int p1), .val (.int p2), .val (.int p3), .val (.int p4), .val (.int p5), .val (.int (2 : Int32)), .val (.ref b3), .val (.int mkx_56), .val (.int (1 : Int32))] [(.int (1 : Int32)), (.int (2 : Int32))])) _
    refine XS.icmpNo X67.here hx rfl (hb hby at_103) rfl (tlt (by decide)).2.2.2 ?_
    show Steps p.tables e below (T67.setTop (mkF m 106 #[.val (.int p1), .val (.int p2), .val (.int p3), .val (.int p4), .val (.int p5), .val (.int (2 : Int32)), .val (.ref b3), .val (.int mkx_56), .val (.int (1 : Int32))] [])) _
    refine XS.iload X67.here hx rfl (hb hby at_106) rfl ?_
    show Steps p.tables e below (T67.setTop (mkF m 108 #[.val (.int p1), .val (.int p2), .val (.int p3), .val (.int p4), .val (.int p5), .val (.int (2 : Int32)), .val (.ref b3), .val (.int mkx_56), .val (.int (1 : Int32))] [(.int (1 : Int32))])) _
    refine XS.ifNo X67.here hx rfl (hb hby at_108) rfl ((if0 _ _).trans (feq (by decide)).1) ?_
    show Steps p.tables e below (T67.setTop (mkF m 111 #[.val (.int p1), .val (.int p2), .val (.int p3), .val (.int p4), .val (.int p5), .val (.int (2 : Int32)), .val (.ref b3), .val (.int mkx_56), .val (.int (1 : Int32))] [])) _
    refine XS.aload X67.here hx rfl (hb hby at_111) rfl rfl ?_
    show Steps p.tables e below (T67.setTop (mkF m 113 #[.val (.int p1), .val (.int p2), .val (.int p3), .val (.int p4), .val (.int p5), .val (.int (2 : Int32)), .val (.ref b3), .val (.int mkx_56), .val (.int (1 : Int32))] [(.ref b3)])) _
    refine XS.iconst X67.here hx rfl (hb hby at_113) ?_
    exact kt)
  obtain ⟨cq74, kq74, q74a, q74b, q74c⟩ := isOf hZ e67 f57
  obtain ⟨_, _, ⟨T74, L74, k74, n74⟩, -, X74', ⟨Lc74, hQ74, l74, y74, z74⟩, st74⟩ := X67.virtualBack hx (y := (⟨"com/example/tideshift/tideshift/engine/MovingShards", "isMoving", "(I)Z"⟩ : MethodName)) (z := (⟨"com/example/tideshift/tideshift/engine/MovingShards", "isMoving", "(I)Z"⟩ : MethodName)) hown (mvT hZ (hw _ (List.mem_of_getElem? (i := 35) rfl))) (mvT hZ (hw _ (List.mem_of_getElem? (i := 36) rfl))) (notFace_of_selects (args := #[]) (mvT hZ (hw _ (List.mem_of_getElem? (i := 38) rfl)))) (mvT hZ (hw _ (List.mem_of_getElem? (i := 38) rfl))) (mvT hZ (hw _ (List.mem_of_getElem? (i := 37) rfl))) (by decide) (backOf (W := 0) (rmIsm l Z a0 hw [] b3 (1 : Int32) bP_10 kP_10 2 plx_56 ctx_56 1 h56 n0 (Nat.le_trans Z0 kp66.1) f59 f62 f60 (by decide) (by decide) ⟨by decide, u4.1⟩) hZ (hw _ (List.mem_of_getElem? (i := 39) rfl)) (hw _ (List.mem_of_getElem? (i := 2) rfl)) (by decide) (by decide)) q74a q74c (g := (mkF m 114 #[.val (.int p1), .val (.int p2), .val (.int p3), .val (.int p4), .val (.int p5), .val (.int (2 : Int32)), .val (.ref b3), .val (.int mkx_56), .val (.int (1 : Int32))] [(.int (1 : Int32)), (.ref b3)])) rfl (by rw [hml]; rfl) (Steps.refl _) (argsL := [(.int (1 : Int32))]) (rest := []) (lenOf pd__I_Z rfl) rfl (by show 2 * 0 + _ ≤ _; exact Nat.le_of_eq rfl) (hb hby at_114) (fun _ _ => ⟨rfl, e67, (by decide : 3 + 0 ≤ _), (by decide : 7 + 0 ≤ _)⟩)
  dsimp only [Pt.U, Pt.locs, Pt.cells, Pt.slots] at X74' l74 y74 z74 st74 hQ74
  subst l74 y74 z74
  obtain ⟨rfl, N74q, e74⟩ := hQ74
  obtain ⟨lc74, X74, N74⟩ : ∃ lc, Stand p l e room_1 s m #[(.int p1), (.int p2), (.int p3), (.int p4), (.int p5)] below meth c T74 lc 3 7 ∧ Fr n0 lc := ⟨_, X74', Fr.app N67 N74q⟩
  have K75 : Gx p e below s₁ f0 T74 (mkF m 117 #[.val (.int p1), .val (.int p2), .val (.int p3), .val (.int p4), .val (.int p5), .val (.int (2 : Int32)), .val (.ref b3), .val (.int mkx_56), .val (.int (1 : Int32))] [(.int (nar .boolean (mvF plx_56 ctx_56 1)))]) := fun t kt => K73 t (st74.trans kt)
  have K78 : Gx p e below s₁ f0 T74 (mkF m 123 #[.val (.int p1), .val (.int p2), .val (.int p3), .val (.int p4), .val (.int p5), .val (.int (2 : Int32)), .val (.ref b3), .val (.int mkx_56), .val (.int (1 : Int32))] [(.int ((mkx_56 >>> ((1 : Int32) &&& 31)) &&& (1 : Int32))), (.int (nar .boolean (mvF plx_56 ctx_56 1)))]) := fun t kt => K75 t (by
    show Steps p.tables e below (T74.setTop (mkF m 117 #[.val (.int p1), .val (.int p2), .val (.int p3), .val (.int p4), .val (.int p5), .val (.int (2 : Int32)), .val (.ref b3), .val (.int mkx_56), .val (.int (1 : Int32))] [(.int (nar .boolean (mvF plx_56 ctx_56 1)))])) _
    refine XS.iload X74.here hx rfl (hb hby at_117) rfl ?_
    show Steps p.tables e below (T74.setTop (mkF m 119 #[.val (.int p1), .val (.int p2), .val (.int p3), .val (.int p4), .val (.int p5), .val (.int (2 : Int32)), .val (.ref b3), .val (.int mkx_56), .val (.int (1 : Int32))] [(.int mkx_56), (.int (nar .boolean (mvF plx_56 ctx_56 1)))])) _
    refine XS.iconst X74.here hx rfl (hb hby at_119) ?_
    show Steps p.tables e below (T74.setTop (mkF m 120 #[.val (.int p1), .val (.int p2), .val (.int p3), .val (.int p4), .val (.int p5), .val (.int (2 : Int32)), .val (.ref b3), .val (.int mkx_56), .val (.int (1 : Int32))] [(.int (1 : Int32)), (.int mkx_56), (.int (nar .boolean (mvF plx_56 ctx_56 1)))])) _
    refine XS.ishr X74.here hx rfl (hb hby at_120) rfl ?_
    show Steps p.tables e below (T74.setTop (mkF m 121 #[.val (.int p1), .val (.int p2), .val (.int p3), .val (.int p4), .val (.int p5), .val (.int (2 : Int32)), .val (.ref b3), .val (.int mkx_56), .val (.int (1 : Int32))] [(.int (mkx_56 >>> ((1 : Int32) &&& 31))), (.int (nar .boolean (mvF plx_56 ctx_56 1)))])) _
    refine XS.iconst X74.here hx rfl (hb hby at_121) ?_
    show Steps p.tables e below (T74.setTop (mkF m 122 #[.val (.int p1), .val (.int p2), .val (.int p3), .val (.int p4), .val (.int p5), .val (.int (2 : Int32)), .val (.ref b3), .val (.int mkx_56), .val (.int (1 : Int32))] [(.int (1 : Int32)), (.int (mkx_56 >>> ((1 : Int32) &&& 31))), (.int (nar .boolean (mvF plx_56 ctx_56 1)))])) _
    refine XS.iand X74.here hx rfl (hb hby at_122) rfl ?_
    exact kt)
  obtain ⟨v77, hv77⟩ : ∃ z : Int32, z = (if ((mkx_56 >>> ((1 : Int32) &&& 31)) &&& (1 : Int32)) = (0 : Int32) then (0 : Int32) else (1 : Int32)) := ⟨_, rfl⟩
  have K79 : Gx p e below s₁ f0 T74 (mkF m 131 #[.val (.int p1), .val (.int p2), .val (.int p3), .val (.int p4), .val (.int p5), .val (.int (2 : Int32)), .val (.ref b3), .val (.int mkx_56), .val (.int (1 : Int32))] [(.int v77), (.int (nar .boolean (mvF plx_56 ctx_56 1)))]) := fun t kt => K78 t (by
    by_cases hc123_75 : ((mkx_56 >>> ((1 : Int32) &&& 31)) &&& (1 : Int32)) = (0 : Int32)
    · skip
      show Steps p.tables e below (T74.setTop (mkF m 123 #[.val (.int p1), .val (.int p2), .val (.int p3), .val (.int p4), .val (.int p5), .val (.int (2 : Int32)), .val (.ref b3), .val (.int mkx_56), .val (.int (1 : Int32))] [(.int ((mkx_56 >>> ((1 : Int32) &&& 31)) &&& (1 : Int32))), (.int (nar .boolean (mvF plx_56 ctx_56 1)))])) _
      refine XS.ifYes X74.here hx rfl (pc0 := 123) (pc' := 130) rfl (hb hby at_123) rfl ((if0 _ _).trans (teq hc123_75).1) (by decide) (by decide) ?_
      show Steps p.tables e below (T74.setTop (mkF m 130 #[.val (.int p1), .val (.int p2), .val (.int p3), .val (.int p4), .val (.int p5), .val (.int (2 : Int32)), .val (.ref b3), .val (.int mkx_56), .val (.int (1 : Int32))] [(.int (nar .boolean (mvF plx_56 ctx_56 1)))])) _
      refine XS.iconst X74.here hx rfl (hb hby at_130) ?_
      show Steps p.tables e below (T74.setTop (mkF m 131 #[.val (.int p1), .val (.int p2), .val (.int p3), .val (.int p4), .val (.int p5), .val (.int (2 : Int32)), .val (.ref b3), .val (.int mkx_56), .val (.int (1 : Int32))] [(.int (0 : Int32)), (.int (nar .boolean (mvF plx_56 ctx_56 1)))])) _
      exact castTop (by simp only [hv77, if_pos hc123_75]) kt
    · skip
      show Steps p.tables e below (T74.setTop (mkF m 123 #[.val (.int p1), .val (.int p2), .val (.int p3), .val (.int p4), .val (.int p5), .val (.int (2 : Int32)), .val (.ref b3), .val (.int mkx_56), .val (.int (1 : Int32))] [(.int ((mkx_56 >>> ((1 : Int32) &&& 31)) &&& (1 : Int32))), (.int (nar .boolean (mvF plx_56 ctx_56 1)))])) _
      refine XS.ifNo X74.here hx rfl (hb hby at_123) rfl ((if0 _ _).trans (feq hc123_75).1) ?_
      show Steps p.tables e below (T74.setTop (mkF m 126 #[.val (.int p1), .val (.int p2), .val (.int p3), .val (.int p4), .val (.int p5), .val (.int (2 : Int32)), .val (.ref b3), .val (.int mkx_56), .val (.int (1 : Int32))] [(.int (nar .boolean (mvF plx_56 ctx_56 1)))])) _
      refine XS.iconst X74.here hx rfl (hb hby at_126) ?_
      show Steps p.tables e below (T74.setTop (mkF m 127 #[.val (.int p1), .val (.int p2), .val (.int p3), .val (.int p4), .val (.int p5), .val (.int (2 : Int32)), .val (.ref b3), .val (.int mkx_56), .val (.int (1 : Int32))] [(.int (1 : Int32)), (.int (nar .boolean (mvF plx_56 ctx_56 1)))])) _
      refine XS.goto X74.here hx rfl (pc0 := 127) (pc' := 131) rfl (hb hby at_127) (by decide) (by decide) ?_
      show Steps p.tables e below (T74.setTop (mkF m 131 #[.val (.int p1), .val (.int p2), .val (.int p3), .val (.int p4), .val (.int p5), .val (.int (2 : Int32)), .val (.ref b3), .val (.int mkx_56), .val (.int (1 : Int32))] [(.int (1 : Int32)), (.int (nar .boolean (mvF plx_56 ctx_56 1)))])) _
      exact castTop (by simp only [hv77, if_neg hc123_75]) kt)
  have K80 : Gx p e below s₁ f0 T74 (mkF m 225 #[.val (.int p1), .val (.int p2), .val (.int p3), .val (.int p4), .val (.int p5), .val (.int (2 : Int32)), .val (.ref b3), .val (.int mkx_56), .val (.int (1 : Int32))] [(.int (1 : Int32))]) := fun t kt => K79 t (by
    show Steps p.tables e below (T74.setTop (mkF m 131 #[.val (.int p1), .val (.int p2), .val (.int p3), .val (.int p4), .val (.int p5), .val (.int (2 : Int32)), .val (.ref b3), .val (.int mkx_56), .val (.int (1 : Int32))] [(.int v77), (.int (nar .boolean (mvF plx_56 ctx_56 1)))])) _
    refine XS.icmpNo X74.here hx rfl (hb hby at_131) rfl (teq (by rw [hv77]; exact u4.2 1 (by decide))).2 ?_
    show Steps p.tables e below (T74.setTop (mkF m 134 #[.val (.int p1), .val (.int p2), .val (.int p3), .val (.int p4), .val (.int p5), .val (.int (2 : Int32)), .val (.ref b3), .val (.int mkx_56), .val (.int (1 : Int32))] [])) _
    refine XS.iconst X74.here hx rfl (hb hby at_134) ?_
    show Steps p.tables e below (T74.setTop (mkF m 135 #[.val (.int p1), .val (.int p2), .val (.int p3), .val (.int p4), .val (.int p5), .val (.int (2 : Int32)), .val (.ref b3), .val (.int mkx_56), .val (.int (1 : Int32))] [(.int (1 : Int32))])) _
    refine XS.goto X74.here hx rfl (pc0 := 135) (pc' := 139) rfl (hb hby at_135) (by decide) (by decide) ?_
    show Steps p.tables e below (T74.setTop (mkF m 139 #[.val (.int p1), .val (.int p2), .val (.int p3), .val (.int p4), .val (.int p5), .val (.int (2 : Int32)), .val (.ref b3), .val (.int mkx_56), .val (.int (1 : Int32))] [(.int (1 : Int32))])) _
    refine XS.istore X74.here hx rfl (hb hby at_139) rfl (l' := #[.val (.int p1), .val (.int p2), .val (.int p3), .val (.int p4), .val (.int p5), .val (.int (2 : Int32)), .val (.ref b3), .val (.int mkx_56), .val (.int (1 : Int32))]) rfl ?_
    show Steps p.tables e below (T74.setTop (mkF m 141 #[.val (.int p1), .val (.int p2), .val (.int p3), .val (.int p4), .val (.int p5), .val (.int (2 : Int32)), .val (.ref b3), .val (.int mkx_56), .val (.int (1 : Int32))] [])) _
    refine XS.iload X74.here hx rfl (hb hby at_141) rfl ?_
    show Steps p.tables e below (T74.setTop (mkF m 143 #[.val (.int p1), .val (.int p2), .val (.int p3), .val (.int p4), .val (.int p5), .val (.int (2 : Int32)), .val (.ref b3), .val (.int mkx_56), .val (.int (1 : Int32))] [(.int (2 : Int32))])) _
    refine XS.iconst X74.here hx rfl (hb hby at_143) ?_
    show Steps p.tables e below (T74.setTop (mkF m 144 #[.val (.int p1), .val (.int p2), .val (.int p3), .val (.int p4), .val (.int p5), .val (.int (2 : Int32)), .val (.ref b3), .val (.int mkx_56), .val (.int (1 : Int32))] [(.int (2 : Int32)), (.int (2 : Int32))])) _
    refine XS.icmpYes X74.here hx rfl (pc0 := 144) (pc' := 182) rfl (hb hby at_144) rfl (flt (by decide)).2.2.2 (by decide) (by decide) ?_
    show Steps p.tables e below (T74.setTop (mkF m 182 #[.val (.int p1), .val (.int p2), .val (.int p3), .val (.int p4), .val (.int p5), .val (.int (2 : Int32)), .val (.ref b3), .val (.int mkx_56), .val (.int (1 : Int32))] [])) _
    refine XS.iload X74.here hx rfl (hb hby at_182) rfl ?_
    show Steps p.tables e below (T74.setTop (mkF m 184 #[.val (.int p1), .val (.int p2), .val (.int p3), .val (.int p4), .val (.int p5), .val (.int (2 : Int32)), .val (.ref b3), .val (.int mkx_56), .val (.int (1 : Int32))] [(.int (2 : Int32))])) _
    refine XS.iconst X74.here hx rfl (hb hby at_184) ?_
    show Steps p.tables e below (T74.setTop (mkF m 185 #[.val (.int p1), .val (.int p2), .val (.int p3), .val (.int p4), .val (.int p5), .val (.int (2 : Int32)), .val (.ref b3), .val (.int mkx_56), .val (.int (1 : Int32))] [(.int (3 : Int32)), (.int (2 : Int32))])) _
    refine XS.icmpYes X74.here hx rfl (pc0 := 185) (pc' := 223) rfl (hb hby at_185) rfl (flt (by decide)).2.2.2 (by decide) (by decide) ?_
    show Steps p.tables e below (T74.setTop (mkF m 223 #[.val (.int p1), .val (.int p2), .val (.int p3), .val (.int p4), .val (.int p5), .val (.int (2 : Int32)), .val (.ref b3), .val (.int mkx_56), .val (.int (1 : Int32))] [])) _
    refine XS.iload X74.here hx rfl (hb hby at_223) rfl ?_
    exact kt)
  obtain ⟨fs81, hr81, hrun81, hended81, hW81, hsame81⟩ := X74.leave (v := some (.int (1 : Int32))) (fun h => by rw [Bd.returns] at h; cases h)
  refine ⟨_, _, pre0 _ (K80 _ ?_), hrun81, hended81, _, _, rfl, ?_, ⟨_, rfl⟩, hW81, hsame81.mono (by decide) (by decide)⟩
  · exact retN X74 hx (t := .boolean) Bd.returns (by simp) (hb hby at_225) hr81
  · show Q0 Z p1 p2 p3 p4 p5 h0 n0 _ T74.heap _
    rw [e74]
    exact ⟨rfl, N74⟩
theorem ef_0_3 (m : MethodId) (p1 : Int32) (p2 : Int32) (p3 : Int32) (p4 : Int32) (p5 : Int32) : entryFrame m #[(.int p1), (.int p2), (.int p3), (.int p4), (.int p5)] maxLocals = mkF m 0 #[.val (.int p1), .val (.int p2), .val (.int p3), .val (.int p4), .val (.int p5), .unset, .unset, .unset, .unset] [] := by first | (simp [entryFrame, mkF, argsToLocals, Value.category, maxLocals]; done) | rfl
set_option maxRecDepth 65536 in
set_option maxHeartbeats 40000000 in
theorem rm0_3 (l : Launch) (Z : State) (a0 : Array Value) (hw : ∀ d ∈ tables_1, d.before a0 Z = true) (ws : List Jvm.Cond) (p1 : Int32) (p2 : Int32) (p3 : Int32) (p4 : Int32) (p5 : Int32) (h0 : Heap) (n0 : Nat) (Z0 : n0 ≤ h0.size) (ha_ : (p1 &&& (3 : Int32)) = (2 : Int32)) :
    MetFree l x (head1 (Jvm.Cond.code x code maxLocals ret :: ws) room_1) (fun a U => a = #[(.int p1), (.int p2), (.int p3), (.int p4), (.int p5)] ∧ Z.Warmed39 U.vm ∧ U.heap = h0) (fun _ _ _ _ _ => True) (fun _ U o U' => ∃ v L, o = .returned v ∧ Q0 Z p1 p2 p3 p4 p5 h0 n0 v U'.heap L ∧ FrameEnd U o U' L room_1.cells room_1.slots) := by
  refine MetFree.of_bodySF (plainFor_of_name pn_0) hisR ?_
  intro p e s m args below meth c s₁ Bd hml0 hP hK
  obtain ⟨rfl, hZ, hh⟩ := hP
  have hx := Bd.exec
  have hby := Bd.bytes
  have hml : c.maxLocals = 9 := hml0
  have hown : s.vm.findClass "com/example/tideshift/tideshift/engine/MovingShardsIsMovingPinLaw" = some m.cls := findClass_of_methodNamed Bd.named
  have hnm := (name_of_methodNamed Bd.named Bd.method).1
  have X0 : Stand p l e room_1 s m #[(.int p1), (.int p2), (.int p3), (.int p4), (.int p5)] below meth c s₁ [] 0 0 := Stand.of_body Bd
  have hs0 : h0 = s.heap := hh.symm
  have e0 : s₁.heap = h0 := by rw [← hh, Bd.state]; rfl
  have N0 := Fr.nil n0
  obtain ⟨f0, hf0⟩ : ∃ f, f = entryFrame m #[(.int p1), (.int p2), (.int p3), (.int p4), (.int p5)] maxLocals := ⟨_, rfl⟩
  have pre0 : ∀ t, Steps p.tables e below (s₁.setTop f0) t → Steps p.tables e below (s₁.setTop (entryFrame m #[(.int p1), (.int p2), (.int p3), (.int p4), (.int p5)] maxLocals)) t := fun t k => hf0 ▸ k
  have K0 : Gx p e below s₁ f0 s₁ (mkF m 0 #[.val (.int p1), .val (.int p2), .val (.int p3), .val (.int p4), .val (.int p5), .unset, .unset, .unset, .unset] []) := fun t kt => by rw [hf0]; exact castTop (ef_0_3 m p1 p2 p3 p4 p5) kt
  obtain ⟨s1, hs1, hq1⟩ := own_s p2 (n := 3) (by decide)
  obtain ⟨s2, hs2, hq2⟩ := own_s p3 (n := 3) (by decide)
  obtain ⟨s3, hs3, hq3⟩ := own_s p4 (n := 3) (by decide)
  obtain ⟨s4, hs4, hq4⟩ := own_s p5 (n := 3) (by decide)
  have hB := own_all3 s1 hq1 s2 hq2 s3 hq3 s4 hq4
  have K1 : Gx p e below s₁ f0 s₁ (mkF m 4 #[.val (.int p1), .val (.int p2), .val (.int p3), .val (.int p4), .val (.int p5), .unset, .unset, .unset, .unset] [(.int (p1 &&& (3 : Int32))), (.int (1 : Int32))]) := fun t kt => K0 t (by
    show Steps p.tables e below (s₁.setTop (mkF m 0 #[.val (.int p1), .val (.int p2), .val (.int p3), .val (.int p4), .val (.int p5), .unset, .unset, .unset, .unset] [])) _
    refine XS.iconst X0.here hx rfl (hb hby at_0) ?_
    show Steps p.tables e below (s₁.setTop (mkF m 1 #[.val (.int p1), .val (.int p2), .val (.int p3), .val (.int p4), .val (.int p5), .unset, .unset, .unset, .unset] [(.int (1 : Int32))])) _
    refine XS.iloadN X0.here hx rfl (hb hby at_1) rfl ?_
    show Steps p.tables e below (s₁.setTop (mkF m 2 #[.val (.int p1), .val (.int p2), .val (.int p3), .val (.int p4), .val (.int p5), .unset, .unset, .unset, .unset] [(.int p1), (.int (1 : Int32))])) _
    refine XS.iconst X0.here hx rfl (hb hby at_2) ?_
    show Steps p.tables e below (s₁.setTop (mkF m 3 #[.val (.int p1), .val (.int p2), .val (.int p3), .val (.int p4), .val (.int p5), .unset, .unset, .unset, .unset] [(.int (3 : Int32)), (.int p1), (.int (1 : Int32))])) _
    refine XS.iand X0.here hx rfl (hb hby at_3) rfl ?_
    exact kt)
  rw [ha_] at K1
  have K2 : Gx p e below s₁ f0 s₁ (mkF m 7 #[.val (.int p1), .val (.int p2), .val (.int p3), .val (.int p4), .val (.int p5), .val (.int (3 : Int32)), .unset, .unset, .unset] []) := fun t kt => K1 t (by
    show Steps p.tables e below (s₁.setTop (mkF m 4 #[.val (.int p1), .val (.int p2), .val (.int p3), .val (.int p4), .val (.int p5), .unset, .unset, .unset, .unset] [(.int (2 : Int32)), (.int (1 : Int32))])) _
    refine XS.iadd X0.here hx rfl (hb hby at_4) rfl ?_
    show Steps p.tables e below (s₁.setTop (mkF m 5 #[.val (.int p1), .val (.int p2), .val (.int p3), .val (.int p4), .val (.int p5), .unset, .unset, .unset, .unset] [(.int (3 : Int32))])) _
    refine XS.istore X0.here hx rfl (hb hby at_5) rfl (l' := #[.val (.int p1), .val (.int p2), .val (.int p3), .val (.int p4), .val (.int p5), .val (.int (3 : Int32)), .unset, .unset, .unset]) rfl ?_
    exact kt)
  obtain ⟨T3, h3, X3, e3, E3, A3, D3, -, st3⟩ := newO X0 hx hZ hown (hw _ (List.mem_of_getElem? (i := 0) rfl)) (hw _ (List.mem_of_getElem? (i := 1) rfl)) (hw _ (List.mem_of_getElem? (i := 2) rfl)) e0 (g := (mkF m 7 #[.val (.int p1), .val (.int p2), .val (.int p3), .val (.int p4), .val (.int p5), .val (.int (3 : Int32)), .unset, .unset, .unset] [])) rfl (hb hby at_7) (by decide) (by decide)
  obtain ⟨b3, g3⟩ : ∃ z, z = h0.size := ⟨_, rfl⟩
  rw [← g3] at A3 D3 st3
  have f4 : Fld Z h3 b3 "com/example/tideshift/tideshift/engine/MovingShards" "still" "[I" .null := D3 (Or.inr (hw _ (List.mem_of_getElem? (i := 11) rfl))) (ty := (.array .int)) (by decide)
  have f5 : Fld Z h3 b3 "com/example/tideshift/tideshift/engine/MovingShards" "placeOf" "[I" .null := D3 (Or.inr (hw _ (List.mem_of_getElem? (i := 13) rfl))) (ty := (.array .int)) (by decide)
  have f6 : Fld Z h3 b3 "com/example/tideshift/tideshift/engine/MovingShards" "stillCount" "I" (.int (0 : Int32)) := D3 (Or.inl (hw _ (List.mem_of_getElem? (i := 15) rfl))) (ty := .int) (by decide)
  have K7 : Gx p e below s₁ f0 T3 (mkF m 10 #[.val (.int p1), .val (.int p2), .val (.int p3), .val (.int p4), .val (.int p5), .val (.int (3 : Int32)), .unset, .unset, .unset] [(.ref b3)]) := fun t kt => K2 t (st3 t kt)
  have K8 : Gx p e below s₁ f0 T3 (mkF m 13 #[.val (.int p1), .val (.int p2), .val (.int p3), .val (.int p4), .val (.int p5), .val (.int (3 : Int32)), .unset, .unset, .unset] [(.int (3 : Int32)), (.ref b3), (.ref b3)]) := fun t kt => K7 t (by
    show Steps p.tables e below (T3.setTop (mkF m 10 #[.val (.int p1), .val (.int p2), .val (.int p3), .val (.int p4), .val (.int p5), .val (.int (3 : Int32)), .unset, .unset, .unset] [(.ref b3)])) _
    refine XS.dup X3.here hx rfl (hb hby at_10) rfl rfl ?_
    show Steps p.tables e below (T3.setTop (mkF m 11 #[.val (.int p1), .val (.int p2), .val (.int p3), .val (.int p4), .val (.int p5), .val (.int (3 : Int32)), .unset, .unset, .unset] [(.ref b3), (.ref b3)])) _
    refine XS.iload X3.here hx rfl (hb hby at_11) rfl ?_
    exact kt)
  have kp9 : Keep h0 h3 [] := ((Keep.refl h0 []).ext E3)
  obtain ⟨_, _, ⟨T10, L10, k10, n10⟩, -, X10', ⟨Lc10, hQ10, l10, y10, z10⟩, st10⟩ := X3.specialBack hx (y := (⟨"com/example/tideshift/tideshift/engine/MovingShards", "<init>", "(I)V"⟩ : MethodName)) rfl hown (mvT hZ (hw _ (List.mem_of_getElem? (i := 3) rfl))) (mvT hZ (hw _ (List.mem_of_getElem? (i := 4) rfl))) (mvT hZ (hw _ (List.mem_of_getElem? (i := 5) rfl))) (by decide) (backOf (W := 1) (rmIni3 l Z a0 hw [] b3 h3 n0 (Nat.le_trans Z0 kp9.1) A3 (Nat.le_trans Z0 (Nat.le_trans (Keep.refl h0 []).1 (Nat.le_of_eq g3.symm))) f4 f5 f6) hZ (hw _ (List.mem_of_getElem? (i := 5) rfl)) (hw _ (List.mem_of_getElem? (i := 2) rfl)) (by decide) (by decide)) (g := (mkF m 13 #[.val (.int p1), .val (.int p2), .val (.int p3), .val (.int p4), .val (.int p5), .val (.int (3 : Int32)), .unset, .unset, .unset] [(.int (3 : Int32)), (.ref b3), (.ref b3)])) rfl (by rw [hml]; rfl) (Steps.refl _) (a := b3) (argsL := [(.int (3 : Int32))]) (rest := [(.ref b3)]) (lenOf pd__I_V rfl) rfl (by show 2 * 0 + _ ≤ _; exact Nat.le_of_eq rfl) (hb hby at_13) (fun _ _ => ⟨rfl, e3, (by decide : 1 + 2 ≤ _), (by decide : 3 + 6 ≤ _)⟩)
  dsimp only [Pt.U, Pt.locs, Pt.cells, Pt.slots] at X10' l10 y10 z10 st10 hQ10
  subst l10 y10 z10
  obtain ⟨h10, e10⟩ : ∃ z, T10.heap = z := ⟨_, rfl⟩
  rw [e10] at hQ10
  obtain ⟨bS_10, bP_10, kS_10, kP_10, rfl, N10q, Kc10, f11, f12, f13, f14, f15, f16, f17, f18, f19⟩ := hQ10
  obtain ⟨lc10, X10, N10⟩ : ∃ lc, Stand p l e room_1 s m #[(.int p1), (.int p2), (.int p3), (.int p4), (.int p5)] below meth c T10 lc 3 9 ∧ Fr n0 lc := ⟨_, X10', Fr.app N0 N10q⟩
  have K20 : Gx p e below s₁ f0 T10 (mkF m 16 #[.val (.int p1), .val (.int p2), .val (.int p3), .val (.int p4), .val (.int p5), .val (.int (3 : Int32)), .unset, .unset, .unset] [(.ref b3)]) := fun t kt => K8 t (st10.trans kt)
  have K21 : Gx p e below s₁ f0 T10 (mkF m 28 #[.val (.int p1), .val (.int p2), .val (.int p3), .val (.int p4), .val (.int p5), .val (.int (3 : Int32)), .val (.ref b3), .val (.int (0 : Int32)), .unset] [(.int p2), (.int (3 : Int32)), (.int (0 : Int32)), (.ref b3)]) := fun t kt => K20 t (by
    show Steps p.tables e below (T10.setTop (mkF m 16 #[.val (.int p1), .val (.int p2), .val (.int p3), .val (.int p4), .val (.int p5), .val (.int (3 : Int32)), .unset, .unset, .unset] [(.ref b3)])) _
    refine XS.astore X10.here hx rfl (hb hby at_16) rfl rfl (l' := #[.val (.int p1), .val (.int p2), .val (.int p3), .val (.int p4), .val (.int p5), .val (.int (3 : Int32)), .val (.ref b3), .unset, .unset]) rfl ?_
    show Steps p.tables e below (T10.setTop (mkF m 18 #[.val (.int p1), .val (.int p2), .val (.int p3), .val (.int p4), .val (.int p5), .val (.int (3 : Int32)), .val (.ref b3), .unset, .unset] [])) _
    refine XS.iconst X10.here hx rfl (hb hby at_18) ?_
    show Steps p.tables e below (T10.setTop (mkF m 19 #[.val (.int p1), .val (.int p2), .val (.int p3), .val (.int p4), .val (.int p5), .val (.int (3 : Int32)), .val (.ref b3), .unset, .unset] [(.int (0 : Int32))])) _
    refine XS.istore X10.here hx rfl (hb hby at_19) rfl (l' := #[.val (.int p1), .val (.int p2), .val (.int p3), .val (.int p4), .val (.int p5), .val (.int (3 : Int32)), .val (.ref b3), .val (.int (0 : Int32)), .unset]) rfl ?_
    show Steps p.tables e below (T10.setTop (mkF m 21 #[.val (.int p1), .val (.int p2), .val (.int p3), .val (.int p4), .val (.int p5), .val (.int (3 : Int32)), .val (.ref b3), .val (.int (0 : Int32)), .unset] [])) _
    refine XS.aload X10.here hx rfl (hb hby at_21) rfl rfl ?_
    show Steps p.tables e below (T10.setTop (mkF m 23 #[.val (.int p1), .val (.int p2), .val (.int p3), .val (.int p4), .val (.int p5), .val (.int (3 : Int32)), .val (.ref b3), .val (.int (0 : Int32)), .unset] [(.ref b3)])) _
    refine XS.iload X10.here hx rfl (hb hby at_23) rfl ?_
    show Steps p.tables e below (T10.setTop (mkF m 25 #[.val (.int p1), .val (.int p2), .val (.int p3), .val (.int p4), .val (.int p5), .val (.int (3 : Int32)), .val (.ref b3), .val (.int (0 : Int32)), .unset] [(.int (0 : Int32)), (.ref b3)])) _
    refine XS.iload X10.here hx rfl (hb hby at_25) rfl ?_
    show Steps p.tables e below (T10.setTop (mkF m 27 #[.val (.int p1), .val (.int p2), .val (.int p3), .val (.int p4), .val (.int p5), .val (.int (3 : Int32)), .val (.ref b3), .val (.int (0 : Int32)), .unset] [(.int (3 : Int32)), (.int (0 : Int32)), (.ref b3)])) _
    refine XS.iloadN X10.here hx rfl (hb hby at_27) rfl ?_
    exact kt)
  have kp22 : Keep h0 h10 [] := (Keep.trans kp9 Kc10 (allS (Or.inr (Nat.le_trans (Keep.refl h0 []).1 (Nat.le_of_eq g3.symm))) all0))
  obtain ⟨_, _, ⟨T23, L23, k23, n23⟩, -, X23', ⟨Lc23, hQ23, l23, y23, z23⟩, st23⟩ := Jvm.LawKit.callS X10 hx (y := (⟨"com/example/tideshift/tideshift/engine/MovingShardsIsMovingPinLaw", "step", "(Lcom/example/tideshift/tideshift/engine/MovingShards;III)I"⟩ : MethodName)) hown (mvT hZ (hw _ (List.mem_of_getElem? (i := 16) rfl))) (mvT hZ (hw _ (List.mem_of_getElem? (i := 17) rfl))) (mvT hZ (hw _ (List.mem_of_getElem? (i := 18) rfl))) (mvT hZ (hw _ (List.mem_of_getElem? (i := 19) rfl))) (by decide) (backOf (W := 0) (rmStp l Z a0 hw [] b3 (0 : Int32) (3 : Int32) p2 bS_10 bP_10 kS_10 kP_10 3 (List.range 3) (List.range 3) 3 s1 h10 n0 (Nat.le_trans Z0 kp22.1) f11 f12 f13 f18 f19 f14 (Nat.le_trans Z0 (Nat.le_trans (Keep.refl h0 []).1 (Nat.le_of_eq g3.symm))) (Nat.le_trans Z0 (Nat.le_trans kp9.1 f15)) (Nat.le_trans Z0 (Nat.le_trans kp9.1 f16)) (Nat.ne_of_lt (Nat.lt_of_lt_of_le A3.lt f15)) (Nat.ne_of_lt (Nat.lt_of_lt_of_le A3.lt f16)) f17 (by decide) (by decide) hs1 hq1 (by have h := hB; unfold allOk at h; simp only [Bool.and_eq_true] at h; exact h.1.1.1.1.1)) hZ (hw _ (List.mem_of_getElem? (i := 19) rfl)) (hw _ (List.mem_of_getElem? (i := 18) rfl)) (by decide) (by decide)) (g := (mkF m 28 #[.val (.int p1), .val (.int p2), .val (.int p3), .val (.int p4), .val (.int p5), .val (.int (3 : Int32)), .val (.ref b3), .val (.int (0 : Int32)), .unset] [(.int p2), (.int (3 : Int32)), (.int (0 : Int32)), (.ref b3)])) rfl (by rw [hml]; rfl) (argsL := [(.ref b3), (.int (0 : Int32)), (.int (3 : Int32)), (.int p2)]) (rest := []) (lenOf pd__Lcom_example_tideshift_tideshift_engine_MovingShards_III_I rfl) rfl (by show 2 * 0 + _ ≤ _; exact Nat.le_of_eq rfl) (hb hby at_28) (fun _ _ => ⟨rfl, e10, (by decide : 3 + 0 ≤ _), (by decide : 9 + 0 ≤ _)⟩)
  dsimp only [Pt.U, Pt.locs, Pt.cells, Pt.slots] at X23' l23 y23 z23 st23 hQ23
  subst l23 y23 z23
  obtain ⟨h23, e23⟩ : ∃ z, T23.heap = z := ⟨_, rfl⟩
  rw [e23] at hQ23
  obtain ⟨stx_23, plx_23, ctx_23, mkx_23, rfl, N23q, Kc23, f24, f25, f26, f27, f28, f29, f30⟩ := hQ23
  obtain ⟨lc23, X23, N23⟩ : ∃ lc, Stand p l e room_1 s m #[(.int p1), (.int p2), (.int p3), (.int p4), (.int p5)] below meth c T23 lc 3 9 ∧ Fr n0 lc := ⟨_, X23', Fr.app N10 N23q⟩
  have K31 : Gx p e below s₁ f0 T23 (mkF m 31 #[.val (.int p1), .val (.int p2), .val (.int p3), .val (.int p4), .val (.int p5), .val (.int (3 : Int32)), .val (.ref b3), .val (.int (0 : Int32)), .unset] [(.int mkx_23)]) := fun t kt => K21 t (st23 t kt)
  have u1 := own_u1 (n := 3) hB f30
  have K32 : Gx p e below s₁ f0 T23 (mkF m 40 #[.val (.int p1), .val (.int p2), .val (.int p3), .val (.int p4), .val (.int p5), .val (.int (3 : Int32)), .val (.ref b3), .val (.int mkx_23), .unset] [(.int p3), (.int (3 : Int32)), (.int mkx_23), (.ref b3)]) := fun t kt => K31 t (by
    show Steps p.tables e below (T23.setTop (mkF m 31 #[.val (.int p1), .val (.int p2), .val (.int p3), .val (.int p4), .val (.int p5), .val (.int (3 : Int32)), .val (.ref b3), .val (.int (0 : Int32)), .unset] [(.int mkx_23)])) _
    refine XS.istore X23.here hx rfl (hb hby at_31) rfl (l' := #[.val (.int p1), .val (.int p2), .val (.int p3), .val (.int p4), .val (.int p5), .val (.int (3 : Int32)), .val (.ref b3), .val (.int mkx_23), .unset]) rfl ?_
    show Steps p.tables e below (T23.setTop (mkF m 33 #[.val (.int p1), .val (.int p2), .val (.int p3), .val (.int p4), .val (.int p5), .val (.int (3 : Int32)), .val (.ref b3), .val (.int mkx_23), .unset] [])) _
    refine XS.aload X23.here hx rfl (hb hby at_33) rfl rfl ?_
    show Steps p.tables e below (T23.setTop (mkF m 35 #[.val (.int p1), .val (.int p2), .val (.int p3), .val (.int p4), .val (.int p5), .val (.int (3 : Int32)), .val (.ref b3), .val (.int mkx_23), .unset] [(.ref b3)])) _
    refine XS.iload X23.here hx rfl (hb hby at_35) rfl ?_
    show Steps p.tables e below (T23.setTop (mkF m 37 #[.val (.int p1), .val (.int p2), .val (.int p3), .val (.int p4), .val (.int p5), .val (.int (3 : Int32)), .val (.ref b3), .val (.int mkx_23), .unset] [(.int mkx_23), (.ref b3)])) _
    refine XS.iload X23.here hx rfl (hb hby at_37) rfl ?_
    show Steps p.tables e below (T23.setTop (mkF m 39 #[.val (.int p1), .val (.int p2), .val (.int p3), .val (.int p4), .val (.int p5), .val (.int (3 : Int32)), .val (.ref b3), .val (.int mkx_23), .unset] [(.int (3 : Int32)), (.int mkx_23), (.ref b3)])) _
    refine XS.iloadN X23.here hx rfl (hb hby at_39) rfl ?_
    exact kt)
  have kp33 : Keep h0 h23 [] := (Keep.trans kp22 Kc23 (allS (Or.inr (Nat.le_trans (Keep.refl h0 []).1 (Nat.le_of_eq g3.symm))) (allS (Or.inr (Nat.le_trans kp9.1 f15)) (allS (Or.inr (Nat.le_trans kp9.1 f16)) all0))))
  obtain ⟨_, _, ⟨T34, L34, k34, n34⟩, -, X34', ⟨Lc34, hQ34, l34, y34, z34⟩, st34⟩ := Jvm.LawKit.callS X23 hx (y := (⟨"com/example/tideshift/tideshift/engine/MovingShardsIsMovingPinLaw", "step", "(Lcom/example/tideshift/tideshift/engine/MovingShards;III)I"⟩ : MethodName)) hown (mvT hZ (hw _ (List.mem_of_getElem? (i := 16) rfl))) (mvT hZ (hw _ (List.mem_of_getElem? (i := 17) rfl))) (mvT hZ (hw _ (List.mem_of_getElem? (i := 18) rfl))) (mvT hZ (hw _ (List.mem_of_getElem? (i := 19) rfl))) (by decide) (backOf (W := 0) (rmStp l Z a0 hw [] b3 mkx_23 (3 : Int32) p3 bS_10 bP_10 kS_10 kP_10 3 stx_23 plx_23 ctx_23 s2 h23 n0 (Nat.le_trans Z0 kp33.1) f24 f25 f26 f28 f29 f27 (Nat.le_trans Z0 (Nat.le_trans (Keep.refl h0 []).1 (Nat.le_of_eq g3.symm))) (Nat.le_trans Z0 (Nat.le_trans kp9.1 f15)) (Nat.le_trans Z0 (Nat.le_trans kp9.1 f16)) (Nat.ne_of_lt (Nat.lt_of_lt_of_le A3.lt f15)) (Nat.ne_of_lt (Nat.lt_of_lt_of_le A3.lt f16)) f17 (by decide) (by decide) hs2 hq2 u1) hZ (hw _ (List.mem_of_getElem? (i := 19) rfl)) (hw _ (List.mem_of_getElem? (i := 18) rfl)) (by decide) (by decide)) (g := (mkF m 40 #[.val (.int p1), .val (.int p2), .val (.int p3), .val (.int p4), .val (.int p5), .val (.int (3 : Int32)), .val (.ref b3), .val (.int mkx_23), .unset] [(.int p3), (.int (3 : Int32)), (.int mkx_23), (.ref b3)])) rfl (by rw [hml]; rfl) (argsL := [(.ref b3), (.int mkx_23), (.int (3 : Int32)), (.int p3)]) (rest := []) (lenOf pd__Lcom_example_tideshift_tideshift_engine_MovingShards_III_I rfl) rfl (by show 2 * 0 + _ ≤ _; exact Nat.le_of_eq rfl) (hb hby at_40) (fun _ _ => ⟨rfl, e23, (by decide : 3 + 0 ≤ _), (by decide : 9 + 0 ≤ _)⟩)
  dsimp only [Pt.U, Pt.locs, Pt.cells, Pt.slots] at X34' l34 y34 z34 st34 hQ34
  subst l34 y34 z34
  obtain ⟨h34, e34⟩ : ∃ z, T34.heap = z := ⟨_, rfl⟩
  rw [e34] at hQ34
  obtain ⟨stx_34, plx_34, ctx_34, mkx_34, rfl, N34q, Kc34, f35, f36, f37, f38, f39, f40, f41⟩ := hQ34
  obtain ⟨lc34, X34, N34⟩ : ∃ lc, Stand p l e room_1 s m #[(.int p1), (.int p2), (.int p3), (.int p4), (.int p5)] below meth c T34 lc 3 9 ∧ Fr n0 lc := ⟨_, X34', Fr.app N23 N34q⟩
  have K42 : Gx p e below s₁ f0 T34 (mkF m 43 #[.val (.int p1), .val (.int p2), .val (.int p3), .val (.int p4), .val (.int p5), .val (.int (3 : Int32)), .val (.ref b3), .val (.int mkx_23), .unset] [(.int mkx_34)]) := fun t kt => K32 t (st34 t kt)
  have u2 := own_u2 (n := 3) hB f30 f41
  have K43 : Gx p e below s₁ f0 T34 (mkF m 52 #[.val (.int p1), .val (.int p2), .val (.int p3), .val (.int p4), .val (.int p5), .val (.int (3 : Int32)), .val (.ref b3), .val (.int mkx_34), .unset] [(.int p4), (.int (3 : Int32)), (.int mkx_34), (.ref b3)]) := fun t kt => K42 t (by
    show Steps p.tables e below (T34.setTop (mkF m 43 #[.val (.int p1), .val (.int p2), .val (.int p3), .val (.int p4), .val (.int p5), .val (.int (3 : Int32)), .val (.ref b3), .val (.int mkx_23), .unset] [(.int mkx_34)])) _
    refine XS.istore X34.here hx rfl (hb hby at_43) rfl (l' := #[.val (.int p1), .val (.int p2), .val (.int p3), .val (.int p4), .val (.int p5), .val (.int (3 : Int32)), .val (.ref b3), .val (.int mkx_34), .unset]) rfl ?_
    show Steps p.tables e below (T34.setTop (mkF m 45 #[.val (.int p1), .val (.int p2), .val (.int p3), .val (.int p4), .val (.int p5), .val (.int (3 : Int32)), .val (.ref b3), .val (.int mkx_34), .unset] [])) _
    refine XS.aload X34.here hx rfl (hb hby at_45) rfl rfl ?_
    show Steps p.tables e below (T34.setTop (mkF m 47 #[.val (.int p1), .val (.int p2), .val (.int p3), .val (.int p4), .val (.int p5), .val (.int (3 : Int32)), .val (.ref b3), .val (.int mkx_34), .unset] [(.ref b3)])) _
    refine XS.iload X34.here hx rfl (hb hby at_47) rfl ?_
    show Steps p.tables e below (T34.setTop (mkF m 49 #[.val (.int p1), .val (.int p2), .val (.int p3), .val (.int p4), .val (.int p5), .val (.int (3 : Int32)), .val (.ref b3), .val (.int mkx_34), .unset] [(.int mkx_34), (.ref b3)])) _
    refine XS.iload X34.here hx rfl (hb hby at_49) rfl ?_
    show Steps p.tables e below (T34.setTop (mkF m 51 #[.val (.int p1), .val (.int p2), .val (.int p3), .val (.int p4), .val (.int p5), .val (.int (3 : Int32)), .val (.ref b3), .val (.int mkx_34), .unset] [(.int (3 : Int32)), (.int mkx_34), (.ref b3)])) _
    refine XS.iloadN X34.here hx rfl (hb hby at_51) rfl ?_
    exact kt)
  have kp44 : Keep h0 h34 [] := (Keep.trans kp33 Kc34 (allS (Or.inr (Nat.le_trans (Keep.refl h0 []).1 (Nat.le_of_eq g3.symm))) (allS (Or.inr (Nat.le_trans kp9.1 f15)) (allS (Or.inr (Nat.le_trans kp9.1 f16)) all0))))
  obtain ⟨_, _, ⟨T45, L45, k45, n45⟩, -, X45', ⟨Lc45, hQ45, l45, y45, z45⟩, st45⟩ := Jvm.LawKit.callS X34 hx (y := (⟨"com/example/tideshift/tideshift/engine/MovingShardsIsMovingPinLaw", "step", "(Lcom/example/tideshift/tideshift/engine/MovingShards;III)I"⟩ : MethodName)) hown (mvT hZ (hw _ (List.mem_of_getElem? (i := 16) rfl))) (mvT hZ (hw _ (List.mem_of_getElem? (i := 17) rfl))) (mvT hZ (hw _ (List.mem_of_getElem? (i := 18) rfl))) (mvT hZ (hw _ (List.mem_of_getElem? (i := 19) rfl))) (by decide) (backOf (W := 0) (rmStp l Z a0 hw [] b3 mkx_34 (3 : Int32) p4 bS_10 bP_10 kS_10 kP_10 3 stx_34 plx_34 ctx_34 s3 h34 n0 (Nat.le_trans Z0 kp44.1) f35 f36 f37 f39 f40 f38 (Nat.le_trans Z0 (Nat.le_trans (Keep.refl h0 []).1 (Nat.le_of_eq g3.symm))) (Nat.le_trans Z0 (Nat.le_trans kp9.1 f15)) (Nat.le_trans Z0 (Nat.le_trans kp9.1 f16)) (Nat.ne_of_lt (Nat.lt_of_lt_of_le A3.lt f15)) (Nat.ne_of_lt (Nat.lt_of_lt_of_le A3.lt f16)) f17 (by decide) (by decide) hs3 hq3 u2) hZ (hw _ (List.mem_of_getElem? (i := 19) rfl)) (hw _ (List.mem_of_getElem? (i := 18) rfl)) (by decide) (by decide)) (g := (mkF m 52 #[.val (.int p1), .val (.int p2), .val (.int p3), .val (.int p4), .val (.int p5), .val (.int (3 : Int32)), .val (.ref b3), .val (.int mkx_34), .unset] [(.int p4), (.int (3 : Int32)), (.int mkx_34), (.ref b3)])) rfl (by rw [hml]; rfl) (argsL := [(.ref b3), (.int mkx_34), (.int (3 : Int32)), (.int p4)]) (rest := []) (lenOf pd__Lcom_example_tideshift_tideshift_engine_MovingShards_III_I rfl) rfl (by show 2 * 0 + _ ≤ _; exact Nat.le_of_eq rfl) (hb hby at_52) (fun _ _ => ⟨rfl, e34, (by decide : 3 + 0 ≤ _), (by decide : 9 + 0 ≤ _)⟩)
  dsimp only [Pt.U, Pt.locs, Pt.cells, Pt.slots] at X45' l45 y45 z45 st45 hQ45
  subst l45 y45 z45
  obtain ⟨h45, e45⟩ : ∃ z, T45.heap = z := ⟨_, rfl⟩
  rw [e45] at hQ45
  obtain ⟨stx_45, plx_45, ctx_45, mkx_45, rfl, N45q, Kc45, f46, f47, f48, f49, f50, f51, f52⟩ := hQ45
  obtain ⟨lc45, X45, N45⟩ : ∃ lc, Stand p l e room_1 s m #[(.int p1), (.int p2), (.int p3), (.int p4), (.int p5)] below meth c T45 lc 3 9 ∧ Fr n0 lc := ⟨_, X45', Fr.app N34 N45q⟩
  have K53 : Gx p e below s₁ f0 T45 (mkF m 55 #[.val (.int p1), .val (.int p2), .val (.int p3), .val (.int p4), .val (.int p5), .val (.int (3 : Int32)), .val (.ref b3), .val (.int mkx_34), .unset] [(.int mkx_45)]) := fun t kt => K43 t (st45 t kt)
  have u3 := own_u3 (n := 3) hB f30 f41 f52
  have K54 : Gx p e below s₁ f0 T45 (mkF m 65 #[.val (.int p1), .val (.int p2), .val (.int p3), .val (.int p4), .val (.int p5), .val (.int (3 : Int32)), .val (.ref b3), .val (.int mkx_45), .unset] [(.int p5), (.int (3 : Int32)), (.int mkx_45), (.ref b3)]) := fun t kt => K53 t (by
    show Steps p.tables e below (T45.setTop (mkF m 55 #[.val (.int p1), .val (.int p2), .val (.int p3), .val (.int p4), .val (.int p5), .val (.int (3 : Int32)), .val (.ref b3), .val (.int mkx_34), .unset] [(.int mkx_45)])) _
    refine XS.istore X45.here hx rfl (hb hby at_55) rfl (l' := #[.val (.int p1), .val (.int p2), .val (.int p3), .val (.int p4), .val (.int p5), .val (.int (3 : Int32)), .val (.ref b3), .val (.int mkx_45), .unset]) rfl ?_
    show Steps p.tables e below (T45.setTop (mkF m 57 #[.val (.int p1), .val (.int p2), .val (.int p3), .val (.int p4), .val (.int p5), .val (.int (3 : Int32)), .val (.ref b3), .val (.int mkx_45), .unset] [])) _
    refine XS.aload X45.here hx rfl (hb hby at_57) rfl rfl ?_
    show Steps p.tables e below (T45.setTop (mkF m 59 #[.val (.int p1), .val (.int p2), .val (.int p3), .val (.int p4), .val (.int p5), .val (.int (3 : Int32)), .val (.ref b3), .val (.int mkx_45), .unset] [(.ref b3)])) _
    refine XS.iload X45.here hx rfl (hb hby at_59) rfl ?_
    show Steps p.tables e below (T45.setTop (mkF m 61 #[.val (.int p1), .val (.int p2), .val (.int p3), .val (.int p4), .val (.int p5), .val (.int (3 : Int32)), .val (.ref b3), .val (.int mkx_45), .unset] [(.int mkx_45), (.ref b3)])) _
    refine XS.iload X45.here hx rfl (hb hby at_61) rfl ?_
    show Steps p.tables e below (T45.setTop (mkF m 63 #[.val (.int p1), .val (.int p2), .val (.int p3), .val (.int p4), .val (.int p5), .val (.int (3 : Int32)), .val (.ref b3), .val (.int mkx_45), .unset] [(.int (3 : Int32)), (.int mkx_45), (.ref b3)])) _
    refine XS.iload X45.here hx rfl (hb hby at_63) rfl ?_
    exact kt)
  have kp55 : Keep h0 h45 [] := (Keep.trans kp44 Kc45 (allS (Or.inr (Nat.le_trans (Keep.refl h0 []).1 (Nat.le_of_eq g3.symm))) (allS (Or.inr (Nat.le_trans kp9.1 f15)) (allS (Or.inr (Nat.le_trans kp9.1 f16)) all0))))
  obtain ⟨_, _, ⟨T56, L56, k56, n56⟩, -, X56', ⟨Lc56, hQ56, l56, y56, z56⟩, st56⟩ := Jvm.LawKit.callS X45 hx (y := (⟨"com/example/tideshift/tideshift/engine/MovingShardsIsMovingPinLaw", "step", "(Lcom/example/tideshift/tideshift/engine/MovingShards;III)I"⟩ : MethodName)) hown (mvT hZ (hw _ (List.mem_of_getElem? (i := 16) rfl))) (mvT hZ (hw _ (List.mem_of_getElem? (i := 17) rfl))) (mvT hZ (hw _ (List.mem_of_getElem? (i := 18) rfl))) (mvT hZ (hw _ (List.mem_of_getElem? (i := 19) rfl))) (by decide) (backOf (W := 0) (rmStp l Z a0 hw [] b3 mkx_45 (3 : Int32) p5 bS_10 bP_10 kS_10 kP_10 3 stx_45 plx_45 ctx_45 s4 h45 n0 (Nat.le_trans Z0 kp55.1) f46 f47 f48 f50 f51 f49 (Nat.le_trans Z0 (Nat.le_trans (Keep.refl h0 []).1 (Nat.le_of_eq g3.symm))) (Nat.le_trans Z0 (Nat.le_trans kp9.1 f15)) (Nat.le_trans Z0 (Nat.le_trans kp9.1 f16)) (Nat.ne_of_lt (Nat.lt_of_lt_of_le A3.lt f15)) (Nat.ne_of_lt (Nat.lt_of_lt_of_le A3.lt f16)) f17 (by decide) (by decide) hs4 hq4 u3) hZ (hw _ (List.mem_of_getElem? (i := 19) rfl)) (hw _ (List.mem_of_getElem? (i := 18) rfl)) (by decide) (by decide)) (g := (mkF m 65 #[.val (.int p1), .val (.int p2), .val (.int p3), .val (.int p4), .val (.int p5), .val (.int (3 : Int32)), .val (.ref b3), .val (.int mkx_45), .unset] [(.int p5), (.int (3 : Int32)), (.int mkx_45), (.ref b3)])) rfl (by rw [hml]; rfl) (argsL := [(.ref b3), (.int mkx_45), (.int (3 : Int32)), (.int p5)]) (rest := []) (lenOf pd__Lcom_example_tideshift_tideshift_engine_MovingShards_III_I rfl) rfl (by show 2 * 0 + _ ≤ _; exact Nat.le_of_eq rfl) (hb hby at_65) (fun _ _ => ⟨rfl, e45, (by decide : 3 + 0 ≤ _), (by decide : 9 + 0 ≤ _)⟩)
  dsimp only [Pt.U, Pt.locs, Pt.cells, Pt.slots] at X56' l56 y56 z56 st56 hQ56
  subst l56 y56 z56
  obtain ⟨h56, e56⟩ : ∃ z, T56.heap = z := ⟨_, rfl⟩
  rw [e56] at hQ56
  obtain ⟨stx_56, plx_56, ctx_56, mkx_56, rfl, N56q, Kc56, f57, f58, f59, f60, f61, f62, f63⟩ := hQ56
  obtain ⟨lc56, X56, N56⟩ : ∃ lc, Stand p l e room_1 s m #[(.int p1), (.int p2), (.int p3), (.int p4), (.int p5)] below meth c T56 lc 3 9 ∧ Fr n0 lc := ⟨_, X56', Fr.app N45 N56q⟩
  have K64 : Gx p e below s₁ f0 T56 (mkF m 68 #[.val (.int p1), .val (.int p2), .val (.int p3), .val (.int p4), .val (.int p5), .val (.int (3 : Int32)), .val (.ref b3), .val (.int mkx_45), .unset] [(.int mkx_56)]) := fun t kt => K54 t (st56 t kt)
  have u4 := own_u4 (n := 3) hB f30 f41 f52 f63
  have K65 : Gx p e below s₁ f0 T56 (mkF m 73 #[.val (.int p1), .val (.int p2), .val (.int p3), .val (.int p4), .val (.int p5), .val (.int (3 : Int32)), .val (.ref b3), .val (.int mkx_56), .unset] [(.int (0 : Int32)), (.ref b3)]) := fun t kt => K64 t (by
    show Steps p.tables e below (T56.setTop (mkF m 68 #[.val (.int p1), .val (.int p2), .val (.int p3), .val (.int p4), .val (.int p5), .val (.int (3 : Int32)), .val (.ref b3), .val (.int mkx_45), .unset] [(.int mkx_56)])) _
    refine XS.istore X56.here hx rfl (hb hby at_68) rfl (l' := #[.val (.int p1), .val (.int p2), .val (.int p3), .val (.int p4), .val (.int p5), .val (.int (3 : Int32)), .val (.ref b3), .val (.int mkx_56), .unset]) rfl ?_
    show Steps p.tables e below (T56.setTop (mkF m 70 #[.val (.int p1), .val (.int p2), .val (.int p3), .val (.int p4), .val (.int p5), .val (.int (3 : Int32)), .val (.ref b3), .val (.int mkx_56), .unset] [])) _
    refine XS.aload X56.here hx rfl (hb hby at_70) rfl rfl ?_
    show Steps p.tables e below (T56.setTop (mkF m 72 #[.val (.int p1), .val (.int p2), .val (.int p3), .val (.int p4), .val (.int p5), .val (.int (3 : Int32)), .val (.ref b3), .val (.int mkx_56), .unset] [(.ref b3)])) _
    refine XS.iconst X56.here hx rfl (hb hby at_72) ?_
    exact kt)
  have kp66 : Keep h0 h56 [] := (Keep.trans kp55 Kc56 (allS (Or.inr (Nat.le_trans (Keep.refl h0 []).1 (Nat.le_of_eq g3.symm))) (allS (Or.inr (Nat.le_trans kp9.1 f15)) (allS (Or.inr (Nat.le_trans kp9.1 f16)) all0))))
  obtain ⟨cq67, kq67, q67a, q67b, q67c⟩ := isOf hZ e56 f57
  obtain ⟨_, _, ⟨T67, L67, k67, n67⟩, -, X67', ⟨Lc67, hQ67, l67, y67, z67⟩, st67⟩ := X56.virtualBack hx (y := (⟨"com/example/tideshift/tideshift/engine/MovingShards", "isMoving", "(I)Z"⟩ : MethodName)) (z := (⟨"com/example/tideshift/tideshift/engine/MovingShards", "isMoving", "(I)Z"⟩ : MethodName)) hown (mvT hZ (hw _ (List.mem_of_getElem? (i := 35) rfl))) (mvT hZ (hw _ (List.mem_of_getElem? (i := 36) rfl))) (notFace_of_selects (args := #[]) (mvT hZ (hw _ (List.mem_of_getElem? (i := 38) rfl)))) (mvT hZ (hw _ (List.mem_of_getElem? (i := 38) rfl))) (mvT hZ (hw _ (List.mem_of_getElem? (i := 37) rfl))) (by decide) (backOf (W := 0) (rmIsm l Z a0 hw [] b3 (0 : Int32) bP_10 kP_10 3 plx_56 ctx_56 0 h56 n0 (Nat.le_trans Z0 kp66.1) f59 f62 f60 (by decide) (by decide) ⟨by decide, u4.1⟩) hZ (hw _ (List.mem_of_getElem? (i := 39) rfl)) (hw _ (List.mem_of_getElem? (i := 2) rfl)) (by decide) (by decide)) q67a q67c (g := (mkF m 73 #[.val (.int p1), .val (.int p2), .val (.int p3), .val (.int p4), .val (.int p5), .val (.int (3 : Int32)), .val (.ref b3), .val (.int mkx_56), .unset] [(.int (0 : Int32)), (.ref b3)])) rfl (by rw [hml]; rfl) (Steps.refl _) (argsL := [(.int (0 : Int32))]) (rest := []) (lenOf pd__I_Z rfl) rfl (by show 2 * 0 + _ ≤ _; exact Nat.le_of_eq rfl) (hb hby at_73) (fun _ _ => ⟨rfl, e56, (by decide : 3 + 0 ≤ _), (by decide : 9 + 0 ≤ _)⟩)
  dsimp only [Pt.U, Pt.locs, Pt.cells, Pt.slots] at X67' l67 y67 z67 st67 hQ67
  subst l67 y67 z67
  obtain ⟨rfl, N67q, e67⟩ := hQ67
  obtain ⟨lc67, X67, N67⟩ : ∃ lc, Stand p l e room_1 s m #[(.int p1), (.int p2), (.int p3), (.int p4), (.int p5)] below meth c T67 lc 3 9 ∧ Fr n0 lc := ⟨_, X67', Fr.app N56 N67q⟩
  have K68 : Gx p e below s₁ f0 T67 (mkF m 76 #[.val (.int p1), .val (.int p2), .val (.int p3), .val (.int p4), .val (.int p5), .val (.int (3 : Int32)), .val (.ref b3), .val (.int mkx_56), .unset] [(.int (nar .boolean (mvF plx_56 ctx_56 0)))]) := fun t kt => K65 t (st67.trans kt)
  have K71 : Gx p e below s₁ f0 T67 (mkF m 82 #[.val (.int p1), .val (.int p2), .val (.int p3), .val (.int p4), .val (.int p5), .val (.int (3 : Int32)), .val (.ref b3), .val (.int mkx_56), .unset] [(.int ((mkx_56 >>> ((0 : Int32) &&& 31)) &&& (1 : Int32))), (.int (nar .boolean (mvF plx_56 ctx_56 0)))]) := fun t kt => K68 t (by
    show Steps p.tables e below (T67.setTop (mkF m 76 #[.val (.int p1), .val (.int p2), .val (.int p3), .val (.int p4), .val (.int p5), .val (.int (3 : Int32)), .val (.ref b3), .val (.int mkx_56), .unset] [(.int (nar .boolean (mvF plx_56 ctx_56 0)))])) _
    refine XS.iload X67.here hx rfl (hb hby at_76) rfl ?_
    show Steps p.tables e below (T67.setTop (mkF m 78 #[.val (.int p1), .val (.int p2), .val (.int p3), .val (.int p4), .val (.int p5), .val (.int (3 : Int32)), .val (.ref b3), .val (.int mkx_56), .unset] [(.int mkx_56), (.int (nar .boolean (mvF plx_56 ctx_56 0)))])) _
    refine XS.iconst X67.here hx rfl (hb hby at_78) ?_
    show Steps p.tables e below (T67.setTop (mkF m 79 #[.val (.int p1), .val (.int p2), .val (.int p3), .val (.int p4), .val (.int p5), .val (.int (3 : Int32)), .val (.ref b3), .val (.int mkx_56), .unset] [(.int (0 : Int32)), (.int mkx_56), (.int (nar .boolean (mvF plx_56 ctx_56 0)))])) _
    refine XS.ishr X67.here hx rfl (hb hby at_79) rfl ?_
    show Steps p.tables e below (T67.setTop (mkF m 80 #[.val (.int p1), .val (.int p2), .val (.int p3), .val (.int p4), .val (.int p5), .val (.int (3 : Int32)), .val (.ref b3), .val (.int mkx_56), .unset] [(.int (mkx_56 >>> ((0 : Int32) &&& 31))), (.int (nar .boolean (mvF plx_56 ctx_56 0)))])) _
    refine XS.iconst X67.here hx rfl (hb hby at_80) ?_
    show Steps p.tables e below (T67.setTop (mkF m 81 #[.val (.int p1), .val (.int p2), .val (.int p3), .val (.int p4), .val (.int p5), .val (.int (3 : Int32)), .val (.ref b3), .val (.int mkx_56), .unset] [(.int (1 : Int32)), (.int (mkx_56 >>> ((0 : Int32) &&& 31))), (.int (nar .boolean (mvF plx_56 ctx_56 0)))])) _
    refine XS.iand X67.here hx rfl (hb hby at_81) rfl ?_
    exact kt)
  obtain ⟨v70, hv70⟩ : ∃ z : Int32, z = (if ((mkx_56 >>> ((0 : Int32) &&& 31)) &&& (1 : Int32)) = (0 : Int32) then (0 : Int32) else (1 : Int32)) := ⟨_, rfl⟩
  have K72 : Gx p e below s₁ f0 T67 (mkF m 90 #[.val (.int p1), .val (.int p2), .val (.int p3), .val (.int p4), .val (.int p5), .val (.int (3 : Int32)), .val (.ref b3), .val (.int mkx_56), .unset] [(.int v70), (.int (nar .boolean (mvF plx_56 ctx_56 0)))]) := fun t kt => K71 t (by
    by_cases hc82_68 : ((mkx_56 >>> ((0 : Int32) &&& 31)) &&& (1 : Int32)) = (0 : Int32)
    · skip
      show Steps p.tables e below (T67.setTop (mkF m 82 #[.val (.int p1), .val (.int p2), .val (.int p3), .val (.int p4), .val (.int p5), .val (.int (3 : Int32)), .val (.ref b3), .val (.int mkx_56), .unset] [(.int ((mkx_56 >>> ((0 : Int32) &&& 31)) &&& (1 : Int32))), (.int (nar .boolean (mvF plx_56 ctx_56 0)))])) _
      refine XS.ifYes X67.here hx rfl (pc0 := 82) (pc' := 89) rfl (hb hby at_82) rfl ((if0 _ _).trans (teq hc82_68).1) (by decide) (by decide) ?_
      show Steps p.tables e below (T67.setTop (mkF m 89 #[.val (.int p1), .val (.int p2), .val (.int p3), .val (.int p4), .val (.int p5), .val (.int (3 : Int32)), .val (.ref b3), .val (.int mkx_56), .unset] [(.int (nar .boolean (mvF plx_56 ctx_56 0)))])) _
      refine XS.iconst X67.here hx rfl (hb hby at_89) ?_
      show Steps p.tables e below (T67.setTop (mkF m 90 #[.val (.int p1), .val (.int p2), .val (.int p3), .val (.int p4), .val (.int p5), .val (.int (3 : Int32)), .val (.ref b3), .val (.int mkx_56), .unset] [(.int (0 : Int32)), (.int (nar .boolean (mvF plx_56 ctx_56 0)))])) _
      exact castTop (by simp only [hv70, if_pos hc82_68]) kt
    · skip
      show Steps p.tables e below (T67.setTop (mkF m 82 #[.val (.int p1), .val (.int p2), .val (.int p3), .val (.int p4), .val (.int p5), .val (.int (3 : Int32)), .val (.ref b3), .val (.int mkx_56), .unset] [(.int ((mkx_56 >>> ((0 : Int32) &&& 31)) &&& (1 : Int32))), (.int (nar .boolean (mvF plx_56 ctx_56 0)))])) _
      refine XS.ifNo X67.here hx rfl (hb hby at_82) rfl ((if0 _ _).trans (feq hc82_68).1) ?_
      show Steps p.tables e below (T67.setTop (mkF m 85 #[.val (.int p1), .val (.int p2), .val (.int p3), .val (.int p4), .val (.int p5), .val (.int (3 : Int32)), .val (.ref b3), .val (.int mkx_56), .unset] [(.int (nar .boolean (mvF plx_56 ctx_56 0)))])) _
      refine XS.iconst X67.here hx rfl (hb hby at_85) ?_
      show Steps p.tables e below (T67.setTop (mkF m 86 #[.val (.int p1), .val (.int p2), .val (.int p3), .val (.int p4), .val (.int p5), .val (.int (3 : Int32)), .val (.ref b3), .val (.int mkx_56), .unset] [(.int (1 : Int32)), (.int (nar .boolean (mvF plx_56 ctx_56 0)))])) _
      refine XS.goto X67.here hx rfl (pc0 := 86) (pc' := 90) rfl (hb hby at_86) (by decide) (by decide) ?_
      show Steps p.tables e below (T67.setTop (mkF m 90 #[.val (.int p1), .val (.int p2), .val (.int p3), .val (.int p4), .val (.int p5), .val (.int (3 : Int32)), .val (.ref b3), .val (.int mkx_56), .unset] [(.int (1 : Int32)), (.int (nar .boolean (mvF plx_56 ctx_56 0)))])) _
      exact castTop (by simp only [hv70, if_neg hc82_68]) kt)
  have K73 : Gx p e below s₁ f0 T67 (mkF m 114 #[.val (.int p1), .val (.int p2), .val (.int p3), .val (.int p4), .val (.int p5), .val (.int (3 : Int32)), .val (.ref b3), .val (.int mkx_56), .val (.int (1 : Int32))] [(.int (1 : Int32)), (.ref b3)]) := fun t kt => K72 t (by
    show Steps p.tables e below (T67.setTop (mkF m 90 #[.val (.int p1), .val (.int p2), .val (.int p3), .val (.int p4), .val (.int p5), .val (.int (3 : Int32)), .val (.ref b3), .val (.int mkx_56), .unset] [(.int v70), (.int (nar .boolean (mvF plx_56 ctx_56 0)))])) _
    refine XS.icmpNo X67.here hx rfl (hb hby at_90) rfl (teq (by rw [hv70]; exact u4.2 0 (by decide))).2 ?_
    show Steps p.tables e below (T67.setTop (mkF m 93 #[.val (.int p1), .val (.int p2), .val (.int p3), .val (.int p4), .val (.int p5), .val (.int (3 : Int32)), .val (.ref b3), .val (.int mkx_56), .unset] [])) _
    refine XS.iconst X67.here hx rfl (hb hby at_93) ?_
    show Steps p.tables e below (T67.setTop (mkF m 94 #[.val (.int p1), .val (.int p2), .val (.int p3), .val (.int p4), .val (.int p5), .val (.int (3 : Int32)), .val (.ref b3), .val (.int mkx_56), .unset] [(.int (1 : Int32))])) _
    refine XS.goto X67.here hx rfl (pc0 := 94) (pc' := 98) rfl (hb hby at_94) (by decide) (by decide) ?_
    show Steps p.tables e below (T67.setTop (mkF m 98 #[.val (.int p1), .val (.int p2), .val (.int p3), .val (.int p4), .val (.int p5), .val (.int (3 : Int32)), .val (.ref b3), .val (.int mkx_56), .unset] [(.int (1 : Int32))])) _
    refine XS.istore X67.here hx rfl (hb hby at_98) rfl (l' := #[.val (.int p1), .val (.int p2), .val (.int p3), .val (.int p4), .val (.int p5), .val (.int (3 : Int32)), .val (.ref b3), .val (.int mkx_56), .val (.int (1 : Int32))]) rfl ?_
    show Steps p.tables e below (T67.setTop (mkF m 100 #[.val (.int p1), .val (.int p2), .val (.int p3), .val (.int p4), .val (.int p5), .val (.int (3 : Int32)), .val (.ref b3), .val (.int mkx_56), .val (.int (1 : Int32))] [])) _
    refine XS.iload X67.here hx rfl (hb hby at_100) rfl ?_
    show Steps p.tables e below (T67.setTop (mkF m 102 #[.val (.int p1), .val (.int p2), .val (.int p3), .val (.int p4), .val (.int p5), .val (.int (3 : Int32)), .val (.ref b3), .val (.int mkx_56), .val (.int (1 : Int32))] [(.int (3 : Int32))])) _
    refine XS.iconst X67.here hx rfl (hb hby at_102) ?_
    show Steps p.tables e below (T67.setTop (mkF m 103 #[.val (.int p1), .val (.int p2), .val (.int p3), .val (.int p4), .val (.int p5), .val (.int (3 : Int32)), .val (.ref b3), .val (.int mkx_56), .val (.int (1 : Int32))] [(.int (1 : Int32)), (.int (3 : Int32))])) _
    refine XS.icmpNo X67.here hx rfl (hb hby at_103) rfl (tlt (by decide)).2.2.2 ?_
    show Steps p.tables e below (T67.setTop (mkF m 106 #[.val (.int p1), .val (.int p2), .val (.int p3), .val (.int p4), .val (.int p5), .val (.int (3 : Int32)), .val (.ref b3), .val (.int mkx_56), .val (.int (1 : Int32))] [])) _
    refine XS.iload X67.here hx rfl (hb hby at_106) rfl ?_
    show Steps p.tables e below (T67.setTop (mkF m 108 #[.val (.int p1), .val (.int p2), .val (.int p3), .val (.int p4), .val (.int p5), .val (.int (3 : Int32)), .val (.ref b3), .val (.int mkx_56), .val (.int (1 : Int32))] [(.int (1 : Int32))])) _
    refine XS.ifNo X67.here hx rfl (hb hby at_108) rfl ((if0 _ _).trans (feq (by decide)).1) ?_
    show Steps p.tables e below (T67.setTop (mkF m 111 #[.val (.int p1), .val (.int p2), .val (.int p3), .val (.int p4), .val (.int p5), .val (.int (3 : Int32)), .val (.ref b3), .val (.int mkx_56), .val (.int (1 : Int32))] [])) _
    refine XS.aload X67.here hx rfl (hb hby at_111) rfl rfl ?_
    show Steps p.tables e below (T67.setTop (mkF m 113 #[.val (.int p1), .val (.int p2), .val (.int p3), .val (.int p4), .val (.int p5), .val (.int (3 : Int32)), .val (.ref b3), .val (.int mkx_56), .val (.int (1 : Int32))] [(.ref b3)])) _
    refine XS.iconst X67.here hx rfl (hb hby at_113) ?_
    exact kt)
  obtain ⟨cq74, kq74, q74a, q74b, q74c⟩ := isOf hZ e67 f57
  obtain ⟨_, _, ⟨T74, L74, k74, n74⟩, -, X74', ⟨Lc74, hQ74, l74, y74, z74⟩, st74⟩ := X67.virtualBack hx (y := (⟨"com/example/tideshift/tideshift/engine/MovingShards", "isMoving", "(I)Z"⟩ : MethodName)) (z := (⟨"com/example/tideshift/tideshift/engine/MovingShards", "isMoving", "(I)Z"⟩ : MethodName)) hown (mvT hZ (hw _ (List.mem_of_getElem? (i := 35) rfl))) (mvT hZ (hw _ (List.mem_of_getElem? (i := 36) rfl))) (notFace_of_selects (args := #[]) (mvT hZ (hw _ (List.mem_of_getElem? (i := 38) rfl)))) (mvT hZ (hw _ (List.mem_of_getElem? (i := 38) rfl))) (mvT hZ (hw _ (List.mem_of_getElem? (i := 37) rfl))) (by decide) (backOf (W := 0) (rmIsm l Z a0 hw [] b3 (1 : Int32) bP_10 kP_10 3 plx_56 ctx_56 1 h56 n0 (Nat.le_trans Z0 kp66.1) f59 f62 f60 (by decide) (by decide) ⟨by decide, u4.1⟩) hZ (hw _ (List.mem_of_getElem? (i := 39) rfl)) (hw _ (List.mem_of_getElem? (i := 2) rfl)) (by decide) (by decide)) q74a q74c (g := (mkF m 114 #[.val (.int p1), .val (.int p2), .val (.int p3), .val (.int p4), .val (.int p5), .val (.int (3 : Int32)), .val (.ref b3), .val (.int mkx_56), .val (.int (1 : Int32))] [(.int (1 : Int32)), (.ref b3)])) rfl (by rw [hml]; rfl) (Steps.refl _) (argsL := [(.int (1 : Int32))]) (rest := []) (lenOf pd__I_Z rfl) rfl (by show 2 * 0 + _ ≤ _; exact Nat.le_of_eq rfl) (hb hby at_114) (fun _ _ => ⟨rfl, e67, (by decide : 3 + 0 ≤ _), (by decide : 9 + 0 ≤ _)⟩)
  dsimp only [Pt.U, Pt.locs, Pt.cells, Pt.slots] at X74' l74 y74 z74 st74 hQ74
  subst l74 y74 z74
  obtain ⟨rfl, N74q, e74⟩ := hQ74
  obtain ⟨lc74, X74, N74⟩ : ∃ lc, Stand p l e room_1 s m #[(.int p1), (.int p2), (.int p3), (.int p4), (.int p5)] below meth c T74 lc 3 9 ∧ Fr n0 lc := ⟨_, X74', Fr.app N67 N74q⟩
  have K75 : Gx p e below s₁ f0 T74 (mkF m 117 #[.val (.int p1), .val (.int p2), .val (.int p3), .val (.int p4), .val (.int p5), .val (.int (3 : Int32)), .val (.ref b3), .val (.int mkx_56), .val (.int (1 : Int32))] [(.int (nar .boolean (mvF plx_56 ctx_56 1)))]) := fun t kt => K73 t (st74.trans kt)
  have K78 : Gx p e below s₁ f0 T74 (mkF m 123 #[.val (.int p1), .val (.int p2), .val (.int p3), .val (.int p4), .val (.int p5), .val (.int (3 : Int32)), .val (.ref b3), .val (.int mkx_56), .val (.int (1 : Int32))] [(.int ((mkx_56 >>> ((1 : Int32) &&& 31)) &&& (1 : Int32))), (.int (nar .boolean (mvF plx_56 ctx_56 1)))]) := fun t kt => K75 t (by
    show Steps p.tables e below (T74.setTop (mkF m 117 #[.val (.int p1), .val (.int p2), .val (.int p3), .val (.int p4), .val (.int p5), .val (.int (3 : Int32)), .val (.ref b3), .val (.int mkx_56), .val (.int (1 : Int32))] [(.int (nar .boolean (mvF plx_56 ctx_56 1)))])) _
    refine XS.iload X74.here hx rfl (hb hby at_117) rfl ?_
    show Steps p.tables e below (T74.setTop (mkF m 119 #[.val (.int p1), .val (.int p2), .val (.int p3), .val (.int p4), .val (.int p5), .val (.int (3 : Int32)), .val (.ref b3), .val (.int mkx_56), .val (.int (1 : Int32))] [(.int mkx_56), (.int (nar .boolean (mvF plx_56 ctx_56 1)))])) _
    refine XS.iconst X74.here hx rfl (hb hby at_119) ?_
    show Steps p.tables e below (T74.setTop (mkF m 120 #[.val (.int p1), .val (.int p2), .val (.int p3), .val (.int p4), .val (.int p5), .val (.int (3 : Int32)), .val (.ref b3), .val (.int mkx_56), .val (.int (1 : Int32))] [(.int (1 : Int32)), (.int mkx_56), (.int (nar .boolean (mvF plx_56 ctx_56 1)))])) _
    refine XS.ishr X74.here hx rfl (hb hby at_120) rfl ?_
    show Steps p.tables e below (T74.setTop (mkF m 121 #[.val (.int p1), .val (.int p2), .val (.int p3), .val (.int p4), .val (.int p5), .val (.int (3 : Int32)), .val (.ref b3), .val (.int mkx_56), .val (.int (1 : Int32))] [(.int (mkx_56 >>> ((1 : Int32) &&& 31))), (.int (nar .boolean (mvF plx_56 ctx_56 1)))])) _
    refine XS.iconst X74.here hx rfl (hb hby at_121) ?_
    show Steps p.tables e below (T74.setTop (mkF m 122 #[.val (.int p1), .val (.int p2), .val (.int p3), .val (.int p4), .val (.int p5), .val (.int (3 : Int32)), .val (.ref b3), .val (.int mkx_56), .val (.int (1 : Int32))] [(.int (1 : Int32)), (.int (mkx_56 >>> ((1 : Int32) &&& 31))), (.int (nar .boolean (mvF plx_56 ctx_56 1)))])) _
    refine XS.iand X74.here hx rfl (hb hby at_122) rfl ?_
    exact kt)
  obtain ⟨v77, hv77⟩ : ∃ z : Int32, z = (if ((mkx_56 >>> ((1 : Int32) &&& 31)) &&& (1 : Int32)) = (0 : Int32) then (0 : Int32) else (1 : Int32)) := ⟨_, rfl⟩
  have K79 : Gx p e below s₁ f0 T74 (mkF m 131 #[.val (.int p1), .val (.int p2), .val (.int p3), .val (.int p4), .val (.int p5), .val (.int (3 : Int32)), .val (.ref b3), .val (.int mkx_56), .val (.int (1 : Int32))] [(.int v77), (.int (nar .boolean (mvF plx_56 ctx_56 1)))]) := fun t kt => K78 t (by
    by_cases hc123_75 : ((mkx_56 >>> ((1 : Int32) &&& 31)) &&& (1 : Int32)) = (0 : Int32)
    · skip
      show Steps p.tables e below (T74.setTop (mkF m 123 #[.val (.int p1), .val (.int p2), .val (.int p3), .val (.int p4), .val (.int p5), .val (.int (3 : Int32)), .val (.ref b3), .val (.int mkx_56), .val (.int (1 : Int32))] [(.int ((mkx_56 >>> ((1 : Int32) &&& 31)) &&& (1 : Int32))), (.int (nar .boolean (mvF plx_56 ctx_56 1)))])) _
      refine XS.ifYes X74.here hx rfl (pc0 := 123) (pc' := 130) rfl (hb hby at_123) rfl ((if0 _ _).trans (teq hc123_75).1) (by decide) (by decide) ?_
      show Steps p.tables e below (T74.setTop (mkF m 130 #[.val (.int p1), .val (.int p2), .val (.int p3), .val (.int p4), .val (.int p5), .val (.int (3 : Int32)), .val (.ref b3), .val (.int mkx_56), .val (.int (1 : Int32))] [(.int (nar .boolean (mvF plx_56 ctx_56 1)))])) _
      refine XS.iconst X74.here hx rfl (hb hby at_130) ?_
      show Steps p.tables e below (T74.setTop (mkF m 131 #[.val (.int p1), .val (.int p2), .val (.int p3), .val (.int p4), .val (.int p5), .val (.int (3 : Int32)), .val (.ref b3), .val (.int mkx_56), .val (.int (1 : Int32))] [(.int (0 : Int32)), (.int (nar .boolean (mvF plx_56 ctx_56 1)))])) _
      exact castTop (by simp only [hv77, if_pos hc123_75]) kt
    · skip
      show Steps p.tables e below (T74.setTop (mkF m 123 #[.val (.int p1), .val (.int p2), .val (.int p3), .val (.int p4), .val (.int p5), .val (.int (3 : Int32)), .val (.ref b3), .val (.int mkx_56), .val (.int (1 : Int32))] [(.int ((mkx_56 >>> ((1 : Int32) &&& 31)) &&& (1 : Int32))), (.int (nar .boolean (mvF plx_56 ctx_56 1)))])) _
      refine XS.ifNo X74.here hx rfl (hb hby at_123) rfl ((if0 _ _).trans (feq hc123_75).1) ?_
      show Steps p.tables e below (T74.setTop (mkF m 126 #[.val (.int p1), .val (.int p2), .val (.int p3), .val (.int p4), .val (.int p5), .val (.int (3 : Int32)), .val (.ref b3), .val (.int mkx_56), .val (.int (1 : Int32))] [(.int (nar .boolean (mvF plx_56 ctx_56 1)))])) _
      refine XS.iconst X74.here hx rfl (hb hby at_126) ?_
      show Steps p.tables e below (T74.setTop (mkF m 127 #[.val (.int p1), .val (.int p2), .val (.int p3), .val (.int p4), .val (.int p5), .val (.int (3 : Int32)), .val (.ref b3), .val (.int mkx_56), .val (.int (1 : Int32))] [(.int (1 : Int32)), (.int (nar .boolean (mvF plx_56 ctx_56 1)))])) _
      refine XS.goto X74.here hx rfl (pc0 := 127) (pc' := 131) rfl (hb hby at_127) (by decide) (by decide) ?_
      show Steps p.tables e below (T74.setTop (mkF m 131 #[.val (.int p1), .val (.int p2), .val (.int p3), .val (.int p4), .val (.int p5), .val (.int (3 : Int32)), .val (.ref b3), .val (.int mkx_56), .val (.int (1 : Int32))] [(.int (1 : Int32)), (.int (nar .boolean (mvF plx_56 ctx_56 1)))])) _
      exact castTop (by simp only [hv77, if_neg hc123_75]) kt)
  have K80 : Gx p e below s₁ f0 T74 (mkF m 155 #[.val (.int p1), .val (.int p2), .val (.int p3), .val (.int p4), .val (.int p5), .val (.int (3 : Int32)), .val (.ref b3), .val (.int mkx_56), .val (.int (1 : Int32))] [(.int (2 : Int32)), (.ref b3)]) := fun t kt => K79 t (by
    show Steps p.tables e below (T74.setTop (mkF m 131 #[.val (.int p1), .val (.int p2), .val (.int p3), .val (.int p4), .val (.int p5), .val (.int (3 : Int32)), .val (.ref b3), .val (.int mkx_56), .val (.int (1 : Int32))] [(.int v77), (.int (nar .boolean (mvF plx_56 ctx_56 1)))])) _
    refine XS.icmpNo X74.here hx rfl (hb hby at_131) rfl (teq (by rw [hv77]; exact u4.2 1 (by decide))).2 ?_
    show Steps p.tables e below (T74.setTop (mkF m 134 #[.val (.int p1), .val (.int p2), .val (.int p3), .val (.int p4), .val (.int p5), .val (.int (3 : Int32)), .val (.ref b3), .val (.int mkx_56), .val (.int (1 : Int32))] [])) _
    refine XS.iconst X74.here hx rfl (hb hby at_134) ?_
    show Steps p.tables e below (T74.setTop (mkF m 135 #[.val (.int p1), .val (.int p2), .val (.int p3), .val (.int p4), .val (.int p5), .val (.int (3 : Int32)), .val (.ref b3), .val (.int mkx_56), .val (.int (1 : Int32))] [(.int (1 : Int32))])) _
    refine XS.goto X74.here hx rfl (pc0 := 135) (pc' := 139) rfl (hb hby at_135) (by decide) (by decide) ?_
    show Steps p.tables e below (T74.setTop (mkF m 139 #[.val (.int p1), .val (.int p2), .val (.int p3), .val (.int p4), .val (.int p5), .val (.int (3 : Int32)), .val (.ref b3), .val (.int mkx_56), .val (.int (1 : Int32))] [(.int (1 : Int32))])) _
    refine XS.istore X74.here hx rfl (hb hby at_139) rfl (l' := #[.val (.int p1), .val (.int p2), .val (.int p3), .val (.int p4), .val (.int p5), .val (.int (3 : Int32)), .val (.ref b3), .val (.int mkx_56), .val (.int (1 : Int32))]) rfl ?_
    show Steps p.tables e below (T74.setTop (mkF m 141 #[.val (.int p1), .val (.int p2), .val (.int p3), .val (.int p4), .val (.int p5), .val (.int (3 : Int32)), .val (.ref b3), .val (.int mkx_56), .val (.int (1 : Int32))] [])) _
    refine XS.iload X74.here hx rfl (hb hby at_141) rfl ?_
    show Steps p.tables e below (T74.setTop (mkF m 143 #[.val (.int p1), .val (.int p2), .val (.int p3), .val (.int p4), .val (.int p5), .val (.int (3 : Int32)), .val (.ref b3), .val (.int mkx_56), .val (.int (1 : Int32))] [(.int (3 : Int32))])) _
    refine XS.iconst X74.here hx rfl (hb hby at_143) ?_
    show Steps p.tables e below (T74.setTop (mkF m 144 #[.val (.int p1), .val (.int p2), .val (.int p3), .val (.int p4), .val (.int p5), .val (.int (3 : Int32)), .val (.ref b3), .val (.int mkx_56), .val (.int (1 : Int32))] [(.int (2 : Int32)), (.int (3 : Int32))])) _
    refine XS.icmpNo X74.here hx rfl (hb hby at_144) rfl (tlt (by decide)).2.2.2 ?_
    show Steps p.tables e below (T74.setTop (mkF m 147 #[.val (.int p1), .val (.int p2), .val (.int p3), .val (.int p4), .val (.int p5), .val (.int (3 : Int32)), .val (.ref b3), .val (.int mkx_56), .val (.int (1 : Int32))] [])) _
    refine XS.iload X74.here hx rfl (hb hby at_147) rfl ?_
    show Steps p.tables e below (T74.setTop (mkF m 149 #[.val (.int p1), .val (.int p2), .val (.int p3), .val (.int p4), .val (.int p5), .val (.int (3 : Int32)), .val (.ref b3), .val (.int mkx_56), .val (.int (1 : Int32))] [(.int (1 : Int32))])) _
    refine XS.ifNo X74.here hx rfl (hb hby at_149) rfl ((if0 _ _).trans (feq (by decide)).1) ?_
    show Steps p.tables e below (T74.setTop (mkF m 152 #[.val (.int p1), .val (.int p2), .val (.int p3), .val (.int p4), .val (.int p5), .val (.int (3 : Int32)), .val (.ref b3), .val (.int mkx_56), .val (.int (1 : Int32))] [])) _
    refine XS.aload X74.here hx rfl (hb hby at_152) rfl rfl ?_
    show Steps p.tables e below (T74.setTop (mkF m 154 #[.val (.int p1), .val (.int p2), .val (.int p3), .val (.int p4), .val (.int p5), .val (.int (3 : Int32)), .val (.ref b3), .val (.int mkx_56), .val (.int (1 : Int32))] [(.ref b3)])) _
    refine XS.iconst X74.here hx rfl (hb hby at_154) ?_
    exact kt)
  obtain ⟨cq81, kq81, q81a, q81b, q81c⟩ := isOf hZ e74 f57
  obtain ⟨_, _, ⟨T81, L81, k81, n81⟩, -, X81', ⟨Lc81, hQ81, l81, y81, z81⟩, st81⟩ := X74.virtualBack hx (y := (⟨"com/example/tideshift/tideshift/engine/MovingShards", "isMoving", "(I)Z"⟩ : MethodName)) (z := (⟨"com/example/tideshift/tideshift/engine/MovingShards", "isMoving", "(I)Z"⟩ : MethodName)) hown (mvT hZ (hw _ (List.mem_of_getElem? (i := 35) rfl))) (mvT hZ (hw _ (List.mem_of_getElem? (i := 36) rfl))) (notFace_of_selects (args := #[]) (mvT hZ (hw _ (List.mem_of_getElem? (i := 38) rfl)))) (mvT hZ (hw _ (List.mem_of_getElem? (i := 38) rfl))) (mvT hZ (hw _ (List.mem_of_getElem? (i := 37) rfl))) (by decide) (backOf (W := 0) (rmIsm l Z a0 hw [] b3 (2 : Int32) bP_10 kP_10 3 plx_56 ctx_56 2 h56 n0 (Nat.le_trans Z0 kp66.1) f59 f62 f60 (by decide) (by decide) ⟨by decide, u4.1⟩) hZ (hw _ (List.mem_of_getElem? (i := 39) rfl)) (hw _ (List.mem_of_getElem? (i := 2) rfl)) (by decide) (by decide)) q81a q81c (g := (mkF m 155 #[.val (.int p1), .val (.int p2), .val (.int p3), .val (.int p4), .val (.int p5), .val (.int (3 : Int32)), .val (.ref b3), .val (.int mkx_56), .val (.int (1 : Int32))] [(.int (2 : Int32)), (.ref b3)])) rfl (by rw [hml]; rfl) (Steps.refl _) (argsL := [(.int (2 : Int32))]) (rest := []) (lenOf pd__I_Z rfl) rfl (by show 2 * 0 + _ ≤ _; exact Nat.le_of_eq rfl) (hb hby at_155) (fun _ _ => ⟨rfl, e74, (by decide : 3 + 0 ≤ _), (by decide : 9 + 0 ≤ _)⟩)
  dsimp only [Pt.U, Pt.locs, Pt.cells, Pt.slots] at X81' l81 y81 z81 st81 hQ81
  subst l81 y81 z81
  obtain ⟨rfl, N81q, e81⟩ := hQ81
  obtain ⟨lc81, X81, N81⟩ : ∃ lc, Stand p l e room_1 s m #[(.int p1), (.int p2), (.int p3), (.int p4), (.int p5)] below meth c T81 lc 3 9 ∧ Fr n0 lc := ⟨_, X81', Fr.app N74 N81q⟩
  have K82 : Gx p e below s₁ f0 T81 (mkF m 158 #[.val (.int p1), .val (.int p2), .val (.int p3), .val (.int p4), .val (.int p5), .val (.int (3 : Int32)), .val (.ref b3), .val (.int mkx_56), .val (.int (1 : Int32))] [(.int (nar .boolean (mvF plx_56 ctx_56 2)))]) := fun t kt => K80 t (st81.trans kt)
  have K85 : Gx p e below s₁ f0 T81 (mkF m 164 #[.val (.int p1), .val (.int p2), .val (.int p3), .val (.int p4), .val (.int p5), .val (.int (3 : Int32)), .val (.ref b3), .val (.int mkx_56), .val (.int (1 : Int32))] [(.int ((mkx_56 >>> ((2 : Int32) &&& 31)) &&& (1 : Int32))), (.int (nar .boolean (mvF plx_56 ctx_56 2)))]) := fun t kt => K82 t (by
    show Steps p.tables e below (T81.setTop (mkF m 158 #[.val (.int p1), .val (.int p2), .val (.int p3), .val (.int p4), .val (.int p5), .val (.int (3 : Int32)), .val (.ref b3), .val (.int mkx_56), .val (.int (1 : Int32))] [(.int (nar .boolean (mvF plx_56 ctx_56 2)))])) _
    refine XS.iload X81.here hx rfl (hb hby at_158) rfl ?_
    show Steps p.tables e below (T81.setTop (mkF m 160 #[.val (.int p1), .val (.int p2), .val (.int p3), .val (.int p4), .val (.int p5), .val (.int (3 : Int32)), .val (.ref b3), .val (.int mkx_56), .val (.int (1 : Int32))] [(.int mkx_56), (.int (nar .boolean (mvF plx_56 ctx_56 2)))])) _
    refine XS.iconst X81.here hx rfl (hb hby at_160) ?_
    show Steps p.tables e below (T81.setTop (mkF m 161 #[.val (.int p1), .val (.int p2), .val (.int p3), .val (.int p4), .val (.int p5), .val (.int (3 : Int32)), .val (.ref b3), .val (.int mkx_56), .val (.int (1 : Int32))] [(.int (2 : Int32)), (.int mkx_56), (.int (nar .boolean (mvF plx_56 ctx_56 2)))])) _
    refine XS.ishr X81.here hx rfl (hb hby at_161) rfl ?_
    show Steps p.tables e below (T81.setTop (mkF m 162 #[.val (.int p1), .val (.int p2), .val (.int p3), .val (.int p4), .val (.int p5), .val (.int (3 : Int32)), .val (.ref b3), .val (.int mkx_56), .val (.int (1 : Int32))] [(.int (mkx_56 >>> ((2 : Int32) &&& 31))), (.int (nar .boolean (mvF plx_56 ctx_56 2)))])) _
    refine XS.iconst X81.here hx rfl (hb hby at_162) ?_
    show Steps p.tables e below (T81.setTop (mkF m 163 #[.val (.int p1), .val (.int p2), .val (.int p3), .val (.int p4), .val (.int p5), .val (.int (3 : Int32)), .val (.ref b3), .val (.int mkx_56), .val (.int (1 : Int32))] [(.int (1 : Int32)), (.int (mkx_56 >>> ((2 : Int32) &&& 31))), (.int (nar .boolean (mvF plx_56 ctx_56 2)))])) _
    refine XS.iand X81.here hx rfl (hb hby at_163) rfl ?_
    exact kt)
  obtain ⟨v84, hv84⟩ : ∃ z : Int32, z = (if ((mkx_56 >>> ((2 : Int32) &&& 31)) &&& (1 : Int32)) = (0 : Int32) then (0 : Int32) else (1 : Int32)) := ⟨_, rfl⟩
  have K86 : Gx p e below s₁ f0 T81 (mkF m 172 #[.val (.int p1), .val (.int p2), .val (.int p3), .val (.int p4), .val (.int p5), .val (.int (3 : Int32)), .val (.ref b3), .val (.int mkx_56), .val (.int (1 : Int32))] [(.int v84), (.int (nar .boolean (mvF plx_56 ctx_56 2)))]) := fun t kt => K85 t (by
    by_cases hc164_82 : ((mkx_56 >>> ((2 : Int32) &&& 31)) &&& (1 : Int32)) = (0 : Int32)
    · skip
      show Steps p.tables e below (T81.setTop (mkF m 164 #[.val (.int p1), .val (.int p2), .val (.int p3), .val (.int p4), .val (.int p5), .val (.int (3 : Int32)), .val (.ref b3), .val (.int mkx_56), .val (.int (1 : Int32))] [(.int ((mkx_56 >>> ((2 : Int32) &&& 31)) &&& (1 : Int32))), (.int (nar .boolean (mvF plx_56 ctx_56 2)))])) _
      refine XS.ifYes X81.here hx rfl (pc0 := 164) (pc' := 171) rfl (hb hby at_164) rfl ((if0 _ _).trans (teq hc164_82).1) (by decide) (by decide) ?_
      show Steps p.tables e below (T81.setTop (mkF m 171 #[.val (.int p1), .val (.int p2), .val (.int p3), .val (.int p4), .val (.int p5), .val (.int (3 : Int32)), .val (.ref b3), .val (.int mkx_56), .val (.int (1 : Int32))] [(.int (nar .boolean (mvF plx_56 ctx_56 2)))])) _
      refine XS.iconst X81.here hx rfl (hb hby at_171) ?_
      show Steps p.tables e below (T81.setTop (mkF m 172 #[.val (.int p1), .val (.int p2), .val (.int p3), .val (.int p4), .val (.int p5), .val (.int (3 : Int32)), .val (.ref b3), .val (.int mkx_56), .val (.int (1 : Int32))] [(.int (0 : Int32)), (.int (nar .boolean (mvF plx_56 ctx_56 2)))])) _
      exact castTop (by simp only [hv84, if_pos hc164_82]) kt
    · skip
      show Steps p.tables e below (T81.setTop (mkF m 164 #[.val (.int p1), .val (.int p2), .val (.int p3), .val (.int p4), .val (.int p5), .val (.int (3 : Int32)), .val (.ref b3), .val (.int mkx_56), .val (.int (1 : Int32))] [(.int ((mkx_56 >>> ((2 : Int32) &&& 31)) &&& (1 : Int32))), (.int (nar .boolean (mvF plx_56 ctx_56 2)))])) _
      refine XS.ifNo X81.here hx rfl (hb hby at_164) rfl ((if0 _ _).trans (feq hc164_82).1) ?_
      show Steps p.tables e below (T81.setTop (mkF m 167 #[.val (.int p1), .val (.int p2), .val (.int p3), .val (.int p4), .val (.int p5), .val (.int (3 : Int32)), .val (.ref b3), .val (.int mkx_56), .val (.int (1 : Int32))] [(.int (nar .boolean (mvF plx_56 ctx_56 2)))])) _
      refine XS.iconst X81.here hx rfl (hb hby at_167) ?_
      show Steps p.tables e below (T81.setTop (mkF m 168 #[.val (.int p1), .val (.int p2), .val (.int p3), .val (.int p4), .val (.int p5), .val (.int (3 : Int32)), .val (.ref b3), .val (.int mkx_56), .val (.int (1 : Int32))] [(.int (1 : Int32)), (.int (nar .boolean (mvF plx_56 ctx_56 2)))])) _
      refine XS.goto X81.here hx rfl (pc0 := 168) (pc' := 172) rfl (hb hby at_168) (by decide) (by decide) ?_
      show Steps p.tables e below (T81.setTop (mkF m 172 #[.val (.int p1), .val (.int p2), .val (.int p3), .val (.int p4), .val (.int p5), .val (.int (3 : Int32)), .val (.ref b3), .val (.int mkx_56), .val (.int (1 : Int32))] [(.int (1 : Int32)), (.int (nar .boolean (mvF plx_56 ctx_56 2)))])) _
      exact castTop (by simp only [hv84, if_neg hc164_82]) kt)
  have K87 : Gx p e below s₁ f0 T81 (mkF m 225 #[.val (.int p1), .val (.int p2), .val (.int p3), .val (.int p4), .val (.int p5), .val (.int (3 : Int32)), .val (.ref b3), .val (.int mkx_56), .val (.int (1 : Int32))] [(.int (1 : Int32))]) := fun t kt => K86 t (by
    show Steps p.tables e below (T81.setTop (mkF m 172 #[.val (.int p1), .val (.int p2), .val (.int p3), .val (.int p4), .val (.int p5), .val (.int (3 : Int32)), .val (.ref b3), .val (.int mkx_56), .val (.int (1 : Int32))] [(.int v84), (.int (nar .boolean (mvF plx_56 ctx_56 2)))])) _
    refine XS.icmpNo X81.here hx rfl (hb hby at_172) rfl (teq (by rw [hv84]; exact u4.2 2 (by decide))).2 ?_
    show Steps p.tables e below (T81.setTop (mkF m 175 #[.val (.int p1), .val (.int p2), .val (.int p3), .val (.int p4), .val (.int p5), .val (.int (3 : Int32)), .val (.ref b3), .val (.int mkx_56), .val (.int (1 : Int32))] [])) _
    refine XS.iconst X81.here hx rfl (hb hby at_175) ?_
    show Steps p.tables e below (T81.setTop (mkF m 176 #[.val (.int p1), .val (.int p2), .val (.int p3), .val (.int p4), .val (.int p5), .val (.int (3 : Int32)), .val (.ref b3), .val (.int mkx_56), .val (.int (1 : Int32))] [(.int (1 : Int32))])) _
    refine XS.goto X81.here hx rfl (pc0 := 176) (pc' := 180) rfl (hb hby at_176) (by decide) (by decide) ?_
    show Steps p.tables e below (T81.setTop (mkF m 180 #[.val (.int p1), .val (.int p2), .val (.int p3), .val (.int p4), .val (.int p5), .val (.int (3 : Int32)), .val (.ref b3), .val (.int mkx_56), .val (.int (1 : Int32))] [(.int (1 : Int32))])) _
    refine XS.istore X81.here hx rfl (hb hby at_180) rfl (l' := #[.val (.int p1), .val (.int p2), .val (.int p3), .val (.int p4), .val (.int p5), .val (.int (3 : Int32)), .val (.ref b3), .val (.int mkx_56), .val (.int (1 : Int32))]) rfl ?_
    show Steps p.tables e below (T81.setTop (mkF m 182 #[.val (.int p1), .val (.int p2), .val (.int p3), .val (.int p4), .val (.int p5), .val (.int (3 : Int32)), .val (.ref b3), .val (.int mkx_56), .val (.int (1 : Int32))] [])) _
    refine XS.iload X81.here hx rfl (hb hby at_182) rfl ?_
    show Steps p.tables e below (T81.setTop (mkF m 184 #[.val (.int p1), .val (.int p2), .val (.int p3), .val (.int p4), .val (.int p5), .val (.int (3 : Int32)), .val (.ref b3), .val (.int mkx_56), .val (.int (1 : Int32))] [(.int (3 : Int32))])) _
    refine XS.iconst X81.here hx rfl (hb hby at_184) ?_
    show Steps p.tables e below (T81.setTop (mkF m 185 #[.val (.int p1), .val (.int p2), .val (.int p3), .val (.int p4), .val (.int p5), .val (.int (3 : Int32)), .val (.ref b3), .val (.int mkx_56), .val (.int (1 : Int32))] [(.int (3 : Int32)), (.int (3 : Int32))])) _
    refine XS.icmpYes X81.here hx rfl (pc0 := 185) (pc' := 223) rfl (hb hby at_185) rfl (flt (by decide)).2.2.2 (by decide) (by decide) ?_
    show Steps p.tables e below (T81.setTop (mkF m 223 #[.val (.int p1), .val (.int p2), .val (.int p3), .val (.int p4), .val (.int p5), .val (.int (3 : Int32)), .val (.ref b3), .val (.int mkx_56), .val (.int (1 : Int32))] [])) _
    refine XS.iload X81.here hx rfl (hb hby at_223) rfl ?_
    exact kt)
  obtain ⟨fs88, hr88, hrun88, hended88, hW88, hsame88⟩ := X81.leave (v := some (.int (1 : Int32))) (fun h => by rw [Bd.returns] at h; cases h)
  refine ⟨_, _, pre0 _ (K87 _ ?_), hrun88, hended88, _, _, rfl, ?_, ⟨_, rfl⟩, hW88, hsame88.mono (by decide) (by decide)⟩
  · exact retN X81 hx (t := .boolean) Bd.returns (by simp) (hb hby at_225) hr88
  · show Q0 Z p1 p2 p3 p4 p5 h0 n0 _ T81.heap _
    rw [e81]
    exact ⟨rfl, N81⟩
theorem ef_0_4 (m : MethodId) (p1 : Int32) (p2 : Int32) (p3 : Int32) (p4 : Int32) (p5 : Int32) : entryFrame m #[(.int p1), (.int p2), (.int p3), (.int p4), (.int p5)] maxLocals = mkF m 0 #[.val (.int p1), .val (.int p2), .val (.int p3), .val (.int p4), .val (.int p5), .unset, .unset, .unset, .unset] [] := by first | (simp [entryFrame, mkF, argsToLocals, Value.category, maxLocals]; done) | rfl
set_option maxRecDepth 65536 in
set_option maxHeartbeats 40000000 in
theorem rm0_4 (l : Launch) (Z : State) (a0 : Array Value) (hw : ∀ d ∈ tables_1, d.before a0 Z = true) (ws : List Jvm.Cond) (p1 : Int32) (p2 : Int32) (p3 : Int32) (p4 : Int32) (p5 : Int32) (h0 : Heap) (n0 : Nat) (Z0 : n0 ≤ h0.size) (ha_ : (p1 &&& (3 : Int32)) = (3 : Int32)) :
    MetFree l x (head1 (Jvm.Cond.code x code maxLocals ret :: ws) room_1) (fun a U => a = #[(.int p1), (.int p2), (.int p3), (.int p4), (.int p5)] ∧ Z.Warmed39 U.vm ∧ U.heap = h0) (fun _ _ _ _ _ => True) (fun _ U o U' => ∃ v L, o = .returned v ∧ Q0 Z p1 p2 p3 p4 p5 h0 n0 v U'.heap L ∧ FrameEnd U o U' L room_1.cells room_1.slots) := by
  refine MetFree.of_bodySF (plainFor_of_name pn_0) hisR ?_
  intro p e s m args below meth c s₁ Bd hml0 hP hK
  obtain ⟨rfl, hZ, hh⟩ := hP
  have hx := Bd.exec
  have hby := Bd.bytes
  have hml : c.maxLocals = 9 := hml0
  have hown : s.vm.findClass "com/example/tideshift/tideshift/engine/MovingShardsIsMovingPinLaw" = some m.cls := findClass_of_methodNamed Bd.named
  have hnm := (name_of_methodNamed Bd.named Bd.method).1
  have X0 : Stand p l e room_1 s m #[(.int p1), (.int p2), (.int p3), (.int p4), (.int p5)] below meth c s₁ [] 0 0 := Stand.of_body Bd
  have hs0 : h0 = s.heap := hh.symm
  have e0 : s₁.heap = h0 := by rw [← hh, Bd.state]; rfl
  have N0 := Fr.nil n0
  obtain ⟨f0, hf0⟩ : ∃ f, f = entryFrame m #[(.int p1), (.int p2), (.int p3), (.int p4), (.int p5)] maxLocals := ⟨_, rfl⟩
  have pre0 : ∀ t, Steps p.tables e below (s₁.setTop f0) t → Steps p.tables e below (s₁.setTop (entryFrame m #[(.int p1), (.int p2), (.int p3), (.int p4), (.int p5)] maxLocals)) t := fun t k => hf0 ▸ k
  have K0 : Gx p e below s₁ f0 s₁ (mkF m 0 #[.val (.int p1), .val (.int p2), .val (.int p3), .val (.int p4), .val (.int p5), .unset, .unset, .unset, .unset] []) := fun t kt => by rw [hf0]; exact castTop (ef_0_4 m p1 p2 p3 p4 p5) kt
  obtain ⟨s1, hs1, hq1⟩ := own_s p2 (n := 4) (by decide)
  obtain ⟨s2, hs2, hq2⟩ := own_s p3 (n := 4) (by decide)
  obtain ⟨s3, hs3, hq3⟩ := own_s p4 (n := 4) (by decide)
  obtain ⟨s4, hs4, hq4⟩ := own_s p5 (n := 4) (by decide)
  have hB := own_all4 s1 hq1 s2 hq2 s3 hq3 s4 hq4
  have K1 : Gx p e below s₁ f0 s₁ (mkF m 4 #[.val (.int p1), .val (.int p2), .val (.int p3), .val (.int p4), .val (.int p5), .unset, .unset, .unset, .unset] [(.int (p1 &&& (3 : Int32))), (.int (1 : Int32))]) := fun t kt => K0 t (by
    show Steps p.tables e below (s₁.setTop (mkF m 0 #[.val (.int p1), .val (.int p2), .val (.int p3), .val (.int p4), .val (.int p5), .unset, .unset, .unset, .unset] [])) _
    refine XS.iconst X0.here hx rfl (hb hby at_0) ?_
    show Steps p.tables e below (s₁.setTop (mkF m 1 #[.val (.int p1), .val (.int p2), .val (.int p3), .val (.int p4), .val (.int p5), .unset, .unset, .unset, .unset] [(.int (1 : Int32))])) _
    refine XS.iloadN X0.here hx rfl (hb hby at_1) rfl ?_
    show Steps p.tables e below (s₁.setTop (mkF m 2 #[.val (.int p1), .val (.int p2), .val (.int p3), .val (.int p4), .val (.int p5), .unset, .unset, .unset, .unset] [(.int p1), (.int (1 : Int32))])) _
    refine XS.iconst X0.here hx rfl (hb hby at_2) ?_
    show Steps p.tables e below (s₁.setTop (mkF m 3 #[.val (.int p1), .val (.int p2), .val (.int p3), .val (.int p4), .val (.int p5), .unset, .unset, .unset, .unset] [(.int (3 : Int32)), (.int p1), (.int (1 : Int32))])) _
    refine XS.iand X0.here hx rfl (hb hby at_3) rfl ?_
    exact kt)
  rw [ha_] at K1
  have K2 : Gx p e below s₁ f0 s₁ (mkF m 7 #[.val (.int p1), .val (.int p2), .val (.int p3), .val (.int p4), .val (.int p5), .val (.int (4 : Int32)), .unset, .unset, .unset] []) := fun t kt => K1 t (by
    show Steps p.tables e below (s₁.setTop (mkF m 4 #[.val (.int p1), .val (.int p2), .val (.int p3), .val (.int p4), .val (.int p5), .unset, .unset, .unset, .unset] [(.int (3 : Int32)), (.int (1 : Int32))])) _
    refine XS.iadd X0.here hx rfl (hb hby at_4) rfl ?_
    show Steps p.tables e below (s₁.setTop (mkF m 5 #[.val (.int p1), .val (.int p2), .val (.int p3), .val (.int p4), .val (.int p5), .unset, .unset, .unset, .unset] [(.int (4 : Int32))])) _
    refine XS.istore X0.here hx rfl (hb hby at_5) rfl (l' := #[.val (.int p1), .val (.int p2), .val (.int p3), .val (.int p4), .val (.int p5), .val (.int (4 : Int32)), .unset, .unset, .unset]) rfl ?_
    exact kt)
  obtain ⟨T3, h3, X3, e3, E3, A3, D3, -, st3⟩ := newO X0 hx hZ hown (hw _ (List.mem_of_getElem? (i := 0) rfl)) (hw _ (List.mem_of_getElem? (i := 1) rfl)) (hw _ (List.mem_of_getElem? (i := 2) rfl)) e0 (g := (mkF m 7 #[.val (.int p1), .val (.int p2), .val (.int p3), .val (.int p4), .val (.int p5), .val (.int (4 : Int32)), .unset, .unset, .unset] [])) rfl (hb hby at_7) (by decide) (by decide)
  obtain ⟨b3, g3⟩ : ∃ z, z = h0.size := ⟨_, rfl⟩
  rw [← g3] at A3 D3 st3
  have f4 : Fld Z h3 b3 "com/example/tideshift/tideshift/engine/MovingShards" "still" "[I" .null := D3 (Or.inr (hw _ (List.mem_of_getElem? (i := 11) rfl))) (ty := (.array .int)) (by decide)
  have f5 : Fld Z h3 b3 "com/example/tideshift/tideshift/engine/MovingShards" "placeOf" "[I" .null := D3 (Or.inr (hw _ (List.mem_of_getElem? (i := 13) rfl))) (ty := (.array .int)) (by decide)
  have f6 : Fld Z h3 b3 "com/example/tideshift/tideshift/engine/MovingShards" "stillCount" "I" (.int (0 : Int32)) := D3 (Or.inl (hw _ (List.mem_of_getElem? (i := 15) rfl))) (ty := .int) (by decide)
  have K7 : Gx p e below s₁ f0 T3 (mkF m 10 #[.val (.int p1), .val (.int p2), .val (.int p3), .val (.int p4), .val (.int p5), .val (.int (4 : Int32)), .unset, .unset, .unset] [(.ref b3)]) := fun t kt => K2 t (st3 t kt)
  have K8 : Gx p e below s₁ f0 T3 (mkF m 13 #[.val (.int p1), .val (.int p2), .val (.int p3), .val (.int p4), .val (.int p5), .val (.int (4 : Int32)), .unset, .unset, .unset] [(.int (4 : Int32)), (.ref b3), (.ref b3)]) := fun t kt => K7 t (by
    show Steps p.tables e below (T3.setTop (mkF m 10 #[.val (.int p1), .val (.int p2), .val (.int p3), .val (.int p4), .val (.int p5), .val (.int (4 : Int32)), .unset, .unset, .unset] [(.ref b3)])) _
    refine XS.dup X3.here hx rfl (hb hby at_10) rfl rfl ?_
    show Steps p.tables e below (T3.setTop (mkF m 11 #[.val (.int p1), .val (.int p2), .val (.int p3), .val (.int p4), .val (.int p5), .val (.int (4 : Int32)), .unset, .unset, .unset] [(.ref b3), (.ref b3)])) _
    refine XS.iload X3.here hx rfl (hb hby at_11) rfl ?_
    exact kt)
  have kp9 : Keep h0 h3 [] := ((Keep.refl h0 []).ext E3)
  obtain ⟨_, _, ⟨T10, L10, k10, n10⟩, -, X10', ⟨Lc10, hQ10, l10, y10, z10⟩, st10⟩ := X3.specialBack hx (y := (⟨"com/example/tideshift/tideshift/engine/MovingShards", "<init>", "(I)V"⟩ : MethodName)) rfl hown (mvT hZ (hw _ (List.mem_of_getElem? (i := 3) rfl))) (mvT hZ (hw _ (List.mem_of_getElem? (i := 4) rfl))) (mvT hZ (hw _ (List.mem_of_getElem? (i := 5) rfl))) (by decide) (backOf (W := 1) (rmIni4 l Z a0 hw [] b3 h3 n0 (Nat.le_trans Z0 kp9.1) A3 (Nat.le_trans Z0 (Nat.le_trans (Keep.refl h0 []).1 (Nat.le_of_eq g3.symm))) f4 f5 f6) hZ (hw _ (List.mem_of_getElem? (i := 5) rfl)) (hw _ (List.mem_of_getElem? (i := 2) rfl)) (by decide) (by decide)) (g := (mkF m 13 #[.val (.int p1), .val (.int p2), .val (.int p3), .val (.int p4), .val (.int p5), .val (.int (4 : Int32)), .unset, .unset, .unset] [(.int (4 : Int32)), (.ref b3), (.ref b3)])) rfl (by rw [hml]; rfl) (Steps.refl _) (a := b3) (argsL := [(.int (4 : Int32))]) (rest := [(.ref b3)]) (lenOf pd__I_V rfl) rfl (by show 2 * 0 + _ ≤ _; exact Nat.le_of_eq rfl) (hb hby at_13) (fun _ _ => ⟨rfl, e3, (by decide : 1 + 2 ≤ _), (by decide : 3 + 8 ≤ _)⟩)
  dsimp only [Pt.U, Pt.locs, Pt.cells, Pt.slots] at X10' l10 y10 z10 st10 hQ10
  subst l10 y10 z10
  obtain ⟨h10, e10⟩ : ∃ z, T10.heap = z := ⟨_, rfl⟩
  rw [e10] at hQ10
  obtain ⟨bS_10, bP_10, kS_10, kP_10, rfl, N10q, Kc10, f11, f12, f13, f14, f15, f16, f17, f18, f19⟩ := hQ10
  obtain ⟨lc10, X10, N10⟩ : ∃ lc, Stand p l e room_1 s m #[(.int p1), (.int p2), (.int p3), (.int p4), (.int p5)] below meth c T10 lc 3 11 ∧ Fr n0 lc := ⟨_, X10', Fr.app N0 N10q⟩
  have K20 : Gx p e below s₁ f0 T10 (mkF m 16 #[.val (.int p1), .val (.int p2), .val (.int p3), .val (.int p4), .val (.int p5), .val (.int (4 : Int32)), .unset, .unset, .unset] [(.ref b3)]) := fun t kt => K8 t (st10.trans kt)
  have K21 : Gx p e below s₁ f0 T10 (mkF m 28 #[.val (.int p1), .val (.int p2), .val (.int p3), .val (.int p4), .val (.int p5), .val (.int (4 : Int32)), .val (.ref b3), .val (.int (0 : Int32)), .unset] [(.int p2), (.int (4 : Int32)), (.int (0 : Int32)), (.ref b3)]) := fun t kt => K20 t (by
    show Steps p.tables e below (T10.setTop (mkF m 16 #[.val (.int p1), .val (.int p2), .val (.int p3), .val (.int p4), .val (.int p5), .val (.int (4 : Int32)), .unset, .unset, .unset] [(.ref b3)])) _
    refine XS.astore X10.here hx rfl (hb hby at_16) rfl rfl (l' := #[.val (.int p1), .val (.int p2), .val (.int p3), .val (.int p4), .val (.int p5), .val (.int (4 : Int32)), .val (.ref b3), .unset, .unset]) rfl ?_
    show Steps p.tables e below (T10.setTop (mkF m 18 #[.val (.int p1), .val (.int p2), .val (.int p3), .val (.int p4), .val (.int p5), .val (.int (4 : Int32)), .val (.ref b3), .unset, .unset] [])) _
    refine XS.iconst X10.here hx rfl (hb hby at_18) ?_
    show Steps p.tables e below (T10.setTop (mkF m 19 #[.val (.int p1), .val (.int p2), .val (.int p3), .val (.int p4), .val (.int p5), .val (.int (4 : Int32)), .val (.ref b3), .unset, .unset] [(.int (0 : Int32))])) _
    refine XS.istore X10.here hx rfl (hb hby at_19) rfl (l' := #[.val (.int p1), .val (.int p2), .val (.int p3), .val (.int p4), .val (.int p5), .val (.int (4 : Int32)), .val (.ref b3), .val (.int (0 : Int32)), .unset]) rfl ?_
    show Steps p.tables e below (T10.setTop (mkF m 21 #[.val (.int p1), .val (.int p2), .val (.int p3), .val (.int p4), .val (.int p5), .val (.int (4 : Int32)), .val (.ref b3), .val (.int (0 : Int32)), .unset] [])) _
    refine XS.aload X10.here hx rfl (hb hby at_21) rfl rfl ?_
    show Steps p.tables e below (T10.setTop (mkF m 23 #[.val (.int p1), .val (.int p2), .val (.int p3), .val (.int p4), .val (.int p5), .val (.int (4 : Int32)), .val (.ref b3), .val (.int (0 : Int32)), .unset] [(.ref b3)])) _
    refine XS.iload X10.here hx rfl (hb hby at_23) rfl ?_
    show Steps p.tables e below (T10.setTop (mkF m 25 #[.val (.int p1), .val (.int p2), .val (.int p3), .val (.int p4), .val (.int p5), .val (.int (4 : Int32)), .val (.ref b3), .val (.int (0 : Int32)), .unset] [(.int (0 : Int32)), (.ref b3)])) _
    refine XS.iload X10.here hx rfl (hb hby at_25) rfl ?_
    show Steps p.tables e below (T10.setTop (mkF m 27 #[.val (.int p1), .val (.int p2), .val (.int p3), .val (.int p4), .val (.int p5), .val (.int (4 : Int32)), .val (.ref b3), .val (.int (0 : Int32)), .unset] [(.int (4 : Int32)), (.int (0 : Int32)), (.ref b3)])) _
    refine XS.iloadN X10.here hx rfl (hb hby at_27) rfl ?_
    exact kt)
  have kp22 : Keep h0 h10 [] := (Keep.trans kp9 Kc10 (allS (Or.inr (Nat.le_trans (Keep.refl h0 []).1 (Nat.le_of_eq g3.symm))) all0))
  obtain ⟨_, _, ⟨T23, L23, k23, n23⟩, -, X23', ⟨Lc23, hQ23, l23, y23, z23⟩, st23⟩ := Jvm.LawKit.callS X10 hx (y := (⟨"com/example/tideshift/tideshift/engine/MovingShardsIsMovingPinLaw", "step", "(Lcom/example/tideshift/tideshift/engine/MovingShards;III)I"⟩ : MethodName)) hown (mvT hZ (hw _ (List.mem_of_getElem? (i := 16) rfl))) (mvT hZ (hw _ (List.mem_of_getElem? (i := 17) rfl))) (mvT hZ (hw _ (List.mem_of_getElem? (i := 18) rfl))) (mvT hZ (hw _ (List.mem_of_getElem? (i := 19) rfl))) (by decide) (backOf (W := 0) (rmStp l Z a0 hw [] b3 (0 : Int32) (4 : Int32) p2 bS_10 bP_10 kS_10 kP_10 4 (List.range 4) (List.range 4) 4 s1 h10 n0 (Nat.le_trans Z0 kp22.1) f11 f12 f13 f18 f19 f14 (Nat.le_trans Z0 (Nat.le_trans (Keep.refl h0 []).1 (Nat.le_of_eq g3.symm))) (Nat.le_trans Z0 (Nat.le_trans kp9.1 f15)) (Nat.le_trans Z0 (Nat.le_trans kp9.1 f16)) (Nat.ne_of_lt (Nat.lt_of_lt_of_le A3.lt f15)) (Nat.ne_of_lt (Nat.lt_of_lt_of_le A3.lt f16)) f17 (by decide) (by decide) hs1 hq1 (by have h := hB; unfold allOk at h; simp only [Bool.and_eq_true] at h; exact h.1.1.1.1.1)) hZ (hw _ (List.mem_of_getElem? (i := 19) rfl)) (hw _ (List.mem_of_getElem? (i := 18) rfl)) (by decide) (by decide)) (g := (mkF m 28 #[.val (.int p1), .val (.int p2), .val (.int p3), .val (.int p4), .val (.int p5), .val (.int (4 : Int32)), .val (.ref b3), .val (.int (0 : Int32)), .unset] [(.int p2), (.int (4 : Int32)), (.int (0 : Int32)), (.ref b3)])) rfl (by rw [hml]; rfl) (argsL := [(.ref b3), (.int (0 : Int32)), (.int (4 : Int32)), (.int p2)]) (rest := []) (lenOf pd__Lcom_example_tideshift_tideshift_engine_MovingShards_III_I rfl) rfl (by show 2 * 0 + _ ≤ _; exact Nat.le_of_eq rfl) (hb hby at_28) (fun _ _ => ⟨rfl, e10, (by decide : 3 + 0 ≤ _), (by decide : 11 + 0 ≤ _)⟩)
  dsimp only [Pt.U, Pt.locs, Pt.cells, Pt.slots] at X23' l23 y23 z23 st23 hQ23
  subst l23 y23 z23
  obtain ⟨h23, e23⟩ : ∃ z, T23.heap = z := ⟨_, rfl⟩
  rw [e23] at hQ23
  obtain ⟨stx_23, plx_23, ctx_23, mkx_23, rfl, N23q, Kc23, f24, f25, f26, f27, f28, f29, f30⟩ := hQ23
  obtain ⟨lc23, X23, N23⟩ : ∃ lc, Stand p l e room_1 s m #[(.int p1), (.int p2), (.int p3), (.int p4), (.int p5)] below meth c T23 lc 3 11 ∧ Fr n0 lc := ⟨_, X23', Fr.app N10 N23q⟩
  have K31 : Gx p e below s₁ f0 T23 (mkF m 31 #[.val (.int p1), .val (.int p2), .val (.int p3), .val (.int p4), .val (.int p5), .val (.int (4 : Int32)), .val (.ref b3), .val (.int (0 : Int32)), .unset] [(.int mkx_23)]) := fun t kt => K21 t (st23 t kt)
  have u1 := own_u1 (n := 4) hB f30
  have K32 : Gx p e below s₁ f0 T23 (mkF m 40 #[.val (.int p1), .val (.int p2), .val (.int p3), .val (.int p4), .val (.int p5), .val (.int (4 : Int32)), .val (.ref b3), .val (.int mkx_23), .unset] [(.int p3), (.int (4 : Int32)), (.int mkx_23), (.ref b3)]) := fun t kt => K31 t (by
    show Steps p.tables e below (T23.setTop (mkF m 31 #[.val (.int p1), .val (.int p2), .val (.int p3), .val (.int p4), .val (.int p5), .val (.int (4 : Int32)), .val (.ref b3), .val (.int (0 : Int32)), .unset] [(.int mkx_23)])) _
    refine XS.istore X23.here hx rfl (hb hby at_31) rfl (l' := #[.val (.int p1), .val (.int p2), .val (.int p3), .val (.int p4), .val (.int p5), .val (.int (4 : Int32)), .val (.ref b3), .val (.int mkx_23), .unset]) rfl ?_
    show Steps p.tables e below (T23.setTop (mkF m 33 #[.val (.int p1), .val (.int p2), .val (.int p3), .val (.int p4), .val (.int p5), .val (.int (4 : Int32)), .val (.ref b3), .val (.int mkx_23), .unset] [])) _
    refine XS.aload X23.here hx rfl (hb hby at_33) rfl rfl ?_
    show Steps p.tables e below (T23.setTop (mkF m 35 #[.val (.int p1), .val (.int p2), .val (.int p3), .val (.int p4), .val (.int p5), .val (.int (4 : Int32)), .val (.ref b3), .val (.int mkx_23), .unset] [(.ref b3)])) _
    refine XS.iload X23.here hx rfl (hb hby at_35) rfl ?_
    show Steps p.tables e below (T23.setTop (mkF m 37 #[.val (.int p1), .val (.int p2), .val (.int p3), .val (.int p4), .val (.int p5), .val (.int (4 : Int32)), .val (.ref b3), .val (.int mkx_23), .unset] [(.int mkx_23), (.ref b3)])) _
    refine XS.iload X23.here hx rfl (hb hby at_37) rfl ?_
    show Steps p.tables e below (T23.setTop (mkF m 39 #[.val (.int p1), .val (.int p2), .val (.int p3), .val (.int p4), .val (.int p5), .val (.int (4 : Int32)), .val (.ref b3), .val (.int mkx_23), .unset] [(.int (4 : Int32)), (.int mkx_23), (.ref b3)])) _
    refine XS.iloadN X23.here hx rfl (hb hby at_39) rfl ?_
    exact kt)
  have kp33 : Keep h0 h23 [] := (Keep.trans kp22 Kc23 (allS (Or.inr (Nat.le_trans (Keep.refl h0 []).1 (Nat.le_of_eq g3.symm))) (allS (Or.inr (Nat.le_trans kp9.1 f15)) (allS (Or.inr (Nat.le_trans kp9.1 f16)) all0))))
  obtain ⟨_, _, ⟨T34, L34, k34, n34⟩, -, X34', ⟨Lc34, hQ34, l34, y34, z34⟩, st34⟩ := Jvm.LawKit.callS X23 hx (y := (⟨"com/example/tideshift/tideshift/engine/MovingShardsIsMovingPinLaw", "step", "(Lcom/example/tideshift/tideshift/engine/MovingShards;III)I"⟩ : MethodName)) hown (mvT hZ (hw _ (List.mem_of_getElem? (i := 16) rfl))) (mvT hZ (hw _ (List.mem_of_getElem? (i := 17) rfl))) (mvT hZ (hw _ (List.mem_of_getElem? (i := 18) rfl))) (mvT hZ (hw _ (List.mem_of_getElem? (i := 19) rfl))) (by decide) (backOf (W := 0) (rmStp l Z a0 hw [] b3 mkx_23 (4 : Int32) p3 bS_10 bP_10 kS_10 kP_10 4 stx_23 plx_23 ctx_23 s2 h23 n0 (Nat.le_trans Z0 kp33.1) f24 f25 f26 f28 f29 f27 (Nat.le_trans Z0 (Nat.le_trans (Keep.refl h0 []).1 (Nat.le_of_eq g3.symm))) (Nat.le_trans Z0 (Nat.le_trans kp9.1 f15)) (Nat.le_trans Z0 (Nat.le_trans kp9.1 f16)) (Nat.ne_of_lt (Nat.lt_of_lt_of_le A3.lt f15)) (Nat.ne_of_lt (Nat.lt_of_lt_of_le A3.lt f16)) f17 (by decide) (by decide) hs2 hq2 u1) hZ (hw _ (List.mem_of_getElem? (i := 19) rfl)) (hw _ (List.mem_of_getElem? (i := 18) rfl)) (by decide) (by decide)) (g := (mkF m 40 #[.val (.int p1), .val (.int p2), .val (.int p3), .val (.int p4), .val (.int p5), .val (.int (4 : Int32)), .val (.ref b3), .val (.int mkx_23), .unset] [(.int p3), (.int (4 : Int32)), (.int mkx_23), (.ref b3)])) rfl (by rw [hml]; rfl) (argsL := [(.ref b3), (.int mkx_23), (.int (4 : Int32)), (.int p3)]) (rest := []) (lenOf pd__Lcom_example_tideshift_tideshift_engine_MovingShards_III_I rfl) rfl (by show 2 * 0 + _ ≤ _; exact Nat.le_of_eq rfl) (hb hby at_40) (fun _ _ => ⟨rfl, e23, (by decide : 3 + 0 ≤ _), (by decide : 11 + 0 ≤ _)⟩)
  dsimp only [Pt.U, Pt.locs, Pt.cells, Pt.slots] at X34' l34 y34 z34 st34 hQ34
  subst l34 y34 z34
  obtain ⟨h34, e34⟩ : ∃ z, T34.heap = z := ⟨_, rfl⟩
  rw [e34] at hQ34
  obtain ⟨stx_34, plx_34, ctx_34, mkx_34, rfl, N34q, Kc34, f35, f36, f37, f38, f39, f40, f41⟩ := hQ34
  obtain ⟨lc34, X34, N34⟩ : ∃ lc, Stand p l e room_1 s m #[(.int p1), (.int p2), (.int p3), (.int p4), (.int p5)] below meth c T34 lc 3 11 ∧ Fr n0 lc := ⟨_, X34', Fr.app N23 N34q⟩
  have K42 : Gx p e below s₁ f0 T34 (mkF m 43 #[.val (.int p1), .val (.int p2), .val (.int p3), .val (.int p4), .val (.int p5), .val (.int (4 : Int32)), .val (.ref b3), .val (.int mkx_23), .unset] [(.int mkx_34)]) := fun t kt => K32 t (st34 t kt)
  have u2 := own_u2 (n := 4) hB f30 f41
  have K43 : Gx p e below s₁ f0 T34 (mkF m 52 #[.val (.int p1), .val (.int p2), .val (.int p3), .val (.int p4), .val (.int p5), .val (.int (4 : Int32)), .val (.ref b3), .val (.int mkx_34), .unset] [(.int p4), (.int (4 : Int32)), (.int mkx_34), (.ref b3)]) := fun t kt => K42 t (by
    show Steps p.tables e below (T34.setTop (mkF m 43 #[.val (.int p1), .val (.int p2), .val (.int p3), .val (.int p4), .val (.int p5), .val (.int (4 : Int32)), .val (.ref b3), .val (.int mkx_23), .unset] [(.int mkx_34)])) _
    refine XS.istore X34.here hx rfl (hb hby at_43) rfl (l' := #[.val (.int p1), .val (.int p2), .val (.int p3), .val (.int p4), .val (.int p5), .val (.int (4 : Int32)), .val (.ref b3), .val (.int mkx_34), .unset]) rfl ?_
    show Steps p.tables e below (T34.setTop (mkF m 45 #[.val (.int p1), .val (.int p2), .val (.int p3), .val (.int p4), .val (.int p5), .val (.int (4 : Int32)), .val (.ref b3), .val (.int mkx_34), .unset] [])) _
    refine XS.aload X34.here hx rfl (hb hby at_45) rfl rfl ?_
    show Steps p.tables e below (T34.setTop (mkF m 47 #[.val (.int p1), .val (.int p2), .val (.int p3), .val (.int p4), .val (.int p5), .val (.int (4 : Int32)), .val (.ref b3), .val (.int mkx_34), .unset] [(.ref b3)])) _
    refine XS.iload X34.here hx rfl (hb hby at_47) rfl ?_
    show Steps p.tables e below (T34.setTop (mkF m 49 #[.val (.int p1), .val (.int p2), .val (.int p3), .val (.int p4), .val (.int p5), .val (.int (4 : Int32)), .val (.ref b3), .val (.int mkx_34), .unset] [(.int mkx_34), (.ref b3)])) _
    refine XS.iload X34.here hx rfl (hb hby at_49) rfl ?_
    show Steps p.tables e below (T34.setTop (mkF m 51 #[.val (.int p1), .val (.int p2), .val (.int p3), .val (.int p4), .val (.int p5), .val (.int (4 : Int32)), .val (.ref b3), .val (.int mkx_34), .unset] [(.int (4 : Int32)), (.int mkx_34), (.ref b3)])) _
    refine XS.iloadN X34.here hx rfl (hb hby at_51) rfl ?_
    exact kt)
  have kp44 : Keep h0 h34 [] := (Keep.trans kp33 Kc34 (allS (Or.inr (Nat.le_trans (Keep.refl h0 []).1 (Nat.le_of_eq g3.symm))) (allS (Or.inr (Nat.le_trans kp9.1 f15)) (allS (Or.inr (Nat.le_trans kp9.1 f16)) all0))))
  obtain ⟨_, _, ⟨T45, L45, k45, n45⟩, -, X45', ⟨Lc45, hQ45, l45, y45, z45⟩, st45⟩ := Jvm.LawKit.callS X34 hx (y := (⟨"com/example/tideshift/tideshift/engine/MovingShardsIsMovingPinLaw", "step", "(Lcom/example/tideshift/tideshift/engine/MovingShards;III)I"⟩ : MethodName)) hown (mvT hZ (hw _ (List.mem_of_getElem? (i := 16) rfl))) (mvT hZ (hw _ (List.mem_of_getElem? (i := 17) rfl))) (mvT hZ (hw _ (List.mem_of_getElem? (i := 18) rfl))) (mvT hZ (hw _ (List.mem_of_getElem? (i := 19) rfl))) (by decide) (backOf (W := 0) (rmStp l Z a0 hw [] b3 mkx_34 (4 : Int32) p4 bS_10 bP_10 kS_10 kP_10 4 stx_34 plx_34 ctx_34 s3 h34 n0 (Nat.le_trans Z0 kp44.1) f35 f36 f37 f39 f40 f38 (Nat.le_trans Z0 (Nat.le_trans (Keep.refl h0 []).1 (Nat.le_of_eq g3.symm))) (Nat.le_trans Z0 (Nat.le_trans kp9.1 f15)) (Nat.le_trans Z0 (Nat.le_trans kp9.1 f16)) (Nat.ne_of_lt (Nat.lt_of_lt_of_le A3.lt f15)) (Nat.ne_of_lt (Nat.lt_of_lt_of_le A3.lt f16)) f17 (by decide) (by decide) hs3 hq3 u2) hZ (hw _ (List.mem_of_getElem? (i := 19) rfl)) (hw _ (List.mem_of_getElem? (i := 18) rfl)) (by decide) (by decide)) (g := (mkF m 52 #[.val (.int p1), .val (.int p2), .val (.int p3), .val (.int p4), .val (.int p5), .val (.int (4 : Int32)), .val (.ref b3), .val (.int mkx_34), .unset] [(.int p4), (.int (4 : Int32)), (.int mkx_34), (.ref b3)])) rfl (by rw [hml]; rfl) (argsL := [(.ref b3), (.int mkx_34), (.int (4 : Int32)), (.int p4)]) (rest := []) (lenOf pd__Lcom_example_tideshift_tideshift_engine_MovingShards_III_I rfl) rfl (by show 2 * 0 + _ ≤ _; exact Nat.le_of_eq rfl) (hb hby at_52) (fun _ _ => ⟨rfl, e34, (by decide : 3 + 0 ≤ _), (by decide : 11 + 0 ≤ _)⟩)
  dsimp only [Pt.U, Pt.locs, Pt.cells, Pt.slots] at X45' l45 y45 z45 st45 hQ45
  subst l45 y45 z45
  obtain ⟨h45, e45⟩ : ∃ z, T45.heap = z := ⟨_, rfl⟩
  rw [e45] at hQ45
  obtain ⟨stx_45, plx_45, ctx_45, mkx_45, rfl, N45q, Kc45, f46, f47, f48, f49, f50, f51, f52⟩ := hQ45
  obtain ⟨lc45, X45, N45⟩ : ∃ lc, Stand p l e room_1 s m #[(.int p1), (.int p2), (.int p3), (.int p4), (.int p5)] below meth c T45 lc 3 11 ∧ Fr n0 lc := ⟨_, X45', Fr.app N34 N45q⟩
  have K53 : Gx p e below s₁ f0 T45 (mkF m 55 #[.val (.int p1), .val (.int p2), .val (.int p3), .val (.int p4), .val (.int p5), .val (.int (4 : Int32)), .val (.ref b3), .val (.int mkx_34), .unset] [(.int mkx_45)]) := fun t kt => K43 t (st45 t kt)
  have u3 := own_u3 (n := 4) hB f30 f41 f52
  have K54 : Gx p e below s₁ f0 T45 (mkF m 65 #[.val (.int p1), .val (.int p2), .val (.int p3), .val (.int p4), .val (.int p5), .val (.int (4 : Int32)), .val (.ref b3), .val (.int mkx_45), .unset] [(.int p5), (.int (4 : Int32)), (.int mkx_45), (.ref b3)]) := fun t kt => K53 t (by
    show Steps p.tables e below (T45.setTop (mkF m 55 #[.val (.int p1), .val (.int p2), .val (.int p3), .val (.int p4), .val (.int p5), .val (.int (4 : Int32)), .val (.ref b3), .val (.int mkx_34), .unset] [(.int mkx_45)])) _
    refine XS.istore X45.here hx rfl (hb hby at_55) rfl (l' := #[.val (.int p1), .val (.int p2), .val (.int p3), .val (.int p4), .val (.int p5), .val (.int (4 : Int32)), .val (.ref b3), .val (.int mkx_45), .unset]) rfl ?_
    show Steps p.tables e below (T45.setTop (mkF m 57 #[.val (.int p1), .val (.int p2), .val (.int p3), .val (.int p4), .val (.int p5), .val (.int (4 : Int32)), .val (.ref b3), .val (.int mkx_45), .unset] [])) _
    refine XS.aload X45.here hx rfl (hb hby at_57) rfl rfl ?_
    show Steps p.tables e below (T45.setTop (mkF m 59 #[.val (.int p1), .val (.int p2), .val (.int p3), .val (.int p4), .val (.int p5), .val (.int (4 : Int32)), .val (.ref b3), .val (.int mkx_45), .unset] [(.ref b3)])) _
    refine XS.iload X45.here hx rfl (hb hby at_59) rfl ?_
    show Steps p.tables e below (T45.setTop (mkF m 61 #[.val (.int p1), .val (.int p2), .val (.int p3), .val (.int p4), .val (.int p5), .val (.int (4 : Int32)), .val (.ref b3), .val (.int mkx_45), .unset] [(.int mkx_45), (.ref b3)])) _
    refine XS.iload X45.here hx rfl (hb hby at_61) rfl ?_
    show Steps p.tables e below (T45.setTop (mkF m 63 #[.val (.int p1), .val (.int p2), .val (.int p3), .val (.int p4), .val (.int p5), .val (.int (4 : Int32)), .val (.ref b3), .val (.int mkx_45), .unset] [(.int (4 : Int32)), (.int mkx_45), (.ref b3)])) _
    refine XS.iload X45.here hx rfl (hb hby at_63) rfl ?_
    exact kt)
  have kp55 : Keep h0 h45 [] := (Keep.trans kp44 Kc45 (allS (Or.inr (Nat.le_trans (Keep.refl h0 []).1 (Nat.le_of_eq g3.symm))) (allS (Or.inr (Nat.le_trans kp9.1 f15)) (allS (Or.inr (Nat.le_trans kp9.1 f16)) all0))))
  obtain ⟨_, _, ⟨T56, L56, k56, n56⟩, -, X56', ⟨Lc56, hQ56, l56, y56, z56⟩, st56⟩ := Jvm.LawKit.callS X45 hx (y := (⟨"com/example/tideshift/tideshift/engine/MovingShardsIsMovingPinLaw", "step", "(Lcom/example/tideshift/tideshift/engine/MovingShards;III)I"⟩ : MethodName)) hown (mvT hZ (hw _ (List.mem_of_getElem? (i := 16) rfl))) (mvT hZ (hw _ (List.mem_of_getElem? (i := 17) rfl))) (mvT hZ (hw _ (List.mem_of_getElem? (i := 18) rfl))) (mvT hZ (hw _ (List.mem_of_getElem? (i := 19) rfl))) (by decide) (backOf (W := 0) (rmStp l Z a0 hw [] b3 mkx_45 (4 : Int32) p5 bS_10 bP_10 kS_10 kP_10 4 stx_45 plx_45 ctx_45 s4 h45 n0 (Nat.le_trans Z0 kp55.1) f46 f47 f48 f50 f51 f49 (Nat.le_trans Z0 (Nat.le_trans (Keep.refl h0 []).1 (Nat.le_of_eq g3.symm))) (Nat.le_trans Z0 (Nat.le_trans kp9.1 f15)) (Nat.le_trans Z0 (Nat.le_trans kp9.1 f16)) (Nat.ne_of_lt (Nat.lt_of_lt_of_le A3.lt f15)) (Nat.ne_of_lt (Nat.lt_of_lt_of_le A3.lt f16)) f17 (by decide) (by decide) hs4 hq4 u3) hZ (hw _ (List.mem_of_getElem? (i := 19) rfl)) (hw _ (List.mem_of_getElem? (i := 18) rfl)) (by decide) (by decide)) (g := (mkF m 65 #[.val (.int p1), .val (.int p2), .val (.int p3), .val (.int p4), .val (.int p5), .val (.int (4 : Int32)), .val (.ref b3), .val (.int mkx_45), .unset] [(.int p5), (.int (4 : Int32)), (.int mkx_45), (.ref b3)])) rfl (by rw [hml]; rfl) (argsL := [(.ref b3), (.int mkx_45), (.int (4 : Int32)), (.int p5)]) (rest := []) (lenOf pd__Lcom_example_tideshift_tideshift_engine_MovingShards_III_I rfl) rfl (by show 2 * 0 + _ ≤ _; exact Nat.le_of_eq rfl) (hb hby at_65) (fun _ _ => ⟨rfl, e45, (by decide : 3 + 0 ≤ _), (by decide : 11 + 0 ≤ _)⟩)
  dsimp only [Pt.U, Pt.locs, Pt.cells, Pt.slots] at X56' l56 y56 z56 st56 hQ56
  subst l56 y56 z56
  obtain ⟨h56, e56⟩ : ∃ z, T56.heap = z := ⟨_, rfl⟩
  rw [e56] at hQ56
  obtain ⟨stx_56, plx_56, ctx_56, mkx_56, rfl, N56q, Kc56, f57, f58, f59, f60, f61, f62, f63⟩ := hQ56
  obtain ⟨lc56, X56, N56⟩ : ∃ lc, Stand p l e room_1 s m #[(.int p1), (.int p2), (.int p3), (.int p4), (.int p5)] below meth c T56 lc 3 11 ∧ Fr n0 lc := ⟨_, X56', Fr.app N45 N56q⟩
  have K64 : Gx p e below s₁ f0 T56 (mkF m 68 #[.val (.int p1), .val (.int p2), .val (.int p3), .val (.int p4), .val (.int p5), .val (.int (4 : Int32)), .val (.ref b3), .val (.int mkx_45), .unset] [(.int mkx_56)]) := fun t kt => K54 t (st56 t kt)
  have u4 := own_u4 (n := 4) hB f30 f41 f52 f63
  have K65 : Gx p e below s₁ f0 T56 (mkF m 73 #[.val (.int p1), .val (.int p2), .val (.int p3), .val (.int p4), .val (.int p5), .val (.int (4 : Int32)), .val (.ref b3), .val (.int mkx_56), .unset] [(.int (0 : Int32)), (.ref b3)]) := fun t kt => K64 t (by
    show Steps p.tables e below (T56.setTop (mkF m 68 #[.val (.int p1), .val (.int p2), .val (.int p3), .val (.int p4), .val (.int p5), .val (.int (4 : Int32)), .val (.ref b3), .val (.int mkx_45), .unset] [(.int mkx_56)])) _
    refine XS.istore X56.here hx rfl (hb hby at_68) rfl (l' := #[.val (.int p1), .val (.int p2), .val (.int p3), .val (.int p4), .val (.int p5), .val (.int (4 : Int32)), .val (.ref b3), .val (.int mkx_56), .unset]) rfl ?_
    show Steps p.tables e below (T56.setTop (mkF m 70 #[.val (.int p1), .val (.int p2), .val (.int p3), .val (.int p4), .val (.int p5), .val (.int (4 : Int32)), .val (.ref b3), .val (.int mkx_56), .unset] [])) _
    refine XS.aload X56.here hx rfl (hb hby at_70) rfl rfl ?_
    show Steps p.tables e below (T56.setTop (mkF m 72 #[.val (.int p1), .val (.int p2), .val (.int p3), .val (.int p4), .val (.int p5), .val (.int (4 : Int32)), .val (.ref b3), .val (.int mkx_56), .unset] [(.ref b3)])) _
    refine XS.iconst X56.here hx rfl (hb hby at_72) ?_
    exact kt)
  have kp66 : Keep h0 h56 [] := (Keep.trans kp55 Kc56 (allS (Or.inr (Nat.le_trans (Keep.refl h0 []).1 (Nat.le_of_eq g3.symm))) (allS (Or.inr (Nat.le_trans kp9.1 f15)) (allS (Or.inr (Nat.le_trans kp9.1 f16)) all0))))
  obtain ⟨cq67, kq67, q67a, q67b, q67c⟩ := isOf hZ e56 f57
  obtain ⟨_, _, ⟨T67, L67, k67, n67⟩, -, X67', ⟨Lc67, hQ67, l67, y67, z67⟩, st67⟩ := X56.virtualBack hx (y := (⟨"com/example/tideshift/tideshift/engine/MovingShards", "isMoving", "(I)Z"⟩ : MethodName)) (z := (⟨"com/example/tideshift/tideshift/engine/MovingShards", "isMoving", "(I)Z"⟩ : MethodName)) hown (mvT hZ (hw _ (List.mem_of_getElem? (i := 35) rfl))) (mvT hZ (hw _ (List.mem_of_getElem? (i := 36) rfl))) (notFace_of_selects (args := #[]) (mvT hZ (hw _ (List.mem_of_getElem? (i := 38) rfl)))) (mvT hZ (hw _ (List.mem_of_getElem? (i := 38) rfl))) (mvT hZ (hw _ (List.mem_of_getElem? (i := 37) rfl))) (by decide) (backOf (W := 0) (rmIsm l Z a0 hw [] b3 (0 : Int32) bP_10 kP_10 4 plx_56 ctx_56 0 h56 n0 (Nat.le_trans Z0 kp66.1) f59 f62 f60 (by decide) (by decide) ⟨by decide, u4.1⟩) hZ (hw _ (List.mem_of_getElem? (i := 39) rfl)) (hw _ (List.mem_of_getElem? (i := 2) rfl)) (by decide) (by decide)) q67a q67c (g := (mkF m 73 #[.val (.int p1), .val (.int p2), .val (.int p3), .val (.int p4), .val (.int p5), .val (.int (4 : Int32)), .val (.ref b3), .val (.int mkx_56), .unset] [(.int (0 : Int32)), (.ref b3)])) rfl (by rw [hml]; rfl) (Steps.refl _) (argsL := [(.int (0 : Int32))]) (rest := []) (lenOf pd__I_Z rfl) rfl (by show 2 * 0 + _ ≤ _; exact Nat.le_of_eq rfl) (hb hby at_73) (fun _ _ => ⟨rfl, e56, (by decide : 3 + 0 ≤ _), (by decide : 11 + 0 ≤ _)⟩)
  dsimp only [Pt.U, Pt.locs, Pt.cells, Pt.slots] at X67' l67 y67 z67 st67 hQ67
  subst l67 y67 z67
  obtain ⟨rfl, N67q, e67⟩ := hQ67
  obtain ⟨lc67, X67, N67⟩ : ∃ lc, Stand p l e room_1 s m #[(.int p1), (.int p2), (.int p3), (.int p4), (.int p5)] below meth c T67 lc 3 11 ∧ Fr n0 lc := ⟨_, X67', Fr.app N56 N67q⟩
  have K68 : Gx p e below s₁ f0 T67 (mkF m 76 #[.val (.int p1), .val (.int p2), .val (.int p3), .val (.int p4), .val (.int p5), .val (.int (4 : Int32)), .val (.ref b3), .val (.int mkx_56), .unset] [(.int (nar .boolean (mvF plx_56 ctx_56 0)))]) := fun t kt => K65 t (st67.trans kt)
  have K71 : Gx p e below s₁ f0 T67 (mkF m 82 #[.val (.int p1), .val (.int p2), .val (.int p3), .val (.int p4), .val (.int p5), .val (.int (4 : Int32)), .val (.ref b3), .val (.int mkx_56), .unset] [(.int ((mkx_56 >>> ((0 : Int32) &&& 31)) &&& (1 : Int32))), (.int (nar .boolean (mvF plx_56 ctx_56 0)))]) := fun t kt => K68 t (by
    show Steps p.tables e below (T67.setTop (mkF m 76 #[.val (.int p1), .val (.int p2), .val (.int p3), .val (.int p4), .val (.int p5), .val (.int (4 : Int32)), .val (.ref b3), .val (.int mkx_56), .unset] [(.int (nar .boolean (mvF plx_56 ctx_56 0)))])) _
    refine XS.iload X67.here hx rfl (hb hby at_76) rfl ?_
    show Steps p.tables e below (T67.setTop (mkF m 78 #[.val (.int p1), .val (.int p2), .val (.int p3), .val (.int p4), .val (.int p5), .val (.int (4 : Int32)), .val (.ref b3), .val (.int mkx_56), .unset] [(.int mkx_56), (.int (nar .boolean (mvF plx_56 ctx_56 0)))])) _
    refine XS.iconst X67.here hx rfl (hb hby at_78) ?_
    show Steps p.tables e below (T67.setTop (mkF m 79 #[.val (.int p1), .val (.int p2), .val (.int p3), .val (.int p4), .val (.int p5), .val (.int (4 : Int32)), .val (.ref b3), .val (.int mkx_56), .unset] [(.int (0 : Int32)), (.int mkx_56), (.int (nar .boolean (mvF plx_56 ctx_56 0)))])) _
    refine XS.ishr X67.here hx rfl (hb hby at_79) rfl ?_
    show Steps p.tables e below (T67.setTop (mkF m 80 #[.val (.int p1), .val (.int p2), .val (.int p3), .val (.int p4), .val (.int p5), .val (.int (4 : Int32)), .val (.ref b3), .val (.int mkx_56), .unset] [(.int (mkx_56 >>> ((0 : Int32) &&& 31))), (.int (nar .boolean (mvF plx_56 ctx_56 0)))])) _
    refine XS.iconst X67.here hx rfl (hb hby at_80) ?_
    show Steps p.tables e below (T67.setTop (mkF m 81 #[.val (.int p1), .val (.int p2), .val (.int p3), .val (.int p4), .val (.int p5), .val (.int (4 : Int32)), .val (.ref b3), .val (.int mkx_56), .unset] [(.int (1 : Int32)), (.int (mkx_56 >>> ((0 : Int32) &&& 31))), (.int (nar .boolean (mvF plx_56 ctx_56 0)))])) _
    refine XS.iand X67.here hx rfl (hb hby at_81) rfl ?_
    exact kt)
  obtain ⟨v70, hv70⟩ : ∃ z : Int32, z = (if ((mkx_56 >>> ((0 : Int32) &&& 31)) &&& (1 : Int32)) = (0 : Int32) then (0 : Int32) else (1 : Int32)) := ⟨_, rfl⟩
  have K72 : Gx p e below s₁ f0 T67 (mkF m 90 #[.val (.int p1), .val (.int p2), .val (.int p3), .val (.int p4), .val (.int p5), .val (.int (4 : Int32)), .val (.ref b3), .val (.int mkx_56), .unset] [(.int v70), (.int (nar .boolean (mvF plx_56 ctx_56 0)))]) := fun t kt => K71 t (by
    by_cases hc82_68 : ((mkx_56 >>> ((0 : Int32) &&& 31)) &&& (1 : Int32)) = (0 : Int32)
    · skip
      show Steps p.tables e below (T67.setTop (mkF m 82 #[.val (.int p1), .val (.int p2), .val (.int p3), .val (.int p4), .val (.int p5), .val (.int (4 : Int32)), .val (.ref b3), .val (.int mkx_56), .unset] [(.int ((mkx_56 >>> ((0 : Int32) &&& 31)) &&& (1 : Int32))), (.int (nar .boolean (mvF plx_56 ctx_56 0)))])) _
      refine XS.ifYes X67.here hx rfl (pc0 := 82) (pc' := 89) rfl (hb hby at_82) rfl ((if0 _ _).trans (teq hc82_68).1) (by decide) (by decide) ?_
      show Steps p.tables e below (T67.setTop (mkF m 89 #[.val (.int p1), .val (.int p2), .val (.int p3), .val (.int p4), .val (.int p5), .val (.int (4 : Int32)), .val (.ref b3), .val (.int mkx_56), .unset] [(.int (nar .boolean (mvF plx_56 ctx_56 0)))])) _
      refine XS.iconst X67.here hx rfl (hb hby at_89) ?_
      show Steps p.tables e below (T67.setTop (mkF m 90 #[.val (.int p1), .val (.int p2), .val (.int p3), .val (.int p4), .val (.int p5), .val (.int (4 : Int32)), .val (.ref b3), .val (.int mkx_56), .unset] [(.int (0 : Int32)), (.int (nar .boolean (mvF plx_56 ctx_56 0)))])) _
      exact castTop (by simp only [hv70, if_pos hc82_68]) kt
    · skip
      show Steps p.tables e below (T67.setTop (mkF m 82 #[.val (.int p1), .val (.int p2), .val (.int p3), .val (.int p4), .val (.int p5), .val (.int (4 : Int32)), .val (.ref b3), .val (.int mkx_56), .unset] [(.int ((mkx_56 >>> ((0 : Int32) &&& 31)) &&& (1 : Int32))), (.int (nar .boolean (mvF plx_56 ctx_56 0)))])) _
      refine XS.ifNo X67.here hx rfl (hb hby at_82) rfl ((if0 _ _).trans (feq hc82_68).1) ?_
      show Steps p.tables e below (T67.setTop (mkF m 85 #[.val (.int p1), .val (.int p2), .val (.int p3), .val (.int p4), .val (.int p5), .val (.int (4 : Int32)), .val (.ref b3), .val (.int mkx_56), .unset] [(.int (nar .boolean (mvF plx_56 ctx_56 0)))])) _
      refine XS.iconst X67.here hx rfl (hb hby at_85) ?_
      show Steps p.tables e below (T67.setTop (mkF m 86 #[.val (.int p1), .val (.int p2), .val (.int p3), .val (.int p4), .val (.int p5), .val (.int (4 : Int32)), .val (.ref b3), .val (.int mkx_56), .unset] [(.int (1 : Int32)), (.int (nar .boolean (mvF plx_56 ctx_56 0)))])) _
      refine XS.goto X67.here hx rfl (pc0 := 86) (pc' := 90) rfl (hb hby at_86) (by decide) (by decide) ?_
      show Steps p.tables e below (T67.setTop (mkF m 90 #[.val (.int p1), .val (.int p2), .val (.int p3), .val (.int p4), .val (.int p5), .val (.int (4 : Int32)), .val (.ref b3), .val (.int mkx_56), .unset] [(.int (1 : Int32)), (.int (nar .boolean (mvF plx_56 ctx_56 0)))])) _
      exact castTop (by simp only [hv70, if_neg hc82_68]) kt)
  have K73 : Gx p e below s₁ f0 T67 (mkF m 114 #[.val (.int p1), .val (.int p2), .val (.int p3), .val (.int p4), .val (.int p5), .val (.int (4 : Int32)), .val (.ref b3), .val (.int mkx_56), .val (.int (1 : Int32))] [(.int (1 : Int32)), (.ref b3)]) := fun t kt => K72 t (by
    show Steps p.tables e below (T67.setTop (mkF m 90 #[.val (.int p1), .val (.int p2), .val (.int p3), .val (.int p4), .val (.int p5), .val (.int (4 : Int32)), .val (.ref b3), .val (.int mkx_56), .unset] [(.int v70), (.int (nar .boolean (mvF plx_56 ctx_56 0)))])) _
    refine XS.icmpNo X67.here hx rfl (hb hby at_90) rfl (teq (by rw [hv70]; exact u4.2 0 (by decide))).2 ?_
    show Steps p.tables e below (T67.setTop (mkF m 93 #[.val (.int p1), .val (.int p2), .val (.int p3), .val (.int p4), .val (.int p5), .val (.int (4 : Int32)), .val (.ref b3), .val (.int mkx_56), .unset] [])) _
    refine XS.iconst X67.here hx rfl (hb hby at_93) ?_
    show Steps p.tables e below (T67.setTop (mkF m 94 #[.val (.int p1), .val (.int p2), .val (.int p3), .val (.int p4), .val (.int p5), .val (.int (4 : Int32)), .val (.ref b3), .val (.int mkx_56), .unset] [(.int (1 : Int32))])) _
    refine XS.goto X67.here hx rfl (pc0 := 94) (pc' := 98) rfl (hb hby at_94) (by decide) (by decide) ?_
    show Steps p.tables e below (T67.setTop (mkF m 98 #[.val (.int p1), .val (.int p2), .val (.int p3), .val (.int p4), .val (.int p5), .val (.int (4 : Int32)), .val (.ref b3), .val (.int mkx_56), .unset] [(.int (1 : Int32))])) _
    refine XS.istore X67.here hx rfl (hb hby at_98) rfl (l' := #[.val (.int p1), .val (.int p2), .val (.int p3), .val (.int p4), .val (.int p5), .val (.int (4 : Int32)), .val (.ref b3), .val (.int mkx_56), .val (.int (1 : Int32))]) rfl ?_
    show Steps p.tables e below (T67.setTop (mkF m 100 #[.val (.int p1), .val (.int p2), .val (.int p3), .val (.int p4), .val (.int p5), .val (.int (4 : Int32)), .val (.ref b3), .val (.int mkx_56), .val (.int (1 : Int32))] [])) _
    refine XS.iload X67.here hx rfl (hb hby at_100) rfl ?_
    show Steps p.tables e below (T67.setTop (mkF m 102 #[.val (.int p1), .val (.int p2), .val (.int p3), .val (.int p4), .val (.int p5), .val (.int (4 : Int32)), .val (.ref b3), .val (.int mkx_56), .val (.int (1 : Int32))] [(.int (4 : Int32))])) _
    refine XS.iconst X67.here hx rfl (hb hby at_102) ?_
    show Steps p.tables e below (T67.setTop (mkF m 103 #[.val (.int p1), .val (.int p2), .val (.int p3), .val (.int p4), .val (.int p5), .val (.int (4 : Int32)), .val (.ref b3), .val (.int mkx_56), .val (.int (1 : Int32))] [(.int (1 : Int32)), (.int (4 : Int32))])) _
    refine XS.icmpNo X67.here hx rfl (hb hby at_103) rfl (tlt (by decide)).2.2.2 ?_
    show Steps p.tables e below (T67.setTop (mkF m 106 #[.val (.int p1), .val (.int p2), .val (.int p3), .val (.int p4), .val (.int p5), .val (.int (4 : Int32)), .val (.ref b3), .val (.int mkx_56), .val (.int (1 : Int32))] [])) _
    refine XS.iload X67.here hx rfl (hb hby at_106) rfl ?_
    show Steps p.tables e below (T67.setTop (mkF m 108 #[.val (.int p1), .val (.int p2), .val (.int p3), .val (.int p4), .val (.int p5), .val (.int (4 : Int32)), .val (.ref b3), .val (.int mkx_56), .val (.int (1 : Int32))] [(.int (1 : Int32))])) _
    refine XS.ifNo X67.here hx rfl (hb hby at_108) rfl ((if0 _ _).trans (feq (by decide)).1) ?_
    show Steps p.tables e below (T67.setTop (mkF m 111 #[.val (.int p1), .val (.int p2), .val (.int p3), .val (.int p4), .val (.int p5), .val (.int (4 : Int32)), .val (.ref b3), .val (.int mkx_56), .val (.int (1 : Int32))] [])) _
    refine XS.aload X67.here hx rfl (hb hby at_111) rfl rfl ?_
    show Steps p.tables e below (T67.setTop (mkF m 113 #[.val (.int p1), .val (.int p2), .val (.int p3), .val (.int p4), .val (.int p5), .val (.int (4 : Int32)), .val (.ref b3), .val (.int mkx_56), .val (.int (1 : Int32))] [(.ref b3)])) _
    refine XS.iconst X67.here hx rfl (hb hby at_113) ?_
    exact kt)
  obtain ⟨cq74, kq74, q74a, q74b, q74c⟩ := isOf hZ e67 f57
  obtain ⟨_, _, ⟨T74, L74, k74, n74⟩, -, X74', ⟨Lc74, hQ74, l74, y74, z74⟩, st74⟩ := X67.virtualBack hx (y := (⟨"com/example/tideshift/tideshift/engine/MovingShards", "isMoving", "(I)Z"⟩ : MethodName)) (z := (⟨"com/example/tideshift/tideshift/engine/MovingShards", "isMoving", "(I)Z"⟩ : MethodName)) hown (mvT hZ (hw _ (List.mem_of_getElem? (i := 35) rfl))) (mvT hZ (hw _ (List.mem_of_getElem? (i := 36) rfl))) (notFace_of_selects (args := #[]) (mvT hZ (hw _ (List.mem_of_getElem? (i := 38) rfl)))) (mvT hZ (hw _ (List.mem_of_getElem? (i := 38) rfl))) (mvT hZ (hw _ (List.mem_of_getElem? (i := 37) rfl))) (by decide) (backOf (W := 0) (rmIsm l Z a0 hw [] b3 (1 : Int32) bP_10 kP_10 4 plx_56 ctx_56 1 h56 n0 (Nat.le_trans Z0 kp66.1) f59 f62 f60 (by decide) (by decide) ⟨by decide, u4.1⟩) hZ (hw _ (List.mem_of_getElem? (i := 39) rfl)) (hw _ (List.mem_of_getElem? (i := 2) rfl)) (by decide) (by decide)) q74a q74c (g := (mkF m 114 #[.val (.int p1), .val (.int p2), .val (.int p3), .val (.int p4), .val (.int p5), .val (.int (4 : Int32)), .val (.ref b3), .val (.int mkx_56), .val (.int (1 : Int32))] [(.int (1 : Int32)), (.ref b3)])) rfl (by rw [hml]; rfl) (Steps.refl _) (argsL := [(.int (1 : Int32))]) (rest := []) (lenOf pd__I_Z rfl) rfl (by show 2 * 0 + _ ≤ _; exact Nat.le_of_eq rfl) (hb hby at_114) (fun _ _ => ⟨rfl, e67, (by decide : 3 + 0 ≤ _), (by decide : 11 + 0 ≤ _)⟩)
  dsimp only [Pt.U, Pt.locs, Pt.cells, Pt.slots] at X74' l74 y74 z74 st74 hQ74
  subst l74 y74 z74
  obtain ⟨rfl, N74q, e74⟩ := hQ74
  obtain ⟨lc74, X74, N74⟩ : ∃ lc, Stand p l e room_1 s m #[(.int p1), (.int p2), (.int p3), (.int p4), (.int p5)] below meth c T74 lc 3 11 ∧ Fr n0 lc := ⟨_, X74', Fr.app N67 N74q⟩
  have K75 : Gx p e below s₁ f0 T74 (mkF m 117 #[.val (.int p1), .val (.int p2), .val (.int p3), .val (.int p4), .val (.int p5), .val (.int (4 : Int32)), .val (.ref b3), .val (.int mkx_56), .val (.int (1 : Int32))] [(.int (nar .boolean (mvF plx_56 ctx_56 1)))]) := fun t kt => K73 t (st74.trans kt)
  have K78 : Gx p e below s₁ f0 T74 (mkF m 123 #[.val (.int p1), .val (.int p2), .val (.int p3), .val (.int p4), .val (.int p5), .val (.int (4 : Int32)), .val (.ref b3), .val (.int mkx_56), .val (.int (1 : Int32))] [(.int ((mkx_56 >>> ((1 : Int32) &&& 31)) &&& (1 : Int32))), (.int (nar .boolean (mvF plx_56 ctx_56 1)))]) := fun t kt => K75 t (by
    show Steps p.tables e below (T74.setTop (mkF m 117 #[.val (.int p1), .val (.int p2), .val (.int p3), .val (.int p4), .val (.int p5), .val (.int (4 : Int32)), .val (.ref b3), .val (.int mkx_56), .val (.int (1 : Int32))] [(.int (nar .boolean (mvF plx_56 ctx_56 1)))])) _
    refine XS.iload X74.here hx rfl (hb hby at_117) rfl ?_
    show Steps p.tables e below (T74.setTop (mkF m 119 #[.val (.int p1), .val (.int p2), .val (.int p3), .val (.int p4), .val (.int p5), .val (.int (4 : Int32)), .val (.ref b3), .val (.int mkx_56), .val (.int (1 : Int32))] [(.int mkx_56), (.int (nar .boolean (mvF plx_56 ctx_56 1)))])) _
    refine XS.iconst X74.here hx rfl (hb hby at_119) ?_
    show Steps p.tables e below (T74.setTop (mkF m 120 #[.val (.int p1), .val (.int p2), .val (.int p3), .val (.int p4), .val (.int p5), .val (.int (4 : Int32)), .val (.ref b3), .val (.int mkx_56), .val (.int (1 : Int32))] [(.int (1 : Int32)), (.int mkx_56), (.int (nar .boolean (mvF plx_56 ctx_56 1)))])) _
    refine XS.ishr X74.here hx rfl (hb hby at_120) rfl ?_
    show Steps p.tables e below (T74.setTop (mkF m 121 #[.val (.int p1), .val (.int p2), .val (.int p3), .val (.int p4), .val (.int p5), .val (.int (4 : Int32)), .val (.ref b3), .val (.int mkx_56), .val (.int (1 : Int32))] [(.int (mkx_56 >>> ((1 : Int32) &&& 31))), (.int (nar .boolean (mvF plx_56 ctx_56 1)))])) _
    refine XS.iconst X74.here hx rfl (hb hby at_121) ?_
    show Steps p.tables e below (T74.setTop (mkF m 122 #[.val (.int p1), .val (.int p2), .val (.int p3), .val (.int p4), .val (.int p5), .val (.int (4 : Int32)), .val (.ref b3), .val (.int mkx_56), .val (.int (1 : Int32))] [(.int (1 : Int32)), (.int (mkx_56 >>> ((1 : Int32) &&& 31))), (.int (nar .boolean (mvF plx_56 ctx_56 1)))])) _
    refine XS.iand X74.here hx rfl (hb hby at_122) rfl ?_
    exact kt)
  obtain ⟨v77, hv77⟩ : ∃ z : Int32, z = (if ((mkx_56 >>> ((1 : Int32) &&& 31)) &&& (1 : Int32)) = (0 : Int32) then (0 : Int32) else (1 : Int32)) := ⟨_, rfl⟩
  have K79 : Gx p e below s₁ f0 T74 (mkF m 131 #[.val (.int p1), .val (.int p2), .val (.int p3), .val (.int p4), .val (.int p5), .val (.int (4 : Int32)), .val (.ref b3), .val (.int mkx_56), .val (.int (1 : Int32))] [(.int v77), (.int (nar .boolean (mvF plx_56 ctx_56 1)))]) := fun t kt => K78 t (by
    by_cases hc123_75 : ((mkx_56 >>> ((1 : Int32) &&& 31)) &&& (1 : Int32)) = (0 : Int32)
    · skip
      show Steps p.tables e below (T74.setTop (mkF m 123 #[.val (.int p1), .val (.int p2), .val (.int p3), .val (.int p4), .val (.int p5), .val (.int (4 : Int32)), .val (.ref b3), .val (.int mkx_56), .val (.int (1 : Int32))] [(.int ((mkx_56 >>> ((1 : Int32) &&& 31)) &&& (1 : Int32))), (.int (nar .boolean (mvF plx_56 ctx_56 1)))])) _
      refine XS.ifYes X74.here hx rfl (pc0 := 123) (pc' := 130) rfl (hb hby at_123) rfl ((if0 _ _).trans (teq hc123_75).1) (by decide) (by decide) ?_
      show Steps p.tables e below (T74.setTop (mkF m 130 #[.val (.int p1), .val (.int p2), .val (.int p3), .val (.int p4), .val (.int p5), .val (.int (4 : Int32)), .val (.ref b3), .val (.int mkx_56), .val (.int (1 : Int32))] [(.int (nar .boolean (mvF plx_56 ctx_56 1)))])) _
      refine XS.iconst X74.here hx rfl (hb hby at_130) ?_
      show Steps p.tables e below (T74.setTop (mkF m 131 #[.val (.int p1), .val (.int p2), .val (.int p3), .val (.int p4), .val (.int p5), .val (.int (4 : Int32)), .val (.ref b3), .val (.int mkx_56), .val (.int (1 : Int32))] [(.int (0 : Int32)), (.int (nar .boolean (mvF plx_56 ctx_56 1)))])) _
      exact castTop (by simp only [hv77, if_pos hc123_75]) kt
    · skip
      show Steps p.tables e below (T74.setTop (mkF m 123 #[.val (.int p1), .val (.int p2), .val (.int p3), .val (.int p4), .val (.int p5), .val (.int (4 : Int32)), .val (.ref b3), .val (.int mkx_56), .val (.int (1 : Int32))] [(.int ((mkx_56 >>> ((1 : Int32) &&& 31)) &&& (1 : Int32))), (.int (nar .boolean (mvF plx_56 ctx_56 1)))])) _
      refine XS.ifNo X74.here hx rfl (hb hby at_123) rfl ((if0 _ _).trans (feq hc123_75).1) ?_
      show Steps p.tables e below (T74.setTop (mkF m 126 #[.val (.int p1), .val (.int p2), .val (.int p3), .val (.int p4), .val (.int p5), .val (.int (4 : Int32)), .val (.ref b3), .val (.int mkx_56), .val (.int (1 : Int32))] [(.int (nar .boolean (mvF plx_56 ctx_56 1)))])) _
      refine XS.iconst X74.here hx rfl (hb hby at_126) ?_
      show Steps p.tables e below (T74.setTop (mkF m 127 #[.val (.int p1), .val (.int p2), .val (.int p3), .val (.int p4), .val (.int p5), .val (.int (4 : Int32)), .val (.ref b3), .val (.int mkx_56), .val (.int (1 : Int32))] [(.int (1 : Int32)), (.int (nar .boolean (mvF plx_56 ctx_56 1)))])) _
      refine XS.goto X74.here hx rfl (pc0 := 127) (pc' := 131) rfl (hb hby at_127) (by decide) (by decide) ?_
      show Steps p.tables e below (T74.setTop (mkF m 131 #[.val (.int p1), .val (.int p2), .val (.int p3), .val (.int p4), .val (.int p5), .val (.int (4 : Int32)), .val (.ref b3), .val (.int mkx_56), .val (.int (1 : Int32))] [(.int (1 : Int32)), (.int (nar .boolean (mvF plx_56 ctx_56 1)))])) _
      exact castTop (by simp only [hv77, if_neg hc123_75]) kt)
  have K80 : Gx p e below s₁ f0 T74 (mkF m 155 #[.val (.int p1), .val (.int p2), .val (.int p3), .val (.int p4), .val (.int p5), .val (.int (4 : Int32)), .val (.ref b3), .val (.int mkx_56), .val (.int (1 : Int32))] [(.int (2 : Int32)), (.ref b3)]) := fun t kt => K79 t (by
    show Steps p.tables e below (T74.setTop (mkF m 131 #[.val (.int p1), .val (.int p2), .val (.int p3), .val (.int p4), .val (.int p5), .val (.int (4 : Int32)), .val (.ref b3), .val (.int mkx_56), .val (.int (1 : Int32))] [(.int v77), (.int (nar .boolean (mvF plx_56 ctx_56 1)))])) _
    refine XS.icmpNo X74.here hx rfl (hb hby at_131) rfl (teq (by rw [hv77]; exact u4.2 1 (by decide))).2 ?_
    show Steps p.tables e below (T74.setTop (mkF m 134 #[.val (.int p1), .val (.int p2), .val (.int p3), .val (.int p4), .val (.int p5), .val (.int (4 : Int32)), .val (.ref b3), .val (.int mkx_56), .val (.int (1 : Int32))] [])) _
    refine XS.iconst X74.here hx rfl (hb hby at_134) ?_
    show Steps p.tables e below (T74.setTop (mkF m 135 #[.val (.int p1), .val (.int p2), .val (.int p3), .val (.int p4), .val (.int p5), .val (.int (4 : Int32)), .val (.ref b3), .val (.int mkx_56), .val (.int (1 : Int32))] [(.int (1 : Int32))])) _
    refine XS.goto X74.here hx rfl (pc0 := 135) (pc' := 139) rfl (hb hby at_135) (by decide) (by decide) ?_
    show Steps p.tables e below (T74.setTop (mkF m 139 #[.val (.int p1), .val (.int p2), .val (.int p3), .val (.int p4), .val (.int p5), .val (.int (4 : Int32)), .val (.ref b3), .val (.int mkx_56), .val (.int (1 : Int32))] [(.int (1 : Int32))])) _
    refine XS.istore X74.here hx rfl (hb hby at_139) rfl (l' := #[.val (.int p1), .val (.int p2), .val (.int p3), .val (.int p4), .val (.int p5), .val (.int (4 : Int32)), .val (.ref b3), .val (.int mkx_56), .val (.int (1 : Int32))]) rfl ?_
    show Steps p.tables e below (T74.setTop (mkF m 141 #[.val (.int p1), .val (.int p2), .val (.int p3), .val (.int p4), .val (.int p5), .val (.int (4 : Int32)), .val (.ref b3), .val (.int mkx_56), .val (.int (1 : Int32))] [])) _
    refine XS.iload X74.here hx rfl (hb hby at_141) rfl ?_
    show Steps p.tables e below (T74.setTop (mkF m 143 #[.val (.int p1), .val (.int p2), .val (.int p3), .val (.int p4), .val (.int p5), .val (.int (4 : Int32)), .val (.ref b3), .val (.int mkx_56), .val (.int (1 : Int32))] [(.int (4 : Int32))])) _
    refine XS.iconst X74.here hx rfl (hb hby at_143) ?_
    show Steps p.tables e below (T74.setTop (mkF m 144 #[.val (.int p1), .val (.int p2), .val (.int p3), .val (.int p4), .val (.int p5), .val (.int (4 : Int32)), .val (.ref b3), .val (.int mkx_56), .val (.int (1 : Int32))] [(.int (2 : Int32)), (.int (4 : Int32))])) _
    refine XS.icmpNo X74.here hx rfl (hb hby at_144) rfl (tlt (by decide)).2.2.2 ?_
    show Steps p.tables e below (T74.setTop (mkF m 147 #[.val (.int p1), .val (.int p2), .val (.int p3), .val (.int p4), .val (.int p5), .val (.int (4 : Int32)), .val (.ref b3), .val (.int mkx_56), .val (.int (1 : Int32))] [])) _
    refine XS.iload X74.here hx rfl (hb hby at_147) rfl ?_
    show Steps p.tables e below (T74.setTop (mkF m 149 #[.val (.int p1), .val (.int p2), .val (.int p3), .val (.int p4), .val (.int p5), .val (.int (4 : Int32)), .val (.ref b3), .val (.int mkx_56), .val (.int (1 : Int32))] [(.int (1 : Int32))])) _
    refine XS.ifNo X74.here hx rfl (hb hby at_149) rfl ((if0 _ _).trans (feq (by decide)).1) ?_
    show Steps p.tables e below (T74.setTop (mkF m 152 #[.val (.int p1), .val (.int p2), .val (.int p3), .val (.int p4), .val (.int p5), .val (.int (4 : Int32)), .val (.ref b3), .val (.int mkx_56), .val (.int (1 : Int32))] [])) _
    refine XS.aload X74.here hx rfl (hb hby at_152) rfl rfl ?_
    show Steps p.tables e below (T74.setTop (mkF m 154 #[.val (.int p1), .val (.int p2), .val (.int p3), .val (.int p4), .val (.int p5), .val (.int (4 : Int32)), .val (.ref b3), .val (.int mkx_56), .val (.int (1 : Int32))] [(.ref b3)])) _
    refine XS.iconst X74.here hx rfl (hb hby at_154) ?_
    exact kt)
  obtain ⟨cq81, kq81, q81a, q81b, q81c⟩ := isOf hZ e74 f57
  obtain ⟨_, _, ⟨T81, L81, k81, n81⟩, -, X81', ⟨Lc81, hQ81, l81, y81, z81⟩, st81⟩ := X74.virtualBack hx (y := (⟨"com/example/tideshift/tideshift/engine/MovingShards", "isMoving", "(I)Z"⟩ : MethodName)) (z := (⟨"com/example/tideshift/tideshift/engine/MovingShards", "isMoving", "(I)Z"⟩ : MethodName)) hown (mvT hZ (hw _ (List.mem_of_getElem? (i := 35) rfl))) (mvT hZ (hw _ (List.mem_of_getElem? (i := 36) rfl))) (notFace_of_selects (args := #[]) (mvT hZ (hw _ (List.mem_of_getElem? (i := 38) rfl)))) (mvT hZ (hw _ (List.mem_of_getElem? (i := 38) rfl))) (mvT hZ (hw _ (List.mem_of_getElem? (i := 37) rfl))) (by decide) (backOf (W := 0) (rmIsm l Z a0 hw [] b3 (2 : Int32) bP_10 kP_10 4 plx_56 ctx_56 2 h56 n0 (Nat.le_trans Z0 kp66.1) f59 f62 f60 (by decide) (by decide) ⟨by decide, u4.1⟩) hZ (hw _ (List.mem_of_getElem? (i := 39) rfl)) (hw _ (List.mem_of_getElem? (i := 2) rfl)) (by decide) (by decide)) q81a q81c (g := (mkF m 155 #[.val (.int p1), .val (.int p2), .val (.int p3), .val (.int p4), .val (.int p5), .val (.int (4 : Int32)), .val (.ref b3), .val (.int mkx_56), .val (.int (1 : Int32))] [(.int (2 : Int32)), (.ref b3)])) rfl (by rw [hml]; rfl) (Steps.refl _) (argsL := [(.int (2 : Int32))]) (rest := []) (lenOf pd__I_Z rfl) rfl (by show 2 * 0 + _ ≤ _; exact Nat.le_of_eq rfl) (hb hby at_155) (fun _ _ => ⟨rfl, e74, (by decide : 3 + 0 ≤ _), (by decide : 11 + 0 ≤ _)⟩)
  dsimp only [Pt.U, Pt.locs, Pt.cells, Pt.slots] at X81' l81 y81 z81 st81 hQ81
  subst l81 y81 z81
  obtain ⟨rfl, N81q, e81⟩ := hQ81
  obtain ⟨lc81, X81, N81⟩ : ∃ lc, Stand p l e room_1 s m #[(.int p1), (.int p2), (.int p3), (.int p4), (.int p5)] below meth c T81 lc 3 11 ∧ Fr n0 lc := ⟨_, X81', Fr.app N74 N81q⟩
  have K82 : Gx p e below s₁ f0 T81 (mkF m 158 #[.val (.int p1), .val (.int p2), .val (.int p3), .val (.int p4), .val (.int p5), .val (.int (4 : Int32)), .val (.ref b3), .val (.int mkx_56), .val (.int (1 : Int32))] [(.int (nar .boolean (mvF plx_56 ctx_56 2)))]) := fun t kt => K80 t (st81.trans kt)
  have K85 : Gx p e below s₁ f0 T81 (mkF m 164 #[.val (.int p1), .val (.int p2), .val (.int p3), .val (.int p4), .val (.int p5), .val (.int (4 : Int32)), .val (.ref b3), .val (.int mkx_56), .val (.int (1 : Int32))] [(.int ((mkx_56 >>> ((2 : Int32) &&& 31)) &&& (1 : Int32))), (.int (nar .boolean (mvF plx_56 ctx_56 2)))]) := fun t kt => K82 t (by
    show Steps p.tables e below (T81.setTop (mkF m 158 #[.val (.int p1), .val (.int p2), .val (.int p3), .val (.int p4), .val (.int p5), .val (.int (4 : Int32)), .val (.ref b3), .val (.int mkx_56), .val (.int (1 : Int32))] [(.int (nar .boolean (mvF plx_56 ctx_56 2)))])) _
    refine XS.iload X81.here hx rfl (hb hby at_158) rfl ?_
    show Steps p.tables e below (T81.setTop (mkF m 160 #[.val (.int p1), .val (.int p2), .val (.int p3), .val (.int p4), .val (.int p5), .val (.int (4 : Int32)), .val (.ref b3), .val (.int mkx_56), .val (.int (1 : Int32))] [(.int mkx_56), (.int (nar .boolean (mvF plx_56 ctx_56 2)))])) _
    refine XS.iconst X81.here hx rfl (hb hby at_160) ?_
    show Steps p.tables e below (T81.setTop (mkF m 161 #[.val (.int p1), .val (.int p2), .val (.int p3), .val (.int p4), .val (.int p5), .val (.int (4 : Int32)), .val (.ref b3), .val (.int mkx_56), .val (.int (1 : Int32))] [(.int (2 : Int32)), (.int mkx_56), (.int (nar .boolean (mvF plx_56 ctx_56 2)))])) _
    refine XS.ishr X81.here hx rfl (hb hby at_161) rfl ?_
    show Steps p.tables e below (T81.setTop (mkF m 162 #[.val (.int p1), .val (.int p2), .val (.int p3), .val (.int p4), .val (.int p5), .val (.int (4 : Int32)), .val (.ref b3), .val (.int mkx_56), .val (.int (1 : Int32))] [(.int (mkx_56 >>> ((2 : Int32) &&& 31))), (.int (nar .boolean (mvF plx_56 ctx_56 2)))])) _
    refine XS.iconst X81.here hx rfl (hb hby at_162) ?_
    show Steps p.tables e below (T81.setTop (mkF m 163 #[.val (.int p1), .val (.int p2), .val (.int p3), .val (.int p4), .val (.int p5), .val (.int (4 : Int32)), .val (.ref b3), .val (.int mkx_56), .val (.int (1 : Int32))] [(.int (1 : Int32)), (.int (mkx_56 >>> ((2 : Int32) &&& 31))), (.int (nar .boolean (mvF plx_56 ctx_56 2)))])) _
    refine XS.iand X81.here hx rfl (hb hby at_163) rfl ?_
    exact kt)
  obtain ⟨v84, hv84⟩ : ∃ z : Int32, z = (if ((mkx_56 >>> ((2 : Int32) &&& 31)) &&& (1 : Int32)) = (0 : Int32) then (0 : Int32) else (1 : Int32)) := ⟨_, rfl⟩
  have K86 : Gx p e below s₁ f0 T81 (mkF m 172 #[.val (.int p1), .val (.int p2), .val (.int p3), .val (.int p4), .val (.int p5), .val (.int (4 : Int32)), .val (.ref b3), .val (.int mkx_56), .val (.int (1 : Int32))] [(.int v84), (.int (nar .boolean (mvF plx_56 ctx_56 2)))]) := fun t kt => K85 t (by
    by_cases hc164_82 : ((mkx_56 >>> ((2 : Int32) &&& 31)) &&& (1 : Int32)) = (0 : Int32)
    · skip
      show Steps p.tables e below (T81.setTop (mkF m 164 #[.val (.int p1), .val (.int p2), .val (.int p3), .val (.int p4), .val (.int p5), .val (.int (4 : Int32)), .val (.ref b3), .val (.int mkx_56), .val (.int (1 : Int32))] [(.int ((mkx_56 >>> ((2 : Int32) &&& 31)) &&& (1 : Int32))), (.int (nar .boolean (mvF plx_56 ctx_56 2)))])) _
      refine XS.ifYes X81.here hx rfl (pc0 := 164) (pc' := 171) rfl (hb hby at_164) rfl ((if0 _ _).trans (teq hc164_82).1) (by decide) (by decide) ?_
      show Steps p.tables e below (T81.setTop (mkF m 171 #[.val (.int p1), .val (.int p2), .val (.int p3), .val (.int p4), .val (.int p5), .val (.int (4 : Int32)), .val (.ref b3), .val (.int mkx_56), .val (.int (1 : Int32))] [(.int (nar .boolean (mvF plx_56 ctx_56 2)))])) _
      refine XS.iconst X81.here hx rfl (hb hby at_171) ?_
      show Steps p.tables e below (T81.setTop (mkF m 172 #[.val (.int p1), .val (.int p2), .val (.int p3), .val (.int p4), .val (.int p5), .val (.int (4 : Int32)), .val (.ref b3), .val (.int mkx_56), .val (.int (1 : Int32))] [(.int (0 : Int32)), (.int (nar .boolean (mvF plx_56 ctx_56 2)))])) _
      exact castTop (by simp only [hv84, if_pos hc164_82]) kt
    · skip
      show Steps p.tables e below (T81.setTop (mkF m 164 #[.val (.int p1), .val (.int p2), .val (.int p3), .val (.int p4), .val (.int p5), .val (.int (4 : Int32)), .val (.ref b3), .val (.int mkx_56), .val (.int (1 : Int32))] [(.int ((mkx_56 >>> ((2 : Int32) &&& 31)) &&& (1 : Int32))), (.int (nar .boolean (mvF plx_56 ctx_56 2)))])) _
      refine XS.ifNo X81.here hx rfl (hb hby at_164) rfl ((if0 _ _).trans (feq hc164_82).1) ?_
      show Steps p.tables e below (T81.setTop (mkF m 167 #[.val (.int p1), .val (.int p2), .val (.int p3), .val (.int p4), .val (.int p5), .val (.int (4 : Int32)), .val (.ref b3), .val (.int mkx_56), .val (.int (1 : Int32))] [(.int (nar .boolean (mvF plx_56 ctx_56 2)))])) _
      refine XS.iconst X81.here hx rfl (hb hby at_167) ?_
      show Steps p.tables e below (T81.setTop (mkF m 168 #[.val (.int p1), .val (.int p2), .val (.int p3), .val (.int p4), .val (.int p5), .val (.int (4 : Int32)), .val (.ref b3), .val (.int mkx_56), .val (.int (1 : Int32))] [(.int (1 : Int32)), (.int (nar .boolean (mvF plx_56 ctx_56 2)))])) _
      refine XS.goto X81.here hx rfl (pc0 := 168) (pc' := 172) rfl (hb hby at_168) (by decide) (by decide) ?_
      show Steps p.tables e below (T81.setTop (mkF m 172 #[.val (.int p1), .val (.int p2), .val (.int p3), .val (.int p4), .val (.int p5), .val (.int (4 : Int32)), .val (.ref b3), .val (.int mkx_56), .val (.int (1 : Int32))] [(.int (1 : Int32)), (.int (nar .boolean (mvF plx_56 ctx_56 2)))])) _
      exact castTop (by simp only [hv84, if_neg hc164_82]) kt)
  have K87 : Gx p e below s₁ f0 T81 (mkF m 196 #[.val (.int p1), .val (.int p2), .val (.int p3), .val (.int p4), .val (.int p5), .val (.int (4 : Int32)), .val (.ref b3), .val (.int mkx_56), .val (.int (1 : Int32))] [(.int (3 : Int32)), (.ref b3)]) := fun t kt => K86 t (by
    show Steps p.tables e below (T81.setTop (mkF m 172 #[.val (.int p1), .val (.int p2), .val (.int p3), .val (.int p4), .val (.int p5), .val (.int (4 : Int32)), .val (.ref b3), .val (.int mkx_56), .val (.int (1 : Int32))] [(.int v84), (.int (nar .boolean (mvF plx_56 ctx_56 2)))])) _
    refine XS.icmpNo X81.here hx rfl (hb hby at_172) rfl (teq (by rw [hv84]; exact u4.2 2 (by decide))).2 ?_
    show Steps p.tables e below (T81.setTop (mkF m 175 #[.val (.int p1), .val (.int p2), .val (.int p3), .val (.int p4), .val (.int p5), .val (.int (4 : Int32)), .val (.ref b3), .val (.int mkx_56), .val (.int (1 : Int32))] [])) _
    refine XS.iconst X81.here hx rfl (hb hby at_175) ?_
    show Steps p.tables e below (T81.setTop (mkF m 176 #[.val (.int p1), .val (.int p2), .val (.int p3), .val (.int p4), .val (.int p5), .val (.int (4 : Int32)), .val (.ref b3), .val (.int mkx_56), .val (.int (1 : Int32))] [(.int (1 : Int32))])) _
    refine XS.goto X81.here hx rfl (pc0 := 176) (pc' := 180) rfl (hb hby at_176) (by decide) (by decide) ?_
    show Steps p.tables e below (T81.setTop (mkF m 180 #[.val (.int p1), .val (.int p2), .val (.int p3), .val (.int p4), .val (.int p5), .val (.int (4 : Int32)), .val (.ref b3), .val (.int mkx_56), .val (.int (1 : Int32))] [(.int (1 : Int32))])) _
    refine XS.istore X81.here hx rfl (hb hby at_180) rfl (l' := #[.val (.int p1), .val (.int p2), .val (.int p3), .val (.int p4), .val (.int p5), .val (.int (4 : Int32)), .val (.ref b3), .val (.int mkx_56), .val (.int (1 : Int32))]) rfl ?_
    show Steps p.tables e below (T81.setTop (mkF m 182 #[.val (.int p1), .val (.int p2), .val (.int p3), .val (.int p4), .val (.int p5), .val (.int (4 : Int32)), .val (.ref b3), .val (.int mkx_56), .val (.int (1 : Int32))] [])) _
    refine XS.iload X81.here hx rfl (hb hby at_182) rfl ?_
    show Steps p.tables e below (T81.setTop (mkF m 184 #[.val (.int p1), .val (.int p2), .val (.int p3), .val (.int p4), .val (.int p5), .val (.int (4 : Int32)), .val (.ref b3), .val (.int mkx_56), .val (.int (1 : Int32))] [(.int (4 : Int32))])) _
    refine XS.iconst X81.here hx rfl (hb hby at_184) ?_
    show Steps p.tables e below (T81.setTop (mkF m 185 #[.val (.int p1), .val (.int p2), .val (.int p3), .val (.int p4), .val (.int p5), .val (.int (4 : Int32)), .val (.ref b3), .val (.int mkx_56), .val (.int (1 : Int32))] [(.int (3 : Int32)), (.int (4 : Int32))])) _
    refine XS.icmpNo X81.here hx rfl (hb hby at_185) rfl (tlt (by decide)).2.2.2 ?_
    show Steps p.tables e below (T81.setTop (mkF m 188 #[.val (.int p1), .val (.int p2), .val (.int p3), .val (.int p4), .val (.int p5), .val (.int (4 : Int32)), .val (.ref b3), .val (.int mkx_56), .val (.int (1 : Int32))] [])) _
    refine XS.iload X81.here hx rfl (hb hby at_188) rfl ?_
    show Steps p.tables e below (T81.setTop (mkF m 190 #[.val (.int p1), .val (.int p2), .val (.int p3), .val (.int p4), .val (.int p5), .val (.int (4 : Int32)), .val (.ref b3), .val (.int mkx_56), .val (.int (1 : Int32))] [(.int (1 : Int32))])) _
    refine XS.ifNo X81.here hx rfl (hb hby at_190) rfl ((if0 _ _).trans (feq (by decide)).1) ?_
    show Steps p.tables e below (T81.setTop (mkF m 193 #[.val (.int p1), .val (.int p2), .val (.int p3), .val (.int p4), .val (.int p5), .val (.int (4 : Int32)), .val (.ref b3), .val (.int mkx_56), .val (.int (1 : Int32))] [])) _
    refine XS.aload X81.here hx rfl (hb hby at_193) rfl rfl ?_
    show Steps p.tables e below (T81.setTop (mkF m 195 #[.val (.int p1), .val (.int p2), .val (.int p3), .val (.int p4), .val (.int p5), .val (.int (4 : Int32)), .val (.ref b3), .val (.int mkx_56), .val (.int (1 : Int32))] [(.ref b3)])) _
    refine XS.iconst X81.here hx rfl (hb hby at_195) ?_
    exact kt)
  obtain ⟨cq88, kq88, q88a, q88b, q88c⟩ := isOf hZ e81 f57
  obtain ⟨_, _, ⟨T88, L88, k88, n88⟩, -, X88', ⟨Lc88, hQ88, l88, y88, z88⟩, st88⟩ := X81.virtualBack hx (y := (⟨"com/example/tideshift/tideshift/engine/MovingShards", "isMoving", "(I)Z"⟩ : MethodName)) (z := (⟨"com/example/tideshift/tideshift/engine/MovingShards", "isMoving", "(I)Z"⟩ : MethodName)) hown (mvT hZ (hw _ (List.mem_of_getElem? (i := 35) rfl))) (mvT hZ (hw _ (List.mem_of_getElem? (i := 36) rfl))) (notFace_of_selects (args := #[]) (mvT hZ (hw _ (List.mem_of_getElem? (i := 38) rfl)))) (mvT hZ (hw _ (List.mem_of_getElem? (i := 38) rfl))) (mvT hZ (hw _ (List.mem_of_getElem? (i := 37) rfl))) (by decide) (backOf (W := 0) (rmIsm l Z a0 hw [] b3 (3 : Int32) bP_10 kP_10 4 plx_56 ctx_56 3 h56 n0 (Nat.le_trans Z0 kp66.1) f59 f62 f60 (by decide) (by decide) ⟨by decide, u4.1⟩) hZ (hw _ (List.mem_of_getElem? (i := 39) rfl)) (hw _ (List.mem_of_getElem? (i := 2) rfl)) (by decide) (by decide)) q88a q88c (g := (mkF m 196 #[.val (.int p1), .val (.int p2), .val (.int p3), .val (.int p4), .val (.int p5), .val (.int (4 : Int32)), .val (.ref b3), .val (.int mkx_56), .val (.int (1 : Int32))] [(.int (3 : Int32)), (.ref b3)])) rfl (by rw [hml]; rfl) (Steps.refl _) (argsL := [(.int (3 : Int32))]) (rest := []) (lenOf pd__I_Z rfl) rfl (by show 2 * 0 + _ ≤ _; exact Nat.le_of_eq rfl) (hb hby at_196) (fun _ _ => ⟨rfl, e81, (by decide : 3 + 0 ≤ _), (by decide : 11 + 0 ≤ _)⟩)
  dsimp only [Pt.U, Pt.locs, Pt.cells, Pt.slots] at X88' l88 y88 z88 st88 hQ88
  subst l88 y88 z88
  obtain ⟨rfl, N88q, e88⟩ := hQ88
  obtain ⟨lc88, X88, N88⟩ : ∃ lc, Stand p l e room_1 s m #[(.int p1), (.int p2), (.int p3), (.int p4), (.int p5)] below meth c T88 lc 3 11 ∧ Fr n0 lc := ⟨_, X88', Fr.app N81 N88q⟩
  have K89 : Gx p e below s₁ f0 T88 (mkF m 199 #[.val (.int p1), .val (.int p2), .val (.int p3), .val (.int p4), .val (.int p5), .val (.int (4 : Int32)), .val (.ref b3), .val (.int mkx_56), .val (.int (1 : Int32))] [(.int (nar .boolean (mvF plx_56 ctx_56 3)))]) := fun t kt => K87 t (st88.trans kt)
  have K92 : Gx p e below s₁ f0 T88 (mkF m 205 #[.val (.int p1), .val (.int p2), .val (.int p3), .val (.int p4), .val (.int p5), .val (.int (4 : Int32)), .val (.ref b3), .val (.int mkx_56), .val (.int (1 : Int32))] [(.int ((mkx_56 >>> ((3 : Int32) &&& 31)) &&& (1 : Int32))), (.int (nar .boolean (mvF plx_56 ctx_56 3)))]) := fun t kt => K89 t (by
    show Steps p.tables e below (T88.setTop (mkF m 199 #[.val (.int p1), .val (.int p2), .val (.int p3), .val (.int p4), .val (.int p5), .val (.int (4 : Int32)), .val (.ref b3), .val (.int mkx_56), .val (.int (1 : Int32))] [(.int (nar .boolean (mvF plx_56 ctx_56 3)))])) _
    refine XS.iload X88.here hx rfl (hb hby at_199) rfl ?_
    show Steps p.tables e below (T88.setTop (mkF m 201 #[.val (.int p1), .val (.int p2), .val (.int p3), .val (.int p4), .val (.int p5), .val (.int (4 : Int32)), .val (.ref b3), .val (.int mkx_56), .val (.int (1 : Int32))] [(.int mkx_56), (.int (nar .boolean (mvF plx_56 ctx_56 3)))])) _
    refine XS.iconst X88.here hx rfl (hb hby at_201) ?_
    show Steps p.tables e below (T88.setTop (mkF m 202 #[.val (.int p1), .val (.int p2), .val (.int p3), .val (.int p4), .val (.int p5), .val (.int (4 : Int32)), .val (.ref b3), .val (.int mkx_56), .val (.int (1 : Int32))] [(.int (3 : Int32)), (.int mkx_56), (.int (nar .boolean (mvF plx_56 ctx_56 3)))])) _
    refine XS.ishr X88.here hx rfl (hb hby at_202) rfl ?_
    show Steps p.tables e below (T88.setTop (mkF m 203 #[.val (.int p1), .val (.int p2), .val (.int p3), .val (.int p4), .val (.int p5), .val (.int (4 : Int32)), .val (.ref b3), .val (.int mkx_56), .val (.int (1 : Int32))] [(.int (mkx_56 >>> ((3 : Int32) &&& 31))), (.int (nar .boolean (mvF plx_56 ctx_56 3)))])) _
    refine XS.iconst X88.here hx rfl (hb hby at_203) ?_
    show Steps p.tables e below (T88.setTop (mkF m 204 #[.val (.int p1), .val (.int p2), .val (.int p3), .val (.int p4), .val (.int p5), .val (.int (4 : Int32)), .val (.ref b3), .val (.int mkx_56), .val (.int (1 : Int32))] [(.int (1 : Int32)), (.int (mkx_56 >>> ((3 : Int32) &&& 31))), (.int (nar .boolean (mvF plx_56 ctx_56 3)))])) _
    refine XS.iand X88.here hx rfl (hb hby at_204) rfl ?_
    exact kt)
  obtain ⟨v91, hv91⟩ : ∃ z : Int32, z = (if ((mkx_56 >>> ((3 : Int32) &&& 31)) &&& (1 : Int32)) = (0 : Int32) then (0 : Int32) else (1 : Int32)) := ⟨_, rfl⟩
  have K93 : Gx p e below s₁ f0 T88 (mkF m 213 #[.val (.int p1), .val (.int p2), .val (.int p3), .val (.int p4), .val (.int p5), .val (.int (4 : Int32)), .val (.ref b3), .val (.int mkx_56), .val (.int (1 : Int32))] [(.int v91), (.int (nar .boolean (mvF plx_56 ctx_56 3)))]) := fun t kt => K92 t (by
    by_cases hc205_89 : ((mkx_56 >>> ((3 : Int32) &&& 31)) &&& (1 : Int32)) = (0 : Int32)
    · skip
      show Steps p.tables e below (T88.setTop (mkF m 205 #[.val (.int p1), .val (.int p2), .val (.int p3), .val (.int p4), .val (.int p5), .val (.int (4 : Int32)), .val (.ref b3), .val (.int mkx_56), .val (.int (1 : Int32))] [(.int ((mkx_56 >>> ((3 : Int32) &&& 31)) &&& (1 : Int32))), (.int (nar .boolean (mvF plx_56 ctx_56 3)))])) _
      refine XS.ifYes X88.here hx rfl (pc0 := 205) (pc' := 212) rfl (hb hby at_205) rfl ((if0 _ _).trans (teq hc205_89).1) (by decide) (by decide) ?_
      show Steps p.tables e below (T88.setTop (mkF m 212 #[.val (.int p1), .val (.int p2), .val (.int p3), .val (.int p4), .val (.int p5), .val (.int (4 : Int32)), .val (.ref b3), .val (.int mkx_56), .val (.int (1 : Int32))] [(.int (nar .boolean (mvF plx_56 ctx_56 3)))])) _
      refine XS.iconst X88.here hx rfl (hb hby at_212) ?_
      show Steps p.tables e below (T88.setTop (mkF m 213 #[.val (.int p1), .val (.int p2), .val (.int p3), .val (.int p4), .val (.int p5), .val (.int (4 : Int32)), .val (.ref b3), .val (.int mkx_56), .val (.int (1 : Int32))] [(.int (0 : Int32)), (.int (nar .boolean (mvF plx_56 ctx_56 3)))])) _
      exact castTop (by simp only [hv91, if_pos hc205_89]) kt
    · skip
      show Steps p.tables e below (T88.setTop (mkF m 205 #[.val (.int p1), .val (.int p2), .val (.int p3), .val (.int p4), .val (.int p5), .val (.int (4 : Int32)), .val (.ref b3), .val (.int mkx_56), .val (.int (1 : Int32))] [(.int ((mkx_56 >>> ((3 : Int32) &&& 31)) &&& (1 : Int32))), (.int (nar .boolean (mvF plx_56 ctx_56 3)))])) _
      refine XS.ifNo X88.here hx rfl (hb hby at_205) rfl ((if0 _ _).trans (feq hc205_89).1) ?_
      show Steps p.tables e below (T88.setTop (mkF m 208 #[.val (.int p1), .val (.int p2), .val (.int p3), .val (.int p4), .val (.int p5), .val (.int (4 : Int32)), .val (.ref b3), .val (.int mkx_56), .val (.int (1 : Int32))] [(.int (nar .boolean (mvF plx_56 ctx_56 3)))])) _
      refine XS.iconst X88.here hx rfl (hb hby at_208) ?_
      show Steps p.tables e below (T88.setTop (mkF m 209 #[.val (.int p1), .val (.int p2), .val (.int p3), .val (.int p4), .val (.int p5), .val (.int (4 : Int32)), .val (.ref b3), .val (.int mkx_56), .val (.int (1 : Int32))] [(.int (1 : Int32)), (.int (nar .boolean (mvF plx_56 ctx_56 3)))])) _
      refine XS.goto X88.here hx rfl (pc0 := 209) (pc' := 213) rfl (hb hby at_209) (by decide) (by decide) ?_
      show Steps p.tables e below (T88.setTop (mkF m 213 #[.val (.int p1), .val (.int p2), .val (.int p3), .val (.int p4), .val (.int p5), .val (.int (4 : Int32)), .val (.ref b3), .val (.int mkx_56), .val (.int (1 : Int32))] [(.int (1 : Int32)), (.int (nar .boolean (mvF plx_56 ctx_56 3)))])) _
      exact castTop (by simp only [hv91, if_neg hc205_89]) kt)
  have K94 : Gx p e below s₁ f0 T88 (mkF m 225 #[.val (.int p1), .val (.int p2), .val (.int p3), .val (.int p4), .val (.int p5), .val (.int (4 : Int32)), .val (.ref b3), .val (.int mkx_56), .val (.int (1 : Int32))] [(.int (1 : Int32))]) := fun t kt => K93 t (by
    show Steps p.tables e below (T88.setTop (mkF m 213 #[.val (.int p1), .val (.int p2), .val (.int p3), .val (.int p4), .val (.int p5), .val (.int (4 : Int32)), .val (.ref b3), .val (.int mkx_56), .val (.int (1 : Int32))] [(.int v91), (.int (nar .boolean (mvF plx_56 ctx_56 3)))])) _
    refine XS.icmpNo X88.here hx rfl (hb hby at_213) rfl (teq (by rw [hv91]; exact u4.2 3 (by decide))).2 ?_
    show Steps p.tables e below (T88.setTop (mkF m 216 #[.val (.int p1), .val (.int p2), .val (.int p3), .val (.int p4), .val (.int p5), .val (.int (4 : Int32)), .val (.ref b3), .val (.int mkx_56), .val (.int (1 : Int32))] [])) _
    refine XS.iconst X88.here hx rfl (hb hby at_216) ?_
    show Steps p.tables e below (T88.setTop (mkF m 217 #[.val (.int p1), .val (.int p2), .val (.int p3), .val (.int p4), .val (.int p5), .val (.int (4 : Int32)), .val (.ref b3), .val (.int mkx_56), .val (.int (1 : Int32))] [(.int (1 : Int32))])) _
    refine XS.goto X88.here hx rfl (pc0 := 217) (pc' := 221) rfl (hb hby at_217) (by decide) (by decide) ?_
    show Steps p.tables e below (T88.setTop (mkF m 221 #[.val (.int p1), .val (.int p2), .val (.int p3), .val (.int p4), .val (.int p5), .val (.int (4 : Int32)), .val (.ref b3), .val (.int mkx_56), .val (.int (1 : Int32))] [(.int (1 : Int32))])) _
    refine XS.istore X88.here hx rfl (hb hby at_221) rfl (l' := #[.val (.int p1), .val (.int p2), .val (.int p3), .val (.int p4), .val (.int p5), .val (.int (4 : Int32)), .val (.ref b3), .val (.int mkx_56), .val (.int (1 : Int32))]) rfl ?_
    show Steps p.tables e below (T88.setTop (mkF m 223 #[.val (.int p1), .val (.int p2), .val (.int p3), .val (.int p4), .val (.int p5), .val (.int (4 : Int32)), .val (.ref b3), .val (.int mkx_56), .val (.int (1 : Int32))] [])) _
    refine XS.iload X88.here hx rfl (hb hby at_223) rfl ?_
    exact kt)
  obtain ⟨fs95, hr95, hrun95, hended95, hW95, hsame95⟩ := X88.leave (v := some (.int (1 : Int32))) (fun h => by rw [Bd.returns] at h; cases h)
  refine ⟨_, _, pre0 _ (K94 _ ?_), hrun95, hended95, _, _, rfl, ?_, ⟨_, rfl⟩, hW95, hsame95.mono (by decide) (by decide)⟩
  · exact retN X88 hx (t := .boolean) Bd.returns (by simp) (hb hby at_225) hr95
  · show Q0 Z p1 p2 p3 p4 p5 h0 n0 _ T88.heap _
    rw [e88]
    exact ⟨rfl, N88⟩
theorem rm0 (l : Launch) (Z : State) (a0 : Array Value) (hw : ∀ d ∈ tables_1, d.before a0 Z = true) (ws : List Jvm.Cond) (p1 : Int32) (p2 : Int32) (p3 : Int32) (p4 : Int32) (p5 : Int32) (h0 : Heap) (n0 : Nat) (Z0 : n0 ≤ h0.size) :
    MetFree l x (head1 (Jvm.Cond.code x code maxLocals ret :: ws) room_1) (fun a U => a = #[(.int p1), (.int p2), (.int p3), (.int p4), (.int p5)] ∧ Z.Warmed39 U.vm ∧ U.heap = h0) (fun _ _ _ _ _ => True) (fun _ U o U' => ∃ v L, o = .returned v ∧ Q0 Z p1 p2 p3 p4 p5 h0 n0 v U'.heap L ∧ FrameEnd U o U' L room_1.cells room_1.slots) := by
  rcases own_and3 p1 with h | h | h | h
  · exact rm0_1 l Z a0 hw ws p1 p2 p3 p4 p5 h0 n0 Z0 h
  · exact rm0_2 l Z a0 hw ws p1 p2 p3 p4 p5 h0 n0 Z0 h
  · exact rm0_3 l Z a0 hw ws p1 p2 p3 p4 p5 h0 n0 Z0 h
  · exact rm0_4 l Z a0 hw ws p1 p2 p3 p4 p5 h0 n0 Z0 h
set_option maxRecDepth 65536 in
set_option maxHeartbeats 40000000 in
theorem comes_1 {Post : Tables → Env → Array Value → State → Outcome → State → Prop} (hpost : ∀ tb e args s v u, (limb_1_1.after args s (.returned v) u = true ∧ limb_1_2.after args s (.returned v) u = true ∧ True) → FrameEnd s (.returned v) u (Jvm.fieldLocs frame_1_writes args s ++ Jvm.arrayLocs frame_1_arrays args s ++ Jvm.staticLocs frame_1_statics s) 16 128 → Post tb e args s (.returned v) u) :
    ArmFor flags0 classFile x code maxLocals ret World_1 tables_1 room_1 Calls_1 rest_1 Pre_1 Post := by
  intro l hfl _ _ p e ha hc hk s m args below hf hA hF happ hP
  obtain ⟨hcalls, hrest, hpre⟩ := hP
  obtain ⟨-, -, -, hnamed, -, -, -, hat⟩ := (Spec.applies_iff hf).mp happ
  obtain ⟨hg, hn⟩ := and_e (Cond.before_iff.mp (show (Jvm.Cond.and given_1 narrow_1).before args s = true from hpre))
  obtain ⟨g1, g2⟩ := and_e hg
  obtain ⟨g3, g4⟩ := and_e g2
  obtain ⟨g5, g6⟩ := and_e g4
  obtain ⟨g7, g8⟩ := and_e g6
  obtain ⟨g9, g10⟩ := and_e g8
  obtain ⟨w0, w1, w2, w3, w4, rfl⟩ : ∃ w0 w1 w2 w3 w4 : Value, args = #[w0, w1, w2, w3, w4] := by
    have hs : args.size = 5 := by simpa [Cond.value, given_1] using g1
    obtain ⟨L⟩ := args
    match L, hs with
    | [w0, w1, w2, w3, w4], _ => exact ⟨w0, w1, w2, w3, w4, rfl⟩
  have hw := fun d (hd : d ∈ tables_1) => atoms_spec (ws := Jvm.Cond.code x code maxLocals ret :: tables_1) hat d (List.mem_cons_of_mem _ hd)
  have hfit : Fit s := fun {y c} hc i hi => by
    obtain ⟨ha, rfl⟩ := Array.getElem?_eq_some_iff.mp hc
    have q := List.all_eq_true.mp ((Array.all_eq_true_iff_forall_mem.mp hF) _ (Array.getElem_mem ha)) i (List.mem_range.mpr hi)
    simpa [Array.getElem?_eq_getElem hi] using q
  obtain ⟨i0, ei0⟩ := is_v g3
  obtain rfl : w0 = (.int i0) := Option.some.inj ei0
  obtain ⟨i1, ei1⟩ := is_v g5
  obtain rfl : w1 = (.int i1) := Option.some.inj ei1
  obtain ⟨i2, ei2⟩ := is_v g7
  obtain rfl : w2 = (.int i2) := Option.some.inj ei2
  obtain ⟨i3, ei3⟩ := is_v g9
  obtain rfl : w3 = (.int i3) := Option.some.inj ei3
  obtain ⟨i4, ei4⟩ := is_v g10
  obtain rfl : w4 = (.int i4) := Option.some.inj ei4
  obtain ⟨n, o, h1, h2, h3, _, L, rfl, ⟨rfl, N⟩, hq⟩ := rm0 l s _ hw tables_1 i0 i1 i2 i3 i4 s.heap s.heap.size (Nat.le_refl _) p e ha hc hk s m _ below hf ((Spec.applies_iff_loose hf).mp happ).1 ⟨rfl, State.Warmed39.refl s, rfl⟩ trivial
  refine ⟨n, _, h1, h2, h3, hpost _ _ _ _ _ _ ⟨Cond.after_iff.mpr rfl, Cond.after_iff.mpr (eq_i res_at (Term.int_eval (1)) rfl), trivial⟩ ⟨hq.1, hq.2.1, (hq.2.2.sift fun y hy => Or.inr (N y hy)).mono (by decide) (by decide)⟩⟩
theorem main_1_1 : Claimed_1_1 := comes_1 fun _ _ _ _ _ _ h hF => ⟨h.1, hF⟩
theorem main_1_2 : Claimed_1_2 := comes_1 fun _ _ _ _ _ _ h hF => ⟨h.2.1, hF⟩
end Jvm.Pilot.@@N@@
namespace Jvm.Pilot.@@N@@
open Jvm Jvm.ClassFile Sem Op Lib Jvm.Free Jvm.Stand Jvm.Pilot.@@N@@.Jvm.D
/-! MADE BY PROGRAM (witnessworld.py) out of the Statement's table words and the real class files: 9 classes; the members and pool entries that the words name. The judged class is class 1, her method 1. -/
namespace start1
open Jvm.ClassFile
def u (s : String) : CpInfo := .utf8 (stringToUtf16 s)
/-- a pool by its gaps: so many unusable entries, then the entry; so many at the end -/
def gap : Nat → List CpInfo → List CpInfo
  | 0, r => r
  | n + 1, r => .unusable :: gap n r
def poolList (es : List (Nat × CpInfo)) (last : Nat) : List CpInfo := es.foldr (fun e r => gap e.1 (e.2 :: r)) (gap last [])
def pool (es : List (Nat × CpInfo)) (last : Nat) : Array CpInfo := ⟨poolList es last⟩
def fileOf (pool : Array CpInfo) (this : Nat) (attrs : Array Attribute := #[]) (ms : Array MethodInfo := #[]) (fl : Nat := 33) (sup : Nat := 0) (ifs : Array Nat := #[]) (fds : Array FieldInfo := #[]) : ClassFile where
  minorVersion := 0
  majorVersion := 65
  constantPool := pool
  accessFlags := fl
  thisClass := this
  superClass := sup
  interfaces := ifs
  fields := fds
  methods := ms
  attributes := attrs
def plain (name : String) (sup : Option ClassId) : Class where
  name := name
  kind := .ordinary
  loader := none
  accessFlags := 33
  super := sup
  interfaces := #[]
  cf := none
  fields := #[]
  methods := #[]
  instanceTypes := #[]
  staticTypes := #[]
  resolved := #[]
  callSites := []
  init := .initialized
  statics := none
  mirror := none

def pool0 : Array CpInfo := pool [(5, u "<init>"), (0, u "()V"), (1, .class_ 10), (1, u "java/lang/Object")] 113

def k0c0 : Code := { maxStack := 0, maxLocals := 1, code := object_method_1_code, exceptionTable := #[], attributes := #[] }
def k0m0 : Method := { name := "<init>", desc := "()V", sig := { parameters := [], returnType := none }, accessFlags := 1, code := some k0c0 }
/-- java/lang/Object -/
def k0 : Class := { plain "java/lang/Object" none with
  accessFlags := 33
  interfaces := #[]
  cf := some (fileOf pool0 8 #[] #[{ accessFlags := 1, nameIndex := 5, descriptorIndex := 6, attributes := #[] }] 33 0 #[] #[])
  fields := #[]
  methods := #[k0m0]
  instanceTypes := #[]
  staticTypes := #[]
  resolved := Array.replicate 124 none
  statics := none }

def pool1 : Array CpInfo := pool [(2, .class_ 4), (1, u "java/lang/Object"), (0, u "<init>"), (0, u "()V"), (0, .class_ 8), (0, u "com/example/tideshift/tideshift/engine/MovingShards"), (0, .methodref 7 10), (0, .nameAndType 5 11), (0, u "(I)V"), (0, .methodref 13 14), (0, .class_ 15), (0, .nameAndType 16 17), (0, u "com/example/tideshift/tideshift/engine/MovingShardsIsMovingPinLaw"), (0, u "step"), (0, u "(Lcom/example/tideshift/tideshift/engine/MovingShards;III)I"), (0, .methodref 7 19), (0, .nameAndType 20 21), (0, u "isMoving"), (0, u "(I)Z"), (0, .integer 2147483647), (0, .methodref 7 24), (0, .nameAndType 25 11), (0, u "arrived"), (0, .methodref 7 27), (0, .nameAndType 28 11), (0, u "started"), (2, u "law"), (0, u "(IIIII)Z")] 3

def k1m0 : Method := { name := "<init>", desc := "()V", sig := { parameters := [], returnType := none }, accessFlags := 1, code := none }
def k1c1 : Code := { maxStack := 4, maxLocals := 9, code := code, exceptionTable := #[], attributes := #[] }
def k1m1 : Method := { name := "law", desc := "(IIIII)Z", sig := { parameters := [.int, .int, .int, .int, .int], returnType := some .boolean }, accessFlags := 9, code := some k1c1 }
def k1c2 : Code := { maxStack := 3, maxLocals := 6, code := method_3_code, exceptionTable := #[], attributes := #[] }
def k1m2 : Method := { name := "step", desc := "(Lcom/example/tideshift/tideshift/engine/MovingShards;III)I", sig := { parameters := [(.object "com/example/tideshift/tideshift/engine/MovingShards"), .int, .int, .int], returnType := some .int }, accessFlags := 10, code := some k1c2 }
/-- com/example/tideshift/tideshift/engine/MovingShardsIsMovingPinLaw -/
def k1 : Class := { plain "com/example/tideshift/tideshift/engine/MovingShardsIsMovingPinLaw" (some 0) with
  accessFlags := 49
  interfaces := #[]
  cf := some (fileOf pool1 13 #[] #[{ accessFlags := 1, nameIndex := 5, descriptorIndex := 6, attributes := #[] }, { accessFlags := 9, nameIndex := 31, descriptorIndex := 32, attributes := #[] }, { accessFlags := 10, nameIndex := 16, descriptorIndex := 17, attributes := #[] }] 49 2 #[] #[])
  fields := #[]
  methods := #[k1m0, k1m1, k1m2]
  instanceTypes := #[]
  staticTypes := #[]
  resolved := Array.replicate 36 none
  statics := none }

def pool2 : Array CpInfo := pool [(1, .methodref 2 3), (0, .class_ 4), (0, .nameAndType 5 6), (0, u "java/lang/Object"), (0, u "<init>"), (0, u "()V"), (0, .fieldref 8 9), (0, .class_ 10), (0, .nameAndType 11 12), (0, u "com/example/tideshift/tideshift/engine/MovingShards"), (0, u "still"), (0, u "[I"), (0, .fieldref 8 14), (0, .nameAndType 15 12), (0, u "placeOf"), (0, .fieldref 8 17), (0, .nameAndType 18 19), (0, u "stillCount"), (0, u "I"), (0, .methodref 8 21), (0, .nameAndType 22 23), (0, u "swap"), (0, u "(II)V"), (0, u "(I)V"), (3, u "isMoving"), (0, u "(I)Z"), (4, u "started"), (0, u "arrived")] 2

def k2c0 : Code := { maxStack := 3, maxLocals := 3, code := prog_56_method_1_code, exceptionTable := #[], attributes := #[] }
def k2m0 : Method := { name := "<init>", desc := "(I)V", sig := { parameters := [.int], returnType := none }, accessFlags := 0, code := some k2c0 }
def k2c1 : Code := { maxStack := 2, maxLocals := 2, code := prog_56_method_2_code, exceptionTable := #[], attributes := #[] }
def k2m1 : Method := { name := "isMoving", desc := "(I)Z", sig := { parameters := [.int], returnType := some .boolean }, accessFlags := 0, code := some k2c1 }
def k2c2 : Code := { maxStack := 3, maxLocals := 2, code := prog_56_method_6_code, exceptionTable := #[], attributes := #[] }
def k2m2 : Method := { name := "started", desc := "(I)V", sig := { parameters := [.int], returnType := none }, accessFlags := 0, code := some k2c2 }
def k2c3 : Code := { maxStack := 3, maxLocals := 2, code := prog_56_method_7_code, exceptionTable := #[], attributes := #[] }
def k2m3 : Method := { name := "arrived", desc := "(I)V", sig := { parameters := [.int], returnType := none }, accessFlags := 0, code := some k2c3 }
def k2c4 : Code := { maxStack := 3, maxLocals := 5, code := prog_56_method_8_code, exceptionTable := #[], attributes := #[] }
def k2m4 : Method := { name := "swap", desc := "(II)V", sig := { parameters := [.int, .int], returnType := none }, accessFlags := 2, code := some k2c4 }
/-- com/example/tideshift/tideshift/engine/MovingShards -/
def k2 : Class := { plain "com/example/tideshift/tideshift/engine/MovingShards" (some 0) with
  accessFlags := 48
  interfaces := #[]
  cf := some (fileOf pool2 8 #[] #[{ accessFlags := 0, nameIndex := 5, descriptorIndex := 24, attributes := #[] }, { accessFlags := 0, nameIndex := 28, descriptorIndex := 29, attributes := #[] }, { accessFlags := 0, nameIndex := 34, descriptorIndex := 24, attributes := #[] }, { accessFlags := 0, nameIndex := 35, descriptorIndex := 24, attributes := #[] }, { accessFlags := 2, nameIndex := 22, descriptorIndex := 23, attributes := #[] }] 48 2 #[] #[{ accessFlags := 18, nameIndex := 11, descriptorIndex := 12, attributes := #[] }, { accessFlags := 18, nameIndex := 15, descriptorIndex := 12, attributes := #[] }, { accessFlags := 2, nameIndex := 18, descriptorIndex := 19, attributes := #[] }])
  fields := #[{ name := "still", type := (.array .int), accessFlags := 18, slot := 0, constantValue := 0 }, { name := "placeOf", type := (.array .int), accessFlags := 18, slot := 1, constantValue := 0 }, { name := "stillCount", type := .int, accessFlags := 2, slot := 2, constantValue := 0 }]
  methods := #[k2m0, k2m1, k2m2, k2m3, k2m4]
  instanceTypes := #[(.array .int), (.array .int), .int]
  staticTypes := #[]
  resolved := Array.replicate 38 none
  statics := none }

def pool3 : Array CpInfo := pool [(1, u "java/lang/Cloneable"), (0, .class_ 1), (0, u "java/lang/Object"), (0, .class_ 3)] 3

/-- java/lang/Cloneable -/
def k3 : Class := { plain "java/lang/Cloneable" (some 0) with
  accessFlags := 1537
  interfaces := #[]
  cf := some (fileOf pool3 2 #[] #[] 1537 4 #[] #[])
  fields := #[]
  methods := #[]
  instanceTypes := #[]
  staticTypes := #[]
  resolved := Array.replicate 8 none
  statics := none }

def pool4 : Array CpInfo := pool [(1, u "java/io/Serializable"), (0, .class_ 1), (0, u "java/lang/Object"), (0, .class_ 3)] 3

/-- java/io/Serializable -/
def k4 : Class := { plain "java/io/Serializable" (some 0) with
  accessFlags := 1537
  interfaces := #[]
  cf := some (fileOf pool4 2 #[] #[] 1537 4 #[] #[])
  fields := #[]
  methods := #[]
  instanceTypes := #[]
  staticTypes := #[]
  resolved := Array.replicate 8 none
  statics := none }

/-- the primitive byte -/
def k5 : Class := { plain "byte" none with kind := .primitive 'B', accessFlags := 0x411 }
/-- [B -/
def k6 : Class := { plain "[B" (some 0) with kind := .array 5 .byte, interfaces := #[3, 4], accessFlags := 1041 }

/-- the primitive int -/
def k7 : Class := { plain "int" none with kind := .primitive 'I', accessFlags := 0x411 }
/-- [I -/
def k8 : Class := { plain "[I" (some 0) with kind := .array 7 .int, interfaces := #[3, 4], accessFlags := 1041 }

def heap : Heap := #[]
def classes : Array Class := #[k0, k1, k2, k3, k4, k5, k6, k7, k8]
def interned : List (Array UInt16 × Addr) := []
def slotsUsed : Nat := 0
def theMethod : MethodId := ⟨1, 1⟩
def args0 : Array Value := #[.int 5, .int 6, .int 7, .int 8, .int 9]
def aboutOver (below : List Frame) : State where
  vm := { classes := classes, interned := interned.toArray }
  heap := heap
  slotsUsed := slotsUsed
  threads := #[{ frames := .invoking theMethod args0 :: below }]
def below0 : List Frame := [.native { method := ⟨0, 0⟩, args := #[] }]
def about1 : State := aboutOver below0
def p0 : Program := .bare "" "" ""
def e0 : Env := launch0.env 0 0 0
theorem w_frames : about1.frames = Frame.invoking theMethod args0 :: below0 := rfl
set_option maxRecDepth 65536 in
theorem w_args : argsFit about1.vm theMethod args0 = true := by decide +kernel
set_option maxRecDepth 65536 in
theorem w_heap : heapFits about1 = true := by decide +kernel
set_option maxRecDepth 65536 in
theorem w_runnable : about1.curStatus? = some .runnable := by decide +kernel
set_option maxRecDepth 65536 in
theorem w_alone : about1.alone = true := by decide +kernel
set_option maxRecDepth 65536 in
theorem w_named : about1.methodNamed? x = some theMethod := by decide +kernel
set_option maxRecDepth 65536 in
theorem w_hears : about1.hears theMethod below0 = true := by decide +kernel
set_option maxRecDepth 65536 in
theorem w_ripe : about1.ripe theMethod args0 below0 = true := by decide +kernel
theorem w_running : about1.status = .running := rfl
set_option maxRecDepth 65536 in
theorem w_room : about1.hasRoom e0.platform room_1 = true :=
  launch0.hasRoom_least _ room_1 (by decide +kernel) (by decide +kernel) (by decide +kernel) (by decide +kernel) (by decide +kernel) (by decide +kernel)
theorem allAtoms_all (ts : List Jvm.Cond) (a : Array Jvm.Value) (st : Jvm.State) : (allAtoms ts).before a st = ts.all (fun c => c.before a st) := by
  induction ts with
  | nil => rfl
  | cons c t ih =>
    show (Jvm.Cond.and c (allAtoms t)).before a st = _
    rw [Jvm.Cond.before_and, ih, List.all_cons]
def words1 : List Jvm.Cond := Jvm.Cond.code x code maxLocals ret :: tables_1
/-- a 'code' word, met by the world's own term for the bytes: nothing is compared byte by byte -/
theorem code_word {y : MethodName} {bytes : ByteArray} {mx : Nat} {rt : Option FieldType} {a : Array Value} {s : State} {m : MethodId} {meth : Method} {c : Code} (h1 : s.methodNamed? y = some m) (h2 : s.vm.method? m = some meth) (h3 : meth.code = some c) (h4 : c.code = bytes)
    (h5 : (c.maxLocals == mx && c.exceptionTable.isEmpty && decide (c.maxStack ≤ mostOperands) && decide (meth.sig.returnType = rt) && !meth.locks && decide (parseMethodDescriptor y.desc = some meth.sig)) = true) : (Jvm.Cond.code y bytes mx rt).before a s = true := by
  simp only [Bool.and_eq_true, beq_iff_eq, Bool.not_eq_true', decide_eq_true_eq] at h5
  obtain ⟨⟨⟨⟨⟨g1, g2⟩, g3⟩, g4⟩, g5⟩, g6⟩ := h5
  simp [Cond.before, Cond.holds, Cond.value, h1, h2, h3, h4, g1, g2, g3, g4, g5, g6]
def isCode : Jvm.Cond → Bool
  | .code _ _ _ _ => true
  | _ => false
theorem all_split {L : List Jvm.Cond} {P : Jvm.Cond → Bool} (h1 : L.all (fun c => isCode c || P c) = true) (h2 : ∀ c ∈ L.filter isCode, P c = true) : L.all P = true := by
  refine List.all_eq_true.mpr fun c hc => ?_
  have h := List.all_eq_true.mp h1 c hc
  rcases Bool.eq_false_or_eq_true (isCode c) with hi | hi
  · exact h2 c (List.mem_filter.mpr ⟨hc, hi⟩)
  · simpa [hi] using h
set_option maxRecDepth 65536 in
theorem w_c0 : (Jvm.Cond.code x code maxLocals ret).before args0 about1 = true := code_word (m := ⟨1, 1⟩) (meth := k1m1) (c := k1c1) (by decide +kernel) rfl rfl rfl (by decide +kernel)
set_option maxRecDepth 65536 in
theorem w_c1 : (Jvm.Cond.code ({ cls := "com/example/tideshift/tideshift/engine/MovingShards", name := "<init>", desc := "(I)V" } : Jvm.MethodName) prog_56_method_1_code (3 : Nat) (Option.none : Option Jvm.ClassFile.FieldType)).before args0 about1 = true := code_word (m := ⟨2, 0⟩) (meth := k2m0) (c := k2c0) (by decide +kernel) rfl rfl rfl (by decide +kernel)
set_option maxRecDepth 65536 in
theorem w_c2 : (Jvm.Cond.code ({ cls := "java/lang/Object", name := "<init>", desc := "()V" } : Jvm.MethodName) object_method_1_code (1 : Nat) (Option.none : Option Jvm.ClassFile.FieldType)).before args0 about1 = true := code_word (m := ⟨0, 0⟩) (meth := k0m0) (c := k0c0) (by decide +kernel) rfl rfl rfl (by decide +kernel)
set_option maxRecDepth 65536 in
theorem w_c3 : (Jvm.Cond.code ({ cls := "com/example/tideshift/tideshift/engine/MovingShardsIsMovingPinLaw", name := "step", desc := "(Lcom/example/tideshift/tideshift/engine/MovingShards;III)I" } : Jvm.MethodName) method_3_code (6 : Nat) (Option.some Jvm.ClassFile.FieldType.int)).before args0 about1 = true := code_word (m := ⟨1, 2⟩) (meth := k1m2) (c := k1c2) (by decide +kernel) rfl rfl rfl (by decide +kernel)
set_option maxRecDepth 65536 in
theorem w_c4 : (Jvm.Cond.code ({ cls := "com/example/tideshift/tideshift/engine/MovingShards", name := "started", desc := "(I)V" } : Jvm.MethodName) prog_56_method_6_code (2 : Nat) (Option.none : Option Jvm.ClassFile.FieldType)).before args0 about1 = true := code_word (m := ⟨2, 2⟩) (meth := k2m2) (c := k2c2) (by decide +kernel) rfl rfl rfl (by decide +kernel)
set_option maxRecDepth 65536 in
theorem w_c5 : (Jvm.Cond.code ({ cls := "com/example/tideshift/tideshift/engine/MovingShards", name := "swap", desc := "(II)V" } : Jvm.MethodName) prog_56_method_8_code (5 : Nat) (Option.none : Option Jvm.ClassFile.FieldType)).before args0 about1 = true := code_word (m := ⟨2, 4⟩) (meth := k2m4) (c := k2c4) (by decide +kernel) rfl rfl rfl (by decide +kernel)
set_option maxRecDepth 65536 in
theorem w_c6 : (Jvm.Cond.code ({ cls := "com/example/tideshift/tideshift/engine/MovingShards", name := "arrived", desc := "(I)V" } : Jvm.MethodName) prog_56_method_7_code (2 : Nat) (Option.none : Option Jvm.ClassFile.FieldType)).before args0 about1 = true := code_word (m := ⟨2, 3⟩) (meth := k2m3) (c := k2c3) (by decide +kernel) rfl rfl rfl (by decide +kernel)
set_option maxRecDepth 65536 in
theorem w_c7 : (Jvm.Cond.code ({ cls := "com/example/tideshift/tideshift/engine/MovingShards", name := "isMoving", desc := "(I)Z" } : Jvm.MethodName) prog_56_method_2_code (2 : Nat) (Option.some Jvm.ClassFile.FieldType.boolean)).before args0 about1 = true := code_word (m := ⟨2, 1⟩) (meth := k2m1) (c := k2c1) (by decide +kernel) rfl rfl rfl (by decide +kernel)
def codes1 : List Jvm.Cond := [Jvm.Cond.code x code maxLocals ret, Jvm.Cond.code ({ cls := "com/example/tideshift/tideshift/engine/MovingShards", name := "<init>", desc := "(I)V" } : Jvm.MethodName) prog_56_method_1_code (3 : Nat) (Option.none : Option Jvm.ClassFile.FieldType), Jvm.Cond.code ({ cls := "java/lang/Object", name := "<init>", desc := "()V" } : Jvm.MethodName) object_method_1_code (1 : Nat) (Option.none : Option Jvm.ClassFile.FieldType), Jvm.Cond.code ({ cls := "com/example/tideshift/tideshift/engine/MovingShardsIsMovingPinLaw", name := "step", desc := "(Lcom/example/tideshift/tideshift/engine/MovingShards;III)I" } : Jvm.MethodName) method_3_code (6 : Nat) (Option.some Jvm.ClassFile.FieldType.int), Jvm.Cond.code ({ cls := "com/example/tideshift/tideshift/engine/MovingShards", name := "started", desc := "(I)V" } : Jvm.MethodName) prog_56_method_6_code (2 : Nat) (Option.none : Option Jvm.ClassFile.FieldType), Jvm.Cond.code ({ cls := "com/example/tideshift/tideshift/engine/MovingShards", name := "swap", desc := "(II)V" } : Jvm.MethodName) prog_56_method_8_code (5 : Nat) (Option.none : Option Jvm.ClassFile.FieldType), Jvm.Cond.code ({ cls := "com/example/tideshift/tideshift/engine/MovingShards", name := "arrived", desc := "(I)V" } : Jvm.MethodName) prog_56_method_7_code (2 : Nat) (Option.none : Option Jvm.ClassFile.FieldType), Jvm.Cond.code ({ cls := "com/example/tideshift/tideshift/engine/MovingShards", name := "isMoving", desc := "(I)Z" } : Jvm.MethodName) prog_56_method_2_code (2 : Nat) (Option.some Jvm.ClassFile.FieldType.boolean)]
set_option maxRecDepth 65536 in
theorem codes_eq : words1.filter isCode = codes1 := rfl
theorem w_codes : ∀ c ∈ words1.filter isCode, c.before args0 about1 = true := by
  rw [codes_eq]
  intro c hc
  simp only [codes1, List.mem_cons, List.not_mem_nil, or_false] at hc
  rcases hc with rfl | rfl | rfl | rfl | rfl | rfl | rfl | rfl
  · exact w_c0
  · exact w_c1
  · exact w_c2
  · exact w_c3
  · exact w_c4
  · exact w_c5
  · exact w_c6
  · exact w_c7
set_option maxRecDepth 65536 in
theorem w_t1 : (words1.take 24).all (fun c => isCode c || c.before args0 about1) = true := by decide +kernel
set_option maxRecDepth 65536 in
theorem w_t2 : (words1.drop 24).all (fun c => isCode c || c.before args0 about1) = true := by decide +kernel
theorem w_tables : (allAtoms (Jvm.Cond.code x code maxLocals ret :: tables_1)).before args0 about1 = true := by
  rw [allAtoms_all]
  show words1.all (fun c => c.before args0 about1) = true
  refine all_split ?_ w_codes
  rw [← List.take_append_drop 24 words1, List.all_append, w_t1, w_t2]
  rfl
set_option maxRecDepth 65536 in
theorem w_case : (Jvm.Cond.and given_1 narrow_1).before args0 about1 = true := by decide +kernel
theorem w_applies : (headSpec (Jvm.Cond.code x code maxLocals ret :: tables_1) room_1).applies x e0.platform about1 = true :=
  (Spec.applies_iff w_frames).mpr ⟨w_running, w_runnable, w_alone, w_named, w_hears, w_ripe, w_room, w_tables⟩
theorem atStart : AtStart classFile x code maxLocals ret World_1 tables_1 room_1 Calls_1 rest_1 Pre_1 launch0 p0 e0 about1 theMethod args0 below0 :=
  ⟨lists_1, trivial, launch0.admits_env _ _ _, launch0.least_env, fairChoices_fair.cas, fairChoices_fair.clock, w_frames, w_args, w_heap, w_applies, trivial, trivial, w_case⟩
end start1
theorem witness_1 : WitnessClaimed_1 := ⟨start1.p0, start1.e0, start1.about1, start1.theMethod, start1.args0, start1.below0, start1.atStart⟩
end Jvm.Pilot.@@N@@
