import JvmDerived
import JvmDerived.Pilot.@@N@@Statement
import JvmDerived.Pilot.@@N@@Code
set_option linter.unusedVariables false
set_option linter.unusedSimpArgs false
namespace Jvm.Pilot.@@N@@
open Jvm Jvm.ClassFile Sem Op Lib Jvm.Free Jvm.Stand Jvm.LawKit Jvm.RoadKit Bundle Jvm.Pilot.@@N@@.Jvm.D
/-! steps, taken forward -/
theorem own_fw {tb : Tables} {e : Env} {below : List Frame} {A A' : State} {P : State → Outcome → Prop} (h : ∀ t, Steps tb e below A' t → Steps tb e below A t) (g : ∃ U o, Steps tb e below A' U ∧ P U o) : ∃ U o, Steps tb e below A U ∧ P U o := by
  obtain ⟨U, o, s, r⟩ := g
  exact ⟨U, o, h U s, r⟩
theorem own_st {tb : Tables} {e : Env} {below : List Frame} {A A' t : State} (h : ∀ t, Steps tb e below A' t → Steps tb e below A t) (g : Steps tb e below A' t) : Steps tb e below A t := h t g
theorem own_plainE {Z : State} {h : Heap} {a : Addr} {C : String} (F : Exa Z h a C) : ∀ cell : Cell, h[a]? = some cell → cell.vm.isStatics = false := fun cell hc => by
  obtain ⟨c1, k1, h1, -, -, h4, -⟩ := F
  cases h1.symm.trans hc
  exact h4
theorem own_plainV {Z : State} {h : Heap} {a : Addr} {k : ClassId} {ty : FieldType} {z : Int32} {vs : List Value} {dv : Value} (F : Arv Z h a k ty z vs dv) : ∀ cell : Cell, h[a]? = some cell → cell.vm.isStatics = false := fun cell hc => by
  obtain ⟨c1, A, -⟩ := F
  cases A.1.symm.trans hc
  exact A.plain
theorem own_staKeep {Z : State} {h h' : Heap} {C n d : String} {v : Value} {ws : List Addr} (F : Sta Z h C n d v) (K : Keep h h' ws) (q : ∀ x ∈ ws, ∀ cell : Cell, h[x]? = some cell → cell.vm.isStatics = false) : Sta Z h' C n d v := by
  obtain ⟨cf, i, k, f, st, cell, h1, h2, h3, h4, h5, h6, h7⟩ := F
  exact ⟨cf, i, k, f, st, cell, h1, h2, h3, h4, K.2.1 st cell h5 (fun m => by rw [q st m cell h5] at h6; cases h6), h6, h7⟩
theorem own_insLt {Z : State} {h : Heap} {a : Addr} {C : String} {bo : Bool} (F : Ins Z h a C bo) : a < h.size := by
  obtain ⟨cell, cT, h1, -⟩ := F
  exact (Array.getElem?_eq_some_iff.mp h1).1
theorem own_insKeep {Z : State} {h h' : Heap} {a : Addr} {C : String} {bo : Bool} {ws : List Addr} (F : Ins Z h a C bo) (K : Keep h h' ws) : Ins Z h' a C bo := by
  obtain ⟨cell, cT, h1, h2, h3⟩ := F
  obtain ⟨c', e1, e2, e3, -⟩ := K.2.2 a cell h1
  exact ⟨c', cT, e1, h2, by rw [e2, e3]; exact h3⟩


theorem own_cn (x c : Int32) (h : c = (x &&& (2147483647 : Int32))) : 0 ≤ c.toInt ∧ c.toInt < 2147483648 := by
  have m := c_mask x 2147483647 31 (by decide) (by decide)
  rw [h]
  omega
theorem own_nb (x n : Int32) (h : n = ((1 : Int32) + ((x &&& (2147483647 : Int32)) % (2147483646 : Int32)))) : 1 ≤ n.toInt ∧ n.toInt ≤ 2147483646 := by
  have m := c_mask x 2147483647 31 (by decide) (by decide)
  have r := (c_irem (x &&& (2147483647 : Int32)) 2147483646 2147483646 (by decide)).1 (by omega)
  have a := c_iadd (1 : Int32) ((x &&& (2147483647 : Int32)) % (2147483646 : Int32))
  have e1 : (1 : Int32).toInt = 1 := by decide
  rw [← h] at a
  have g := rng32 n
  omega
theorem own_pred (n : Int32) (h : 1 ≤ n.toInt) : (n - (1 : Int32)).toInt = n.toInt - 1 := by
  have a := c_isub n (1 : Int32)
  have e1 : (1 : Int32).toInt = 1 := by decide
  have g := rng32 n
  have g2 := rng32 (n - (1 : Int32))
  omega
theorem own_sub1 (n c : Int) : (n - 1) * c = n * c - c := by rw [Int.sub_mul, Int.one_mul]
theorem own_e1 (n c : Int32) (h : 1 ≤ n.toInt) : (((n - (1 : Int32)).toInt64) * (c.toInt64)) = (((n.toInt64) * (c.toInt64)) - (c.toInt64)) := by
  have w1 := XT.wideMul (n - (1 : Int32)) c
  have w2 := XT.wideMul n c
  rw [own_pred n h, own_sub1] at w1
  have s := c_lsub ((n.toInt64) * (c.toInt64)) (c.toInt64)
  rw [w2, c_i2l] at s
  have r1 := rng64 (((n - (1 : Int32)).toInt64) * (c.toInt64))
  have r2 := rng64 (((n.toInt64) * (c.toInt64)) - (c.toInt64))
  apply Int64.toInt_inj.mp
  omega
theorem own_e2 (n c : Int32) (h : 1 ≤ n.toInt) (hc : 0 ≤ c.toInt) : ¬ (((n - (1 : Int32)).toInt64) * (c.toInt64)) < (0 : Int64) := by
  have w1 := XT.wideMul (n - (1 : Int32)) c
  rw [own_pred n h] at w1
  have e0 : (0 : Int64).toInt = 0 := by decide
  have := Int.mul_nonneg (show 0 ≤ n.toInt - 1 by omega) hc
  rw [Int64.lt_iff_toInt_lt, e0, w1]
  omega
theorem own_e3 (c : Int32) : ((((1 : Int32) - (1 : Int32)).toInt64) * (c.toInt64)) = (0 : Int64) := by
  have e : (((1 : Int32) - (1 : Int32)).toInt64) = (0 : Int64) := by decide
  rw [e, Int64.zero_mul]
theorem own_e4 (n c : Int32) (h : 1 ≤ n.toInt) : ((((((n + (1 : Int32)) - (1 : Int32))).toInt64) * (c.toInt64)) - (((n - (1 : Int32)).toInt64) * (c.toInt64))) = (c.toInt64) := by
  have e : (n + (1 : Int32)) - (1 : Int32) = n := Int32.add_sub_cancel n 1
  rw [e, own_e1 n c h]
  have s1 := c_lsub ((n.toInt64) * (c.toInt64)) (c.toInt64)
  have s2 := c_lsub ((n.toInt64) * (c.toInt64)) (((n.toInt64) * (c.toInt64)) - (c.toInt64))
  have r1 := rng64 (c.toInt64)
  have r2 := rng64 (((n.toInt64) * (c.toInt64)) - (((n.toInt64) * (c.toInt64)) - (c.toInt64)))
  apply Int64.toInt_inj.mp
  omega

theorem pn_java_lang_Record : plainName "java/lang/Record" = true := by first | (simp [plainName, overriddenIn]; done) | decide +kernel
theorem d_jdk_30_method_1_code_0 : decode jdk_30_method_1_code 0 = .ok (.aload_n 0, 1) := by decide +kernel
theorem d_jdk_30_method_1_code_1 : decode jdk_30_method_1_code 1 = .ok (.invokespecial 1, 3) := by decide +kernel
theorem d_jdk_30_method_1_code_4 : decode jdk_30_method_1_code 4 = .ok (.return_, 1) := by decide +kernel
theorem ef_rmRecord (m : MethodId) (a1 : Addr) : entryFrame m #[(.ref a1)] 1 = mkF m 0 #[.val (.ref a1)] [] := by first | (simp [entryFrame, mkF, argsToLocals, Value.category]; done) | rfl
def Q_rmRecord (Z : State) (a1 : Addr) (h0 : Heap) (n0 : Nat) (v : Option Value) (h : Heap) (L : List Loc) : Prop := v = none ∧ Fr n0 L ∧ h = h0
set_option maxRecDepth 65536 in
set_option maxHeartbeats 40000000 in
theorem rmRecord (l : Launch) (Z : State) (a0 : Array Value) (hw : ∀ d ∈ tables_1, d.before a0 Z = true) (ws : List Jvm.Cond) (a1 : Addr) (h0 : Heap) (n0 : Nat) (Z0 : n0 ≤ h0.size)  :
    MetFree l (⟨"java/lang/Record", "<init>", "()V"⟩ : MethodName) (head1 (Jvm.Cond.code (⟨"java/lang/Record", "<init>", "()V"⟩ : MethodName) jdk_30_method_1_code 1 none :: ws) ({ frames := 1, cells := 0, slots := 0, locals := 12 } : Room)) (fun a U => a = #[(.ref a1)] ∧ Z.Warmed39 U.vm ∧ U.heap = h0) (fun _ _ _ _ _ => True) (fun _ U o U' => ∃ v L, o = .returned v ∧ Q_rmRecord Z a1 h0 n0 v U'.heap L ∧ FrameEnd U o U' L ({ frames := 1, cells := 0, slots := 0, locals := 12 } : Room).cells ({ frames := 1, cells := 0, slots := 0, locals := 12 } : Room).slots) := by
  refine MetFree.of_bodySF (plainFor_of_name pn_java_lang_Record) hisR ?_
  intro p e s m args below meth c s₁ Bd hml0 hP hK
  obtain ⟨rfl, hZ, hh⟩ := hP
  have hx := Bd.exec
  have hby := Bd.bytes
  have hml : c.maxLocals = 1 := hml0
  have hown : s.vm.findClass "java/lang/Record" = some m.cls := findClass_of_methodNamed Bd.named
  have hnm := (name_of_methodNamed Bd.named Bd.method).1
  have X0 : Stand p l e ({ frames := 1, cells := 0, slots := 0, locals := 12 } : Room) s m #[(.ref a1)] below meth c s₁ [] 0 0 := Stand.of_body Bd
  have e0 : s₁.heap = h0 := by rw [← hh, Bd.state]; rfl
  have N0 := Fr.nil n0
  refine own_fw (A' := (s₁.setTop (mkF m 0 #[.val (.ref a1)] []))) (fun t k => castTop (ef_rmRecord m a1) k) ?_
  refine own_fw (A' := (s₁.setTop (mkF m 1 #[.val (.ref a1)] [(.ref a1)]))) (fun t k => XS.aloadN X0.here hx rfl (hb hby d_jdk_30_method_1_code_0) rfl rfl k) ?_
  obtain ⟨T1, X1, e1, st1⟩ := initO X0 hx hZ hown (hw _ (List.mem_of_getElem? (i := 16) rfl)) (hw _ (List.mem_of_getElem? (i := 17) rfl)) (hw _ (List.mem_of_getElem? (i := 18) rfl)) e0 (g := (mkF m 1 #[.val (.ref a1)] [(.ref a1)])) rfl (by rw [hml]; rfl) rfl (hb hby d_jdk_30_method_1_code_1) (by decide) (W := 0) (by show 2 * 0 + _ ≤ _; exact Nat.le_of_eq rfl) (by decide)
  refine own_fw (A' := (T1.setTop (mkF m 4 #[.val (.ref a1)] []))) (fun t k => st1 _ k) ?_
  obtain ⟨fs, hr, hrun, hended, hW, hsame⟩ := X1.leave (v := none) (fun _ => rfl)
  refine ⟨_, _, ?_, hrun, hended, _, _, rfl, ?_, ⟨_, rfl⟩, hW, hsame.mono (by decide) (by decide)⟩
  · exact X1.returnOut hx Bd.returns (hb hby d_jdk_30_method_1_code_4) hr
  · show Q_rmRecord Z a1 h0 n0 _ T1.heap _
    rw [e1]
    exact ⟨rfl, N0, rfl⟩
theorem pn_com_example_kodnik_kodnik_store_Window : plainName "com/example/kodnik/kodnik/store/Window" = true := by first | (simp [plainName, overriddenIn]; done) | decide +kernel
theorem d_prog_63_method_1_code_0 : decode prog_63_method_1_code 0 = .ok (.aload_n 0, 1) := by decide +kernel
theorem d_prog_63_method_1_code_1 : decode prog_63_method_1_code 1 = .ok (.invokespecial 1, 3) := by decide +kernel
theorem pd___V : parseMethodDescriptor "()V" = some ⟨[], none⟩ := by decide +kernel
theorem d_prog_63_method_1_code_4 : decode prog_63_method_1_code 4 = .ok (.aload_n 0, 1) := by decide +kernel
theorem d_prog_63_method_1_code_5 : decode prog_63_method_1_code 5 = .ok (.lload_n 1, 1) := by decide +kernel
theorem d_prog_63_method_1_code_6 : decode prog_63_method_1_code 6 = .ok (.putfield 7, 3) := by decide +kernel
theorem d_prog_63_method_1_code_9 : decode prog_63_method_1_code 9 = .ok (.aload_n 0, 1) := by decide +kernel
theorem d_prog_63_method_1_code_10 : decode prog_63_method_1_code 10 = .ok (.iload_n 3, 1) := by decide +kernel
theorem d_prog_63_method_1_code_11 : decode prog_63_method_1_code 11 = .ok (.putfield 13, 3) := by decide +kernel
theorem d_prog_63_method_1_code_14 : decode prog_63_method_1_code 14 = .ok (.return_, 1) := by decide +kernel
theorem ef_rmInit (m : MethodId) (a1 : Addr) (q2 : Int64) (p3 : Int32) : entryFrame m #[(.ref a1), (.long q2), (.int p3)] 4 = mkF m 0 #[.val (.ref a1), .val (.long q2), .second, .val (.int p3)] [] := by first | (simp [entryFrame, mkF, argsToLocals, Value.category]; done) | rfl
def Q_rmInit (Z : State) (a1 : Addr) (q2 : Int64) (p3 : Int32) (h0 : Heap) (n0 : Nat) (v : Option Value) (h : Heap) (L : List Loc) : Prop := v = none ∧ Fr n0 L ∧ Keep h0 h [a1] ∧ Exa Z h a1 "com/example/kodnik/kodnik/store/Window" ∧ Fld Z h a1 "com/example/kodnik/kodnik/store/Window" "skip" "J" (.long q2) ∧ Fld Z h a1 "com/example/kodnik/kodnik/store/Window" "limit" "I" (.int p3)
set_option maxRecDepth 65536 in
set_option maxHeartbeats 40000000 in
theorem rmInit (l : Launch) (Z : State) (a0 : Array Value) (hw : ∀ d ∈ tables_1, d.before a0 Z = true) (ws : List Jvm.Cond) (a1 : Addr) (q2 : Int64) (p3 : Int32) (h0 : Heap) (n0 : Nat) (Z0 : n0 ≤ h0.size) (P0 : Exa Z h0 a1 "com/example/kodnik/kodnik/store/Window") (P1 : Fld Z h0 a1 "com/example/kodnik/kodnik/store/Window" "skip" "J" (.long (0 : Int64))) (P2 : Fld Z h0 a1 "com/example/kodnik/kodnik/store/Window" "limit" "I" (.int (0 : Int32))) (g_a1 : n0 ≤ a1) :
    MetFree l (⟨"com/example/kodnik/kodnik/store/Window", "<init>", "(JI)V"⟩ : MethodName) (head1 (Jvm.Cond.code (⟨"com/example/kodnik/kodnik/store/Window", "<init>", "(JI)V"⟩ : MethodName) prog_63_method_1_code 4 none :: ws) ({ frames := 2, cells := 0, slots := 0, locals := 24 } : Room)) (fun a U => a = #[(.ref a1), (.long q2), (.int p3)] ∧ Z.Warmed39 U.vm ∧ U.heap = h0) (fun _ _ _ _ _ => True) (fun _ U o U' => ∃ v L, o = .returned v ∧ Q_rmInit Z a1 q2 p3 h0 n0 v U'.heap L ∧ FrameEnd U o U' L ({ frames := 2, cells := 0, slots := 0, locals := 24 } : Room).cells ({ frames := 2, cells := 0, slots := 0, locals := 24 } : Room).slots) := by
  refine MetFree.of_bodySF (plainFor_of_name pn_com_example_kodnik_kodnik_store_Window) hisR ?_
  intro p e s m args below meth c s₁ Bd hml0 hP hK
  obtain ⟨rfl, hZ, hh⟩ := hP
  have hx := Bd.exec
  have hby := Bd.bytes
  have hml : c.maxLocals = 4 := hml0
  have hown : s.vm.findClass "com/example/kodnik/kodnik/store/Window" = some m.cls := findClass_of_methodNamed Bd.named
  have hnm := (name_of_methodNamed Bd.named Bd.method).1
  have X0 : Stand p l e ({ frames := 2, cells := 0, slots := 0, locals := 24 } : Room) s m #[(.ref a1), (.long q2), (.int p3)] below meth c s₁ [] 0 0 := Stand.of_body Bd
  have e0 : s₁.heap = h0 := by rw [← hh, Bd.state]; rfl
  have N0 := Fr.nil n0
  refine own_fw (A' := (s₁.setTop (mkF m 0 #[.val (.ref a1), .val (.long q2), .second, .val (.int p3)] []))) (fun t k => castTop (ef_rmInit m a1 q2 p3) k) ?_
  refine own_fw (A' := (s₁.setTop (mkF m 1 #[.val (.ref a1), .val (.long q2), .second, .val (.int p3)] [(.ref a1)]))) (fun t k => XS.aloadN X0.here hx rfl (hb hby d_prog_63_method_1_code_0) rfl rfl k) ?_
  obtain ⟨_, _, ⟨T1, L1, k1, n1⟩, -, X1, ⟨Lc1, hQ1, l1, y1, z1⟩, st1⟩ := X0.specialBack hx (y := (⟨"java/lang/Record", "<init>", "()V"⟩ : MethodName)) rfl hown (mvT hZ (hw _ (List.mem_of_getElem? (i := 11) rfl))) (mvT hZ (hw _ (List.mem_of_getElem? (i := 12) rfl))) (mvT hZ (hw _ (List.mem_of_getElem? (i := 15) rfl))) (by decide) (backOf (W := 0) (rmRecord l Z a0 hw [] a1 h0 n0 Z0 ) hZ (hw _ (List.mem_of_getElem? (i := 15) rfl)) (hw _ (List.mem_of_getElem? (i := 14) rfl)) (by decide) (by decide)) (g := (mkF m 1 #[.val (.ref a1), .val (.long q2), .second, .val (.int p3)] [(.ref a1)])) rfl (by rw [hml]; rfl) (Steps.refl _) (a := a1) (argsL := []) (rest := []) (lenOf pd___V rfl) rfl (by show 2 * 0 + _ ≤ _; exact Nat.le_of_eq rfl) (hb hby d_prog_63_method_1_code_1) (fun _ _ => ⟨rfl, e0, (by decide : 0 + 0 ≤ _), (by decide : 0 + 0 ≤ _)⟩)
  dsimp only [Pt.U, Pt.locs, Pt.cells, Pt.slots] at X1 l1 y1 z1 st1 hQ1
  subst l1 y1 z1
  obtain ⟨rfl, Nq1, e1⟩ := hQ1
  have Nf1 := Fr.app N0 Nq1
  refine own_fw (A' := (T1.setTop (mkF m 4 #[.val (.ref a1), .val (.long q2), .second, .val (.int p3)] []))) (fun t k => st1.trans k) ?_
  refine own_fw (A' := (T1.setTop (mkF m 5 #[.val (.ref a1), .val (.long q2), .second, .val (.int p3)] [(.ref a1)]))) (fun t k => XS.aloadN X1.here hx rfl (hb hby d_prog_63_method_1_code_4) rfl rfl k) ?_
  refine own_fw (A' := (T1.setTop (mkF m 6 #[.val (.ref a1), .val (.long q2), .second, .val (.int p3)] [(.long q2), (.ref a1)]))) (fun t k => XS.lloadN X1.here hx rfl (hb hby d_prog_63_method_1_code_5) rfl k) ?_
  obtain ⟨T2, h2, X2, e2, W2, st2⟩ := putF X1 hx hZ hown (host := "") (Or.inl (hw _ (List.mem_of_getElem? (i := 19) rfl))) Via.refl e1 P1 P0 (Or.inr ⟨(hw _ (List.mem_of_getElem? (i := 20) rfl)), rfl, hnm⟩) (hw _ (List.mem_of_getElem? (i := 7) rfl)) (ty := .long) (by decide) rfl rfl (g := (mkF m 6 #[.val (.ref a1), .val (.long q2), .second, .val (.int p3)] [(.long q2), (.ref a1)])) rfl rfl (hb hby d_prog_63_method_1_code_6)
  have Fw2 : Fld Z h2 a1 "com/example/kodnik/kodnik/store/Window" "skip" "J" (.long q2) := P1.same W2
  have Nf2 := Fr.snoc X2 Nf1 g_a1
  have K2 : Keep h0 h2 [a1] := (Keep.refl h0 [a1]).wr W2 (Or.inl (List.mem_of_getElem? (i := 0) rfl))
  have Z2 : n0 ≤ h2.size := Nat.le_trans Z0 (Keep.of_wr W2).1
  refine own_fw (A' := (T2.setTop (mkF m 9 #[.val (.ref a1), .val (.long q2), .second, .val (.int p3)] []))) (fun t k => st2 _ k) ?_
  refine own_fw (A' := (T2.setTop (mkF m 10 #[.val (.ref a1), .val (.long q2), .second, .val (.int p3)] [(.ref a1)]))) (fun t k => XS.aloadN X2.here hx rfl (hb hby d_prog_63_method_1_code_9) rfl rfl k) ?_
  refine own_fw (A' := (T2.setTop (mkF m 11 #[.val (.ref a1), .val (.long q2), .second, .val (.int p3)] [(.int p3), (.ref a1)]))) (fun t k => XS.iloadN X2.here hx rfl (hb hby d_prog_63_method_1_code_10) rfl k) ?_
  obtain ⟨T3, h3, X3, e3, W3, st3⟩ := putF X2 hx hZ hown (host := "") (Or.inl (hw _ (List.mem_of_getElem? (i := 21) rfl))) Via.refl e2 (P2.other W2 (Or.inr (slot_ne (Or.inr (hw _ (List.mem_of_getElem? (i := 22) rfl))) (Or.inr (hw _ (List.mem_of_getElem? (i := 20) rfl))) (by decide) (t := .int) (t' := .long) (by decide) (by decide)))) (P0.wr W2) (Or.inr ⟨(hw _ (List.mem_of_getElem? (i := 22) rfl)), rfl, hnm⟩) (hw _ (List.mem_of_getElem? (i := 7) rfl)) (ty := .int) (by decide) rfl rfl (g := (mkF m 11 #[.val (.ref a1), .val (.long q2), .second, .val (.int p3)] [(.int p3), (.ref a1)])) rfl rfl (hb hby d_prog_63_method_1_code_11)
  have Fw3 : Fld Z h3 a1 "com/example/kodnik/kodnik/store/Window" "limit" "I" (.int p3) := (P2.other W2 (Or.inr (slot_ne (Or.inr (hw _ (List.mem_of_getElem? (i := 22) rfl))) (Or.inr (hw _ (List.mem_of_getElem? (i := 20) rfl))) (by decide) (t := .int) (t' := .long) (by decide) (by decide)))).same W3
  have Nf3 := Fr.snoc X3 Nf2 g_a1
  have K3 : Keep h0 h3 [a1] := K2.wr W3 (Or.inl (List.mem_of_getElem? (i := 0) rfl))
  have Z3 : n0 ≤ h3.size := Nat.le_trans Z2 (Keep.of_wr W3).1
  refine own_fw (A' := (T3.setTop (mkF m 14 #[.val (.ref a1), .val (.long q2), .second, .val (.int p3)] []))) (fun t k => st3 _ k) ?_
  obtain ⟨fs, hr, hrun, hended, hW, hsame⟩ := X3.leave (v := none) (fun _ => rfl)
  refine ⟨_, _, ?_, hrun, hended, _, _, rfl, ?_, ⟨_, rfl⟩, hW, hsame.mono (by decide) (by decide)⟩
  · exact X3.returnOut hx Bd.returns (hb hby d_prog_63_method_1_code_14) hr
  · show Q_rmInit Z a1 q2 p3 h0 n0 _ T3.heap _
    rw [e3]
    exact ⟨rfl, Nf3, K3, ((P0.wr W2).wr W3), (Fw2.other W3 (Or.inr (slot_ne (Or.inr (hw _ (List.mem_of_getElem? (i := 20) rfl))) (Or.inr (hw _ (List.mem_of_getElem? (i := 22) rfl))) (by decide) (t := .long) (t' := .int) (by decide) (by decide)))), Fw3⟩
theorem d_prog_63_method_2_code_0 : decode prog_63_method_2_code 0 = .ok (.new 8, 3) := by decide +kernel
theorem d_prog_63_method_2_code_3 : decode prog_63_method_2_code 3 = .ok (.dup, 1) := by decide +kernel
theorem d_prog_63_method_2_code_4 : decode prog_63_method_2_code 4 = .ok (.iload_n 1, 1) := by decide +kernel
theorem d_prog_63_method_2_code_5 : decode prog_63_method_2_code 5 = .ok (.iconst 1, 1) := by decide +kernel
theorem d_prog_63_method_2_code_6 : decode prog_63_method_2_code 6 = .ok (.isub, 1) := by decide +kernel
theorem d_prog_63_method_2_code_7 : decode prog_63_method_2_code 7 = .ok (.i2l, 1) := by decide +kernel
theorem d_prog_63_method_2_code_8 : decode prog_63_method_2_code 8 = .ok (.iload_n 0, 1) := by decide +kernel
theorem d_prog_63_method_2_code_9 : decode prog_63_method_2_code 9 = .ok (.i2l, 1) := by decide +kernel
theorem d_prog_63_method_2_code_10 : decode prog_63_method_2_code 10 = .ok (.lmul, 1) := by decide +kernel
theorem d_prog_63_method_2_code_11 : decode prog_63_method_2_code 11 = .ok (.iload_n 0, 1) := by decide +kernel
theorem d_prog_63_method_2_code_12 : decode prog_63_method_2_code 12 = .ok (.invokespecial 17, 3) := by decide +kernel
theorem pd__JI_V : parseMethodDescriptor "(JI)V" = some ⟨[.long, .int], none⟩ := by decide +kernel
theorem d_prog_63_method_2_code_15 : decode prog_63_method_2_code 15 = .ok (.areturn, 1) := by decide +kernel
theorem ef_rmPage (m : MethodId) (p1 : Int32) (p2 : Int32) : entryFrame m #[(.int p1), (.int p2)] 2 = mkF m 0 #[.val (.int p1), .val (.int p2)] [] := by first | (simp [entryFrame, mkF, argsToLocals, Value.category]; done) | rfl
def Q_rmPage (Z : State) (p1 : Int32) (p2 : Int32) (h0 : Heap) (n0 : Nat) (v : Option Value) (h : Heap) (L : List Loc) : Prop := ∃ b : Addr, v = some (.ref b) ∧ Fr n0 L ∧ Keep h0 h [] ∧ Exa Z h b "com/example/kodnik/kodnik/store/Window" ∧ Fld Z h b "com/example/kodnik/kodnik/store/Window" "skip" "J" (.long (((p2 - (1 : Int32)).toInt64) * (p1.toInt64))) ∧ Fld Z h b "com/example/kodnik/kodnik/store/Window" "limit" "I" (.int p1) ∧ (h0.size ≤ b)
set_option maxRecDepth 65536 in
set_option maxHeartbeats 40000000 in
theorem rmPage (l : Launch) (Z : State) (a0 : Array Value) (hw : ∀ d ∈ tables_1, d.before a0 Z = true) (ws : List Jvm.Cond) (p1 : Int32) (p2 : Int32) (h0 : Heap) (n0 : Nat) (Z0 : n0 ≤ h0.size)  :
    MetFree l (⟨"com/example/kodnik/kodnik/store/Window", "page", "(II)Lcom/example/kodnik/kodnik/store/Window;"⟩ : MethodName) (head1 (Jvm.Cond.code (⟨"com/example/kodnik/kodnik/store/Window", "page", "(II)Lcom/example/kodnik/kodnik/store/Window;"⟩ : MethodName) prog_63_method_2_code 2 (some (.object "com/example/kodnik/kodnik/store/Window")) :: ws) ({ frames := 3, cells := 1, slots := 2, locals := 40 } : Room)) (fun a U => a = #[(.int p1), (.int p2)] ∧ Z.Warmed39 U.vm ∧ U.heap = h0) (fun _ _ _ _ _ => True) (fun _ U o U' => ∃ v L, o = .returned v ∧ Q_rmPage Z p1 p2 h0 n0 v U'.heap L ∧ FrameEnd U o U' L ({ frames := 3, cells := 1, slots := 2, locals := 40 } : Room).cells ({ frames := 3, cells := 1, slots := 2, locals := 40 } : Room).slots) := by
  refine MetFree.of_bodySF (plainFor_of_name pn_com_example_kodnik_kodnik_store_Window) hisR ?_
  intro p e s m args below meth c s₁ Bd hml0 hP hK
  obtain ⟨rfl, hZ, hh⟩ := hP
  have hx := Bd.exec
  have hby := Bd.bytes
  have hml : c.maxLocals = 2 := hml0
  have hown : s.vm.findClass "com/example/kodnik/kodnik/store/Window" = some m.cls := findClass_of_methodNamed Bd.named
  have hnm := (name_of_methodNamed Bd.named Bd.method).1
  have X0 : Stand p l e ({ frames := 3, cells := 1, slots := 2, locals := 40 } : Room) s m #[(.int p1), (.int p2)] below meth c s₁ [] 0 0 := Stand.of_body Bd
  have e0 : s₁.heap = h0 := by rw [← hh, Bd.state]; rfl
  have N0 := Fr.nil n0
  refine own_fw (A' := (s₁.setTop (mkF m 0 #[.val (.int p1), .val (.int p2)] []))) (fun t k => castTop (ef_rmPage m p1 p2) k) ?_
  obtain ⟨T1, h1, X1, e1, E1, A1, D1, -, st1⟩ := newO X0 hx hZ hown (hw _ (List.mem_of_getElem? (i := 6) rfl)) (hw _ (List.mem_of_getElem? (i := 7) rfl)) (hw _ (List.mem_of_getElem? (i := 4) rfl)) e0 (g := (mkF m 0 #[.val (.int p1), .val (.int p2)] [])) rfl (hb hby d_prog_63_method_2_code_0) (by decide) (by decide)
  obtain ⟨b1, gb1⟩ : ∃ z, z = h0.size := ⟨_, rfl⟩
  have g_b1 : n0 ≤ b1 := Nat.le_trans Z0 (Nat.le_of_eq gb1.symm)
  have sz_b1 : h0.size ≤ b1 := Nat.le_trans (Keep.refl h0 []).1 (Nat.le_of_eq gb1.symm)
  rw [← gb1] at A1 D1 st1
  have F_skip_b1 : Fld Z h1 b1 "com/example/kodnik/kodnik/store/Window" "skip" "J" (.long (0 : Int64)) := D1 (Or.inr (hw _ (List.mem_of_getElem? (i := 20) rfl))) (ty := .long) (by decide)
  have F_limit_b1 : Fld Z h1 b1 "com/example/kodnik/kodnik/store/Window" "limit" "I" (.int (0 : Int32)) := D1 (Or.inr (hw _ (List.mem_of_getElem? (i := 22) rfl))) (ty := .int) (by decide)
  have K1 : Keep h0 h1 [] := (Keep.refl h0 []).ext E1
  have Z1 : n0 ≤ h1.size := Nat.le_trans Z0 E1.1
  refine own_fw (A' := (T1.setTop (mkF m 3 #[.val (.int p1), .val (.int p2)] [(.ref b1)]))) (fun t k => st1 _ k) ?_
  refine own_fw (A' := (T1.setTop (mkF m 4 #[.val (.int p1), .val (.int p2)] [(.ref b1), (.ref b1)]))) (fun t k => XS.dup X1.here hx rfl (hb hby d_prog_63_method_2_code_3) rfl rfl k) ?_
  refine own_fw (A' := (T1.setTop (mkF m 5 #[.val (.int p1), .val (.int p2)] [(.int p2), (.ref b1), (.ref b1)]))) (fun t k => XS.iloadN X1.here hx rfl (hb hby d_prog_63_method_2_code_4) rfl k) ?_
  refine own_fw (A' := (T1.setTop (mkF m 6 #[.val (.int p1), .val (.int p2)] [(.int (1 : Int32)), (.int p2), (.ref b1), (.ref b1)]))) (fun t k => XS.iconst X1.here hx rfl (hb hby d_prog_63_method_2_code_5) k) ?_
  refine own_fw (A' := (T1.setTop (mkF m 7 #[.val (.int p1), .val (.int p2)] [(.int (p2 - (1 : Int32))), (.ref b1), (.ref b1)]))) (fun t k => XS.isub X1.here hx rfl (hb hby d_prog_63_method_2_code_6) rfl k) ?_
  refine own_fw (A' := (T1.setTop (mkF m 8 #[.val (.int p1), .val (.int p2)] [(.long ((p2 - (1 : Int32)).toInt64)), (.ref b1), (.ref b1)]))) (fun t k => XS.i2l X1.here hx rfl (hb hby d_prog_63_method_2_code_7) rfl k) ?_
  refine own_fw (A' := (T1.setTop (mkF m 9 #[.val (.int p1), .val (.int p2)] [(.int p1), (.long ((p2 - (1 : Int32)).toInt64)), (.ref b1), (.ref b1)]))) (fun t k => XS.iloadN X1.here hx rfl (hb hby d_prog_63_method_2_code_8) rfl k) ?_
  refine own_fw (A' := (T1.setTop (mkF m 10 #[.val (.int p1), .val (.int p2)] [(.long (p1.toInt64)), (.long ((p2 - (1 : Int32)).toInt64)), (.ref b1), (.ref b1)]))) (fun t k => XS.i2l X1.here hx rfl (hb hby d_prog_63_method_2_code_9) rfl k) ?_
  refine own_fw (A' := (T1.setTop (mkF m 11 #[.val (.int p1), .val (.int p2)] [(.long (((p2 - (1 : Int32)).toInt64) * (p1.toInt64))), (.ref b1), (.ref b1)]))) (fun t k => XS.lmul X1.here hx rfl (hb hby d_prog_63_method_2_code_10) rfl k) ?_
  refine own_fw (A' := (T1.setTop (mkF m 12 #[.val (.int p1), .val (.int p2)] [(.int p1), (.long (((p2 - (1 : Int32)).toInt64) * (p1.toInt64))), (.ref b1), (.ref b1)]))) (fun t k => XS.iloadN X1.here hx rfl (hb hby d_prog_63_method_2_code_11) rfl k) ?_
  obtain ⟨_, _, ⟨T2, L2, k2, n2⟩, -, X2, ⟨Lc2, hQ2, l2, y2, z2⟩, st2⟩ := X1.specialBack hx (y := (⟨"com/example/kodnik/kodnik/store/Window", "<init>", "(JI)V"⟩ : MethodName)) rfl hown (mvT hZ (hw _ (List.mem_of_getElem? (i := 8) rfl))) (mvT hZ (hw _ (List.mem_of_getElem? (i := 9) rfl))) (mvT hZ (hw _ (List.mem_of_getElem? (i := 10) rfl))) (by decide) (backOf (W := 1) (rmInit l Z a0 hw [] b1 (((p2 - (1 : Int32)).toInt64) * (p1.toInt64)) p1 h1 n0 Z1 A1 F_skip_b1 F_limit_b1 g_b1) hZ (hw _ (List.mem_of_getElem? (i := 10) rfl)) (hw _ (List.mem_of_getElem? (i := 4) rfl)) (by decide) (by decide)) (g := (mkF m 12 #[.val (.int p1), .val (.int p2)] [(.int p1), (.long (((p2 - (1 : Int32)).toInt64) * (p1.toInt64))), (.ref b1), (.ref b1)])) rfl (by rw [hml]; rfl) (Steps.refl _) (a := b1) (argsL := [(.long (((p2 - (1 : Int32)).toInt64) * (p1.toInt64))), (.int p1)]) (rest := [(.ref b1)]) (lenOf pd__JI_V rfl) rfl (by show 2 * 0 + _ ≤ _; exact Nat.le_of_eq rfl) (hb hby d_prog_63_method_2_code_12) (fun _ _ => ⟨rfl, e1, (by decide : 1 + 0 ≤ _), (by decide : 2 + 0 ≤ _)⟩)
  dsimp only [Pt.U, Pt.locs, Pt.cells, Pt.slots] at X2 l2 y2 z2 st2 hQ2
  subst l2 y2 z2
  obtain ⟨rfl, Nq2, Kq2, Fq2_0, Fq2_1, Fq2_2⟩ := hQ2
  have Nf2 := Fr.app N0 Nq2
  have K2 : Keep h0 T2.heap [] := K1.trans Kq2 (allS (Or.inr sz_b1) all0)
  have Z2 : n0 ≤ T2.heap.size := Nat.le_trans Z1 Kq2.1
  refine own_fw (A' := (T2.setTop (mkF m 15 #[.val (.int p1), .val (.int p2)] [(.ref b1)]))) (fun t k => st2.trans k) ?_
  obtain ⟨fs, hr, hrun, hended, hW, hsame⟩ := X2.leave (v := some (.ref b1)) (fun h => by rw [Bd.returns] at h; cases h)
  refine ⟨_, _, ?_, hrun, hended, _, _, rfl, ?_, ⟨_, rfl⟩, hW, hsame.mono (by decide) (by decide)⟩
  · exact retOut X2 hx Bd.returns rfl (Or.inr (Or.inr (Or.inr (Or.inr ⟨rfl, rfl, rfl⟩)))) (hb hby d_prog_63_method_2_code_15) hr
  · show Q_rmPage Z p1 p2 h0 n0 _ T2.heap _
    exact ⟨b1, rfl, Nf2, K2, Fq2_0, Fq2_1, Fq2_2, sz_b1⟩
theorem d_prog_63_method_8_code_0 : decode prog_63_method_8_code 0 = .ok (.aload_n 0, 1) := by decide +kernel
theorem d_prog_63_method_8_code_1 : decode prog_63_method_8_code 1 = .ok (.getfield 13, 3) := by decide +kernel
theorem d_prog_63_method_8_code_4 : decode prog_63_method_8_code 4 = .ok (.ireturn, 1) := by decide +kernel
theorem ef_rmLimit (m : MethodId) (a1 : Addr) : entryFrame m #[(.ref a1)] 1 = mkF m 0 #[.val (.ref a1)] [] := by first | (simp [entryFrame, mkF, argsToLocals, Value.category]; done) | rfl
def Q_rmLimit (Z : State) (a1 : Addr) (p2 : Int32) (h0 : Heap) (n0 : Nat) (v : Option Value) (h : Heap) (L : List Loc) : Prop := v = some (.int p2) ∧ Fr n0 L ∧ h = h0
set_option maxRecDepth 65536 in
set_option maxHeartbeats 40000000 in
theorem rmLimit (l : Launch) (Z : State) (a0 : Array Value) (hw : ∀ d ∈ tables_1, d.before a0 Z = true) (ws : List Jvm.Cond) (a1 : Addr) (p2 : Int32) (h0 : Heap) (n0 : Nat) (Z0 : n0 ≤ h0.size) (P0 : Fld Z h0 a1 "com/example/kodnik/kodnik/store/Window" "limit" "I" (.int p2)) :
    MetFree l (⟨"com/example/kodnik/kodnik/store/Window", "limit", "()I"⟩ : MethodName) (head1 (Jvm.Cond.code (⟨"com/example/kodnik/kodnik/store/Window", "limit", "()I"⟩ : MethodName) prog_63_method_8_code 1 (some .int) :: ws) ({ frames := 0, cells := 0, slots := 0, locals := 0 } : Room)) (fun a U => a = #[(.ref a1)] ∧ Z.Warmed39 U.vm ∧ U.heap = h0) (fun _ _ _ _ _ => True) (fun _ U o U' => ∃ v L, o = .returned v ∧ Q_rmLimit Z a1 p2 h0 n0 v U'.heap L ∧ FrameEnd U o U' L ({ frames := 0, cells := 0, slots := 0, locals := 0 } : Room).cells ({ frames := 0, cells := 0, slots := 0, locals := 0 } : Room).slots) := by
  refine MetFree.of_bodySF (plainFor_of_name pn_com_example_kodnik_kodnik_store_Window) hisR ?_
  intro p e s m args below meth c s₁ Bd hml0 hP hK
  obtain ⟨rfl, hZ, hh⟩ := hP
  have hx := Bd.exec
  have hby := Bd.bytes
  have hml : c.maxLocals = 1 := hml0
  have hown : s.vm.findClass "com/example/kodnik/kodnik/store/Window" = some m.cls := findClass_of_methodNamed Bd.named
  have hnm := (name_of_methodNamed Bd.named Bd.method).1
  have X0 : Stand p l e ({ frames := 0, cells := 0, slots := 0, locals := 0 } : Room) s m #[(.ref a1)] below meth c s₁ [] 0 0 := Stand.of_body Bd
  have e0 : s₁.heap = h0 := by rw [← hh, Bd.state]; rfl
  have N0 := Fr.nil n0
  refine own_fw (A' := (s₁.setTop (mkF m 0 #[.val (.ref a1)] []))) (fun t k => castTop (ef_rmLimit m a1) k) ?_
  refine own_fw (A' := (s₁.setTop (mkF m 1 #[.val (.ref a1)] [(.ref a1)]))) (fun t k => XS.aloadN X0.here hx rfl (hb hby d_prog_63_method_8_code_0) rfl rfl k) ?_
  obtain ⟨T1, X1, e1, st1⟩ := getF X0 hx hZ hown (host := "") (Or.inl (hw _ (List.mem_of_getElem? (i := 21) rfl))) Via.refl e0 P0 (g := (mkF m 1 #[.val (.ref a1)] [(.ref a1)])) rfl rfl (hb hby d_prog_63_method_8_code_1)
  refine own_fw (A' := (T1.setTop (mkF m 4 #[.val (.ref a1)] [(.int p2)]))) (fun t k => st1 _ k) ?_
  obtain ⟨fs, hr, hrun, hended, hW, hsame⟩ := X1.leave (v := some (.int p2)) (fun h => by rw [Bd.returns] at h; cases h)
  refine ⟨_, _, ?_, hrun, hended, _, _, rfl, ?_, ⟨_, rfl⟩, hW, hsame.mono (by decide) (by decide)⟩
  · exact retOut X1 hx Bd.returns rfl (Or.inl ⟨rfl, by simp, _, rfl⟩) (hb hby d_prog_63_method_8_code_4) hr
  · show Q_rmLimit Z a1 p2 h0 n0 _ T1.heap _
    rw [e1]
    exact ⟨rfl, N0, rfl⟩
theorem d_prog_63_method_7_code_0 : decode prog_63_method_7_code 0 = .ok (.aload_n 0, 1) := by decide +kernel
theorem d_prog_63_method_7_code_1 : decode prog_63_method_7_code 1 = .ok (.getfield 7, 3) := by decide +kernel
theorem d_prog_63_method_7_code_4 : decode prog_63_method_7_code 4 = .ok (.lreturn, 1) := by decide +kernel
theorem ef_rmSkip (m : MethodId) (a1 : Addr) : entryFrame m #[(.ref a1)] 1 = mkF m 0 #[.val (.ref a1)] [] := by first | (simp [entryFrame, mkF, argsToLocals, Value.category]; done) | rfl
def Q_rmSkip (Z : State) (a1 : Addr) (q2 : Int64) (h0 : Heap) (n0 : Nat) (v : Option Value) (h : Heap) (L : List Loc) : Prop := v = some (.long q2) ∧ Fr n0 L ∧ h = h0
set_option maxRecDepth 65536 in
set_option maxHeartbeats 40000000 in
theorem rmSkip (l : Launch) (Z : State) (a0 : Array Value) (hw : ∀ d ∈ tables_1, d.before a0 Z = true) (ws : List Jvm.Cond) (a1 : Addr) (q2 : Int64) (h0 : Heap) (n0 : Nat) (Z0 : n0 ≤ h0.size) (P0 : Fld Z h0 a1 "com/example/kodnik/kodnik/store/Window" "skip" "J" (.long q2)) :
    MetFree l (⟨"com/example/kodnik/kodnik/store/Window", "skip", "()J"⟩ : MethodName) (head1 (Jvm.Cond.code (⟨"com/example/kodnik/kodnik/store/Window", "skip", "()J"⟩ : MethodName) prog_63_method_7_code 1 (some .long) :: ws) ({ frames := 0, cells := 0, slots := 0, locals := 0 } : Room)) (fun a U => a = #[(.ref a1)] ∧ Z.Warmed39 U.vm ∧ U.heap = h0) (fun _ _ _ _ _ => True) (fun _ U o U' => ∃ v L, o = .returned v ∧ Q_rmSkip Z a1 q2 h0 n0 v U'.heap L ∧ FrameEnd U o U' L ({ frames := 0, cells := 0, slots := 0, locals := 0 } : Room).cells ({ frames := 0, cells := 0, slots := 0, locals := 0 } : Room).slots) := by
  refine MetFree.of_bodySF (plainFor_of_name pn_com_example_kodnik_kodnik_store_Window) hisR ?_
  intro p e s m args below meth c s₁ Bd hml0 hP hK
  obtain ⟨rfl, hZ, hh⟩ := hP
  have hx := Bd.exec
  have hby := Bd.bytes
  have hml : c.maxLocals = 1 := hml0
  have hown : s.vm.findClass "com/example/kodnik/kodnik/store/Window" = some m.cls := findClass_of_methodNamed Bd.named
  have hnm := (name_of_methodNamed Bd.named Bd.method).1
  have X0 : Stand p l e ({ frames := 0, cells := 0, slots := 0, locals := 0 } : Room) s m #[(.ref a1)] below meth c s₁ [] 0 0 := Stand.of_body Bd
  have e0 : s₁.heap = h0 := by rw [← hh, Bd.state]; rfl
  have N0 := Fr.nil n0
  refine own_fw (A' := (s₁.setTop (mkF m 0 #[.val (.ref a1)] []))) (fun t k => castTop (ef_rmSkip m a1) k) ?_
  refine own_fw (A' := (s₁.setTop (mkF m 1 #[.val (.ref a1)] [(.ref a1)]))) (fun t k => XS.aloadN X0.here hx rfl (hb hby d_prog_63_method_7_code_0) rfl rfl k) ?_
  obtain ⟨T1, X1, e1, st1⟩ := getF X0 hx hZ hown (host := "") (Or.inl (hw _ (List.mem_of_getElem? (i := 19) rfl))) Via.refl e0 P0 (g := (mkF m 1 #[.val (.ref a1)] [(.ref a1)])) rfl rfl (hb hby d_prog_63_method_7_code_1)
  refine own_fw (A' := (T1.setTop (mkF m 4 #[.val (.ref a1)] [(.long q2)]))) (fun t k => st1 _ k) ?_
  obtain ⟨fs, hr, hrun, hended, hW, hsame⟩ := X1.leave (v := some (.long q2)) (fun h => by rw [Bd.returns] at h; cases h)
  refine ⟨_, _, ?_, hrun, hended, _, _, rfl, ?_, ⟨_, rfl⟩, hW, hsame.mono (by decide) (by decide)⟩
  · exact retOut X1 hx Bd.returns rfl (Or.inr (Or.inl ⟨rfl, rfl, _, rfl⟩)) (hb hby d_prog_63_method_7_code_4) hr
  · show Q_rmSkip Z a1 q2 h0 n0 _ T1.heap _
    rw [e1]
    exact ⟨rfl, N0, rfl⟩
theorem pn_com_example_kodnik_kodnik_store_WindowPagePinLaw : plainName "com/example/kodnik/kodnik/store/WindowPagePinLaw" = true := by first | (simp [plainName, overriddenIn]; done) | decide +kernel
theorem pd__II_Lcom_example_kodnik_kodnik_store_Window_ : parseMethodDescriptor "(II)Lcom/example/kodnik/kodnik/store/Window;" = some ⟨[.int, .int], some (.object "com/example/kodnik/kodnik/store/Window")⟩ := by decide +kernel
theorem pd___I : parseMethodDescriptor "()I" = some ⟨[], some .int⟩ := by decide +kernel
theorem pd___J : parseMethodDescriptor "()J" = some ⟨[], some .long⟩ := by decide +kernel
theorem ef_rm0 (m : MethodId) (p1 : Int32) (p2 : Int32) : entryFrame m #[(.int p1), (.int p2)] maxLocals = mkF m 0 #[.val (.int p1), .val (.int p2), .unset, .unset, .unset, .unset, .unset, .unset, .unset, .unset, .unset, .unset, .unset] [] := by first | (simp [entryFrame, mkF, argsToLocals, Value.category, maxLocals]; done) | rfl
def Q_rm0 (Z : State) (p1 : Int32) (p2 : Int32) (h0 : Heap) (n0 : Nat) (v : Option Value) (h : Heap) (L : List Loc) : Prop := v = some (.int (1 : Int32)) ∧ Fr n0 L
set_option maxRecDepth 65536 in
set_option maxHeartbeats 40000000 in
theorem rm0 (l : Launch) (Z : State) (a0 : Array Value) (hw : ∀ d ∈ tables_1, d.before a0 Z = true) (ws : List Jvm.Cond) (p1 : Int32) (p2 : Int32) (h0 : Heap) (n0 : Nat) (Z0 : n0 ≤ h0.size)  :
    MetFree l x (head1 (Jvm.Cond.code x code maxLocals ret :: ws) room_1) (fun a U => a = #[(.int p1), (.int p2)] ∧ Z.Warmed39 U.vm ∧ U.heap = h0) (fun _ _ _ _ _ => True) (fun _ U o U' => ∃ v L, o = .returned v ∧ Q_rm0 Z p1 p2 h0 n0 v U'.heap L ∧ FrameEnd U o U' L room_1.cells room_1.slots) := by
  refine MetFree.of_bodySF (plainFor_of_name pn_com_example_kodnik_kodnik_store_WindowPagePinLaw) hisR ?_
  intro p e s m args below meth c s₁ Bd hml0 hP hK
  obtain ⟨rfl, hZ, hh⟩ := hP
  have hx := Bd.exec
  have hby := Bd.bytes
  have hml : c.maxLocals = 13 := hml0
  have hown : s.vm.findClass "com/example/kodnik/kodnik/store/WindowPagePinLaw" = some m.cls := findClass_of_methodNamed Bd.named
  have hnm := (name_of_methodNamed Bd.named Bd.method).1
  have X0 : Stand p l e room_1 s m #[(.int p1), (.int p2)] below meth c s₁ [] 0 0 := Stand.of_body Bd
  have e0 : s₁.heap = h0 := by rw [← hh, Bd.state]; rfl
  have N0 := Fr.nil n0
  refine own_fw (A' := (s₁.setTop (mkF m 0 #[.val (.int p1), .val (.int p2), .unset, .unset, .unset, .unset, .unset, .unset, .unset, .unset, .unset, .unset, .unset] []))) (fun t k => castTop (ef_rm0 m p1 p2) k) ?_
  refine own_fw (A' := (s₁.setTop (mkF m 1 #[.val (.int p1), .val (.int p2), .unset, .unset, .unset, .unset, .unset, .unset, .unset, .unset, .unset, .unset, .unset] [(.int p1)]))) (fun t k => XS.iloadN X0.here hx rfl (hb hby at_0) rfl k) ?_
  refine own_fw (A' := (s₁.setTop (mkF m 3 #[.val (.int p1), .val (.int p2), .unset, .unset, .unset, .unset, .unset, .unset, .unset, .unset, .unset, .unset, .unset] [(.int (2147483647 : Int32)), (.int p1)]))) (fun t k => X0.ldcInt hx hown (mvT hZ (hw _ (List.mem_of_getElem? (i := 0) rfl))) (g := (mkF m 1 #[.val (.int p1), .val (.int p2), .unset, .unset, .unset, .unset, .unset, .unset, .unset, .unset, .unset, .unset, .unset] [(.int p1)])) rfl (hb hby at_1) _ k) ?_
  refine own_fw (A' := (s₁.setTop (mkF m 4 #[.val (.int p1), .val (.int p2), .unset, .unset, .unset, .unset, .unset, .unset, .unset, .unset, .unset, .unset, .unset] [(.int (p1 &&& (2147483647 : Int32)))]))) (fun t k => XS.iand X0.here hx rfl (hb hby at_3) rfl k) ?_
  refine own_fw (A' := (s₁.setTop (mkF m 5 #[.val (.int p1), .val (.int p2), .val (.int (p1 &&& (2147483647 : Int32))), .unset, .unset, .unset, .unset, .unset, .unset, .unset, .unset, .unset, .unset] []))) (fun t k => XS.istoreN X0.here hx rfl (hb hby at_4) rfl (l' := #[.val (.int p1), .val (.int p2), .val (.int (p1 &&& (2147483647 : Int32))), .unset, .unset, .unset, .unset, .unset, .unset, .unset, .unset, .unset, .unset]) rfl k) ?_
  refine own_fw (A' := (s₁.setTop (mkF m 6 #[.val (.int p1), .val (.int p2), .val (.int (p1 &&& (2147483647 : Int32))), .unset, .unset, .unset, .unset, .unset, .unset, .unset, .unset, .unset, .unset] [(.int (1 : Int32))]))) (fun t k => XS.iconst X0.here hx rfl (hb hby at_5) k) ?_
  refine own_fw (A' := (s₁.setTop (mkF m 7 #[.val (.int p1), .val (.int p2), .val (.int (p1 &&& (2147483647 : Int32))), .unset, .unset, .unset, .unset, .unset, .unset, .unset, .unset, .unset, .unset] [(.int p2), (.int (1 : Int32))]))) (fun t k => XS.iloadN X0.here hx rfl (hb hby at_6) rfl k) ?_
  refine own_fw (A' := (s₁.setTop (mkF m 9 #[.val (.int p1), .val (.int p2), .val (.int (p1 &&& (2147483647 : Int32))), .unset, .unset, .unset, .unset, .unset, .unset, .unset, .unset, .unset, .unset] [(.int (2147483647 : Int32)), (.int p2), (.int (1 : Int32))]))) (fun t k => X0.ldcInt hx hown (mvT hZ (hw _ (List.mem_of_getElem? (i := 0) rfl))) (g := (mkF m 7 #[.val (.int p1), .val (.int p2), .val (.int (p1 &&& (2147483647 : Int32))), .unset, .unset, .unset, .unset, .unset, .unset, .unset, .unset, .unset, .unset] [(.int p2), (.int (1 : Int32))])) rfl (hb hby at_7) _ k) ?_
  refine own_fw (A' := (s₁.setTop (mkF m 10 #[.val (.int p1), .val (.int p2), .val (.int (p1 &&& (2147483647 : Int32))), .unset, .unset, .unset, .unset, .unset, .unset, .unset, .unset, .unset, .unset] [(.int (p2 &&& (2147483647 : Int32))), (.int (1 : Int32))]))) (fun t k => XS.iand X0.here hx rfl (hb hby at_9) rfl k) ?_
  refine own_fw (A' := (s₁.setTop (mkF m 12 #[.val (.int p1), .val (.int p2), .val (.int (p1 &&& (2147483647 : Int32))), .unset, .unset, .unset, .unset, .unset, .unset, .unset, .unset, .unset, .unset] [(.int (2147483646 : Int32)), (.int (p2 &&& (2147483647 : Int32))), (.int (1 : Int32))]))) (fun t k => X0.ldcInt hx hown (mvT hZ (hw _ (List.mem_of_getElem? (i := 1) rfl))) (g := (mkF m 10 #[.val (.int p1), .val (.int p2), .val (.int (p1 &&& (2147483647 : Int32))), .unset, .unset, .unset, .unset, .unset, .unset, .unset, .unset, .unset, .unset] [(.int (p2 &&& (2147483647 : Int32))), (.int (1 : Int32))])) rfl (hb hby at_10) _ k) ?_
  refine own_fw (A' := (s₁.setTop (mkF m 13 #[.val (.int p1), .val (.int p2), .val (.int (p1 &&& (2147483647 : Int32))), .unset, .unset, .unset, .unset, .unset, .unset, .unset, .unset, .unset, .unset] [(.int ((p2 &&& (2147483647 : Int32)) % (2147483646 : Int32))), (.int (1 : Int32))]))) (fun t k => iremM X0 hx rfl (hb hby at_12) rfl (by decide) k) ?_
  refine own_fw (A' := (s₁.setTop (mkF m 14 #[.val (.int p1), .val (.int p2), .val (.int (p1 &&& (2147483647 : Int32))), .unset, .unset, .unset, .unset, .unset, .unset, .unset, .unset, .unset, .unset] [(.int ((1 : Int32) + ((p2 &&& (2147483647 : Int32)) % (2147483646 : Int32))))]))) (fun t k => XS.iadd X0.here hx rfl (hb hby at_13) rfl k) ?_
  refine own_fw (A' := (s₁.setTop (mkF m 15 #[.val (.int p1), .val (.int p2), .val (.int (p1 &&& (2147483647 : Int32))), .val (.int ((1 : Int32) + ((p2 &&& (2147483647 : Int32)) % (2147483646 : Int32)))), .unset, .unset, .unset, .unset, .unset, .unset, .unset, .unset, .unset] []))) (fun t k => XS.istoreN X0.here hx rfl (hb hby at_14) rfl (l' := #[.val (.int p1), .val (.int p2), .val (.int (p1 &&& (2147483647 : Int32))), .val (.int ((1 : Int32) + ((p2 &&& (2147483647 : Int32)) % (2147483646 : Int32)))), .unset, .unset, .unset, .unset, .unset, .unset, .unset, .unset, .unset]) rfl k) ?_
  obtain ⟨cn, h_cn⟩ : ∃ z : Int32, z = (p1 &&& (2147483647 : Int32)) := ⟨_, rfl⟩
  rw [← h_cn]
  obtain ⟨nb, h_nb⟩ : ∃ z : Int32, z = ((1 : Int32) + ((p2 &&& (2147483647 : Int32)) % (2147483646 : Int32))) := ⟨_, rfl⟩
  rw [← h_nb]
  refine own_fw (A' := (s₁.setTop (mkF m 16 #[.val (.int p1), .val (.int p2), .val (.int cn), .val (.int nb), .unset, .unset, .unset, .unset, .unset, .unset, .unset, .unset, .unset] [(.int cn)]))) (fun t k => XS.iloadN X0.here hx rfl (hb hby at_15) rfl k) ?_
  refine own_fw (A' := (s₁.setTop (mkF m 17 #[.val (.int p1), .val (.int p2), .val (.int cn), .val (.int nb), .unset, .unset, .unset, .unset, .unset, .unset, .unset, .unset, .unset] [(.int nb), (.int cn)]))) (fun t k => XS.iloadN X0.here hx rfl (hb hby at_16) rfl k) ?_
  obtain ⟨_, _, ⟨T1, L1, k1, n1⟩, -, X1, ⟨Lc1, hQ1, l1, y1, z1⟩, st1⟩ := Jvm.LawKit.callS X0 hx (y := (⟨"com/example/kodnik/kodnik/store/Window", "page", "(II)Lcom/example/kodnik/kodnik/store/Window;"⟩ : MethodName)) hown (mvT hZ (hw _ (List.mem_of_getElem? (i := 2) rfl))) (mvT hZ (hw _ (List.mem_of_getElem? (i := 3) rfl))) (mvT hZ (hw _ (List.mem_of_getElem? (i := 4) rfl))) (mvT hZ (hw _ (List.mem_of_getElem? (i := 5) rfl))) (by decide) (backOf (W := 0) (rmPage l Z a0 hw [] cn nb h0 n0 Z0 ) hZ (hw _ (List.mem_of_getElem? (i := 5) rfl)) (hw _ (List.mem_of_getElem? (i := 4) rfl)) (by decide) (by decide)) (g := (mkF m 17 #[.val (.int p1), .val (.int p2), .val (.int cn), .val (.int nb), .unset, .unset, .unset, .unset, .unset, .unset, .unset, .unset, .unset] [(.int nb), (.int cn)])) rfl (by rw [hml]; rfl) (argsL := [(.int cn), (.int nb)]) (rest := []) (lenOf pd__II_Lcom_example_kodnik_kodnik_store_Window_ rfl) rfl (by show 2 * 0 + _ ≤ _; exact Nat.le_of_eq rfl) (hb hby at_17) (fun _ _ => ⟨rfl, e0, (by decide : 0 + 1 ≤ _), (by decide : 0 + 2 ≤ _)⟩)
  dsimp only [Pt.U, Pt.locs, Pt.cells, Pt.slots] at X1 l1 y1 z1 st1 hQ1
  subst l1 y1 z1
  obtain ⟨b_1, rfl, Nq1, Kq1, Fq1_0, Fq1_1, Fq1_2, gb_1⟩ := hQ1
  have Nf1 := Fr.app N0 Nq1
  have K1 : Keep h0 T1.heap [] := (Keep.refl h0 []).trans Kq1 all0
  have sz_b_1 : h0.size ≤ b_1 := Nat.le_trans (Keep.refl h0 []).1 gb_1
  have g_b_1 : n0 ≤ b_1 := Nat.le_trans Z0 gb_1
  have Z1 : n0 ≤ T1.heap.size := Nat.le_trans Z0 Kq1.1
  refine own_fw (A' := (T1.setTop (mkF m 20 #[.val (.int p1), .val (.int p2), .val (.int cn), .val (.int nb), .unset, .unset, .unset, .unset, .unset, .unset, .unset, .unset, .unset] [(.ref b_1)]))) (fun t k => st1 _ k) ?_
  refine own_fw (A' := (T1.setTop (mkF m 22 #[.val (.int p1), .val (.int p2), .val (.int cn), .val (.int nb), .val (.ref b_1), .unset, .unset, .unset, .unset, .unset, .unset, .unset, .unset] []))) (fun t k => XS.astore X1.here hx rfl (hb hby at_20) rfl rfl (l' := #[.val (.int p1), .val (.int p2), .val (.int cn), .val (.int nb), .val (.ref b_1), .unset, .unset, .unset, .unset, .unset, .unset, .unset, .unset]) rfl k) ?_
  refine own_fw (A' := (T1.setTop (mkF m 23 #[.val (.int p1), .val (.int p2), .val (.int cn), .val (.int nb), .val (.ref b_1), .unset, .unset, .unset, .unset, .unset, .unset, .unset, .unset] [(.int cn)]))) (fun t k => XS.iloadN X1.here hx rfl (hb hby at_22) rfl k) ?_
  refine own_fw (A' := (T1.setTop (mkF m 24 #[.val (.int p1), .val (.int p2), .val (.int cn), .val (.int nb), .val (.ref b_1), .unset, .unset, .unset, .unset, .unset, .unset, .unset, .unset] [(.int nb), (.int cn)]))) (fun t k => XS.iloadN X1.here hx rfl (hb hby at_23) rfl k) ?_
  refine own_fw (A' := (T1.setTop (mkF m 25 #[.val (.int p1), .val (.int p2), .val (.int cn), .val (.int nb), .val (.ref b_1), .unset, .unset, .unset, .unset, .unset, .unset, .unset, .unset] [(.int (1 : Int32)), (.int nb), (.int cn)]))) (fun t k => XS.iconst X1.here hx rfl (hb hby at_24) k) ?_
  refine own_fw (A' := (T1.setTop (mkF m 26 #[.val (.int p1), .val (.int p2), .val (.int cn), .val (.int nb), .val (.ref b_1), .unset, .unset, .unset, .unset, .unset, .unset, .unset, .unset] [(.int (nb + (1 : Int32))), (.int cn)]))) (fun t k => XS.iadd X1.here hx rfl (hb hby at_25) rfl k) ?_
  obtain ⟨_, _, ⟨T2, L2, k2, n2⟩, -, X2, ⟨Lc2, hQ2, l2, y2, z2⟩, st2⟩ := Jvm.LawKit.callS X1 hx (y := (⟨"com/example/kodnik/kodnik/store/Window", "page", "(II)Lcom/example/kodnik/kodnik/store/Window;"⟩ : MethodName)) hown (mvT hZ (hw _ (List.mem_of_getElem? (i := 2) rfl))) (mvT hZ (hw _ (List.mem_of_getElem? (i := 3) rfl))) (mvT hZ (hw _ (List.mem_of_getElem? (i := 4) rfl))) (mvT hZ (hw _ (List.mem_of_getElem? (i := 5) rfl))) (by decide) (backOf (W := 0) (rmPage l Z a0 hw [] cn (nb + (1 : Int32)) T1.heap n0 Z1 ) hZ (hw _ (List.mem_of_getElem? (i := 5) rfl)) (hw _ (List.mem_of_getElem? (i := 4) rfl)) (by decide) (by decide)) (g := (mkF m 26 #[.val (.int p1), .val (.int p2), .val (.int cn), .val (.int nb), .val (.ref b_1), .unset, .unset, .unset, .unset, .unset, .unset, .unset, .unset] [(.int (nb + (1 : Int32))), (.int cn)])) rfl (by rw [hml]; rfl) (argsL := [(.int cn), (.int (nb + (1 : Int32)))]) (rest := []) (lenOf pd__II_Lcom_example_kodnik_kodnik_store_Window_ rfl) rfl (by show 2 * 0 + _ ≤ _; exact Nat.le_of_eq rfl) (hb hby at_26) (fun _ _ => ⟨rfl, rfl, (by decide : 1 + 1 ≤ _), (by decide : 2 + 2 ≤ _)⟩)
  dsimp only [Pt.U, Pt.locs, Pt.cells, Pt.slots] at X2 l2 y2 z2 st2 hQ2
  subst l2 y2 z2
  obtain ⟨b_2, rfl, Nq2, Kq2, Fq2_0, Fq2_1, Fq2_2, gb_2⟩ := hQ2
  have Nf2 := Fr.app Nf1 Nq2
  have K2 : Keep h0 T2.heap [] := K1.trans Kq2 all0
  have sz_b_2 : h0.size ≤ b_2 := Nat.le_trans K1.1 gb_2
  have g_b_2 : n0 ≤ b_2 := Nat.le_trans Z1 gb_2
  have ne_b_1_b_2 : b_1 ≠ b_2 := Nat.ne_of_lt (Nat.lt_of_lt_of_le Fq1_0.lt gb_2)
  have Z2 : n0 ≤ T2.heap.size := Nat.le_trans Z1 Kq2.1
  refine own_fw (A' := (T2.setTop (mkF m 29 #[.val (.int p1), .val (.int p2), .val (.int cn), .val (.int nb), .val (.ref b_1), .unset, .unset, .unset, .unset, .unset, .unset, .unset, .unset] [(.ref b_2)]))) (fun t k => st2 _ k) ?_
  refine own_fw (A' := (T2.setTop (mkF m 31 #[.val (.int p1), .val (.int p2), .val (.int cn), .val (.int nb), .val (.ref b_1), .val (.ref b_2), .unset, .unset, .unset, .unset, .unset, .unset, .unset] []))) (fun t k => XS.astore X2.here hx rfl (hb hby at_29) rfl rfl (l' := #[.val (.int p1), .val (.int p2), .val (.int cn), .val (.int nb), .val (.ref b_1), .val (.ref b_2), .unset, .unset, .unset, .unset, .unset, .unset, .unset]) rfl k) ?_
  refine own_fw (A' := (T2.setTop (mkF m 32 #[.val (.int p1), .val (.int p2), .val (.int cn), .val (.int nb), .val (.ref b_1), .val (.ref b_2), .unset, .unset, .unset, .unset, .unset, .unset, .unset] [(.int cn)]))) (fun t k => XS.iloadN X2.here hx rfl (hb hby at_31) rfl k) ?_
  refine own_fw (A' := (T2.setTop (mkF m 33 #[.val (.int p1), .val (.int p2), .val (.int cn), .val (.int nb), .val (.ref b_1), .val (.ref b_2), .unset, .unset, .unset, .unset, .unset, .unset, .unset] [(.int (1 : Int32)), (.int cn)]))) (fun t k => XS.iconst X2.here hx rfl (hb hby at_32) k) ?_
  obtain ⟨_, _, ⟨T3, L3, k3, n3⟩, -, X3, ⟨Lc3, hQ3, l3, y3, z3⟩, st3⟩ := Jvm.LawKit.callS X2 hx (y := (⟨"com/example/kodnik/kodnik/store/Window", "page", "(II)Lcom/example/kodnik/kodnik/store/Window;"⟩ : MethodName)) hown (mvT hZ (hw _ (List.mem_of_getElem? (i := 2) rfl))) (mvT hZ (hw _ (List.mem_of_getElem? (i := 3) rfl))) (mvT hZ (hw _ (List.mem_of_getElem? (i := 4) rfl))) (mvT hZ (hw _ (List.mem_of_getElem? (i := 5) rfl))) (by decide) (backOf (W := 0) (rmPage l Z a0 hw [] cn (1 : Int32) T2.heap n0 Z2 ) hZ (hw _ (List.mem_of_getElem? (i := 5) rfl)) (hw _ (List.mem_of_getElem? (i := 4) rfl)) (by decide) (by decide)) (g := (mkF m 33 #[.val (.int p1), .val (.int p2), .val (.int cn), .val (.int nb), .val (.ref b_1), .val (.ref b_2), .unset, .unset, .unset, .unset, .unset, .unset, .unset] [(.int (1 : Int32)), (.int cn)])) rfl (by rw [hml]; rfl) (argsL := [(.int cn), (.int (1 : Int32))]) (rest := []) (lenOf pd__II_Lcom_example_kodnik_kodnik_store_Window_ rfl) rfl (by show 2 * 0 + _ ≤ _; exact Nat.le_of_eq rfl) (hb hby at_33) (fun _ _ => ⟨rfl, rfl, (by decide : 2 + 1 ≤ _), (by decide : 4 + 2 ≤ _)⟩)
  dsimp only [Pt.U, Pt.locs, Pt.cells, Pt.slots] at X3 l3 y3 z3 st3 hQ3
  subst l3 y3 z3
  obtain ⟨b_3, rfl, Nq3, Kq3, Fq3_0, Fq3_1, Fq3_2, gb_3⟩ := hQ3
  have Nf3 := Fr.app Nf2 Nq3
  have K3 : Keep h0 T3.heap [] := K2.trans Kq3 all0
  have sz_b_3 : h0.size ≤ b_3 := Nat.le_trans K2.1 gb_3
  have g_b_3 : n0 ≤ b_3 := Nat.le_trans Z2 gb_3
  have ne_b_1_b_3 : b_1 ≠ b_3 := Nat.ne_of_lt (Nat.lt_of_lt_of_le (Fq1_0.keep Kq2).lt gb_3)
  have ne_b_2_b_3 : b_2 ≠ b_3 := Nat.ne_of_lt (Nat.lt_of_lt_of_le Fq2_0.lt gb_3)
  have Z3 : n0 ≤ T3.heap.size := Nat.le_trans Z2 Kq3.1
  refine own_fw (A' := (T3.setTop (mkF m 36 #[.val (.int p1), .val (.int p2), .val (.int cn), .val (.int nb), .val (.ref b_1), .val (.ref b_2), .unset, .unset, .unset, .unset, .unset, .unset, .unset] [(.ref b_3)]))) (fun t k => st3 _ k) ?_
  refine own_fw (A' := (T3.setTop (mkF m 38 #[.val (.int p1), .val (.int p2), .val (.int cn), .val (.int nb), .val (.ref b_1), .val (.ref b_2), .val (.ref b_3), .unset, .unset, .unset, .unset, .unset, .unset] []))) (fun t k => XS.astore X3.here hx rfl (hb hby at_36) rfl rfl (l' := #[.val (.int p1), .val (.int p2), .val (.int cn), .val (.int nb), .val (.ref b_1), .val (.ref b_2), .val (.ref b_3), .unset, .unset, .unset, .unset, .unset, .unset]) rfl k) ?_
  refine own_fw (A' := (T3.setTop (mkF m 39 #[.val (.int p1), .val (.int p2), .val (.int cn), .val (.int nb), .val (.ref b_1), .val (.ref b_2), .val (.ref b_3), .unset, .unset, .unset, .unset, .unset, .unset] [(.int nb)]))) (fun t k => XS.iloadN X3.here hx rfl (hb hby at_38) rfl k) ?_
  refine own_fw (A' := (T3.setTop (mkF m 40 #[.val (.int p1), .val (.int p2), .val (.int cn), .val (.int nb), .val (.ref b_1), .val (.ref b_2), .val (.ref b_3), .unset, .unset, .unset, .unset, .unset, .unset] [(.long (nb.toInt64))]))) (fun t k => XS.i2l X3.here hx rfl (hb hby at_39) rfl k) ?_
  refine own_fw (A' := (T3.setTop (mkF m 41 #[.val (.int p1), .val (.int p2), .val (.int cn), .val (.int nb), .val (.ref b_1), .val (.ref b_2), .val (.ref b_3), .unset, .unset, .unset, .unset, .unset, .unset] [(.int cn), (.long (nb.toInt64))]))) (fun t k => XS.iloadN X3.here hx rfl (hb hby at_40) rfl k) ?_
  refine own_fw (A' := (T3.setTop (mkF m 42 #[.val (.int p1), .val (.int p2), .val (.int cn), .val (.int nb), .val (.ref b_1), .val (.ref b_2), .val (.ref b_3), .unset, .unset, .unset, .unset, .unset, .unset] [(.long (cn.toInt64)), (.long (nb.toInt64))]))) (fun t k => XS.i2l X3.here hx rfl (hb hby at_41) rfl k) ?_
  refine own_fw (A' := (T3.setTop (mkF m 43 #[.val (.int p1), .val (.int p2), .val (.int cn), .val (.int nb), .val (.ref b_1), .val (.ref b_2), .val (.ref b_3), .unset, .unset, .unset, .unset, .unset, .unset] [(.long ((nb.toInt64) * (cn.toInt64)))]))) (fun t k => XS.lmul X3.here hx rfl (hb hby at_42) rfl k) ?_
  refine own_fw (A' := (T3.setTop (mkF m 44 #[.val (.int p1), .val (.int p2), .val (.int cn), .val (.int nb), .val (.ref b_1), .val (.ref b_2), .val (.ref b_3), .unset, .unset, .unset, .unset, .unset, .unset] [(.int cn), (.long ((nb.toInt64) * (cn.toInt64)))]))) (fun t k => XS.iloadN X3.here hx rfl (hb hby at_43) rfl k) ?_
  refine own_fw (A' := (T3.setTop (mkF m 45 #[.val (.int p1), .val (.int p2), .val (.int cn), .val (.int nb), .val (.ref b_1), .val (.ref b_2), .val (.ref b_3), .unset, .unset, .unset, .unset, .unset, .unset] [(.long (cn.toInt64)), (.long ((nb.toInt64) * (cn.toInt64)))]))) (fun t k => XS.i2l X3.here hx rfl (hb hby at_44) rfl k) ?_
  refine own_fw (A' := (T3.setTop (mkF m 46 #[.val (.int p1), .val (.int p2), .val (.int cn), .val (.int nb), .val (.ref b_1), .val (.ref b_2), .val (.ref b_3), .unset, .unset, .unset, .unset, .unset, .unset] [(.long (((nb.toInt64) * (cn.toInt64)) - (cn.toInt64)))]))) (fun t k => XS.lsub X3.here hx rfl (hb hby at_45) rfl k) ?_
  refine own_fw (A' := (T3.setTop (mkF m 48 #[.val (.int p1), .val (.int p2), .val (.int cn), .val (.int nb), .val (.ref b_1), .val (.ref b_2), .val (.ref b_3), .val (.long (((nb.toInt64) * (cn.toInt64)) - (cn.toInt64))), .second, .unset, .unset, .unset, .unset] []))) (fun t k => XS.lstore X3.here hx rfl (hb hby at_46) rfl (l' := #[.val (.int p1), .val (.int p2), .val (.int cn), .val (.int nb), .val (.ref b_1), .val (.ref b_2), .val (.ref b_3), .val (.long (((nb.toInt64) * (cn.toInt64)) - (cn.toInt64))), .second, .unset, .unset, .unset, .unset]) rfl k) ?_
  refine own_fw (A' := (T3.setTop (mkF m 50 #[.val (.int p1), .val (.int p2), .val (.int cn), .val (.int nb), .val (.ref b_1), .val (.ref b_2), .val (.ref b_3), .val (.long (((nb.toInt64) * (cn.toInt64)) - (cn.toInt64))), .second, .unset, .unset, .unset, .unset] [(.ref b_1)]))) (fun t k => XS.aload X3.here hx rfl (hb hby at_48) rfl rfl k) ?_
  obtain ⟨cq4, kq4, qa4, qb4, qc4⟩ := isOf hZ rfl ((Fq1_0.keep Kq2).keep Kq3)
  obtain ⟨_, _, ⟨T4, L4, k4, n4⟩, -, X4, ⟨Lc4, hQ4, l4, y4, z4⟩, st4⟩ := X3.virtualBack hx (y := (⟨"com/example/kodnik/kodnik/store/Window", "limit", "()I"⟩ : MethodName)) (z := (⟨"com/example/kodnik/kodnik/store/Window", "limit", "()I"⟩ : MethodName)) hown (mvT hZ (hw _ (List.mem_of_getElem? (i := 23) rfl))) (mvT hZ (hw _ (List.mem_of_getElem? (i := 24) rfl))) (notFace_of_selects (args := #[]) (mvT hZ (hw _ (List.mem_of_getElem? (i := 26) rfl)))) (mvT hZ (hw _ (List.mem_of_getElem? (i := 26) rfl))) (mvT hZ (hw _ (List.mem_of_getElem? (i := 25) rfl))) (by decide) (backOf (W := 0) (rmLimit l Z a0 hw [] b_1 cn T3.heap n0 Z3 ((Fq1_2.keep Kq2 nin0).keep Kq3 nin0)) hZ (hw _ (List.mem_of_getElem? (i := 27) rfl)) (hw _ (List.mem_of_getElem? (i := 4) rfl)) (by decide) (by decide)) qa4 qc4 (g := (mkF m 50 #[.val (.int p1), .val (.int p2), .val (.int cn), .val (.int nb), .val (.ref b_1), .val (.ref b_2), .val (.ref b_3), .val (.long (((nb.toInt64) * (cn.toInt64)) - (cn.toInt64))), .second, .unset, .unset, .unset, .unset] [(.ref b_1)])) rfl (by rw [hml]; rfl) (Steps.refl _) (argsL := []) (rest := []) (lenOf pd___I rfl) rfl (by show 2 * 0 + _ ≤ _; exact Nat.le_of_eq rfl) (hb hby at_50) (fun _ _ => ⟨rfl, rfl, (by decide : 3 + 0 ≤ _), (by decide : 6 + 0 ≤ _)⟩)
  dsimp only [Pt.U, Pt.locs, Pt.cells, Pt.slots] at X4 l4 y4 z4 st4 hQ4
  subst l4 y4 z4
  obtain ⟨rfl, Nq4, e4⟩ := hQ4
  have Nf4 := Fr.app Nf3 Nq4
  refine own_fw (A' := (T4.setTop (mkF m 53 #[.val (.int p1), .val (.int p2), .val (.int cn), .val (.int nb), .val (.ref b_1), .val (.ref b_2), .val (.ref b_3), .val (.long (((nb.toInt64) * (cn.toInt64)) - (cn.toInt64))), .second, .unset, .unset, .unset, .unset] [(.int cn)]))) (fun t k => st4.trans k) ?_
  refine own_fw (A' := (T4.setTop (mkF m 54 #[.val (.int p1), .val (.int p2), .val (.int cn), .val (.int nb), .val (.ref b_1), .val (.ref b_2), .val (.ref b_3), .val (.long (((nb.toInt64) * (cn.toInt64)) - (cn.toInt64))), .second, .unset, .unset, .unset, .unset] [(.int cn), (.int cn)]))) (fun t k => XS.iloadN X4.here hx rfl (hb hby at_53) rfl k) ?_
  refine own_fw (A' := (T4.setTop (mkF m 57 #[.val (.int p1), .val (.int p2), .val (.int cn), .val (.int nb), .val (.ref b_1), .val (.ref b_2), .val (.ref b_3), .val (.long (((nb.toInt64) * (cn.toInt64)) - (cn.toInt64))), .second, .unset, .unset, .unset, .unset] []))) (fun t k => XS.icmpNo X4.here hx rfl (hb hby at_54) rfl (XT.ii_ne_f rfl) k) ?_
  refine own_fw (A' := (T4.setTop (mkF m 59 #[.val (.int p1), .val (.int p2), .val (.int cn), .val (.int nb), .val (.ref b_1), .val (.ref b_2), .val (.ref b_3), .val (.long (((nb.toInt64) * (cn.toInt64)) - (cn.toInt64))), .second, .unset, .unset, .unset, .unset] [(.ref b_2)]))) (fun t k => XS.aload X4.here hx rfl (hb hby at_57) rfl rfl k) ?_
  obtain ⟨cq5, kq5, qa5, qb5, qc5⟩ := isOf hZ e4 (Fq2_0.keep Kq3)
  obtain ⟨_, _, ⟨T5, L5, k5, n5⟩, -, X5, ⟨Lc5, hQ5, l5, y5, z5⟩, st5⟩ := X4.virtualBack hx (y := (⟨"com/example/kodnik/kodnik/store/Window", "limit", "()I"⟩ : MethodName)) (z := (⟨"com/example/kodnik/kodnik/store/Window", "limit", "()I"⟩ : MethodName)) hown (mvT hZ (hw _ (List.mem_of_getElem? (i := 23) rfl))) (mvT hZ (hw _ (List.mem_of_getElem? (i := 24) rfl))) (notFace_of_selects (args := #[]) (mvT hZ (hw _ (List.mem_of_getElem? (i := 26) rfl)))) (mvT hZ (hw _ (List.mem_of_getElem? (i := 26) rfl))) (mvT hZ (hw _ (List.mem_of_getElem? (i := 25) rfl))) (by decide) (backOf (W := 0) (rmLimit l Z a0 hw [] b_2 cn T3.heap n0 Z3 (Fq2_2.keep Kq3 nin0)) hZ (hw _ (List.mem_of_getElem? (i := 27) rfl)) (hw _ (List.mem_of_getElem? (i := 4) rfl)) (by decide) (by decide)) qa5 qc5 (g := (mkF m 59 #[.val (.int p1), .val (.int p2), .val (.int cn), .val (.int nb), .val (.ref b_1), .val (.ref b_2), .val (.ref b_3), .val (.long (((nb.toInt64) * (cn.toInt64)) - (cn.toInt64))), .second, .unset, .unset, .unset, .unset] [(.ref b_2)])) rfl (by rw [hml]; rfl) (Steps.refl _) (argsL := []) (rest := []) (lenOf pd___I rfl) rfl (by show 2 * 0 + _ ≤ _; exact Nat.le_of_eq rfl) (hb hby at_59) (fun _ _ => ⟨rfl, e4, (by decide : 3 + 0 ≤ _), (by decide : 6 + 0 ≤ _)⟩)
  dsimp only [Pt.U, Pt.locs, Pt.cells, Pt.slots] at X5 l5 y5 z5 st5 hQ5
  subst l5 y5 z5
  obtain ⟨rfl, Nq5, e5⟩ := hQ5
  have Nf5 := Fr.app Nf4 Nq5
  refine own_fw (A' := (T5.setTop (mkF m 62 #[.val (.int p1), .val (.int p2), .val (.int cn), .val (.int nb), .val (.ref b_1), .val (.ref b_2), .val (.ref b_3), .val (.long (((nb.toInt64) * (cn.toInt64)) - (cn.toInt64))), .second, .unset, .unset, .unset, .unset] [(.int cn)]))) (fun t k => st5.trans k) ?_
  refine own_fw (A' := (T5.setTop (mkF m 63 #[.val (.int p1), .val (.int p2), .val (.int cn), .val (.int nb), .val (.ref b_1), .val (.ref b_2), .val (.ref b_3), .val (.long (((nb.toInt64) * (cn.toInt64)) - (cn.toInt64))), .second, .unset, .unset, .unset, .unset] [(.int cn), (.int cn)]))) (fun t k => XS.iloadN X5.here hx rfl (hb hby at_62) rfl k) ?_
  refine own_fw (A' := (T5.setTop (mkF m 66 #[.val (.int p1), .val (.int p2), .val (.int cn), .val (.int nb), .val (.ref b_1), .val (.ref b_2), .val (.ref b_3), .val (.long (((nb.toInt64) * (cn.toInt64)) - (cn.toInt64))), .second, .unset, .unset, .unset, .unset] []))) (fun t k => XS.icmpNo X5.here hx rfl (hb hby at_63) rfl (XT.ii_ne_f rfl) k) ?_
  refine own_fw (A' := (T5.setTop (mkF m 68 #[.val (.int p1), .val (.int p2), .val (.int cn), .val (.int nb), .val (.ref b_1), .val (.ref b_2), .val (.ref b_3), .val (.long (((nb.toInt64) * (cn.toInt64)) - (cn.toInt64))), .second, .unset, .unset, .unset, .unset] [(.ref b_3)]))) (fun t k => XS.aload X5.here hx rfl (hb hby at_66) rfl rfl k) ?_
  obtain ⟨cq6, kq6, qa6, qb6, qc6⟩ := isOf hZ e5 Fq3_0
  obtain ⟨_, _, ⟨T6, L6, k6, n6⟩, -, X6, ⟨Lc6, hQ6, l6, y6, z6⟩, st6⟩ := X5.virtualBack hx (y := (⟨"com/example/kodnik/kodnik/store/Window", "limit", "()I"⟩ : MethodName)) (z := (⟨"com/example/kodnik/kodnik/store/Window", "limit", "()I"⟩ : MethodName)) hown (mvT hZ (hw _ (List.mem_of_getElem? (i := 23) rfl))) (mvT hZ (hw _ (List.mem_of_getElem? (i := 24) rfl))) (notFace_of_selects (args := #[]) (mvT hZ (hw _ (List.mem_of_getElem? (i := 26) rfl)))) (mvT hZ (hw _ (List.mem_of_getElem? (i := 26) rfl))) (mvT hZ (hw _ (List.mem_of_getElem? (i := 25) rfl))) (by decide) (backOf (W := 0) (rmLimit l Z a0 hw [] b_3 cn T3.heap n0 Z3 Fq3_2) hZ (hw _ (List.mem_of_getElem? (i := 27) rfl)) (hw _ (List.mem_of_getElem? (i := 4) rfl)) (by decide) (by decide)) qa6 qc6 (g := (mkF m 68 #[.val (.int p1), .val (.int p2), .val (.int cn), .val (.int nb), .val (.ref b_1), .val (.ref b_2), .val (.ref b_3), .val (.long (((nb.toInt64) * (cn.toInt64)) - (cn.toInt64))), .second, .unset, .unset, .unset, .unset] [(.ref b_3)])) rfl (by rw [hml]; rfl) (Steps.refl _) (argsL := []) (rest := []) (lenOf pd___I rfl) rfl (by show 2 * 0 + _ ≤ _; exact Nat.le_of_eq rfl) (hb hby at_68) (fun _ _ => ⟨rfl, e5, (by decide : 3 + 0 ≤ _), (by decide : 6 + 0 ≤ _)⟩)
  dsimp only [Pt.U, Pt.locs, Pt.cells, Pt.slots] at X6 l6 y6 z6 st6 hQ6
  subst l6 y6 z6
  obtain ⟨rfl, Nq6, e6⟩ := hQ6
  have Nf6 := Fr.app Nf5 Nq6
  refine own_fw (A' := (T6.setTop (mkF m 71 #[.val (.int p1), .val (.int p2), .val (.int cn), .val (.int nb), .val (.ref b_1), .val (.ref b_2), .val (.ref b_3), .val (.long (((nb.toInt64) * (cn.toInt64)) - (cn.toInt64))), .second, .unset, .unset, .unset, .unset] [(.int cn)]))) (fun t k => st6.trans k) ?_
  refine own_fw (A' := (T6.setTop (mkF m 72 #[.val (.int p1), .val (.int p2), .val (.int cn), .val (.int nb), .val (.ref b_1), .val (.ref b_2), .val (.ref b_3), .val (.long (((nb.toInt64) * (cn.toInt64)) - (cn.toInt64))), .second, .unset, .unset, .unset, .unset] [(.int cn), (.int cn)]))) (fun t k => XS.iloadN X6.here hx rfl (hb hby at_71) rfl k) ?_
  refine own_fw (A' := (T6.setTop (mkF m 75 #[.val (.int p1), .val (.int p2), .val (.int cn), .val (.int nb), .val (.ref b_1), .val (.ref b_2), .val (.ref b_3), .val (.long (((nb.toInt64) * (cn.toInt64)) - (cn.toInt64))), .second, .unset, .unset, .unset, .unset] []))) (fun t k => XS.icmpNo X6.here hx rfl (hb hby at_72) rfl (XT.ii_ne_f rfl) k) ?_
  refine own_fw (A' := (T6.setTop (mkF m 76 #[.val (.int p1), .val (.int p2), .val (.int cn), .val (.int nb), .val (.ref b_1), .val (.ref b_2), .val (.ref b_3), .val (.long (((nb.toInt64) * (cn.toInt64)) - (cn.toInt64))), .second, .unset, .unset, .unset, .unset] [(.int (1 : Int32))]))) (fun t k => XS.iconst X6.here hx rfl (hb hby at_75) k) ?_
  refine own_fw (A' := (T6.setTop (mkF m 80 #[.val (.int p1), .val (.int p2), .val (.int cn), .val (.int nb), .val (.ref b_1), .val (.ref b_2), .val (.ref b_3), .val (.long (((nb.toInt64) * (cn.toInt64)) - (cn.toInt64))), .second, .unset, .unset, .unset, .unset] [(.int (1 : Int32))]))) (fun t k => XS.goto X6.here hx rfl (pc0 := 76) (pc' := 80) rfl (hb hby at_76) (by decide) (by decide) k) ?_
  refine own_fw (A' := (T6.setTop (mkF m 82 #[.val (.int p1), .val (.int p2), .val (.int cn), .val (.int nb), .val (.ref b_1), .val (.ref b_2), .val (.ref b_3), .val (.long (((nb.toInt64) * (cn.toInt64)) - (cn.toInt64))), .second, .val (.int (1 : Int32)), .unset, .unset, .unset] []))) (fun t k => XS.istore X6.here hx rfl (hb hby at_80) rfl (l' := #[.val (.int p1), .val (.int p2), .val (.int cn), .val (.int nb), .val (.ref b_1), .val (.ref b_2), .val (.ref b_3), .val (.long (((nb.toInt64) * (cn.toInt64)) - (cn.toInt64))), .second, .val (.int (1 : Int32)), .unset, .unset, .unset]) rfl k) ?_
  refine own_fw (A' := (T6.setTop (mkF m 84 #[.val (.int p1), .val (.int p2), .val (.int cn), .val (.int nb), .val (.ref b_1), .val (.ref b_2), .val (.ref b_3), .val (.long (((nb.toInt64) * (cn.toInt64)) - (cn.toInt64))), .second, .val (.int (1 : Int32)), .unset, .unset, .unset] [(.ref b_1)]))) (fun t k => XS.aload X6.here hx rfl (hb hby at_82) rfl rfl k) ?_
  obtain ⟨cq7, kq7, qa7, qb7, qc7⟩ := isOf hZ e6 ((Fq1_0.keep Kq2).keep Kq3)
  obtain ⟨_, _, ⟨T7, L7, k7, n7⟩, -, X7, ⟨Lc7, hQ7, l7, y7, z7⟩, st7⟩ := X6.virtualBack hx (y := (⟨"com/example/kodnik/kodnik/store/Window", "skip", "()J"⟩ : MethodName)) (z := (⟨"com/example/kodnik/kodnik/store/Window", "skip", "()J"⟩ : MethodName)) hown (mvT hZ (hw _ (List.mem_of_getElem? (i := 28) rfl))) (mvT hZ (hw _ (List.mem_of_getElem? (i := 29) rfl))) (notFace_of_selects (args := #[]) (mvT hZ (hw _ (List.mem_of_getElem? (i := 31) rfl)))) (mvT hZ (hw _ (List.mem_of_getElem? (i := 31) rfl))) (mvT hZ (hw _ (List.mem_of_getElem? (i := 30) rfl))) (by decide) (backOf (W := 0) (rmSkip l Z a0 hw [] b_1 (((nb - (1 : Int32)).toInt64) * (cn.toInt64)) T3.heap n0 Z3 ((Fq1_1.keep Kq2 nin0).keep Kq3 nin0)) hZ (hw _ (List.mem_of_getElem? (i := 32) rfl)) (hw _ (List.mem_of_getElem? (i := 4) rfl)) (by decide) (by decide)) qa7 qc7 (g := (mkF m 84 #[.val (.int p1), .val (.int p2), .val (.int cn), .val (.int nb), .val (.ref b_1), .val (.ref b_2), .val (.ref b_3), .val (.long (((nb.toInt64) * (cn.toInt64)) - (cn.toInt64))), .second, .val (.int (1 : Int32)), .unset, .unset, .unset] [(.ref b_1)])) rfl (by rw [hml]; rfl) (Steps.refl _) (argsL := []) (rest := []) (lenOf pd___J rfl) rfl (by show 2 * 0 + _ ≤ _; exact Nat.le_of_eq rfl) (hb hby at_84) (fun _ _ => ⟨rfl, e6, (by decide : 3 + 0 ≤ _), (by decide : 6 + 0 ≤ _)⟩)
  dsimp only [Pt.U, Pt.locs, Pt.cells, Pt.slots] at X7 l7 y7 z7 st7 hQ7
  subst l7 y7 z7
  obtain ⟨rfl, Nq7, e7⟩ := hQ7
  have Nf7 := Fr.app Nf6 Nq7
  refine own_fw (A' := (T7.setTop (mkF m 87 #[.val (.int p1), .val (.int p2), .val (.int cn), .val (.int nb), .val (.ref b_1), .val (.ref b_2), .val (.ref b_3), .val (.long (((nb.toInt64) * (cn.toInt64)) - (cn.toInt64))), .second, .val (.int (1 : Int32)), .unset, .unset, .unset] [(.long (((nb - (1 : Int32)).toInt64) * (cn.toInt64)))]))) (fun t k => st7.trans k) ?_
  refine own_fw (A' := (T7.setTop (mkF m 89 #[.val (.int p1), .val (.int p2), .val (.int cn), .val (.int nb), .val (.ref b_1), .val (.ref b_2), .val (.ref b_3), .val (.long (((nb.toInt64) * (cn.toInt64)) - (cn.toInt64))), .second, .val (.int (1 : Int32)), .unset, .unset, .unset] [(.long (((nb.toInt64) * (cn.toInt64)) - (cn.toInt64))), (.long (((nb - (1 : Int32)).toInt64) * (cn.toInt64)))]))) (fun t k => XS.lload X7.here hx rfl (hb hby at_87) rfl k) ?_
  refine own_fw (A' := (T7.setTop (mkF m 90 #[.val (.int p1), .val (.int p2), .val (.int cn), .val (.int nb), .val (.ref b_1), .val (.ref b_2), .val (.ref b_3), .val (.long (((nb.toInt64) * (cn.toInt64)) - (cn.toInt64))), .second, .val (.int (1 : Int32)), .unset, .unset, .unset] [(.int (XT.cmpL (((nb - (1 : Int32)).toInt64) * (cn.toInt64)) (((nb.toInt64) * (cn.toInt64)) - (cn.toInt64))))]))) (fun t k => XT.lcmp X7.here hx rfl (hb hby at_89) rfl k) ?_
  refine own_fw (A' := (T7.setTop (mkF m 93 #[.val (.int p1), .val (.int p2), .val (.int cn), .val (.int nb), .val (.ref b_1), .val (.ref b_2), .val (.ref b_3), .val (.long (((nb.toInt64) * (cn.toInt64)) - (cn.toInt64))), .second, .val (.int (1 : Int32)), .unset, .unset, .unset] []))) (fun t k => XS.ifNo X7.here hx rfl (hb hby at_90) rfl (XT.ll_ne_f (own_e1 nb cn (own_nb _ _ h_nb).1)) k) ?_
  refine own_fw (A' := (T7.setTop (mkF m 95 #[.val (.int p1), .val (.int p2), .val (.int cn), .val (.int nb), .val (.ref b_1), .val (.ref b_2), .val (.ref b_3), .val (.long (((nb.toInt64) * (cn.toInt64)) - (cn.toInt64))), .second, .val (.int (1 : Int32)), .unset, .unset, .unset] [(.ref b_1)]))) (fun t k => XS.aload X7.here hx rfl (hb hby at_93) rfl rfl k) ?_
  obtain ⟨cq8, kq8, qa8, qb8, qc8⟩ := isOf hZ e7 ((Fq1_0.keep Kq2).keep Kq3)
  obtain ⟨_, _, ⟨T8, L8, k8, n8⟩, -, X8, ⟨Lc8, hQ8, l8, y8, z8⟩, st8⟩ := X7.virtualBack hx (y := (⟨"com/example/kodnik/kodnik/store/Window", "skip", "()J"⟩ : MethodName)) (z := (⟨"com/example/kodnik/kodnik/store/Window", "skip", "()J"⟩ : MethodName)) hown (mvT hZ (hw _ (List.mem_of_getElem? (i := 28) rfl))) (mvT hZ (hw _ (List.mem_of_getElem? (i := 29) rfl))) (notFace_of_selects (args := #[]) (mvT hZ (hw _ (List.mem_of_getElem? (i := 31) rfl)))) (mvT hZ (hw _ (List.mem_of_getElem? (i := 31) rfl))) (mvT hZ (hw _ (List.mem_of_getElem? (i := 30) rfl))) (by decide) (backOf (W := 0) (rmSkip l Z a0 hw [] b_1 (((nb - (1 : Int32)).toInt64) * (cn.toInt64)) T3.heap n0 Z3 ((Fq1_1.keep Kq2 nin0).keep Kq3 nin0)) hZ (hw _ (List.mem_of_getElem? (i := 32) rfl)) (hw _ (List.mem_of_getElem? (i := 4) rfl)) (by decide) (by decide)) qa8 qc8 (g := (mkF m 95 #[.val (.int p1), .val (.int p2), .val (.int cn), .val (.int nb), .val (.ref b_1), .val (.ref b_2), .val (.ref b_3), .val (.long (((nb.toInt64) * (cn.toInt64)) - (cn.toInt64))), .second, .val (.int (1 : Int32)), .unset, .unset, .unset] [(.ref b_1)])) rfl (by rw [hml]; rfl) (Steps.refl _) (argsL := []) (rest := []) (lenOf pd___J rfl) rfl (by show 2 * 0 + _ ≤ _; exact Nat.le_of_eq rfl) (hb hby at_95) (fun _ _ => ⟨rfl, e7, (by decide : 3 + 0 ≤ _), (by decide : 6 + 0 ≤ _)⟩)
  dsimp only [Pt.U, Pt.locs, Pt.cells, Pt.slots] at X8 l8 y8 z8 st8 hQ8
  subst l8 y8 z8
  obtain ⟨rfl, Nq8, e8⟩ := hQ8
  have Nf8 := Fr.app Nf7 Nq8
  refine own_fw (A' := (T8.setTop (mkF m 98 #[.val (.int p1), .val (.int p2), .val (.int cn), .val (.int nb), .val (.ref b_1), .val (.ref b_2), .val (.ref b_3), .val (.long (((nb.toInt64) * (cn.toInt64)) - (cn.toInt64))), .second, .val (.int (1 : Int32)), .unset, .unset, .unset] [(.long (((nb - (1 : Int32)).toInt64) * (cn.toInt64)))]))) (fun t k => st8.trans k) ?_
  refine own_fw (A' := (T8.setTop (mkF m 99 #[.val (.int p1), .val (.int p2), .val (.int cn), .val (.int nb), .val (.ref b_1), .val (.ref b_2), .val (.ref b_3), .val (.long (((nb.toInt64) * (cn.toInt64)) - (cn.toInt64))), .second, .val (.int (1 : Int32)), .unset, .unset, .unset] [(.long (0 : Int64)), (.long (((nb - (1 : Int32)).toInt64) * (cn.toInt64)))]))) (fun t k => XS.lconst X8.here hx rfl (hb hby at_98) k) ?_
  refine own_fw (A' := (T8.setTop (mkF m 100 #[.val (.int p1), .val (.int p2), .val (.int cn), .val (.int nb), .val (.ref b_1), .val (.ref b_2), .val (.ref b_3), .val (.long (((nb.toInt64) * (cn.toInt64)) - (cn.toInt64))), .second, .val (.int (1 : Int32)), .unset, .unset, .unset] [(.int (XT.cmpL (((nb - (1 : Int32)).toInt64) * (cn.toInt64)) (0 : Int64)))]))) (fun t k => XT.lcmp X8.here hx rfl (hb hby at_99) rfl k) ?_
  refine own_fw (A' := (T8.setTop (mkF m 103 #[.val (.int p1), .val (.int p2), .val (.int cn), .val (.int nb), .val (.ref b_1), .val (.ref b_2), .val (.ref b_3), .val (.long (((nb.toInt64) * (cn.toInt64)) - (cn.toInt64))), .second, .val (.int (1 : Int32)), .unset, .unset, .unset] []))) (fun t k => XS.ifNo X8.here hx rfl (hb hby at_100) rfl (XT.ll_lt_f (own_e2 nb cn (own_nb _ _ h_nb).1 (own_cn _ _ h_cn).1)) k) ?_
  refine own_fw (A' := (T8.setTop (mkF m 104 #[.val (.int p1), .val (.int p2), .val (.int cn), .val (.int nb), .val (.ref b_1), .val (.ref b_2), .val (.ref b_3), .val (.long (((nb.toInt64) * (cn.toInt64)) - (cn.toInt64))), .second, .val (.int (1 : Int32)), .unset, .unset, .unset] [(.int (1 : Int32))]))) (fun t k => XS.iconst X8.here hx rfl (hb hby at_103) k) ?_
  refine own_fw (A' := (T8.setTop (mkF m 108 #[.val (.int p1), .val (.int p2), .val (.int cn), .val (.int nb), .val (.ref b_1), .val (.ref b_2), .val (.ref b_3), .val (.long (((nb.toInt64) * (cn.toInt64)) - (cn.toInt64))), .second, .val (.int (1 : Int32)), .unset, .unset, .unset] [(.int (1 : Int32))]))) (fun t k => XS.goto X8.here hx rfl (pc0 := 104) (pc' := 108) rfl (hb hby at_104) (by decide) (by decide) k) ?_
  refine own_fw (A' := (T8.setTop (mkF m 110 #[.val (.int p1), .val (.int p2), .val (.int cn), .val (.int nb), .val (.ref b_1), .val (.ref b_2), .val (.ref b_3), .val (.long (((nb.toInt64) * (cn.toInt64)) - (cn.toInt64))), .second, .val (.int (1 : Int32)), .val (.int (1 : Int32)), .unset, .unset] []))) (fun t k => XS.istore X8.here hx rfl (hb hby at_108) rfl (l' := #[.val (.int p1), .val (.int p2), .val (.int cn), .val (.int nb), .val (.ref b_1), .val (.ref b_2), .val (.ref b_3), .val (.long (((nb.toInt64) * (cn.toInt64)) - (cn.toInt64))), .second, .val (.int (1 : Int32)), .val (.int (1 : Int32)), .unset, .unset]) rfl k) ?_
  refine own_fw (A' := (T8.setTop (mkF m 112 #[.val (.int p1), .val (.int p2), .val (.int cn), .val (.int nb), .val (.ref b_1), .val (.ref b_2), .val (.ref b_3), .val (.long (((nb.toInt64) * (cn.toInt64)) - (cn.toInt64))), .second, .val (.int (1 : Int32)), .val (.int (1 : Int32)), .unset, .unset] [(.ref b_3)]))) (fun t k => XS.aload X8.here hx rfl (hb hby at_110) rfl rfl k) ?_
  obtain ⟨cq9, kq9, qa9, qb9, qc9⟩ := isOf hZ e8 Fq3_0
  obtain ⟨_, _, ⟨T9, L9, k9, n9⟩, -, X9, ⟨Lc9, hQ9, l9, y9, z9⟩, st9⟩ := X8.virtualBack hx (y := (⟨"com/example/kodnik/kodnik/store/Window", "skip", "()J"⟩ : MethodName)) (z := (⟨"com/example/kodnik/kodnik/store/Window", "skip", "()J"⟩ : MethodName)) hown (mvT hZ (hw _ (List.mem_of_getElem? (i := 28) rfl))) (mvT hZ (hw _ (List.mem_of_getElem? (i := 29) rfl))) (notFace_of_selects (args := #[]) (mvT hZ (hw _ (List.mem_of_getElem? (i := 31) rfl)))) (mvT hZ (hw _ (List.mem_of_getElem? (i := 31) rfl))) (mvT hZ (hw _ (List.mem_of_getElem? (i := 30) rfl))) (by decide) (backOf (W := 0) (rmSkip l Z a0 hw [] b_3 ((((1 : Int32) - (1 : Int32)).toInt64) * (cn.toInt64)) T3.heap n0 Z3 Fq3_1) hZ (hw _ (List.mem_of_getElem? (i := 32) rfl)) (hw _ (List.mem_of_getElem? (i := 4) rfl)) (by decide) (by decide)) qa9 qc9 (g := (mkF m 112 #[.val (.int p1), .val (.int p2), .val (.int cn), .val (.int nb), .val (.ref b_1), .val (.ref b_2), .val (.ref b_3), .val (.long (((nb.toInt64) * (cn.toInt64)) - (cn.toInt64))), .second, .val (.int (1 : Int32)), .val (.int (1 : Int32)), .unset, .unset] [(.ref b_3)])) rfl (by rw [hml]; rfl) (Steps.refl _) (argsL := []) (rest := []) (lenOf pd___J rfl) rfl (by show 2 * 0 + _ ≤ _; exact Nat.le_of_eq rfl) (hb hby at_112) (fun _ _ => ⟨rfl, e8, (by decide : 3 + 0 ≤ _), (by decide : 6 + 0 ≤ _)⟩)
  dsimp only [Pt.U, Pt.locs, Pt.cells, Pt.slots] at X9 l9 y9 z9 st9 hQ9
  subst l9 y9 z9
  obtain ⟨rfl, Nq9, e9⟩ := hQ9
  have Nf9 := Fr.app Nf8 Nq9
  refine own_fw (A' := (T9.setTop (mkF m 115 #[.val (.int p1), .val (.int p2), .val (.int cn), .val (.int nb), .val (.ref b_1), .val (.ref b_2), .val (.ref b_3), .val (.long (((nb.toInt64) * (cn.toInt64)) - (cn.toInt64))), .second, .val (.int (1 : Int32)), .val (.int (1 : Int32)), .unset, .unset] [(.long ((((1 : Int32) - (1 : Int32)).toInt64) * (cn.toInt64)))]))) (fun t k => st9.trans k) ?_
  refine own_fw (A' := (T9.setTop (mkF m 116 #[.val (.int p1), .val (.int p2), .val (.int cn), .val (.int nb), .val (.ref b_1), .val (.ref b_2), .val (.ref b_3), .val (.long (((nb.toInt64) * (cn.toInt64)) - (cn.toInt64))), .second, .val (.int (1 : Int32)), .val (.int (1 : Int32)), .unset, .unset] [(.long (0 : Int64)), (.long ((((1 : Int32) - (1 : Int32)).toInt64) * (cn.toInt64)))]))) (fun t k => XS.lconst X9.here hx rfl (hb hby at_115) k) ?_
  refine own_fw (A' := (T9.setTop (mkF m 117 #[.val (.int p1), .val (.int p2), .val (.int cn), .val (.int nb), .val (.ref b_1), .val (.ref b_2), .val (.ref b_3), .val (.long (((nb.toInt64) * (cn.toInt64)) - (cn.toInt64))), .second, .val (.int (1 : Int32)), .val (.int (1 : Int32)), .unset, .unset] [(.int (XT.cmpL ((((1 : Int32) - (1 : Int32)).toInt64) * (cn.toInt64)) (0 : Int64)))]))) (fun t k => XT.lcmp X9.here hx rfl (hb hby at_116) rfl k) ?_
  refine own_fw (A' := (T9.setTop (mkF m 120 #[.val (.int p1), .val (.int p2), .val (.int cn), .val (.int nb), .val (.ref b_1), .val (.ref b_2), .val (.ref b_3), .val (.long (((nb.toInt64) * (cn.toInt64)) - (cn.toInt64))), .second, .val (.int (1 : Int32)), .val (.int (1 : Int32)), .unset, .unset] []))) (fun t k => XS.ifNo X9.here hx rfl (hb hby at_117) rfl (XT.ll_ne_f (own_e3 cn)) k) ?_
  refine own_fw (A' := (T9.setTop (mkF m 121 #[.val (.int p1), .val (.int p2), .val (.int cn), .val (.int nb), .val (.ref b_1), .val (.ref b_2), .val (.ref b_3), .val (.long (((nb.toInt64) * (cn.toInt64)) - (cn.toInt64))), .second, .val (.int (1 : Int32)), .val (.int (1 : Int32)), .unset, .unset] [(.int (1 : Int32))]))) (fun t k => XS.iconst X9.here hx rfl (hb hby at_120) k) ?_
  refine own_fw (A' := (T9.setTop (mkF m 125 #[.val (.int p1), .val (.int p2), .val (.int cn), .val (.int nb), .val (.ref b_1), .val (.ref b_2), .val (.ref b_3), .val (.long (((nb.toInt64) * (cn.toInt64)) - (cn.toInt64))), .second, .val (.int (1 : Int32)), .val (.int (1 : Int32)), .unset, .unset] [(.int (1 : Int32))]))) (fun t k => XS.goto X9.here hx rfl (pc0 := 121) (pc' := 125) rfl (hb hby at_121) (by decide) (by decide) k) ?_
  refine own_fw (A' := (T9.setTop (mkF m 127 #[.val (.int p1), .val (.int p2), .val (.int cn), .val (.int nb), .val (.ref b_1), .val (.ref b_2), .val (.ref b_3), .val (.long (((nb.toInt64) * (cn.toInt64)) - (cn.toInt64))), .second, .val (.int (1 : Int32)), .val (.int (1 : Int32)), .val (.int (1 : Int32)), .unset] []))) (fun t k => XS.istore X9.here hx rfl (hb hby at_125) rfl (l' := #[.val (.int p1), .val (.int p2), .val (.int cn), .val (.int nb), .val (.ref b_1), .val (.ref b_2), .val (.ref b_3), .val (.long (((nb.toInt64) * (cn.toInt64)) - (cn.toInt64))), .second, .val (.int (1 : Int32)), .val (.int (1 : Int32)), .val (.int (1 : Int32)), .unset]) rfl k) ?_
  refine own_fw (A' := (T9.setTop (mkF m 129 #[.val (.int p1), .val (.int p2), .val (.int cn), .val (.int nb), .val (.ref b_1), .val (.ref b_2), .val (.ref b_3), .val (.long (((nb.toInt64) * (cn.toInt64)) - (cn.toInt64))), .second, .val (.int (1 : Int32)), .val (.int (1 : Int32)), .val (.int (1 : Int32)), .unset] [(.ref b_2)]))) (fun t k => XS.aload X9.here hx rfl (hb hby at_127) rfl rfl k) ?_
  obtain ⟨cq10, kq10, qa10, qb10, qc10⟩ := isOf hZ e9 (Fq2_0.keep Kq3)
  obtain ⟨_, _, ⟨T10, L10, k10, n10⟩, -, X10, ⟨Lc10, hQ10, l10, y10, z10⟩, st10⟩ := X9.virtualBack hx (y := (⟨"com/example/kodnik/kodnik/store/Window", "skip", "()J"⟩ : MethodName)) (z := (⟨"com/example/kodnik/kodnik/store/Window", "skip", "()J"⟩ : MethodName)) hown (mvT hZ (hw _ (List.mem_of_getElem? (i := 28) rfl))) (mvT hZ (hw _ (List.mem_of_getElem? (i := 29) rfl))) (notFace_of_selects (args := #[]) (mvT hZ (hw _ (List.mem_of_getElem? (i := 31) rfl)))) (mvT hZ (hw _ (List.mem_of_getElem? (i := 31) rfl))) (mvT hZ (hw _ (List.mem_of_getElem? (i := 30) rfl))) (by decide) (backOf (W := 0) (rmSkip l Z a0 hw [] b_2 ((((nb + (1 : Int32)) - (1 : Int32)).toInt64) * (cn.toInt64)) T3.heap n0 Z3 (Fq2_1.keep Kq3 nin0)) hZ (hw _ (List.mem_of_getElem? (i := 32) rfl)) (hw _ (List.mem_of_getElem? (i := 4) rfl)) (by decide) (by decide)) qa10 qc10 (g := (mkF m 129 #[.val (.int p1), .val (.int p2), .val (.int cn), .val (.int nb), .val (.ref b_1), .val (.ref b_2), .val (.ref b_3), .val (.long (((nb.toInt64) * (cn.toInt64)) - (cn.toInt64))), .second, .val (.int (1 : Int32)), .val (.int (1 : Int32)), .val (.int (1 : Int32)), .unset] [(.ref b_2)])) rfl (by rw [hml]; rfl) (Steps.refl _) (argsL := []) (rest := []) (lenOf pd___J rfl) rfl (by show 2 * 0 + _ ≤ _; exact Nat.le_of_eq rfl) (hb hby at_129) (fun _ _ => ⟨rfl, e9, (by decide : 3 + 0 ≤ _), (by decide : 6 + 0 ≤ _)⟩)
  dsimp only [Pt.U, Pt.locs, Pt.cells, Pt.slots] at X10 l10 y10 z10 st10 hQ10
  subst l10 y10 z10
  obtain ⟨rfl, Nq10, e10⟩ := hQ10
  have Nf10 := Fr.app Nf9 Nq10
  refine own_fw (A' := (T10.setTop (mkF m 132 #[.val (.int p1), .val (.int p2), .val (.int cn), .val (.int nb), .val (.ref b_1), .val (.ref b_2), .val (.ref b_3), .val (.long (((nb.toInt64) * (cn.toInt64)) - (cn.toInt64))), .second, .val (.int (1 : Int32)), .val (.int (1 : Int32)), .val (.int (1 : Int32)), .unset] [(.long ((((nb + (1 : Int32)) - (1 : Int32)).toInt64) * (cn.toInt64)))]))) (fun t k => st10.trans k) ?_
  refine own_fw (A' := (T10.setTop (mkF m 134 #[.val (.int p1), .val (.int p2), .val (.int cn), .val (.int nb), .val (.ref b_1), .val (.ref b_2), .val (.ref b_3), .val (.long (((nb.toInt64) * (cn.toInt64)) - (cn.toInt64))), .second, .val (.int (1 : Int32)), .val (.int (1 : Int32)), .val (.int (1 : Int32)), .unset] [(.ref b_1), (.long ((((nb + (1 : Int32)) - (1 : Int32)).toInt64) * (cn.toInt64)))]))) (fun t k => XS.aload X10.here hx rfl (hb hby at_132) rfl rfl k) ?_
  obtain ⟨cq11, kq11, qa11, qb11, qc11⟩ := isOf hZ e10 ((Fq1_0.keep Kq2).keep Kq3)
  obtain ⟨_, _, ⟨T11, L11, k11, n11⟩, -, X11, ⟨Lc11, hQ11, l11, y11, z11⟩, st11⟩ := X10.virtualBack hx (y := (⟨"com/example/kodnik/kodnik/store/Window", "skip", "()J"⟩ : MethodName)) (z := (⟨"com/example/kodnik/kodnik/store/Window", "skip", "()J"⟩ : MethodName)) hown (mvT hZ (hw _ (List.mem_of_getElem? (i := 28) rfl))) (mvT hZ (hw _ (List.mem_of_getElem? (i := 29) rfl))) (notFace_of_selects (args := #[]) (mvT hZ (hw _ (List.mem_of_getElem? (i := 31) rfl)))) (mvT hZ (hw _ (List.mem_of_getElem? (i := 31) rfl))) (mvT hZ (hw _ (List.mem_of_getElem? (i := 30) rfl))) (by decide) (backOf (W := 2) (rmSkip l Z a0 hw [] b_1 (((nb - (1 : Int32)).toInt64) * (cn.toInt64)) T3.heap n0 Z3 ((Fq1_1.keep Kq2 nin0).keep Kq3 nin0)) hZ (hw _ (List.mem_of_getElem? (i := 32) rfl)) (hw _ (List.mem_of_getElem? (i := 4) rfl)) (by decide) (by decide)) qa11 qc11 (g := (mkF m 134 #[.val (.int p1), .val (.int p2), .val (.int cn), .val (.int nb), .val (.ref b_1), .val (.ref b_2), .val (.ref b_3), .val (.long (((nb.toInt64) * (cn.toInt64)) - (cn.toInt64))), .second, .val (.int (1 : Int32)), .val (.int (1 : Int32)), .val (.int (1 : Int32)), .unset] [(.ref b_1), (.long ((((nb + (1 : Int32)) - (1 : Int32)).toInt64) * (cn.toInt64)))])) rfl (by rw [hml]; rfl) (Steps.refl _) (argsL := []) (rest := [(.long ((((nb + (1 : Int32)) - (1 : Int32)).toInt64) * (cn.toInt64)))]) (lenOf pd___J rfl) rfl (by show 2 * 0 + _ ≤ _; exact Nat.le_of_eq rfl) (hb hby at_134) (fun _ _ => ⟨rfl, e10, (by decide : 3 + 0 ≤ _), (by decide : 6 + 0 ≤ _)⟩)
  dsimp only [Pt.U, Pt.locs, Pt.cells, Pt.slots] at X11 l11 y11 z11 st11 hQ11
  subst l11 y11 z11
  obtain ⟨rfl, Nq11, e11⟩ := hQ11
  have Nf11 := Fr.app Nf10 Nq11
  refine own_fw (A' := (T11.setTop (mkF m 137 #[.val (.int p1), .val (.int p2), .val (.int cn), .val (.int nb), .val (.ref b_1), .val (.ref b_2), .val (.ref b_3), .val (.long (((nb.toInt64) * (cn.toInt64)) - (cn.toInt64))), .second, .val (.int (1 : Int32)), .val (.int (1 : Int32)), .val (.int (1 : Int32)), .unset] [(.long (((nb - (1 : Int32)).toInt64) * (cn.toInt64))), (.long ((((nb + (1 : Int32)) - (1 : Int32)).toInt64) * (cn.toInt64)))]))) (fun t k => st11.trans k) ?_
  refine own_fw (A' := (T11.setTop (mkF m 138 #[.val (.int p1), .val (.int p2), .val (.int cn), .val (.int nb), .val (.ref b_1), .val (.ref b_2), .val (.ref b_3), .val (.long (((nb.toInt64) * (cn.toInt64)) - (cn.toInt64))), .second, .val (.int (1 : Int32)), .val (.int (1 : Int32)), .val (.int (1 : Int32)), .unset] [(.long (((((nb + (1 : Int32)) - (1 : Int32)).toInt64) * (cn.toInt64)) - (((nb - (1 : Int32)).toInt64) * (cn.toInt64))))]))) (fun t k => XS.lsub X11.here hx rfl (hb hby at_137) rfl k) ?_
  refine own_fw (A' := (T11.setTop (mkF m 139 #[.val (.int p1), .val (.int p2), .val (.int cn), .val (.int nb), .val (.ref b_1), .val (.ref b_2), .val (.ref b_3), .val (.long (((nb.toInt64) * (cn.toInt64)) - (cn.toInt64))), .second, .val (.int (1 : Int32)), .val (.int (1 : Int32)), .val (.int (1 : Int32)), .unset] [(.int cn), (.long (((((nb + (1 : Int32)) - (1 : Int32)).toInt64) * (cn.toInt64)) - (((nb - (1 : Int32)).toInt64) * (cn.toInt64))))]))) (fun t k => XS.iloadN X11.here hx rfl (hb hby at_138) rfl k) ?_
  refine own_fw (A' := (T11.setTop (mkF m 140 #[.val (.int p1), .val (.int p2), .val (.int cn), .val (.int nb), .val (.ref b_1), .val (.ref b_2), .val (.ref b_3), .val (.long (((nb.toInt64) * (cn.toInt64)) - (cn.toInt64))), .second, .val (.int (1 : Int32)), .val (.int (1 : Int32)), .val (.int (1 : Int32)), .unset] [(.long (cn.toInt64)), (.long (((((nb + (1 : Int32)) - (1 : Int32)).toInt64) * (cn.toInt64)) - (((nb - (1 : Int32)).toInt64) * (cn.toInt64))))]))) (fun t k => XS.i2l X11.here hx rfl (hb hby at_139) rfl k) ?_
  refine own_fw (A' := (T11.setTop (mkF m 141 #[.val (.int p1), .val (.int p2), .val (.int cn), .val (.int nb), .val (.ref b_1), .val (.ref b_2), .val (.ref b_3), .val (.long (((nb.toInt64) * (cn.toInt64)) - (cn.toInt64))), .second, .val (.int (1 : Int32)), .val (.int (1 : Int32)), .val (.int (1 : Int32)), .unset] [(.int (XT.cmpL (((((nb + (1 : Int32)) - (1 : Int32)).toInt64) * (cn.toInt64)) - (((nb - (1 : Int32)).toInt64) * (cn.toInt64))) (cn.toInt64)))]))) (fun t k => XT.lcmp X11.here hx rfl (hb hby at_140) rfl k) ?_
  refine own_fw (A' := (T11.setTop (mkF m 144 #[.val (.int p1), .val (.int p2), .val (.int cn), .val (.int nb), .val (.ref b_1), .val (.ref b_2), .val (.ref b_3), .val (.long (((nb.toInt64) * (cn.toInt64)) - (cn.toInt64))), .second, .val (.int (1 : Int32)), .val (.int (1 : Int32)), .val (.int (1 : Int32)), .unset] []))) (fun t k => XS.ifNo X11.here hx rfl (hb hby at_141) rfl (XT.ll_ne_f (own_e4 nb cn (own_nb _ _ h_nb).1)) k) ?_
  refine own_fw (A' := (T11.setTop (mkF m 145 #[.val (.int p1), .val (.int p2), .val (.int cn), .val (.int nb), .val (.ref b_1), .val (.ref b_2), .val (.ref b_3), .val (.long (((nb.toInt64) * (cn.toInt64)) - (cn.toInt64))), .second, .val (.int (1 : Int32)), .val (.int (1 : Int32)), .val (.int (1 : Int32)), .unset] [(.int (1 : Int32))]))) (fun t k => XS.iconst X11.here hx rfl (hb hby at_144) k) ?_
  refine own_fw (A' := (T11.setTop (mkF m 149 #[.val (.int p1), .val (.int p2), .val (.int cn), .val (.int nb), .val (.ref b_1), .val (.ref b_2), .val (.ref b_3), .val (.long (((nb.toInt64) * (cn.toInt64)) - (cn.toInt64))), .second, .val (.int (1 : Int32)), .val (.int (1 : Int32)), .val (.int (1 : Int32)), .unset] [(.int (1 : Int32))]))) (fun t k => XS.goto X11.here hx rfl (pc0 := 145) (pc' := 149) rfl (hb hby at_145) (by decide) (by decide) k) ?_
  refine own_fw (A' := (T11.setTop (mkF m 151 #[.val (.int p1), .val (.int p2), .val (.int cn), .val (.int nb), .val (.ref b_1), .val (.ref b_2), .val (.ref b_3), .val (.long (((nb.toInt64) * (cn.toInt64)) - (cn.toInt64))), .second, .val (.int (1 : Int32)), .val (.int (1 : Int32)), .val (.int (1 : Int32)), .val (.int (1 : Int32))] []))) (fun t k => XS.istore X11.here hx rfl (hb hby at_149) rfl (l' := #[.val (.int p1), .val (.int p2), .val (.int cn), .val (.int nb), .val (.ref b_1), .val (.ref b_2), .val (.ref b_3), .val (.long (((nb.toInt64) * (cn.toInt64)) - (cn.toInt64))), .second, .val (.int (1 : Int32)), .val (.int (1 : Int32)), .val (.int (1 : Int32)), .val (.int (1 : Int32))]) rfl k) ?_
  refine own_fw (A' := (T11.setTop (mkF m 153 #[.val (.int p1), .val (.int p2), .val (.int cn), .val (.int nb), .val (.ref b_1), .val (.ref b_2), .val (.ref b_3), .val (.long (((nb.toInt64) * (cn.toInt64)) - (cn.toInt64))), .second, .val (.int (1 : Int32)), .val (.int (1 : Int32)), .val (.int (1 : Int32)), .val (.int (1 : Int32))] [(.int (1 : Int32))]))) (fun t k => XS.iload X11.here hx rfl (hb hby at_151) rfl k) ?_
  refine own_fw (A' := (T11.setTop (mkF m 156 #[.val (.int p1), .val (.int p2), .val (.int cn), .val (.int nb), .val (.ref b_1), .val (.ref b_2), .val (.ref b_3), .val (.long (((nb.toInt64) * (cn.toInt64)) - (cn.toInt64))), .second, .val (.int (1 : Int32)), .val (.int (1 : Int32)), .val (.int (1 : Int32)), .val (.int (1 : Int32))] []))) (fun t k => XS.ifNo X11.here hx rfl (hb hby at_153) rfl (XT.i0_eq_f (by decide)) k) ?_
  refine own_fw (A' := (T11.setTop (mkF m 158 #[.val (.int p1), .val (.int p2), .val (.int cn), .val (.int nb), .val (.ref b_1), .val (.ref b_2), .val (.ref b_3), .val (.long (((nb.toInt64) * (cn.toInt64)) - (cn.toInt64))), .second, .val (.int (1 : Int32)), .val (.int (1 : Int32)), .val (.int (1 : Int32)), .val (.int (1 : Int32))] [(.int (1 : Int32))]))) (fun t k => XS.iload X11.here hx rfl (hb hby at_156) rfl k) ?_
  refine own_fw (A' := (T11.setTop (mkF m 161 #[.val (.int p1), .val (.int p2), .val (.int cn), .val (.int nb), .val (.ref b_1), .val (.ref b_2), .val (.ref b_3), .val (.long (((nb.toInt64) * (cn.toInt64)) - (cn.toInt64))), .second, .val (.int (1 : Int32)), .val (.int (1 : Int32)), .val (.int (1 : Int32)), .val (.int (1 : Int32))] []))) (fun t k => XS.ifNo X11.here hx rfl (hb hby at_158) rfl (XT.i0_eq_f (by decide)) k) ?_
  refine own_fw (A' := (T11.setTop (mkF m 163 #[.val (.int p1), .val (.int p2), .val (.int cn), .val (.int nb), .val (.ref b_1), .val (.ref b_2), .val (.ref b_3), .val (.long (((nb.toInt64) * (cn.toInt64)) - (cn.toInt64))), .second, .val (.int (1 : Int32)), .val (.int (1 : Int32)), .val (.int (1 : Int32)), .val (.int (1 : Int32))] [(.int (1 : Int32))]))) (fun t k => XS.iload X11.here hx rfl (hb hby at_161) rfl k) ?_
  refine own_fw (A' := (T11.setTop (mkF m 166 #[.val (.int p1), .val (.int p2), .val (.int cn), .val (.int nb), .val (.ref b_1), .val (.ref b_2), .val (.ref b_3), .val (.long (((nb.toInt64) * (cn.toInt64)) - (cn.toInt64))), .second, .val (.int (1 : Int32)), .val (.int (1 : Int32)), .val (.int (1 : Int32)), .val (.int (1 : Int32))] []))) (fun t k => XS.ifNo X11.here hx rfl (hb hby at_163) rfl (XT.i0_eq_f (by decide)) k) ?_
  refine own_fw (A' := (T11.setTop (mkF m 168 #[.val (.int p1), .val (.int p2), .val (.int cn), .val (.int nb), .val (.ref b_1), .val (.ref b_2), .val (.ref b_3), .val (.long (((nb.toInt64) * (cn.toInt64)) - (cn.toInt64))), .second, .val (.int (1 : Int32)), .val (.int (1 : Int32)), .val (.int (1 : Int32)), .val (.int (1 : Int32))] [(.int (1 : Int32))]))) (fun t k => XS.iload X11.here hx rfl (hb hby at_166) rfl k) ?_
  refine own_fw (A' := (T11.setTop (mkF m 171 #[.val (.int p1), .val (.int p2), .val (.int cn), .val (.int nb), .val (.ref b_1), .val (.ref b_2), .val (.ref b_3), .val (.long (((nb.toInt64) * (cn.toInt64)) - (cn.toInt64))), .second, .val (.int (1 : Int32)), .val (.int (1 : Int32)), .val (.int (1 : Int32)), .val (.int (1 : Int32))] []))) (fun t k => XS.ifNo X11.here hx rfl (hb hby at_168) rfl (XT.i0_eq_f (by decide)) k) ?_
  refine own_fw (A' := (T11.setTop (mkF m 172 #[.val (.int p1), .val (.int p2), .val (.int cn), .val (.int nb), .val (.ref b_1), .val (.ref b_2), .val (.ref b_3), .val (.long (((nb.toInt64) * (cn.toInt64)) - (cn.toInt64))), .second, .val (.int (1 : Int32)), .val (.int (1 : Int32)), .val (.int (1 : Int32)), .val (.int (1 : Int32))] [(.int (1 : Int32))]))) (fun t k => XS.iconst X11.here hx rfl (hb hby at_171) k) ?_
  refine own_fw (A' := (T11.setTop (mkF m 176 #[.val (.int p1), .val (.int p2), .val (.int cn), .val (.int nb), .val (.ref b_1), .val (.ref b_2), .val (.ref b_3), .val (.long (((nb.toInt64) * (cn.toInt64)) - (cn.toInt64))), .second, .val (.int (1 : Int32)), .val (.int (1 : Int32)), .val (.int (1 : Int32)), .val (.int (1 : Int32))] [(.int (1 : Int32))]))) (fun t k => XS.goto X11.here hx rfl (pc0 := 172) (pc' := 176) rfl (hb hby at_172) (by decide) (by decide) k) ?_
  obtain ⟨fs, hr, hrun, hended, hW, hsame⟩ := X11.leave (v := some (.int (1 : Int32))) (fun h => by rw [Bd.returns] at h; cases h)
  refine ⟨_, _, ?_, hrun, hended, _, _, rfl, ?_, ⟨_, rfl⟩, hW, hsame.mono (by decide) (by decide)⟩
  · exact retOut X11 hx Bd.returns rfl (Or.inl ⟨rfl, by simp, _, rfl⟩) (hb hby at_176) hr
  · show Q_rm0 Z p1 p2 h0 n0 _ T11.heap _
    rw [e11]
    exact ⟨rfl, Nf11⟩
set_option maxRecDepth 65536 in
set_option maxHeartbeats 40000000 in
theorem comes_1 {Post : Tables → Env → Array Value → State → Outcome → State → Prop} (hpost : ∀ tb e args s v u, (limb_1_1.after args s (.returned v) u = true ∧ limb_1_2.after args s (.returned v) u = true ∧ True) → FrameEnd s (.returned v) u (Jvm.fieldLocs frame_1_writes args s ++ Jvm.arrayLocs frame_1_arrays args s ++ Jvm.staticLocs frame_1_statics s) 16 128 → Post tb e args s (.returned v) u) :
    ArmFor flags0 classFile x code maxLocals ret World_1 tables_1 room_1 Calls_1 rest_1 Pre_1 Post := by
  intro l hfl _ _ p e ha hc hk s m args below hf hA hF happ hP
  obtain ⟨hcalls, hrest, hpre⟩ := hP
  obtain ⟨-, -, -, hnamed, -, -, -, hat⟩ := (Spec.applies_iff hf).mp happ
  obtain ⟨hg, hn⟩ := and_e (Cond.before_iff.mp (show (Jvm.Cond.and given_1 narrow_1).before args s = true from hpre))
  obtain ⟨hcount, hg0⟩ := and_e hg
  obtain ⟨hv0, hg1⟩ := and_e hg0
  have hv1 := hg1
  obtain ⟨w0, w1, rfl⟩ : ∃ w0 w1 : Value, args = #[w0, w1] := by
    have hs : args.size = 2 := by simpa [Cond.value, given_1] using hcount
    obtain ⟨L⟩ := args
    match L, hs with
    | [w0, w1], _ => exact ⟨w0, w1, rfl⟩
  have hw := fun d (hd : d ∈ tables_1) => atoms_spec (ws := Jvm.Cond.code x code maxLocals ret :: tables_1) hat d (List.mem_cons_of_mem _ hd)
  have hfit : Fit s := fun {y c} hc i hi => by
    obtain ⟨ha, rfl⟩ := Array.getElem?_eq_some_iff.mp hc
    have q := List.all_eq_true.mp ((Array.all_eq_true_iff_forall_mem.mp hF) _ (Array.getElem_mem ha)) i (List.mem_range.mpr hi)
    simpa [Array.getElem?_eq_getElem hi] using q
  obtain ⟨i0, ei0⟩ := is_v hv0
  obtain rfl : w0 = (.int i0) := Option.some.inj ei0
  obtain ⟨i1, ei1⟩ := is_v hv1
  obtain rfl : w1 = (.int i1) := Option.some.inj ei1
  obtain ⟨n, o, h1, h2, h3, _, L, rfl, ⟨rfl, N⟩, hq⟩ := rm0 l s _ hw tables_1 i0 i1 s.heap s.heap.size (Nat.le_refl _)  p e ha hc hk s m _ below hf ((Spec.applies_iff_loose hf).mp happ).1 ⟨rfl, State.Warmed39.refl s, rfl⟩ trivial
  refine ⟨n, _, h1, h2, h3, hpost _ _ _ _ _ _ ⟨Cond.after_iff.mpr rfl, Cond.after_iff.mpr (eq_i res_at (Term.int_eval (1)) rfl), trivial⟩ ⟨hq.1, hq.2.1, (hq.2.2.sift fun y hy => Or.inr (N y hy)).mono (by decide) (by decide)⟩⟩
theorem main_1_1 : Claimed_1_1 := comes_1 fun _ _ _ _ _ _ h hF => ⟨h.1, hF⟩
theorem main_1_2 : Claimed_1_2 := comes_1 fun _ _ _ _ _ _ h hF => ⟨h.2.1, hF⟩
end Jvm.Pilot.@@N@@
namespace Jvm.Pilot.@@N@@
open Jvm Jvm.ClassFile Sem Op Lib Jvm.Free Jvm.Stand Jvm.Pilot.@@N@@.Jvm.D
/-! MADE BY PROGRAM (witnessworld.py) out of the Statement's table words and the real class files: 8 classes; the members and pool entries that the words name. The judged class is class 1, her method 1. -/
namespace start1
open Jvm.ClassFile
def u (s : String) : CpInfo := .utf8 (stringToUtf16 s)
/-- a pool by its gaps: so many unusable entries, then the entry; so many at the end -/
def gap : Nat → List CpInfo → List CpInfo
  | 0, r => r
  | n + 1, r => .unusable :: gap n r
def poolList (es : List (Nat × CpInfo)) (last : Nat) : List CpInfo := es.foldr (fun e r => gap e.1 (e.2 :: r)) (gap last [])
def pool (es : List (Nat × CpInfo)) (last : Nat) : Array CpInfo := ⟨poolList es last⟩
def fileOf (pool : Array CpInfo) (this : Nat) (attrs : Array Attribute := #[]) (ms : Array MethodInfo := #[]) (fl : Nat := 33) (sup : Nat := 0) (ifs : Array Nat := #[]) (fds : Array FieldInfo := #[]) : ClassFile where
  minorVersion := 0
  majorVersion := 65
  constantPool := pool
  accessFlags := fl
  thisClass := this
  superClass := sup
  interfaces := ifs
  fields := fds
  methods := ms
  attributes := attrs
def plain (name : String) (sup : Option ClassId) : Class where
  name := name
  kind := .ordinary
  loader := none
  accessFlags := 33
  super := sup
  interfaces := #[]
  cf := none
  fields := #[]
  methods := #[]
  instanceTypes := #[]
  staticTypes := #[]
  resolved := #[]
  callSites := []
  init := .initialized
  statics := none
  mirror := none

def pool0 : Array CpInfo := pool [(5, u "<init>"), (0, u "()V"), (1, .class_ 10), (1, u "java/lang/Object")] 113

def k0c0 : Code := { maxStack := 0, maxLocals := 1, code := object_method_1_code, exceptionTable := #[], attributes := #[] }
def k0m0 : Method := { name := "<init>", desc := "()V", sig := { parameters := [], returnType := none }, accessFlags := 1, code := some k0c0 }
/-- java/lang/Object -/
def k0 : Class := { plain "java/lang/Object" none with
  accessFlags := 33
  interfaces := #[]
  cf := some (fileOf pool0 8 #[] #[{ accessFlags := 1, nameIndex := 5, descriptorIndex := 6, attributes := #[] }] 33 0 #[] #[])
  fields := #[]
  methods := #[k0m0]
  instanceTypes := #[]
  staticTypes := #[]
  resolved := Array.replicate 124 none
  statics := none }

def pool1 : Array CpInfo := pool [(2, .class_ 4), (1, u "java/lang/Object"), (0, u "<init>"), (0, u "()V"), (0, .integer 2147483647), (0, .integer 2147483646), (0, .methodref 10 11), (0, .class_ 12), (0, .nameAndType 13 14), (0, u "com/example/kodnik/kodnik/store/Window"), (0, u "page"), (0, u "(II)Lcom/example/kodnik/kodnik/store/Window;"), (0, .methodref 10 16), (0, .nameAndType 17 18), (0, u "limit"), (0, u "()I"), (0, .methodref 10 20), (0, .nameAndType 21 22), (0, u "skip"), (0, u "()J"), (0, .class_ 24), (0, u "com/example/kodnik/kodnik/store/WindowPagePinLaw"), (2, u "law"), (0, u "(II)Z")] 3

def k1m0 : Method := { name := "<init>", desc := "()V", sig := { parameters := [], returnType := none }, accessFlags := 1, code := none }
def k1c1 : Code := { maxStack := 4, maxLocals := 13, code := code, exceptionTable := #[], attributes := #[] }
def k1m1 : Method := { name := "law", desc := "(II)Z", sig := { parameters := [.int, .int], returnType := some .boolean }, accessFlags := 9, code := some k1c1 }
/-- com/example/kodnik/kodnik/store/WindowPagePinLaw -/
def k1 : Class := { plain "com/example/kodnik/kodnik/store/WindowPagePinLaw" (some 0) with
  accessFlags := 49
  interfaces := #[]
  cf := some (fileOf pool1 23 #[] #[{ accessFlags := 1, nameIndex := 5, descriptorIndex := 6, attributes := #[] }, { accessFlags := 9, nameIndex := 27, descriptorIndex := 28, attributes := #[] }] 49 2 #[] #[])
  fields := #[]
  methods := #[k1m0, k1m1]
  instanceTypes := #[]
  staticTypes := #[]
  resolved := Array.replicate 32 none
  statics := none }

def pool2 : Array CpInfo := pool [(1, .methodref 2 3), (0, .class_ 4), (0, .nameAndType 5 6), (0, u "java/lang/Object"), (0, u "<init>"), (0, u "()V"), (0, .class_ 8), (0, u "java/lang/Record")] 13

def k2c0 : Code := { maxStack := 1, maxLocals := 1, code := jdk_30_method_1_code, exceptionTable := #[], attributes := #[] }
def k2m0 : Method := { name := "<init>", desc := "()V", sig := { parameters := [], returnType := none }, accessFlags := 4, code := some k2c0 }
/-- java/lang/Record -/
def k2 : Class := { plain "java/lang/Record" (some 0) with
  accessFlags := 1057
  interfaces := #[]
  cf := some (fileOf pool2 7 #[] #[{ accessFlags := 4, nameIndex := 5, descriptorIndex := 6, attributes := #[] }] 1057 2 #[] #[])
  fields := #[]
  methods := #[k2m0]
  instanceTypes := #[]
  staticTypes := #[]
  resolved := Array.replicate 22 none
  statics := none }

def pool3 : Array CpInfo := pool [(1, .methodref 2 3), (0, .class_ 4), (0, .nameAndType 5 6), (0, u "java/lang/Record"), (0, u "<init>"), (0, u "()V"), (0, .fieldref 8 9), (0, .class_ 10), (0, .nameAndType 11 12), (0, u "com/example/kodnik/kodnik/store/Window"), (0, u "skip"), (0, u "J"), (0, .fieldref 8 14), (0, .nameAndType 15 16), (0, u "limit"), (0, u "I"), (0, .methodref 8 18), (0, .nameAndType 5 19), (0, u "(JI)V"), (5, u "()I"), (27, u "ALL"), (0, u "Lcom/example/kodnik/kodnik/store/Window;"), (3, u "page"), (0, u "(II)Lcom/example/kodnik/kodnik/store/Window;"), (6, u "()J")] 22

def k3c0 : Code := { maxStack := 3, maxLocals := 4, code := prog_63_method_1_code, exceptionTable := #[], attributes := #[] }
def k3m0 : Method := { name := "<init>", desc := "(JI)V", sig := { parameters := [.long, .int], returnType := none }, accessFlags := 1, code := some k3c0 }
def k3c1 : Code := { maxStack := 6, maxLocals := 2, code := prog_63_method_2_code, exceptionTable := #[], attributes := #[] }
def k3m1 : Method := { name := "page", desc := "(II)Lcom/example/kodnik/kodnik/store/Window;", sig := { parameters := [.int, .int], returnType := some (.object "com/example/kodnik/kodnik/store/Window") }, accessFlags := 9, code := some k3c1 }
def k3c2 : Code := { maxStack := 2, maxLocals := 1, code := prog_63_method_7_code, exceptionTable := #[], attributes := #[] }
def k3m2 : Method := { name := "skip", desc := "()J", sig := { parameters := [], returnType := some .long }, accessFlags := 1, code := some k3c2 }
def k3c3 : Code := { maxStack := 1, maxLocals := 1, code := prog_63_method_8_code, exceptionTable := #[], attributes := #[] }
def k3m3 : Method := { name := "limit", desc := "()I", sig := { parameters := [], returnType := some .int }, accessFlags := 1, code := some k3c3 }
/-- com/example/kodnik/kodnik/store/Window -/
def k3 : Class := { plain "com/example/kodnik/kodnik/store/Window" (some 2) with
  accessFlags := 49
  interfaces := #[]
  cf := some (fileOf pool3 8 #[] #[{ accessFlags := 1, nameIndex := 5, descriptorIndex := 19, attributes := #[] }, { accessFlags := 9, nameIndex := 58, descriptorIndex := 59, attributes := #[] }, { accessFlags := 1, nameIndex := 11, descriptorIndex := 66, attributes := #[] }, { accessFlags := 1, nameIndex := 15, descriptorIndex := 25, attributes := #[] }] 49 2 #[] #[{ accessFlags := 18, nameIndex := 11, descriptorIndex := 12, attributes := #[] }, { accessFlags := 18, nameIndex := 15, descriptorIndex := 16, attributes := #[] }, { accessFlags := 25, nameIndex := 53, descriptorIndex := 54, attributes := #[] }])
  fields := #[{ name := "skip", type := .long, accessFlags := 18, slot := 0, constantValue := 0 }, { name := "limit", type := .int, accessFlags := 18, slot := 1, constantValue := 0 }, { name := "ALL", type := (.object "com/example/kodnik/kodnik/store/Window"), accessFlags := 25, slot := 0, constantValue := 0 }]
  methods := #[k3m0, k3m1, k3m2, k3m3]
  instanceTypes := #[.long, .int]
  staticTypes := #[(.object "com/example/kodnik/kodnik/store/Window")]
  resolved := Array.replicate 89 none
  statics := none }

def pool4 : Array CpInfo := pool [(1, u "java/lang/Cloneable"), (0, .class_ 1), (0, u "java/lang/Object"), (0, .class_ 3)] 3

/-- java/lang/Cloneable -/
def k4 : Class := { plain "java/lang/Cloneable" (some 0) with
  accessFlags := 1537
  interfaces := #[]
  cf := some (fileOf pool4 2 #[] #[] 1537 4 #[] #[])
  fields := #[]
  methods := #[]
  instanceTypes := #[]
  staticTypes := #[]
  resolved := Array.replicate 8 none
  statics := none }

def pool5 : Array CpInfo := pool [(1, u "java/io/Serializable"), (0, .class_ 1), (0, u "java/lang/Object"), (0, .class_ 3)] 3

/-- java/io/Serializable -/
def k5 : Class := { plain "java/io/Serializable" (some 0) with
  accessFlags := 1537
  interfaces := #[]
  cf := some (fileOf pool5 2 #[] #[] 1537 4 #[] #[])
  fields := #[]
  methods := #[]
  instanceTypes := #[]
  staticTypes := #[]
  resolved := Array.replicate 8 none
  statics := none }

/-- the primitive byte -/
def k6 : Class := { plain "byte" none with kind := .primitive 'B', accessFlags := 0x411 }
/-- [B -/
def k7 : Class := { plain "[B" (some 0) with kind := .array 6 .byte, interfaces := #[4, 5], accessFlags := 1041 }

def heap : Heap := #[]
def classes : Array Class := #[k0, k1, k2, k3, k4, k5, k6, k7]
def interned : List (Array UInt16 × Addr) := []
def slotsUsed : Nat := 0
def theMethod : MethodId := ⟨1, 1⟩
def args0 : Array Value := #[.int 70, .int 300]
def aboutOver (below : List Frame) : State where
  vm := { classes := classes, interned := interned.toArray }
  heap := heap
  slotsUsed := slotsUsed
  threads := #[{ frames := .invoking theMethod args0 :: below }]
def below0 : List Frame := [.native { method := ⟨0, 0⟩, args := #[] }]
def about1 : State := aboutOver below0
def p0 : Program := .bare "" "" ""
def e0 : Env := launch0.env 0 0 0
theorem w_frames : about1.frames = Frame.invoking theMethod args0 :: below0 := rfl
set_option maxRecDepth 65536 in
theorem w_args : argsFit about1.vm theMethod args0 = true := by decide +kernel
set_option maxRecDepth 65536 in
theorem w_heap : heapFits about1 = true := by decide +kernel
set_option maxRecDepth 65536 in
theorem w_runnable : about1.curStatus? = some .runnable := by decide +kernel
set_option maxRecDepth 65536 in
theorem w_alone : about1.alone = true := by decide +kernel
set_option maxRecDepth 65536 in
theorem w_named : about1.methodNamed? x = some theMethod := by decide +kernel
set_option maxRecDepth 65536 in
theorem w_hears : about1.hears theMethod below0 = true := by decide +kernel
set_option maxRecDepth 65536 in
theorem w_ripe : about1.ripe theMethod args0 below0 = true := by decide +kernel
theorem w_running : about1.status = .running := rfl
set_option maxRecDepth 65536 in
theorem w_room : about1.hasRoom e0.platform room_1 = true :=
  launch0.hasRoom_least _ room_1 (by decide +kernel) (by decide +kernel) (by decide +kernel) (by decide +kernel) (by decide +kernel) (by decide +kernel)
theorem allAtoms_all (ts : List Jvm.Cond) (a : Array Jvm.Value) (st : Jvm.State) : (allAtoms ts).before a st = ts.all (fun c => c.before a st) := by
  induction ts with
  | nil => rfl
  | cons c t ih =>
    show (Jvm.Cond.and c (allAtoms t)).before a st = _
    rw [Jvm.Cond.before_and, ih, List.all_cons]
def words1 : List Jvm.Cond := Jvm.Cond.code x code maxLocals ret :: tables_1
/-- a 'code' word, met by the world's own term for the bytes: nothing is compared byte by byte -/
theorem code_word {y : MethodName} {bytes : ByteArray} {mx : Nat} {rt : Option FieldType} {a : Array Value} {s : State} {m : MethodId} {meth : Method} {c : Code} (h1 : s.methodNamed? y = some m) (h2 : s.vm.method? m = some meth) (h3 : meth.code = some c) (h4 : c.code = bytes)
    (h5 : (c.maxLocals == mx && c.exceptionTable.isEmpty && decide (c.maxStack ≤ mostOperands) && decide (meth.sig.returnType = rt) && !meth.locks && decide (parseMethodDescriptor y.desc = some meth.sig)) = true) : (Jvm.Cond.code y bytes mx rt).before a s = true := by
  simp only [Bool.and_eq_true, beq_iff_eq, Bool.not_eq_true', decide_eq_true_eq] at h5
  obtain ⟨⟨⟨⟨⟨g1, g2⟩, g3⟩, g4⟩, g5⟩, g6⟩ := h5
  simp [Cond.before, Cond.holds, Cond.value, h1, h2, h3, h4, g1, g2, g3, g4, g5, g6]
def isCode : Jvm.Cond → Bool
  | .code _ _ _ _ => true
  | _ => false
theorem all_split {L : List Jvm.Cond} {P : Jvm.Cond → Bool} (h1 : L.all (fun c => isCode c || P c) = true) (h2 : ∀ c ∈ L.filter isCode, P c = true) : L.all P = true := by
  refine List.all_eq_true.mpr fun c hc => ?_
  have h := List.all_eq_true.mp h1 c hc
  rcases Bool.eq_false_or_eq_true (isCode c) with hi | hi
  · exact h2 c (List.mem_filter.mpr ⟨hc, hi⟩)
  · simpa [hi] using h
set_option maxRecDepth 65536 in
theorem w_c0 : (Jvm.Cond.code x code maxLocals ret).before args0 about1 = true := code_word (m := ⟨1, 1⟩) (meth := k1m1) (c := k1c1) (by decide +kernel) rfl rfl rfl (by decide +kernel)
set_option maxRecDepth 65536 in
theorem w_c1 : (Jvm.Cond.code ({ cls := "com/example/kodnik/kodnik/store/Window", name := "page", desc := "(II)Lcom/example/kodnik/kodnik/store/Window;" } : Jvm.MethodName) prog_63_method_2_code (2 : Nat) (Option.some (Jvm.ClassFile.FieldType.object "com/example/kodnik/kodnik/store/Window"))).before args0 about1 = true := code_word (m := ⟨3, 1⟩) (meth := k3m1) (c := k3c1) (by decide +kernel) rfl rfl rfl (by decide +kernel)
set_option maxRecDepth 65536 in
theorem w_c2 : (Jvm.Cond.code ({ cls := "com/example/kodnik/kodnik/store/Window", name := "<init>", desc := "(JI)V" } : Jvm.MethodName) prog_63_method_1_code (4 : Nat) (Option.none : Option Jvm.ClassFile.FieldType)).before args0 about1 = true := code_word (m := ⟨3, 0⟩) (meth := k3m0) (c := k3c0) (by decide +kernel) rfl rfl rfl (by decide +kernel)
set_option maxRecDepth 65536 in
theorem w_c3 : (Jvm.Cond.code ({ cls := "java/lang/Record", name := "<init>", desc := "()V" } : Jvm.MethodName) jdk_30_method_1_code (1 : Nat) (Option.none : Option Jvm.ClassFile.FieldType)).before args0 about1 = true := code_word (m := ⟨2, 0⟩) (meth := k2m0) (c := k2c0) (by decide +kernel) rfl rfl rfl (by decide +kernel)
set_option maxRecDepth 65536 in
theorem w_c4 : (Jvm.Cond.code ({ cls := "java/lang/Object", name := "<init>", desc := "()V" } : Jvm.MethodName) object_method_1_code (1 : Nat) (Option.none : Option Jvm.ClassFile.FieldType)).before args0 about1 = true := code_word (m := ⟨0, 0⟩) (meth := k0m0) (c := k0c0) (by decide +kernel) rfl rfl rfl (by decide +kernel)
set_option maxRecDepth 65536 in
theorem w_c5 : (Jvm.Cond.code ({ cls := "com/example/kodnik/kodnik/store/Window", name := "limit", desc := "()I" } : Jvm.MethodName) prog_63_method_8_code (1 : Nat) (Option.some Jvm.ClassFile.FieldType.int)).before args0 about1 = true := code_word (m := ⟨3, 3⟩) (meth := k3m3) (c := k3c3) (by decide +kernel) rfl rfl rfl (by decide +kernel)
set_option maxRecDepth 65536 in
theorem w_c6 : (Jvm.Cond.code ({ cls := "com/example/kodnik/kodnik/store/Window", name := "skip", desc := "()J" } : Jvm.MethodName) prog_63_method_7_code (1 : Nat) (Option.some Jvm.ClassFile.FieldType.long)).before args0 about1 = true := code_word (m := ⟨3, 2⟩) (meth := k3m2) (c := k3c2) (by decide +kernel) rfl rfl rfl (by decide +kernel)
def codes1 : List Jvm.Cond := [Jvm.Cond.code x code maxLocals ret, Jvm.Cond.code ({ cls := "com/example/kodnik/kodnik/store/Window", name := "page", desc := "(II)Lcom/example/kodnik/kodnik/store/Window;" } : Jvm.MethodName) prog_63_method_2_code (2 : Nat) (Option.some (Jvm.ClassFile.FieldType.object "com/example/kodnik/kodnik/store/Window")), Jvm.Cond.code ({ cls := "com/example/kodnik/kodnik/store/Window", name := "<init>", desc := "(JI)V" } : Jvm.MethodName) prog_63_method_1_code (4 : Nat) (Option.none : Option Jvm.ClassFile.FieldType), Jvm.Cond.code ({ cls := "java/lang/Record", name := "<init>", desc := "()V" } : Jvm.MethodName) jdk_30_method_1_code (1 : Nat) (Option.none : Option Jvm.ClassFile.FieldType), Jvm.Cond.code ({ cls := "java/lang/Object", name := "<init>", desc := "()V" } : Jvm.MethodName) object_method_1_code (1 : Nat) (Option.none : Option Jvm.ClassFile.FieldType), Jvm.Cond.code ({ cls := "com/example/kodnik/kodnik/store/Window", name := "limit", desc := "()I" } : Jvm.MethodName) prog_63_method_8_code (1 : Nat) (Option.some Jvm.ClassFile.FieldType.int), Jvm.Cond.code ({ cls := "com/example/kodnik/kodnik/store/Window", name := "skip", desc := "()J" } : Jvm.MethodName) prog_63_method_7_code (1 : Nat) (Option.some Jvm.ClassFile.FieldType.long)]
set_option maxRecDepth 65536 in
theorem codes_eq : words1.filter isCode = codes1 := rfl
theorem w_codes : ∀ c ∈ words1.filter isCode, c.before args0 about1 = true := by
  rw [codes_eq]
  intro c hc
  simp only [codes1, List.mem_cons, List.not_mem_nil, or_false] at hc
  rcases hc with rfl | rfl | rfl | rfl | rfl | rfl | rfl
  · exact w_c0
  · exact w_c1
  · exact w_c2
  · exact w_c3
  · exact w_c4
  · exact w_c5
  · exact w_c6
set_option maxRecDepth 65536 in
theorem w_t1 : (words1.take 24).all (fun c => isCode c || c.before args0 about1) = true := by decide +kernel
set_option maxRecDepth 65536 in
theorem w_t2 : (words1.drop 24).all (fun c => isCode c || c.before args0 about1) = true := by decide +kernel
theorem w_tables : (allAtoms (Jvm.Cond.code x code maxLocals ret :: tables_1)).before args0 about1 = true := by
  rw [allAtoms_all]
  show words1.all (fun c => c.before args0 about1) = true
  refine all_split ?_ w_codes
  rw [← List.take_append_drop 24 words1, List.all_append, w_t1, w_t2]
  rfl
set_option maxRecDepth 65536 in
theorem w_case : (Jvm.Cond.and given_1 narrow_1).before args0 about1 = true := by decide +kernel
theorem w_applies : (headSpec (Jvm.Cond.code x code maxLocals ret :: tables_1) room_1).applies x e0.platform about1 = true :=
  (Spec.applies_iff w_frames).mpr ⟨w_running, w_runnable, w_alone, w_named, w_hears, w_ripe, w_room, w_tables⟩
theorem atStart : AtStart classFile x code maxLocals ret World_1 tables_1 room_1 Calls_1 rest_1 Pre_1 launch0 p0 e0 about1 theMethod args0 below0 :=
  ⟨lists_1, trivial, launch0.admits_env _ _ _, launch0.least_env, fairChoices_fair.cas, fairChoices_fair.clock, w_frames, w_args, w_heap, w_applies, trivial, trivial, w_case⟩
end start1
theorem witness_1 : WitnessClaimed_1 := ⟨start1.p0, start1.e0, start1.about1, start1.theMethod, start1.args0, start1.below0, start1.atStart⟩
end Jvm.Pilot.@@N@@
