import JvmDerived
import JvmDerived.Pilot.@@N@@Statement
import JvmDerived.Pilot.@@N@@Code
set_option linter.unusedVariables false
set_option linter.unusedSimpArgs false
namespace Jvm.Pilot.@@N@@
open Jvm Jvm.ClassFile Sem Op Lib Jvm.Free Jvm.Stand Jvm.LawKit Jvm.RoadKit Bundle Jvm.Pilot.@@N@@.Jvm.D
/-! steps, taken forward -/
theorem own_fw {tb : Tables} {e : Env} {below : List Frame} {A A' : State} {P : State → Outcome → Prop} (h : ∀ t, Steps tb e below A' t → Steps tb e below A t) (g : ∃ U o, Steps tb e below A' U ∧ P U o) : ∃ U o, Steps tb e below A U ∧ P U o := by
  obtain ⟨U, o, s, r⟩ := g
  exact ⟨U, o, h U s, r⟩
theorem own_st {tb : Tables} {e : Env} {below : List Frame} {A A' t : State} (h : ∀ t, Steps tb e below A' t → Steps tb e below A t) (g : Steps tb e below A' t) : Steps tb e below A t := h t g
theorem own_plainE {Z : State} {h : Heap} {a : Addr} {C : String} (F : Exa Z h a C) : ∀ cell : Cell, h[a]? = some cell → cell.vm.isStatics = false := fun cell hc => by
  obtain ⟨c1, k1, h1, -, -, h4, -⟩ := F
  cases h1.symm.trans hc
  exact h4
theorem own_plainV {Z : State} {h : Heap} {a : Addr} {k : ClassId} {ty : FieldType} {z : Int32} {vs : List Value} {dv : Value} (F : Arv Z h a k ty z vs dv) : ∀ cell : Cell, h[a]? = some cell → cell.vm.isStatics = false := fun cell hc => by
  obtain ⟨c1, A, -⟩ := F
  cases A.1.symm.trans hc
  exact A.plain
theorem own_staKeep {Z : State} {h h' : Heap} {C n d : String} {v : Value} {ws : List Addr} (F : Sta Z h C n d v) (K : Keep h h' ws) (q : ∀ x ∈ ws, ∀ cell : Cell, h[x]? = some cell → cell.vm.isStatics = false) : Sta Z h' C n d v := by
  obtain ⟨cf, i, k, f, st, cell, h1, h2, h3, h4, h5, h6, h7⟩ := F
  exact ⟨cf, i, k, f, st, cell, h1, h2, h3, h4, K.2.1 st cell h5 (fun m => by rw [q st m cell h5] at h6; cases h6), h6, h7⟩
theorem own_insLt {Z : State} {h : Heap} {a : Addr} {C : String} {bo : Bool} (F : Ins Z h a C bo) : a < h.size := by
  obtain ⟨cell, cT, h1, -⟩ := F
  exact (Array.getElem?_eq_some_iff.mp h1).1
theorem own_insKeep {Z : State} {h h' : Heap} {a : Addr} {C : String} {bo : Bool} {ws : List Addr} (F : Ins Z h a C bo) (K : Keep h h' ws) : Ins Z h' a C bo := by
  obtain ⟨cell, cT, h1, h2, h3⟩ := F
  obtain ⟨c', e1, e2, e3, -⟩ := K.2.2 a cell h1
  exact ⟨c', cT, e1, h2, by rw [e2, e3]; exact h3⟩


def own_cost (p : Int32) : Int64 := ((p.toInt64) * ((p + (1 : Int32)).toInt64)) / (2 : Int64)
theorem own_costInt (p : Int32) (h0 : 0 ≤ p.toInt) (h1 : p.toInt < 2147483647) : (own_cost p).toInt = p.toInt * (p.toInt + 1) / 2 := by
  have e1 : (p + 1).toInt = p.toInt + 1 := by
    have a1 := c_iadd p 1
    have a2 := rng32 (p + 1)
    have a3 : (1 : Int32).toInt = 1 := by decide
    rw [a3] at a1
    omega
  have e2 := XT.wideMul p (p + 1)
  rw [e1] at e2
  have hnn : 0 ≤ p.toInt * (p.toInt + 1) := Int.mul_nonneg h0 (by omega)
  have e3 := (c_ldiv (p.toInt64 * (p + 1).toInt64) 2 2 (by decide) (by decide)).1 (by rw [e2]; exact hnn)
  unfold own_cost
  rw [e3, e2]
theorem own_even (n : Int) : ∃ u, n * (n + 1) = 2 * u := by
  obtain ⟨q, hq⟩ : ∃ q, n = 2 * q ∨ n = 2 * q + 1 := ⟨n / 2, by omega⟩
  rcases hq with rfl | rfl
  · exact ⟨q * (2 * q + 1), by rw [Int.mul_assoc]⟩
  · exact ⟨(2 * q + 1) * (q + 1), by
      have : (2 * q + 1 + 1) = 2 * (q + 1) := by omega
      rw [this, ← Int.mul_assoc, Int.mul_comm (2 * q + 1) 2, Int.mul_assoc]⟩
theorem own_tri (n k : Int) : (n + k) * (n + k + 1) / 2 = n * (n + 1) / 2 + k * (k + 1) / 2 + n * k := by
  obtain ⟨u, hu⟩ := own_even n
  obtain ⟨w, hw⟩ := own_even k
  have e : (n + k) * (n + k + 1) = n * (n + 1) + k * (k + 1) + 2 * (n * k) := by
    simp only [Int.add_mul, Int.mul_add, Int.mul_one]
    rw [Int.mul_comm k n]
    omega
  rw [e, hu, hw]
  omega
theorem own_law (x y : Int32) : own_cost ((x &&& (1073741823 : Int32)) + (y &&& (1073741823 : Int32))) = (own_cost (x &&& (1073741823 : Int32)) + own_cost (y &&& (1073741823 : Int32))) + ((x &&& (1073741823 : Int32)).toInt64 * (y &&& (1073741823 : Int32)).toInt64) := by
  have m1 := c_mask x 1073741823 30 (by decide) (by decide)
  have m2 := c_mask y 1073741823 30 (by decide) (by decide)
  generalize (x &&& (1073741823 : Int32)) = a at *
  generalize (y &&& (1073741823 : Int32)) = b at *
  have ha : 0 ≤ a.toInt ∧ a.toInt < 1073741824 := by omega
  have hb : 0 ≤ b.toInt ∧ b.toInt < 1073741824 := by omega
  have es : (a + b).toInt = a.toInt + b.toInt := by
    have a1 := c_iadd a b
    have a2 := rng32 (a + b)
    omega
  have t1 := own_costInt a ha.1 (by omega)
  have t2 := own_costInt b hb.1 (by omega)
  have t3 := own_costInt (a + b) (by omega) (by omega)
  rw [es, own_tri] at t3
  have w := XT.wideMul a b
  have c1 := c_ladd (own_cost a) (own_cost b)
  have c2 := c_ladd (own_cost a + own_cost b) (a.toInt64 * b.toInt64)
  have r1 := rng64 (own_cost (a + b))
  have r2 := rng64 ((own_cost a + own_cost b) + (a.toInt64 * b.toInt64))
  apply Int64.toInt_inj.mp
  omega

theorem pn_com_example_spanwise_spanwise_WoodProblem : plainName "com/example/spanwise/spanwise/WoodProblem" = true := by first | (simp [plainName, overriddenIn]; done) | decide +kernel
theorem d_prog_26_method_7_code_0 : decode prog_26_method_7_code 0 = .ok (.iload_n 0, 1) := by decide +kernel
theorem d_prog_26_method_7_code_1 : decode prog_26_method_7_code 1 = .ok (.i2l, 1) := by decide +kernel
theorem d_prog_26_method_7_code_2 : decode prog_26_method_7_code 2 = .ok (.iload_n 0, 1) := by decide +kernel
theorem d_prog_26_method_7_code_3 : decode prog_26_method_7_code 3 = .ok (.iconst 1, 1) := by decide +kernel
theorem d_prog_26_method_7_code_4 : decode prog_26_method_7_code 4 = .ok (.iadd, 1) := by decide +kernel
theorem d_prog_26_method_7_code_5 : decode prog_26_method_7_code 5 = .ok (.i2l, 1) := by decide +kernel
theorem d_prog_26_method_7_code_6 : decode prog_26_method_7_code 6 = .ok (.lmul, 1) := by decide +kernel
theorem d_prog_26_method_7_code_7 : decode prog_26_method_7_code 7 = .ok (.ldc2_w 60, 3) := by decide +kernel
theorem d_prog_26_method_7_code_10 : decode prog_26_method_7_code 10 = .ok (.ldiv, 1) := by decide +kernel
theorem d_prog_26_method_7_code_11 : decode prog_26_method_7_code 11 = .ok (.lreturn, 1) := by decide +kernel
theorem ef_rmCost (m : MethodId) (p1 : Int32) : entryFrame m #[(.int p1)] 1 = mkF m 0 #[.val (.int p1)] [] := by first | (simp [entryFrame, mkF, argsToLocals, Value.category]; done) | rfl
def Q_rmCost (Z : State) (p1 : Int32) (h0 : Heap) (n0 : Nat) (v : Option Value) (h : Heap) (L : List Loc) : Prop := v = some (.long (((p1.toInt64) * ((p1 + (1 : Int32)).toInt64)) / (2 : Int64))) ∧ Fr n0 L ∧ h = h0
set_option maxRecDepth 65536 in
set_option maxHeartbeats 40000000 in
theorem rmCost (l : Launch) (Z : State) (a0 : Array Value) (hw : ∀ d ∈ tables_1, d.before a0 Z = true) (ws : List Jvm.Cond) (p1 : Int32) (h0 : Heap) (n0 : Nat) (Z0 : n0 ≤ h0.size)  :
    MetFree l (⟨"com/example/spanwise/spanwise/WoodProblem", "costOfCuts", "(I)J"⟩ : MethodName) (head1 (Jvm.Cond.code (⟨"com/example/spanwise/spanwise/WoodProblem", "costOfCuts", "(I)J"⟩ : MethodName) prog_26_method_7_code 1 (some .long) :: ws) ({ frames := 0, cells := 0, slots := 0, locals := 0 } : Room)) (fun a U => a = #[(.int p1)] ∧ Z.Warmed39 U.vm ∧ U.heap = h0) (fun _ _ _ _ _ => True) (fun _ U o U' => ∃ v L, o = .returned v ∧ Q_rmCost Z p1 h0 n0 v U'.heap L ∧ FrameEnd U o U' L ({ frames := 0, cells := 0, slots := 0, locals := 0 } : Room).cells ({ frames := 0, cells := 0, slots := 0, locals := 0 } : Room).slots) := by
  refine MetFree.of_bodySF (plainFor_of_name pn_com_example_spanwise_spanwise_WoodProblem) hisR ?_
  intro p e s m args below meth c s₁ Bd hml0 hP hK
  obtain ⟨rfl, hZ, hh⟩ := hP
  have hx := Bd.exec
  have hby := Bd.bytes
  have hml : c.maxLocals = 1 := hml0
  have hown : s.vm.findClass "com/example/spanwise/spanwise/WoodProblem" = some m.cls := findClass_of_methodNamed Bd.named
  have hnm := (name_of_methodNamed Bd.named Bd.method).1
  have X0 : Stand p l e ({ frames := 0, cells := 0, slots := 0, locals := 0 } : Room) s m #[(.int p1)] below meth c s₁ [] 0 0 := Stand.of_body Bd
  have e0 : s₁.heap = h0 := by rw [← hh, Bd.state]; rfl
  have N0 := Fr.nil n0
  refine own_fw (A' := (s₁.setTop (mkF m 0 #[.val (.int p1)] []))) (fun t k => castTop (ef_rmCost m p1) k) ?_
  refine own_fw (A' := (s₁.setTop (mkF m 1 #[.val (.int p1)] [(.int p1)]))) (fun t k => XS.iloadN X0.here hx rfl (hb hby d_prog_26_method_7_code_0) rfl k) ?_
  refine own_fw (A' := (s₁.setTop (mkF m 2 #[.val (.int p1)] [(.long (p1.toInt64))]))) (fun t k => XS.i2l X0.here hx rfl (hb hby d_prog_26_method_7_code_1) rfl k) ?_
  refine own_fw (A' := (s₁.setTop (mkF m 3 #[.val (.int p1)] [(.int p1), (.long (p1.toInt64))]))) (fun t k => XS.iloadN X0.here hx rfl (hb hby d_prog_26_method_7_code_2) rfl k) ?_
  refine own_fw (A' := (s₁.setTop (mkF m 4 #[.val (.int p1)] [(.int (1 : Int32)), (.int p1), (.long (p1.toInt64))]))) (fun t k => XS.iconst X0.here hx rfl (hb hby d_prog_26_method_7_code_3) k) ?_
  refine own_fw (A' := (s₁.setTop (mkF m 5 #[.val (.int p1)] [(.int (p1 + (1 : Int32))), (.long (p1.toInt64))]))) (fun t k => XS.iadd X0.here hx rfl (hb hby d_prog_26_method_7_code_4) rfl k) ?_
  refine own_fw (A' := (s₁.setTop (mkF m 6 #[.val (.int p1)] [(.long ((p1 + (1 : Int32)).toInt64)), (.long (p1.toInt64))]))) (fun t k => XS.i2l X0.here hx rfl (hb hby d_prog_26_method_7_code_5) rfl k) ?_
  refine own_fw (A' := (s₁.setTop (mkF m 7 #[.val (.int p1)] [(.long ((p1.toInt64) * ((p1 + (1 : Int32)).toInt64)))]))) (fun t k => XS.lmul X0.here hx rfl (hb hby d_prog_26_method_7_code_6) rfl k) ?_
  refine own_fw (A' := (s₁.setTop (mkF m 10 #[.val (.int p1)] [(.long (2 : Int64)), (.long ((p1.toInt64) * ((p1 + (1 : Int32)).toInt64)))]))) (fun t k => X0.ldc2Long hx hown (mvT hZ (hw _ (List.mem_of_getElem? (i := 5) rfl))) (g := (mkF m 7 #[.val (.int p1)] [(.long ((p1.toInt64) * ((p1 + (1 : Int32)).toInt64)))])) rfl (hb hby d_prog_26_method_7_code_7) _ k) ?_
  refine own_fw (A' := (s₁.setTop (mkF m 11 #[.val (.int p1)] [(.long (((p1.toInt64) * ((p1 + (1 : Int32)).toInt64)) / (2 : Int64)))]))) (fun t k => XS.ldiv X0.here hx rfl (hb hby d_prog_26_method_7_code_10) rfl (by decide) k) ?_
  obtain ⟨fs, hr, hrun, hended, hW, hsame⟩ := X0.leave (v := some (.long (((p1.toInt64) * ((p1 + (1 : Int32)).toInt64)) / (2 : Int64)))) (fun h => by rw [Bd.returns] at h; cases h)
  refine ⟨_, _, ?_, hrun, hended, _, _, rfl, ?_, ⟨_, rfl⟩, hW, hsame.mono (by decide) (by decide)⟩
  · exact retOut X0 hx Bd.returns rfl (Or.inr (Or.inl ⟨rfl, rfl, _, rfl⟩)) (hb hby d_prog_26_method_7_code_11) hr
  · show Q_rmCost Z p1 h0 n0 _ s₁.heap _
    rw [e0]
    exact ⟨rfl, N0, rfl⟩
theorem pn_com_example_spanwise_spanwise_WoodProblemCostOfCutsPinLaw : plainName "com/example/spanwise/spanwise/WoodProblemCostOfCutsPinLaw" = true := by first | (simp [plainName, overriddenIn]; done) | decide +kernel
theorem pd__I_J : parseMethodDescriptor "(I)J" = some ⟨[.int], some .long⟩ := by decide +kernel
theorem ef_rm0 (m : MethodId) (p1 : Int32) (p2 : Int32) : entryFrame m #[(.int p1), (.int p2)] maxLocals = mkF m 0 #[.val (.int p1), .val (.int p2), .unset, .unset, .unset, .unset, .unset, .unset, .unset, .unset, .unset, .unset, .unset, .unset] [] := by first | (simp [entryFrame, mkF, argsToLocals, Value.category, maxLocals]; done) | rfl
def Q_rm0 (Z : State) (p1 : Int32) (p2 : Int32) (h0 : Heap) (n0 : Nat) (v : Option Value) (h : Heap) (L : List Loc) : Prop := v = some (.int (1 : Int32)) ∧ Fr n0 L
set_option maxRecDepth 65536 in
set_option maxHeartbeats 40000000 in
theorem rm0 (l : Launch) (Z : State) (a0 : Array Value) (hw : ∀ d ∈ tables_1, d.before a0 Z = true) (ws : List Jvm.Cond) (p1 : Int32) (p2 : Int32) (h0 : Heap) (n0 : Nat) (Z0 : n0 ≤ h0.size)  :
    MetFree l x (head1 (Jvm.Cond.code x code maxLocals ret :: ws) room_1) (fun a U => a = #[(.int p1), (.int p2)] ∧ Z.Warmed39 U.vm ∧ U.heap = h0) (fun _ _ _ _ _ => True) (fun _ U o U' => ∃ v L, o = .returned v ∧ Q_rm0 Z p1 p2 h0 n0 v U'.heap L ∧ FrameEnd U o U' L room_1.cells room_1.slots) := by
  refine MetFree.of_bodySF (plainFor_of_name pn_com_example_spanwise_spanwise_WoodProblemCostOfCutsPinLaw) hisR ?_
  intro p e s m args below meth c s₁ Bd hml0 hP hK
  obtain ⟨rfl, hZ, hh⟩ := hP
  have hx := Bd.exec
  have hby := Bd.bytes
  have hml : c.maxLocals = 14 := hml0
  have hown : s.vm.findClass "com/example/spanwise/spanwise/WoodProblemCostOfCutsPinLaw" = some m.cls := findClass_of_methodNamed Bd.named
  have hnm := (name_of_methodNamed Bd.named Bd.method).1
  have X0 : Stand p l e room_1 s m #[(.int p1), (.int p2)] below meth c s₁ [] 0 0 := Stand.of_body Bd
  have e0 : s₁.heap = h0 := by rw [← hh, Bd.state]; rfl
  have N0 := Fr.nil n0
  refine own_fw (A' := (s₁.setTop (mkF m 0 #[.val (.int p1), .val (.int p2), .unset, .unset, .unset, .unset, .unset, .unset, .unset, .unset, .unset, .unset, .unset, .unset] []))) (fun t k => castTop (ef_rm0 m p1 p2) k) ?_
  refine own_fw (A' := (s₁.setTop (mkF m 1 #[.val (.int p1), .val (.int p2), .unset, .unset, .unset, .unset, .unset, .unset, .unset, .unset, .unset, .unset, .unset, .unset] [(.int p1)]))) (fun t k => XS.iloadN X0.here hx rfl (hb hby at_0) rfl k) ?_
  refine own_fw (A' := (s₁.setTop (mkF m 3 #[.val (.int p1), .val (.int p2), .unset, .unset, .unset, .unset, .unset, .unset, .unset, .unset, .unset, .unset, .unset, .unset] [(.int (1073741823 : Int32)), (.int p1)]))) (fun t k => X0.ldcInt hx hown (mvT hZ (hw _ (List.mem_of_getElem? (i := 0) rfl))) (g := (mkF m 1 #[.val (.int p1), .val (.int p2), .unset, .unset, .unset, .unset, .unset, .unset, .unset, .unset, .unset, .unset, .unset, .unset] [(.int p1)])) rfl (hb hby at_1) _ k) ?_
  refine own_fw (A' := (s₁.setTop (mkF m 4 #[.val (.int p1), .val (.int p2), .unset, .unset, .unset, .unset, .unset, .unset, .unset, .unset, .unset, .unset, .unset, .unset] [(.int (p1 &&& (1073741823 : Int32)))]))) (fun t k => XS.iand X0.here hx rfl (hb hby at_3) rfl k) ?_
  refine own_fw (A' := (s₁.setTop (mkF m 5 #[.val (.int p1), .val (.int p2), .val (.int (p1 &&& (1073741823 : Int32))), .unset, .unset, .unset, .unset, .unset, .unset, .unset, .unset, .unset, .unset, .unset] []))) (fun t k => XS.istoreN X0.here hx rfl (hb hby at_4) rfl (l' := #[.val (.int p1), .val (.int p2), .val (.int (p1 &&& (1073741823 : Int32))), .unset, .unset, .unset, .unset, .unset, .unset, .unset, .unset, .unset, .unset, .unset]) rfl k) ?_
  refine own_fw (A' := (s₁.setTop (mkF m 6 #[.val (.int p1), .val (.int p2), .val (.int (p1 &&& (1073741823 : Int32))), .unset, .unset, .unset, .unset, .unset, .unset, .unset, .unset, .unset, .unset, .unset] [(.int p2)]))) (fun t k => XS.iloadN X0.here hx rfl (hb hby at_5) rfl k) ?_
  refine own_fw (A' := (s₁.setTop (mkF m 8 #[.val (.int p1), .val (.int p2), .val (.int (p1 &&& (1073741823 : Int32))), .unset, .unset, .unset, .unset, .unset, .unset, .unset, .unset, .unset, .unset, .unset] [(.int (1073741823 : Int32)), (.int p2)]))) (fun t k => X0.ldcInt hx hown (mvT hZ (hw _ (List.mem_of_getElem? (i := 0) rfl))) (g := (mkF m 6 #[.val (.int p1), .val (.int p2), .val (.int (p1 &&& (1073741823 : Int32))), .unset, .unset, .unset, .unset, .unset, .unset, .unset, .unset, .unset, .unset, .unset] [(.int p2)])) rfl (hb hby at_6) _ k) ?_
  refine own_fw (A' := (s₁.setTop (mkF m 9 #[.val (.int p1), .val (.int p2), .val (.int (p1 &&& (1073741823 : Int32))), .unset, .unset, .unset, .unset, .unset, .unset, .unset, .unset, .unset, .unset, .unset] [(.int (p2 &&& (1073741823 : Int32)))]))) (fun t k => XS.iand X0.here hx rfl (hb hby at_8) rfl k) ?_
  refine own_fw (A' := (s₁.setTop (mkF m 10 #[.val (.int p1), .val (.int p2), .val (.int (p1 &&& (1073741823 : Int32))), .val (.int (p2 &&& (1073741823 : Int32))), .unset, .unset, .unset, .unset, .unset, .unset, .unset, .unset, .unset, .unset] []))) (fun t k => XS.istoreN X0.here hx rfl (hb hby at_9) rfl (l' := #[.val (.int p1), .val (.int p2), .val (.int (p1 &&& (1073741823 : Int32))), .val (.int (p2 &&& (1073741823 : Int32))), .unset, .unset, .unset, .unset, .unset, .unset, .unset, .unset, .unset, .unset]) rfl k) ?_
  refine own_fw (A' := (s₁.setTop (mkF m 11 #[.val (.int p1), .val (.int p2), .val (.int (p1 &&& (1073741823 : Int32))), .val (.int (p2 &&& (1073741823 : Int32))), .unset, .unset, .unset, .unset, .unset, .unset, .unset, .unset, .unset, .unset] [(.int (0 : Int32))]))) (fun t k => XS.iconst X0.here hx rfl (hb hby at_10) k) ?_
  obtain ⟨_, _, ⟨T1, L1, k1, n1⟩, -, X1, ⟨Lc1, hQ1, l1, y1, z1⟩, st1⟩ := Jvm.LawKit.callS X0 hx (y := (⟨"com/example/spanwise/spanwise/WoodProblem", "costOfCuts", "(I)J"⟩ : MethodName)) hown (mvT hZ (hw _ (List.mem_of_getElem? (i := 1) rfl))) (mvT hZ (hw _ (List.mem_of_getElem? (i := 2) rfl))) (mvT hZ (hw _ (List.mem_of_getElem? (i := 3) rfl))) (mvT hZ (hw _ (List.mem_of_getElem? (i := 4) rfl))) (by decide) (backOf (W := 0) (rmCost l Z a0 hw [] (0 : Int32) h0 n0 Z0 ) hZ (hw _ (List.mem_of_getElem? (i := 4) rfl)) (hw _ (List.mem_of_getElem? (i := 3) rfl)) (by decide) (by decide)) (g := (mkF m 11 #[.val (.int p1), .val (.int p2), .val (.int (p1 &&& (1073741823 : Int32))), .val (.int (p2 &&& (1073741823 : Int32))), .unset, .unset, .unset, .unset, .unset, .unset, .unset, .unset, .unset, .unset] [(.int (0 : Int32))])) rfl (by rw [hml]; rfl) (argsL := [(.int (0 : Int32))]) (rest := []) (lenOf pd__I_J rfl) rfl (by show 2 * 0 + _ ≤ _; exact Nat.le_of_eq rfl) (hb hby at_11) (fun _ _ => ⟨rfl, e0, (by decide : 0 + 0 ≤ _), (by decide : 0 + 0 ≤ _)⟩)
  dsimp only [Pt.U, Pt.locs, Pt.cells, Pt.slots] at X1 l1 y1 z1 st1 hQ1
  subst l1 y1 z1
  obtain ⟨rfl, Nq1, e1⟩ := hQ1
  have Nf1 := Fr.app N0 Nq1
  refine own_fw (A' := (T1.setTop (mkF m 14 #[.val (.int p1), .val (.int p2), .val (.int (p1 &&& (1073741823 : Int32))), .val (.int (p2 &&& (1073741823 : Int32))), .unset, .unset, .unset, .unset, .unset, .unset, .unset, .unset, .unset, .unset] [(.long ((((0 : Int32).toInt64) * (((0 : Int32) + (1 : Int32)).toInt64)) / (2 : Int64)))]))) (fun t k => st1 _ k) ?_
  refine own_fw (A' := (T1.setTop (mkF m 16 #[.val (.int p1), .val (.int p2), .val (.int (p1 &&& (1073741823 : Int32))), .val (.int (p2 &&& (1073741823 : Int32))), .val (.long ((((0 : Int32).toInt64) * (((0 : Int32) + (1 : Int32)).toInt64)) / (2 : Int64))), .second, .unset, .unset, .unset, .unset, .unset, .unset, .unset, .unset] []))) (fun t k => XS.lstore X1.here hx rfl (hb hby at_14) rfl (l' := #[.val (.int p1), .val (.int p2), .val (.int (p1 &&& (1073741823 : Int32))), .val (.int (p2 &&& (1073741823 : Int32))), .val (.long ((((0 : Int32).toInt64) * (((0 : Int32) + (1 : Int32)).toInt64)) / (2 : Int64))), .second, .unset, .unset, .unset, .unset, .unset, .unset, .unset, .unset]) rfl k) ?_
  refine own_fw (A' := (T1.setTop (mkF m 17 #[.val (.int p1), .val (.int p2), .val (.int (p1 &&& (1073741823 : Int32))), .val (.int (p2 &&& (1073741823 : Int32))), .val (.long ((((0 : Int32).toInt64) * (((0 : Int32) + (1 : Int32)).toInt64)) / (2 : Int64))), .second, .unset, .unset, .unset, .unset, .unset, .unset, .unset, .unset] [(.int (1 : Int32))]))) (fun t k => XS.iconst X1.here hx rfl (hb hby at_16) k) ?_
  obtain ⟨_, _, ⟨T2, L2, k2, n2⟩, -, X2, ⟨Lc2, hQ2, l2, y2, z2⟩, st2⟩ := Jvm.LawKit.callS X1 hx (y := (⟨"com/example/spanwise/spanwise/WoodProblem", "costOfCuts", "(I)J"⟩ : MethodName)) hown (mvT hZ (hw _ (List.mem_of_getElem? (i := 1) rfl))) (mvT hZ (hw _ (List.mem_of_getElem? (i := 2) rfl))) (mvT hZ (hw _ (List.mem_of_getElem? (i := 3) rfl))) (mvT hZ (hw _ (List.mem_of_getElem? (i := 4) rfl))) (by decide) (backOf (W := 0) (rmCost l Z a0 hw [] (1 : Int32) h0 n0 Z0 ) hZ (hw _ (List.mem_of_getElem? (i := 4) rfl)) (hw _ (List.mem_of_getElem? (i := 3) rfl)) (by decide) (by decide)) (g := (mkF m 17 #[.val (.int p1), .val (.int p2), .val (.int (p1 &&& (1073741823 : Int32))), .val (.int (p2 &&& (1073741823 : Int32))), .val (.long ((((0 : Int32).toInt64) * (((0 : Int32) + (1 : Int32)).toInt64)) / (2 : Int64))), .second, .unset, .unset, .unset, .unset, .unset, .unset, .unset, .unset] [(.int (1 : Int32))])) rfl (by rw [hml]; rfl) (argsL := [(.int (1 : Int32))]) (rest := []) (lenOf pd__I_J rfl) rfl (by show 2 * 0 + _ ≤ _; exact Nat.le_of_eq rfl) (hb hby at_17) (fun _ _ => ⟨rfl, e1, (by decide : 0 + 0 ≤ _), (by decide : 0 + 0 ≤ _)⟩)
  dsimp only [Pt.U, Pt.locs, Pt.cells, Pt.slots] at X2 l2 y2 z2 st2 hQ2
  subst l2 y2 z2
  obtain ⟨rfl, Nq2, e2⟩ := hQ2
  have Nf2 := Fr.app Nf1 Nq2
  refine own_fw (A' := (T2.setTop (mkF m 20 #[.val (.int p1), .val (.int p2), .val (.int (p1 &&& (1073741823 : Int32))), .val (.int (p2 &&& (1073741823 : Int32))), .val (.long ((((0 : Int32).toInt64) * (((0 : Int32) + (1 : Int32)).toInt64)) / (2 : Int64))), .second, .unset, .unset, .unset, .unset, .unset, .unset, .unset, .unset] [(.long ((((1 : Int32).toInt64) * (((1 : Int32) + (1 : Int32)).toInt64)) / (2 : Int64)))]))) (fun t k => st2 _ k) ?_
  refine own_fw (A' := (T2.setTop (mkF m 22 #[.val (.int p1), .val (.int p2), .val (.int (p1 &&& (1073741823 : Int32))), .val (.int (p2 &&& (1073741823 : Int32))), .val (.long ((((0 : Int32).toInt64) * (((0 : Int32) + (1 : Int32)).toInt64)) / (2 : Int64))), .second, .val (.long ((((1 : Int32).toInt64) * (((1 : Int32) + (1 : Int32)).toInt64)) / (2 : Int64))), .second, .unset, .unset, .unset, .unset, .unset, .unset] []))) (fun t k => XS.lstore X2.here hx rfl (hb hby at_20) rfl (l' := #[.val (.int p1), .val (.int p2), .val (.int (p1 &&& (1073741823 : Int32))), .val (.int (p2 &&& (1073741823 : Int32))), .val (.long ((((0 : Int32).toInt64) * (((0 : Int32) + (1 : Int32)).toInt64)) / (2 : Int64))), .second, .val (.long ((((1 : Int32).toInt64) * (((1 : Int32) + (1 : Int32)).toInt64)) / (2 : Int64))), .second, .unset, .unset, .unset, .unset, .unset, .unset]) rfl k) ?_
  refine own_fw (A' := (T2.setTop (mkF m 23 #[.val (.int p1), .val (.int p2), .val (.int (p1 &&& (1073741823 : Int32))), .val (.int (p2 &&& (1073741823 : Int32))), .val (.long ((((0 : Int32).toInt64) * (((0 : Int32) + (1 : Int32)).toInt64)) / (2 : Int64))), .second, .val (.long ((((1 : Int32).toInt64) * (((1 : Int32) + (1 : Int32)).toInt64)) / (2 : Int64))), .second, .unset, .unset, .unset, .unset, .unset, .unset] [(.int (p1 &&& (1073741823 : Int32)))]))) (fun t k => XS.iloadN X2.here hx rfl (hb hby at_22) rfl k) ?_
  obtain ⟨_, _, ⟨T3, L3, k3, n3⟩, -, X3, ⟨Lc3, hQ3, l3, y3, z3⟩, st3⟩ := Jvm.LawKit.callS X2 hx (y := (⟨"com/example/spanwise/spanwise/WoodProblem", "costOfCuts", "(I)J"⟩ : MethodName)) hown (mvT hZ (hw _ (List.mem_of_getElem? (i := 1) rfl))) (mvT hZ (hw _ (List.mem_of_getElem? (i := 2) rfl))) (mvT hZ (hw _ (List.mem_of_getElem? (i := 3) rfl))) (mvT hZ (hw _ (List.mem_of_getElem? (i := 4) rfl))) (by decide) (backOf (W := 0) (rmCost l Z a0 hw [] (p1 &&& (1073741823 : Int32)) h0 n0 Z0 ) hZ (hw _ (List.mem_of_getElem? (i := 4) rfl)) (hw _ (List.mem_of_getElem? (i := 3) rfl)) (by decide) (by decide)) (g := (mkF m 23 #[.val (.int p1), .val (.int p2), .val (.int (p1 &&& (1073741823 : Int32))), .val (.int (p2 &&& (1073741823 : Int32))), .val (.long ((((0 : Int32).toInt64) * (((0 : Int32) + (1 : Int32)).toInt64)) / (2 : Int64))), .second, .val (.long ((((1 : Int32).toInt64) * (((1 : Int32) + (1 : Int32)).toInt64)) / (2 : Int64))), .second, .unset, .unset, .unset, .unset, .unset, .unset] [(.int (p1 &&& (1073741823 : Int32)))])) rfl (by rw [hml]; rfl) (argsL := [(.int (p1 &&& (1073741823 : Int32)))]) (rest := []) (lenOf pd__I_J rfl) rfl (by show 2 * 0 + _ ≤ _; exact Nat.le_of_eq rfl) (hb hby at_23) (fun _ _ => ⟨rfl, e2, (by decide : 0 + 0 ≤ _), (by decide : 0 + 0 ≤ _)⟩)
  dsimp only [Pt.U, Pt.locs, Pt.cells, Pt.slots] at X3 l3 y3 z3 st3 hQ3
  subst l3 y3 z3
  obtain ⟨rfl, Nq3, e3⟩ := hQ3
  have Nf3 := Fr.app Nf2 Nq3
  refine own_fw (A' := (T3.setTop (mkF m 26 #[.val (.int p1), .val (.int p2), .val (.int (p1 &&& (1073741823 : Int32))), .val (.int (p2 &&& (1073741823 : Int32))), .val (.long ((((0 : Int32).toInt64) * (((0 : Int32) + (1 : Int32)).toInt64)) / (2 : Int64))), .second, .val (.long ((((1 : Int32).toInt64) * (((1 : Int32) + (1 : Int32)).toInt64)) / (2 : Int64))), .second, .unset, .unset, .unset, .unset, .unset, .unset] [(.long ((((p1 &&& (1073741823 : Int32)).toInt64) * (((p1 &&& (1073741823 : Int32)) + (1 : Int32)).toInt64)) / (2 : Int64)))]))) (fun t k => st3 _ k) ?_
  refine own_fw (A' := (T3.setTop (mkF m 28 #[.val (.int p1), .val (.int p2), .val (.int (p1 &&& (1073741823 : Int32))), .val (.int (p2 &&& (1073741823 : Int32))), .val (.long ((((0 : Int32).toInt64) * (((0 : Int32) + (1 : Int32)).toInt64)) / (2 : Int64))), .second, .val (.long ((((1 : Int32).toInt64) * (((1 : Int32) + (1 : Int32)).toInt64)) / (2 : Int64))), .second, .val (.long ((((p1 &&& (1073741823 : Int32)).toInt64) * (((p1 &&& (1073741823 : Int32)) + (1 : Int32)).toInt64)) / (2 : Int64))), .second, .unset, .unset, .unset, .unset] []))) (fun t k => XS.lstore X3.here hx rfl (hb hby at_26) rfl (l' := #[.val (.int p1), .val (.int p2), .val (.int (p1 &&& (1073741823 : Int32))), .val (.int (p2 &&& (1073741823 : Int32))), .val (.long ((((0 : Int32).toInt64) * (((0 : Int32) + (1 : Int32)).toInt64)) / (2 : Int64))), .second, .val (.long ((((1 : Int32).toInt64) * (((1 : Int32) + (1 : Int32)).toInt64)) / (2 : Int64))), .second, .val (.long ((((p1 &&& (1073741823 : Int32)).toInt64) * (((p1 &&& (1073741823 : Int32)) + (1 : Int32)).toInt64)) / (2 : Int64))), .second, .unset, .unset, .unset, .unset]) rfl k) ?_
  refine own_fw (A' := (T3.setTop (mkF m 29 #[.val (.int p1), .val (.int p2), .val (.int (p1 &&& (1073741823 : Int32))), .val (.int (p2 &&& (1073741823 : Int32))), .val (.long ((((0 : Int32).toInt64) * (((0 : Int32) + (1 : Int32)).toInt64)) / (2 : Int64))), .second, .val (.long ((((1 : Int32).toInt64) * (((1 : Int32) + (1 : Int32)).toInt64)) / (2 : Int64))), .second, .val (.long ((((p1 &&& (1073741823 : Int32)).toInt64) * (((p1 &&& (1073741823 : Int32)) + (1 : Int32)).toInt64)) / (2 : Int64))), .second, .unset, .unset, .unset, .unset] [(.int (p2 &&& (1073741823 : Int32)))]))) (fun t k => XS.iloadN X3.here hx rfl (hb hby at_28) rfl k) ?_
  obtain ⟨_, _, ⟨T4, L4, k4, n4⟩, -, X4, ⟨Lc4, hQ4, l4, y4, z4⟩, st4⟩ := Jvm.LawKit.callS X3 hx (y := (⟨"com/example/spanwise/spanwise/WoodProblem", "costOfCuts", "(I)J"⟩ : MethodName)) hown (mvT hZ (hw _ (List.mem_of_getElem? (i := 1) rfl))) (mvT hZ (hw _ (List.mem_of_getElem? (i := 2) rfl))) (mvT hZ (hw _ (List.mem_of_getElem? (i := 3) rfl))) (mvT hZ (hw _ (List.mem_of_getElem? (i := 4) rfl))) (by decide) (backOf (W := 0) (rmCost l Z a0 hw [] (p2 &&& (1073741823 : Int32)) h0 n0 Z0 ) hZ (hw _ (List.mem_of_getElem? (i := 4) rfl)) (hw _ (List.mem_of_getElem? (i := 3) rfl)) (by decide) (by decide)) (g := (mkF m 29 #[.val (.int p1), .val (.int p2), .val (.int (p1 &&& (1073741823 : Int32))), .val (.int (p2 &&& (1073741823 : Int32))), .val (.long ((((0 : Int32).toInt64) * (((0 : Int32) + (1 : Int32)).toInt64)) / (2 : Int64))), .second, .val (.long ((((1 : Int32).toInt64) * (((1 : Int32) + (1 : Int32)).toInt64)) / (2 : Int64))), .second, .val (.long ((((p1 &&& (1073741823 : Int32)).toInt64) * (((p1 &&& (1073741823 : Int32)) + (1 : Int32)).toInt64)) / (2 : Int64))), .second, .unset, .unset, .unset, .unset] [(.int (p2 &&& (1073741823 : Int32)))])) rfl (by rw [hml]; rfl) (argsL := [(.int (p2 &&& (1073741823 : Int32)))]) (rest := []) (lenOf pd__I_J rfl) rfl (by show 2 * 0 + _ ≤ _; exact Nat.le_of_eq rfl) (hb hby at_29) (fun _ _ => ⟨rfl, e3, (by decide : 0 + 0 ≤ _), (by decide : 0 + 0 ≤ _)⟩)
  dsimp only [Pt.U, Pt.locs, Pt.cells, Pt.slots] at X4 l4 y4 z4 st4 hQ4
  subst l4 y4 z4
  obtain ⟨rfl, Nq4, e4⟩ := hQ4
  have Nf4 := Fr.app Nf3 Nq4
  refine own_fw (A' := (T4.setTop (mkF m 32 #[.val (.int p1), .val (.int p2), .val (.int (p1 &&& (1073741823 : Int32))), .val (.int (p2 &&& (1073741823 : Int32))), .val (.long ((((0 : Int32).toInt64) * (((0 : Int32) + (1 : Int32)).toInt64)) / (2 : Int64))), .second, .val (.long ((((1 : Int32).toInt64) * (((1 : Int32) + (1 : Int32)).toInt64)) / (2 : Int64))), .second, .val (.long ((((p1 &&& (1073741823 : Int32)).toInt64) * (((p1 &&& (1073741823 : Int32)) + (1 : Int32)).toInt64)) / (2 : Int64))), .second, .unset, .unset, .unset, .unset] [(.long ((((p2 &&& (1073741823 : Int32)).toInt64) * (((p2 &&& (1073741823 : Int32)) + (1 : Int32)).toInt64)) / (2 : Int64)))]))) (fun t k => st4 _ k) ?_
  refine own_fw (A' := (T4.setTop (mkF m 34 #[.val (.int p1), .val (.int p2), .val (.int (p1 &&& (1073741823 : Int32))), .val (.int (p2 &&& (1073741823 : Int32))), .val (.long ((((0 : Int32).toInt64) * (((0 : Int32) + (1 : Int32)).toInt64)) / (2 : Int64))), .second, .val (.long ((((1 : Int32).toInt64) * (((1 : Int32) + (1 : Int32)).toInt64)) / (2 : Int64))), .second, .val (.long ((((p1 &&& (1073741823 : Int32)).toInt64) * (((p1 &&& (1073741823 : Int32)) + (1 : Int32)).toInt64)) / (2 : Int64))), .second, .val (.long ((((p2 &&& (1073741823 : Int32)).toInt64) * (((p2 &&& (1073741823 : Int32)) + (1 : Int32)).toInt64)) / (2 : Int64))), .second, .unset, .unset] []))) (fun t k => XS.lstore X4.here hx rfl (hb hby at_32) rfl (l' := #[.val (.int p1), .val (.int p2), .val (.int (p1 &&& (1073741823 : Int32))), .val (.int (p2 &&& (1073741823 : Int32))), .val (.long ((((0 : Int32).toInt64) * (((0 : Int32) + (1 : Int32)).toInt64)) / (2 : Int64))), .second, .val (.long ((((1 : Int32).toInt64) * (((1 : Int32) + (1 : Int32)).toInt64)) / (2 : Int64))), .second, .val (.long ((((p1 &&& (1073741823 : Int32)).toInt64) * (((p1 &&& (1073741823 : Int32)) + (1 : Int32)).toInt64)) / (2 : Int64))), .second, .val (.long ((((p2 &&& (1073741823 : Int32)).toInt64) * (((p2 &&& (1073741823 : Int32)) + (1 : Int32)).toInt64)) / (2 : Int64))), .second, .unset, .unset]) rfl k) ?_
  refine own_fw (A' := (T4.setTop (mkF m 35 #[.val (.int p1), .val (.int p2), .val (.int (p1 &&& (1073741823 : Int32))), .val (.int (p2 &&& (1073741823 : Int32))), .val (.long ((((0 : Int32).toInt64) * (((0 : Int32) + (1 : Int32)).toInt64)) / (2 : Int64))), .second, .val (.long ((((1 : Int32).toInt64) * (((1 : Int32) + (1 : Int32)).toInt64)) / (2 : Int64))), .second, .val (.long ((((p1 &&& (1073741823 : Int32)).toInt64) * (((p1 &&& (1073741823 : Int32)) + (1 : Int32)).toInt64)) / (2 : Int64))), .second, .val (.long ((((p2 &&& (1073741823 : Int32)).toInt64) * (((p2 &&& (1073741823 : Int32)) + (1 : Int32)).toInt64)) / (2 : Int64))), .second, .unset, .unset] [(.int (p1 &&& (1073741823 : Int32)))]))) (fun t k => XS.iloadN X4.here hx rfl (hb hby at_34) rfl k) ?_
  refine own_fw (A' := (T4.setTop (mkF m 36 #[.val (.int p1), .val (.int p2), .val (.int (p1 &&& (1073741823 : Int32))), .val (.int (p2 &&& (1073741823 : Int32))), .val (.long ((((0 : Int32).toInt64) * (((0 : Int32) + (1 : Int32)).toInt64)) / (2 : Int64))), .second, .val (.long ((((1 : Int32).toInt64) * (((1 : Int32) + (1 : Int32)).toInt64)) / (2 : Int64))), .second, .val (.long ((((p1 &&& (1073741823 : Int32)).toInt64) * (((p1 &&& (1073741823 : Int32)) + (1 : Int32)).toInt64)) / (2 : Int64))), .second, .val (.long ((((p2 &&& (1073741823 : Int32)).toInt64) * (((p2 &&& (1073741823 : Int32)) + (1 : Int32)).toInt64)) / (2 : Int64))), .second, .unset, .unset] [(.int (p2 &&& (1073741823 : Int32))), (.int (p1 &&& (1073741823 : Int32)))]))) (fun t k => XS.iloadN X4.here hx rfl (hb hby at_35) rfl k) ?_
  refine own_fw (A' := (T4.setTop (mkF m 37 #[.val (.int p1), .val (.int p2), .val (.int (p1 &&& (1073741823 : Int32))), .val (.int (p2 &&& (1073741823 : Int32))), .val (.long ((((0 : Int32).toInt64) * (((0 : Int32) + (1 : Int32)).toInt64)) / (2 : Int64))), .second, .val (.long ((((1 : Int32).toInt64) * (((1 : Int32) + (1 : Int32)).toInt64)) / (2 : Int64))), .second, .val (.long ((((p1 &&& (1073741823 : Int32)).toInt64) * (((p1 &&& (1073741823 : Int32)) + (1 : Int32)).toInt64)) / (2 : Int64))), .second, .val (.long ((((p2 &&& (1073741823 : Int32)).toInt64) * (((p2 &&& (1073741823 : Int32)) + (1 : Int32)).toInt64)) / (2 : Int64))), .second, .unset, .unset] [(.int ((p1 &&& (1073741823 : Int32)) + (p2 &&& (1073741823 : Int32))))]))) (fun t k => XS.iadd X4.here hx rfl (hb hby at_36) rfl k) ?_
  obtain ⟨_, _, ⟨T5, L5, k5, n5⟩, -, X5, ⟨Lc5, hQ5, l5, y5, z5⟩, st5⟩ := Jvm.LawKit.callS X4 hx (y := (⟨"com/example/spanwise/spanwise/WoodProblem", "costOfCuts", "(I)J"⟩ : MethodName)) hown (mvT hZ (hw _ (List.mem_of_getElem? (i := 1) rfl))) (mvT hZ (hw _ (List.mem_of_getElem? (i := 2) rfl))) (mvT hZ (hw _ (List.mem_of_getElem? (i := 3) rfl))) (mvT hZ (hw _ (List.mem_of_getElem? (i := 4) rfl))) (by decide) (backOf (W := 0) (rmCost l Z a0 hw [] ((p1 &&& (1073741823 : Int32)) + (p2 &&& (1073741823 : Int32))) h0 n0 Z0 ) hZ (hw _ (List.mem_of_getElem? (i := 4) rfl)) (hw _ (List.mem_of_getElem? (i := 3) rfl)) (by decide) (by decide)) (g := (mkF m 37 #[.val (.int p1), .val (.int p2), .val (.int (p1 &&& (1073741823 : Int32))), .val (.int (p2 &&& (1073741823 : Int32))), .val (.long ((((0 : Int32).toInt64) * (((0 : Int32) + (1 : Int32)).toInt64)) / (2 : Int64))), .second, .val (.long ((((1 : Int32).toInt64) * (((1 : Int32) + (1 : Int32)).toInt64)) / (2 : Int64))), .second, .val (.long ((((p1 &&& (1073741823 : Int32)).toInt64) * (((p1 &&& (1073741823 : Int32)) + (1 : Int32)).toInt64)) / (2 : Int64))), .second, .val (.long ((((p2 &&& (1073741823 : Int32)).toInt64) * (((p2 &&& (1073741823 : Int32)) + (1 : Int32)).toInt64)) / (2 : Int64))), .second, .unset, .unset] [(.int ((p1 &&& (1073741823 : Int32)) + (p2 &&& (1073741823 : Int32))))])) rfl (by rw [hml]; rfl) (argsL := [(.int ((p1 &&& (1073741823 : Int32)) + (p2 &&& (1073741823 : Int32))))]) (rest := []) (lenOf pd__I_J rfl) rfl (by show 2 * 0 + _ ≤ _; exact Nat.le_of_eq rfl) (hb hby at_37) (fun _ _ => ⟨rfl, e4, (by decide : 0 + 0 ≤ _), (by decide : 0 + 0 ≤ _)⟩)
  dsimp only [Pt.U, Pt.locs, Pt.cells, Pt.slots] at X5 l5 y5 z5 st5 hQ5
  subst l5 y5 z5
  obtain ⟨rfl, Nq5, e5⟩ := hQ5
  have Nf5 := Fr.app Nf4 Nq5
  refine own_fw (A' := (T5.setTop (mkF m 40 #[.val (.int p1), .val (.int p2), .val (.int (p1 &&& (1073741823 : Int32))), .val (.int (p2 &&& (1073741823 : Int32))), .val (.long ((((0 : Int32).toInt64) * (((0 : Int32) + (1 : Int32)).toInt64)) / (2 : Int64))), .second, .val (.long ((((1 : Int32).toInt64) * (((1 : Int32) + (1 : Int32)).toInt64)) / (2 : Int64))), .second, .val (.long ((((p1 &&& (1073741823 : Int32)).toInt64) * (((p1 &&& (1073741823 : Int32)) + (1 : Int32)).toInt64)) / (2 : Int64))), .second, .val (.long ((((p2 &&& (1073741823 : Int32)).toInt64) * (((p2 &&& (1073741823 : Int32)) + (1 : Int32)).toInt64)) / (2 : Int64))), .second, .unset, .unset] [(.long (((((p1 &&& (1073741823 : Int32)) + (p2 &&& (1073741823 : Int32))).toInt64) * ((((p1 &&& (1073741823 : Int32)) + (p2 &&& (1073741823 : Int32))) + (1 : Int32)).toInt64)) / (2 : Int64)))]))) (fun t k => st5 _ k) ?_
  refine own_fw (A' := (T5.setTop (mkF m 42 #[.val (.int p1), .val (.int p2), .val (.int (p1 &&& (1073741823 : Int32))), .val (.int (p2 &&& (1073741823 : Int32))), .val (.long ((((0 : Int32).toInt64) * (((0 : Int32) + (1 : Int32)).toInt64)) / (2 : Int64))), .second, .val (.long ((((1 : Int32).toInt64) * (((1 : Int32) + (1 : Int32)).toInt64)) / (2 : Int64))), .second, .val (.long ((((p1 &&& (1073741823 : Int32)).toInt64) * (((p1 &&& (1073741823 : Int32)) + (1 : Int32)).toInt64)) / (2 : Int64))), .second, .val (.long ((((p2 &&& (1073741823 : Int32)).toInt64) * (((p2 &&& (1073741823 : Int32)) + (1 : Int32)).toInt64)) / (2 : Int64))), .second, .val (.long (((((p1 &&& (1073741823 : Int32)) + (p2 &&& (1073741823 : Int32))).toInt64) * ((((p1 &&& (1073741823 : Int32)) + (p2 &&& (1073741823 : Int32))) + (1 : Int32)).toInt64)) / (2 : Int64))), .second] []))) (fun t k => XS.lstore X5.here hx rfl (hb hby at_40) rfl (l' := #[.val (.int p1), .val (.int p2), .val (.int (p1 &&& (1073741823 : Int32))), .val (.int (p2 &&& (1073741823 : Int32))), .val (.long ((((0 : Int32).toInt64) * (((0 : Int32) + (1 : Int32)).toInt64)) / (2 : Int64))), .second, .val (.long ((((1 : Int32).toInt64) * (((1 : Int32) + (1 : Int32)).toInt64)) / (2 : Int64))), .second, .val (.long ((((p1 &&& (1073741823 : Int32)).toInt64) * (((p1 &&& (1073741823 : Int32)) + (1 : Int32)).toInt64)) / (2 : Int64))), .second, .val (.long ((((p2 &&& (1073741823 : Int32)).toInt64) * (((p2 &&& (1073741823 : Int32)) + (1 : Int32)).toInt64)) / (2 : Int64))), .second, .val (.long (((((p1 &&& (1073741823 : Int32)) + (p2 &&& (1073741823 : Int32))).toInt64) * ((((p1 &&& (1073741823 : Int32)) + (p2 &&& (1073741823 : Int32))) + (1 : Int32)).toInt64)) / (2 : Int64))), .second]) rfl k) ?_
  refine own_fw (A' := (T5.setTop (mkF m 44 #[.val (.int p1), .val (.int p2), .val (.int (p1 &&& (1073741823 : Int32))), .val (.int (p2 &&& (1073741823 : Int32))), .val (.long ((((0 : Int32).toInt64) * (((0 : Int32) + (1 : Int32)).toInt64)) / (2 : Int64))), .second, .val (.long ((((1 : Int32).toInt64) * (((1 : Int32) + (1 : Int32)).toInt64)) / (2 : Int64))), .second, .val (.long ((((p1 &&& (1073741823 : Int32)).toInt64) * (((p1 &&& (1073741823 : Int32)) + (1 : Int32)).toInt64)) / (2 : Int64))), .second, .val (.long ((((p2 &&& (1073741823 : Int32)).toInt64) * (((p2 &&& (1073741823 : Int32)) + (1 : Int32)).toInt64)) / (2 : Int64))), .second, .val (.long (((((p1 &&& (1073741823 : Int32)) + (p2 &&& (1073741823 : Int32))).toInt64) * ((((p1 &&& (1073741823 : Int32)) + (p2 &&& (1073741823 : Int32))) + (1 : Int32)).toInt64)) / (2 : Int64))), .second] [(.long ((((0 : Int32).toInt64) * (((0 : Int32) + (1 : Int32)).toInt64)) / (2 : Int64)))]))) (fun t k => XS.lload X5.here hx rfl (hb hby at_42) rfl k) ?_
  refine own_fw (A' := (T5.setTop (mkF m 45 #[.val (.int p1), .val (.int p2), .val (.int (p1 &&& (1073741823 : Int32))), .val (.int (p2 &&& (1073741823 : Int32))), .val (.long ((((0 : Int32).toInt64) * (((0 : Int32) + (1 : Int32)).toInt64)) / (2 : Int64))), .second, .val (.long ((((1 : Int32).toInt64) * (((1 : Int32) + (1 : Int32)).toInt64)) / (2 : Int64))), .second, .val (.long ((((p1 &&& (1073741823 : Int32)).toInt64) * (((p1 &&& (1073741823 : Int32)) + (1 : Int32)).toInt64)) / (2 : Int64))), .second, .val (.long ((((p2 &&& (1073741823 : Int32)).toInt64) * (((p2 &&& (1073741823 : Int32)) + (1 : Int32)).toInt64)) / (2 : Int64))), .second, .val (.long (((((p1 &&& (1073741823 : Int32)) + (p2 &&& (1073741823 : Int32))).toInt64) * ((((p1 &&& (1073741823 : Int32)) + (p2 &&& (1073741823 : Int32))) + (1 : Int32)).toInt64)) / (2 : Int64))), .second] [(.long (0 : Int64)), (.long ((((0 : Int32).toInt64) * (((0 : Int32) + (1 : Int32)).toInt64)) / (2 : Int64)))]))) (fun t k => XS.lconst X5.here hx rfl (hb hby at_44) k) ?_
  refine own_fw (A' := (T5.setTop (mkF m 46 #[.val (.int p1), .val (.int p2), .val (.int (p1 &&& (1073741823 : Int32))), .val (.int (p2 &&& (1073741823 : Int32))), .val (.long ((((0 : Int32).toInt64) * (((0 : Int32) + (1 : Int32)).toInt64)) / (2 : Int64))), .second, .val (.long ((((1 : Int32).toInt64) * (((1 : Int32) + (1 : Int32)).toInt64)) / (2 : Int64))), .second, .val (.long ((((p1 &&& (1073741823 : Int32)).toInt64) * (((p1 &&& (1073741823 : Int32)) + (1 : Int32)).toInt64)) / (2 : Int64))), .second, .val (.long ((((p2 &&& (1073741823 : Int32)).toInt64) * (((p2 &&& (1073741823 : Int32)) + (1 : Int32)).toInt64)) / (2 : Int64))), .second, .val (.long (((((p1 &&& (1073741823 : Int32)) + (p2 &&& (1073741823 : Int32))).toInt64) * ((((p1 &&& (1073741823 : Int32)) + (p2 &&& (1073741823 : Int32))) + (1 : Int32)).toInt64)) / (2 : Int64))), .second] [(.int (XT.cmpL ((((0 : Int32).toInt64) * (((0 : Int32) + (1 : Int32)).toInt64)) / (2 : Int64)) (0 : Int64)))]))) (fun t k => XT.lcmp X5.here hx rfl (hb hby at_45) rfl k) ?_
  refine own_fw (A' := (T5.setTop (mkF m 49 #[.val (.int p1), .val (.int p2), .val (.int (p1 &&& (1073741823 : Int32))), .val (.int (p2 &&& (1073741823 : Int32))), .val (.long ((((0 : Int32).toInt64) * (((0 : Int32) + (1 : Int32)).toInt64)) / (2 : Int64))), .second, .val (.long ((((1 : Int32).toInt64) * (((1 : Int32) + (1 : Int32)).toInt64)) / (2 : Int64))), .second, .val (.long ((((p1 &&& (1073741823 : Int32)).toInt64) * (((p1 &&& (1073741823 : Int32)) + (1 : Int32)).toInt64)) / (2 : Int64))), .second, .val (.long ((((p2 &&& (1073741823 : Int32)).toInt64) * (((p2 &&& (1073741823 : Int32)) + (1 : Int32)).toInt64)) / (2 : Int64))), .second, .val (.long (((((p1 &&& (1073741823 : Int32)) + (p2 &&& (1073741823 : Int32))).toInt64) * ((((p1 &&& (1073741823 : Int32)) + (p2 &&& (1073741823 : Int32))) + (1 : Int32)).toInt64)) / (2 : Int64))), .second] []))) (fun t k => XS.ifNo X5.here hx rfl (hb hby at_46) rfl (XT.ll_ne_f (by decide)) k) ?_
  refine own_fw (A' := (T5.setTop (mkF m 51 #[.val (.int p1), .val (.int p2), .val (.int (p1 &&& (1073741823 : Int32))), .val (.int (p2 &&& (1073741823 : Int32))), .val (.long ((((0 : Int32).toInt64) * (((0 : Int32) + (1 : Int32)).toInt64)) / (2 : Int64))), .second, .val (.long ((((1 : Int32).toInt64) * (((1 : Int32) + (1 : Int32)).toInt64)) / (2 : Int64))), .second, .val (.long ((((p1 &&& (1073741823 : Int32)).toInt64) * (((p1 &&& (1073741823 : Int32)) + (1 : Int32)).toInt64)) / (2 : Int64))), .second, .val (.long ((((p2 &&& (1073741823 : Int32)).toInt64) * (((p2 &&& (1073741823 : Int32)) + (1 : Int32)).toInt64)) / (2 : Int64))), .second, .val (.long (((((p1 &&& (1073741823 : Int32)) + (p2 &&& (1073741823 : Int32))).toInt64) * ((((p1 &&& (1073741823 : Int32)) + (p2 &&& (1073741823 : Int32))) + (1 : Int32)).toInt64)) / (2 : Int64))), .second] [(.long ((((1 : Int32).toInt64) * (((1 : Int32) + (1 : Int32)).toInt64)) / (2 : Int64)))]))) (fun t k => XS.lload X5.here hx rfl (hb hby at_49) rfl k) ?_
  refine own_fw (A' := (T5.setTop (mkF m 52 #[.val (.int p1), .val (.int p2), .val (.int (p1 &&& (1073741823 : Int32))), .val (.int (p2 &&& (1073741823 : Int32))), .val (.long ((((0 : Int32).toInt64) * (((0 : Int32) + (1 : Int32)).toInt64)) / (2 : Int64))), .second, .val (.long ((((1 : Int32).toInt64) * (((1 : Int32) + (1 : Int32)).toInt64)) / (2 : Int64))), .second, .val (.long ((((p1 &&& (1073741823 : Int32)).toInt64) * (((p1 &&& (1073741823 : Int32)) + (1 : Int32)).toInt64)) / (2 : Int64))), .second, .val (.long ((((p2 &&& (1073741823 : Int32)).toInt64) * (((p2 &&& (1073741823 : Int32)) + (1 : Int32)).toInt64)) / (2 : Int64))), .second, .val (.long (((((p1 &&& (1073741823 : Int32)) + (p2 &&& (1073741823 : Int32))).toInt64) * ((((p1 &&& (1073741823 : Int32)) + (p2 &&& (1073741823 : Int32))) + (1 : Int32)).toInt64)) / (2 : Int64))), .second] [(.long (1 : Int64)), (.long ((((1 : Int32).toInt64) * (((1 : Int32) + (1 : Int32)).toInt64)) / (2 : Int64)))]))) (fun t k => XS.lconst X5.here hx rfl (hb hby at_51) k) ?_
  refine own_fw (A' := (T5.setTop (mkF m 53 #[.val (.int p1), .val (.int p2), .val (.int (p1 &&& (1073741823 : Int32))), .val (.int (p2 &&& (1073741823 : Int32))), .val (.long ((((0 : Int32).toInt64) * (((0 : Int32) + (1 : Int32)).toInt64)) / (2 : Int64))), .second, .val (.long ((((1 : Int32).toInt64) * (((1 : Int32) + (1 : Int32)).toInt64)) / (2 : Int64))), .second, .val (.long ((((p1 &&& (1073741823 : Int32)).toInt64) * (((p1 &&& (1073741823 : Int32)) + (1 : Int32)).toInt64)) / (2 : Int64))), .second, .val (.long ((((p2 &&& (1073741823 : Int32)).toInt64) * (((p2 &&& (1073741823 : Int32)) + (1 : Int32)).toInt64)) / (2 : Int64))), .second, .val (.long (((((p1 &&& (1073741823 : Int32)) + (p2 &&& (1073741823 : Int32))).toInt64) * ((((p1 &&& (1073741823 : Int32)) + (p2 &&& (1073741823 : Int32))) + (1 : Int32)).toInt64)) / (2 : Int64))), .second] [(.int (XT.cmpL ((((1 : Int32).toInt64) * (((1 : Int32) + (1 : Int32)).toInt64)) / (2 : Int64)) (1 : Int64)))]))) (fun t k => XT.lcmp X5.here hx rfl (hb hby at_52) rfl k) ?_
  refine own_fw (A' := (T5.setTop (mkF m 56 #[.val (.int p1), .val (.int p2), .val (.int (p1 &&& (1073741823 : Int32))), .val (.int (p2 &&& (1073741823 : Int32))), .val (.long ((((0 : Int32).toInt64) * (((0 : Int32) + (1 : Int32)).toInt64)) / (2 : Int64))), .second, .val (.long ((((1 : Int32).toInt64) * (((1 : Int32) + (1 : Int32)).toInt64)) / (2 : Int64))), .second, .val (.long ((((p1 &&& (1073741823 : Int32)).toInt64) * (((p1 &&& (1073741823 : Int32)) + (1 : Int32)).toInt64)) / (2 : Int64))), .second, .val (.long ((((p2 &&& (1073741823 : Int32)).toInt64) * (((p2 &&& (1073741823 : Int32)) + (1 : Int32)).toInt64)) / (2 : Int64))), .second, .val (.long (((((p1 &&& (1073741823 : Int32)) + (p2 &&& (1073741823 : Int32))).toInt64) * ((((p1 &&& (1073741823 : Int32)) + (p2 &&& (1073741823 : Int32))) + (1 : Int32)).toInt64)) / (2 : Int64))), .second] []))) (fun t k => XS.ifNo X5.here hx rfl (hb hby at_53) rfl (XT.ll_ne_f (by decide)) k) ?_
  refine own_fw (A' := (T5.setTop (mkF m 58 #[.val (.int p1), .val (.int p2), .val (.int (p1 &&& (1073741823 : Int32))), .val (.int (p2 &&& (1073741823 : Int32))), .val (.long ((((0 : Int32).toInt64) * (((0 : Int32) + (1 : Int32)).toInt64)) / (2 : Int64))), .second, .val (.long ((((1 : Int32).toInt64) * (((1 : Int32) + (1 : Int32)).toInt64)) / (2 : Int64))), .second, .val (.long ((((p1 &&& (1073741823 : Int32)).toInt64) * (((p1 &&& (1073741823 : Int32)) + (1 : Int32)).toInt64)) / (2 : Int64))), .second, .val (.long ((((p2 &&& (1073741823 : Int32)).toInt64) * (((p2 &&& (1073741823 : Int32)) + (1 : Int32)).toInt64)) / (2 : Int64))), .second, .val (.long (((((p1 &&& (1073741823 : Int32)) + (p2 &&& (1073741823 : Int32))).toInt64) * ((((p1 &&& (1073741823 : Int32)) + (p2 &&& (1073741823 : Int32))) + (1 : Int32)).toInt64)) / (2 : Int64))), .second] [(.long (((((p1 &&& (1073741823 : Int32)) + (p2 &&& (1073741823 : Int32))).toInt64) * ((((p1 &&& (1073741823 : Int32)) + (p2 &&& (1073741823 : Int32))) + (1 : Int32)).toInt64)) / (2 : Int64)))]))) (fun t k => XS.lload X5.here hx rfl (hb hby at_56) rfl k) ?_
  refine own_fw (A' := (T5.setTop (mkF m 60 #[.val (.int p1), .val (.int p2), .val (.int (p1 &&& (1073741823 : Int32))), .val (.int (p2 &&& (1073741823 : Int32))), .val (.long ((((0 : Int32).toInt64) * (((0 : Int32) + (1 : Int32)).toInt64)) / (2 : Int64))), .second, .val (.long ((((1 : Int32).toInt64) * (((1 : Int32) + (1 : Int32)).toInt64)) / (2 : Int64))), .second, .val (.long ((((p1 &&& (1073741823 : Int32)).toInt64) * (((p1 &&& (1073741823 : Int32)) + (1 : Int32)).toInt64)) / (2 : Int64))), .second, .val (.long ((((p2 &&& (1073741823 : Int32)).toInt64) * (((p2 &&& (1073741823 : Int32)) + (1 : Int32)).toInt64)) / (2 : Int64))), .second, .val (.long (((((p1 &&& (1073741823 : Int32)) + (p2 &&& (1073741823 : Int32))).toInt64) * ((((p1 &&& (1073741823 : Int32)) + (p2 &&& (1073741823 : Int32))) + (1 : Int32)).toInt64)) / (2 : Int64))), .second] [(.long ((((p1 &&& (1073741823 : Int32)).toInt64) * (((p1 &&& (1073741823 : Int32)) + (1 : Int32)).toInt64)) / (2 : Int64))), (.long (((((p1 &&& (1073741823 : Int32)) + (p2 &&& (1073741823 : Int32))).toInt64) * ((((p1 &&& (1073741823 : Int32)) + (p2 &&& (1073741823 : Int32))) + (1 : Int32)).toInt64)) / (2 : Int64)))]))) (fun t k => XS.lload X5.here hx rfl (hb hby at_58) rfl k) ?_
  refine own_fw (A' := (T5.setTop (mkF m 62 #[.val (.int p1), .val (.int p2), .val (.int (p1 &&& (1073741823 : Int32))), .val (.int (p2 &&& (1073741823 : Int32))), .val (.long ((((0 : Int32).toInt64) * (((0 : Int32) + (1 : Int32)).toInt64)) / (2 : Int64))), .second, .val (.long ((((1 : Int32).toInt64) * (((1 : Int32) + (1 : Int32)).toInt64)) / (2 : Int64))), .second, .val (.long ((((p1 &&& (1073741823 : Int32)).toInt64) * (((p1 &&& (1073741823 : Int32)) + (1 : Int32)).toInt64)) / (2 : Int64))), .second, .val (.long ((((p2 &&& (1073741823 : Int32)).toInt64) * (((p2 &&& (1073741823 : Int32)) + (1 : Int32)).toInt64)) / (2 : Int64))), .second, .val (.long (((((p1 &&& (1073741823 : Int32)) + (p2 &&& (1073741823 : Int32))).toInt64) * ((((p1 &&& (1073741823 : Int32)) + (p2 &&& (1073741823 : Int32))) + (1 : Int32)).toInt64)) / (2 : Int64))), .second] [(.long ((((p2 &&& (1073741823 : Int32)).toInt64) * (((p2 &&& (1073741823 : Int32)) + (1 : Int32)).toInt64)) / (2 : Int64))), (.long ((((p1 &&& (1073741823 : Int32)).toInt64) * (((p1 &&& (1073741823 : Int32)) + (1 : Int32)).toInt64)) / (2 : Int64))), (.long (((((p1 &&& (1073741823 : Int32)) + (p2 &&& (1073741823 : Int32))).toInt64) * ((((p1 &&& (1073741823 : Int32)) + (p2 &&& (1073741823 : Int32))) + (1 : Int32)).toInt64)) / (2 : Int64)))]))) (fun t k => XS.lload X5.here hx rfl (hb hby at_60) rfl k) ?_
  refine own_fw (A' := (T5.setTop (mkF m 63 #[.val (.int p1), .val (.int p2), .val (.int (p1 &&& (1073741823 : Int32))), .val (.int (p2 &&& (1073741823 : Int32))), .val (.long ((((0 : Int32).toInt64) * (((0 : Int32) + (1 : Int32)).toInt64)) / (2 : Int64))), .second, .val (.long ((((1 : Int32).toInt64) * (((1 : Int32) + (1 : Int32)).toInt64)) / (2 : Int64))), .second, .val (.long ((((p1 &&& (1073741823 : Int32)).toInt64) * (((p1 &&& (1073741823 : Int32)) + (1 : Int32)).toInt64)) / (2 : Int64))), .second, .val (.long ((((p2 &&& (1073741823 : Int32)).toInt64) * (((p2 &&& (1073741823 : Int32)) + (1 : Int32)).toInt64)) / (2 : Int64))), .second, .val (.long (((((p1 &&& (1073741823 : Int32)) + (p2 &&& (1073741823 : Int32))).toInt64) * ((((p1 &&& (1073741823 : Int32)) + (p2 &&& (1073741823 : Int32))) + (1 : Int32)).toInt64)) / (2 : Int64))), .second] [(.long (((((p1 &&& (1073741823 : Int32)).toInt64) * (((p1 &&& (1073741823 : Int32)) + (1 : Int32)).toInt64)) / (2 : Int64)) + ((((p2 &&& (1073741823 : Int32)).toInt64) * (((p2 &&& (1073741823 : Int32)) + (1 : Int32)).toInt64)) / (2 : Int64)))), (.long (((((p1 &&& (1073741823 : Int32)) + (p2 &&& (1073741823 : Int32))).toInt64) * ((((p1 &&& (1073741823 : Int32)) + (p2 &&& (1073741823 : Int32))) + (1 : Int32)).toInt64)) / (2 : Int64)))]))) (fun t k => XS.ladd X5.here hx rfl (hb hby at_62) rfl k) ?_
  refine own_fw (A' := (T5.setTop (mkF m 64 #[.val (.int p1), .val (.int p2), .val (.int (p1 &&& (1073741823 : Int32))), .val (.int (p2 &&& (1073741823 : Int32))), .val (.long ((((0 : Int32).toInt64) * (((0 : Int32) + (1 : Int32)).toInt64)) / (2 : Int64))), .second, .val (.long ((((1 : Int32).toInt64) * (((1 : Int32) + (1 : Int32)).toInt64)) / (2 : Int64))), .second, .val (.long ((((p1 &&& (1073741823 : Int32)).toInt64) * (((p1 &&& (1073741823 : Int32)) + (1 : Int32)).toInt64)) / (2 : Int64))), .second, .val (.long ((((p2 &&& (1073741823 : Int32)).toInt64) * (((p2 &&& (1073741823 : Int32)) + (1 : Int32)).toInt64)) / (2 : Int64))), .second, .val (.long (((((p1 &&& (1073741823 : Int32)) + (p2 &&& (1073741823 : Int32))).toInt64) * ((((p1 &&& (1073741823 : Int32)) + (p2 &&& (1073741823 : Int32))) + (1 : Int32)).toInt64)) / (2 : Int64))), .second] [(.int (p1 &&& (1073741823 : Int32))), (.long (((((p1 &&& (1073741823 : Int32)).toInt64) * (((p1 &&& (1073741823 : Int32)) + (1 : Int32)).toInt64)) / (2 : Int64)) + ((((p2 &&& (1073741823 : Int32)).toInt64) * (((p2 &&& (1073741823 : Int32)) + (1 : Int32)).toInt64)) / (2 : Int64)))), (.long (((((p1 &&& (1073741823 : Int32)) + (p2 &&& (1073741823 : Int32))).toInt64) * ((((p1 &&& (1073741823 : Int32)) + (p2 &&& (1073741823 : Int32))) + (1 : Int32)).toInt64)) / (2 : Int64)))]))) (fun t k => XS.iloadN X5.here hx rfl (hb hby at_63) rfl k) ?_
  refine own_fw (A' := (T5.setTop (mkF m 65 #[.val (.int p1), .val (.int p2), .val (.int (p1 &&& (1073741823 : Int32))), .val (.int (p2 &&& (1073741823 : Int32))), .val (.long ((((0 : Int32).toInt64) * (((0 : Int32) + (1 : Int32)).toInt64)) / (2 : Int64))), .second, .val (.long ((((1 : Int32).toInt64) * (((1 : Int32) + (1 : Int32)).toInt64)) / (2 : Int64))), .second, .val (.long ((((p1 &&& (1073741823 : Int32)).toInt64) * (((p1 &&& (1073741823 : Int32)) + (1 : Int32)).toInt64)) / (2 : Int64))), .second, .val (.long ((((p2 &&& (1073741823 : Int32)).toInt64) * (((p2 &&& (1073741823 : Int32)) + (1 : Int32)).toInt64)) / (2 : Int64))), .second, .val (.long (((((p1 &&& (1073741823 : Int32)) + (p2 &&& (1073741823 : Int32))).toInt64) * ((((p1 &&& (1073741823 : Int32)) + (p2 &&& (1073741823 : Int32))) + (1 : Int32)).toInt64)) / (2 : Int64))), .second] [(.long ((p1 &&& (1073741823 : Int32)).toInt64)), (.long (((((p1 &&& (1073741823 : Int32)).toInt64) * (((p1 &&& (1073741823 : Int32)) + (1 : Int32)).toInt64)) / (2 : Int64)) + ((((p2 &&& (1073741823 : Int32)).toInt64) * (((p2 &&& (1073741823 : Int32)) + (1 : Int32)).toInt64)) / (2 : Int64)))), (.long (((((p1 &&& (1073741823 : Int32)) + (p2 &&& (1073741823 : Int32))).toInt64) * ((((p1 &&& (1073741823 : Int32)) + (p2 &&& (1073741823 : Int32))) + (1 : Int32)).toInt64)) / (2 : Int64)))]))) (fun t k => XS.i2l X5.here hx rfl (hb hby at_64) rfl k) ?_
  refine own_fw (A' := (T5.setTop (mkF m 66 #[.val (.int p1), .val (.int p2), .val (.int (p1 &&& (1073741823 : Int32))), .val (.int (p2 &&& (1073741823 : Int32))), .val (.long ((((0 : Int32).toInt64) * (((0 : Int32) + (1 : Int32)).toInt64)) / (2 : Int64))), .second, .val (.long ((((1 : Int32).toInt64) * (((1 : Int32) + (1 : Int32)).toInt64)) / (2 : Int64))), .second, .val (.long ((((p1 &&& (1073741823 : Int32)).toInt64) * (((p1 &&& (1073741823 : Int32)) + (1 : Int32)).toInt64)) / (2 : Int64))), .second, .val (.long ((((p2 &&& (1073741823 : Int32)).toInt64) * (((p2 &&& (1073741823 : Int32)) + (1 : Int32)).toInt64)) / (2 : Int64))), .second, .val (.long (((((p1 &&& (1073741823 : Int32)) + (p2 &&& (1073741823 : Int32))).toInt64) * ((((p1 &&& (1073741823 : Int32)) + (p2 &&& (1073741823 : Int32))) + (1 : Int32)).toInt64)) / (2 : Int64))), .second] [(.int (p2 &&& (1073741823 : Int32))), (.long ((p1 &&& (1073741823 : Int32)).toInt64)), (.long (((((p1 &&& (1073741823 : Int32)).toInt64) * (((p1 &&& (1073741823 : Int32)) + (1 : Int32)).toInt64)) / (2 : Int64)) + ((((p2 &&& (1073741823 : Int32)).toInt64) * (((p2 &&& (1073741823 : Int32)) + (1 : Int32)).toInt64)) / (2 : Int64)))), (.long (((((p1 &&& (1073741823 : Int32)) + (p2 &&& (1073741823 : Int32))).toInt64) * ((((p1 &&& (1073741823 : Int32)) + (p2 &&& (1073741823 : Int32))) + (1 : Int32)).toInt64)) / (2 : Int64)))]))) (fun t k => XS.iloadN X5.here hx rfl (hb hby at_65) rfl k) ?_
  refine own_fw (A' := (T5.setTop (mkF m 67 #[.val (.int p1), .val (.int p2), .val (.int (p1 &&& (1073741823 : Int32))), .val (.int (p2 &&& (1073741823 : Int32))), .val (.long ((((0 : Int32).toInt64) * (((0 : Int32) + (1 : Int32)).toInt64)) / (2 : Int64))), .second, .val (.long ((((1 : Int32).toInt64) * (((1 : Int32) + (1 : Int32)).toInt64)) / (2 : Int64))), .second, .val (.long ((((p1 &&& (1073741823 : Int32)).toInt64) * (((p1 &&& (1073741823 : Int32)) + (1 : Int32)).toInt64)) / (2 : Int64))), .second, .val (.long ((((p2 &&& (1073741823 : Int32)).toInt64) * (((p2 &&& (1073741823 : Int32)) + (1 : Int32)).toInt64)) / (2 : Int64))), .second, .val (.long (((((p1 &&& (1073741823 : Int32)) + (p2 &&& (1073741823 : Int32))).toInt64) * ((((p1 &&& (1073741823 : Int32)) + (p2 &&& (1073741823 : Int32))) + (1 : Int32)).toInt64)) / (2 : Int64))), .second] [(.long ((p2 &&& (1073741823 : Int32)).toInt64)), (.long ((p1 &&& (1073741823 : Int32)).toInt64)), (.long (((((p1 &&& (1073741823 : Int32)).toInt64) * (((p1 &&& (1073741823 : Int32)) + (1 : Int32)).toInt64)) / (2 : Int64)) + ((((p2 &&& (1073741823 : Int32)).toInt64) * (((p2 &&& (1073741823 : Int32)) + (1 : Int32)).toInt64)) / (2 : Int64)))), (.long (((((p1 &&& (1073741823 : Int32)) + (p2 &&& (1073741823 : Int32))).toInt64) * ((((p1 &&& (1073741823 : Int32)) + (p2 &&& (1073741823 : Int32))) + (1 : Int32)).toInt64)) / (2 : Int64)))]))) (fun t k => XS.i2l X5.here hx rfl (hb hby at_66) rfl k) ?_
  refine own_fw (A' := (T5.setTop (mkF m 68 #[.val (.int p1), .val (.int p2), .val (.int (p1 &&& (1073741823 : Int32))), .val (.int (p2 &&& (1073741823 : Int32))), .val (.long ((((0 : Int32).toInt64) * (((0 : Int32) + (1 : Int32)).toInt64)) / (2 : Int64))), .second, .val (.long ((((1 : Int32).toInt64) * (((1 : Int32) + (1 : Int32)).toInt64)) / (2 : Int64))), .second, .val (.long ((((p1 &&& (1073741823 : Int32)).toInt64) * (((p1 &&& (1073741823 : Int32)) + (1 : Int32)).toInt64)) / (2 : Int64))), .second, .val (.long ((((p2 &&& (1073741823 : Int32)).toInt64) * (((p2 &&& (1073741823 : Int32)) + (1 : Int32)).toInt64)) / (2 : Int64))), .second, .val (.long (((((p1 &&& (1073741823 : Int32)) + (p2 &&& (1073741823 : Int32))).toInt64) * ((((p1 &&& (1073741823 : Int32)) + (p2 &&& (1073741823 : Int32))) + (1 : Int32)).toInt64)) / (2 : Int64))), .second] [(.long (((p1 &&& (1073741823 : Int32)).toInt64) * ((p2 &&& (1073741823 : Int32)).toInt64))), (.long (((((p1 &&& (1073741823 : Int32)).toInt64) * (((p1 &&& (1073741823 : Int32)) + (1 : Int32)).toInt64)) / (2 : Int64)) + ((((p2 &&& (1073741823 : Int32)).toInt64) * (((p2 &&& (1073741823 : Int32)) + (1 : Int32)).toInt64)) / (2 : Int64)))), (.long (((((p1 &&& (1073741823 : Int32)) + (p2 &&& (1073741823 : Int32))).toInt64) * ((((p1 &&& (1073741823 : Int32)) + (p2 &&& (1073741823 : Int32))) + (1 : Int32)).toInt64)) / (2 : Int64)))]))) (fun t k => XS.lmul X5.here hx rfl (hb hby at_67) rfl k) ?_
  refine own_fw (A' := (T5.setTop (mkF m 69 #[.val (.int p1), .val (.int p2), .val (.int (p1 &&& (1073741823 : Int32))), .val (.int (p2 &&& (1073741823 : Int32))), .val (.long ((((0 : Int32).toInt64) * (((0 : Int32) + (1 : Int32)).toInt64)) / (2 : Int64))), .second, .val (.long ((((1 : Int32).toInt64) * (((1 : Int32) + (1 : Int32)).toInt64)) / (2 : Int64))), .second, .val (.long ((((p1 &&& (1073741823 : Int32)).toInt64) * (((p1 &&& (1073741823 : Int32)) + (1 : Int32)).toInt64)) / (2 : Int64))), .second, .val (.long ((((p2 &&& (1073741823 : Int32)).toInt64) * (((p2 &&& (1073741823 : Int32)) + (1 : Int32)).toInt64)) / (2 : Int64))), .second, .val (.long (((((p1 &&& (1073741823 : Int32)) + (p2 &&& (1073741823 : Int32))).toInt64) * ((((p1 &&& (1073741823 : Int32)) + (p2 &&& (1073741823 : Int32))) + (1 : Int32)).toInt64)) / (2 : Int64))), .second] [(.long ((((((p1 &&& (1073741823 : Int32)).toInt64) * (((p1 &&& (1073741823 : Int32)) + (1 : Int32)).toInt64)) / (2 : Int64)) + ((((p2 &&& (1073741823 : Int32)).toInt64) * (((p2 &&& (1073741823 : Int32)) + (1 : Int32)).toInt64)) / (2 : Int64))) + (((p1 &&& (1073741823 : Int32)).toInt64) * ((p2 &&& (1073741823 : Int32)).toInt64)))), (.long (((((p1 &&& (1073741823 : Int32)) + (p2 &&& (1073741823 : Int32))).toInt64) * ((((p1 &&& (1073741823 : Int32)) + (p2 &&& (1073741823 : Int32))) + (1 : Int32)).toInt64)) / (2 : Int64)))]))) (fun t k => XS.ladd X5.here hx rfl (hb hby at_68) rfl k) ?_
  refine own_fw (A' := (T5.setTop (mkF m 70 #[.val (.int p1), .val (.int p2), .val (.int (p1 &&& (1073741823 : Int32))), .val (.int (p2 &&& (1073741823 : Int32))), .val (.long ((((0 : Int32).toInt64) * (((0 : Int32) + (1 : Int32)).toInt64)) / (2 : Int64))), .second, .val (.long ((((1 : Int32).toInt64) * (((1 : Int32) + (1 : Int32)).toInt64)) / (2 : Int64))), .second, .val (.long ((((p1 &&& (1073741823 : Int32)).toInt64) * (((p1 &&& (1073741823 : Int32)) + (1 : Int32)).toInt64)) / (2 : Int64))), .second, .val (.long ((((p2 &&& (1073741823 : Int32)).toInt64) * (((p2 &&& (1073741823 : Int32)) + (1 : Int32)).toInt64)) / (2 : Int64))), .second, .val (.long (((((p1 &&& (1073741823 : Int32)) + (p2 &&& (1073741823 : Int32))).toInt64) * ((((p1 &&& (1073741823 : Int32)) + (p2 &&& (1073741823 : Int32))) + (1 : Int32)).toInt64)) / (2 : Int64))), .second] [(.int (XT.cmpL (((((p1 &&& (1073741823 : Int32)) + (p2 &&& (1073741823 : Int32))).toInt64) * ((((p1 &&& (1073741823 : Int32)) + (p2 &&& (1073741823 : Int32))) + (1 : Int32)).toInt64)) / (2 : Int64)) ((((((p1 &&& (1073741823 : Int32)).toInt64) * (((p1 &&& (1073741823 : Int32)) + (1 : Int32)).toInt64)) / (2 : Int64)) + ((((p2 &&& (1073741823 : Int32)).toInt64) * (((p2 &&& (1073741823 : Int32)) + (1 : Int32)).toInt64)) / (2 : Int64))) + (((p1 &&& (1073741823 : Int32)).toInt64) * ((p2 &&& (1073741823 : Int32)).toInt64)))))]))) (fun t k => XT.lcmp X5.here hx rfl (hb hby at_69) rfl k) ?_
  refine own_fw (A' := (T5.setTop (mkF m 73 #[.val (.int p1), .val (.int p2), .val (.int (p1 &&& (1073741823 : Int32))), .val (.int (p2 &&& (1073741823 : Int32))), .val (.long ((((0 : Int32).toInt64) * (((0 : Int32) + (1 : Int32)).toInt64)) / (2 : Int64))), .second, .val (.long ((((1 : Int32).toInt64) * (((1 : Int32) + (1 : Int32)).toInt64)) / (2 : Int64))), .second, .val (.long ((((p1 &&& (1073741823 : Int32)).toInt64) * (((p1 &&& (1073741823 : Int32)) + (1 : Int32)).toInt64)) / (2 : Int64))), .second, .val (.long ((((p2 &&& (1073741823 : Int32)).toInt64) * (((p2 &&& (1073741823 : Int32)) + (1 : Int32)).toInt64)) / (2 : Int64))), .second, .val (.long (((((p1 &&& (1073741823 : Int32)) + (p2 &&& (1073741823 : Int32))).toInt64) * ((((p1 &&& (1073741823 : Int32)) + (p2 &&& (1073741823 : Int32))) + (1 : Int32)).toInt64)) / (2 : Int64))), .second] []))) (fun t k => XS.ifNo X5.here hx rfl (hb hby at_70) rfl (XT.ll_ne_f (own_law p1 p2)) k) ?_
  refine own_fw (A' := (T5.setTop (mkF m 74 #[.val (.int p1), .val (.int p2), .val (.int (p1 &&& (1073741823 : Int32))), .val (.int (p2 &&& (1073741823 : Int32))), .val (.long ((((0 : Int32).toInt64) * (((0 : Int32) + (1 : Int32)).toInt64)) / (2 : Int64))), .second, .val (.long ((((1 : Int32).toInt64) * (((1 : Int32) + (1 : Int32)).toInt64)) / (2 : Int64))), .second, .val (.long ((((p1 &&& (1073741823 : Int32)).toInt64) * (((p1 &&& (1073741823 : Int32)) + (1 : Int32)).toInt64)) / (2 : Int64))), .second, .val (.long ((((p2 &&& (1073741823 : Int32)).toInt64) * (((p2 &&& (1073741823 : Int32)) + (1 : Int32)).toInt64)) / (2 : Int64))), .second, .val (.long (((((p1 &&& (1073741823 : Int32)) + (p2 &&& (1073741823 : Int32))).toInt64) * ((((p1 &&& (1073741823 : Int32)) + (p2 &&& (1073741823 : Int32))) + (1 : Int32)).toInt64)) / (2 : Int64))), .second] [(.int (1 : Int32))]))) (fun t k => XS.iconst X5.here hx rfl (hb hby at_73) k) ?_
  refine own_fw (A' := (T5.setTop (mkF m 78 #[.val (.int p1), .val (.int p2), .val (.int (p1 &&& (1073741823 : Int32))), .val (.int (p2 &&& (1073741823 : Int32))), .val (.long ((((0 : Int32).toInt64) * (((0 : Int32) + (1 : Int32)).toInt64)) / (2 : Int64))), .second, .val (.long ((((1 : Int32).toInt64) * (((1 : Int32) + (1 : Int32)).toInt64)) / (2 : Int64))), .second, .val (.long ((((p1 &&& (1073741823 : Int32)).toInt64) * (((p1 &&& (1073741823 : Int32)) + (1 : Int32)).toInt64)) / (2 : Int64))), .second, .val (.long ((((p2 &&& (1073741823 : Int32)).toInt64) * (((p2 &&& (1073741823 : Int32)) + (1 : Int32)).toInt64)) / (2 : Int64))), .second, .val (.long (((((p1 &&& (1073741823 : Int32)) + (p2 &&& (1073741823 : Int32))).toInt64) * ((((p1 &&& (1073741823 : Int32)) + (p2 &&& (1073741823 : Int32))) + (1 : Int32)).toInt64)) / (2 : Int64))), .second] [(.int (1 : Int32))]))) (fun t k => XS.goto X5.here hx rfl (pc0 := 74) (pc' := 78) rfl (hb hby at_74) (by decide) (by decide) k) ?_
  obtain ⟨fs, hr, hrun, hended, hW, hsame⟩ := X5.leave (v := some (.int (1 : Int32))) (fun h => by rw [Bd.returns] at h; cases h)
  refine ⟨_, _, ?_, hrun, hended, _, _, rfl, ?_, ⟨_, rfl⟩, hW, hsame.mono (by decide) (by decide)⟩
  · exact retOut X5 hx Bd.returns rfl (Or.inl ⟨rfl, by simp, _, rfl⟩) (hb hby at_78) hr
  · show Q_rm0 Z p1 p2 h0 n0 _ T5.heap _
    rw [e5]
    exact ⟨rfl, Nf5⟩
set_option maxRecDepth 65536 in
set_option maxHeartbeats 40000000 in
theorem comes_1 {Post : Tables → Env → Array Value → State → Outcome → State → Prop} (hpost : ∀ tb e args s v u, (limb_1_1.after args s (.returned v) u = true ∧ limb_1_2.after args s (.returned v) u = true ∧ True) → FrameEnd s (.returned v) u (Jvm.fieldLocs frame_1_writes args s ++ Jvm.arrayLocs frame_1_arrays args s ++ Jvm.staticLocs frame_1_statics s) 0 0 → Post tb e args s (.returned v) u) :
    ArmFor flags0 classFile x code maxLocals ret World_1 tables_1 room_1 Calls_1 rest_1 Pre_1 Post := by
  intro l hfl _ _ p e ha hc hk s m args below hf hA hF happ hP
  obtain ⟨hcalls, hrest, hpre⟩ := hP
  obtain ⟨-, -, -, hnamed, -, -, -, hat⟩ := (Spec.applies_iff hf).mp happ
  obtain ⟨hg, hn⟩ := and_e (Cond.before_iff.mp (show (Jvm.Cond.and given_1 narrow_1).before args s = true from hpre))
  obtain ⟨hcount, hg0⟩ := and_e hg
  obtain ⟨hv0, hg1⟩ := and_e hg0
  have hv1 := hg1
  obtain ⟨w0, w1, rfl⟩ : ∃ w0 w1 : Value, args = #[w0, w1] := by
    have hs : args.size = 2 := by simpa [Cond.value, given_1] using hcount
    obtain ⟨L⟩ := args
    match L, hs with
    | [w0, w1], _ => exact ⟨w0, w1, rfl⟩
  have hw := fun d (hd : d ∈ tables_1) => atoms_spec (ws := Jvm.Cond.code x code maxLocals ret :: tables_1) hat d (List.mem_cons_of_mem _ hd)
  have hfit : Fit s := fun {y c} hc i hi => by
    obtain ⟨ha, rfl⟩ := Array.getElem?_eq_some_iff.mp hc
    have q := List.all_eq_true.mp ((Array.all_eq_true_iff_forall_mem.mp hF) _ (Array.getElem_mem ha)) i (List.mem_range.mpr hi)
    simpa [Array.getElem?_eq_getElem hi] using q
  obtain ⟨i0, ei0⟩ := is_v hv0
  obtain rfl : w0 = (.int i0) := Option.some.inj ei0
  obtain ⟨i1, ei1⟩ := is_v hv1
  obtain rfl : w1 = (.int i1) := Option.some.inj ei1
  obtain ⟨n, o, h1, h2, h3, _, L, rfl, ⟨rfl, N⟩, hq⟩ := rm0 l s _ hw tables_1 i0 i1 s.heap s.heap.size (Nat.le_refl _)  p e ha hc hk s m _ below hf ((Spec.applies_iff_loose hf).mp happ).1 ⟨rfl, State.Warmed39.refl s, rfl⟩ trivial
  refine ⟨n, _, h1, h2, h3, hpost _ _ _ _ _ _ ⟨Cond.after_iff.mpr rfl, Cond.after_iff.mpr (eq_i res_at (Term.int_eval (1)) rfl), trivial⟩ ⟨hq.1, hq.2.1, (hq.2.2.sift fun y hy => Or.inr (N y hy)).mono (by decide) (by decide)⟩⟩
theorem main_1_1 : Claimed_1_1 := comes_1 fun _ _ _ _ _ _ h hF => ⟨h.1, hF⟩
theorem main_1_2 : Claimed_1_2 := comes_1 fun _ _ _ _ _ _ h hF => ⟨h.2.1, hF⟩
end Jvm.Pilot.@@N@@
namespace Jvm.Pilot.@@N@@
open Jvm Jvm.ClassFile Sem Op Lib Jvm.Free Jvm.Stand Jvm.Pilot.@@N@@.Jvm.D
/-! MADE BY PROGRAM (witnessworld.py) out of the Statement's table words and the real class files: 7 classes; the members and pool entries that the words name. The judged class is class 1, her method 1. -/
namespace start1
open Jvm.ClassFile
def u (s : String) : CpInfo := .utf8 (stringToUtf16 s)
/-- a pool by its gaps: so many unusable entries, then the entry; so many at the end -/
def gap : Nat → List CpInfo → List CpInfo
  | 0, r => r
  | n + 1, r => .unusable :: gap n r
def poolList (es : List (Nat × CpInfo)) (last : Nat) : List CpInfo := es.foldr (fun e r => gap e.1 (e.2 :: r)) (gap last [])
def pool (es : List (Nat × CpInfo)) (last : Nat) : Array CpInfo := ⟨poolList es last⟩
def fileOf (pool : Array CpInfo) (this : Nat) (attrs : Array Attribute := #[]) (ms : Array MethodInfo := #[]) (fl : Nat := 33) (sup : Nat := 0) (ifs : Array Nat := #[]) (fds : Array FieldInfo := #[]) : ClassFile where
  minorVersion := 0
  majorVersion := 65
  constantPool := pool
  accessFlags := fl
  thisClass := this
  superClass := sup
  interfaces := ifs
  fields := fds
  methods := ms
  attributes := attrs
def plain (name : String) (sup : Option ClassId) : Class where
  name := name
  kind := .ordinary
  loader := none
  accessFlags := 33
  super := sup
  interfaces := #[]
  cf := none
  fields := #[]
  methods := #[]
  instanceTypes := #[]
  staticTypes := #[]
  resolved := #[]
  callSites := []
  init := .initialized
  statics := none
  mirror := none

def pool0 : Array CpInfo := pool [(5, u "<init>"), (0, u "()V"), (1, .class_ 10), (1, u "java/lang/Object")] 113

def k0m0 : Method := { name := "<init>", desc := "()V", sig := { parameters := [], returnType := none }, accessFlags := 1, code := none }
/-- java/lang/Object -/
def k0 : Class := { plain "java/lang/Object" none with
  accessFlags := 33
  interfaces := #[]
  cf := some (fileOf pool0 8 #[] #[{ accessFlags := 1, nameIndex := 5, descriptorIndex := 6, attributes := #[] }] 33 0 #[] #[])
  fields := #[]
  methods := #[k0m0]
  instanceTypes := #[]
  staticTypes := #[]
  resolved := Array.replicate 124 none
  statics := none }

def pool1 : Array CpInfo := pool [(2, .class_ 4), (1, u "java/lang/Object"), (0, u "<init>"), (0, u "()V"), (0, .integer 1073741823), (0, .methodref 9 10), (0, .class_ 11), (0, .nameAndType 12 13), (0, u "com/example/spanwise/spanwise/WoodProblem"), (0, u "costOfCuts"), (0, u "(I)J"), (0, .class_ 15), (0, u "com/example/spanwise/spanwise/WoodProblemCostOfCutsPinLaw"), (2, u "law"), (0, u "(II)Z")] 3

def k1m0 : Method := { name := "<init>", desc := "()V", sig := { parameters := [], returnType := none }, accessFlags := 2, code := none }
def k1c1 : Code := { maxStack := 8, maxLocals := 14, code := code, exceptionTable := #[], attributes := #[] }
def k1m1 : Method := { name := "law", desc := "(II)Z", sig := { parameters := [.int, .int], returnType := some .boolean }, accessFlags := 9, code := some k1c1 }
/-- com/example/spanwise/spanwise/WoodProblemCostOfCutsPinLaw -/
def k1 : Class := { plain "com/example/spanwise/spanwise/WoodProblemCostOfCutsPinLaw" (some 0) with
  accessFlags := 49
  interfaces := #[]
  cf := some (fileOf pool1 14 #[] #[{ accessFlags := 2, nameIndex := 5, descriptorIndex := 6, attributes := #[] }, { accessFlags := 9, nameIndex := 18, descriptorIndex := 19, attributes := #[] }] 49 2 #[] #[])
  fields := #[]
  methods := #[k1m0, k1m1]
  instanceTypes := #[]
  staticTypes := #[]
  resolved := Array.replicate 23 none
  statics := none }

def pool2 : Array CpInfo := pool [(2, .class_ 4), (1, u "java/lang/Object"), (3, .class_ 10), (1, u "com/example/spanwise/spanwise/WoodProblem"), (0, u "planks"), (0, u "[I"), (2, u "valueOf"), (44, .long 2), (11, u "MAX_PLANKS"), (0, u "I"), (2, u "MAX_PLANK_LENGTH"), (0, u "MAX_LISTED"), (0, u "MAX_VALUE"), (14, u "costOfCuts"), (0, u "(I)J")] 3

def k2c0 : Code := { maxStack := 4, maxLocals := 1, code := prog_26_method_7_code, exceptionTable := #[], attributes := #[] }
def k2m0 : Method := { name := "costOfCuts", desc := "(I)J", sig := { parameters := [.int], returnType := some .long }, accessFlags := 8, code := some k2c0 }
/-- com/example/spanwise/spanwise/WoodProblem -/
def k2 : Class := { plain "com/example/spanwise/spanwise/WoodProblem" (some 0) with
  accessFlags := 49
  interfaces := #[]
  cf := some (fileOf pool2 8 #[] #[{ accessFlags := 8, nameIndex := 93, descriptorIndex := 94, attributes := #[] }] 49 2 #[] #[{ accessFlags := 26, nameIndex := 72, descriptorIndex := 73, attributes := #[] }, { accessFlags := 26, nameIndex := 76, descriptorIndex := 73, attributes := #[] }, { accessFlags := 26, nameIndex := 77, descriptorIndex := 73, attributes := #[] }, { accessFlags := 26, nameIndex := 78, descriptorIndex := 73, attributes := #[] }, { accessFlags := 18, nameIndex := 11, descriptorIndex := 12, attributes := #[] }, { accessFlags := 18, nameIndex := 15, descriptorIndex := 12, attributes := #[] }])
  fields := #[{ name := "MAX_PLANKS", type := .int, accessFlags := 26, slot := 0, constantValue := 0 }, { name := "MAX_PLANK_LENGTH", type := .int, accessFlags := 26, slot := 1, constantValue := 0 }, { name := "MAX_LISTED", type := .int, accessFlags := 26, slot := 2, constantValue := 0 }, { name := "MAX_VALUE", type := .int, accessFlags := 26, slot := 3, constantValue := 0 }, { name := "planks", type := (.array .int), accessFlags := 18, slot := 0, constantValue := 0 }, { name := "valueOf", type := (.array .int), accessFlags := 18, slot := 1, constantValue := 0 }]
  methods := #[k2m0]
  instanceTypes := #[(.array .int), (.array .int)]
  staticTypes := #[.int, .int, .int, .int]
  resolved := Array.replicate 98 none
  statics := none }

def pool3 : Array CpInfo := pool [(1, u "java/lang/Cloneable"), (0, .class_ 1), (0, u "java/lang/Object"), (0, .class_ 3)] 3

/-- java/lang/Cloneable -/
def k3 : Class := { plain "java/lang/Cloneable" (some 0) with
  accessFlags := 1537
  interfaces := #[]
  cf := some (fileOf pool3 2 #[] #[] 1537 4 #[] #[])
  fields := #[]
  methods := #[]
  instanceTypes := #[]
  staticTypes := #[]
  resolved := Array.replicate 8 none
  statics := none }

def pool4 : Array CpInfo := pool [(1, u "java/io/Serializable"), (0, .class_ 1), (0, u "java/lang/Object"), (0, .class_ 3)] 3

/-- java/io/Serializable -/
def k4 : Class := { plain "java/io/Serializable" (some 0) with
  accessFlags := 1537
  interfaces := #[]
  cf := some (fileOf pool4 2 #[] #[] 1537 4 #[] #[])
  fields := #[]
  methods := #[]
  instanceTypes := #[]
  staticTypes := #[]
  resolved := Array.replicate 8 none
  statics := none }

/-- the primitive byte -/
def k5 : Class := { plain "byte" none with kind := .primitive 'B', accessFlags := 0x411 }
/-- [B -/
def k6 : Class := { plain "[B" (some 0) with kind := .array 5 .byte, interfaces := #[3, 4], accessFlags := 1041 }

def heap : Heap := #[]
def classes : Array Class := #[k0, k1, k2, k3, k4, k5, k6]
def interned : List (Array UInt16 × Addr) := []
def slotsUsed : Nat := 0
def theMethod : MethodId := ⟨1, 1⟩
def args0 : Array Value := #[.int 5, .int 300]
def aboutOver (below : List Frame) : State where
  vm := { classes := classes, interned := interned.toArray }
  heap := heap
  slotsUsed := slotsUsed
  threads := #[{ frames := .invoking theMethod args0 :: below }]
def below0 : List Frame := [.native { method := ⟨0, 0⟩, args := #[] }]
def about1 : State := aboutOver below0
def p0 : Program := .bare "" "" ""
def e0 : Env := launch0.env 0 0 0
theorem w_frames : about1.frames = Frame.invoking theMethod args0 :: below0 := rfl
set_option maxRecDepth 65536 in
theorem w_args : argsFit about1.vm theMethod args0 = true := by decide +kernel
set_option maxRecDepth 65536 in
theorem w_heap : heapFits about1 = true := by decide +kernel
set_option maxRecDepth 65536 in
theorem w_runnable : about1.curStatus? = some .runnable := by decide +kernel
set_option maxRecDepth 65536 in
theorem w_alone : about1.alone = true := by decide +kernel
set_option maxRecDepth 65536 in
theorem w_named : about1.methodNamed? x = some theMethod := by decide +kernel
set_option maxRecDepth 65536 in
theorem w_hears : about1.hears theMethod below0 = true := by decide +kernel
set_option maxRecDepth 65536 in
theorem w_ripe : about1.ripe theMethod args0 below0 = true := by decide +kernel
theorem w_running : about1.status = .running := rfl
set_option maxRecDepth 65536 in
theorem w_room : about1.hasRoom e0.platform room_1 = true :=
  launch0.hasRoom_least _ room_1 (by decide +kernel) (by decide +kernel) (by decide +kernel) (by decide +kernel) (by decide +kernel) (by decide +kernel)
theorem allAtoms_all (ts : List Jvm.Cond) (a : Array Jvm.Value) (st : Jvm.State) : (allAtoms ts).before a st = ts.all (fun c => c.before a st) := by
  induction ts with
  | nil => rfl
  | cons c t ih =>
    show (Jvm.Cond.and c (allAtoms t)).before a st = _
    rw [Jvm.Cond.before_and, ih, List.all_cons]
def words1 : List Jvm.Cond := Jvm.Cond.code x code maxLocals ret :: tables_1
/-- a 'code' word, met by the world's own term for the bytes: nothing is compared byte by byte -/
theorem code_word {y : MethodName} {bytes : ByteArray} {mx : Nat} {rt : Option FieldType} {a : Array Value} {s : State} {m : MethodId} {meth : Method} {c : Code} (h1 : s.methodNamed? y = some m) (h2 : s.vm.method? m = some meth) (h3 : meth.code = some c) (h4 : c.code = bytes)
    (h5 : (c.maxLocals == mx && c.exceptionTable.isEmpty && decide (c.maxStack ≤ mostOperands) && decide (meth.sig.returnType = rt) && !meth.locks && decide (parseMethodDescriptor y.desc = some meth.sig)) = true) : (Jvm.Cond.code y bytes mx rt).before a s = true := by
  simp only [Bool.and_eq_true, beq_iff_eq, Bool.not_eq_true', decide_eq_true_eq] at h5
  obtain ⟨⟨⟨⟨⟨g1, g2⟩, g3⟩, g4⟩, g5⟩, g6⟩ := h5
  simp [Cond.before, Cond.holds, Cond.value, h1, h2, h3, h4, g1, g2, g3, g4, g5, g6]
def isCode : Jvm.Cond → Bool
  | .code _ _ _ _ => true
  | _ => false
theorem all_split {L : List Jvm.Cond} {P : Jvm.Cond → Bool} (h1 : L.all (fun c => isCode c || P c) = true) (h2 : ∀ c ∈ L.filter isCode, P c = true) : L.all P = true := by
  refine List.all_eq_true.mpr fun c hc => ?_
  have h := List.all_eq_true.mp h1 c hc
  rcases Bool.eq_false_or_eq_true (isCode c) with hi | hi
  · exact h2 c (List.mem_filter.mpr ⟨hc, hi⟩)
  · simpa [hi] using h
set_option maxRecDepth 65536 in
theorem w_c0 : (Jvm.Cond.code x code maxLocals ret).before args0 about1 = true := code_word (m := ⟨1, 1⟩) (meth := k1m1) (c := k1c1) (by decide +kernel) rfl rfl rfl (by decide +kernel)
set_option maxRecDepth 65536 in
theorem w_c1 : (Jvm.Cond.code ({ cls := "com/example/spanwise/spanwise/WoodProblem", name := "costOfCuts", desc := "(I)J" } : Jvm.MethodName) prog_26_method_7_code (1 : Nat) (Option.some Jvm.ClassFile.FieldType.long)).before args0 about1 = true := code_word (m := ⟨2, 0⟩) (meth := k2m0) (c := k2c0) (by decide +kernel) rfl rfl rfl (by decide +kernel)
def codes1 : List Jvm.Cond := [Jvm.Cond.code x code maxLocals ret, Jvm.Cond.code ({ cls := "com/example/spanwise/spanwise/WoodProblem", name := "costOfCuts", desc := "(I)J" } : Jvm.MethodName) prog_26_method_7_code (1 : Nat) (Option.some Jvm.ClassFile.FieldType.long)]
set_option maxRecDepth 65536 in
theorem codes_eq : words1.filter isCode = codes1 := rfl
theorem w_codes : ∀ c ∈ words1.filter isCode, c.before args0 about1 = true := by
  rw [codes_eq]
  intro c hc
  simp only [codes1, List.mem_cons, List.not_mem_nil, or_false] at hc
  rcases hc with rfl | rfl
  · exact w_c0
  · exact w_c1
set_option maxRecDepth 65536 in
theorem w_t1 : words1.all (fun c => isCode c || c.before args0 about1) = true := by decide +kernel
theorem w_tables : (allAtoms (Jvm.Cond.code x code maxLocals ret :: tables_1)).before args0 about1 = true := by
  rw [allAtoms_all]
  show words1.all (fun c => c.before args0 about1) = true
  refine all_split ?_ w_codes
  rw [w_t1]
set_option maxRecDepth 65536 in
theorem w_case : (Jvm.Cond.and given_1 narrow_1).before args0 about1 = true := by decide +kernel
theorem w_applies : (headSpec (Jvm.Cond.code x code maxLocals ret :: tables_1) room_1).applies x e0.platform about1 = true :=
  (Spec.applies_iff w_frames).mpr ⟨w_running, w_runnable, w_alone, w_named, w_hears, w_ripe, w_room, w_tables⟩
theorem atStart : AtStart classFile x code maxLocals ret World_1 tables_1 room_1 Calls_1 rest_1 Pre_1 launch0 p0 e0 about1 theMethod args0 below0 :=
  ⟨lists_1, trivial, launch0.admits_env _ _ _, launch0.least_env, fairChoices_fair.cas, fairChoices_fair.clock, w_frames, w_args, w_heap, w_applies, trivial, trivial, w_case⟩
end start1
theorem witness_1 : WitnessClaimed_1 := ⟨start1.p0, start1.e0, start1.about1, start1.theMethod, start1.args0, start1.below0, start1.atStart⟩
end Jvm.Pilot.@@N@@
