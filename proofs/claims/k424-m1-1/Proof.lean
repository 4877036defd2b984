import JvmDerived
import JvmDerived.Pilot.@@N@@Statement
import JvmDerived.Pilot.@@N@@Code
set_option linter.unusedVariables false
set_option linter.unusedSimpArgs false
namespace Jvm.Pilot.@@N@@
open Jvm Jvm.ClassFile Sem Op Lib Jvm.Free Jvm.Stand Jvm.LawKit Jvm.RoadKit Bundle Jvm.Pilot.@@N@@.Jvm.D
/-! steps, taken forward -/
theorem own_fw {tb : Tables} {e : Env} {below : List Frame} {A A' : State} {P : State → Outcome → Prop} (h : ∀ t, Steps tb e below A' t → Steps tb e below A t) (g : ∃ U o, Steps tb e below A' U ∧ P U o) : ∃ U o, Steps tb e below A U ∧ P U o := by
  obtain ⟨U, o, s, r⟩ := g
  exact ⟨U, o, h U s, r⟩
theorem own_st {tb : Tables} {e : Env} {below : List Frame} {A A' t : State} (h : ∀ t, Steps tb e below A' t → Steps tb e below A t) (g : Steps tb e below A' t) : Steps tb e below A t := h t g
theorem own_plainE {Z : State} {h : Heap} {a : Addr} {C : String} (F : Exa Z h a C) : ∀ cell : Cell, h[a]? = some cell → cell.vm.isStatics = false := fun cell hc => by
  obtain ⟨c1, k1, h1, -, -, h4, -⟩ := F
  cases h1.symm.trans hc
  exact h4
theorem own_plainV {Z : State} {h : Heap} {a : Addr} {k : ClassId} {ty : FieldType} {z : Int32} {vs : List Value} {dv : Value} (F : Arv Z h a k ty z vs dv) : ∀ cell : Cell, h[a]? = some cell → cell.vm.isStatics = false := fun cell hc => by
  obtain ⟨c1, A, -⟩ := F
  cases A.1.symm.trans hc
  exact A.plain
theorem own_staKeep {Z : State} {h h' : Heap} {C n d : String} {v : Value} {ws : List Addr} (F : Sta Z h C n d v) (K : Keep h h' ws) (q : ∀ x ∈ ws, ∀ cell : Cell, h[x]? = some cell → cell.vm.isStatics = false) : Sta Z h' C n d v := by
  obtain ⟨cf, i, k, f, st, cell, h1, h2, h3, h4, h5, h6, h7⟩ := F
  exact ⟨cf, i, k, f, st, cell, h1, h2, h3, h4, K.2.1 st cell h5 (fun m => by rw [q st m cell h5] at h6; cases h6), h6, h7⟩
theorem own_insLt {Z : State} {h : Heap} {a : Addr} {C : String} {bo : Bool} (F : Ins Z h a C bo) : a < h.size := by
  obtain ⟨cell, cT, h1, -⟩ := F
  exact (Array.getElem?_eq_some_iff.mp h1).1
theorem own_insKeep {Z : State} {h h' : Heap} {a : Addr} {C : String} {bo : Bool} {ws : List Addr} (F : Ins Z h a C bo) (K : Keep h h' ws) : Ins Z h' a C bo := by
  obtain ⟨cell, cT, h1, h2, h3⟩ := F
  obtain ⟨c', e1, e2, e3, -⟩ := K.2.2 a cell h1
  exact ⟨c', cT, e1, h2, by rw [e2, e3]; exact h3⟩


def own_mn (q : Int64) : Int64 := if (9223372036854 : Int64) < q then (9223372036854775807 : Int64) else if q < (-9223372036854 : Int64) then (-9223372036854775808 : Int64) else (q * (1000000 : Int64))
theorem own_c1 : (9223372036854 : Int64).toInt = 9223372036854 := by decide
theorem own_c2 : (-9223372036854 : Int64).toInt = -9223372036854 := by decide
theorem own_c3 : (1000000 : Int64).toInt = 1000000 := by decide
theorem own_c0 : (0 : Int64).toInt = 0 := by decide
theorem own_div (p : Int64) : -9223372036854 ≤ (p / (1000000 : Int64)).toInt ∧ (p / (1000000 : Int64)).toInt ≤ 9223372036854 := by
  have h := c_ldiv p 1000000 1000000 (by decide) (by decide)
  have r := rng64 p
  by_cases q : 0 ≤ p.toInt
  · have := h.1 q
    omega
  · have := h.2 (by omega)
    omega
theorem own_exact (v : Int64) (h1 : ¬ (9223372036854 : Int64) < v) (h2 : ¬ v < (-9223372036854 : Int64)) : (v * (1000000 : Int64)) / (1000000 : Int64) = v := by
  rw [Int64.lt_iff_toInt_lt, own_c1] at h1
  rw [Int64.lt_iff_toInt_lt, own_c2] at h2
  refine XT.mulDiv64 ?_ (by decide)
  rw [own_c3]
  exact ⟨by omega, by omega⟩
theorem own_l1 (v : Int64) (h : (v * (1000000 : Int64)) / (1000000 : Int64) = v) : own_mn v = v * (1000000 : Int64) := by
  have d := own_div (v * (1000000 : Int64))
  rw [h] at d
  have a : ¬ (9223372036854 : Int64) < v := by rw [Int64.lt_iff_toInt_lt, own_c1]; omega
  have b : ¬ v < (-9223372036854 : Int64) := by rw [Int64.lt_iff_toInt_lt, own_c2]; omega
  simp only [own_mn, if_neg a, if_neg b]
theorem own_l2 (v : Int64) (h : ¬ (v * (1000000 : Int64)) / (1000000 : Int64) = v) (hp : (0 : Int64) < v) : own_mn v = (9223372036854775807 : Int64) := by
  by_cases a : (9223372036854 : Int64) < v
  · simp only [own_mn, if_pos a]
  · exact absurd (own_exact v a (by rw [Int64.lt_iff_toInt_lt, own_c2]; rw [Int64.lt_iff_toInt_lt, own_c0] at hp; omega)) h
theorem own_l3 (v : Int64) (h : ¬ (v * (1000000 : Int64)) / (1000000 : Int64) = v) (hp : ¬ (0 : Int64) < v) : own_mn v = (-9223372036854775808 : Int64) := by
  rw [Int64.lt_iff_toInt_lt, own_c0] at hp
  have a : ¬ (9223372036854 : Int64) < v := by rw [Int64.lt_iff_toInt_lt, own_c1]; omega
  by_cases b : v < (-9223372036854 : Int64)
  · simp only [own_mn, if_neg a, if_pos b]
  · exact absurd (own_exact v a b) h

theorem pn_com_example_spindle_spindle_SystemClock : plainName "com/example/spindle/spindle/SystemClock" = true := by first | (simp [plainName, overriddenIn]; done) | decide +kernel
theorem d_prog_9_method_5_code_0 : decode prog_9_method_5_code 0 = .ok (.lload_n 0, 1) := by decide +kernel
theorem d_prog_9_method_5_code_1 : decode prog_9_method_5_code 1 = .ok (.ldc2_w 39, 3) := by decide +kernel
theorem d_prog_9_method_5_code_4 : decode prog_9_method_5_code 4 = .ok (.lcmp, 1) := by decide +kernel
theorem d_prog_9_method_5_code_5 : decode prog_9_method_5_code 5 = .ok (.ifCond .le 10, 3) := by decide +kernel
theorem d_prog_9_method_5_code_8 : decode prog_9_method_5_code 8 = .ok (.ldc2_w 41, 3) := by decide +kernel
theorem d_prog_9_method_5_code_11 : decode prog_9_method_5_code 11 = .ok (.lstore_n 2, 1) := by decide +kernel
theorem d_prog_9_method_5_code_12 : decode prog_9_method_5_code 12 = .ok (.goto 24, 3) := by decide +kernel
theorem d_prog_9_method_5_code_36 : decode prog_9_method_5_code 36 = .ok (.lload_n 2, 1) := by decide +kernel
theorem d_prog_9_method_5_code_37 : decode prog_9_method_5_code 37 = .ok (.lreturn, 1) := by decide +kernel
theorem d_prog_9_method_5_code_15 : decode prog_9_method_5_code 15 = .ok (.lload_n 0, 1) := by decide +kernel
theorem d_prog_9_method_5_code_16 : decode prog_9_method_5_code 16 = .ok (.ldc2_w 43, 3) := by decide +kernel
theorem d_prog_9_method_5_code_19 : decode prog_9_method_5_code 19 = .ok (.lcmp, 1) := by decide +kernel
theorem d_prog_9_method_5_code_20 : decode prog_9_method_5_code 20 = .ok (.ifCond .ge 10, 3) := by decide +kernel
theorem d_prog_9_method_5_code_23 : decode prog_9_method_5_code 23 = .ok (.ldc2_w 45, 3) := by decide +kernel
theorem d_prog_9_method_5_code_26 : decode prog_9_method_5_code 26 = .ok (.lstore_n 2, 1) := by decide +kernel
theorem d_prog_9_method_5_code_27 : decode prog_9_method_5_code 27 = .ok (.goto 9, 3) := by decide +kernel
theorem d_prog_9_method_5_code_30 : decode prog_9_method_5_code 30 = .ok (.lload_n 0, 1) := by decide +kernel
theorem d_prog_9_method_5_code_31 : decode prog_9_method_5_code 31 = .ok (.ldc2_w 15, 3) := by decide +kernel
theorem d_prog_9_method_5_code_34 : decode prog_9_method_5_code 34 = .ok (.lmul, 1) := by decide +kernel
theorem d_prog_9_method_5_code_35 : decode prog_9_method_5_code 35 = .ok (.lstore_n 2, 1) := by decide +kernel
theorem ef_rmNanos (m : MethodId) (q1 : Int64) : entryFrame m #[(.long q1)] 4 = mkF m 0 #[.val (.long q1), .second, .unset, .unset] [] := by first | (simp [entryFrame, mkF, argsToLocals, Value.category]; done) | rfl
def Q_rmNanos (Z : State) (q1 : Int64) (h0 : Heap) (n0 : Nat) (v : Option Value) (h : Heap) (L : List Loc) : Prop := v = some (.long (own_mn q1)) ∧ Fr n0 L ∧ h = h0
set_option maxRecDepth 65536 in
set_option maxHeartbeats 40000000 in
theorem rmNanos (l : Launch) (Z : State) (a0 : Array Value) (hw : ∀ d ∈ tables_1, d.before a0 Z = true) (ws : List Jvm.Cond) (q1 : Int64) (h0 : Heap) (n0 : Nat) (Z0 : n0 ≤ h0.size)  :
    MetFree l (⟨"com/example/spindle/spindle/SystemClock", "millisToNanos", "(J)J"⟩ : MethodName) (head1 (Jvm.Cond.code (⟨"com/example/spindle/spindle/SystemClock", "millisToNanos", "(J)J"⟩ : MethodName) prog_9_method_5_code 4 (some .long) :: ws) ({ frames := 0, cells := 0, slots := 0, locals := 0 } : Room)) (fun a U => a = #[(.long q1)] ∧ Z.Warmed39 U.vm ∧ U.heap = h0) (fun _ _ _ _ _ => True) (fun _ U o U' => ∃ v L, o = .returned v ∧ Q_rmNanos Z q1 h0 n0 v U'.heap L ∧ FrameEnd U o U' L ({ frames := 0, cells := 0, slots := 0, locals := 0 } : Room).cells ({ frames := 0, cells := 0, slots := 0, locals := 0 } : Room).slots) := by
  refine MetFree.of_bodySF (plainFor_of_name pn_com_example_spindle_spindle_SystemClock) hisR ?_
  intro p e s m args below meth c s₁ Bd hml0 hP hK
  obtain ⟨rfl, hZ, hh⟩ := hP
  have hx := Bd.exec
  have hby := Bd.bytes
  have hml : c.maxLocals = 4 := hml0
  have hown : s.vm.findClass "com/example/spindle/spindle/SystemClock" = some m.cls := findClass_of_methodNamed Bd.named
  have hnm := (name_of_methodNamed Bd.named Bd.method).1
  have X0 : Stand p l e ({ frames := 0, cells := 0, slots := 0, locals := 0 } : Room) s m #[(.long q1)] below meth c s₁ [] 0 0 := Stand.of_body Bd
  have e0 : s₁.heap = h0 := by rw [← hh, Bd.state]; rfl
  have N0 := Fr.nil n0
  refine own_fw (A' := (s₁.setTop (mkF m 0 #[.val (.long q1), .second, .unset, .unset] []))) (fun t k => castTop (ef_rmNanos m q1) k) ?_
  refine own_fw (A' := (s₁.setTop (mkF m 1 #[.val (.long q1), .second, .unset, .unset] [(.long q1)]))) (fun t k => XS.lloadN X0.here hx rfl (hb hby d_prog_9_method_5_code_0) rfl k) ?_
  refine own_fw (A' := (s₁.setTop (mkF m 4 #[.val (.long q1), .second, .unset, .unset] [(.long (9223372036854 : Int64)), (.long q1)]))) (fun t k => X0.ldc2Long hx hown (mvT hZ (hw _ (List.mem_of_getElem? (i := 6) rfl))) (g := (mkF m 1 #[.val (.long q1), .second, .unset, .unset] [(.long q1)])) rfl (hb hby d_prog_9_method_5_code_1) _ k) ?_
  refine own_fw (A' := (s₁.setTop (mkF m 5 #[.val (.long q1), .second, .unset, .unset] [(.int (XT.cmpL q1 (9223372036854 : Int64)))]))) (fun t k => XT.lcmp X0.here hx rfl (hb hby d_prog_9_method_5_code_4) rfl k) ?_
  by_cases hc1 : (9223372036854 : Int64) < q1
  · refine own_fw (A' := (s₁.setTop (mkF m 8 #[.val (.long q1), .second, .unset, .unset] []))) (fun t k => XS.ifNo X0.here hx rfl (hb hby d_prog_9_method_5_code_5) rfl (XT.ll_le_f hc1) k) ?_
    refine own_fw (A' := (s₁.setTop (mkF m 11 #[.val (.long q1), .second, .unset, .unset] [(.long (9223372036854775807 : Int64))]))) (fun t k => X0.ldc2Long hx hown (mvT hZ (hw _ (List.mem_of_getElem? (i := 14) rfl))) (g := (mkF m 8 #[.val (.long q1), .second, .unset, .unset] [])) rfl (hb hby d_prog_9_method_5_code_8) _ k) ?_
    refine own_fw (A' := (s₁.setTop (mkF m 12 #[.val (.long q1), .second, .val (.long (9223372036854775807 : Int64)), .second] []))) (fun t k => XS.lstoreN X0.here hx rfl (hb hby d_prog_9_method_5_code_11) rfl (l' := #[.val (.long q1), .second, .val (.long (9223372036854775807 : Int64)), .second]) rfl k) ?_
    refine own_fw (A' := (s₁.setTop (mkF m 36 #[.val (.long q1), .second, .val (.long (9223372036854775807 : Int64)), .second] []))) (fun t k => XS.goto X0.here hx rfl (pc0 := 12) (pc' := 36) rfl (hb hby d_prog_9_method_5_code_12) (by decide) (by decide) k) ?_
    refine own_fw (A' := (s₁.setTop (mkF m 37 #[.val (.long q1), .second, .val (.long (9223372036854775807 : Int64)), .second] [(.long (9223372036854775807 : Int64))]))) (fun t k => XS.lloadN X0.here hx rfl (hb hby d_prog_9_method_5_code_36) rfl k) ?_
    obtain ⟨fs, hr, hrun, hended, hW, hsame⟩ := X0.leave (v := some (.long (9223372036854775807 : Int64))) (fun h => by rw [Bd.returns] at h; cases h)
    refine ⟨_, _, ?_, hrun, hended, _, _, rfl, ?_, ⟨_, rfl⟩, hW, hsame.mono (by decide) (by decide)⟩
    · exact retOut X0 hx Bd.returns rfl (Or.inr (Or.inl ⟨rfl, rfl, _, rfl⟩)) (hb hby d_prog_9_method_5_code_37) hr
    · show Q_rmNanos Z q1 h0 n0 _ s₁.heap _
      rw [e0]
      exact ⟨(by simp only [own_mn, if_pos hc1]), N0, rfl⟩
  · refine own_fw (A' := (s₁.setTop (mkF m 15 #[.val (.long q1), .second, .unset, .unset] []))) (fun t k => XS.ifYes X0.here hx rfl (pc0 := 5) (pc' := 15) rfl (hb hby d_prog_9_method_5_code_5) rfl (XT.ll_le_t hc1) (by decide) (by decide) k) ?_
    refine own_fw (A' := (s₁.setTop (mkF m 16 #[.val (.long q1), .second, .unset, .unset] [(.long q1)]))) (fun t k => XS.lloadN X0.here hx rfl (hb hby d_prog_9_method_5_code_15) rfl k) ?_
    refine own_fw (A' := (s₁.setTop (mkF m 19 #[.val (.long q1), .second, .unset, .unset] [(.long (-9223372036854 : Int64)), (.long q1)]))) (fun t k => X0.ldc2Long hx hown (mvT hZ (hw _ (List.mem_of_getElem? (i := 7) rfl))) (g := (mkF m 16 #[.val (.long q1), .second, .unset, .unset] [(.long q1)])) rfl (hb hby d_prog_9_method_5_code_16) _ k) ?_
    refine own_fw (A' := (s₁.setTop (mkF m 20 #[.val (.long q1), .second, .unset, .unset] [(.int (XT.cmpL q1 (-9223372036854 : Int64)))]))) (fun t k => XT.lcmp X0.here hx rfl (hb hby d_prog_9_method_5_code_19) rfl k) ?_
    by_cases hc2 : q1 < (-9223372036854 : Int64)
    · refine own_fw (A' := (s₁.setTop (mkF m 23 #[.val (.long q1), .second, .unset, .unset] []))) (fun t k => XS.ifNo X0.here hx rfl (hb hby d_prog_9_method_5_code_20) rfl (XT.ll_ge_f hc2) k) ?_
      refine own_fw (A' := (s₁.setTop (mkF m 26 #[.val (.long q1), .second, .unset, .unset] [(.long (-9223372036854775808 : Int64))]))) (fun t k => X0.ldc2Long hx hown (mvT hZ (hw _ (List.mem_of_getElem? (i := 10) rfl))) (g := (mkF m 23 #[.val (.long q1), .second, .unset, .unset] [])) rfl (hb hby d_prog_9_method_5_code_23) _ k) ?_
      refine own_fw (A' := (s₁.setTop (mkF m 27 #[.val (.long q1), .second, .val (.long (-9223372036854775808 : Int64)), .second] []))) (fun t k => XS.lstoreN X0.here hx rfl (hb hby d_prog_9_method_5_code_26) rfl (l' := #[.val (.long q1), .second, .val (.long (-9223372036854775808 : Int64)), .second]) rfl k) ?_
      refine own_fw (A' := (s₁.setTop (mkF m 36 #[.val (.long q1), .second, .val (.long (-9223372036854775808 : Int64)), .second] []))) (fun t k => XS.goto X0.here hx rfl (pc0 := 27) (pc' := 36) rfl (hb hby d_prog_9_method_5_code_27) (by decide) (by decide) k) ?_
      refine own_fw (A' := (s₁.setTop (mkF m 37 #[.val (.long q1), .second, .val (.long (-9223372036854775808 : Int64)), .second] [(.long (-9223372036854775808 : Int64))]))) (fun t k => XS.lloadN X0.here hx rfl (hb hby d_prog_9_method_5_code_36) rfl k) ?_
      obtain ⟨fs, hr, hrun, hended, hW, hsame⟩ := X0.leave (v := some (.long (-9223372036854775808 : Int64))) (fun h => by rw [Bd.returns] at h; cases h)
      refine ⟨_, _, ?_, hrun, hended, _, _, rfl, ?_, ⟨_, rfl⟩, hW, hsame.mono (by decide) (by decide)⟩
      · exact retOut X0 hx Bd.returns rfl (Or.inr (Or.inl ⟨rfl, rfl, _, rfl⟩)) (hb hby d_prog_9_method_5_code_37) hr
      · show Q_rmNanos Z q1 h0 n0 _ s₁.heap _
        rw [e0]
        exact ⟨(by simp only [own_mn, if_neg hc1, if_pos hc2]), N0, rfl⟩
    · refine own_fw (A' := (s₁.setTop (mkF m 30 #[.val (.long q1), .second, .unset, .unset] []))) (fun t k => XS.ifYes X0.here hx rfl (pc0 := 20) (pc' := 30) rfl (hb hby d_prog_9_method_5_code_20) rfl (XT.ll_ge_t hc2) (by decide) (by decide) k) ?_
      refine own_fw (A' := (s₁.setTop (mkF m 31 #[.val (.long q1), .second, .unset, .unset] [(.long q1)]))) (fun t k => XS.lloadN X0.here hx rfl (hb hby d_prog_9_method_5_code_30) rfl k) ?_
      refine own_fw (A' := (s₁.setTop (mkF m 34 #[.val (.long q1), .second, .unset, .unset] [(.long (1000000 : Int64)), (.long q1)]))) (fun t k => X0.ldc2Long hx hown (mvT hZ (hw _ (List.mem_of_getElem? (i := 8) rfl))) (g := (mkF m 31 #[.val (.long q1), .second, .unset, .unset] [(.long q1)])) rfl (hb hby d_prog_9_method_5_code_31) _ k) ?_
      refine own_fw (A' := (s₁.setTop (mkF m 35 #[.val (.long q1), .second, .unset, .unset] [(.long (q1 * (1000000 : Int64)))]))) (fun t k => XS.lmul X0.here hx rfl (hb hby d_prog_9_method_5_code_34) rfl k) ?_
      refine own_fw (A' := (s₁.setTop (mkF m 36 #[.val (.long q1), .second, .val (.long (q1 * (1000000 : Int64))), .second] []))) (fun t k => XS.lstoreN X0.here hx rfl (hb hby d_prog_9_method_5_code_35) rfl (l' := #[.val (.long q1), .second, .val (.long (q1 * (1000000 : Int64))), .second]) rfl k) ?_
      refine own_fw (A' := (s₁.setTop (mkF m 37 #[.val (.long q1), .second, .val (.long (q1 * (1000000 : Int64))), .second] [(.long (q1 * (1000000 : Int64)))]))) (fun t k => XS.lloadN X0.here hx rfl (hb hby d_prog_9_method_5_code_36) rfl k) ?_
      obtain ⟨fs, hr, hrun, hended, hW, hsame⟩ := X0.leave (v := some (.long (q1 * (1000000 : Int64)))) (fun h => by rw [Bd.returns] at h; cases h)
      refine ⟨_, _, ?_, hrun, hended, _, _, rfl, ?_, ⟨_, rfl⟩, hW, hsame.mono (by decide) (by decide)⟩
      · exact retOut X0 hx Bd.returns rfl (Or.inr (Or.inl ⟨rfl, rfl, _, rfl⟩)) (hb hby d_prog_9_method_5_code_37) hr
      · show Q_rmNanos Z q1 h0 n0 _ s₁.heap _
        rw [e0]
        exact ⟨(by simp only [own_mn, if_neg hc1, if_neg hc2]), N0, rfl⟩
theorem pn_com_example_spindle_spindle_SystemClockMillisToNanosPinLaw : plainName "com/example/spindle/spindle/SystemClockMillisToNanosPinLaw" = true := by first | (simp [plainName, overriddenIn]; done) | decide +kernel
theorem pd__J_J : parseMethodDescriptor "(J)J" = some ⟨[.long], some .long⟩ := by decide +kernel
theorem ef_rm0 (m : MethodId) (q1 : Int64) (p2 : Int32) : entryFrame m #[(.long q1), (.int p2)] maxLocals = mkF m 0 #[.val (.long q1), .second, .val (.int p2), .unset, .unset, .unset, .unset, .unset, .unset, .unset, .unset, .unset, .unset] [] := by first | (simp [entryFrame, mkF, argsToLocals, Value.category, maxLocals]; done) | rfl
def Q_rm0 (Z : State) (q1 : Int64) (p2 : Int32) (h0 : Heap) (n0 : Nat) (v : Option Value) (h : Heap) (L : List Loc) : Prop := v = some (.int (1 : Int32)) ∧ Fr n0 L
set_option maxRecDepth 65536 in
set_option maxHeartbeats 40000000 in
theorem rm0 (l : Launch) (Z : State) (a0 : Array Value) (hw : ∀ d ∈ tables_1, d.before a0 Z = true) (ws : List Jvm.Cond) (q1 : Int64) (p2 : Int32) (h0 : Heap) (n0 : Nat) (Z0 : n0 ≤ h0.size)  :
    MetFree l x (head1 (Jvm.Cond.code x code maxLocals ret :: ws) room_1) (fun a U => a = #[(.long q1), (.int p2)] ∧ Z.Warmed39 U.vm ∧ U.heap = h0) (fun _ _ _ _ _ => True) (fun _ U o U' => ∃ v L, o = .returned v ∧ Q_rm0 Z q1 p2 h0 n0 v U'.heap L ∧ FrameEnd U o U' L room_1.cells room_1.slots) := by
  refine MetFree.of_bodySF (plainFor_of_name pn_com_example_spindle_spindle_SystemClockMillisToNanosPinLaw) hisR ?_
  intro p e s m args below meth c s₁ Bd hml0 hP hK
  obtain ⟨rfl, hZ, hh⟩ := hP
  have hx := Bd.exec
  have hby := Bd.bytes
  have hml : c.maxLocals = 13 := hml0
  have hown : s.vm.findClass "com/example/spindle/spindle/SystemClockMillisToNanosPinLaw" = some m.cls := findClass_of_methodNamed Bd.named
  have hnm := (name_of_methodNamed Bd.named Bd.method).1
  have X0 : Stand p l e room_1 s m #[(.long q1), (.int p2)] below meth c s₁ [] 0 0 := Stand.of_body Bd
  have e0 : s₁.heap = h0 := by rw [← hh, Bd.state]; rfl
  have N0 := Fr.nil n0
  refine own_fw (A' := (s₁.setTop (mkF m 0 #[.val (.long q1), .second, .val (.int p2), .unset, .unset, .unset, .unset, .unset, .unset, .unset, .unset, .unset, .unset] []))) (fun t k => castTop (ef_rm0 m q1 p2) k) ?_
  refine own_fw (A' := (s₁.setTop (mkF m 1 #[.val (.long q1), .second, .val (.int p2), .unset, .unset, .unset, .unset, .unset, .unset, .unset, .unset, .unset, .unset] [(.int p2)]))) (fun t k => XS.iloadN X0.here hx rfl (hb hby at_0) rfl k) ?_
  refine own_fw (A' := (s₁.setTop (mkF m 2 #[.val (.long q1), .second, .val (.int p2), .unset, .unset, .unset, .unset, .unset, .unset, .unset, .unset, .unset, .unset] [(.int (3 : Int32)), (.int p2)]))) (fun t k => XS.iconst X0.here hx rfl (hb hby at_1) k) ?_
  refine own_fw (A' := (s₁.setTop (mkF m 3 #[.val (.long q1), .second, .val (.int p2), .unset, .unset, .unset, .unset, .unset, .unset, .unset, .unset, .unset, .unset] [(.int (p2 &&& (3 : Int32)))]))) (fun t k => XS.iand X0.here hx rfl (hb hby at_2) rfl k) ?_
  refine own_fw (A' := (s₁.setTop (mkF m 5 #[.val (.long q1), .second, .val (.int p2), .unset, .unset, .val (.int (p2 &&& (3 : Int32))), .unset, .unset, .unset, .unset, .unset, .unset, .unset] []))) (fun t k => XS.istore X0.here hx rfl (hb hby at_3) rfl (l' := #[.val (.long q1), .second, .val (.int p2), .unset, .unset, .val (.int (p2 &&& (3 : Int32))), .unset, .unset, .unset, .unset, .unset, .unset, .unset]) rfl k) ?_
  refine own_fw (A' := (s₁.setTop (mkF m 7 #[.val (.long q1), .second, .val (.int p2), .unset, .unset, .val (.int (p2 &&& (3 : Int32))), .unset, .unset, .unset, .unset, .unset, .unset, .unset] [(.int (p2 &&& (3 : Int32)))]))) (fun t k => XS.iload X0.here hx rfl (hb hby at_5) rfl k) ?_
  refine own_fw (A' := (s₁.setTop (mkF m 59 #[.val (.long q1), .second, .val (.int p2), .val (.long (if (p2 &&& (3 : Int32)) = (0 : Int32) then q1 else (if (p2 &&& (3 : Int32)) = (1 : Int32) then ((9223372036854 : Int64) + (q1 % (4 : Int64))) else (if (p2 &&& (3 : Int32)) = (2 : Int32) then ((-9223372036854 : Int64) + (q1 % (4 : Int64))) else (q1 % (100 : Int64)))))), .second, .val (.int (p2 &&& (3 : Int32))), .unset, .unset, .unset, .unset, .unset, .unset, .unset] []))) (fun t k => ?_) ?_
  · by_cases hj1 : (p2 &&& (3 : Int32)) = (0 : Int32)
    · try simp only [if_pos hj1] at k
      refine own_st (A' := (s₁.setTop (mkF m 10 #[.val (.long q1), .second, .val (.int p2), .unset, .unset, .val (.int (p2 &&& (3 : Int32))), .unset, .unset, .unset, .unset, .unset, .unset, .unset] []))) (fun t k => XS.ifNo X0.here hx rfl (hb hby at_7) rfl (XT.i0_ne_f hj1) k) ?_
      refine own_st (A' := (s₁.setTop (mkF m 11 #[.val (.long q1), .second, .val (.int p2), .unset, .unset, .val (.int (p2 &&& (3 : Int32))), .unset, .unset, .unset, .unset, .unset, .unset, .unset] [(.long q1)]))) (fun t k => XS.lloadN X0.here hx rfl (hb hby at_10) rfl k) ?_
      refine own_st (A' := (s₁.setTop (mkF m 12 #[.val (.long q1), .second, .val (.int p2), .val (.long q1), .second, .val (.int (p2 &&& (3 : Int32))), .unset, .unset, .unset, .unset, .unset, .unset, .unset] []))) (fun t k => XS.lstoreN X0.here hx rfl (hb hby at_11) rfl (l' := #[.val (.long q1), .second, .val (.int p2), .val (.long q1), .second, .val (.int (p2 &&& (3 : Int32))), .unset, .unset, .unset, .unset, .unset, .unset, .unset]) rfl k) ?_
      refine own_st (A' := (s₁.setTop (mkF m 59 #[.val (.long q1), .second, .val (.int p2), .val (.long q1), .second, .val (.int (p2 &&& (3 : Int32))), .unset, .unset, .unset, .unset, .unset, .unset, .unset] []))) (fun t k => XS.goto X0.here hx rfl (pc0 := 12) (pc' := 59) rfl (hb hby at_12) (by decide) (by decide) k) ?_
      exact k
    · try simp only [if_neg hj1] at k
      refine own_st (A' := (s₁.setTop (mkF m 15 #[.val (.long q1), .second, .val (.int p2), .unset, .unset, .val (.int (p2 &&& (3 : Int32))), .unset, .unset, .unset, .unset, .unset, .unset, .unset] []))) (fun t k => XS.ifYes X0.here hx rfl (pc0 := 7) (pc' := 15) rfl (hb hby at_7) rfl (XT.i0_ne_t hj1) (by decide) (by decide) k) ?_
      refine own_st (A' := (s₁.setTop (mkF m 17 #[.val (.long q1), .second, .val (.int p2), .unset, .unset, .val (.int (p2 &&& (3 : Int32))), .unset, .unset, .unset, .unset, .unset, .unset, .unset] [(.int (p2 &&& (3 : Int32)))]))) (fun t k => XS.iload X0.here hx rfl (hb hby at_15) rfl k) ?_
      refine own_st (A' := (s₁.setTop (mkF m 18 #[.val (.long q1), .second, .val (.int p2), .unset, .unset, .val (.int (p2 &&& (3 : Int32))), .unset, .unset, .unset, .unset, .unset, .unset, .unset] [(.int (1 : Int32)), (.int (p2 &&& (3 : Int32)))]))) (fun t k => XS.iconst X0.here hx rfl (hb hby at_17) k) ?_
      refine own_st (A' := (s₁.setTop (mkF m 59 #[.val (.long q1), .second, .val (.int p2), .val (.long (if (p2 &&& (3 : Int32)) = (1 : Int32) then ((9223372036854 : Int64) + (q1 % (4 : Int64))) else (if (p2 &&& (3 : Int32)) = (2 : Int32) then ((-9223372036854 : Int64) + (q1 % (4 : Int64))) else (q1 % (100 : Int64))))), .second, .val (.int (p2 &&& (3 : Int32))), .unset, .unset, .unset, .unset, .unset, .unset, .unset] []))) (fun t k => ?_) ?_
      · by_cases hj2 : (p2 &&& (3 : Int32)) = (1 : Int32)
        · try simp only [if_pos hj2] at k
          refine own_st (A' := (s₁.setTop (mkF m 21 #[.val (.long q1), .second, .val (.int p2), .unset, .unset, .val (.int (p2 &&& (3 : Int32))), .unset, .unset, .unset, .unset, .unset, .unset, .unset] []))) (fun t k => XS.icmpNo X0.here hx rfl (hb hby at_18) rfl (XT.ii_ne_f hj2) k) ?_
          refine own_st (A' := (s₁.setTop (mkF m 24 #[.val (.long q1), .second, .val (.int p2), .unset, .unset, .val (.int (p2 &&& (3 : Int32))), .unset, .unset, .unset, .unset, .unset, .unset, .unset] [(.long (9223372036854 : Int64))]))) (fun t k => X0.ldc2Long hx hown (mvT hZ (hw _ (List.mem_of_getElem? (i := 13) rfl))) (g := (mkF m 21 #[.val (.long q1), .second, .val (.int p2), .unset, .unset, .val (.int (p2 &&& (3 : Int32))), .unset, .unset, .unset, .unset, .unset, .unset, .unset] [])) rfl (hb hby at_21) _ k) ?_
          refine own_st (A' := (s₁.setTop (mkF m 25 #[.val (.long q1), .second, .val (.int p2), .unset, .unset, .val (.int (p2 &&& (3 : Int32))), .unset, .unset, .unset, .unset, .unset, .unset, .unset] [(.long q1), (.long (9223372036854 : Int64))]))) (fun t k => XS.lloadN X0.here hx rfl (hb hby at_24) rfl k) ?_
          refine own_st (A' := (s₁.setTop (mkF m 28 #[.val (.long q1), .second, .val (.int p2), .unset, .unset, .val (.int (p2 &&& (3 : Int32))), .unset, .unset, .unset, .unset, .unset, .unset, .unset] [(.long (4 : Int64)), (.long q1), (.long (9223372036854 : Int64))]))) (fun t k => X0.ldc2Long hx hown (mvT hZ (hw _ (List.mem_of_getElem? (i := 1) rfl))) (g := (mkF m 25 #[.val (.long q1), .second, .val (.int p2), .unset, .unset, .val (.int (p2 &&& (3 : Int32))), .unset, .unset, .unset, .unset, .unset, .unset, .unset] [(.long q1), (.long (9223372036854 : Int64))])) rfl (hb hby at_25) _ k) ?_
          refine own_st (A' := (s₁.setTop (mkF m 29 #[.val (.long q1), .second, .val (.int p2), .unset, .unset, .val (.int (p2 &&& (3 : Int32))), .unset, .unset, .unset, .unset, .unset, .unset, .unset] [(.long (q1 % (4 : Int64))), (.long (9223372036854 : Int64))]))) (fun t k => XS.lrem X0.here hx rfl (hb hby at_28) rfl (by decide) (by rw [lrem_mod]; exact k)) ?_
          refine own_st (A' := (s₁.setTop (mkF m 30 #[.val (.long q1), .second, .val (.int p2), .unset, .unset, .val (.int (p2 &&& (3 : Int32))), .unset, .unset, .unset, .unset, .unset, .unset, .unset] [(.long ((9223372036854 : Int64) + (q1 % (4 : Int64))))]))) (fun t k => XS.ladd X0.here hx rfl (hb hby at_29) rfl k) ?_
          refine own_st (A' := (s₁.setTop (mkF m 31 #[.val (.long q1), .second, .val (.int p2), .val (.long ((9223372036854 : Int64) + (q1 % (4 : Int64)))), .second, .val (.int (p2 &&& (3 : Int32))), .unset, .unset, .unset, .unset, .unset, .unset, .unset] []))) (fun t k => XS.lstoreN X0.here hx rfl (hb hby at_30) rfl (l' := #[.val (.long q1), .second, .val (.int p2), .val (.long ((9223372036854 : Int64) + (q1 % (4 : Int64)))), .second, .val (.int (p2 &&& (3 : Int32))), .unset, .unset, .unset, .unset, .unset, .unset, .unset]) rfl k) ?_
          refine own_st (A' := (s₁.setTop (mkF m 59 #[.val (.long q1), .second, .val (.int p2), .val (.long ((9223372036854 : Int64) + (q1 % (4 : Int64)))), .second, .val (.int (p2 &&& (3 : Int32))), .unset, .unset, .unset, .unset, .unset, .unset, .unset] []))) (fun t k => XS.goto X0.here hx rfl (pc0 := 31) (pc' := 59) rfl (hb hby at_31) (by decide) (by decide) k) ?_
          exact k
        · try simp only [if_neg hj2] at k
          refine own_st (A' := (s₁.setTop (mkF m 34 #[.val (.long q1), .second, .val (.int p2), .unset, .unset, .val (.int (p2 &&& (3 : Int32))), .unset, .unset, .unset, .unset, .unset, .unset, .unset] []))) (fun t k => XS.icmpYes X0.here hx rfl (pc0 := 18) (pc' := 34) rfl (hb hby at_18) rfl (XT.ii_ne_t hj2) (by decide) (by decide) k) ?_
          refine own_st (A' := (s₁.setTop (mkF m 36 #[.val (.long q1), .second, .val (.int p2), .unset, .unset, .val (.int (p2 &&& (3 : Int32))), .unset, .unset, .unset, .unset, .unset, .unset, .unset] [(.int (p2 &&& (3 : Int32)))]))) (fun t k => XS.iload X0.here hx rfl (hb hby at_34) rfl k) ?_
          refine own_st (A' := (s₁.setTop (mkF m 37 #[.val (.long q1), .second, .val (.int p2), .unset, .unset, .val (.int (p2 &&& (3 : Int32))), .unset, .unset, .unset, .unset, .unset, .unset, .unset] [(.int (2 : Int32)), (.int (p2 &&& (3 : Int32)))]))) (fun t k => XS.iconst X0.here hx rfl (hb hby at_36) k) ?_
          refine own_st (A' := (s₁.setTop (mkF m 59 #[.val (.long q1), .second, .val (.int p2), .val (.long (if (p2 &&& (3 : Int32)) = (2 : Int32) then ((-9223372036854 : Int64) + (q1 % (4 : Int64))) else (q1 % (100 : Int64)))), .second, .val (.int (p2 &&& (3 : Int32))), .unset, .unset, .unset, .unset, .unset, .unset, .unset] []))) (fun t k => ?_) ?_
          · by_cases hj3 : (p2 &&& (3 : Int32)) = (2 : Int32)
            · try simp only [if_pos hj3] at k
              refine own_st (A' := (s₁.setTop (mkF m 40 #[.val (.long q1), .second, .val (.int p2), .unset, .unset, .val (.int (p2 &&& (3 : Int32))), .unset, .unset, .unset, .unset, .unset, .unset, .unset] []))) (fun t k => XS.icmpNo X0.here hx rfl (hb hby at_37) rfl (XT.ii_ne_f hj3) k) ?_
              refine own_st (A' := (s₁.setTop (mkF m 43 #[.val (.long q1), .second, .val (.int p2), .unset, .unset, .val (.int (p2 &&& (3 : Int32))), .unset, .unset, .unset, .unset, .unset, .unset, .unset] [(.long (-9223372036854 : Int64))]))) (fun t k => X0.ldc2Long hx hown (mvT hZ (hw _ (List.mem_of_getElem? (i := 0) rfl))) (g := (mkF m 40 #[.val (.long q1), .second, .val (.int p2), .unset, .unset, .val (.int (p2 &&& (3 : Int32))), .unset, .unset, .unset, .unset, .unset, .unset, .unset] [])) rfl (hb hby at_40) _ k) ?_
              refine own_st (A' := (s₁.setTop (mkF m 44 #[.val (.long q1), .second, .val (.int p2), .unset, .unset, .val (.int (p2 &&& (3 : Int32))), .unset, .unset, .unset, .unset, .unset, .unset, .unset] [(.long q1), (.long (-9223372036854 : Int64))]))) (fun t k => XS.lloadN X0.here hx rfl (hb hby at_43) rfl k) ?_
              refine own_st (A' := (s₁.setTop (mkF m 47 #[.val (.long q1), .second, .val (.int p2), .unset, .unset, .val (.int (p2 &&& (3 : Int32))), .unset, .unset, .unset, .unset, .unset, .unset, .unset] [(.long (4 : Int64)), (.long q1), (.long (-9223372036854 : Int64))]))) (fun t k => X0.ldc2Long hx hown (mvT hZ (hw _ (List.mem_of_getElem? (i := 1) rfl))) (g := (mkF m 44 #[.val (.long q1), .second, .val (.int p2), .unset, .unset, .val (.int (p2 &&& (3 : Int32))), .unset, .unset, .unset, .unset, .unset, .unset, .unset] [(.long q1), (.long (-9223372036854 : Int64))])) rfl (hb hby at_44) _ k) ?_
              refine own_st (A' := (s₁.setTop (mkF m 48 #[.val (.long q1), .second, .val (.int p2), .unset, .unset, .val (.int (p2 &&& (3 : Int32))), .unset, .unset, .unset, .unset, .unset, .unset, .unset] [(.long (q1 % (4 : Int64))), (.long (-9223372036854 : Int64))]))) (fun t k => XS.lrem X0.here hx rfl (hb hby at_47) rfl (by decide) (by rw [lrem_mod]; exact k)) ?_
              refine own_st (A' := (s₁.setTop (mkF m 49 #[.val (.long q1), .second, .val (.int p2), .unset, .unset, .val (.int (p2 &&& (3 : Int32))), .unset, .unset, .unset, .unset, .unset, .unset, .unset] [(.long ((-9223372036854 : Int64) + (q1 % (4 : Int64))))]))) (fun t k => XS.ladd X0.here hx rfl (hb hby at_48) rfl k) ?_
              refine own_st (A' := (s₁.setTop (mkF m 50 #[.val (.long q1), .second, .val (.int p2), .val (.long ((-9223372036854 : Int64) + (q1 % (4 : Int64)))), .second, .val (.int (p2 &&& (3 : Int32))), .unset, .unset, .unset, .unset, .unset, .unset, .unset] []))) (fun t k => XS.lstoreN X0.here hx rfl (hb hby at_49) rfl (l' := #[.val (.long q1), .second, .val (.int p2), .val (.long ((-9223372036854 : Int64) + (q1 % (4 : Int64)))), .second, .val (.int (p2 &&& (3 : Int32))), .unset, .unset, .unset, .unset, .unset, .unset, .unset]) rfl k) ?_
              refine own_st (A' := (s₁.setTop (mkF m 59 #[.val (.long q1), .second, .val (.int p2), .val (.long ((-9223372036854 : Int64) + (q1 % (4 : Int64)))), .second, .val (.int (p2 &&& (3 : Int32))), .unset, .unset, .unset, .unset, .unset, .unset, .unset] []))) (fun t k => XS.goto X0.here hx rfl (pc0 := 50) (pc' := 59) rfl (hb hby at_50) (by decide) (by decide) k) ?_
              exact k
            · try simp only [if_neg hj3] at k
              refine own_st (A' := (s₁.setTop (mkF m 53 #[.val (.long q1), .second, .val (.int p2), .unset, .unset, .val (.int (p2 &&& (3 : Int32))), .unset, .unset, .unset, .unset, .unset, .unset, .unset] []))) (fun t k => XS.icmpYes X0.here hx rfl (pc0 := 37) (pc' := 53) rfl (hb hby at_37) rfl (XT.ii_ne_t hj3) (by decide) (by decide) k) ?_
              refine own_st (A' := (s₁.setTop (mkF m 54 #[.val (.long q1), .second, .val (.int p2), .unset, .unset, .val (.int (p2 &&& (3 : Int32))), .unset, .unset, .unset, .unset, .unset, .unset, .unset] [(.long q1)]))) (fun t k => XS.lloadN X0.here hx rfl (hb hby at_53) rfl k) ?_
              refine own_st (A' := (s₁.setTop (mkF m 57 #[.val (.long q1), .second, .val (.int p2), .unset, .unset, .val (.int (p2 &&& (3 : Int32))), .unset, .unset, .unset, .unset, .unset, .unset, .unset] [(.long (100 : Int64)), (.long q1)]))) (fun t k => X0.ldc2Long hx hown (mvT hZ (hw _ (List.mem_of_getElem? (i := 12) rfl))) (g := (mkF m 54 #[.val (.long q1), .second, .val (.int p2), .unset, .unset, .val (.int (p2 &&& (3 : Int32))), .unset, .unset, .unset, .unset, .unset, .unset, .unset] [(.long q1)])) rfl (hb hby at_54) _ k) ?_
              refine own_st (A' := (s₁.setTop (mkF m 58 #[.val (.long q1), .second, .val (.int p2), .unset, .unset, .val (.int (p2 &&& (3 : Int32))), .unset, .unset, .unset, .unset, .unset, .unset, .unset] [(.long (q1 % (100 : Int64)))]))) (fun t k => XS.lrem X0.here hx rfl (hb hby at_57) rfl (by decide) (by rw [lrem_mod]; exact k)) ?_
              refine own_st (A' := (s₁.setTop (mkF m 59 #[.val (.long q1), .second, .val (.int p2), .val (.long (q1 % (100 : Int64))), .second, .val (.int (p2 &&& (3 : Int32))), .unset, .unset, .unset, .unset, .unset, .unset, .unset] []))) (fun t k => XS.lstoreN X0.here hx rfl (hb hby at_58) rfl (l' := #[.val (.long q1), .second, .val (.int p2), .val (.long (q1 % (100 : Int64))), .second, .val (.int (p2 &&& (3 : Int32))), .unset, .unset, .unset, .unset, .unset, .unset, .unset]) rfl k) ?_
              exact k
          exact k
      exact k
  obtain ⟨mv, h_mv⟩ : ∃ z : Int64, z = (if (p2 &&& (3 : Int32)) = (0 : Int32) then q1 else (if (p2 &&& (3 : Int32)) = (1 : Int32) then ((9223372036854 : Int64) + (q1 % (4 : Int64))) else (if (p2 &&& (3 : Int32)) = (2 : Int32) then ((-9223372036854 : Int64) + (q1 % (4 : Int64))) else (q1 % (100 : Int64))))) := ⟨_, rfl⟩
  rw [← h_mv]
  refine own_fw (A' := (s₁.setTop (mkF m 60 #[.val (.long q1), .second, .val (.int p2), .val (.long mv), .second, .val (.int (p2 &&& (3 : Int32))), .unset, .unset, .unset, .unset, .unset, .unset, .unset] [(.long mv)]))) (fun t k => XS.lloadN X0.here hx rfl (hb hby at_59) rfl k) ?_
  obtain ⟨_, _, ⟨T4, L4, k4, n4⟩, -, X4, ⟨Lc4, hQ4, l4, y4, z4⟩, st4⟩ := Jvm.LawKit.callS X0 hx (y := (⟨"com/example/spindle/spindle/SystemClock", "millisToNanos", "(J)J"⟩ : MethodName)) hown (mvT hZ (hw _ (List.mem_of_getElem? (i := 2) rfl))) (mvT hZ (hw _ (List.mem_of_getElem? (i := 3) rfl))) (mvT hZ (hw _ (List.mem_of_getElem? (i := 4) rfl))) (mvT hZ (hw _ (List.mem_of_getElem? (i := 5) rfl))) (by decide) (backOf (W := 0) (rmNanos l Z a0 hw [] mv h0 n0 Z0 ) hZ (hw _ (List.mem_of_getElem? (i := 5) rfl)) (hw _ (List.mem_of_getElem? (i := 4) rfl)) (by decide) (by decide)) (g := (mkF m 60 #[.val (.long q1), .second, .val (.int p2), .val (.long mv), .second, .val (.int (p2 &&& (3 : Int32))), .unset, .unset, .unset, .unset, .unset, .unset, .unset] [(.long mv)])) rfl (by rw [hml]; rfl) (argsL := [(.long mv)]) (rest := []) (lenOf pd__J_J rfl) rfl (by show 2 * 0 + _ ≤ _; exact Nat.le_of_eq rfl) (hb hby at_60) (fun _ _ => ⟨rfl, e0, (by decide : 0 + 0 ≤ _), (by decide : 0 + 0 ≤ _)⟩)
  dsimp only [Pt.U, Pt.locs, Pt.cells, Pt.slots] at X4 l4 y4 z4 st4 hQ4
  subst l4 y4 z4
  obtain ⟨rfl, Nq4, e4⟩ := hQ4
  have Nf4 := Fr.app N0 Nq4
  refine own_fw (A' := (T4.setTop (mkF m 63 #[.val (.long q1), .second, .val (.int p2), .val (.long mv), .second, .val (.int (p2 &&& (3 : Int32))), .unset, .unset, .unset, .unset, .unset, .unset, .unset] [(.long (own_mn mv))]))) (fun t k => st4 _ k) ?_
  refine own_fw (A' := (T4.setTop (mkF m 65 #[.val (.long q1), .second, .val (.int p2), .val (.long mv), .second, .val (.int (p2 &&& (3 : Int32))), .val (.long (own_mn mv)), .second, .unset, .unset, .unset, .unset, .unset] []))) (fun t k => XS.lstore X4.here hx rfl (hb hby at_63) rfl (l' := #[.val (.long q1), .second, .val (.int p2), .val (.long mv), .second, .val (.int (p2 &&& (3 : Int32))), .val (.long (own_mn mv)), .second, .unset, .unset, .unset, .unset, .unset]) rfl k) ?_
  refine own_fw (A' := (T4.setTop (mkF m 66 #[.val (.long q1), .second, .val (.int p2), .val (.long mv), .second, .val (.int (p2 &&& (3 : Int32))), .val (.long (own_mn mv)), .second, .unset, .unset, .unset, .unset, .unset] [(.long mv)]))) (fun t k => XS.lloadN X4.here hx rfl (hb hby at_65) rfl k) ?_
  refine own_fw (A' := (T4.setTop (mkF m 69 #[.val (.long q1), .second, .val (.int p2), .val (.long mv), .second, .val (.int (p2 &&& (3 : Int32))), .val (.long (own_mn mv)), .second, .unset, .unset, .unset, .unset, .unset] [(.long (1000000 : Int64)), (.long mv)]))) (fun t k => X4.ldc2Long hx hown (mvT hZ (hw _ (List.mem_of_getElem? (i := 9) rfl))) (g := (mkF m 66 #[.val (.long q1), .second, .val (.int p2), .val (.long mv), .second, .val (.int (p2 &&& (3 : Int32))), .val (.long (own_mn mv)), .second, .unset, .unset, .unset, .unset, .unset] [(.long mv)])) rfl (hb hby at_66) _ k) ?_
  refine own_fw (A' := (T4.setTop (mkF m 70 #[.val (.long q1), .second, .val (.int p2), .val (.long mv), .second, .val (.int (p2 &&& (3 : Int32))), .val (.long (own_mn mv)), .second, .unset, .unset, .unset, .unset, .unset] [(.long (mv * (1000000 : Int64)))]))) (fun t k => XS.lmul X4.here hx rfl (hb hby at_69) rfl k) ?_
  refine own_fw (A' := (T4.setTop (mkF m 72 #[.val (.long q1), .second, .val (.int p2), .val (.long mv), .second, .val (.int (p2 &&& (3 : Int32))), .val (.long (own_mn mv)), .second, .val (.long (mv * (1000000 : Int64))), .second, .unset, .unset, .unset] []))) (fun t k => XS.lstore X4.here hx rfl (hb hby at_70) rfl (l' := #[.val (.long q1), .second, .val (.int p2), .val (.long mv), .second, .val (.int (p2 &&& (3 : Int32))), .val (.long (own_mn mv)), .second, .val (.long (mv * (1000000 : Int64))), .second, .unset, .unset, .unset]) rfl k) ?_
  refine own_fw (A' := (T4.setTop (mkF m 74 #[.val (.long q1), .second, .val (.int p2), .val (.long mv), .second, .val (.int (p2 &&& (3 : Int32))), .val (.long (own_mn mv)), .second, .val (.long (mv * (1000000 : Int64))), .second, .unset, .unset, .unset] [(.long (mv * (1000000 : Int64)))]))) (fun t k => XS.lload X4.here hx rfl (hb hby at_72) rfl k) ?_
  refine own_fw (A' := (T4.setTop (mkF m 77 #[.val (.long q1), .second, .val (.int p2), .val (.long mv), .second, .val (.int (p2 &&& (3 : Int32))), .val (.long (own_mn mv)), .second, .val (.long (mv * (1000000 : Int64))), .second, .unset, .unset, .unset] [(.long (1000000 : Int64)), (.long (mv * (1000000 : Int64)))]))) (fun t k => X4.ldc2Long hx hown (mvT hZ (hw _ (List.mem_of_getElem? (i := 9) rfl))) (g := (mkF m 74 #[.val (.long q1), .second, .val (.int p2), .val (.long mv), .second, .val (.int (p2 &&& (3 : Int32))), .val (.long (own_mn mv)), .second, .val (.long (mv * (1000000 : Int64))), .second, .unset, .unset, .unset] [(.long (mv * (1000000 : Int64)))])) rfl (hb hby at_74) _ k) ?_
  refine own_fw (A' := (T4.setTop (mkF m 78 #[.val (.long q1), .second, .val (.int p2), .val (.long mv), .second, .val (.int (p2 &&& (3 : Int32))), .val (.long (own_mn mv)), .second, .val (.long (mv * (1000000 : Int64))), .second, .unset, .unset, .unset] [(.long ((mv * (1000000 : Int64)) / (1000000 : Int64)))]))) (fun t k => XS.ldiv X4.here hx rfl (hb hby at_77) rfl (by decide) k) ?_
  refine own_fw (A' := (T4.setTop (mkF m 79 #[.val (.long q1), .second, .val (.int p2), .val (.long mv), .second, .val (.int (p2 &&& (3 : Int32))), .val (.long (own_mn mv)), .second, .val (.long (mv * (1000000 : Int64))), .second, .unset, .unset, .unset] [(.long mv), (.long ((mv * (1000000 : Int64)) / (1000000 : Int64)))]))) (fun t k => XS.lloadN X4.here hx rfl (hb hby at_78) rfl k) ?_
  refine own_fw (A' := (T4.setTop (mkF m 80 #[.val (.long q1), .second, .val (.int p2), .val (.long mv), .second, .val (.int (p2 &&& (3 : Int32))), .val (.long (own_mn mv)), .second, .val (.long (mv * (1000000 : Int64))), .second, .unset, .unset, .unset] [(.int (XT.cmpL ((mv * (1000000 : Int64)) / (1000000 : Int64)) mv))]))) (fun t k => XT.lcmp X4.here hx rfl (hb hby at_79) rfl k) ?_
  by_cases hc5 : ((mv * (1000000 : Int64)) / (1000000 : Int64)) = mv
  · refine own_fw (A' := (T4.setTop (mkF m 83 #[.val (.long q1), .second, .val (.int p2), .val (.long mv), .second, .val (.int (p2 &&& (3 : Int32))), .val (.long (own_mn mv)), .second, .val (.long (mv * (1000000 : Int64))), .second, .unset, .unset, .unset] []))) (fun t k => XS.ifNo X4.here hx rfl (hb hby at_80) rfl (XT.ll_ne_f hc5) k) ?_
    refine own_fw (A' := (T4.setTop (mkF m 84 #[.val (.long q1), .second, .val (.int p2), .val (.long mv), .second, .val (.int (p2 &&& (3 : Int32))), .val (.long (own_mn mv)), .second, .val (.long (mv * (1000000 : Int64))), .second, .unset, .unset, .unset] [(.int (1 : Int32))]))) (fun t k => XS.iconst X4.here hx rfl (hb hby at_83) k) ?_
    refine own_fw (A' := (T4.setTop (mkF m 88 #[.val (.long q1), .second, .val (.int p2), .val (.long mv), .second, .val (.int (p2 &&& (3 : Int32))), .val (.long (own_mn mv)), .second, .val (.long (mv * (1000000 : Int64))), .second, .unset, .unset, .unset] [(.int (1 : Int32))]))) (fun t k => XS.goto X4.here hx rfl (pc0 := 84) (pc' := 88) rfl (hb hby at_84) (by decide) (by decide) k) ?_
    refine own_fw (A' := (T4.setTop (mkF m 90 #[.val (.long q1), .second, .val (.int p2), .val (.long mv), .second, .val (.int (p2 &&& (3 : Int32))), .val (.long (own_mn mv)), .second, .val (.long (mv * (1000000 : Int64))), .second, .val (.int (1 : Int32)), .unset, .unset] []))) (fun t k => XS.istore X4.here hx rfl (hb hby at_88) rfl (l' := #[.val (.long q1), .second, .val (.int p2), .val (.long mv), .second, .val (.int (p2 &&& (3 : Int32))), .val (.long (own_mn mv)), .second, .val (.long (mv * (1000000 : Int64))), .second, .val (.int (1 : Int32)), .unset, .unset]) rfl k) ?_
    refine own_fw (A' := (T4.setTop (mkF m 92 #[.val (.long q1), .second, .val (.int p2), .val (.long mv), .second, .val (.int (p2 &&& (3 : Int32))), .val (.long (own_mn mv)), .second, .val (.long (mv * (1000000 : Int64))), .second, .val (.int (1 : Int32)), .unset, .unset] [(.int (1 : Int32))]))) (fun t k => XS.iload X4.here hx rfl (hb hby at_90) rfl k) ?_
    refine own_fw (A' := (T4.setTop (mkF m 95 #[.val (.long q1), .second, .val (.int p2), .val (.long mv), .second, .val (.int (p2 &&& (3 : Int32))), .val (.long (own_mn mv)), .second, .val (.long (mv * (1000000 : Int64))), .second, .val (.int (1 : Int32)), .unset, .unset] []))) (fun t k => XS.ifNo X4.here hx rfl (hb hby at_92) rfl (XT.i0_eq_f (by decide)) k) ?_
    refine own_fw (A' := (T4.setTop (mkF m 97 #[.val (.long q1), .second, .val (.int p2), .val (.long mv), .second, .val (.int (p2 &&& (3 : Int32))), .val (.long (own_mn mv)), .second, .val (.long (mv * (1000000 : Int64))), .second, .val (.int (1 : Int32)), .unset, .unset] [(.long (mv * (1000000 : Int64)))]))) (fun t k => XS.lload X4.here hx rfl (hb hby at_95) rfl k) ?_
    refine own_fw (A' := (T4.setTop (mkF m 99 #[.val (.long q1), .second, .val (.int p2), .val (.long mv), .second, .val (.int (p2 &&& (3 : Int32))), .val (.long (own_mn mv)), .second, .val (.long (mv * (1000000 : Int64))), .second, .val (.int (1 : Int32)), .val (.long (mv * (1000000 : Int64))), .second] []))) (fun t k => XS.lstore X4.here hx rfl (hb hby at_97) rfl (l' := #[.val (.long q1), .second, .val (.int p2), .val (.long mv), .second, .val (.int (p2 &&& (3 : Int32))), .val (.long (own_mn mv)), .second, .val (.long (mv * (1000000 : Int64))), .second, .val (.int (1 : Int32)), .val (.long (mv * (1000000 : Int64))), .second]) rfl k) ?_
    refine own_fw (A' := (T4.setTop (mkF m 121 #[.val (.long q1), .second, .val (.int p2), .val (.long mv), .second, .val (.int (p2 &&& (3 : Int32))), .val (.long (own_mn mv)), .second, .val (.long (mv * (1000000 : Int64))), .second, .val (.int (1 : Int32)), .val (.long (mv * (1000000 : Int64))), .second] []))) (fun t k => XS.goto X4.here hx rfl (pc0 := 99) (pc' := 121) rfl (hb hby at_99) (by decide) (by decide) k) ?_
    refine own_fw (A' := (T4.setTop (mkF m 123 #[.val (.long q1), .second, .val (.int p2), .val (.long mv), .second, .val (.int (p2 &&& (3 : Int32))), .val (.long (own_mn mv)), .second, .val (.long (mv * (1000000 : Int64))), .second, .val (.int (1 : Int32)), .val (.long (mv * (1000000 : Int64))), .second] [(.long (own_mn mv))]))) (fun t k => XS.lload X4.here hx rfl (hb hby at_121) rfl k) ?_
    refine own_fw (A' := (T4.setTop (mkF m 125 #[.val (.long q1), .second, .val (.int p2), .val (.long mv), .second, .val (.int (p2 &&& (3 : Int32))), .val (.long (own_mn mv)), .second, .val (.long (mv * (1000000 : Int64))), .second, .val (.int (1 : Int32)), .val (.long (mv * (1000000 : Int64))), .second] [(.long (mv * (1000000 : Int64))), (.long (own_mn mv))]))) (fun t k => XS.lload X4.here hx rfl (hb hby at_123) rfl k) ?_
    refine own_fw (A' := (T4.setTop (mkF m 126 #[.val (.long q1), .second, .val (.int p2), .val (.long mv), .second, .val (.int (p2 &&& (3 : Int32))), .val (.long (own_mn mv)), .second, .val (.long (mv * (1000000 : Int64))), .second, .val (.int (1 : Int32)), .val (.long (mv * (1000000 : Int64))), .second] [(.int (XT.cmpL (own_mn mv) (mv * (1000000 : Int64))))]))) (fun t k => XT.lcmp X4.here hx rfl (hb hby at_125) rfl k) ?_
    refine own_fw (A' := (T4.setTop (mkF m 129 #[.val (.long q1), .second, .val (.int p2), .val (.long mv), .second, .val (.int (p2 &&& (3 : Int32))), .val (.long (own_mn mv)), .second, .val (.long (mv * (1000000 : Int64))), .second, .val (.int (1 : Int32)), .val (.long (mv * (1000000 : Int64))), .second] []))) (fun t k => XS.ifNo X4.here hx rfl (hb hby at_126) rfl (XT.ll_ne_f (own_l1 mv hc5)) k) ?_
    refine own_fw (A' := (T4.setTop (mkF m 130 #[.val (.long q1), .second, .val (.int p2), .val (.long mv), .second, .val (.int (p2 &&& (3 : Int32))), .val (.long (own_mn mv)), .second, .val (.long (mv * (1000000 : Int64))), .second, .val (.int (1 : Int32)), .val (.long (mv * (1000000 : Int64))), .second] [(.int (1 : Int32))]))) (fun t k => XS.iconst X4.here hx rfl (hb hby at_129) k) ?_
    refine own_fw (A' := (T4.setTop (mkF m 134 #[.val (.long q1), .second, .val (.int p2), .val (.long mv), .second, .val (.int (p2 &&& (3 : Int32))), .val (.long (own_mn mv)), .second, .val (.long (mv * (1000000 : Int64))), .second, .val (.int (1 : Int32)), .val (.long (mv * (1000000 : Int64))), .second] [(.int (1 : Int32))]))) (fun t k => XS.goto X4.here hx rfl (pc0 := 130) (pc' := 134) rfl (hb hby at_130) (by decide) (by decide) k) ?_
    obtain ⟨fs, hr, hrun, hended, hW, hsame⟩ := X4.leave (v := some (.int (1 : Int32))) (fun h => by rw [Bd.returns] at h; cases h)
    refine ⟨_, _, ?_, hrun, hended, _, _, rfl, ?_, ⟨_, rfl⟩, hW, hsame.mono (by decide) (by decide)⟩
    · exact retOut X4 hx Bd.returns rfl (Or.inl ⟨rfl, by simp, _, rfl⟩) (hb hby at_134) hr
    · show Q_rm0 Z q1 p2 h0 n0 _ T4.heap _
      rw [e4]
      exact ⟨rfl, Nf4⟩
  · refine own_fw (A' := (T4.setTop (mkF m 87 #[.val (.long q1), .second, .val (.int p2), .val (.long mv), .second, .val (.int (p2 &&& (3 : Int32))), .val (.long (own_mn mv)), .second, .val (.long (mv * (1000000 : Int64))), .second, .unset, .unset, .unset] []))) (fun t k => XS.ifYes X4.here hx rfl (pc0 := 80) (pc' := 87) rfl (hb hby at_80) rfl (XT.ll_ne_t hc5) (by decide) (by decide) k) ?_
    refine own_fw (A' := (T4.setTop (mkF m 88 #[.val (.long q1), .second, .val (.int p2), .val (.long mv), .second, .val (.int (p2 &&& (3 : Int32))), .val (.long (own_mn mv)), .second, .val (.long (mv * (1000000 : Int64))), .second, .unset, .unset, .unset] [(.int (0 : Int32))]))) (fun t k => XS.iconst X4.here hx rfl (hb hby at_87) k) ?_
    refine own_fw (A' := (T4.setTop (mkF m 90 #[.val (.long q1), .second, .val (.int p2), .val (.long mv), .second, .val (.int (p2 &&& (3 : Int32))), .val (.long (own_mn mv)), .second, .val (.long (mv * (1000000 : Int64))), .second, .val (.int (0 : Int32)), .unset, .unset] []))) (fun t k => XS.istore X4.here hx rfl (hb hby at_88) rfl (l' := #[.val (.long q1), .second, .val (.int p2), .val (.long mv), .second, .val (.int (p2 &&& (3 : Int32))), .val (.long (own_mn mv)), .second, .val (.long (mv * (1000000 : Int64))), .second, .val (.int (0 : Int32)), .unset, .unset]) rfl k) ?_
    refine own_fw (A' := (T4.setTop (mkF m 92 #[.val (.long q1), .second, .val (.int p2), .val (.long mv), .second, .val (.int (p2 &&& (3 : Int32))), .val (.long (own_mn mv)), .second, .val (.long (mv * (1000000 : Int64))), .second, .val (.int (0 : Int32)), .unset, .unset] [(.int (0 : Int32))]))) (fun t k => XS.iload X4.here hx rfl (hb hby at_90) rfl k) ?_
    refine own_fw (A' := (T4.setTop (mkF m 102 #[.val (.long q1), .second, .val (.int p2), .val (.long mv), .second, .val (.int (p2 &&& (3 : Int32))), .val (.long (own_mn mv)), .second, .val (.long (mv * (1000000 : Int64))), .second, .val (.int (0 : Int32)), .unset, .unset] []))) (fun t k => XS.ifYes X4.here hx rfl (pc0 := 92) (pc' := 102) rfl (hb hby at_92) rfl (XT.i0_eq_t rfl) (by decide) (by decide) k) ?_
    refine own_fw (A' := (T4.setTop (mkF m 103 #[.val (.long q1), .second, .val (.int p2), .val (.long mv), .second, .val (.int (p2 &&& (3 : Int32))), .val (.long (own_mn mv)), .second, .val (.long (mv * (1000000 : Int64))), .second, .val (.int (0 : Int32)), .unset, .unset] [(.long mv)]))) (fun t k => XS.lloadN X4.here hx rfl (hb hby at_102) rfl k) ?_
    refine own_fw (A' := (T4.setTop (mkF m 104 #[.val (.long q1), .second, .val (.int p2), .val (.long mv), .second, .val (.int (p2 &&& (3 : Int32))), .val (.long (own_mn mv)), .second, .val (.long (mv * (1000000 : Int64))), .second, .val (.int (0 : Int32)), .unset, .unset] [(.long (0 : Int64)), (.long mv)]))) (fun t k => XS.lconst X4.here hx rfl (hb hby at_103) k) ?_
    refine own_fw (A' := (T4.setTop (mkF m 105 #[.val (.long q1), .second, .val (.int p2), .val (.long mv), .second, .val (.int (p2 &&& (3 : Int32))), .val (.long (own_mn mv)), .second, .val (.long (mv * (1000000 : Int64))), .second, .val (.int (0 : Int32)), .unset, .unset] [(.int (XT.cmpL mv (0 : Int64)))]))) (fun t k => XT.lcmp X4.here hx rfl (hb hby at_104) rfl k) ?_
    by_cases hc6 : (0 : Int64) < mv
    · refine own_fw (A' := (T4.setTop (mkF m 108 #[.val (.long q1), .second, .val (.int p2), .val (.long mv), .second, .val (.int (p2 &&& (3 : Int32))), .val (.long (own_mn mv)), .second, .val (.long (mv * (1000000 : Int64))), .second, .val (.int (0 : Int32)), .unset, .unset] []))) (fun t k => XS.ifNo X4.here hx rfl (hb hby at_105) rfl (XT.ll_le_f hc6) k) ?_
      refine own_fw (A' := (T4.setTop (mkF m 111 #[.val (.long q1), .second, .val (.int p2), .val (.long mv), .second, .val (.int (p2 &&& (3 : Int32))), .val (.long (own_mn mv)), .second, .val (.long (mv * (1000000 : Int64))), .second, .val (.int (0 : Int32)), .unset, .unset] [(.long (9223372036854775807 : Int64))]))) (fun t k => X4.ldc2Long hx hown (mvT hZ (hw _ (List.mem_of_getElem? (i := 15) rfl))) (g := (mkF m 108 #[.val (.long q1), .second, .val (.int p2), .val (.long mv), .second, .val (.int (p2 &&& (3 : Int32))), .val (.long (own_mn mv)), .second, .val (.long (mv * (1000000 : Int64))), .second, .val (.int (0 : Int32)), .unset, .unset] [])) rfl (hb hby at_108) _ k) ?_
      refine own_fw (A' := (T4.setTop (mkF m 113 #[.val (.long q1), .second, .val (.int p2), .val (.long mv), .second, .val (.int (p2 &&& (3 : Int32))), .val (.long (own_mn mv)), .second, .val (.long (mv * (1000000 : Int64))), .second, .val (.int (0 : Int32)), .val (.long (9223372036854775807 : Int64)), .second] []))) (fun t k => XS.lstore X4.here hx rfl (hb hby at_111) rfl (l' := #[.val (.long q1), .second, .val (.int p2), .val (.long mv), .second, .val (.int (p2 &&& (3 : Int32))), .val (.long (own_mn mv)), .second, .val (.long (mv * (1000000 : Int64))), .second, .val (.int (0 : Int32)), .val (.long (9223372036854775807 : Int64)), .second]) rfl k) ?_
      refine own_fw (A' := (T4.setTop (mkF m 121 #[.val (.long q1), .second, .val (.int p2), .val (.long mv), .second, .val (.int (p2 &&& (3 : Int32))), .val (.long (own_mn mv)), .second, .val (.long (mv * (1000000 : Int64))), .second, .val (.int (0 : Int32)), .val (.long (9223372036854775807 : Int64)), .second] []))) (fun t k => XS.goto X4.here hx rfl (pc0 := 113) (pc' := 121) rfl (hb hby at_113) (by decide) (by decide) k) ?_
      refine own_fw (A' := (T4.setTop (mkF m 123 #[.val (.long q1), .second, .val (.int p2), .val (.long mv), .second, .val (.int (p2 &&& (3 : Int32))), .val (.long (own_mn mv)), .second, .val (.long (mv * (1000000 : Int64))), .second, .val (.int (0 : Int32)), .val (.long (9223372036854775807 : Int64)), .second] [(.long (own_mn mv))]))) (fun t k => XS.lload X4.here hx rfl (hb hby at_121) rfl k) ?_
      refine own_fw (A' := (T4.setTop (mkF m 125 #[.val (.long q1), .second, .val (.int p2), .val (.long mv), .second, .val (.int (p2 &&& (3 : Int32))), .val (.long (own_mn mv)), .second, .val (.long (mv * (1000000 : Int64))), .second, .val (.int (0 : Int32)), .val (.long (9223372036854775807 : Int64)), .second] [(.long (9223372036854775807 : Int64)), (.long (own_mn mv))]))) (fun t k => XS.lload X4.here hx rfl (hb hby at_123) rfl k) ?_
      refine own_fw (A' := (T4.setTop (mkF m 126 #[.val (.long q1), .second, .val (.int p2), .val (.long mv), .second, .val (.int (p2 &&& (3 : Int32))), .val (.long (own_mn mv)), .second, .val (.long (mv * (1000000 : Int64))), .second, .val (.int (0 : Int32)), .val (.long (9223372036854775807 : Int64)), .second] [(.int (XT.cmpL (own_mn mv) (9223372036854775807 : Int64)))]))) (fun t k => XT.lcmp X4.here hx rfl (hb hby at_125) rfl k) ?_
      refine own_fw (A' := (T4.setTop (mkF m 129 #[.val (.long q1), .second, .val (.int p2), .val (.long mv), .second, .val (.int (p2 &&& (3 : Int32))), .val (.long (own_mn mv)), .second, .val (.long (mv * (1000000 : Int64))), .second, .val (.int (0 : Int32)), .val (.long (9223372036854775807 : Int64)), .second] []))) (fun t k => XS.ifNo X4.here hx rfl (hb hby at_126) rfl (XT.ll_ne_f (own_l2 mv hc5 hc6)) k) ?_
      refine own_fw (A' := (T4.setTop (mkF m 130 #[.val (.long q1), .second, .val (.int p2), .val (.long mv), .second, .val (.int (p2 &&& (3 : Int32))), .val (.long (own_mn mv)), .second, .val (.long (mv * (1000000 : Int64))), .second, .val (.int (0 : Int32)), .val (.long (9223372036854775807 : Int64)), .second] [(.int (1 : Int32))]))) (fun t k => XS.iconst X4.here hx rfl (hb hby at_129) k) ?_
      refine own_fw (A' := (T4.setTop (mkF m 134 #[.val (.long q1), .second, .val (.int p2), .val (.long mv), .second, .val (.int (p2 &&& (3 : Int32))), .val (.long (own_mn mv)), .second, .val (.long (mv * (1000000 : Int64))), .second, .val (.int (0 : Int32)), .val (.long (9223372036854775807 : Int64)), .second] [(.int (1 : Int32))]))) (fun t k => XS.goto X4.here hx rfl (pc0 := 130) (pc' := 134) rfl (hb hby at_130) (by decide) (by decide) k) ?_
      obtain ⟨fs, hr, hrun, hended, hW, hsame⟩ := X4.leave (v := some (.int (1 : Int32))) (fun h => by rw [Bd.returns] at h; cases h)
      refine ⟨_, _, ?_, hrun, hended, _, _, rfl, ?_, ⟨_, rfl⟩, hW, hsame.mono (by decide) (by decide)⟩
      · exact retOut X4 hx Bd.returns rfl (Or.inl ⟨rfl, by simp, _, rfl⟩) (hb hby at_134) hr
      · show Q_rm0 Z q1 p2 h0 n0 _ T4.heap _
        rw [e4]
        exact ⟨rfl, Nf4⟩
    · refine own_fw (A' := (T4.setTop (mkF m 116 #[.val (.long q1), .second, .val (.int p2), .val (.long mv), .second, .val (.int (p2 &&& (3 : Int32))), .val (.long (own_mn mv)), .second, .val (.long (mv * (1000000 : Int64))), .second, .val (.int (0 : Int32)), .unset, .unset] []))) (fun t k => XS.ifYes X4.here hx rfl (pc0 := 105) (pc' := 116) rfl (hb hby at_105) rfl (XT.ll_le_t hc6) (by decide) (by decide) k) ?_
      refine own_fw (A' := (T4.setTop (mkF m 119 #[.val (.long q1), .second, .val (.int p2), .val (.long mv), .second, .val (.int (p2 &&& (3 : Int32))), .val (.long (own_mn mv)), .second, .val (.long (mv * (1000000 : Int64))), .second, .val (.int (0 : Int32)), .unset, .unset] [(.long (-9223372036854775808 : Int64))]))) (fun t k => X4.ldc2Long hx hown (mvT hZ (hw _ (List.mem_of_getElem? (i := 11) rfl))) (g := (mkF m 116 #[.val (.long q1), .second, .val (.int p2), .val (.long mv), .second, .val (.int (p2 &&& (3 : Int32))), .val (.long (own_mn mv)), .second, .val (.long (mv * (1000000 : Int64))), .second, .val (.int (0 : Int32)), .unset, .unset] [])) rfl (hb hby at_116) _ k) ?_
      refine own_fw (A' := (T4.setTop (mkF m 121 #[.val (.long q1), .second, .val (.int p2), .val (.long mv), .second, .val (.int (p2 &&& (3 : Int32))), .val (.long (own_mn mv)), .second, .val (.long (mv * (1000000 : Int64))), .second, .val (.int (0 : Int32)), .val (.long (-9223372036854775808 : Int64)), .second] []))) (fun t k => XS.lstore X4.here hx rfl (hb hby at_119) rfl (l' := #[.val (.long q1), .second, .val (.int p2), .val (.long mv), .second, .val (.int (p2 &&& (3 : Int32))), .val (.long (own_mn mv)), .second, .val (.long (mv * (1000000 : Int64))), .second, .val (.int (0 : Int32)), .val (.long (-9223372036854775808 : Int64)), .second]) rfl k) ?_
      refine own_fw (A' := (T4.setTop (mkF m 123 #[.val (.long q1), .second, .val (.int p2), .val (.long mv), .second, .val (.int (p2 &&& (3 : Int32))), .val (.long (own_mn mv)), .second, .val (.long (mv * (1000000 : Int64))), .second, .val (.int (0 : Int32)), .val (.long (-9223372036854775808 : Int64)), .second] [(.long (own_mn mv))]))) (fun t k => XS.lload X4.here hx rfl (hb hby at_121) rfl k) ?_
      refine own_fw (A' := (T4.setTop (mkF m 125 #[.val (.long q1), .second, .val (.int p2), .val (.long mv), .second, .val (.int (p2 &&& (3 : Int32))), .val (.long (own_mn mv)), .second, .val (.long (mv * (1000000 : Int64))), .second, .val (.int (0 : Int32)), .val (.long (-9223372036854775808 : Int64)), .second] [(.long (-9223372036854775808 : Int64)), (.long (own_mn mv))]))) (fun t k => XS.lload X4.here hx rfl (hb hby at_123) rfl k) ?_
      refine own_fw (A' := (T4.setTop (mkF m 126 #[.val (.long q1), .second, .val (.int p2), .val (.long mv), .second, .val (.int (p2 &&& (3 : Int32))), .val (.long (own_mn mv)), .second, .val (.long (mv * (1000000 : Int64))), .second, .val (.int (0 : Int32)), .val (.long (-9223372036854775808 : Int64)), .second] [(.int (XT.cmpL (own_mn mv) (-9223372036854775808 : Int64)))]))) (fun t k => XT.lcmp X4.here hx rfl (hb hby at_125) rfl k) ?_
      refine own_fw (A' := (T4.setTop (mkF m 129 #[.val (.long q1), .second, .val (.int p2), .val (.long mv), .second, .val (.int (p2 &&& (3 : Int32))), .val (.long (own_mn mv)), .second, .val (.long (mv * (1000000 : Int64))), .second, .val (.int (0 : Int32)), .val (.long (-9223372036854775808 : Int64)), .second] []))) (fun t k => XS.ifNo X4.here hx rfl (hb hby at_126) rfl (XT.ll_ne_f (own_l3 mv hc5 hc6)) k) ?_
      refine own_fw (A' := (T4.setTop (mkF m 130 #[.val (.long q1), .second, .val (.int p2), .val (.long mv), .second, .val (.int (p2 &&& (3 : Int32))), .val (.long (own_mn mv)), .second, .val (.long (mv * (1000000 : Int64))), .second, .val (.int (0 : Int32)), .val (.long (-9223372036854775808 : Int64)), .second] [(.int (1 : Int32))]))) (fun t k => XS.iconst X4.here hx rfl (hb hby at_129) k) ?_
      refine own_fw (A' := (T4.setTop (mkF m 134 #[.val (.long q1), .second, .val (.int p2), .val (.long mv), .second, .val (.int (p2 &&& (3 : Int32))), .val (.long (own_mn mv)), .second, .val (.long (mv * (1000000 : Int64))), .second, .val (.int (0 : Int32)), .val (.long (-9223372036854775808 : Int64)), .second] [(.int (1 : Int32))]))) (fun t k => XS.goto X4.here hx rfl (pc0 := 130) (pc' := 134) rfl (hb hby at_130) (by decide) (by decide) k) ?_
      obtain ⟨fs, hr, hrun, hended, hW, hsame⟩ := X4.leave (v := some (.int (1 : Int32))) (fun h => by rw [Bd.returns] at h; cases h)
      refine ⟨_, _, ?_, hrun, hended, _, _, rfl, ?_, ⟨_, rfl⟩, hW, hsame.mono (by decide) (by decide)⟩
      · exact retOut X4 hx Bd.returns rfl (Or.inl ⟨rfl, by simp, _, rfl⟩) (hb hby at_134) hr
      · show Q_rm0 Z q1 p2 h0 n0 _ T4.heap _
        rw [e4]
        exact ⟨rfl, Nf4⟩
set_option maxRecDepth 65536 in
set_option maxHeartbeats 40000000 in
theorem comes_1 {Post : Tables → Env → Array Value → State → Outcome → State → Prop} (hpost : ∀ tb e args s v u, (limb_1_1.after args s (.returned v) u = true ∧ limb_1_2.after args s (.returned v) u = true ∧ True) → FrameEnd s (.returned v) u (Jvm.fieldLocs frame_1_writes args s ++ Jvm.arrayLocs frame_1_arrays args s ++ Jvm.staticLocs frame_1_statics s) 0 0 → Post tb e args s (.returned v) u) :
    ArmFor flags0 classFile x code maxLocals ret World_1 tables_1 room_1 Calls_1 rest_1 Pre_1 Post := by
  intro l hfl _ _ p e ha hc hk s m args below hf hA hF happ hP
  obtain ⟨hcalls, hrest, hpre⟩ := hP
  obtain ⟨-, -, -, hnamed, -, -, -, hat⟩ := (Spec.applies_iff hf).mp happ
  obtain ⟨hg, hn⟩ := and_e (Cond.before_iff.mp (show (Jvm.Cond.and given_1 narrow_1).before args s = true from hpre))
  obtain ⟨hcount, hg0⟩ := and_e hg
  obtain ⟨hv0, hg1⟩ := and_e hg0
  have hv1 := hg1
  obtain ⟨w0, w1, rfl⟩ : ∃ w0 w1 : Value, args = #[w0, w1] := by
    have hs : args.size = 2 := by simpa [Cond.value, given_1] using hcount
    obtain ⟨L⟩ := args
    match L, hs with
    | [w0, w1], _ => exact ⟨w0, w1, rfl⟩
  have hw := fun d (hd : d ∈ tables_1) => atoms_spec (ws := Jvm.Cond.code x code maxLocals ret :: tables_1) hat d (List.mem_cons_of_mem _ hd)
  have hfit : Fit s := fun {y c} hc i hi => by
    obtain ⟨ha, rfl⟩ := Array.getElem?_eq_some_iff.mp hc
    have q := List.all_eq_true.mp ((Array.all_eq_true_iff_forall_mem.mp hF) _ (Array.getElem_mem ha)) i (List.mem_range.mpr hi)
    simpa [Array.getElem?_eq_getElem hi] using q
  obtain ⟨i0, ei0⟩ := isL_v hv0
  obtain rfl : w0 = (.long i0) := Option.some.inj ei0
  obtain ⟨i1, ei1⟩ := is_v hv1
  obtain rfl : w1 = (.int i1) := Option.some.inj ei1
  obtain ⟨n, o, h1, h2, h3, _, L, rfl, ⟨rfl, N⟩, hq⟩ := rm0 l s _ hw tables_1 i0 i1 s.heap s.heap.size (Nat.le_refl _)  p e ha hc hk s m _ below hf ((Spec.applies_iff_loose hf).mp happ).1 ⟨rfl, State.Warmed39.refl s, rfl⟩ trivial
  refine ⟨n, _, h1, h2, h3, hpost _ _ _ _ _ _ ⟨Cond.after_iff.mpr rfl, Cond.after_iff.mpr (eq_i res_at (Term.int_eval (1)) rfl), trivial⟩ ⟨hq.1, hq.2.1, (hq.2.2.sift fun y hy => Or.inr (N y hy)).mono (by decide) (by decide)⟩⟩
theorem main_1_1 : Claimed_1_1 := comes_1 fun _ _ _ _ _ _ h hF => ⟨h.1, hF⟩
theorem main_1_2 : Claimed_1_2 := comes_1 fun _ _ _ _ _ _ h hF => ⟨h.2.1, hF⟩
end Jvm.Pilot.@@N@@
namespace Jvm.Pilot.@@N@@
open Jvm Jvm.ClassFile Sem Op Lib Jvm.Free Jvm.Stand Jvm.Pilot.@@N@@.Jvm.D
/-! MADE BY PROGRAM (witnessworld.py) out of the Statement's table words and the real class files: 7 classes; the members and pool entries that the words name. The judged class is class 1, her method 1. -/
namespace start1
open Jvm.ClassFile
def u (s : String) : CpInfo := .utf8 (stringToUtf16 s)
/-- a pool by its gaps: so many unusable entries, then the entry; so many at the end -/
def gap : Nat → List CpInfo → List CpInfo
  | 0, r => r
  | n + 1, r => .unusable :: gap n r
def poolList (es : List (Nat × CpInfo)) (last : Nat) : List CpInfo := es.foldr (fun e r => gap e.1 (e.2 :: r)) (gap last [])
def pool (es : List (Nat × CpInfo)) (last : Nat) : Array CpInfo := ⟨poolList es last⟩
def fileOf (pool : Array CpInfo) (this : Nat) (attrs : Array Attribute := #[]) (ms : Array MethodInfo := #[]) (fl : Nat := 33) (sup : Nat := 0) (ifs : Array Nat := #[]) (fds : Array FieldInfo := #[]) : ClassFile where
  minorVersion := 0
  majorVersion := 65
  constantPool := pool
  accessFlags := fl
  thisClass := this
  superClass := sup
  interfaces := ifs
  fields := fds
  methods := ms
  attributes := attrs
def plain (name : String) (sup : Option ClassId) : Class where
  name := name
  kind := .ordinary
  loader := none
  accessFlags := 33
  super := sup
  interfaces := #[]
  cf := none
  fields := #[]
  methods := #[]
  instanceTypes := #[]
  staticTypes := #[]
  resolved := #[]
  callSites := []
  init := .initialized
  statics := none
  mirror := none

def pool0 : Array CpInfo := pool [(5, u "<init>"), (0, u "()V"), (1, .class_ 10), (1, u "java/lang/Object")] 113

def k0m0 : Method := { name := "<init>", desc := "()V", sig := { parameters := [], returnType := none }, accessFlags := 1, code := none }
/-- java/lang/Object -/
def k0 : Class := { plain "java/lang/Object" none with
  accessFlags := 33
  interfaces := #[]
  cf := some (fileOf pool0 8 #[] #[{ accessFlags := 1, nameIndex := 5, descriptorIndex := 6, attributes := #[] }] 33 0 #[] #[])
  fields := #[]
  methods := #[k0m0]
  instanceTypes := #[]
  staticTypes := #[]
  resolved := Array.replicate 124 none
  statics := none }

def pool1 : Array CpInfo := pool [(2, .class_ 4), (1, u "java/lang/Object"), (0, u "<init>"), (0, u "()V"), (0, .long 9223372036854), (1, .long 4), (1, .long 18446734850337514762), (1, .long 100), (1, .methodref 16 17), (0, .class_ 18), (0, .nameAndType 19 20), (0, u "com/example/spindle/spindle/SystemClock"), (0, u "millisToNanos"), (0, u "(J)J"), (0, .long 1000000), (3, .long 9223372036854775807), (1, .long 9223372036854775808), (1, .class_ 30), (0, u "com/example/spindle/spindle/SystemClockMillisToNanosPinLaw"), (2, u "law"), (0, u "(JI)Z")] 3

def k1m0 : Method := { name := "<init>", desc := "()V", sig := { parameters := [], returnType := none }, accessFlags := 1, code := none }
def k1c1 : Code := { maxStack := 6, maxLocals := 13, code := code, exceptionTable := #[], attributes := #[] }
def k1m1 : Method := { name := "law", desc := "(JI)Z", sig := { parameters := [.long, .int], returnType := some .boolean }, accessFlags := 9, code := some k1c1 }
/-- com/example/spindle/spindle/SystemClockMillisToNanosPinLaw -/
def k1 : Class := { plain "com/example/spindle/spindle/SystemClockMillisToNanosPinLaw" (some 0) with
  accessFlags := 49
  interfaces := #[]
  cf := some (fileOf pool1 29 #[] #[{ accessFlags := 1, nameIndex := 5, descriptorIndex := 6, attributes := #[] }, { accessFlags := 9, nameIndex := 33, descriptorIndex := 34, attributes := #[] }] 49 2 #[] #[])
  fields := #[]
  methods := #[k1m0, k1m1]
  instanceTypes := #[]
  staticTypes := #[]
  resolved := Array.replicate 38 none
  statics := none }

def pool2 : Array CpInfo := pool [(3, .class_ 4), (0, u "com/example/spindle/spindle/SystemClock"), (1, .class_ 8), (1, u "java/lang/Object"), (0, u "<init>"), (0, u "()V"), (4, .long 1000000), (8, u "ORIGIN_NANOS"), (0, u "J"), (8, u "millisToNanos"), (0, u "(J)J"), (3, .long 9223372036854), (1, .long 9223372036854775807), (1, .long 18446734850337514762), (1, .long 9223372036854775808), (1, u "NANOS_PER_MILLI"), (1, u "MAX_MILLIS")] 8

def k2m0 : Method := { name := "<init>", desc := "()V", sig := { parameters := [], returnType := none }, accessFlags := 2, code := none }
def k2c1 : Code := { maxStack := 4, maxLocals := 4, code := prog_9_method_5_code, exceptionTable := #[], attributes := #[] }
def k2m1 : Method := { name := "millisToNanos", desc := "(J)J", sig := { parameters := [.long], returnType := some .long }, accessFlags := 8, code := some k2c1 }
/-- com/example/spindle/spindle/SystemClock -/
def k2 : Class := { plain "com/example/spindle/spindle/SystemClock" (some 0) with
  accessFlags := 33
  interfaces := #[]
  cf := some (fileOf pool2 3 #[] #[{ accessFlags := 2, nameIndex := 9, descriptorIndex := 10, attributes := #[] }, { accessFlags := 8, nameIndex := 34, descriptorIndex := 35, attributes := #[] }] 33 6 #[] #[{ accessFlags := 24, nameIndex := 47, descriptorIndex := 25, attributes := #[] }, { accessFlags := 26, nameIndex := 49, descriptorIndex := 25, attributes := #[] }, { accessFlags := 26, nameIndex := 24, descriptorIndex := 25, attributes := #[] }])
  fields := #[{ name := "NANOS_PER_MILLI", type := .long, accessFlags := 24, slot := 0, constantValue := 0 }, { name := "MAX_MILLIS", type := .long, accessFlags := 26, slot := 1, constantValue := 0 }, { name := "ORIGIN_NANOS", type := .long, accessFlags := 26, slot := 2, constantValue := 0 }]
  methods := #[k2m0, k2m1]
  instanceTypes := #[]
  staticTypes := #[.long, .long, .long]
  resolved := Array.replicate 58 none
  statics := none }

def pool3 : Array CpInfo := pool [(1, u "java/lang/Cloneable"), (0, .class_ 1), (0, u "java/lang/Object"), (0, .class_ 3)] 3

/-- java/lang/Cloneable -/
def k3 : Class := { plain "java/lang/Cloneable" (some 0) with
  accessFlags := 1537
  interfaces := #[]
  cf := some (fileOf pool3 2 #[] #[] 1537 4 #[] #[])
  fields := #[]
  methods := #[]
  instanceTypes := #[]
  staticTypes := #[]
  resolved := Array.replicate 8 none
  statics := none }

def pool4 : Array CpInfo := pool [(1, u "java/io/Serializable"), (0, .class_ 1), (0, u "java/lang/Object"), (0, .class_ 3)] 3

/-- java/io/Serializable -/
def k4 : Class := { plain "java/io/Serializable" (some 0) with
  accessFlags := 1537
  interfaces := #[]
  cf := some (fileOf pool4 2 #[] #[] 1537 4 #[] #[])
  fields := #[]
  methods := #[]
  instanceTypes := #[]
  staticTypes := #[]
  resolved := Array.replicate 8 none
  statics := none }

/-- the primitive byte -/
def k5 : Class := { plain "byte" none with kind := .primitive 'B', accessFlags := 0x411 }
/-- [B -/
def k6 : Class := { plain "[B" (some 0) with kind := .array 5 .byte, interfaces := #[3, 4], accessFlags := 1041 }

def heap : Heap := #[]
def classes : Array Class := #[k0, k1, k2, k3, k4, k5, k6]
def interned : List (Array UInt16 × Addr) := []
def slotsUsed : Nat := 0
def theMethod : MethodId := ⟨1, 1⟩
def args0 : Array Value := #[.long 5, .int 300]
def aboutOver (below : List Frame) : State where
  vm := { classes := classes, interned := interned.toArray }
  heap := heap
  slotsUsed := slotsUsed
  threads := #[{ frames := .invoking theMethod args0 :: below }]
def below0 : List Frame := [.native { method := ⟨0, 0⟩, args := #[] }]
def about1 : State := aboutOver below0
def p0 : Program := .bare "" "" ""
def e0 : Env := launch0.env 0 0 0
theorem w_frames : about1.frames = Frame.invoking theMethod args0 :: below0 := rfl
set_option maxRecDepth 65536 in
theorem w_args : argsFit about1.vm theMethod args0 = true := by decide +kernel
set_option maxRecDepth 65536 in
theorem w_heap : heapFits about1 = true := by decide +kernel
set_option maxRecDepth 65536 in
theorem w_runnable : about1.curStatus? = some .runnable := by decide +kernel
set_option maxRecDepth 65536 in
theorem w_alone : about1.alone = true := by decide +kernel
set_option maxRecDepth 65536 in
theorem w_named : about1.methodNamed? x = some theMethod := by decide +kernel
set_option maxRecDepth 65536 in
theorem w_hears : about1.hears theMethod below0 = true := by decide +kernel
set_option maxRecDepth 65536 in
theorem w_ripe : about1.ripe theMethod args0 below0 = true := by decide +kernel
theorem w_running : about1.status = .running := rfl
set_option maxRecDepth 65536 in
theorem w_room : about1.hasRoom e0.platform room_1 = true :=
  launch0.hasRoom_least _ room_1 (by decide +kernel) (by decide +kernel) (by decide +kernel) (by decide +kernel) (by decide +kernel) (by decide +kernel)
theorem allAtoms_all (ts : List Jvm.Cond) (a : Array Jvm.Value) (st : Jvm.State) : (allAtoms ts).before a st = ts.all (fun c => c.before a st) := by
  induction ts with
  | nil => rfl
  | cons c t ih =>
    show (Jvm.Cond.and c (allAtoms t)).before a st = _
    rw [Jvm.Cond.before_and, ih, List.all_cons]
def words1 : List Jvm.Cond := Jvm.Cond.code x code maxLocals ret :: tables_1
/-- a 'code' word, met by the world's own term for the bytes: nothing is compared byte by byte -/
theorem code_word {y : MethodName} {bytes : ByteArray} {mx : Nat} {rt : Option FieldType} {a : Array Value} {s : State} {m : MethodId} {meth : Method} {c : Code} (h1 : s.methodNamed? y = some m) (h2 : s.vm.method? m = some meth) (h3 : meth.code = some c) (h4 : c.code = bytes)
    (h5 : (c.maxLocals == mx && c.exceptionTable.isEmpty && decide (c.maxStack ≤ mostOperands) && decide (meth.sig.returnType = rt) && !meth.locks && decide (parseMethodDescriptor y.desc = some meth.sig)) = true) : (Jvm.Cond.code y bytes mx rt).before a s = true := by
  simp only [Bool.and_eq_true, beq_iff_eq, Bool.not_eq_true', decide_eq_true_eq] at h5
  obtain ⟨⟨⟨⟨⟨g1, g2⟩, g3⟩, g4⟩, g5⟩, g6⟩ := h5
  simp [Cond.before, Cond.holds, Cond.value, h1, h2, h3, h4, g1, g2, g3, g4, g5, g6]
def isCode : Jvm.Cond → Bool
  | .code _ _ _ _ => true
  | _ => false
theorem all_split {L : List Jvm.Cond} {P : Jvm.Cond → Bool} (h1 : L.all (fun c => isCode c || P c) = true) (h2 : ∀ c ∈ L.filter isCode, P c = true) : L.all P = true := by
  refine List.all_eq_true.mpr fun c hc => ?_
  have h := List.all_eq_true.mp h1 c hc
  rcases Bool.eq_false_or_eq_true (isCode c) with hi | hi
  · exact h2 c (List.mem_filter.mpr ⟨hc, hi⟩)
  · simpa [hi] using h
set_option maxRecDepth 65536 in
theorem w_c0 : (Jvm.Cond.code x code maxLocals ret).before args0 about1 = true := code_word (m := ⟨1, 1⟩) (meth := k1m1) (c := k1c1) (by decide +kernel) rfl rfl rfl (by decide +kernel)
set_option maxRecDepth 65536 in
theorem w_c1 : (Jvm.Cond.code ({ cls := "com/example/spindle/spindle/SystemClock", name := "millisToNanos", desc := "(J)J" } : Jvm.MethodName) prog_9_method_5_code (4 : Nat) (Option.some Jvm.ClassFile.FieldType.long)).before args0 about1 = true := code_word (m := ⟨2, 1⟩) (meth := k2m1) (c := k2c1) (by decide +kernel) rfl rfl rfl (by decide +kernel)
def codes1 : List Jvm.Cond := [Jvm.Cond.code x code maxLocals ret, Jvm.Cond.code ({ cls := "com/example/spindle/spindle/SystemClock", name := "millisToNanos", desc := "(J)J" } : Jvm.MethodName) prog_9_method_5_code (4 : Nat) (Option.some Jvm.ClassFile.FieldType.long)]
set_option maxRecDepth 65536 in
theorem codes_eq : words1.filter isCode = codes1 := rfl
theorem w_codes : ∀ c ∈ words1.filter isCode, c.before args0 about1 = true := by
  rw [codes_eq]
  intro c hc
  simp only [codes1, List.mem_cons, List.not_mem_nil, or_false] at hc
  rcases hc with rfl | rfl
  · exact w_c0
  · exact w_c1
set_option maxRecDepth 65536 in
theorem w_t1 : words1.all (fun c => isCode c || c.before args0 about1) = true := by decide +kernel
theorem w_tables : (allAtoms (Jvm.Cond.code x code maxLocals ret :: tables_1)).before args0 about1 = true := by
  rw [allAtoms_all]
  show words1.all (fun c => c.before args0 about1) = true
  refine all_split ?_ w_codes
  rw [w_t1]
set_option maxRecDepth 65536 in
theorem w_case : (Jvm.Cond.and given_1 narrow_1).before args0 about1 = true := by decide +kernel
theorem w_applies : (headSpec (Jvm.Cond.code x code maxLocals ret :: tables_1) room_1).applies x e0.platform about1 = true :=
  (Spec.applies_iff w_frames).mpr ⟨w_running, w_runnable, w_alone, w_named, w_hears, w_ripe, w_room, w_tables⟩
theorem atStart : AtStart classFile x code maxLocals ret World_1 tables_1 room_1 Calls_1 rest_1 Pre_1 launch0 p0 e0 about1 theMethod args0 below0 :=
  ⟨lists_1, trivial, launch0.admits_env _ _ _, launch0.least_env, fairChoices_fair.cas, fairChoices_fair.clock, w_frames, w_args, w_heap, w_applies, trivial, trivial, w_case⟩
end start1
theorem witness_1 : WitnessClaimed_1 := ⟨start1.p0, start1.e0, start1.about1, start1.theMethod, start1.args0, start1.below0, start1.atStart⟩
end Jvm.Pilot.@@N@@
