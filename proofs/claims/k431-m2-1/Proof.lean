import JvmDerived
import JvmDerived.Pilot.@@N@@Statement
import JvmDerived.Pilot.@@N@@Code
set_option linter.unusedVariables false
set_option linter.unusedSimpArgs false
namespace Jvm.Pilot.@@N@@
open Jvm Jvm.ClassFile Sem Op Lib Jvm.Free Jvm.Stand Jvm.LawKit Jvm.RoadKit Bundle Jvm.Pilot.@@N@@.Jvm.D
/-! steps, taken forward -/
theorem own_fw {tb : Tables} {e : Env} {below : List Frame} {A A' : State} {P : State → Outcome → Prop} (h : ∀ t, Steps tb e below A' t → Steps tb e below A t) (g : ∃ U o, Steps tb e below A' U ∧ P U o) : ∃ U o, Steps tb e below A U ∧ P U o := by
  obtain ⟨U, o, s, r⟩ := g
  exact ⟨U, o, h U s, r⟩
theorem own_st {tb : Tables} {e : Env} {below : List Frame} {A A' t : State} (h : ∀ t, Steps tb e below A' t → Steps tb e below A t) (g : Steps tb e below A' t) : Steps tb e below A t := h t g
theorem own_plainE {Z : State} {h : Heap} {a : Addr} {C : String} (F : Exa Z h a C) : ∀ cell : Cell, h[a]? = some cell → cell.vm.isStatics = false := fun cell hc => by
  obtain ⟨c1, k1, h1, -, -, h4, -⟩ := F
  cases h1.symm.trans hc
  exact h4
theorem own_plainV {Z : State} {h : Heap} {a : Addr} {k : ClassId} {ty : FieldType} {z : Int32} {vs : List Value} {dv : Value} (F : Arv Z h a k ty z vs dv) : ∀ cell : Cell, h[a]? = some cell → cell.vm.isStatics = false := fun cell hc => by
  obtain ⟨c1, A, -⟩ := F
  cases A.1.symm.trans hc
  exact A.plain
theorem own_staKeep {Z : State} {h h' : Heap} {C n d : String} {v : Value} {ws : List Addr} (F : Sta Z h C n d v) (K : Keep h h' ws) (q : ∀ x ∈ ws, ∀ cell : Cell, h[x]? = some cell → cell.vm.isStatics = false) : Sta Z h' C n d v := by
  obtain ⟨cf, i, k, f, st, cell, h1, h2, h3, h4, h5, h6, h7⟩ := F
  exact ⟨cf, i, k, f, st, cell, h1, h2, h3, h4, K.2.1 st cell h5 (fun m => by rw [q st m cell h5] at h6; cases h6), h6, h7⟩
theorem own_insLt {Z : State} {h : Heap} {a : Addr} {C : String} {bo : Bool} (F : Ins Z h a C bo) : a < h.size := by
  obtain ⟨cell, cT, h1, -⟩ := F
  exact (Array.getElem?_eq_some_iff.mp h1).1
theorem own_insKeep {Z : State} {h h' : Heap} {a : Addr} {C : String} {bo : Bool} {ws : List Addr} (F : Ins Z h a C bo) (K : Keep h h' ws) : Ins Z h' a C bo := by
  obtain ⟨cell, cT, h1, h2, h3⟩ := F
  obtain ⟨c', e1, e2, e3, -⟩ := K.2.2 a cell h1
  exact ⟨c', cT, e1, h2, by rw [e2, e3]; exact h3⟩


def own_isL (p : Int32) : Int32 := if p < (65 : Int32) then (if p < (97 : Int32) then (0 : Int32) else if (122 : Int32) < p then (0 : Int32) else (1 : Int32)) else if (90 : Int32) < p then (if p < (97 : Int32) then (0 : Int32) else if (122 : Int32) < p then (0 : Int32) else (1 : Int32)) else (1 : Int32)
def own_ref (p : Int32) : Int32 := if (p ||| (32 : Int32)) < (97 : Int32) then (0 : Int32) else if (122 : Int32) < (p ||| (32 : Int32)) then (0 : Int32) else (1 : Int32)
theorem own_small : ∀ i : Fin 128, own_isL (Int32.ofNat i.val) = own_ref (Int32.ofNat i.val) := by decide +kernel
theorem own_same (p : Int32) : own_isL p = own_ref p := by
  have e65 : (65 : Int32).toInt = 65 := by decide
  have e97 : (97 : Int32).toInt = 97 := by decide
  have e90 : (90 : Int32).toInt = 90 := by decide
  have e122 : (122 : Int32).toInt = 122 := by decide
  have e32 : (32 : Int32).toInt = 32 := by decide
  by_cases hn : p.toInt < 0
  · have h1 := (c_orS p (32 : Int32)).2.1 hn
    have a1 : p < (65 : Int32) := by rw [Int32.lt_iff_toInt_lt]; omega
    have a2 : p < (97 : Int32) := by rw [Int32.lt_iff_toInt_lt]; omega
    have a3 : (p ||| (32 : Int32)) < (97 : Int32) := by rw [Int32.lt_iff_toInt_lt]; omega
    simp only [own_isL, own_ref, if_pos a1, if_pos a2, if_pos a3]
  · by_cases hb : 128 ≤ p.toInt
    · have h1 := (c_or0 p (32 : Int32) (by omega) (by omega)).1
      have a1 : ¬ p < (65 : Int32) := by rw [Int32.lt_iff_toInt_lt]; omega
      have a2 : (90 : Int32) < p := by rw [Int32.lt_iff_toInt_lt]; omega
      have a3 : ¬ p < (97 : Int32) := by rw [Int32.lt_iff_toInt_lt]; omega
      have a4 : (122 : Int32) < p := by rw [Int32.lt_iff_toInt_lt]; omega
      have a5 : ¬ (p ||| (32 : Int32)) < (97 : Int32) := by rw [Int32.lt_iff_toInt_lt]; omega
      have a6 : (122 : Int32) < (p ||| (32 : Int32)) := by rw [Int32.lt_iff_toInt_lt]; omega
      simp only [own_isL, own_ref, if_neg a1, if_pos a2, if_neg a3, if_pos a4, if_neg a5, if_pos a6]
    · obtain ⟨k, hk⟩ : ∃ k : Nat, p.toInt = k := ⟨p.toInt.toNat, by omega⟩
      have hp : p = Int32.ofNat k := Int32.toInt_inj.mp (by rw [hk, Int32.toInt_ofNat_small (by omega)])
      rw [hp]
      exact own_small ⟨k, by omega⟩

theorem pn_com_example_scopewright_scopewright_FhirNames : plainName "com/example/scopewright/scopewright/FhirNames" = true := by first | (simp [plainName, overriddenIn]; done) | decide +kernel
theorem d_prog_25_method_3_code_0 : decode prog_25_method_3_code 0 = .ok (.iload_n 0, 1) := by decide +kernel
theorem d_prog_25_method_3_code_1 : decode prog_25_method_3_code 1 = .ok (.bipush 65, 2) := by decide +kernel
theorem d_prog_25_method_3_code_3 : decode prog_25_method_3_code 3 = .ok (.if_icmp .lt 9, 3) := by decide +kernel
theorem d_prog_25_method_3_code_12 : decode prog_25_method_3_code 12 = .ok (.iload_n 0, 1) := by decide +kernel
theorem d_prog_25_method_3_code_13 : decode prog_25_method_3_code 13 = .ok (.bipush 97, 2) := by decide +kernel
theorem d_prog_25_method_3_code_15 : decode prog_25_method_3_code 15 = .ok (.if_icmp .lt 13, 3) := by decide +kernel
theorem d_prog_25_method_3_code_28 : decode prog_25_method_3_code 28 = .ok (.iconst 0, 1) := by decide +kernel
theorem d_prog_25_method_3_code_29 : decode prog_25_method_3_code 29 = .ok (.ireturn, 1) := by decide +kernel
theorem d_prog_25_method_3_code_18 : decode prog_25_method_3_code 18 = .ok (.iload_n 0, 1) := by decide +kernel
theorem d_prog_25_method_3_code_19 : decode prog_25_method_3_code 19 = .ok (.bipush 122, 2) := by decide +kernel
theorem d_prog_25_method_3_code_21 : decode prog_25_method_3_code 21 = .ok (.if_icmp .gt 7, 3) := by decide +kernel
theorem d_prog_25_method_3_code_24 : decode prog_25_method_3_code 24 = .ok (.iconst 1, 1) := by decide +kernel
theorem d_prog_25_method_3_code_25 : decode prog_25_method_3_code 25 = .ok (.goto 4, 3) := by decide +kernel
theorem d_prog_25_method_3_code_6 : decode prog_25_method_3_code 6 = .ok (.iload_n 0, 1) := by decide +kernel
theorem d_prog_25_method_3_code_7 : decode prog_25_method_3_code 7 = .ok (.bipush 90, 2) := by decide +kernel
theorem d_prog_25_method_3_code_9 : decode prog_25_method_3_code 9 = .ok (.if_icmp .le 15, 3) := by decide +kernel
theorem ef_rmIs (m : MethodId) (p1 : Int32) : entryFrame m #[(.int p1)] 1 = mkF m 0 #[.val (.int p1)] [] := by first | (simp [entryFrame, mkF, argsToLocals, Value.category]; done) | rfl
def Q_rmIs (Z : State) (p1 : Int32) (h0 : Heap) (n0 : Nat) (v : Option Value) (h : Heap) (L : List Loc) : Prop := v = some (.int (own_isL p1)) ∧ Fr n0 L ∧ h = h0
set_option maxRecDepth 65536 in
set_option maxHeartbeats 40000000 in
theorem rmIs (l : Launch) (Z : State) (a0 : Array Value) (hw : ∀ d ∈ tables_1, d.before a0 Z = true) (ws : List Jvm.Cond) (p1 : Int32) (h0 : Heap) (n0 : Nat) (Z0 : n0 ≤ h0.size)  :
    MetFree l (⟨"com/example/scopewright/scopewright/FhirNames", "isLetter", "(I)Z"⟩ : MethodName) (head1 (Jvm.Cond.code (⟨"com/example/scopewright/scopewright/FhirNames", "isLetter", "(I)Z"⟩ : MethodName) prog_25_method_3_code 1 (some .boolean) :: ws) ({ frames := 0, cells := 0, slots := 0, locals := 0 } : Room)) (fun a U => a = #[(.int p1)] ∧ Z.Warmed39 U.vm ∧ U.heap = h0) (fun _ _ _ _ _ => True) (fun _ U o U' => ∃ v L, o = .returned v ∧ Q_rmIs Z p1 h0 n0 v U'.heap L ∧ FrameEnd U o U' L ({ frames := 0, cells := 0, slots := 0, locals := 0 } : Room).cells ({ frames := 0, cells := 0, slots := 0, locals := 0 } : Room).slots) := by
  refine MetFree.of_bodySF (plainFor_of_name pn_com_example_scopewright_scopewright_FhirNames) hisR ?_
  intro p e s m args below meth c s₁ Bd hml0 hP hK
  obtain ⟨rfl, hZ, hh⟩ := hP
  have hx := Bd.exec
  have hby := Bd.bytes
  have hml : c.maxLocals = 1 := hml0
  have hown : s.vm.findClass "com/example/scopewright/scopewright/FhirNames" = some m.cls := findClass_of_methodNamed Bd.named
  have hnm := (name_of_methodNamed Bd.named Bd.method).1
  have X0 : Stand p l e ({ frames := 0, cells := 0, slots := 0, locals := 0 } : Room) s m #[(.int p1)] below meth c s₁ [] 0 0 := Stand.of_body Bd
  have e0 : s₁.heap = h0 := by rw [← hh, Bd.state]; rfl
  have N0 := Fr.nil n0
  refine own_fw (A' := (s₁.setTop (mkF m 0 #[.val (.int p1)] []))) (fun t k => castTop (ef_rmIs m p1) k) ?_
  refine own_fw (A' := (s₁.setTop (mkF m 1 #[.val (.int p1)] [(.int p1)]))) (fun t k => XS.iloadN X0.here hx rfl (hb hby d_prog_25_method_3_code_0) rfl k) ?_
  refine own_fw (A' := (s₁.setTop (mkF m 3 #[.val (.int p1)] [(.int (65 : Int32)), (.int p1)]))) (fun t k => XS.bipush X0.here hx rfl (hb hby d_prog_25_method_3_code_1) k) ?_
  by_cases hc1 : p1 < (65 : Int32)
  · refine own_fw (A' := (s₁.setTop (mkF m 12 #[.val (.int p1)] []))) (fun t k => XS.icmpYes X0.here hx rfl (pc0 := 3) (pc' := 12) rfl (hb hby d_prog_25_method_3_code_3) rfl (XT.ii_lt_t hc1) (by decide) (by decide) k) ?_
    refine own_fw (A' := (s₁.setTop (mkF m 13 #[.val (.int p1)] [(.int p1)]))) (fun t k => XS.iloadN X0.here hx rfl (hb hby d_prog_25_method_3_code_12) rfl k) ?_
    refine own_fw (A' := (s₁.setTop (mkF m 15 #[.val (.int p1)] [(.int (97 : Int32)), (.int p1)]))) (fun t k => XS.bipush X0.here hx rfl (hb hby d_prog_25_method_3_code_13) k) ?_
    by_cases hc2 : p1 < (97 : Int32)
    · refine own_fw (A' := (s₁.setTop (mkF m 28 #[.val (.int p1)] []))) (fun t k => XS.icmpYes X0.here hx rfl (pc0 := 15) (pc' := 28) rfl (hb hby d_prog_25_method_3_code_15) rfl (XT.ii_lt_t hc2) (by decide) (by decide) k) ?_
      refine own_fw (A' := (s₁.setTop (mkF m 29 #[.val (.int p1)] [(.int (0 : Int32))]))) (fun t k => XS.iconst X0.here hx rfl (hb hby d_prog_25_method_3_code_28) k) ?_
      obtain ⟨fs, hr, hrun, hended, hW, hsame⟩ := X0.leave (v := some (.int (0 : Int32))) (fun h => by rw [Bd.returns] at h; cases h)
      refine ⟨_, _, ?_, hrun, hended, _, _, rfl, ?_, ⟨_, rfl⟩, hW, hsame.mono (by decide) (by decide)⟩
      · exact retOut X0 hx Bd.returns rfl (Or.inl ⟨rfl, by simp, _, rfl⟩) (hb hby d_prog_25_method_3_code_29) hr
      · show Q_rmIs Z p1 h0 n0 _ s₁.heap _
        rw [e0]
        exact ⟨(by simp only [own_isL, if_pos hc1, if_pos hc2]), N0, rfl⟩
    · refine own_fw (A' := (s₁.setTop (mkF m 18 #[.val (.int p1)] []))) (fun t k => XS.icmpNo X0.here hx rfl (hb hby d_prog_25_method_3_code_15) rfl (XT.ii_lt_f hc2) k) ?_
      refine own_fw (A' := (s₁.setTop (mkF m 19 #[.val (.int p1)] [(.int p1)]))) (fun t k => XS.iloadN X0.here hx rfl (hb hby d_prog_25_method_3_code_18) rfl k) ?_
      refine own_fw (A' := (s₁.setTop (mkF m 21 #[.val (.int p1)] [(.int (122 : Int32)), (.int p1)]))) (fun t k => XS.bipush X0.here hx rfl (hb hby d_prog_25_method_3_code_19) k) ?_
      by_cases hc3 : (122 : Int32) < p1
      · refine own_fw (A' := (s₁.setTop (mkF m 28 #[.val (.int p1)] []))) (fun t k => XS.icmpYes X0.here hx rfl (pc0 := 21) (pc' := 28) rfl (hb hby d_prog_25_method_3_code_21) rfl (XT.ii_gt_t hc3) (by decide) (by decide) k) ?_
        refine own_fw (A' := (s₁.setTop (mkF m 29 #[.val (.int p1)] [(.int (0 : Int32))]))) (fun t k => XS.iconst X0.here hx rfl (hb hby d_prog_25_method_3_code_28) k) ?_
        obtain ⟨fs, hr, hrun, hended, hW, hsame⟩ := X0.leave (v := some (.int (0 : Int32))) (fun h => by rw [Bd.returns] at h; cases h)
        refine ⟨_, _, ?_, hrun, hended, _, _, rfl, ?_, ⟨_, rfl⟩, hW, hsame.mono (by decide) (by decide)⟩
        · exact retOut X0 hx Bd.returns rfl (Or.inl ⟨rfl, by simp, _, rfl⟩) (hb hby d_prog_25_method_3_code_29) hr
        · show Q_rmIs Z p1 h0 n0 _ s₁.heap _
          rw [e0]
          exact ⟨(by simp only [own_isL, if_pos hc1, if_neg hc2, if_pos hc3]), N0, rfl⟩
      · refine own_fw (A' := (s₁.setTop (mkF m 24 #[.val (.int p1)] []))) (fun t k => XS.icmpNo X0.here hx rfl (hb hby d_prog_25_method_3_code_21) rfl (XT.ii_gt_f hc3) k) ?_
        refine own_fw (A' := (s₁.setTop (mkF m 25 #[.val (.int p1)] [(.int (1 : Int32))]))) (fun t k => XS.iconst X0.here hx rfl (hb hby d_prog_25_method_3_code_24) k) ?_
        refine own_fw (A' := (s₁.setTop (mkF m 29 #[.val (.int p1)] [(.int (1 : Int32))]))) (fun t k => XS.goto X0.here hx rfl (pc0 := 25) (pc' := 29) rfl (hb hby d_prog_25_method_3_code_25) (by decide) (by decide) k) ?_
        obtain ⟨fs, hr, hrun, hended, hW, hsame⟩ := X0.leave (v := some (.int (1 : Int32))) (fun h => by rw [Bd.returns] at h; cases h)
        refine ⟨_, _, ?_, hrun, hended, _, _, rfl, ?_, ⟨_, rfl⟩, hW, hsame.mono (by decide) (by decide)⟩
        · exact retOut X0 hx Bd.returns rfl (Or.inl ⟨rfl, by simp, _, rfl⟩) (hb hby d_prog_25_method_3_code_29) hr
        · show Q_rmIs Z p1 h0 n0 _ s₁.heap _
          rw [e0]
          exact ⟨(by simp only [own_isL, if_pos hc1, if_neg hc2, if_neg hc3]), N0, rfl⟩
  · refine own_fw (A' := (s₁.setTop (mkF m 6 #[.val (.int p1)] []))) (fun t k => XS.icmpNo X0.here hx rfl (hb hby d_prog_25_method_3_code_3) rfl (XT.ii_lt_f hc1) k) ?_
    refine own_fw (A' := (s₁.setTop (mkF m 7 #[.val (.int p1)] [(.int p1)]))) (fun t k => XS.iloadN X0.here hx rfl (hb hby d_prog_25_method_3_code_6) rfl k) ?_
    refine own_fw (A' := (s₁.setTop (mkF m 9 #[.val (.int p1)] [(.int (90 : Int32)), (.int p1)]))) (fun t k => XS.bipush X0.here hx rfl (hb hby d_prog_25_method_3_code_7) k) ?_
    by_cases hc4 : (90 : Int32) < p1
    · refine own_fw (A' := (s₁.setTop (mkF m 12 #[.val (.int p1)] []))) (fun t k => XS.icmpNo X0.here hx rfl (hb hby d_prog_25_method_3_code_9) rfl (XT.ii_le_f hc4) k) ?_
      refine own_fw (A' := (s₁.setTop (mkF m 13 #[.val (.int p1)] [(.int p1)]))) (fun t k => XS.iloadN X0.here hx rfl (hb hby d_prog_25_method_3_code_12) rfl k) ?_
      refine own_fw (A' := (s₁.setTop (mkF m 15 #[.val (.int p1)] [(.int (97 : Int32)), (.int p1)]))) (fun t k => XS.bipush X0.here hx rfl (hb hby d_prog_25_method_3_code_13) k) ?_
      by_cases hc5 : p1 < (97 : Int32)
      · refine own_fw (A' := (s₁.setTop (mkF m 28 #[.val (.int p1)] []))) (fun t k => XS.icmpYes X0.here hx rfl (pc0 := 15) (pc' := 28) rfl (hb hby d_prog_25_method_3_code_15) rfl (XT.ii_lt_t hc5) (by decide) (by decide) k) ?_
        refine own_fw (A' := (s₁.setTop (mkF m 29 #[.val (.int p1)] [(.int (0 : Int32))]))) (fun t k => XS.iconst X0.here hx rfl (hb hby d_prog_25_method_3_code_28) k) ?_
        obtain ⟨fs, hr, hrun, hended, hW, hsame⟩ := X0.leave (v := some (.int (0 : Int32))) (fun h => by rw [Bd.returns] at h; cases h)
        refine ⟨_, _, ?_, hrun, hended, _, _, rfl, ?_, ⟨_, rfl⟩, hW, hsame.mono (by decide) (by decide)⟩
        · exact retOut X0 hx Bd.returns rfl (Or.inl ⟨rfl, by simp, _, rfl⟩) (hb hby d_prog_25_method_3_code_29) hr
        · show Q_rmIs Z p1 h0 n0 _ s₁.heap _
          rw [e0]
          exact ⟨(by simp only [own_isL, if_neg hc1, if_pos hc4, if_pos hc5]), N0, rfl⟩
      · refine own_fw (A' := (s₁.setTop (mkF m 18 #[.val (.int p1)] []))) (fun t k => XS.icmpNo X0.here hx rfl (hb hby d_prog_25_method_3_code_15) rfl (XT.ii_lt_f hc5) k) ?_
        refine own_fw (A' := (s₁.setTop (mkF m 19 #[.val (.int p1)] [(.int p1)]))) (fun t k => XS.iloadN X0.here hx rfl (hb hby d_prog_25_method_3_code_18) rfl k) ?_
        refine own_fw (A' := (s₁.setTop (mkF m 21 #[.val (.int p1)] [(.int (122 : Int32)), (.int p1)]))) (fun t k => XS.bipush X0.here hx rfl (hb hby d_prog_25_method_3_code_19) k) ?_
        by_cases hc6 : (122 : Int32) < p1
        · refine own_fw (A' := (s₁.setTop (mkF m 28 #[.val (.int p1)] []))) (fun t k => XS.icmpYes X0.here hx rfl (pc0 := 21) (pc' := 28) rfl (hb hby d_prog_25_method_3_code_21) rfl (XT.ii_gt_t hc6) (by decide) (by decide) k) ?_
          refine own_fw (A' := (s₁.setTop (mkF m 29 #[.val (.int p1)] [(.int (0 : Int32))]))) (fun t k => XS.iconst X0.here hx rfl (hb hby d_prog_25_method_3_code_28) k) ?_
          obtain ⟨fs, hr, hrun, hended, hW, hsame⟩ := X0.leave (v := some (.int (0 : Int32))) (fun h => by rw [Bd.returns] at h; cases h)
          refine ⟨_, _, ?_, hrun, hended, _, _, rfl, ?_, ⟨_, rfl⟩, hW, hsame.mono (by decide) (by decide)⟩
          · exact retOut X0 hx Bd.returns rfl (Or.inl ⟨rfl, by simp, _, rfl⟩) (hb hby d_prog_25_method_3_code_29) hr
          · show Q_rmIs Z p1 h0 n0 _ s₁.heap _
            rw [e0]
            exact ⟨(by simp only [own_isL, if_neg hc1, if_pos hc4, if_neg hc5, if_pos hc6]), N0, rfl⟩
        · refine own_fw (A' := (s₁.setTop (mkF m 24 #[.val (.int p1)] []))) (fun t k => XS.icmpNo X0.here hx rfl (hb hby d_prog_25_method_3_code_21) rfl (XT.ii_gt_f hc6) k) ?_
          refine own_fw (A' := (s₁.setTop (mkF m 25 #[.val (.int p1)] [(.int (1 : Int32))]))) (fun t k => XS.iconst X0.here hx rfl (hb hby d_prog_25_method_3_code_24) k) ?_
          refine own_fw (A' := (s₁.setTop (mkF m 29 #[.val (.int p1)] [(.int (1 : Int32))]))) (fun t k => XS.goto X0.here hx rfl (pc0 := 25) (pc' := 29) rfl (hb hby d_prog_25_method_3_code_25) (by decide) (by decide) k) ?_
          obtain ⟨fs, hr, hrun, hended, hW, hsame⟩ := X0.leave (v := some (.int (1 : Int32))) (fun h => by rw [Bd.returns] at h; cases h)
          refine ⟨_, _, ?_, hrun, hended, _, _, rfl, ?_, ⟨_, rfl⟩, hW, hsame.mono (by decide) (by decide)⟩
          · exact retOut X0 hx Bd.returns rfl (Or.inl ⟨rfl, by simp, _, rfl⟩) (hb hby d_prog_25_method_3_code_29) hr
          · show Q_rmIs Z p1 h0 n0 _ s₁.heap _
            rw [e0]
            exact ⟨(by simp only [own_isL, if_neg hc1, if_pos hc4, if_neg hc5, if_neg hc6]), N0, rfl⟩
    · refine own_fw (A' := (s₁.setTop (mkF m 24 #[.val (.int p1)] []))) (fun t k => XS.icmpYes X0.here hx rfl (pc0 := 9) (pc' := 24) rfl (hb hby d_prog_25_method_3_code_9) rfl (XT.ii_le_t hc4) (by decide) (by decide) k) ?_
      refine own_fw (A' := (s₁.setTop (mkF m 25 #[.val (.int p1)] [(.int (1 : Int32))]))) (fun t k => XS.iconst X0.here hx rfl (hb hby d_prog_25_method_3_code_24) k) ?_
      refine own_fw (A' := (s₁.setTop (mkF m 29 #[.val (.int p1)] [(.int (1 : Int32))]))) (fun t k => XS.goto X0.here hx rfl (pc0 := 25) (pc' := 29) rfl (hb hby d_prog_25_method_3_code_25) (by decide) (by decide) k) ?_
      obtain ⟨fs, hr, hrun, hended, hW, hsame⟩ := X0.leave (v := some (.int (1 : Int32))) (fun h => by rw [Bd.returns] at h; cases h)
      refine ⟨_, _, ?_, hrun, hended, _, _, rfl, ?_, ⟨_, rfl⟩, hW, hsame.mono (by decide) (by decide)⟩
      · exact retOut X0 hx Bd.returns rfl (Or.inl ⟨rfl, by simp, _, rfl⟩) (hb hby d_prog_25_method_3_code_29) hr
      · show Q_rmIs Z p1 h0 n0 _ s₁.heap _
        rw [e0]
        exact ⟨(by simp only [own_isL, if_neg hc1, if_neg hc4]), N0, rfl⟩
theorem pn_com_example_scopewright_scopewright_FhirNamesIsLetterPinLaw : plainName "com/example/scopewright/scopewright/FhirNamesIsLetterPinLaw" = true := by first | (simp [plainName, overriddenIn]; done) | decide +kernel
theorem d_method_2_code_0 : decode method_2_code 0 = .ok (.iload_n 0, 1) := by decide +kernel
theorem d_method_2_code_1 : decode method_2_code 1 = .ok (.bipush 32, 2) := by decide +kernel
theorem d_method_2_code_3 : decode method_2_code 3 = .ok (.ior, 1) := by decide +kernel
theorem d_method_2_code_4 : decode method_2_code 4 = .ok (.istore_n 1, 1) := by decide +kernel
theorem d_method_2_code_5 : decode method_2_code 5 = .ok (.iload_n 1, 1) := by decide +kernel
theorem d_method_2_code_6 : decode method_2_code 6 = .ok (.bipush 97, 2) := by decide +kernel
theorem d_method_2_code_8 : decode method_2_code 8 = .ok (.if_icmp .lt 13, 3) := by decide +kernel
theorem d_method_2_code_21 : decode method_2_code 21 = .ok (.iconst 0, 1) := by decide +kernel
theorem d_method_2_code_22 : decode method_2_code 22 = .ok (.ireturn, 1) := by decide +kernel
theorem d_method_2_code_11 : decode method_2_code 11 = .ok (.iload_n 1, 1) := by decide +kernel
theorem d_method_2_code_12 : decode method_2_code 12 = .ok (.bipush 122, 2) := by decide +kernel
theorem d_method_2_code_14 : decode method_2_code 14 = .ok (.if_icmp .gt 7, 3) := by decide +kernel
theorem d_method_2_code_17 : decode method_2_code 17 = .ok (.iconst 1, 1) := by decide +kernel
theorem d_method_2_code_18 : decode method_2_code 18 = .ok (.goto 4, 3) := by decide +kernel
theorem ef_rmRef (m : MethodId) (p1 : Int32) : entryFrame m #[(.int p1)] 2 = mkF m 0 #[.val (.int p1), .unset] [] := by first | (simp [entryFrame, mkF, argsToLocals, Value.category]; done) | rfl
def Q_rmRef (Z : State) (p1 : Int32) (h0 : Heap) (n0 : Nat) (v : Option Value) (h : Heap) (L : List Loc) : Prop := v = some (.int (own_ref p1)) ∧ Fr n0 L ∧ h = h0
set_option maxRecDepth 65536 in
set_option maxHeartbeats 40000000 in
theorem rmRef (l : Launch) (Z : State) (a0 : Array Value) (hw : ∀ d ∈ tables_1, d.before a0 Z = true) (ws : List Jvm.Cond) (p1 : Int32) (h0 : Heap) (n0 : Nat) (Z0 : n0 ≤ h0.size)  :
    MetFree l (⟨"com/example/scopewright/scopewright/FhirNamesIsLetterPinLaw", "reference", "(I)Z"⟩ : MethodName) (head1 (Jvm.Cond.code (⟨"com/example/scopewright/scopewright/FhirNamesIsLetterPinLaw", "reference", "(I)Z"⟩ : MethodName) method_2_code 2 (some .boolean) :: ws) ({ frames := 0, cells := 0, slots := 0, locals := 0 } : Room)) (fun a U => a = #[(.int p1)] ∧ Z.Warmed39 U.vm ∧ U.heap = h0) (fun _ _ _ _ _ => True) (fun _ U o U' => ∃ v L, o = .returned v ∧ Q_rmRef Z p1 h0 n0 v U'.heap L ∧ FrameEnd U o U' L ({ frames := 0, cells := 0, slots := 0, locals := 0 } : Room).cells ({ frames := 0, cells := 0, slots := 0, locals := 0 } : Room).slots) := by
  refine MetFree.of_bodySF (plainFor_of_name pn_com_example_scopewright_scopewright_FhirNamesIsLetterPinLaw) hisR ?_
  intro p e s m args below meth c s₁ Bd hml0 hP hK
  obtain ⟨rfl, hZ, hh⟩ := hP
  have hx := Bd.exec
  have hby := Bd.bytes
  have hml : c.maxLocals = 2 := hml0
  have hown : s.vm.findClass "com/example/scopewright/scopewright/FhirNamesIsLetterPinLaw" = some m.cls := findClass_of_methodNamed Bd.named
  have hnm := (name_of_methodNamed Bd.named Bd.method).1
  have X0 : Stand p l e ({ frames := 0, cells := 0, slots := 0, locals := 0 } : Room) s m #[(.int p1)] below meth c s₁ [] 0 0 := Stand.of_body Bd
  have e0 : s₁.heap = h0 := by rw [← hh, Bd.state]; rfl
  have N0 := Fr.nil n0
  refine own_fw (A' := (s₁.setTop (mkF m 0 #[.val (.int p1), .unset] []))) (fun t k => castTop (ef_rmRef m p1) k) ?_
  refine own_fw (A' := (s₁.setTop (mkF m 1 #[.val (.int p1), .unset] [(.int p1)]))) (fun t k => XS.iloadN X0.here hx rfl (hb hby d_method_2_code_0) rfl k) ?_
  refine own_fw (A' := (s₁.setTop (mkF m 3 #[.val (.int p1), .unset] [(.int (32 : Int32)), (.int p1)]))) (fun t k => XS.bipush X0.here hx rfl (hb hby d_method_2_code_1) k) ?_
  refine own_fw (A' := (s₁.setTop (mkF m 4 #[.val (.int p1), .unset] [(.int (p1 ||| (32 : Int32)))]))) (fun t k => XS.ior X0.here hx rfl (hb hby d_method_2_code_3) rfl k) ?_
  refine own_fw (A' := (s₁.setTop (mkF m 5 #[.val (.int p1), .val (.int (p1 ||| (32 : Int32)))] []))) (fun t k => XS.istoreN X0.here hx rfl (hb hby d_method_2_code_4) rfl (l' := #[.val (.int p1), .val (.int (p1 ||| (32 : Int32)))]) rfl k) ?_
  refine own_fw (A' := (s₁.setTop (mkF m 6 #[.val (.int p1), .val (.int (p1 ||| (32 : Int32)))] [(.int (p1 ||| (32 : Int32)))]))) (fun t k => XS.iloadN X0.here hx rfl (hb hby d_method_2_code_5) rfl k) ?_
  refine own_fw (A' := (s₁.setTop (mkF m 8 #[.val (.int p1), .val (.int (p1 ||| (32 : Int32)))] [(.int (97 : Int32)), (.int (p1 ||| (32 : Int32)))]))) (fun t k => XS.bipush X0.here hx rfl (hb hby d_method_2_code_6) k) ?_
  by_cases hc1 : (p1 ||| (32 : Int32)) < (97 : Int32)
  · refine own_fw (A' := (s₁.setTop (mkF m 21 #[.val (.int p1), .val (.int (p1 ||| (32 : Int32)))] []))) (fun t k => XS.icmpYes X0.here hx rfl (pc0 := 8) (pc' := 21) rfl (hb hby d_method_2_code_8) rfl (XT.ii_lt_t hc1) (by decide) (by decide) k) ?_
    refine own_fw (A' := (s₁.setTop (mkF m 22 #[.val (.int p1), .val (.int (p1 ||| (32 : Int32)))] [(.int (0 : Int32))]))) (fun t k => XS.iconst X0.here hx rfl (hb hby d_method_2_code_21) k) ?_
    obtain ⟨fs, hr, hrun, hended, hW, hsame⟩ := X0.leave (v := some (.int (0 : Int32))) (fun h => by rw [Bd.returns] at h; cases h)
    refine ⟨_, _, ?_, hrun, hended, _, _, rfl, ?_, ⟨_, rfl⟩, hW, hsame.mono (by decide) (by decide)⟩
    · exact retOut X0 hx Bd.returns rfl (Or.inl ⟨rfl, by simp, _, rfl⟩) (hb hby d_method_2_code_22) hr
    · show Q_rmRef Z p1 h0 n0 _ s₁.heap _
      rw [e0]
      exact ⟨(by simp only [own_ref, if_pos hc1]), N0, rfl⟩
  · refine own_fw (A' := (s₁.setTop (mkF m 11 #[.val (.int p1), .val (.int (p1 ||| (32 : Int32)))] []))) (fun t k => XS.icmpNo X0.here hx rfl (hb hby d_method_2_code_8) rfl (XT.ii_lt_f hc1) k) ?_
    refine own_fw (A' := (s₁.setTop (mkF m 12 #[.val (.int p1), .val (.int (p1 ||| (32 : Int32)))] [(.int (p1 ||| (32 : Int32)))]))) (fun t k => XS.iloadN X0.here hx rfl (hb hby d_method_2_code_11) rfl k) ?_
    refine own_fw (A' := (s₁.setTop (mkF m 14 #[.val (.int p1), .val (.int (p1 ||| (32 : Int32)))] [(.int (122 : Int32)), (.int (p1 ||| (32 : Int32)))]))) (fun t k => XS.bipush X0.here hx rfl (hb hby d_method_2_code_12) k) ?_
    by_cases hc2 : (122 : Int32) < (p1 ||| (32 : Int32))
    · refine own_fw (A' := (s₁.setTop (mkF m 21 #[.val (.int p1), .val (.int (p1 ||| (32 : Int32)))] []))) (fun t k => XS.icmpYes X0.here hx rfl (pc0 := 14) (pc' := 21) rfl (hb hby d_method_2_code_14) rfl (XT.ii_gt_t hc2) (by decide) (by decide) k) ?_
      refine own_fw (A' := (s₁.setTop (mkF m 22 #[.val (.int p1), .val (.int (p1 ||| (32 : Int32)))] [(.int (0 : Int32))]))) (fun t k => XS.iconst X0.here hx rfl (hb hby d_method_2_code_21) k) ?_
      obtain ⟨fs, hr, hrun, hended, hW, hsame⟩ := X0.leave (v := some (.int (0 : Int32))) (fun h => by rw [Bd.returns] at h; cases h)
      refine ⟨_, _, ?_, hrun, hended, _, _, rfl, ?_, ⟨_, rfl⟩, hW, hsame.mono (by decide) (by decide)⟩
      · exact retOut X0 hx Bd.returns rfl (Or.inl ⟨rfl, by simp, _, rfl⟩) (hb hby d_method_2_code_22) hr
      · show Q_rmRef Z p1 h0 n0 _ s₁.heap _
        rw [e0]
        exact ⟨(by simp only [own_ref, if_neg hc1, if_pos hc2]), N0, rfl⟩
    · refine own_fw (A' := (s₁.setTop (mkF m 17 #[.val (.int p1), .val (.int (p1 ||| (32 : Int32)))] []))) (fun t k => XS.icmpNo X0.here hx rfl (hb hby d_method_2_code_14) rfl (XT.ii_gt_f hc2) k) ?_
      refine own_fw (A' := (s₁.setTop (mkF m 18 #[.val (.int p1), .val (.int (p1 ||| (32 : Int32)))] [(.int (1 : Int32))]))) (fun t k => XS.iconst X0.here hx rfl (hb hby d_method_2_code_17) k) ?_
      refine own_fw (A' := (s₁.setTop (mkF m 22 #[.val (.int p1), .val (.int (p1 ||| (32 : Int32)))] [(.int (1 : Int32))]))) (fun t k => XS.goto X0.here hx rfl (pc0 := 18) (pc' := 22) rfl (hb hby d_method_2_code_18) (by decide) (by decide) k) ?_
      obtain ⟨fs, hr, hrun, hended, hW, hsame⟩ := X0.leave (v := some (.int (1 : Int32))) (fun h => by rw [Bd.returns] at h; cases h)
      refine ⟨_, _, ?_, hrun, hended, _, _, rfl, ?_, ⟨_, rfl⟩, hW, hsame.mono (by decide) (by decide)⟩
      · exact retOut X0 hx Bd.returns rfl (Or.inl ⟨rfl, by simp, _, rfl⟩) (hb hby d_method_2_code_22) hr
      · show Q_rmRef Z p1 h0 n0 _ s₁.heap _
        rw [e0]
        exact ⟨(by simp only [own_ref, if_neg hc1, if_neg hc2]), N0, rfl⟩
theorem pd__I_Z : parseMethodDescriptor "(I)Z" = some ⟨[.int], some .boolean⟩ := by decide +kernel
theorem ef_rm0 (m : MethodId) (p1 : Int32) (p2 : Int32) : entryFrame m #[(.int p1), (.int p2)] maxLocals = mkF m 0 #[.val (.int p1), .val (.int p2), .unset, .unset, .unset] [] := by first | (simp [entryFrame, mkF, argsToLocals, Value.category, maxLocals]; done) | rfl
def Q_rm0 (Z : State) (p1 : Int32) (p2 : Int32) (h0 : Heap) (n0 : Nat) (v : Option Value) (h : Heap) (L : List Loc) : Prop := v = some (.int (1 : Int32)) ∧ Fr n0 L
set_option maxRecDepth 65536 in
set_option maxHeartbeats 40000000 in
theorem rm0 (l : Launch) (Z : State) (a0 : Array Value) (hw : ∀ d ∈ tables_1, d.before a0 Z = true) (ws : List Jvm.Cond) (p1 : Int32) (p2 : Int32) (h0 : Heap) (n0 : Nat) (Z0 : n0 ≤ h0.size)  :
    MetFree l x (head1 (Jvm.Cond.code x code maxLocals ret :: ws) room_1) (fun a U => a = #[(.int p1), (.int p2)] ∧ Z.Warmed39 U.vm ∧ U.heap = h0) (fun _ _ _ _ _ => True) (fun _ U o U' => ∃ v L, o = .returned v ∧ Q_rm0 Z p1 p2 h0 n0 v U'.heap L ∧ FrameEnd U o U' L room_1.cells room_1.slots) := by
  refine MetFree.of_bodySF (plainFor_of_name pn_com_example_scopewright_scopewright_FhirNamesIsLetterPinLaw) hisR ?_
  intro p e s m args below meth c s₁ Bd hml0 hP hK
  obtain ⟨rfl, hZ, hh⟩ := hP
  have hx := Bd.exec
  have hby := Bd.bytes
  have hml : c.maxLocals = 5 := hml0
  have hown : s.vm.findClass "com/example/scopewright/scopewright/FhirNamesIsLetterPinLaw" = some m.cls := findClass_of_methodNamed Bd.named
  have hnm := (name_of_methodNamed Bd.named Bd.method).1
  have X0 : Stand p l e room_1 s m #[(.int p1), (.int p2)] below meth c s₁ [] 0 0 := Stand.of_body Bd
  have e0 : s₁.heap = h0 := by rw [← hh, Bd.state]; rfl
  have N0 := Fr.nil n0
  refine own_fw (A' := (s₁.setTop (mkF m 0 #[.val (.int p1), .val (.int p2), .unset, .unset, .unset] []))) (fun t k => castTop (ef_rm0 m p1 p2) k) ?_
  refine own_fw (A' := (s₁.setTop (mkF m 2 #[.val (.int p1), .val (.int p2), .unset, .unset, .unset] [(.int (64 : Int32))]))) (fun t k => XS.bipush X0.here hx rfl (hb hby at_0) k) ?_
  refine own_fw (A' := (s₁.setTop (mkF m 3 #[.val (.int p1), .val (.int p2), .unset, .unset, .unset] [(.int p2), (.int (64 : Int32))]))) (fun t k => XS.iloadN X0.here hx rfl (hb hby at_2) rfl k) ?_
  refine own_fw (A' := (s₁.setTop (mkF m 5 #[.val (.int p1), .val (.int p2), .unset, .unset, .unset] [(.int (63 : Int32)), (.int p2), (.int (64 : Int32))]))) (fun t k => XS.bipush X0.here hx rfl (hb hby at_3) k) ?_
  refine own_fw (A' := (s₁.setTop (mkF m 6 #[.val (.int p1), .val (.int p2), .unset, .unset, .unset] [(.int (p2 &&& (63 : Int32))), (.int (64 : Int32))]))) (fun t k => XS.iand X0.here hx rfl (hb hby at_5) rfl k) ?_
  refine own_fw (A' := (s₁.setTop (mkF m 7 #[.val (.int p1), .val (.int p2), .unset, .unset, .unset] [(.int ((64 : Int32) + (p2 &&& (63 : Int32))))]))) (fun t k => XS.iadd X0.here hx rfl (hb hby at_6) rfl k) ?_
  refine own_fw (A' := (s₁.setTop (mkF m 8 #[.val (.int p1), .val (.int p2), .val (.int ((64 : Int32) + (p2 &&& (63 : Int32)))), .unset, .unset] []))) (fun t k => XS.istoreN X0.here hx rfl (hb hby at_7) rfl (l' := #[.val (.int p1), .val (.int p2), .val (.int ((64 : Int32) + (p2 &&& (63 : Int32)))), .unset, .unset]) rfl k) ?_
  refine own_fw (A' := (s₁.setTop (mkF m 9 #[.val (.int p1), .val (.int p2), .val (.int ((64 : Int32) + (p2 &&& (63 : Int32)))), .unset, .unset] [(.int p1)]))) (fun t k => XS.iloadN X0.here hx rfl (hb hby at_8) rfl k) ?_
  obtain ⟨_, _, ⟨T1, L1, k1, n1⟩, -, X1, ⟨Lc1, hQ1, l1, y1, z1⟩, st1⟩ := Jvm.LawKit.callS X0 hx (y := (⟨"com/example/scopewright/scopewright/FhirNames", "isLetter", "(I)Z"⟩ : MethodName)) hown (mvT hZ (hw _ (List.mem_of_getElem? (i := 0) rfl))) (mvT hZ (hw _ (List.mem_of_getElem? (i := 1) rfl))) (mvT hZ (hw _ (List.mem_of_getElem? (i := 2) rfl))) (mvT hZ (hw _ (List.mem_of_getElem? (i := 3) rfl))) (by decide) (backOf (W := 0) (rmIs l Z a0 hw [] p1 h0 n0 Z0 ) hZ (hw _ (List.mem_of_getElem? (i := 3) rfl)) (hw _ (List.mem_of_getElem? (i := 2) rfl)) (by decide) (by decide)) (g := (mkF m 9 #[.val (.int p1), .val (.int p2), .val (.int ((64 : Int32) + (p2 &&& (63 : Int32)))), .unset, .unset] [(.int p1)])) rfl (by rw [hml]; rfl) (argsL := [(.int p1)]) (rest := []) (lenOf pd__I_Z rfl) rfl (by show 2 * 0 + _ ≤ _; exact Nat.le_of_eq rfl) (hb hby at_9) (fun _ _ => ⟨rfl, e0, (by decide : 0 + 0 ≤ _), (by decide : 0 + 0 ≤ _)⟩)
  dsimp only [Pt.U, Pt.locs, Pt.cells, Pt.slots] at X1 l1 y1 z1 st1 hQ1
  subst l1 y1 z1
  obtain ⟨rfl, Nq1, e1⟩ := hQ1
  have Nf1 := Fr.app N0 Nq1
  refine own_fw (A' := (T1.setTop (mkF m 12 #[.val (.int p1), .val (.int p2), .val (.int ((64 : Int32) + (p2 &&& (63 : Int32)))), .unset, .unset] [(.int (own_isL p1))]))) (fun t k => st1 _ k) ?_
  refine own_fw (A' := (T1.setTop (mkF m 13 #[.val (.int p1), .val (.int p2), .val (.int ((64 : Int32) + (p2 &&& (63 : Int32)))), .unset, .unset] [(.int p1), (.int (own_isL p1))]))) (fun t k => XS.iloadN X1.here hx rfl (hb hby at_12) rfl k) ?_
  obtain ⟨_, _, ⟨T2, L2, k2, n2⟩, -, X2, ⟨Lc2, hQ2, l2, y2, z2⟩, st2⟩ := Jvm.LawKit.callS X1 hx (y := (⟨"com/example/scopewright/scopewright/FhirNamesIsLetterPinLaw", "reference", "(I)Z"⟩ : MethodName)) hown (mvT hZ (hw _ (List.mem_of_getElem? (i := 4) rfl))) (mvT hZ (hw _ (List.mem_of_getElem? (i := 5) rfl))) (mvT hZ (hw _ (List.mem_of_getElem? (i := 6) rfl))) (mvT hZ (hw _ (List.mem_of_getElem? (i := 7) rfl))) (by decide) (backOf (W := 1) (rmRef l Z a0 hw [] p1 h0 n0 Z0 ) hZ (hw _ (List.mem_of_getElem? (i := 7) rfl)) (hw _ (List.mem_of_getElem? (i := 6) rfl)) (by decide) (by decide)) (g := (mkF m 13 #[.val (.int p1), .val (.int p2), .val (.int ((64 : Int32) + (p2 &&& (63 : Int32)))), .unset, .unset] [(.int p1), (.int (own_isL p1))])) rfl (by rw [hml]; rfl) (argsL := [(.int p1)]) (rest := [(.int (own_isL p1))]) (lenOf pd__I_Z rfl) rfl (by show 2 * 0 + _ ≤ _; exact Nat.le_of_eq rfl) (hb hby at_13) (fun _ _ => ⟨rfl, e1, (by decide : 0 + 0 ≤ _), (by decide : 0 + 0 ≤ _)⟩)
  dsimp only [Pt.U, Pt.locs, Pt.cells, Pt.slots] at X2 l2 y2 z2 st2 hQ2
  subst l2 y2 z2
  obtain ⟨rfl, Nq2, e2⟩ := hQ2
  have Nf2 := Fr.app Nf1 Nq2
  refine own_fw (A' := (T2.setTop (mkF m 16 #[.val (.int p1), .val (.int p2), .val (.int ((64 : Int32) + (p2 &&& (63 : Int32)))), .unset, .unset] [(.int (own_ref p1)), (.int (own_isL p1))]))) (fun t k => st2 _ k) ?_
  refine own_fw (A' := (T2.setTop (mkF m 19 #[.val (.int p1), .val (.int p2), .val (.int ((64 : Int32) + (p2 &&& (63 : Int32)))), .unset, .unset] []))) (fun t k => XS.icmpNo X2.here hx rfl (hb hby at_16) rfl (XT.ii_ne_f (own_same _)) k) ?_
  refine own_fw (A' := (T2.setTop (mkF m 20 #[.val (.int p1), .val (.int p2), .val (.int ((64 : Int32) + (p2 &&& (63 : Int32)))), .unset, .unset] [(.int (1 : Int32))]))) (fun t k => XS.iconst X2.here hx rfl (hb hby at_19) k) ?_
  refine own_fw (A' := (T2.setTop (mkF m 24 #[.val (.int p1), .val (.int p2), .val (.int ((64 : Int32) + (p2 &&& (63 : Int32)))), .unset, .unset] [(.int (1 : Int32))]))) (fun t k => XS.goto X2.here hx rfl (pc0 := 20) (pc' := 24) rfl (hb hby at_20) (by decide) (by decide) k) ?_
  refine own_fw (A' := (T2.setTop (mkF m 25 #[.val (.int p1), .val (.int p2), .val (.int ((64 : Int32) + (p2 &&& (63 : Int32)))), .val (.int (1 : Int32)), .unset] []))) (fun t k => XS.istoreN X2.here hx rfl (hb hby at_24) rfl (l' := #[.val (.int p1), .val (.int p2), .val (.int ((64 : Int32) + (p2 &&& (63 : Int32)))), .val (.int (1 : Int32)), .unset]) rfl k) ?_
  refine own_fw (A' := (T2.setTop (mkF m 26 #[.val (.int p1), .val (.int p2), .val (.int ((64 : Int32) + (p2 &&& (63 : Int32)))), .val (.int (1 : Int32)), .unset] [(.int ((64 : Int32) + (p2 &&& (63 : Int32))))]))) (fun t k => XS.iloadN X2.here hx rfl (hb hby at_25) rfl k) ?_
  obtain ⟨_, _, ⟨T3, L3, k3, n3⟩, -, X3, ⟨Lc3, hQ3, l3, y3, z3⟩, st3⟩ := Jvm.LawKit.callS X2 hx (y := (⟨"com/example/scopewright/scopewright/FhirNames", "isLetter", "(I)Z"⟩ : MethodName)) hown (mvT hZ (hw _ (List.mem_of_getElem? (i := 0) rfl))) (mvT hZ (hw _ (List.mem_of_getElem? (i := 1) rfl))) (mvT hZ (hw _ (List.mem_of_getElem? (i := 2) rfl))) (mvT hZ (hw _ (List.mem_of_getElem? (i := 3) rfl))) (by decide) (backOf (W := 0) (rmIs l Z a0 hw [] ((64 : Int32) + (p2 &&& (63 : Int32))) h0 n0 Z0 ) hZ (hw _ (List.mem_of_getElem? (i := 3) rfl)) (hw _ (List.mem_of_getElem? (i := 2) rfl)) (by decide) (by decide)) (g := (mkF m 26 #[.val (.int p1), .val (.int p2), .val (.int ((64 : Int32) + (p2 &&& (63 : Int32)))), .val (.int (1 : Int32)), .unset] [(.int ((64 : Int32) + (p2 &&& (63 : Int32))))])) rfl (by rw [hml]; rfl) (argsL := [(.int ((64 : Int32) + (p2 &&& (63 : Int32))))]) (rest := []) (lenOf pd__I_Z rfl) rfl (by show 2 * 0 + _ ≤ _; exact Nat.le_of_eq rfl) (hb hby at_26) (fun _ _ => ⟨rfl, e2, (by decide : 0 + 0 ≤ _), (by decide : 0 + 0 ≤ _)⟩)
  dsimp only [Pt.U, Pt.locs, Pt.cells, Pt.slots] at X3 l3 y3 z3 st3 hQ3
  subst l3 y3 z3
  obtain ⟨rfl, Nq3, e3⟩ := hQ3
  have Nf3 := Fr.app Nf2 Nq3
  refine own_fw (A' := (T3.setTop (mkF m 29 #[.val (.int p1), .val (.int p2), .val (.int ((64 : Int32) + (p2 &&& (63 : Int32)))), .val (.int (1 : Int32)), .unset] [(.int (own_isL ((64 : Int32) + (p2 &&& (63 : Int32)))))]))) (fun t k => st3 _ k) ?_
  refine own_fw (A' := (T3.setTop (mkF m 30 #[.val (.int p1), .val (.int p2), .val (.int ((64 : Int32) + (p2 &&& (63 : Int32)))), .val (.int (1 : Int32)), .unset] [(.int ((64 : Int32) + (p2 &&& (63 : Int32)))), (.int (own_isL ((64 : Int32) + (p2 &&& (63 : Int32)))))]))) (fun t k => XS.iloadN X3.here hx rfl (hb hby at_29) rfl k) ?_
  obtain ⟨_, _, ⟨T4, L4, k4, n4⟩, -, X4, ⟨Lc4, hQ4, l4, y4, z4⟩, st4⟩ := Jvm.LawKit.callS X3 hx (y := (⟨"com/example/scopewright/scopewright/FhirNamesIsLetterPinLaw", "reference", "(I)Z"⟩ : MethodName)) hown (mvT hZ (hw _ (List.mem_of_getElem? (i := 4) rfl))) (mvT hZ (hw _ (List.mem_of_getElem? (i := 5) rfl))) (mvT hZ (hw _ (List.mem_of_getElem? (i := 6) rfl))) (mvT hZ (hw _ (List.mem_of_getElem? (i := 7) rfl))) (by decide) (backOf (W := 1) (rmRef l Z a0 hw [] ((64 : Int32) + (p2 &&& (63 : Int32))) h0 n0 Z0 ) hZ (hw _ (List.mem_of_getElem? (i := 7) rfl)) (hw _ (List.mem_of_getElem? (i := 6) rfl)) (by decide) (by decide)) (g := (mkF m 30 #[.val (.int p1), .val (.int p2), .val (.int ((64 : Int32) + (p2 &&& (63 : Int32)))), .val (.int (1 : Int32)), .unset] [(.int ((64 : Int32) + (p2 &&& (63 : Int32)))), (.int (own_isL ((64 : Int32) + (p2 &&& (63 : Int32)))))])) rfl (by rw [hml]; rfl) (argsL := [(.int ((64 : Int32) + (p2 &&& (63 : Int32))))]) (rest := [(.int (own_isL ((64 : Int32) + (p2 &&& (63 : Int32)))))]) (lenOf pd__I_Z rfl) rfl (by show 2 * 0 + _ ≤ _; exact Nat.le_of_eq rfl) (hb hby at_30) (fun _ _ => ⟨rfl, e3, (by decide : 0 + 0 ≤ _), (by decide : 0 + 0 ≤ _)⟩)
  dsimp only [Pt.U, Pt.locs, Pt.cells, Pt.slots] at X4 l4 y4 z4 st4 hQ4
  subst l4 y4 z4
  obtain ⟨rfl, Nq4, e4⟩ := hQ4
  have Nf4 := Fr.app Nf3 Nq4
  refine own_fw (A' := (T4.setTop (mkF m 33 #[.val (.int p1), .val (.int p2), .val (.int ((64 : Int32) + (p2 &&& (63 : Int32)))), .val (.int (1 : Int32)), .unset] [(.int (own_ref ((64 : Int32) + (p2 &&& (63 : Int32))))), (.int (own_isL ((64 : Int32) + (p2 &&& (63 : Int32)))))]))) (fun t k => st4 _ k) ?_
  refine own_fw (A' := (T4.setTop (mkF m 36 #[.val (.int p1), .val (.int p2), .val (.int ((64 : Int32) + (p2 &&& (63 : Int32)))), .val (.int (1 : Int32)), .unset] []))) (fun t k => XS.icmpNo X4.here hx rfl (hb hby at_33) rfl (XT.ii_ne_f (own_same _)) k) ?_
  refine own_fw (A' := (T4.setTop (mkF m 37 #[.val (.int p1), .val (.int p2), .val (.int ((64 : Int32) + (p2 &&& (63 : Int32)))), .val (.int (1 : Int32)), .unset] [(.int (1 : Int32))]))) (fun t k => XS.iconst X4.here hx rfl (hb hby at_36) k) ?_
  refine own_fw (A' := (T4.setTop (mkF m 41 #[.val (.int p1), .val (.int p2), .val (.int ((64 : Int32) + (p2 &&& (63 : Int32)))), .val (.int (1 : Int32)), .unset] [(.int (1 : Int32))]))) (fun t k => XS.goto X4.here hx rfl (pc0 := 37) (pc' := 41) rfl (hb hby at_37) (by decide) (by decide) k) ?_
  refine own_fw (A' := (T4.setTop (mkF m 43 #[.val (.int p1), .val (.int p2), .val (.int ((64 : Int32) + (p2 &&& (63 : Int32)))), .val (.int (1 : Int32)), .val (.int (1 : Int32))] []))) (fun t k => XS.istore X4.here hx rfl (hb hby at_41) rfl (l' := #[.val (.int p1), .val (.int p2), .val (.int ((64 : Int32) + (p2 &&& (63 : Int32)))), .val (.int (1 : Int32)), .val (.int (1 : Int32))]) rfl k) ?_
  refine own_fw (A' := (T4.setTop (mkF m 44 #[.val (.int p1), .val (.int p2), .val (.int ((64 : Int32) + (p2 &&& (63 : Int32)))), .val (.int (1 : Int32)), .val (.int (1 : Int32))] [(.int (1 : Int32))]))) (fun t k => XS.iloadN X4.here hx rfl (hb hby at_43) rfl k) ?_
  refine own_fw (A' := (T4.setTop (mkF m 47 #[.val (.int p1), .val (.int p2), .val (.int ((64 : Int32) + (p2 &&& (63 : Int32)))), .val (.int (1 : Int32)), .val (.int (1 : Int32))] []))) (fun t k => XS.ifNo X4.here hx rfl (hb hby at_44) rfl (XT.i0_eq_f (by decide)) k) ?_
  refine own_fw (A' := (T4.setTop (mkF m 49 #[.val (.int p1), .val (.int p2), .val (.int ((64 : Int32) + (p2 &&& (63 : Int32)))), .val (.int (1 : Int32)), .val (.int (1 : Int32))] [(.int (1 : Int32))]))) (fun t k => XS.iload X4.here hx rfl (hb hby at_47) rfl k) ?_
  refine own_fw (A' := (T4.setTop (mkF m 52 #[.val (.int p1), .val (.int p2), .val (.int ((64 : Int32) + (p2 &&& (63 : Int32)))), .val (.int (1 : Int32)), .val (.int (1 : Int32))] []))) (fun t k => XS.ifNo X4.here hx rfl (hb hby at_49) rfl (XT.i0_eq_f (by decide)) k) ?_
  refine own_fw (A' := (T4.setTop (mkF m 53 #[.val (.int p1), .val (.int p2), .val (.int ((64 : Int32) + (p2 &&& (63 : Int32)))), .val (.int (1 : Int32)), .val (.int (1 : Int32))] [(.int (1 : Int32))]))) (fun t k => XS.iconst X4.here hx rfl (hb hby at_52) k) ?_
  refine own_fw (A' := (T4.setTop (mkF m 57 #[.val (.int p1), .val (.int p2), .val (.int ((64 : Int32) + (p2 &&& (63 : Int32)))), .val (.int (1 : Int32)), .val (.int (1 : Int32))] [(.int (1 : Int32))]))) (fun t k => XS.goto X4.here hx rfl (pc0 := 53) (pc' := 57) rfl (hb hby at_53) (by decide) (by decide) k) ?_
  obtain ⟨fs, hr, hrun, hended, hW, hsame⟩ := X4.leave (v := some (.int (1 : Int32))) (fun h => by rw [Bd.returns] at h; cases h)
  refine ⟨_, _, ?_, hrun, hended, _, _, rfl, ?_, ⟨_, rfl⟩, hW, hsame.mono (by decide) (by decide)⟩
  · exact retOut X4 hx Bd.returns rfl (Or.inl ⟨rfl, by simp, _, rfl⟩) (hb hby at_57) hr
  · show Q_rm0 Z p1 p2 h0 n0 _ T4.heap _
    rw [e4]
    exact ⟨rfl, Nf4⟩
set_option maxRecDepth 65536 in
set_option maxHeartbeats 40000000 in
theorem comes_1 {Post : Tables → Env → Array Value → State → Outcome → State → Prop} (hpost : ∀ tb e args s v u, (limb_1_1.after args s (.returned v) u = true ∧ limb_1_2.after args s (.returned v) u = true ∧ True) → FrameEnd s (.returned v) u (Jvm.fieldLocs frame_1_writes args s ++ Jvm.arrayLocs frame_1_arrays args s ++ Jvm.staticLocs frame_1_statics s) 0 0 → Post tb e args s (.returned v) u) :
    ArmFor flags0 classFile x code maxLocals ret World_1 tables_1 room_1 Calls_1 rest_1 Pre_1 Post := by
  intro l hfl _ _ p e ha hc hk s m args below hf hA hF happ hP
  obtain ⟨hcalls, hrest, hpre⟩ := hP
  obtain ⟨-, -, -, hnamed, -, -, -, hat⟩ := (Spec.applies_iff hf).mp happ
  obtain ⟨hg, hn⟩ := and_e (Cond.before_iff.mp (show (Jvm.Cond.and given_1 narrow_1).before args s = true from hpre))
  obtain ⟨hcount, hg0⟩ := and_e hg
  obtain ⟨hv0, hg1⟩ := and_e hg0
  have hv1 := hg1
  obtain ⟨w0, w1, rfl⟩ : ∃ w0 w1 : Value, args = #[w0, w1] := by
    have hs : args.size = 2 := by simpa [Cond.value, given_1] using hcount
    obtain ⟨L⟩ := args
    match L, hs with
    | [w0, w1], _ => exact ⟨w0, w1, rfl⟩
  have hw := fun d (hd : d ∈ tables_1) => atoms_spec (ws := Jvm.Cond.code x code maxLocals ret :: tables_1) hat d (List.mem_cons_of_mem _ hd)
  have hfit : Fit s := fun {y c} hc i hi => by
    obtain ⟨ha, rfl⟩ := Array.getElem?_eq_some_iff.mp hc
    have q := List.all_eq_true.mp ((Array.all_eq_true_iff_forall_mem.mp hF) _ (Array.getElem_mem ha)) i (List.mem_range.mpr hi)
    simpa [Array.getElem?_eq_getElem hi] using q
  obtain ⟨i0, ei0⟩ := is_v hv0
  obtain rfl : w0 = (.int i0) := Option.some.inj ei0
  obtain ⟨i1, ei1⟩ := is_v hv1
  obtain rfl : w1 = (.int i1) := Option.some.inj ei1
  obtain ⟨n, o, h1, h2, h3, _, L, rfl, ⟨rfl, N⟩, hq⟩ := rm0 l s _ hw tables_1 i0 i1 s.heap s.heap.size (Nat.le_refl _)  p e ha hc hk s m _ below hf ((Spec.applies_iff_loose hf).mp happ).1 ⟨rfl, State.Warmed39.refl s, rfl⟩ trivial
  refine ⟨n, _, h1, h2, h3, hpost _ _ _ _ _ _ ⟨Cond.after_iff.mpr rfl, Cond.after_iff.mpr (eq_i res_at (Term.int_eval (1)) rfl), trivial⟩ ⟨hq.1, hq.2.1, (hq.2.2.sift fun y hy => Or.inr (N y hy)).mono (by decide) (by decide)⟩⟩
theorem main_1_1 : Claimed_1_1 := comes_1 fun _ _ _ _ _ _ h hF => ⟨h.1, hF⟩
theorem main_1_2 : Claimed_1_2 := comes_1 fun _ _ _ _ _ _ h hF => ⟨h.2.1, hF⟩
end Jvm.Pilot.@@N@@
namespace Jvm.Pilot.@@N@@
open Jvm Jvm.ClassFile Sem Op Lib Jvm.Free Jvm.Stand Jvm.Pilot.@@N@@.Jvm.D
/-! MADE BY PROGRAM (witnessworld.py) out of the Statement's table words and the real class files: 7 classes; the members and pool entries that the words name. The judged class is class 1, her method 2. -/
namespace start1
open Jvm.ClassFile
def u (s : String) : CpInfo := .utf8 (stringToUtf16 s)
/-- a pool by its gaps: so many unusable entries, then the entry; so many at the end -/
def gap : Nat → List CpInfo → List CpInfo
  | 0, r => r
  | n + 1, r => .unusable :: gap n r
def poolList (es : List (Nat × CpInfo)) (last : Nat) : List CpInfo := es.foldr (fun e r => gap e.1 (e.2 :: r)) (gap last [])
def pool (es : List (Nat × CpInfo)) (last : Nat) : Array CpInfo := ⟨poolList es last⟩
def fileOf (pool : Array CpInfo) (this : Nat) (attrs : Array Attribute := #[]) (ms : Array MethodInfo := #[]) (fl : Nat := 33) (sup : Nat := 0) (ifs : Array Nat := #[]) (fds : Array FieldInfo := #[]) : ClassFile where
  minorVersion := 0
  majorVersion := 65
  constantPool := pool
  accessFlags := fl
  thisClass := this
  superClass := sup
  interfaces := ifs
  fields := fds
  methods := ms
  attributes := attrs
def plain (name : String) (sup : Option ClassId) : Class where
  name := name
  kind := .ordinary
  loader := none
  accessFlags := 33
  super := sup
  interfaces := #[]
  cf := none
  fields := #[]
  methods := #[]
  instanceTypes := #[]
  staticTypes := #[]
  resolved := #[]
  callSites := []
  init := .initialized
  statics := none
  mirror := none

def pool0 : Array CpInfo := pool [(5, u "<init>"), (0, u "()V"), (1, .class_ 10), (1, u "java/lang/Object")] 113

def k0m0 : Method := { name := "<init>", desc := "()V", sig := { parameters := [], returnType := none }, accessFlags := 1, code := none }
/-- java/lang/Object -/
def k0 : Class := { plain "java/lang/Object" none with
  accessFlags := 33
  interfaces := #[]
  cf := some (fileOf pool0 8 #[] #[{ accessFlags := 1, nameIndex := 5, descriptorIndex := 6, attributes := #[] }] 33 0 #[] #[])
  fields := #[]
  methods := #[k0m0]
  instanceTypes := #[]
  staticTypes := #[]
  resolved := Array.replicate 124 none
  statics := none }

def pool1 : Array CpInfo := pool [(2, .class_ 4), (1, u "java/lang/Object"), (0, u "<init>"), (0, u "()V"), (0, .methodref 8 9), (0, .class_ 10), (0, .nameAndType 11 12), (0, u "com/example/scopewright/scopewright/FhirNames"), (0, u "isLetter"), (0, u "(I)Z"), (0, .methodref 14 15), (0, .class_ 16), (0, .nameAndType 17 12), (0, u "com/example/scopewright/scopewright/FhirNamesIsLetterPinLaw"), (0, u "reference"), (3, u "law"), (0, u "(II)Z")] 2

def k1m0 : Method := { name := "<init>", desc := "()V", sig := { parameters := [], returnType := none }, accessFlags := 2, code := none }
def k1c1 : Code := { maxStack := 2, maxLocals := 2, code := method_2_code, exceptionTable := #[], attributes := #[] }
def k1m1 : Method := { name := "reference", desc := "(I)Z", sig := { parameters := [.int], returnType := some .boolean }, accessFlags := 10, code := some k1c1 }
def k1c2 : Code := { maxStack := 3, maxLocals := 5, code := code, exceptionTable := #[], attributes := #[] }
def k1m2 : Method := { name := "law", desc := "(II)Z", sig := { parameters := [.int, .int], returnType := some .boolean }, accessFlags := 9, code := some k1c2 }
/-- com/example/scopewright/scopewright/FhirNamesIsLetterPinLaw -/
def k1 : Class := { plain "com/example/scopewright/scopewright/FhirNamesIsLetterPinLaw" (some 0) with
  accessFlags := 49
  interfaces := #[]
  cf := some (fileOf pool1 14 #[] #[{ accessFlags := 2, nameIndex := 5, descriptorIndex := 6, attributes := #[] }, { accessFlags := 10, nameIndex := 17, descriptorIndex := 12, attributes := #[] }, { accessFlags := 9, nameIndex := 21, descriptorIndex := 22, attributes := #[] }] 49 2 #[] #[])
  fields := #[]
  methods := #[k1m0, k1m1, k1m2]
  instanceTypes := #[]
  staticTypes := #[]
  resolved := Array.replicate 25 none
  statics := none }

def pool2 : Array CpInfo := pool [(1, .class_ 2), (0, u "com/example/scopewright/scopewright/FhirNames"), (1, .class_ 6), (1, u "java/lang/Object"), (0, u "<init>"), (0, u "()V"), (16, u "isLetter"), (0, u "(I)Z"), (25, u "MAX_ID_LENGTH"), (0, u "I"), (2, u "SHOWN"), (1, u "READ_LENGTH")] 28

def k2m0 : Method := { name := "<init>", desc := "()V", sig := { parameters := [], returnType := none }, accessFlags := 2, code := none }
def k2c1 : Code := { maxStack := 2, maxLocals := 1, code := prog_25_method_3_code, exceptionTable := #[], attributes := #[] }
def k2m1 : Method := { name := "isLetter", desc := "(I)Z", sig := { parameters := [.int], returnType := some .boolean }, accessFlags := 8, code := some k2c1 }
/-- com/example/scopewright/scopewright/FhirNames -/
def k2 : Class := { plain "com/example/scopewright/scopewright/FhirNames" (some 0) with
  accessFlags := 48
  interfaces := #[]
  cf := some (fileOf pool2 1 #[] #[{ accessFlags := 2, nameIndex := 7, descriptorIndex := 8, attributes := #[] }, { accessFlags := 8, nameIndex := 25, descriptorIndex := 26, attributes := #[] }] 48 4 #[] #[{ accessFlags := 26, nameIndex := 52, descriptorIndex := 53, attributes := #[] }, { accessFlags := 26, nameIndex := 56, descriptorIndex := 53, attributes := #[] }, { accessFlags := 24, nameIndex := 58, descriptorIndex := 53, attributes := #[] }])
  fields := #[{ name := "MAX_ID_LENGTH", type := .int, accessFlags := 26, slot := 0, constantValue := 0 }, { name := "SHOWN", type := .int, accessFlags := 26, slot := 1, constantValue := 0 }, { name := "READ_LENGTH", type := .int, accessFlags := 24, slot := 2, constantValue := 0 }]
  methods := #[k2m0, k2m1]
  instanceTypes := #[]
  staticTypes := #[.int, .int, .int]
  resolved := Array.replicate 87 none
  statics := none }

def pool3 : Array CpInfo := pool [(1, u "java/lang/Cloneable"), (0, .class_ 1), (0, u "java/lang/Object"), (0, .class_ 3)] 3

/-- java/lang/Cloneable -/
def k3 : Class := { plain "java/lang/Cloneable" (some 0) with
  accessFlags := 1537
  interfaces := #[]
  cf := some (fileOf pool3 2 #[] #[] 1537 4 #[] #[])
  fields := #[]
  methods := #[]
  instanceTypes := #[]
  staticTypes := #[]
  resolved := Array.replicate 8 none
  statics := none }

def pool4 : Array CpInfo := pool [(1, u "java/io/Serializable"), (0, .class_ 1), (0, u "java/lang/Object"), (0, .class_ 3)] 3

/-- java/io/Serializable -/
def k4 : Class := { plain "java/io/Serializable" (some 0) with
  accessFlags := 1537
  interfaces := #[]
  cf := some (fileOf pool4 2 #[] #[] 1537 4 #[] #[])
  fields := #[]
  methods := #[]
  instanceTypes := #[]
  staticTypes := #[]
  resolved := Array.replicate 8 none
  statics := none }

/-- the primitive byte -/
def k5 : Class := { plain "byte" none with kind := .primitive 'B', accessFlags := 0x411 }
/-- [B -/
def k6 : Class := { plain "[B" (some 0) with kind := .array 5 .byte, interfaces := #[3, 4], accessFlags := 1041 }

def heap : Heap := #[]
def classes : Array Class := #[k0, k1, k2, k3, k4, k5, k6]
def interned : List (Array UInt16 × Addr) := []
def slotsUsed : Nat := 0
def theMethod : MethodId := ⟨1, 2⟩
def args0 : Array Value := #[.int 70, .int 300]
def aboutOver (below : List Frame) : State where
  vm := { classes := classes, interned := interned.toArray }
  heap := heap
  slotsUsed := slotsUsed
  threads := #[{ frames := .invoking theMethod args0 :: below }]
def below0 : List Frame := [.native { method := ⟨0, 0⟩, args := #[] }]
def about1 : State := aboutOver below0
def p0 : Program := .bare "" "" ""
def e0 : Env := launch0.env 0 0 0
theorem w_frames : about1.frames = Frame.invoking theMethod args0 :: below0 := rfl
set_option maxRecDepth 65536 in
theorem w_args : argsFit about1.vm theMethod args0 = true := by decide +kernel
set_option maxRecDepth 65536 in
theorem w_heap : heapFits about1 = true := by decide +kernel
set_option maxRecDepth 65536 in
theorem w_runnable : about1.curStatus? = some .runnable := by decide +kernel
set_option maxRecDepth 65536 in
theorem w_alone : about1.alone = true := by decide +kernel
set_option maxRecDepth 65536 in
theorem w_named : about1.methodNamed? x = some theMethod := by decide +kernel
set_option maxRecDepth 65536 in
theorem w_hears : about1.hears theMethod below0 = true := by decide +kernel
set_option maxRecDepth 65536 in
theorem w_ripe : about1.ripe theMethod args0 below0 = true := by decide +kernel
theorem w_running : about1.status = .running := rfl
set_option maxRecDepth 65536 in
theorem w_room : about1.hasRoom e0.platform room_1 = true :=
  launch0.hasRoom_least _ room_1 (by decide +kernel) (by decide +kernel) (by decide +kernel) (by decide +kernel) (by decide +kernel) (by decide +kernel)
theorem allAtoms_all (ts : List Jvm.Cond) (a : Array Jvm.Value) (st : Jvm.State) : (allAtoms ts).before a st = ts.all (fun c => c.before a st) := by
  induction ts with
  | nil => rfl
  | cons c t ih =>
    show (Jvm.Cond.and c (allAtoms t)).before a st = _
    rw [Jvm.Cond.before_and, ih, List.all_cons]
def words1 : List Jvm.Cond := Jvm.Cond.code x code maxLocals ret :: tables_1
/-- a 'code' word, met by the world's own term for the bytes: nothing is compared byte by byte -/
theorem code_word {y : MethodName} {bytes : ByteArray} {mx : Nat} {rt : Option FieldType} {a : Array Value} {s : State} {m : MethodId} {meth : Method} {c : Code} (h1 : s.methodNamed? y = some m) (h2 : s.vm.method? m = some meth) (h3 : meth.code = some c) (h4 : c.code = bytes)
    (h5 : (c.maxLocals == mx && c.exceptionTable.isEmpty && decide (c.maxStack ≤ mostOperands) && decide (meth.sig.returnType = rt) && !meth.locks && decide (parseMethodDescriptor y.desc = some meth.sig)) = true) : (Jvm.Cond.code y bytes mx rt).before a s = true := by
  simp only [Bool.and_eq_true, beq_iff_eq, Bool.not_eq_true', decide_eq_true_eq] at h5
  obtain ⟨⟨⟨⟨⟨g1, g2⟩, g3⟩, g4⟩, g5⟩, g6⟩ := h5
  simp [Cond.before, Cond.holds, Cond.value, h1, h2, h3, h4, g1, g2, g3, g4, g5, g6]
def isCode : Jvm.Cond → Bool
  | .code _ _ _ _ => true
  | _ => false
theorem all_split {L : List Jvm.Cond} {P : Jvm.Cond → Bool} (h1 : L.all (fun c => isCode c || P c) = true) (h2 : ∀ c ∈ L.filter isCode, P c = true) : L.all P = true := by
  refine List.all_eq_true.mpr fun c hc => ?_
  have h := List.all_eq_true.mp h1 c hc
  rcases Bool.eq_false_or_eq_true (isCode c) with hi | hi
  · exact h2 c (List.mem_filter.mpr ⟨hc, hi⟩)
  · simpa [hi] using h
set_option maxRecDepth 65536 in
theorem w_c0 : (Jvm.Cond.code x code maxLocals ret).before args0 about1 = true := code_word (m := ⟨1, 2⟩) (meth := k1m2) (c := k1c2) (by decide +kernel) rfl rfl rfl (by decide +kernel)
set_option maxRecDepth 65536 in
theorem w_c1 : (Jvm.Cond.code ({ cls := "com/example/scopewright/scopewright/FhirNames", name := "isLetter", desc := "(I)Z" } : Jvm.MethodName) prog_25_method_3_code (1 : Nat) (Option.some Jvm.ClassFile.FieldType.boolean)).before args0 about1 = true := code_word (m := ⟨2, 1⟩) (meth := k2m1) (c := k2c1) (by decide +kernel) rfl rfl rfl (by decide +kernel)
set_option maxRecDepth 65536 in
theorem w_c2 : (Jvm.Cond.code ({ cls := "com/example/scopewright/scopewright/FhirNamesIsLetterPinLaw", name := "reference", desc := "(I)Z" } : Jvm.MethodName) method_2_code (2 : Nat) (Option.some Jvm.ClassFile.FieldType.boolean)).before args0 about1 = true := code_word (m := ⟨1, 1⟩) (meth := k1m1) (c := k1c1) (by decide +kernel) rfl rfl rfl (by decide +kernel)
def codes1 : List Jvm.Cond := [Jvm.Cond.code x code maxLocals ret, Jvm.Cond.code ({ cls := "com/example/scopewright/scopewright/FhirNames", name := "isLetter", desc := "(I)Z" } : Jvm.MethodName) prog_25_method_3_code (1 : Nat) (Option.some Jvm.ClassFile.FieldType.boolean), Jvm.Cond.code ({ cls := "com/example/scopewright/scopewright/FhirNamesIsLetterPinLaw", name := "reference", desc := "(I)Z" } : Jvm.MethodName) method_2_code (2 : Nat) (Option.some Jvm.ClassFile.FieldType.boolean)]
set_option maxRecDepth 65536 in
theorem codes_eq : words1.filter isCode = codes1 := rfl
theorem w_codes : ∀ c ∈ words1.filter isCode, c.before args0 about1 = true := by
  rw [codes_eq]
  intro c hc
  simp only [codes1, List.mem_cons, List.not_mem_nil, or_false] at hc
  rcases hc with rfl | rfl | rfl
  · exact w_c0
  · exact w_c1
  · exact w_c2
set_option maxRecDepth 65536 in
theorem w_t1 : words1.all (fun c => isCode c || c.before args0 about1) = true := by decide +kernel
theorem w_tables : (allAtoms (Jvm.Cond.code x code maxLocals ret :: tables_1)).before args0 about1 = true := by
  rw [allAtoms_all]
  show words1.all (fun c => c.before args0 about1) = true
  refine all_split ?_ w_codes
  rw [w_t1]
set_option maxRecDepth 65536 in
theorem w_case : (Jvm.Cond.and given_1 narrow_1).before args0 about1 = true := by decide +kernel
theorem w_applies : (headSpec (Jvm.Cond.code x code maxLocals ret :: tables_1) room_1).applies x e0.platform about1 = true :=
  (Spec.applies_iff w_frames).mpr ⟨w_running, w_runnable, w_alone, w_named, w_hears, w_ripe, w_room, w_tables⟩
theorem atStart : AtStart classFile x code maxLocals ret World_1 tables_1 room_1 Calls_1 rest_1 Pre_1 launch0 p0 e0 about1 theMethod args0 below0 :=
  ⟨lists_1, trivial, launch0.admits_env _ _ _, launch0.least_env, fairChoices_fair.cas, fairChoices_fair.clock, w_frames, w_args, w_heap, w_applies, trivial, trivial, w_case⟩
end start1
theorem witness_1 : WitnessClaimed_1 := ⟨start1.p0, start1.e0, start1.about1, start1.theMethod, start1.args0, start1.below0, start1.atStart⟩
end Jvm.Pilot.@@N@@
