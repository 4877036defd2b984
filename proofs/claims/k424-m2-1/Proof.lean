import JvmDerived
import JvmDerived.Pilot.@@N@@Statement
import JvmDerived.Pilot.@@N@@Code
set_option linter.unusedVariables false
set_option linter.unusedSimpArgs false
namespace Jvm.Pilot.@@N@@
open Jvm Jvm.ClassFile Sem Op Lib Jvm.Free Jvm.Stand Jvm.LawKit Jvm.RoadKit Bundle Jvm.Pilot.@@N@@.Jvm.D
/-! steps, taken forward -/
theorem own_fw {tb : Tables} {e : Env} {below : List Frame} {A A' : State} {P : State → Outcome → Prop} (h : ∀ t, Steps tb e below A' t → Steps tb e below A t) (g : ∃ U o, Steps tb e below A' U ∧ P U o) : ∃ U o, Steps tb e below A U ∧ P U o := by
  obtain ⟨U, o, s, r⟩ := g
  exact ⟨U, o, h U s, r⟩
theorem own_st {tb : Tables} {e : Env} {below : List Frame} {A A' t : State} (h : ∀ t, Steps tb e below A' t → Steps tb e below A t) (g : Steps tb e below A' t) : Steps tb e below A t := h t g
theorem own_plainE {Z : State} {h : Heap} {a : Addr} {C : String} (F : Exa Z h a C) : ∀ cell : Cell, h[a]? = some cell → cell.vm.isStatics = false := fun cell hc => by
  obtain ⟨c1, k1, h1, -, -, h4, -⟩ := F
  cases h1.symm.trans hc
  exact h4
theorem own_plainV {Z : State} {h : Heap} {a : Addr} {k : ClassId} {ty : FieldType} {z : Int32} {vs : List Value} {dv : Value} (F : Arv Z h a k ty z vs dv) : ∀ cell : Cell, h[a]? = some cell → cell.vm.isStatics = false := fun cell hc => by
  obtain ⟨c1, A, -⟩ := F
  cases A.1.symm.trans hc
  exact A.plain
theorem own_staKeep {Z : State} {h h' : Heap} {C n d : String} {v : Value} {ws : List Addr} (F : Sta Z h C n d v) (K : Keep h h' ws) (q : ∀ x ∈ ws, ∀ cell : Cell, h[x]? = some cell → cell.vm.isStatics = false) : Sta Z h' C n d v := by
  obtain ⟨cf, i, k, f, st, cell, h1, h2, h3, h4, h5, h6, h7⟩ := F
  exact ⟨cf, i, k, f, st, cell, h1, h2, h3, h4, K.2.1 st cell h5 (fun m => by rw [q st m cell h5] at h6; cases h6), h6, h7⟩
theorem own_insLt {Z : State} {h : Heap} {a : Addr} {C : String} {bo : Bool} (F : Ins Z h a C bo) : a < h.size := by
  obtain ⟨cell, cT, h1, -⟩ := F
  exact (Array.getElem?_eq_some_iff.mp h1).1
theorem own_insKeep {Z : State} {h h' : Heap} {a : Addr} {C : String} {bo : Bool} {ws : List Addr} (F : Ins Z h a C bo) (K : Keep h h' ws) : Ins Z h' a C bo := by
  obtain ⟨cell, cT, h1, h2, h3⟩ := F
  obtain ⟨c', e1, e2, e3, -⟩ := K.2.2 a cell h1
  exact ⟨c', cT, e1, h2, by rw [e2, e3]; exact h3⟩


theorem own_fldI {args : Array Value} {s : State} {t : Term} {C n d : String} {z : Int32} {r : Addr} (ht : t.eval args s none [] s = some (.ref r)) (h : (Jvm.Cond.eq (.field t C n d) (.int z)).value args s none s [] = some true) : Fld s s.heap r C n d (.int z) := by
  obtain ⟨x, y, ex, ey, k1, k2⟩ := cmp_v (Or.inl h)
  have hy : y = .int z := by simpa [Term.eval] using ey.symm
  subst hy
  obtain ⟨w, rfl⟩ : ∃ w, x = .int w := k2
  have e : w = z := by simpa [Cond.value, ex, ey] using h
  subst e
  exact Fld.start (by rw [← fld_at (C := C) (n := n) (dd := d) ht]; exact ex)
theorem own_fldJ {args : Array Value} {s : State} {t : Term} {C n d : String} {z : Int64} {r : Addr} (ht : t.eval args s none [] s = some (.ref r)) (h : (Jvm.Cond.eq (.field t C n d) (.long z)).value args s none s [] = some true) : Fld s s.heap r C n d (.long z) := by
  obtain ⟨x, y, ex, ey, k1, k2⟩ := cmp_v (Or.inl h)
  have hy : y = .long z := by simpa [Term.eval] using ey.symm
  subst hy
  obtain ⟨w, rfl⟩ : ∃ w, x = .long w := k2
  have e : w = z := by simpa [Cond.value, ex, ey] using h
  subst e
  exact Fld.start (by rw [← fld_at (C := C) (n := n) (dd := d) ht]; exact ex)


theorem own_len {args : Array Value} {s : State} {t : Term} {a : Addr} {z : Int32} {cl : Cell} (h : (Jvm.Cond.eq (.length t) (.int z)).value args s none s [] = some true) (ht : t.eval args s none [] s = some (.ref a)) (ha : s.arrayAt? a = some cl) : cl.slots.size < 2 ^ 31 ∧ cl.slots.size.toInt32 = z := by
  obtain ⟨x, y, ex, ey, -, -⟩ := cmp_v (Or.inl h)
  have hy : y = .int z := by simpa [Term.eval] using ey.symm
  subst hy
  by_cases hl : cl.slots.size < 2 ^ 31
  · have e := len_f ht ha hl
    exact ⟨hl, by simpa [Cond.value, e, ey] using h⟩
  · exfalso
    simp [Term.eval, ht, ha, hl] at ex

theorem own_elem {args : Array Value} {s : State} {t u : Term} {a r : Addr} {j : Int32} {cl : Cell} (h : (Jvm.Cond.eq (.elem t (.int j)) u).value args s none s [] = some true) (ht : t.eval args s none [] s = some (.ref a)) (hu : u.eval args s none [] s = some (.ref r)) (hc : s.heap[a]? = some cl) : cl.slots[j.toNatClampNeg]? = some (.ref r) := by
  obtain ⟨x, y, ex, ey, k1, k2⟩ := cmp_v (Or.inl h)
  cases hu.symm.trans ey
  have hx : x.isRef = true := by
    cases x <;> simp [Kin, Value.isRef] at k2 ⊢
  have e := gotT (eq_R ex ey hx rfl) h
  subst e
  exact (elem_in ex ht rfl hc).2


theorem own_lt (q a b : Int64) (h : q < a) (hab : a.toInt ≤ b.toInt) : q < b := by
  rw [Int64.lt_iff_toInt_lt] at h ⊢
  omega

theorem pn_com_example_spindle_spindle_DispatchTimes_Band : plainName "com/example/spindle/spindle/DispatchTimes$Band" = true := by first | (simp [plainName, overriddenIn]; done) | decide +kernel
theorem d_prog_6_method_5_code_0 : decode prog_6_method_5_code 0 = .ok (.getstatic 39, 3) := by decide +kernel
theorem d_prog_6_method_5_code_3 : decode prog_6_method_5_code 3 = .ok (.arraylength, 1) := by decide +kernel
theorem d_prog_6_method_5_code_4 : decode prog_6_method_5_code 4 = .ok (.iconst 1, 1) := by decide +kernel
theorem d_prog_6_method_5_code_5 : decode prog_6_method_5_code 5 = .ok (.isub, 1) := by decide +kernel
theorem d_prog_6_method_5_code_6 : decode prog_6_method_5_code 6 = .ok (.istore_n 2, 1) := by decide +kernel
theorem d_prog_6_method_5_code_7 : decode prog_6_method_5_code 7 = .ok (.iload_n 2, 1) := by decide +kernel
theorem d_prog_6_method_5_code_8 : decode prog_6_method_5_code 8 = .ok (.ifCond .le 22, 3) := by decide +kernel
theorem d_prog_6_method_5_code_11 : decode prog_6_method_5_code 11 = .ok (.getstatic 39, 3) := by decide +kernel
theorem d_prog_6_method_5_code_14 : decode prog_6_method_5_code 14 = .ok (.iload_n 2, 1) := by decide +kernel
theorem d_prog_6_method_5_code_15 : decode prog_6_method_5_code 15 = .ok (.aaload, 1) := by decide +kernel
theorem d_prog_6_method_5_code_16 : decode prog_6_method_5_code 16 = .ok (.getfield 35, 3) := by decide +kernel
theorem d_prog_6_method_5_code_19 : decode prog_6_method_5_code 19 = .ok (.lload_n 0, 1) := by decide +kernel
theorem d_prog_6_method_5_code_20 : decode prog_6_method_5_code 20 = .ok (.lcmp, 1) := by decide +kernel
theorem d_prog_6_method_5_code_21 : decode prog_6_method_5_code 21 = .ok (.ifCond .le 9, 3) := by decide +kernel
theorem d_prog_6_method_5_code_24 : decode prog_6_method_5_code 24 = .ok (.iinc 2 (-1), 3) := by decide +kernel
theorem d_prog_6_method_5_code_27 : decode prog_6_method_5_code 27 = .ok (.goto (-20), 3) := by decide +kernel
theorem d_prog_6_method_5_code_30 : decode prog_6_method_5_code 30 = .ok (.getstatic 39, 3) := by decide +kernel
theorem d_prog_6_method_5_code_33 : decode prog_6_method_5_code 33 = .ok (.iload_n 2, 1) := by decide +kernel
theorem d_prog_6_method_5_code_34 : decode prog_6_method_5_code 34 = .ok (.aaload, 1) := by decide +kernel
theorem d_prog_6_method_5_code_35 : decode prog_6_method_5_code 35 = .ok (.areturn, 1) := by decide +kernel
theorem ef_rmOf0 (m : MethodId) (q1 : Int64) : entryFrame m #[(.long q1)] 3 = mkF m 0 #[.val (.long q1), .second, .unset] [] := by first | (simp [entryFrame, mkF, argsToLocals, Value.category]; done) | rfl
def Q_rmOf0 (Z : State) (q1 : Int64) (ba : Addr) (kb : ClassId) (r0 : Addr) (r1 : Addr) (r2 : Addr) (r3 : Addr) (h0 : Heap) (n0 : Nat) (v : Option Value) (h : Heap) (L : List Loc) : Prop := v = some (.ref r0) ∧ Fr n0 L ∧ h = h0
set_option maxRecDepth 65536 in
set_option maxHeartbeats 40000000 in
theorem rmOf0 (l : Launch) (Z : State) (a0 : Array Value) (hw : ∀ d ∈ tables_1, d.before a0 Z = true) (ws : List Jvm.Cond) (q1 : Int64) (ba : Addr) (kb : ClassId) (r0 : Addr) (r1 : Addr) (r2 : Addr) (r3 : Addr) (h0 : Heap) (n0 : Nat) (Z0 : n0 ≤ h0.size) (P0 : Sta Z h0 "com/example/spindle/spindle/DispatchTimes$Band" "BANDS" "[Lcom/example/spindle/spindle/DispatchTimes$Band;" (.ref ba)) (P1 : Arv Z h0 ba kb (.object "com/example/spindle/spindle/DispatchTimes$Band") (4 : Int32) [(.ref r0), (.ref r1), (.ref r2), (.ref r3)] .null) (P2 : Exa Z h0 r0 "com/example/spindle/spindle/DispatchTimes$Band") (P3 : Fld Z h0 r0 "com/example/spindle/spindle/DispatchTimes$Band" "lowerMillis" "J" (.long (0 : Int64))) (P4 : Exa Z h0 r1 "com/example/spindle/spindle/DispatchTimes$Band") (P5 : Fld Z h0 r1 "com/example/spindle/spindle/DispatchTimes$Band" "lowerMillis" "J" (.long (50 : Int64))) (P6 : Exa Z h0 r2 "com/example/spindle/spindle/DispatchTimes$Band") (P7 : Fld Z h0 r2 "com/example/spindle/spindle/DispatchTimes$Band" "lowerMillis" "J" (.long (250 : Int64))) (P8 : Exa Z h0 r3 "com/example/spindle/spindle/DispatchTimes$Band") (P9 : Fld Z h0 r3 "com/example/spindle/spindle/DispatchTimes$Band" "lowerMillis" "J" (.long (1000 : Int64))) (h1 : q1 < (1000 : Int64)) (h2 : q1 < (250 : Int64)) (h3 : q1 < (50 : Int64)) :
    MetFree l (⟨"com/example/spindle/spindle/DispatchTimes$Band", "of", "(J)Lcom/example/spindle/spindle/DispatchTimes$Band;"⟩ : MethodName) (head1 (Jvm.Cond.code (⟨"com/example/spindle/spindle/DispatchTimes$Band", "of", "(J)Lcom/example/spindle/spindle/DispatchTimes$Band;"⟩ : MethodName) prog_6_method_5_code 3 (some (.object "com/example/spindle/spindle/DispatchTimes$Band")) :: ws) ({ frames := 0, cells := 0, slots := 0, locals := 0 } : Room)) (fun a U => a = #[(.long q1)] ∧ Z.Warmed39 U.vm ∧ U.heap = h0) (fun _ _ _ _ _ => True) (fun _ U o U' => ∃ v L, o = .returned v ∧ Q_rmOf0 Z q1 ba kb r0 r1 r2 r3 h0 n0 v U'.heap L ∧ FrameEnd U o U' L ({ frames := 0, cells := 0, slots := 0, locals := 0 } : Room).cells ({ frames := 0, cells := 0, slots := 0, locals := 0 } : Room).slots) := by
  refine MetFree.of_bodySF (plainFor_of_name pn_com_example_spindle_spindle_DispatchTimes_Band) hisR ?_
  intro p e s m args below meth c s₁ Bd hml0 hP hK
  obtain ⟨rfl, hZ, hh⟩ := hP
  have hx := Bd.exec
  have hby := Bd.bytes
  have hml : c.maxLocals = 3 := hml0
  have hown : s.vm.findClass "com/example/spindle/spindle/DispatchTimes$Band" = some m.cls := findClass_of_methodNamed Bd.named
  have hnm := (name_of_methodNamed Bd.named Bd.method).1
  have X0 : Stand p l e ({ frames := 0, cells := 0, slots := 0, locals := 0 } : Room) s m #[(.long q1)] below meth c s₁ [] 0 0 := Stand.of_body Bd
  have e0 : s₁.heap = h0 := by rw [← hh, Bd.state]; rfl
  have N0 := Fr.nil n0
  refine own_fw (A' := (s₁.setTop (mkF m 0 #[.val (.long q1), .second, .unset] []))) (fun t k => castTop (ef_rmOf0 m q1) k) ?_
  obtain ⟨T1, X1, e1, st1⟩ := getS2 X0 hx hZ hown (host := "") (Or.inl (hw _ (List.mem_of_getElem? (i := 8) rfl))) Via.refl e0 P0 (g := (mkF m 0 #[.val (.long q1), .second, .unset] [])) rfl (hb hby d_prog_6_method_5_code_0)
  refine own_fw (A' := (T1.setTop (mkF m 3 #[.val (.long q1), .second, .unset] [(.ref ba)]))) (fun t k => st1 _ k) ?_
  obtain ⟨cl2, Ar2, q2, S2, M2, H2, G2⟩ := id P1
  refine own_fw (A' := (T1.setTop (mkF m 4 #[.val (.long q1), .second, .unset] [(.int (4 : Int32))]))) (fun t k => X1.arraylength hx (by rw [e1]; exact Ar2.1) (State.isArrayOf_alike hZ.alike Ar2.2.1) (g := (mkF m 3 #[.val (.long q1), .second, .unset] [(.ref ba)])) rfl rfl (hb hby d_prog_6_method_5_code_3) _ (by rw [len_of S2 M2]; exact k)) ?_
  refine own_fw (A' := (T1.setTop (mkF m 5 #[.val (.long q1), .second, .unset] [(.int (1 : Int32)), (.int (4 : Int32))]))) (fun t k => XS.iconst X1.here hx rfl (hb hby d_prog_6_method_5_code_4) k) ?_
  refine own_fw (A' := (T1.setTop (mkF m 6 #[.val (.long q1), .second, .unset] [(.int (3 : Int32))]))) (fun t k => XS.isub X1.here hx rfl (hb hby d_prog_6_method_5_code_5) rfl k) ?_
  refine own_fw (A' := (T1.setTop (mkF m 7 #[.val (.long q1), .second, .val (.int (3 : Int32))] []))) (fun t k => XS.istoreN X1.here hx rfl (hb hby d_prog_6_method_5_code_6) rfl (l' := #[.val (.long q1), .second, .val (.int (3 : Int32))]) rfl k) ?_
  refine own_fw (A' := (T1.setTop (mkF m 8 #[.val (.long q1), .second, .val (.int (3 : Int32))] [(.int (3 : Int32))]))) (fun t k => XS.iloadN X1.here hx rfl (hb hby d_prog_6_method_5_code_7) rfl k) ?_
  refine own_fw (A' := (T1.setTop (mkF m 11 #[.val (.long q1), .second, .val (.int (3 : Int32))] []))) (fun t k => XS.ifNo X1.here hx rfl (hb hby d_prog_6_method_5_code_8) rfl (XT.i0_le_f (by decide)) k) ?_
  obtain ⟨T3, X3, e3, st3⟩ := getS2 X1 hx hZ hown (host := "") (Or.inl (hw _ (List.mem_of_getElem? (i := 8) rfl))) Via.refl e1 P0 (g := (mkF m 11 #[.val (.long q1), .second, .val (.int (3 : Int32))] [])) rfl (hb hby d_prog_6_method_5_code_11)
  refine own_fw (A' := (T3.setTop (mkF m 14 #[.val (.long q1), .second, .val (.int (3 : Int32))] [(.ref ba)]))) (fun t k => st3 _ k) ?_
  refine own_fw (A' := (T3.setTop (mkF m 15 #[.val (.long q1), .second, .val (.int (3 : Int32))] [(.int (3 : Int32)), (.ref ba)]))) (fun t k => XS.iloadN X3.here hx rfl (hb hby d_prog_6_method_5_code_14) rfl k) ?_
  obtain ⟨cl4, Ar4, q4, S4, M4, H4, G4⟩ := id P1
  have hin4 : ¬ ((3 : Int32) < 0 ∨ cl4.slots.size ≤ ((3 : Int32)).toNatClampNeg) := inb_of S4 ⟨by decide, by decide⟩
  have hat4 : cl4.slots[((3 : Int32)).toNatClampNeg]? = some (.ref r3) := H4.at hin4 rfl
  refine own_fw (A' := (T3.setTop (mkF m 16 #[.val (.long q1), .second, .val (.int (3 : Int32))] [(.ref r3)]))) (fun t k => X3.aaload hx (j := (3 : Int32)) (v := (.ref r3)) (by rw [e3]; exact Ar4.1) (State.isArrayOf_alike hZ.alike Ar4.2.1) rfl Ar4.2.2 hin4 hat4 (g := (mkF m 15 #[.val (.long q1), .second, .val (.int (3 : Int32))] [(.int (3 : Int32)), (.ref ba)])) rfl rfl (hb hby d_prog_6_method_5_code_15) _ k) ?_
  obtain ⟨T5, X5, e5, st5⟩ := getF X3 hx hZ hown (host := "") (Or.inl (hw _ (List.mem_of_getElem? (i := 11) rfl))) Via.refl e3 P9 (g := (mkF m 16 #[.val (.long q1), .second, .val (.int (3 : Int32))] [(.ref r3)])) rfl rfl (hb hby d_prog_6_method_5_code_16)
  refine own_fw (A' := (T5.setTop (mkF m 19 #[.val (.long q1), .second, .val (.int (3 : Int32))] [(.long (1000 : Int64))]))) (fun t k => st5 _ k) ?_
  refine own_fw (A' := (T5.setTop (mkF m 20 #[.val (.long q1), .second, .val (.int (3 : Int32))] [(.long q1), (.long (1000 : Int64))]))) (fun t k => XS.lloadN X5.here hx rfl (hb hby d_prog_6_method_5_code_19) rfl k) ?_
  refine own_fw (A' := (T5.setTop (mkF m 21 #[.val (.long q1), .second, .val (.int (3 : Int32))] [(.int (XT.cmpL (1000 : Int64) q1))]))) (fun t k => XT.lcmp X5.here hx rfl (hb hby d_prog_6_method_5_code_20) rfl k) ?_
  refine own_fw (A' := (T5.setTop (mkF m 24 #[.val (.long q1), .second, .val (.int (3 : Int32))] []))) (fun t k => XS.ifNo X5.here hx rfl (hb hby d_prog_6_method_5_code_21) rfl (XT.ll_le_f h1) k) ?_
  refine own_fw (A' := (T5.setTop (mkF m 27 #[.val (.long q1), .second, .val (.int (2 : Int32))] []))) (fun t k => XS.iinc X5.here hx rfl (hb hby d_prog_6_method_5_code_24) rfl (l' := #[.val (.long q1), .second, .val (.int (2 : Int32))]) rfl k) ?_
  refine own_fw (A' := (T5.setTop (mkF m 7 #[.val (.long q1), .second, .val (.int (2 : Int32))] []))) (fun t k => XS.goto X5.here hx rfl (pc0 := 27) (pc' := 7) rfl (hb hby d_prog_6_method_5_code_27) (by decide) (by decide) k) ?_
  refine own_fw (A' := (T5.setTop (mkF m 8 #[.val (.long q1), .second, .val (.int (2 : Int32))] [(.int (2 : Int32))]))) (fun t k => XS.iloadN X5.here hx rfl (hb hby d_prog_6_method_5_code_7) rfl k) ?_
  refine own_fw (A' := (T5.setTop (mkF m 11 #[.val (.long q1), .second, .val (.int (2 : Int32))] []))) (fun t k => XS.ifNo X5.here hx rfl (hb hby d_prog_6_method_5_code_8) rfl (XT.i0_le_f (by decide)) k) ?_
  obtain ⟨T6, X6, e6, st6⟩ := getS2 X5 hx hZ hown (host := "") (Or.inl (hw _ (List.mem_of_getElem? (i := 8) rfl))) Via.refl e5 P0 (g := (mkF m 11 #[.val (.long q1), .second, .val (.int (2 : Int32))] [])) rfl (hb hby d_prog_6_method_5_code_11)
  refine own_fw (A' := (T6.setTop (mkF m 14 #[.val (.long q1), .second, .val (.int (2 : Int32))] [(.ref ba)]))) (fun t k => st6 _ k) ?_
  refine own_fw (A' := (T6.setTop (mkF m 15 #[.val (.long q1), .second, .val (.int (2 : Int32))] [(.int (2 : Int32)), (.ref ba)]))) (fun t k => XS.iloadN X6.here hx rfl (hb hby d_prog_6_method_5_code_14) rfl k) ?_
  obtain ⟨cl7, Ar7, q7, S7, M7, H7, G7⟩ := id P1
  have hin7 : ¬ ((2 : Int32) < 0 ∨ cl7.slots.size ≤ ((2 : Int32)).toNatClampNeg) := inb_of S7 ⟨by decide, by decide⟩
  have hat7 : cl7.slots[((2 : Int32)).toNatClampNeg]? = some (.ref r2) := H7.at hin7 rfl
  refine own_fw (A' := (T6.setTop (mkF m 16 #[.val (.long q1), .second, .val (.int (2 : Int32))] [(.ref r2)]))) (fun t k => X6.aaload hx (j := (2 : Int32)) (v := (.ref r2)) (by rw [e6]; exact Ar7.1) (State.isArrayOf_alike hZ.alike Ar7.2.1) rfl Ar7.2.2 hin7 hat7 (g := (mkF m 15 #[.val (.long q1), .second, .val (.int (2 : Int32))] [(.int (2 : Int32)), (.ref ba)])) rfl rfl (hb hby d_prog_6_method_5_code_15) _ k) ?_
  obtain ⟨T8, X8, e8, st8⟩ := getF X6 hx hZ hown (host := "") (Or.inl (hw _ (List.mem_of_getElem? (i := 11) rfl))) Via.refl e6 P7 (g := (mkF m 16 #[.val (.long q1), .second, .val (.int (2 : Int32))] [(.ref r2)])) rfl rfl (hb hby d_prog_6_method_5_code_16)
  refine own_fw (A' := (T8.setTop (mkF m 19 #[.val (.long q1), .second, .val (.int (2 : Int32))] [(.long (250 : Int64))]))) (fun t k => st8 _ k) ?_
  refine own_fw (A' := (T8.setTop (mkF m 20 #[.val (.long q1), .second, .val (.int (2 : Int32))] [(.long q1), (.long (250 : Int64))]))) (fun t k => XS.lloadN X8.here hx rfl (hb hby d_prog_6_method_5_code_19) rfl k) ?_
  refine own_fw (A' := (T8.setTop (mkF m 21 #[.val (.long q1), .second, .val (.int (2 : Int32))] [(.int (XT.cmpL (250 : Int64) q1))]))) (fun t k => XT.lcmp X8.here hx rfl (hb hby d_prog_6_method_5_code_20) rfl k) ?_
  refine own_fw (A' := (T8.setTop (mkF m 24 #[.val (.long q1), .second, .val (.int (2 : Int32))] []))) (fun t k => XS.ifNo X8.here hx rfl (hb hby d_prog_6_method_5_code_21) rfl (XT.ll_le_f h2) k) ?_
  refine own_fw (A' := (T8.setTop (mkF m 27 #[.val (.long q1), .second, .val (.int (1 : Int32))] []))) (fun t k => XS.iinc X8.here hx rfl (hb hby d_prog_6_method_5_code_24) rfl (l' := #[.val (.long q1), .second, .val (.int (1 : Int32))]) rfl k) ?_
  refine own_fw (A' := (T8.setTop (mkF m 7 #[.val (.long q1), .second, .val (.int (1 : Int32))] []))) (fun t k => XS.goto X8.here hx rfl (pc0 := 27) (pc' := 7) rfl (hb hby d_prog_6_method_5_code_27) (by decide) (by decide) k) ?_
  refine own_fw (A' := (T8.setTop (mkF m 8 #[.val (.long q1), .second, .val (.int (1 : Int32))] [(.int (1 : Int32))]))) (fun t k => XS.iloadN X8.here hx rfl (hb hby d_prog_6_method_5_code_7) rfl k) ?_
  refine own_fw (A' := (T8.setTop (mkF m 11 #[.val (.long q1), .second, .val (.int (1 : Int32))] []))) (fun t k => XS.ifNo X8.here hx rfl (hb hby d_prog_6_method_5_code_8) rfl (XT.i0_le_f (by decide)) k) ?_
  obtain ⟨T9, X9, e9, st9⟩ := getS2 X8 hx hZ hown (host := "") (Or.inl (hw _ (List.mem_of_getElem? (i := 8) rfl))) Via.refl e8 P0 (g := (mkF m 11 #[.val (.long q1), .second, .val (.int (1 : Int32))] [])) rfl (hb hby d_prog_6_method_5_code_11)
  refine own_fw (A' := (T9.setTop (mkF m 14 #[.val (.long q1), .second, .val (.int (1 : Int32))] [(.ref ba)]))) (fun t k => st9 _ k) ?_
  refine own_fw (A' := (T9.setTop (mkF m 15 #[.val (.long q1), .second, .val (.int (1 : Int32))] [(.int (1 : Int32)), (.ref ba)]))) (fun t k => XS.iloadN X9.here hx rfl (hb hby d_prog_6_method_5_code_14) rfl k) ?_
  obtain ⟨cl10, Ar10, q10, S10, M10, H10, G10⟩ := id P1
  have hin10 : ¬ ((1 : Int32) < 0 ∨ cl10.slots.size ≤ ((1 : Int32)).toNatClampNeg) := inb_of S10 ⟨by decide, by decide⟩
  have hat10 : cl10.slots[((1 : Int32)).toNatClampNeg]? = some (.ref r1) := H10.at hin10 rfl
  refine own_fw (A' := (T9.setTop (mkF m 16 #[.val (.long q1), .second, .val (.int (1 : Int32))] [(.ref r1)]))) (fun t k => X9.aaload hx (j := (1 : Int32)) (v := (.ref r1)) (by rw [e9]; exact Ar10.1) (State.isArrayOf_alike hZ.alike Ar10.2.1) rfl Ar10.2.2 hin10 hat10 (g := (mkF m 15 #[.val (.long q1), .second, .val (.int (1 : Int32))] [(.int (1 : Int32)), (.ref ba)])) rfl rfl (hb hby d_prog_6_method_5_code_15) _ k) ?_
  obtain ⟨T11, X11, e11, st11⟩ := getF X9 hx hZ hown (host := "") (Or.inl (hw _ (List.mem_of_getElem? (i := 11) rfl))) Via.refl e9 P5 (g := (mkF m 16 #[.val (.long q1), .second, .val (.int (1 : Int32))] [(.ref r1)])) rfl rfl (hb hby d_prog_6_method_5_code_16)
  refine own_fw (A' := (T11.setTop (mkF m 19 #[.val (.long q1), .second, .val (.int (1 : Int32))] [(.long (50 : Int64))]))) (fun t k => st11 _ k) ?_
  refine own_fw (A' := (T11.setTop (mkF m 20 #[.val (.long q1), .second, .val (.int (1 : Int32))] [(.long q1), (.long (50 : Int64))]))) (fun t k => XS.lloadN X11.here hx rfl (hb hby d_prog_6_method_5_code_19) rfl k) ?_
  refine own_fw (A' := (T11.setTop (mkF m 21 #[.val (.long q1), .second, .val (.int (1 : Int32))] [(.int (XT.cmpL (50 : Int64) q1))]))) (fun t k => XT.lcmp X11.here hx rfl (hb hby d_prog_6_method_5_code_20) rfl k) ?_
  refine own_fw (A' := (T11.setTop (mkF m 24 #[.val (.long q1), .second, .val (.int (1 : Int32))] []))) (fun t k => XS.ifNo X11.here hx rfl (hb hby d_prog_6_method_5_code_21) rfl (XT.ll_le_f h3) k) ?_
  refine own_fw (A' := (T11.setTop (mkF m 27 #[.val (.long q1), .second, .val (.int (0 : Int32))] []))) (fun t k => XS.iinc X11.here hx rfl (hb hby d_prog_6_method_5_code_24) rfl (l' := #[.val (.long q1), .second, .val (.int (0 : Int32))]) rfl k) ?_
  refine own_fw (A' := (T11.setTop (mkF m 7 #[.val (.long q1), .second, .val (.int (0 : Int32))] []))) (fun t k => XS.goto X11.here hx rfl (pc0 := 27) (pc' := 7) rfl (hb hby d_prog_6_method_5_code_27) (by decide) (by decide) k) ?_
  refine own_fw (A' := (T11.setTop (mkF m 8 #[.val (.long q1), .second, .val (.int (0 : Int32))] [(.int (0 : Int32))]))) (fun t k => XS.iloadN X11.here hx rfl (hb hby d_prog_6_method_5_code_7) rfl k) ?_
  refine own_fw (A' := (T11.setTop (mkF m 30 #[.val (.long q1), .second, .val (.int (0 : Int32))] []))) (fun t k => XS.ifYes X11.here hx rfl (pc0 := 8) (pc' := 30) rfl (hb hby d_prog_6_method_5_code_8) rfl (XT.i0_le_t (by decide)) (by decide) (by decide) k) ?_
  obtain ⟨T12, X12, e12, st12⟩ := getS2 X11 hx hZ hown (host := "") (Or.inl (hw _ (List.mem_of_getElem? (i := 8) rfl))) Via.refl e11 P0 (g := (mkF m 30 #[.val (.long q1), .second, .val (.int (0 : Int32))] [])) rfl (hb hby d_prog_6_method_5_code_30)
  refine own_fw (A' := (T12.setTop (mkF m 33 #[.val (.long q1), .second, .val (.int (0 : Int32))] [(.ref ba)]))) (fun t k => st12 _ k) ?_
  refine own_fw (A' := (T12.setTop (mkF m 34 #[.val (.long q1), .second, .val (.int (0 : Int32))] [(.int (0 : Int32)), (.ref ba)]))) (fun t k => XS.iloadN X12.here hx rfl (hb hby d_prog_6_method_5_code_33) rfl k) ?_
  obtain ⟨cl13, Ar13, q13, S13, M13, H13, G13⟩ := id P1
  have hin13 : ¬ ((0 : Int32) < 0 ∨ cl13.slots.size ≤ ((0 : Int32)).toNatClampNeg) := inb_of S13 ⟨by decide, by decide⟩
  have hat13 : cl13.slots[((0 : Int32)).toNatClampNeg]? = some (.ref r0) := H13.at hin13 rfl
  refine own_fw (A' := (T12.setTop (mkF m 35 #[.val (.long q1), .second, .val (.int (0 : Int32))] [(.ref r0)]))) (fun t k => X12.aaload hx (j := (0 : Int32)) (v := (.ref r0)) (by rw [e12]; exact Ar13.1) (State.isArrayOf_alike hZ.alike Ar13.2.1) rfl Ar13.2.2 hin13 hat13 (g := (mkF m 34 #[.val (.long q1), .second, .val (.int (0 : Int32))] [(.int (0 : Int32)), (.ref ba)])) rfl rfl (hb hby d_prog_6_method_5_code_34) _ k) ?_
  obtain ⟨fs, hr, hrun, hended, hW, hsame⟩ := X12.leave (v := some (.ref r0)) (fun h => by rw [Bd.returns] at h; cases h)
  refine ⟨_, _, ?_, hrun, hended, _, _, rfl, ?_, ⟨_, rfl⟩, hW, hsame.mono (by decide) (by decide)⟩
  · exact retOut X12 hx Bd.returns rfl (Or.inr (Or.inr (Or.inr (Or.inr ⟨rfl, rfl, rfl⟩)))) (hb hby d_prog_6_method_5_code_35) hr
  · show Q_rmOf0 Z q1 ba kb r0 r1 r2 r3 h0 n0 _ T12.heap _
    rw [e12]
    exact ⟨rfl, N0, rfl⟩
theorem ef_rmOf1 (m : MethodId) (q1 : Int64) : entryFrame m #[(.long q1)] 3 = mkF m 0 #[.val (.long q1), .second, .unset] [] := by first | (simp [entryFrame, mkF, argsToLocals, Value.category]; done) | rfl
def Q_rmOf1 (Z : State) (q1 : Int64) (ba : Addr) (kb : ClassId) (r0 : Addr) (r1 : Addr) (r2 : Addr) (r3 : Addr) (h0 : Heap) (n0 : Nat) (v : Option Value) (h : Heap) (L : List Loc) : Prop := v = some (.ref r1) ∧ Fr n0 L ∧ h = h0
set_option maxRecDepth 65536 in
set_option maxHeartbeats 40000000 in
theorem rmOf1 (l : Launch) (Z : State) (a0 : Array Value) (hw : ∀ d ∈ tables_1, d.before a0 Z = true) (ws : List Jvm.Cond) (q1 : Int64) (ba : Addr) (kb : ClassId) (r0 : Addr) (r1 : Addr) (r2 : Addr) (r3 : Addr) (h0 : Heap) (n0 : Nat) (Z0 : n0 ≤ h0.size) (P0 : Sta Z h0 "com/example/spindle/spindle/DispatchTimes$Band" "BANDS" "[Lcom/example/spindle/spindle/DispatchTimes$Band;" (.ref ba)) (P1 : Arv Z h0 ba kb (.object "com/example/spindle/spindle/DispatchTimes$Band") (4 : Int32) [(.ref r0), (.ref r1), (.ref r2), (.ref r3)] .null) (P2 : Exa Z h0 r0 "com/example/spindle/spindle/DispatchTimes$Band") (P3 : Fld Z h0 r0 "com/example/spindle/spindle/DispatchTimes$Band" "lowerMillis" "J" (.long (0 : Int64))) (P4 : Exa Z h0 r1 "com/example/spindle/spindle/DispatchTimes$Band") (P5 : Fld Z h0 r1 "com/example/spindle/spindle/DispatchTimes$Band" "lowerMillis" "J" (.long (50 : Int64))) (P6 : Exa Z h0 r2 "com/example/spindle/spindle/DispatchTimes$Band") (P7 : Fld Z h0 r2 "com/example/spindle/spindle/DispatchTimes$Band" "lowerMillis" "J" (.long (250 : Int64))) (P8 : Exa Z h0 r3 "com/example/spindle/spindle/DispatchTimes$Band") (P9 : Fld Z h0 r3 "com/example/spindle/spindle/DispatchTimes$Band" "lowerMillis" "J" (.long (1000 : Int64))) (h1 : q1 < (1000 : Int64)) (h2 : q1 < (250 : Int64)) (h3 : ¬ (q1 < (50 : Int64))) :
    MetFree l (⟨"com/example/spindle/spindle/DispatchTimes$Band", "of", "(J)Lcom/example/spindle/spindle/DispatchTimes$Band;"⟩ : MethodName) (head1 (Jvm.Cond.code (⟨"com/example/spindle/spindle/DispatchTimes$Band", "of", "(J)Lcom/example/spindle/spindle/DispatchTimes$Band;"⟩ : MethodName) prog_6_method_5_code 3 (some (.object "com/example/spindle/spindle/DispatchTimes$Band")) :: ws) ({ frames := 0, cells := 0, slots := 0, locals := 0 } : Room)) (fun a U => a = #[(.long q1)] ∧ Z.Warmed39 U.vm ∧ U.heap = h0) (fun _ _ _ _ _ => True) (fun _ U o U' => ∃ v L, o = .returned v ∧ Q_rmOf1 Z q1 ba kb r0 r1 r2 r3 h0 n0 v U'.heap L ∧ FrameEnd U o U' L ({ frames := 0, cells := 0, slots := 0, locals := 0 } : Room).cells ({ frames := 0, cells := 0, slots := 0, locals := 0 } : Room).slots) := by
  refine MetFree.of_bodySF (plainFor_of_name pn_com_example_spindle_spindle_DispatchTimes_Band) hisR ?_
  intro p e s m args below meth c s₁ Bd hml0 hP hK
  obtain ⟨rfl, hZ, hh⟩ := hP
  have hx := Bd.exec
  have hby := Bd.bytes
  have hml : c.maxLocals = 3 := hml0
  have hown : s.vm.findClass "com/example/spindle/spindle/DispatchTimes$Band" = some m.cls := findClass_of_methodNamed Bd.named
  have hnm := (name_of_methodNamed Bd.named Bd.method).1
  have X0 : Stand p l e ({ frames := 0, cells := 0, slots := 0, locals := 0 } : Room) s m #[(.long q1)] below meth c s₁ [] 0 0 := Stand.of_body Bd
  have e0 : s₁.heap = h0 := by rw [← hh, Bd.state]; rfl
  have N0 := Fr.nil n0
  refine own_fw (A' := (s₁.setTop (mkF m 0 #[.val (.long q1), .second, .unset] []))) (fun t k => castTop (ef_rmOf1 m q1) k) ?_
  obtain ⟨T1, X1, e1, st1⟩ := getS2 X0 hx hZ hown (host := "") (Or.inl (hw _ (List.mem_of_getElem? (i := 8) rfl))) Via.refl e0 P0 (g := (mkF m 0 #[.val (.long q1), .second, .unset] [])) rfl (hb hby d_prog_6_method_5_code_0)
  refine own_fw (A' := (T1.setTop (mkF m 3 #[.val (.long q1), .second, .unset] [(.ref ba)]))) (fun t k => st1 _ k) ?_
  obtain ⟨cl2, Ar2, q2, S2, M2, H2, G2⟩ := id P1
  refine own_fw (A' := (T1.setTop (mkF m 4 #[.val (.long q1), .second, .unset] [(.int (4 : Int32))]))) (fun t k => X1.arraylength hx (by rw [e1]; exact Ar2.1) (State.isArrayOf_alike hZ.alike Ar2.2.1) (g := (mkF m 3 #[.val (.long q1), .second, .unset] [(.ref ba)])) rfl rfl (hb hby d_prog_6_method_5_code_3) _ (by rw [len_of S2 M2]; exact k)) ?_
  refine own_fw (A' := (T1.setTop (mkF m 5 #[.val (.long q1), .second, .unset] [(.int (1 : Int32)), (.int (4 : Int32))]))) (fun t k => XS.iconst X1.here hx rfl (hb hby d_prog_6_method_5_code_4) k) ?_
  refine own_fw (A' := (T1.setTop (mkF m 6 #[.val (.long q1), .second, .unset] [(.int (3 : Int32))]))) (fun t k => XS.isub X1.here hx rfl (hb hby d_prog_6_method_5_code_5) rfl k) ?_
  refine own_fw (A' := (T1.setTop (mkF m 7 #[.val (.long q1), .second, .val (.int (3 : Int32))] []))) (fun t k => XS.istoreN X1.here hx rfl (hb hby d_prog_6_method_5_code_6) rfl (l' := #[.val (.long q1), .second, .val (.int (3 : Int32))]) rfl k) ?_
  refine own_fw (A' := (T1.setTop (mkF m 8 #[.val (.long q1), .second, .val (.int (3 : Int32))] [(.int (3 : Int32))]))) (fun t k => XS.iloadN X1.here hx rfl (hb hby d_prog_6_method_5_code_7) rfl k) ?_
  refine own_fw (A' := (T1.setTop (mkF m 11 #[.val (.long q1), .second, .val (.int (3 : Int32))] []))) (fun t k => XS.ifNo X1.here hx rfl (hb hby d_prog_6_method_5_code_8) rfl (XT.i0_le_f (by decide)) k) ?_
  obtain ⟨T3, X3, e3, st3⟩ := getS2 X1 hx hZ hown (host := "") (Or.inl (hw _ (List.mem_of_getElem? (i := 8) rfl))) Via.refl e1 P0 (g := (mkF m 11 #[.val (.long q1), .second, .val (.int (3 : Int32))] [])) rfl (hb hby d_prog_6_method_5_code_11)
  refine own_fw (A' := (T3.setTop (mkF m 14 #[.val (.long q1), .second, .val (.int (3 : Int32))] [(.ref ba)]))) (fun t k => st3 _ k) ?_
  refine own_fw (A' := (T3.setTop (mkF m 15 #[.val (.long q1), .second, .val (.int (3 : Int32))] [(.int (3 : Int32)), (.ref ba)]))) (fun t k => XS.iloadN X3.here hx rfl (hb hby d_prog_6_method_5_code_14) rfl k) ?_
  obtain ⟨cl4, Ar4, q4, S4, M4, H4, G4⟩ := id P1
  have hin4 : ¬ ((3 : Int32) < 0 ∨ cl4.slots.size ≤ ((3 : Int32)).toNatClampNeg) := inb_of S4 ⟨by decide, by decide⟩
  have hat4 : cl4.slots[((3 : Int32)).toNatClampNeg]? = some (.ref r3) := H4.at hin4 rfl
  refine own_fw (A' := (T3.setTop (mkF m 16 #[.val (.long q1), .second, .val (.int (3 : Int32))] [(.ref r3)]))) (fun t k => X3.aaload hx (j := (3 : Int32)) (v := (.ref r3)) (by rw [e3]; exact Ar4.1) (State.isArrayOf_alike hZ.alike Ar4.2.1) rfl Ar4.2.2 hin4 hat4 (g := (mkF m 15 #[.val (.long q1), .second, .val (.int (3 : Int32))] [(.int (3 : Int32)), (.ref ba)])) rfl rfl (hb hby d_prog_6_method_5_code_15) _ k) ?_
  obtain ⟨T5, X5, e5, st5⟩ := getF X3 hx hZ hown (host := "") (Or.inl (hw _ (List.mem_of_getElem? (i := 11) rfl))) Via.refl e3 P9 (g := (mkF m 16 #[.val (.long q1), .second, .val (.int (3 : Int32))] [(.ref r3)])) rfl rfl (hb hby d_prog_6_method_5_code_16)
  refine own_fw (A' := (T5.setTop (mkF m 19 #[.val (.long q1), .second, .val (.int (3 : Int32))] [(.long (1000 : Int64))]))) (fun t k => st5 _ k) ?_
  refine own_fw (A' := (T5.setTop (mkF m 20 #[.val (.long q1), .second, .val (.int (3 : Int32))] [(.long q1), (.long (1000 : Int64))]))) (fun t k => XS.lloadN X5.here hx rfl (hb hby d_prog_6_method_5_code_19) rfl k) ?_
  refine own_fw (A' := (T5.setTop (mkF m 21 #[.val (.long q1), .second, .val (.int (3 : Int32))] [(.int (XT.cmpL (1000 : Int64) q1))]))) (fun t k => XT.lcmp X5.here hx rfl (hb hby d_prog_6_method_5_code_20) rfl k) ?_
  refine own_fw (A' := (T5.setTop (mkF m 24 #[.val (.long q1), .second, .val (.int (3 : Int32))] []))) (fun t k => XS.ifNo X5.here hx rfl (hb hby d_prog_6_method_5_code_21) rfl (XT.ll_le_f h1) k) ?_
  refine own_fw (A' := (T5.setTop (mkF m 27 #[.val (.long q1), .second, .val (.int (2 : Int32))] []))) (fun t k => XS.iinc X5.here hx rfl (hb hby d_prog_6_method_5_code_24) rfl (l' := #[.val (.long q1), .second, .val (.int (2 : Int32))]) rfl k) ?_
  refine own_fw (A' := (T5.setTop (mkF m 7 #[.val (.long q1), .second, .val (.int (2 : Int32))] []))) (fun t k => XS.goto X5.here hx rfl (pc0 := 27) (pc' := 7) rfl (hb hby d_prog_6_method_5_code_27) (by decide) (by decide) k) ?_
  refine own_fw (A' := (T5.setTop (mkF m 8 #[.val (.long q1), .second, .val (.int (2 : Int32))] [(.int (2 : Int32))]))) (fun t k => XS.iloadN X5.here hx rfl (hb hby d_prog_6_method_5_code_7) rfl k) ?_
  refine own_fw (A' := (T5.setTop (mkF m 11 #[.val (.long q1), .second, .val (.int (2 : Int32))] []))) (fun t k => XS.ifNo X5.here hx rfl (hb hby d_prog_6_method_5_code_8) rfl (XT.i0_le_f (by decide)) k) ?_
  obtain ⟨T6, X6, e6, st6⟩ := getS2 X5 hx hZ hown (host := "") (Or.inl (hw _ (List.mem_of_getElem? (i := 8) rfl))) Via.refl e5 P0 (g := (mkF m 11 #[.val (.long q1), .second, .val (.int (2 : Int32))] [])) rfl (hb hby d_prog_6_method_5_code_11)
  refine own_fw (A' := (T6.setTop (mkF m 14 #[.val (.long q1), .second, .val (.int (2 : Int32))] [(.ref ba)]))) (fun t k => st6 _ k) ?_
  refine own_fw (A' := (T6.setTop (mkF m 15 #[.val (.long q1), .second, .val (.int (2 : Int32))] [(.int (2 : Int32)), (.ref ba)]))) (fun t k => XS.iloadN X6.here hx rfl (hb hby d_prog_6_method_5_code_14) rfl k) ?_
  obtain ⟨cl7, Ar7, q7, S7, M7, H7, G7⟩ := id P1
  have hin7 : ¬ ((2 : Int32) < 0 ∨ cl7.slots.size ≤ ((2 : Int32)).toNatClampNeg) := inb_of S7 ⟨by decide, by decide⟩
  have hat7 : cl7.slots[((2 : Int32)).toNatClampNeg]? = some (.ref r2) := H7.at hin7 rfl
  refine own_fw (A' := (T6.setTop (mkF m 16 #[.val (.long q1), .second, .val (.int (2 : Int32))] [(.ref r2)]))) (fun t k => X6.aaload hx (j := (2 : Int32)) (v := (.ref r2)) (by rw [e6]; exact Ar7.1) (State.isArrayOf_alike hZ.alike Ar7.2.1) rfl Ar7.2.2 hin7 hat7 (g := (mkF m 15 #[.val (.long q1), .second, .val (.int (2 : Int32))] [(.int (2 : Int32)), (.ref ba)])) rfl rfl (hb hby d_prog_6_method_5_code_15) _ k) ?_
  obtain ⟨T8, X8, e8, st8⟩ := getF X6 hx hZ hown (host := "") (Or.inl (hw _ (List.mem_of_getElem? (i := 11) rfl))) Via.refl e6 P7 (g := (mkF m 16 #[.val (.long q1), .second, .val (.int (2 : Int32))] [(.ref r2)])) rfl rfl (hb hby d_prog_6_method_5_code_16)
  refine own_fw (A' := (T8.setTop (mkF m 19 #[.val (.long q1), .second, .val (.int (2 : Int32))] [(.long (250 : Int64))]))) (fun t k => st8 _ k) ?_
  refine own_fw (A' := (T8.setTop (mkF m 20 #[.val (.long q1), .second, .val (.int (2 : Int32))] [(.long q1), (.long (250 : Int64))]))) (fun t k => XS.lloadN X8.here hx rfl (hb hby d_prog_6_method_5_code_19) rfl k) ?_
  refine own_fw (A' := (T8.setTop (mkF m 21 #[.val (.long q1), .second, .val (.int (2 : Int32))] [(.int (XT.cmpL (250 : Int64) q1))]))) (fun t k => XT.lcmp X8.here hx rfl (hb hby d_prog_6_method_5_code_20) rfl k) ?_
  refine own_fw (A' := (T8.setTop (mkF m 24 #[.val (.long q1), .second, .val (.int (2 : Int32))] []))) (fun t k => XS.ifNo X8.here hx rfl (hb hby d_prog_6_method_5_code_21) rfl (XT.ll_le_f h2) k) ?_
  refine own_fw (A' := (T8.setTop (mkF m 27 #[.val (.long q1), .second, .val (.int (1 : Int32))] []))) (fun t k => XS.iinc X8.here hx rfl (hb hby d_prog_6_method_5_code_24) rfl (l' := #[.val (.long q1), .second, .val (.int (1 : Int32))]) rfl k) ?_
  refine own_fw (A' := (T8.setTop (mkF m 7 #[.val (.long q1), .second, .val (.int (1 : Int32))] []))) (fun t k => XS.goto X8.here hx rfl (pc0 := 27) (pc' := 7) rfl (hb hby d_prog_6_method_5_code_27) (by decide) (by decide) k) ?_
  refine own_fw (A' := (T8.setTop (mkF m 8 #[.val (.long q1), .second, .val (.int (1 : Int32))] [(.int (1 : Int32))]))) (fun t k => XS.iloadN X8.here hx rfl (hb hby d_prog_6_method_5_code_7) rfl k) ?_
  refine own_fw (A' := (T8.setTop (mkF m 11 #[.val (.long q1), .second, .val (.int (1 : Int32))] []))) (fun t k => XS.ifNo X8.here hx rfl (hb hby d_prog_6_method_5_code_8) rfl (XT.i0_le_f (by decide)) k) ?_
  obtain ⟨T9, X9, e9, st9⟩ := getS2 X8 hx hZ hown (host := "") (Or.inl (hw _ (List.mem_of_getElem? (i := 8) rfl))) Via.refl e8 P0 (g := (mkF m 11 #[.val (.long q1), .second, .val (.int (1 : Int32))] [])) rfl (hb hby d_prog_6_method_5_code_11)
  refine own_fw (A' := (T9.setTop (mkF m 14 #[.val (.long q1), .second, .val (.int (1 : Int32))] [(.ref ba)]))) (fun t k => st9 _ k) ?_
  refine own_fw (A' := (T9.setTop (mkF m 15 #[.val (.long q1), .second, .val (.int (1 : Int32))] [(.int (1 : Int32)), (.ref ba)]))) (fun t k => XS.iloadN X9.here hx rfl (hb hby d_prog_6_method_5_code_14) rfl k) ?_
  obtain ⟨cl10, Ar10, q10, S10, M10, H10, G10⟩ := id P1
  have hin10 : ¬ ((1 : Int32) < 0 ∨ cl10.slots.size ≤ ((1 : Int32)).toNatClampNeg) := inb_of S10 ⟨by decide, by decide⟩
  have hat10 : cl10.slots[((1 : Int32)).toNatClampNeg]? = some (.ref r1) := H10.at hin10 rfl
  refine own_fw (A' := (T9.setTop (mkF m 16 #[.val (.long q1), .second, .val (.int (1 : Int32))] [(.ref r1)]))) (fun t k => X9.aaload hx (j := (1 : Int32)) (v := (.ref r1)) (by rw [e9]; exact Ar10.1) (State.isArrayOf_alike hZ.alike Ar10.2.1) rfl Ar10.2.2 hin10 hat10 (g := (mkF m 15 #[.val (.long q1), .second, .val (.int (1 : Int32))] [(.int (1 : Int32)), (.ref ba)])) rfl rfl (hb hby d_prog_6_method_5_code_15) _ k) ?_
  obtain ⟨T11, X11, e11, st11⟩ := getF X9 hx hZ hown (host := "") (Or.inl (hw _ (List.mem_of_getElem? (i := 11) rfl))) Via.refl e9 P5 (g := (mkF m 16 #[.val (.long q1), .second, .val (.int (1 : Int32))] [(.ref r1)])) rfl rfl (hb hby d_prog_6_method_5_code_16)
  refine own_fw (A' := (T11.setTop (mkF m 19 #[.val (.long q1), .second, .val (.int (1 : Int32))] [(.long (50 : Int64))]))) (fun t k => st11 _ k) ?_
  refine own_fw (A' := (T11.setTop (mkF m 20 #[.val (.long q1), .second, .val (.int (1 : Int32))] [(.long q1), (.long (50 : Int64))]))) (fun t k => XS.lloadN X11.here hx rfl (hb hby d_prog_6_method_5_code_19) rfl k) ?_
  refine own_fw (A' := (T11.setTop (mkF m 21 #[.val (.long q1), .second, .val (.int (1 : Int32))] [(.int (XT.cmpL (50 : Int64) q1))]))) (fun t k => XT.lcmp X11.here hx rfl (hb hby d_prog_6_method_5_code_20) rfl k) ?_
  refine own_fw (A' := (T11.setTop (mkF m 30 #[.val (.long q1), .second, .val (.int (1 : Int32))] []))) (fun t k => XS.ifYes X11.here hx rfl (pc0 := 21) (pc' := 30) rfl (hb hby d_prog_6_method_5_code_21) rfl (XT.ll_le_t h3) (by decide) (by decide) k) ?_
  obtain ⟨T12, X12, e12, st12⟩ := getS2 X11 hx hZ hown (host := "") (Or.inl (hw _ (List.mem_of_getElem? (i := 8) rfl))) Via.refl e11 P0 (g := (mkF m 30 #[.val (.long q1), .second, .val (.int (1 : Int32))] [])) rfl (hb hby d_prog_6_method_5_code_30)
  refine own_fw (A' := (T12.setTop (mkF m 33 #[.val (.long q1), .second, .val (.int (1 : Int32))] [(.ref ba)]))) (fun t k => st12 _ k) ?_
  refine own_fw (A' := (T12.setTop (mkF m 34 #[.val (.long q1), .second, .val (.int (1 : Int32))] [(.int (1 : Int32)), (.ref ba)]))) (fun t k => XS.iloadN X12.here hx rfl (hb hby d_prog_6_method_5_code_33) rfl k) ?_
  obtain ⟨cl13, Ar13, q13, S13, M13, H13, G13⟩ := id P1
  have hin13 : ¬ ((1 : Int32) < 0 ∨ cl13.slots.size ≤ ((1 : Int32)).toNatClampNeg) := inb_of S13 ⟨by decide, by decide⟩
  have hat13 : cl13.slots[((1 : Int32)).toNatClampNeg]? = some (.ref r1) := H13.at hin13 rfl
  refine own_fw (A' := (T12.setTop (mkF m 35 #[.val (.long q1), .second, .val (.int (1 : Int32))] [(.ref r1)]))) (fun t k => X12.aaload hx (j := (1 : Int32)) (v := (.ref r1)) (by rw [e12]; exact Ar13.1) (State.isArrayOf_alike hZ.alike Ar13.2.1) rfl Ar13.2.2 hin13 hat13 (g := (mkF m 34 #[.val (.long q1), .second, .val (.int (1 : Int32))] [(.int (1 : Int32)), (.ref ba)])) rfl rfl (hb hby d_prog_6_method_5_code_34) _ k) ?_
  obtain ⟨fs, hr, hrun, hended, hW, hsame⟩ := X12.leave (v := some (.ref r1)) (fun h => by rw [Bd.returns] at h; cases h)
  refine ⟨_, _, ?_, hrun, hended, _, _, rfl, ?_, ⟨_, rfl⟩, hW, hsame.mono (by decide) (by decide)⟩
  · exact retOut X12 hx Bd.returns rfl (Or.inr (Or.inr (Or.inr (Or.inr ⟨rfl, rfl, rfl⟩)))) (hb hby d_prog_6_method_5_code_35) hr
  · show Q_rmOf1 Z q1 ba kb r0 r1 r2 r3 h0 n0 _ T12.heap _
    rw [e12]
    exact ⟨rfl, N0, rfl⟩
theorem ef_rmOf2 (m : MethodId) (q1 : Int64) : entryFrame m #[(.long q1)] 3 = mkF m 0 #[.val (.long q1), .second, .unset] [] := by first | (simp [entryFrame, mkF, argsToLocals, Value.category]; done) | rfl
def Q_rmOf2 (Z : State) (q1 : Int64) (ba : Addr) (kb : ClassId) (r0 : Addr) (r1 : Addr) (r2 : Addr) (r3 : Addr) (h0 : Heap) (n0 : Nat) (v : Option Value) (h : Heap) (L : List Loc) : Prop := v = some (.ref r2) ∧ Fr n0 L ∧ h = h0
set_option maxRecDepth 65536 in
set_option maxHeartbeats 40000000 in
theorem rmOf2 (l : Launch) (Z : State) (a0 : Array Value) (hw : ∀ d ∈ tables_1, d.before a0 Z = true) (ws : List Jvm.Cond) (q1 : Int64) (ba : Addr) (kb : ClassId) (r0 : Addr) (r1 : Addr) (r2 : Addr) (r3 : Addr) (h0 : Heap) (n0 : Nat) (Z0 : n0 ≤ h0.size) (P0 : Sta Z h0 "com/example/spindle/spindle/DispatchTimes$Band" "BANDS" "[Lcom/example/spindle/spindle/DispatchTimes$Band;" (.ref ba)) (P1 : Arv Z h0 ba kb (.object "com/example/spindle/spindle/DispatchTimes$Band") (4 : Int32) [(.ref r0), (.ref r1), (.ref r2), (.ref r3)] .null) (P2 : Exa Z h0 r0 "com/example/spindle/spindle/DispatchTimes$Band") (P3 : Fld Z h0 r0 "com/example/spindle/spindle/DispatchTimes$Band" "lowerMillis" "J" (.long (0 : Int64))) (P4 : Exa Z h0 r1 "com/example/spindle/spindle/DispatchTimes$Band") (P5 : Fld Z h0 r1 "com/example/spindle/spindle/DispatchTimes$Band" "lowerMillis" "J" (.long (50 : Int64))) (P6 : Exa Z h0 r2 "com/example/spindle/spindle/DispatchTimes$Band") (P7 : Fld Z h0 r2 "com/example/spindle/spindle/DispatchTimes$Band" "lowerMillis" "J" (.long (250 : Int64))) (P8 : Exa Z h0 r3 "com/example/spindle/spindle/DispatchTimes$Band") (P9 : Fld Z h0 r3 "com/example/spindle/spindle/DispatchTimes$Band" "lowerMillis" "J" (.long (1000 : Int64))) (h1 : q1 < (1000 : Int64)) (h2 : ¬ (q1 < (250 : Int64))) :
    MetFree l (⟨"com/example/spindle/spindle/DispatchTimes$Band", "of", "(J)Lcom/example/spindle/spindle/DispatchTimes$Band;"⟩ : MethodName) (head1 (Jvm.Cond.code (⟨"com/example/spindle/spindle/DispatchTimes$Band", "of", "(J)Lcom/example/spindle/spindle/DispatchTimes$Band;"⟩ : MethodName) prog_6_method_5_code 3 (some (.object "com/example/spindle/spindle/DispatchTimes$Band")) :: ws) ({ frames := 0, cells := 0, slots := 0, locals := 0 } : Room)) (fun a U => a = #[(.long q1)] ∧ Z.Warmed39 U.vm ∧ U.heap = h0) (fun _ _ _ _ _ => True) (fun _ U o U' => ∃ v L, o = .returned v ∧ Q_rmOf2 Z q1 ba kb r0 r1 r2 r3 h0 n0 v U'.heap L ∧ FrameEnd U o U' L ({ frames := 0, cells := 0, slots := 0, locals := 0 } : Room).cells ({ frames := 0, cells := 0, slots := 0, locals := 0 } : Room).slots) := by
  refine MetFree.of_bodySF (plainFor_of_name pn_com_example_spindle_spindle_DispatchTimes_Band) hisR ?_
  intro p e s m args below meth c s₁ Bd hml0 hP hK
  obtain ⟨rfl, hZ, hh⟩ := hP
  have hx := Bd.exec
  have hby := Bd.bytes
  have hml : c.maxLocals = 3 := hml0
  have hown : s.vm.findClass "com/example/spindle/spindle/DispatchTimes$Band" = some m.cls := findClass_of_methodNamed Bd.named
  have hnm := (name_of_methodNamed Bd.named Bd.method).1
  have X0 : Stand p l e ({ frames := 0, cells := 0, slots := 0, locals := 0 } : Room) s m #[(.long q1)] below meth c s₁ [] 0 0 := Stand.of_body Bd
  have e0 : s₁.heap = h0 := by rw [← hh, Bd.state]; rfl
  have N0 := Fr.nil n0
  refine own_fw (A' := (s₁.setTop (mkF m 0 #[.val (.long q1), .second, .unset] []))) (fun t k => castTop (ef_rmOf2 m q1) k) ?_
  obtain ⟨T1, X1, e1, st1⟩ := getS2 X0 hx hZ hown (host := "") (Or.inl (hw _ (List.mem_of_getElem? (i := 8) rfl))) Via.refl e0 P0 (g := (mkF m 0 #[.val (.long q1), .second, .unset] [])) rfl (hb hby d_prog_6_method_5_code_0)
  refine own_fw (A' := (T1.setTop (mkF m 3 #[.val (.long q1), .second, .unset] [(.ref ba)]))) (fun t k => st1 _ k) ?_
  obtain ⟨cl2, Ar2, q2, S2, M2, H2, G2⟩ := id P1
  refine own_fw (A' := (T1.setTop (mkF m 4 #[.val (.long q1), .second, .unset] [(.int (4 : Int32))]))) (fun t k => X1.arraylength hx (by rw [e1]; exact Ar2.1) (State.isArrayOf_alike hZ.alike Ar2.2.1) (g := (mkF m 3 #[.val (.long q1), .second, .unset] [(.ref ba)])) rfl rfl (hb hby d_prog_6_method_5_code_3) _ (by rw [len_of S2 M2]; exact k)) ?_
  refine own_fw (A' := (T1.setTop (mkF m 5 #[.val (.long q1), .second, .unset] [(.int (1 : Int32)), (.int (4 : Int32))]))) (fun t k => XS.iconst X1.here hx rfl (hb hby d_prog_6_method_5_code_4) k) ?_
  refine own_fw (A' := (T1.setTop (mkF m 6 #[.val (.long q1), .second, .unset] [(.int (3 : Int32))]))) (fun t k => XS.isub X1.here hx rfl (hb hby d_prog_6_method_5_code_5) rfl k) ?_
  refine own_fw (A' := (T1.setTop (mkF m 7 #[.val (.long q1), .second, .val (.int (3 : Int32))] []))) (fun t k => XS.istoreN X1.here hx rfl (hb hby d_prog_6_method_5_code_6) rfl (l' := #[.val (.long q1), .second, .val (.int (3 : Int32))]) rfl k) ?_
  refine own_fw (A' := (T1.setTop (mkF m 8 #[.val (.long q1), .second, .val (.int (3 : Int32))] [(.int (3 : Int32))]))) (fun t k => XS.iloadN X1.here hx rfl (hb hby d_prog_6_method_5_code_7) rfl k) ?_
  refine own_fw (A' := (T1.setTop (mkF m 11 #[.val (.long q1), .second, .val (.int (3 : Int32))] []))) (fun t k => XS.ifNo X1.here hx rfl (hb hby d_prog_6_method_5_code_8) rfl (XT.i0_le_f (by decide)) k) ?_
  obtain ⟨T3, X3, e3, st3⟩ := getS2 X1 hx hZ hown (host := "") (Or.inl (hw _ (List.mem_of_getElem? (i := 8) rfl))) Via.refl e1 P0 (g := (mkF m 11 #[.val (.long q1), .second, .val (.int (3 : Int32))] [])) rfl (hb hby d_prog_6_method_5_code_11)
  refine own_fw (A' := (T3.setTop (mkF m 14 #[.val (.long q1), .second, .val (.int (3 : Int32))] [(.ref ba)]))) (fun t k => st3 _ k) ?_
  refine own_fw (A' := (T3.setTop (mkF m 15 #[.val (.long q1), .second, .val (.int (3 : Int32))] [(.int (3 : Int32)), (.ref ba)]))) (fun t k => XS.iloadN X3.here hx rfl (hb hby d_prog_6_method_5_code_14) rfl k) ?_
  obtain ⟨cl4, Ar4, q4, S4, M4, H4, G4⟩ := id P1
  have hin4 : ¬ ((3 : Int32) < 0 ∨ cl4.slots.size ≤ ((3 : Int32)).toNatClampNeg) := inb_of S4 ⟨by decide, by decide⟩
  have hat4 : cl4.slots[((3 : Int32)).toNatClampNeg]? = some (.ref r3) := H4.at hin4 rfl
  refine own_fw (A' := (T3.setTop (mkF m 16 #[.val (.long q1), .second, .val (.int (3 : Int32))] [(.ref r3)]))) (fun t k => X3.aaload hx (j := (3 : Int32)) (v := (.ref r3)) (by rw [e3]; exact Ar4.1) (State.isArrayOf_alike hZ.alike Ar4.2.1) rfl Ar4.2.2 hin4 hat4 (g := (mkF m 15 #[.val (.long q1), .second, .val (.int (3 : Int32))] [(.int (3 : Int32)), (.ref ba)])) rfl rfl (hb hby d_prog_6_method_5_code_15) _ k) ?_
  obtain ⟨T5, X5, e5, st5⟩ := getF X3 hx hZ hown (host := "") (Or.inl (hw _ (List.mem_of_getElem? (i := 11) rfl))) Via.refl e3 P9 (g := (mkF m 16 #[.val (.long q1), .second, .val (.int (3 : Int32))] [(.ref r3)])) rfl rfl (hb hby d_prog_6_method_5_code_16)
  refine own_fw (A' := (T5.setTop (mkF m 19 #[.val (.long q1), .second, .val (.int (3 : Int32))] [(.long (1000 : Int64))]))) (fun t k => st5 _ k) ?_
  refine own_fw (A' := (T5.setTop (mkF m 20 #[.val (.long q1), .second, .val (.int (3 : Int32))] [(.long q1), (.long (1000 : Int64))]))) (fun t k => XS.lloadN X5.here hx rfl (hb hby d_prog_6_method_5_code_19) rfl k) ?_
  refine own_fw (A' := (T5.setTop (mkF m 21 #[.val (.long q1), .second, .val (.int (3 : Int32))] [(.int (XT.cmpL (1000 : Int64) q1))]))) (fun t k => XT.lcmp X5.here hx rfl (hb hby d_prog_6_method_5_code_20) rfl k) ?_
  refine own_fw (A' := (T5.setTop (mkF m 24 #[.val (.long q1), .second, .val (.int (3 : Int32))] []))) (fun t k => XS.ifNo X5.here hx rfl (hb hby d_prog_6_method_5_code_21) rfl (XT.ll_le_f h1) k) ?_
  refine own_fw (A' := (T5.setTop (mkF m 27 #[.val (.long q1), .second, .val (.int (2 : Int32))] []))) (fun t k => XS.iinc X5.here hx rfl (hb hby d_prog_6_method_5_code_24) rfl (l' := #[.val (.long q1), .second, .val (.int (2 : Int32))]) rfl k) ?_
  refine own_fw (A' := (T5.setTop (mkF m 7 #[.val (.long q1), .second, .val (.int (2 : Int32))] []))) (fun t k => XS.goto X5.here hx rfl (pc0 := 27) (pc' := 7) rfl (hb hby d_prog_6_method_5_code_27) (by decide) (by decide) k) ?_
  refine own_fw (A' := (T5.setTop (mkF m 8 #[.val (.long q1), .second, .val (.int (2 : Int32))] [(.int (2 : Int32))]))) (fun t k => XS.iloadN X5.here hx rfl (hb hby d_prog_6_method_5_code_7) rfl k) ?_
  refine own_fw (A' := (T5.setTop (mkF m 11 #[.val (.long q1), .second, .val (.int (2 : Int32))] []))) (fun t k => XS.ifNo X5.here hx rfl (hb hby d_prog_6_method_5_code_8) rfl (XT.i0_le_f (by decide)) k) ?_
  obtain ⟨T6, X6, e6, st6⟩ := getS2 X5 hx hZ hown (host := "") (Or.inl (hw _ (List.mem_of_getElem? (i := 8) rfl))) Via.refl e5 P0 (g := (mkF m 11 #[.val (.long q1), .second, .val (.int (2 : Int32))] [])) rfl (hb hby d_prog_6_method_5_code_11)
  refine own_fw (A' := (T6.setTop (mkF m 14 #[.val (.long q1), .second, .val (.int (2 : Int32))] [(.ref ba)]))) (fun t k => st6 _ k) ?_
  refine own_fw (A' := (T6.setTop (mkF m 15 #[.val (.long q1), .second, .val (.int (2 : Int32))] [(.int (2 : Int32)), (.ref ba)]))) (fun t k => XS.iloadN X6.here hx rfl (hb hby d_prog_6_method_5_code_14) rfl k) ?_
  obtain ⟨cl7, Ar7, q7, S7, M7, H7, G7⟩ := id P1
  have hin7 : ¬ ((2 : Int32) < 0 ∨ cl7.slots.size ≤ ((2 : Int32)).toNatClampNeg) := inb_of S7 ⟨by decide, by decide⟩
  have hat7 : cl7.slots[((2 : Int32)).toNatClampNeg]? = some (.ref r2) := H7.at hin7 rfl
  refine own_fw (A' := (T6.setTop (mkF m 16 #[.val (.long q1), .second, .val (.int (2 : Int32))] [(.ref r2)]))) (fun t k => X6.aaload hx (j := (2 : Int32)) (v := (.ref r2)) (by rw [e6]; exact Ar7.1) (State.isArrayOf_alike hZ.alike Ar7.2.1) rfl Ar7.2.2 hin7 hat7 (g := (mkF m 15 #[.val (.long q1), .second, .val (.int (2 : Int32))] [(.int (2 : Int32)), (.ref ba)])) rfl rfl (hb hby d_prog_6_method_5_code_15) _ k) ?_
  obtain ⟨T8, X8, e8, st8⟩ := getF X6 hx hZ hown (host := "") (Or.inl (hw _ (List.mem_of_getElem? (i := 11) rfl))) Via.refl e6 P7 (g := (mkF m 16 #[.val (.long q1), .second, .val (.int (2 : Int32))] [(.ref r2)])) rfl rfl (hb hby d_prog_6_method_5_code_16)
  refine own_fw (A' := (T8.setTop (mkF m 19 #[.val (.long q1), .second, .val (.int (2 : Int32))] [(.long (250 : Int64))]))) (fun t k => st8 _ k) ?_
  refine own_fw (A' := (T8.setTop (mkF m 20 #[.val (.long q1), .second, .val (.int (2 : Int32))] [(.long q1), (.long (250 : Int64))]))) (fun t k => XS.lloadN X8.here hx rfl (hb hby d_prog_6_method_5_code_19) rfl k) ?_
  refine own_fw (A' := (T8.setTop (mkF m 21 #[.val (.long q1), .second, .val (.int (2 : Int32))] [(.int (XT.cmpL (250 : Int64) q1))]))) (fun t k => XT.lcmp X8.here hx rfl (hb hby d_prog_6_method_5_code_20) rfl k) ?_
  refine own_fw (A' := (T8.setTop (mkF m 30 #[.val (.long q1), .second, .val (.int (2 : Int32))] []))) (fun t k => XS.ifYes X8.here hx rfl (pc0 := 21) (pc' := 30) rfl (hb hby d_prog_6_method_5_code_21) rfl (XT.ll_le_t h2) (by decide) (by decide) k) ?_
  obtain ⟨T9, X9, e9, st9⟩ := getS2 X8 hx hZ hown (host := "") (Or.inl (hw _ (List.mem_of_getElem? (i := 8) rfl))) Via.refl e8 P0 (g := (mkF m 30 #[.val (.long q1), .second, .val (.int (2 : Int32))] [])) rfl (hb hby d_prog_6_method_5_code_30)
  refine own_fw (A' := (T9.setTop (mkF m 33 #[.val (.long q1), .second, .val (.int (2 : Int32))] [(.ref ba)]))) (fun t k => st9 _ k) ?_
  refine own_fw (A' := (T9.setTop (mkF m 34 #[.val (.long q1), .second, .val (.int (2 : Int32))] [(.int (2 : Int32)), (.ref ba)]))) (fun t k => XS.iloadN X9.here hx rfl (hb hby d_prog_6_method_5_code_33) rfl k) ?_
  obtain ⟨cl10, Ar10, q10, S10, M10, H10, G10⟩ := id P1
  have hin10 : ¬ ((2 : Int32) < 0 ∨ cl10.slots.size ≤ ((2 : Int32)).toNatClampNeg) := inb_of S10 ⟨by decide, by decide⟩
  have hat10 : cl10.slots[((2 : Int32)).toNatClampNeg]? = some (.ref r2) := H10.at hin10 rfl
  refine own_fw (A' := (T9.setTop (mkF m 35 #[.val (.long q1), .second, .val (.int (2 : Int32))] [(.ref r2)]))) (fun t k => X9.aaload hx (j := (2 : Int32)) (v := (.ref r2)) (by rw [e9]; exact Ar10.1) (State.isArrayOf_alike hZ.alike Ar10.2.1) rfl Ar10.2.2 hin10 hat10 (g := (mkF m 34 #[.val (.long q1), .second, .val (.int (2 : Int32))] [(.int (2 : Int32)), (.ref ba)])) rfl rfl (hb hby d_prog_6_method_5_code_34) _ k) ?_
  obtain ⟨fs, hr, hrun, hended, hW, hsame⟩ := X9.leave (v := some (.ref r2)) (fun h => by rw [Bd.returns] at h; cases h)
  refine ⟨_, _, ?_, hrun, hended, _, _, rfl, ?_, ⟨_, rfl⟩, hW, hsame.mono (by decide) (by decide)⟩
  · exact retOut X9 hx Bd.returns rfl (Or.inr (Or.inr (Or.inr (Or.inr ⟨rfl, rfl, rfl⟩)))) (hb hby d_prog_6_method_5_code_35) hr
  · show Q_rmOf2 Z q1 ba kb r0 r1 r2 r3 h0 n0 _ T9.heap _
    rw [e9]
    exact ⟨rfl, N0, rfl⟩
theorem ef_rmOf3 (m : MethodId) (q1 : Int64) : entryFrame m #[(.long q1)] 3 = mkF m 0 #[.val (.long q1), .second, .unset] [] := by first | (simp [entryFrame, mkF, argsToLocals, Value.category]; done) | rfl
def Q_rmOf3 (Z : State) (q1 : Int64) (ba : Addr) (kb : ClassId) (r0 : Addr) (r1 : Addr) (r2 : Addr) (r3 : Addr) (h0 : Heap) (n0 : Nat) (v : Option Value) (h : Heap) (L : List Loc) : Prop := v = some (.ref r3) ∧ Fr n0 L ∧ h = h0
set_option maxRecDepth 65536 in
set_option maxHeartbeats 40000000 in
theorem rmOf3 (l : Launch) (Z : State) (a0 : Array Value) (hw : ∀ d ∈ tables_1, d.before a0 Z = true) (ws : List Jvm.Cond) (q1 : Int64) (ba : Addr) (kb : ClassId) (r0 : Addr) (r1 : Addr) (r2 : Addr) (r3 : Addr) (h0 : Heap) (n0 : Nat) (Z0 : n0 ≤ h0.size) (P0 : Sta Z h0 "com/example/spindle/spindle/DispatchTimes$Band" "BANDS" "[Lcom/example/spindle/spindle/DispatchTimes$Band;" (.ref ba)) (P1 : Arv Z h0 ba kb (.object "com/example/spindle/spindle/DispatchTimes$Band") (4 : Int32) [(.ref r0), (.ref r1), (.ref r2), (.ref r3)] .null) (P2 : Exa Z h0 r0 "com/example/spindle/spindle/DispatchTimes$Band") (P3 : Fld Z h0 r0 "com/example/spindle/spindle/DispatchTimes$Band" "lowerMillis" "J" (.long (0 : Int64))) (P4 : Exa Z h0 r1 "com/example/spindle/spindle/DispatchTimes$Band") (P5 : Fld Z h0 r1 "com/example/spindle/spindle/DispatchTimes$Band" "lowerMillis" "J" (.long (50 : Int64))) (P6 : Exa Z h0 r2 "com/example/spindle/spindle/DispatchTimes$Band") (P7 : Fld Z h0 r2 "com/example/spindle/spindle/DispatchTimes$Band" "lowerMillis" "J" (.long (250 : Int64))) (P8 : Exa Z h0 r3 "com/example/spindle/spindle/DispatchTimes$Band") (P9 : Fld Z h0 r3 "com/example/spindle/spindle/DispatchTimes$Band" "lowerMillis" "J" (.long (1000 : Int64))) (h1 : ¬ (q1 < (1000 : Int64))) :
    MetFree l (⟨"com/example/spindle/spindle/DispatchTimes$Band", "of", "(J)Lcom/example/spindle/spindle/DispatchTimes$Band;"⟩ : MethodName) (head1 (Jvm.Cond.code (⟨"com/example/spindle/spindle/DispatchTimes$Band", "of", "(J)Lcom/example/spindle/spindle/DispatchTimes$Band;"⟩ : MethodName) prog_6_method_5_code 3 (some (.object "com/example/spindle/spindle/DispatchTimes$Band")) :: ws) ({ frames := 0, cells := 0, slots := 0, locals := 0 } : Room)) (fun a U => a = #[(.long q1)] ∧ Z.Warmed39 U.vm ∧ U.heap = h0) (fun _ _ _ _ _ => True) (fun _ U o U' => ∃ v L, o = .returned v ∧ Q_rmOf3 Z q1 ba kb r0 r1 r2 r3 h0 n0 v U'.heap L ∧ FrameEnd U o U' L ({ frames := 0, cells := 0, slots := 0, locals := 0 } : Room).cells ({ frames := 0, cells := 0, slots := 0, locals := 0 } : Room).slots) := by
  refine MetFree.of_bodySF (plainFor_of_name pn_com_example_spindle_spindle_DispatchTimes_Band) hisR ?_
  intro p e s m args below meth c s₁ Bd hml0 hP hK
  obtain ⟨rfl, hZ, hh⟩ := hP
  have hx := Bd.exec
  have hby := Bd.bytes
  have hml : c.maxLocals = 3 := hml0
  have hown : s.vm.findClass "com/example/spindle/spindle/DispatchTimes$Band" = some m.cls := findClass_of_methodNamed Bd.named
  have hnm := (name_of_methodNamed Bd.named Bd.method).1
  have X0 : Stand p l e ({ frames := 0, cells := 0, slots := 0, locals := 0 } : Room) s m #[(.long q1)] below meth c s₁ [] 0 0 := Stand.of_body Bd
  have e0 : s₁.heap = h0 := by rw [← hh, Bd.state]; rfl
  have N0 := Fr.nil n0
  refine own_fw (A' := (s₁.setTop (mkF m 0 #[.val (.long q1), .second, .unset] []))) (fun t k => castTop (ef_rmOf3 m q1) k) ?_
  obtain ⟨T1, X1, e1, st1⟩ := getS2 X0 hx hZ hown (host := "") (Or.inl (hw _ (List.mem_of_getElem? (i := 8) rfl))) Via.refl e0 P0 (g := (mkF m 0 #[.val (.long q1), .second, .unset] [])) rfl (hb hby d_prog_6_method_5_code_0)
  refine own_fw (A' := (T1.setTop (mkF m 3 #[.val (.long q1), .second, .unset] [(.ref ba)]))) (fun t k => st1 _ k) ?_
  obtain ⟨cl2, Ar2, q2, S2, M2, H2, G2⟩ := id P1
  refine own_fw (A' := (T1.setTop (mkF m 4 #[.val (.long q1), .second, .unset] [(.int (4 : Int32))]))) (fun t k => X1.arraylength hx (by rw [e1]; exact Ar2.1) (State.isArrayOf_alike hZ.alike Ar2.2.1) (g := (mkF m 3 #[.val (.long q1), .second, .unset] [(.ref ba)])) rfl rfl (hb hby d_prog_6_method_5_code_3) _ (by rw [len_of S2 M2]; exact k)) ?_
  refine own_fw (A' := (T1.setTop (mkF m 5 #[.val (.long q1), .second, .unset] [(.int (1 : Int32)), (.int (4 : Int32))]))) (fun t k => XS.iconst X1.here hx rfl (hb hby d_prog_6_method_5_code_4) k) ?_
  refine own_fw (A' := (T1.setTop (mkF m 6 #[.val (.long q1), .second, .unset] [(.int (3 : Int32))]))) (fun t k => XS.isub X1.here hx rfl (hb hby d_prog_6_method_5_code_5) rfl k) ?_
  refine own_fw (A' := (T1.setTop (mkF m 7 #[.val (.long q1), .second, .val (.int (3 : Int32))] []))) (fun t k => XS.istoreN X1.here hx rfl (hb hby d_prog_6_method_5_code_6) rfl (l' := #[.val (.long q1), .second, .val (.int (3 : Int32))]) rfl k) ?_
  refine own_fw (A' := (T1.setTop (mkF m 8 #[.val (.long q1), .second, .val (.int (3 : Int32))] [(.int (3 : Int32))]))) (fun t k => XS.iloadN X1.here hx rfl (hb hby d_prog_6_method_5_code_7) rfl k) ?_
  refine own_fw (A' := (T1.setTop (mkF m 11 #[.val (.long q1), .second, .val (.int (3 : Int32))] []))) (fun t k => XS.ifNo X1.here hx rfl (hb hby d_prog_6_method_5_code_8) rfl (XT.i0_le_f (by decide)) k) ?_
  obtain ⟨T3, X3, e3, st3⟩ := getS2 X1 hx hZ hown (host := "") (Or.inl (hw _ (List.mem_of_getElem? (i := 8) rfl))) Via.refl e1 P0 (g := (mkF m 11 #[.val (.long q1), .second, .val (.int (3 : Int32))] [])) rfl (hb hby d_prog_6_method_5_code_11)
  refine own_fw (A' := (T3.setTop (mkF m 14 #[.val (.long q1), .second, .val (.int (3 : Int32))] [(.ref ba)]))) (fun t k => st3 _ k) ?_
  refine own_fw (A' := (T3.setTop (mkF m 15 #[.val (.long q1), .second, .val (.int (3 : Int32))] [(.int (3 : Int32)), (.ref ba)]))) (fun t k => XS.iloadN X3.here hx rfl (hb hby d_prog_6_method_5_code_14) rfl k) ?_
  obtain ⟨cl4, Ar4, q4, S4, M4, H4, G4⟩ := id P1
  have hin4 : ¬ ((3 : Int32) < 0 ∨ cl4.slots.size ≤ ((3 : Int32)).toNatClampNeg) := inb_of S4 ⟨by decide, by decide⟩
  have hat4 : cl4.slots[((3 : Int32)).toNatClampNeg]? = some (.ref r3) := H4.at hin4 rfl
  refine own_fw (A' := (T3.setTop (mkF m 16 #[.val (.long q1), .second, .val (.int (3 : Int32))] [(.ref r3)]))) (fun t k => X3.aaload hx (j := (3 : Int32)) (v := (.ref r3)) (by rw [e3]; exact Ar4.1) (State.isArrayOf_alike hZ.alike Ar4.2.1) rfl Ar4.2.2 hin4 hat4 (g := (mkF m 15 #[.val (.long q1), .second, .val (.int (3 : Int32))] [(.int (3 : Int32)), (.ref ba)])) rfl rfl (hb hby d_prog_6_method_5_code_15) _ k) ?_
  obtain ⟨T5, X5, e5, st5⟩ := getF X3 hx hZ hown (host := "") (Or.inl (hw _ (List.mem_of_getElem? (i := 11) rfl))) Via.refl e3 P9 (g := (mkF m 16 #[.val (.long q1), .second, .val (.int (3 : Int32))] [(.ref r3)])) rfl rfl (hb hby d_prog_6_method_5_code_16)
  refine own_fw (A' := (T5.setTop (mkF m 19 #[.val (.long q1), .second, .val (.int (3 : Int32))] [(.long (1000 : Int64))]))) (fun t k => st5 _ k) ?_
  refine own_fw (A' := (T5.setTop (mkF m 20 #[.val (.long q1), .second, .val (.int (3 : Int32))] [(.long q1), (.long (1000 : Int64))]))) (fun t k => XS.lloadN X5.here hx rfl (hb hby d_prog_6_method_5_code_19) rfl k) ?_
  refine own_fw (A' := (T5.setTop (mkF m 21 #[.val (.long q1), .second, .val (.int (3 : Int32))] [(.int (XT.cmpL (1000 : Int64) q1))]))) (fun t k => XT.lcmp X5.here hx rfl (hb hby d_prog_6_method_5_code_20) rfl k) ?_
  refine own_fw (A' := (T5.setTop (mkF m 30 #[.val (.long q1), .second, .val (.int (3 : Int32))] []))) (fun t k => XS.ifYes X5.here hx rfl (pc0 := 21) (pc' := 30) rfl (hb hby d_prog_6_method_5_code_21) rfl (XT.ll_le_t h1) (by decide) (by decide) k) ?_
  obtain ⟨T6, X6, e6, st6⟩ := getS2 X5 hx hZ hown (host := "") (Or.inl (hw _ (List.mem_of_getElem? (i := 8) rfl))) Via.refl e5 P0 (g := (mkF m 30 #[.val (.long q1), .second, .val (.int (3 : Int32))] [])) rfl (hb hby d_prog_6_method_5_code_30)
  refine own_fw (A' := (T6.setTop (mkF m 33 #[.val (.long q1), .second, .val (.int (3 : Int32))] [(.ref ba)]))) (fun t k => st6 _ k) ?_
  refine own_fw (A' := (T6.setTop (mkF m 34 #[.val (.long q1), .second, .val (.int (3 : Int32))] [(.int (3 : Int32)), (.ref ba)]))) (fun t k => XS.iloadN X6.here hx rfl (hb hby d_prog_6_method_5_code_33) rfl k) ?_
  obtain ⟨cl7, Ar7, q7, S7, M7, H7, G7⟩ := id P1
  have hin7 : ¬ ((3 : Int32) < 0 ∨ cl7.slots.size ≤ ((3 : Int32)).toNatClampNeg) := inb_of S7 ⟨by decide, by decide⟩
  have hat7 : cl7.slots[((3 : Int32)).toNatClampNeg]? = some (.ref r3) := H7.at hin7 rfl
  refine own_fw (A' := (T6.setTop (mkF m 35 #[.val (.long q1), .second, .val (.int (3 : Int32))] [(.ref r3)]))) (fun t k => X6.aaload hx (j := (3 : Int32)) (v := (.ref r3)) (by rw [e6]; exact Ar7.1) (State.isArrayOf_alike hZ.alike Ar7.2.1) rfl Ar7.2.2 hin7 hat7 (g := (mkF m 34 #[.val (.long q1), .second, .val (.int (3 : Int32))] [(.int (3 : Int32)), (.ref ba)])) rfl rfl (hb hby d_prog_6_method_5_code_34) _ k) ?_
  obtain ⟨fs, hr, hrun, hended, hW, hsame⟩ := X6.leave (v := some (.ref r3)) (fun h => by rw [Bd.returns] at h; cases h)
  refine ⟨_, _, ?_, hrun, hended, _, _, rfl, ?_, ⟨_, rfl⟩, hW, hsame.mono (by decide) (by decide)⟩
  · exact retOut X6 hx Bd.returns rfl (Or.inr (Or.inr (Or.inr (Or.inr ⟨rfl, rfl, rfl⟩)))) (hb hby d_prog_6_method_5_code_35) hr
  · show Q_rmOf3 Z q1 ba kb r0 r1 r2 r3 h0 n0 _ T6.heap _
    rw [e6]
    exact ⟨rfl, N0, rfl⟩
theorem pn_com_example_spindle_spindle_BandOfPinLaw : plainName "com/example/spindle/spindle/BandOfPinLaw" = true := by first | (simp [plainName, overriddenIn]; done) | decide +kernel
theorem pd__J_Lcom_example_spindle_spindle_DispatchTimes_Band_ : parseMethodDescriptor "(J)Lcom/example/spindle/spindle/DispatchTimes$Band;" = some ⟨[.long], some (.object "com/example/spindle/spindle/DispatchTimes$Band")⟩ := by decide +kernel
theorem ef_rm0 (m : MethodId) (q1 : Int64) (p2 : Int32) : entryFrame m #[(.long q1), (.int p2)] maxLocals = mkF m 0 #[.val (.long q1), .second, .val (.int p2), .unset, .unset, .unset] [] := by first | (simp [entryFrame, mkF, argsToLocals, Value.category, maxLocals]; done) | rfl
def Q_rm0 (Z : State) (q1 : Int64) (p2 : Int32) (ba : Addr) (kb : ClassId) (r0 : Addr) (r1 : Addr) (r2 : Addr) (r3 : Addr) (h0 : Heap) (n0 : Nat) (v : Option Value) (h : Heap) (L : List Loc) : Prop := v = some (.int (1 : Int32)) ∧ Fr n0 L
set_option maxRecDepth 65536 in
set_option maxHeartbeats 40000000 in
theorem rm0 (l : Launch) (Z : State) (a0 : Array Value) (hw : ∀ d ∈ tables_1, d.before a0 Z = true) (ws : List Jvm.Cond) (q1 : Int64) (p2 : Int32) (ba : Addr) (kb : ClassId) (r0 : Addr) (r1 : Addr) (r2 : Addr) (r3 : Addr) (h0 : Heap) (n0 : Nat) (Z0 : n0 ≤ h0.size) (P0 : Sta Z h0 "com/example/spindle/spindle/DispatchTimes$Band" "BANDS" "[Lcom/example/spindle/spindle/DispatchTimes$Band;" (.ref ba)) (P1 : Arv Z h0 ba kb (.object "com/example/spindle/spindle/DispatchTimes$Band") (4 : Int32) [(.ref r0), (.ref r1), (.ref r2), (.ref r3)] .null) (P2 : Exa Z h0 r0 "com/example/spindle/spindle/DispatchTimes$Band") (P3 : Fld Z h0 r0 "com/example/spindle/spindle/DispatchTimes$Band" "lowerMillis" "J" (.long (0 : Int64))) (P4 : Exa Z h0 r1 "com/example/spindle/spindle/DispatchTimes$Band") (P5 : Fld Z h0 r1 "com/example/spindle/spindle/DispatchTimes$Band" "lowerMillis" "J" (.long (50 : Int64))) (P6 : Exa Z h0 r2 "com/example/spindle/spindle/DispatchTimes$Band") (P7 : Fld Z h0 r2 "com/example/spindle/spindle/DispatchTimes$Band" "lowerMillis" "J" (.long (250 : Int64))) (P8 : Exa Z h0 r3 "com/example/spindle/spindle/DispatchTimes$Band") (P9 : Fld Z h0 r3 "com/example/spindle/spindle/DispatchTimes$Band" "lowerMillis" "J" (.long (1000 : Int64))) (P10 : Sta Z h0 "com/example/spindle/spindle/DispatchTimes$Band" "UNDER_50_MS" "Lcom/example/spindle/spindle/DispatchTimes$Band;" (.ref r0)) (P11 : Sta Z h0 "com/example/spindle/spindle/DispatchTimes$Band" "FROM_50_MS" "Lcom/example/spindle/spindle/DispatchTimes$Band;" (.ref r1)) (P12 : Sta Z h0 "com/example/spindle/spindle/DispatchTimes$Band" "FROM_250_MS" "Lcom/example/spindle/spindle/DispatchTimes$Band;" (.ref r2)) (P13 : Sta Z h0 "com/example/spindle/spindle/DispatchTimes$Band" "FROM_1000_MS" "Lcom/example/spindle/spindle/DispatchTimes$Band;" (.ref r3)) :
    MetFree l x (head1 (Jvm.Cond.code x code maxLocals ret :: ws) room_1) (fun a U => a = #[(.long q1), (.int p2)] ∧ Z.Warmed39 U.vm ∧ U.heap = h0) (fun _ _ _ _ _ => True) (fun _ U o U' => ∃ v L, o = .returned v ∧ Q_rm0 Z q1 p2 ba kb r0 r1 r2 r3 h0 n0 v U'.heap L ∧ FrameEnd U o U' L room_1.cells room_1.slots) := by
  refine MetFree.of_bodySF (plainFor_of_name pn_com_example_spindle_spindle_BandOfPinLaw) hisR ?_
  intro p e s m args below meth c s₁ Bd hml0 hP hK
  obtain ⟨rfl, hZ, hh⟩ := hP
  have hx := Bd.exec
  have hby := Bd.bytes
  have hml : c.maxLocals = 6 := hml0
  have hown : s.vm.findClass "com/example/spindle/spindle/BandOfPinLaw" = some m.cls := findClass_of_methodNamed Bd.named
  have hnm := (name_of_methodNamed Bd.named Bd.method).1
  have X0 : Stand p l e room_1 s m #[(.long q1), (.int p2)] below meth c s₁ [] 0 0 := Stand.of_body Bd
  have e0 : s₁.heap = h0 := by rw [← hh, Bd.state]; rfl
  have N0 := Fr.nil n0
  refine own_fw (A' := (s₁.setTop (mkF m 0 #[.val (.long q1), .second, .val (.int p2), .unset, .unset, .unset] []))) (fun t k => castTop (ef_rm0 m q1 p2) k) ?_
  refine own_fw (A' := (s₁.setTop (mkF m 1 #[.val (.long q1), .second, .val (.int p2), .unset, .unset, .unset] [(.int p2)]))) (fun t k => XS.iloadN X0.here hx rfl (hb hby at_0) rfl k) ?_
  refine own_fw (A' := (s₁.setTop (mkF m 2 #[.val (.long q1), .second, .val (.int p2), .unset, .unset, .unset] [(.int (1 : Int32)), (.int p2)]))) (fun t k => XS.iconst X0.here hx rfl (hb hby at_1) k) ?_
  refine own_fw (A' := (s₁.setTop (mkF m 3 #[.val (.long q1), .second, .val (.int p2), .unset, .unset, .unset] [(.int (p2 &&& (1 : Int32)))]))) (fun t k => XS.iand X0.here hx rfl (hb hby at_2) rfl k) ?_
  refine own_fw (A' := (s₁.setTop (mkF m 19 #[.val (.long q1), .second, .val (.int p2), .unset, .unset, .unset] [(.long (if (p2 &&& (1 : Int32)) = (0 : Int32) then (q1 &&& (9223372036854775807 : Int64)) else (q1 &&& (2047 : Int64))))]))) (fun t k => ?_) ?_
  · by_cases hj1 : (p2 &&& (1 : Int32)) = (0 : Int32)
    · try simp only [if_pos hj1] at k
      refine own_st (A' := (s₁.setTop (mkF m 6 #[.val (.long q1), .second, .val (.int p2), .unset, .unset, .unset] []))) (fun t k => XS.ifNo X0.here hx rfl (hb hby at_3) rfl (XT.i0_ne_f hj1) k) ?_
      refine own_st (A' := (s₁.setTop (mkF m 7 #[.val (.long q1), .second, .val (.int p2), .unset, .unset, .unset] [(.long q1)]))) (fun t k => XS.lloadN X0.here hx rfl (hb hby at_6) rfl k) ?_
      refine own_st (A' := (s₁.setTop (mkF m 10 #[.val (.long q1), .second, .val (.int p2), .unset, .unset, .unset] [(.long (9223372036854775807 : Int64)), (.long q1)]))) (fun t k => X0.ldc2Long hx hown (mvT hZ (hw _ (List.mem_of_getElem? (i := 0) rfl))) (g := (mkF m 7 #[.val (.long q1), .second, .val (.int p2), .unset, .unset, .unset] [(.long q1)])) rfl (hb hby at_7) _ k) ?_
      refine own_st (A' := (s₁.setTop (mkF m 11 #[.val (.long q1), .second, .val (.int p2), .unset, .unset, .unset] [(.long (q1 &&& (9223372036854775807 : Int64)))]))) (fun t k => XS.land X0.here hx rfl (hb hby at_10) rfl k) ?_
      refine own_st (A' := (s₁.setTop (mkF m 19 #[.val (.long q1), .second, .val (.int p2), .unset, .unset, .unset] [(.long (q1 &&& (9223372036854775807 : Int64)))]))) (fun t k => XS.goto X0.here hx rfl (pc0 := 11) (pc' := 19) rfl (hb hby at_11) (by decide) (by decide) k) ?_
      exact k
    · try simp only [if_neg hj1] at k
      refine own_st (A' := (s₁.setTop (mkF m 14 #[.val (.long q1), .second, .val (.int p2), .unset, .unset, .unset] []))) (fun t k => XS.ifYes X0.here hx rfl (pc0 := 3) (pc' := 14) rfl (hb hby at_3) rfl (XT.i0_ne_t hj1) (by decide) (by decide) k) ?_
      refine own_st (A' := (s₁.setTop (mkF m 15 #[.val (.long q1), .second, .val (.int p2), .unset, .unset, .unset] [(.long q1)]))) (fun t k => XS.lloadN X0.here hx rfl (hb hby at_14) rfl k) ?_
      refine own_st (A' := (s₁.setTop (mkF m 18 #[.val (.long q1), .second, .val (.int p2), .unset, .unset, .unset] [(.long (2047 : Int64)), (.long q1)]))) (fun t k => X0.ldc2Long hx hown (mvT hZ (hw _ (List.mem_of_getElem? (i := 18) rfl))) (g := (mkF m 15 #[.val (.long q1), .second, .val (.int p2), .unset, .unset, .unset] [(.long q1)])) rfl (hb hby at_15) _ k) ?_
      refine own_st (A' := (s₁.setTop (mkF m 19 #[.val (.long q1), .second, .val (.int p2), .unset, .unset, .unset] [(.long (q1 &&& (2047 : Int64)))]))) (fun t k => XS.land X0.here hx rfl (hb hby at_18) rfl k) ?_
      exact k
  obtain ⟨mm, h_mm⟩ : ∃ z : Int64, z = (if (p2 &&& (1 : Int32)) = (0 : Int32) then (q1 &&& (9223372036854775807 : Int64)) else (q1 &&& (2047 : Int64))) := ⟨_, rfl⟩
  rw [← h_mm]
  refine own_fw (A' := (s₁.setTop (mkF m 20 #[.val (.long q1), .second, .val (.int p2), .val (.long mm), .second, .unset] []))) (fun t k => XS.lstoreN X0.here hx rfl (hb hby at_19) rfl (l' := #[.val (.long q1), .second, .val (.int p2), .val (.long mm), .second, .unset]) rfl k) ?_
  refine own_fw (A' := (s₁.setTop (mkF m 21 #[.val (.long q1), .second, .val (.int p2), .val (.long mm), .second, .unset] [(.long mm)]))) (fun t k => XS.lloadN X0.here hx rfl (hb hby at_20) rfl k) ?_
  refine own_fw (A' := (s₁.setTop (mkF m 24 #[.val (.long q1), .second, .val (.int p2), .val (.long mm), .second, .unset] [(.long (50 : Int64)), (.long mm)]))) (fun t k => X0.ldc2Long hx hown (mvT hZ (hw _ (List.mem_of_getElem? (i := 1) rfl))) (g := (mkF m 21 #[.val (.long q1), .second, .val (.int p2), .val (.long mm), .second, .unset] [(.long mm)])) rfl (hb hby at_21) _ k) ?_
  refine own_fw (A' := (s₁.setTop (mkF m 25 #[.val (.long q1), .second, .val (.int p2), .val (.long mm), .second, .unset] [(.int (XT.cmpL mm (50 : Int64)))]))) (fun t k => XT.lcmp X0.here hx rfl (hb hby at_24) rfl k) ?_
  by_cases hc2 : mm < (50 : Int64)
  · refine own_fw (A' := (s₁.setTop (mkF m 28 #[.val (.long q1), .second, .val (.int p2), .val (.long mm), .second, .unset] []))) (fun t k => XS.ifNo X0.here hx rfl (hb hby at_25) rfl (XT.ll_ge_f hc2) k) ?_
    obtain ⟨T3, X3, e3, st3⟩ := getS2 X0 hx hZ hown (host := "") (Or.inl (hw _ (List.mem_of_getElem? (i := 2) rfl))) Via.refl e0 P10 (g := (mkF m 28 #[.val (.long q1), .second, .val (.int p2), .val (.long mm), .second, .unset] [])) rfl (hb hby at_28)
    refine own_fw (A' := (T3.setTop (mkF m 31 #[.val (.long q1), .second, .val (.int p2), .val (.long mm), .second, .unset] [(.ref r0)]))) (fun t k => st3 _ k) ?_
    refine own_fw (A' := (T3.setTop (mkF m 33 #[.val (.long q1), .second, .val (.int p2), .val (.long mm), .second, .val (.ref r0)] []))) (fun t k => XS.astore X3.here hx rfl (hb hby at_31) rfl rfl (l' := #[.val (.long q1), .second, .val (.int p2), .val (.long mm), .second, .val (.ref r0)]) rfl k) ?_
    refine own_fw (A' := (T3.setTop (mkF m 73 #[.val (.long q1), .second, .val (.int p2), .val (.long mm), .second, .val (.ref r0)] []))) (fun t k => XS.goto X3.here hx rfl (pc0 := 33) (pc' := 73) rfl (hb hby at_33) (by decide) (by decide) k) ?_
    refine own_fw (A' := (T3.setTop (mkF m 74 #[.val (.long q1), .second, .val (.int p2), .val (.long mm), .second, .val (.ref r0)] [(.long mm)]))) (fun t k => XS.lloadN X3.here hx rfl (hb hby at_73) rfl k) ?_
    obtain ⟨_, _, ⟨T4, L4, k4, n4⟩, -, X4, ⟨Lc4, hQ4, l4, y4, z4⟩, st4⟩ := Jvm.LawKit.callS X3 hx (y := (⟨"com/example/spindle/spindle/DispatchTimes$Band", "of", "(J)Lcom/example/spindle/spindle/DispatchTimes$Band;"⟩ : MethodName)) hown (mvT hZ (hw _ (List.mem_of_getElem? (i := 5) rfl))) (mvT hZ (hw _ (List.mem_of_getElem? (i := 6) rfl))) (mvT hZ (hw _ (List.mem_of_getElem? (i := 3) rfl))) (mvT hZ (hw _ (List.mem_of_getElem? (i := 7) rfl))) (by decide) (backOf (W := 0) (rmOf0 l Z a0 hw [] mm ba kb r0 r1 r2 r3 h0 n0 Z0 P0 P1 P2 P3 P4 P5 P6 P7 P8 P9 (own_lt mm _ _ hc2 (by decide)) (own_lt mm _ _ hc2 (by decide)) hc2) hZ (hw _ (List.mem_of_getElem? (i := 7) rfl)) (hw _ (List.mem_of_getElem? (i := 3) rfl)) (by decide) (by decide)) (g := (mkF m 74 #[.val (.long q1), .second, .val (.int p2), .val (.long mm), .second, .val (.ref r0)] [(.long mm)])) rfl (by rw [hml]; rfl) (argsL := [(.long mm)]) (rest := []) (lenOf pd__J_Lcom_example_spindle_spindle_DispatchTimes_Band_ rfl) rfl (by show 2 * 0 + _ ≤ _; exact Nat.le_of_eq rfl) (hb hby at_74) (fun _ _ => ⟨rfl, e3, (by decide : 0 + 0 ≤ _), (by decide : 0 + 0 ≤ _)⟩)
    dsimp only [Pt.U, Pt.locs, Pt.cells, Pt.slots] at X4 l4 y4 z4 st4 hQ4
    subst l4 y4 z4
    obtain ⟨rfl, Nq4, e4⟩ := hQ4
    have Nf4 := Fr.app N0 Nq4
    refine own_fw (A' := (T4.setTop (mkF m 77 #[.val (.long q1), .second, .val (.int p2), .val (.long mm), .second, .val (.ref r0)] [(.ref r0)]))) (fun t k => st4 _ k) ?_
    refine own_fw (A' := (T4.setTop (mkF m 79 #[.val (.long q1), .second, .val (.int p2), .val (.long mm), .second, .val (.ref r0)] [(.ref r0), (.ref r0)]))) (fun t k => XS.aload X4.here hx rfl (hb hby at_77) rfl rfl k) ?_
    refine own_fw (A' := (T4.setTop (mkF m 82 #[.val (.long q1), .second, .val (.int p2), .val (.long mm), .second, .val (.ref r0)] []))) (fun t k => Jvm.RoadKit.acmp (g := (mkF m 79 #[.val (.long q1), .second, .val (.int p2), .val (.long mm), .second, .val (.ref r0)] [(.ref r0), (.ref r0)])) X4 hx rfl rfl rfl (pc0 := 79) (pc' := 82) (same := true) rfl (hb hby at_79) rfl (decide_eq_true rfl) (by decide) (by decide) k) ?_
    refine own_fw (A' := (T4.setTop (mkF m 83 #[.val (.long q1), .second, .val (.int p2), .val (.long mm), .second, .val (.ref r0)] [(.int (1 : Int32))]))) (fun t k => XS.iconst X4.here hx rfl (hb hby at_82) k) ?_
    refine own_fw (A' := (T4.setTop (mkF m 87 #[.val (.long q1), .second, .val (.int p2), .val (.long mm), .second, .val (.ref r0)] [(.int (1 : Int32))]))) (fun t k => XS.goto X4.here hx rfl (pc0 := 83) (pc' := 87) rfl (hb hby at_83) (by decide) (by decide) k) ?_
    obtain ⟨fs, hr, hrun, hended, hW, hsame⟩ := X4.leave (v := some (.int (1 : Int32))) (fun h => by rw [Bd.returns] at h; cases h)
    refine ⟨_, _, ?_, hrun, hended, _, _, rfl, ?_, ⟨_, rfl⟩, hW, hsame.mono (by decide) (by decide)⟩
    · exact retOut X4 hx Bd.returns rfl (Or.inl ⟨rfl, by simp, _, rfl⟩) (hb hby at_87) hr
    · show Q_rm0 Z q1 p2 ba kb r0 r1 r2 r3 h0 n0 _ T4.heap _
      rw [e4]
      exact ⟨rfl, Nf4⟩
  · refine own_fw (A' := (s₁.setTop (mkF m 36 #[.val (.long q1), .second, .val (.int p2), .val (.long mm), .second, .unset] []))) (fun t k => XS.ifYes X0.here hx rfl (pc0 := 25) (pc' := 36) rfl (hb hby at_25) rfl (XT.ll_ge_t hc2) (by decide) (by decide) k) ?_
    refine own_fw (A' := (s₁.setTop (mkF m 37 #[.val (.long q1), .second, .val (.int p2), .val (.long mm), .second, .unset] [(.long mm)]))) (fun t k => XS.lloadN X0.here hx rfl (hb hby at_36) rfl k) ?_
    refine own_fw (A' := (s₁.setTop (mkF m 40 #[.val (.long q1), .second, .val (.int p2), .val (.long mm), .second, .unset] [(.long (250 : Int64)), (.long mm)]))) (fun t k => X0.ldc2Long hx hown (mvT hZ (hw _ (List.mem_of_getElem? (i := 15) rfl))) (g := (mkF m 37 #[.val (.long q1), .second, .val (.int p2), .val (.long mm), .second, .unset] [(.long mm)])) rfl (hb hby at_37) _ k) ?_
    refine own_fw (A' := (s₁.setTop (mkF m 41 #[.val (.long q1), .second, .val (.int p2), .val (.long mm), .second, .unset] [(.int (XT.cmpL mm (250 : Int64)))]))) (fun t k => XT.lcmp X0.here hx rfl (hb hby at_40) rfl k) ?_
    by_cases hc5 : mm < (250 : Int64)
    · refine own_fw (A' := (s₁.setTop (mkF m 44 #[.val (.long q1), .second, .val (.int p2), .val (.long mm), .second, .unset] []))) (fun t k => XS.ifNo X0.here hx rfl (hb hby at_41) rfl (XT.ll_ge_f hc5) k) ?_
      obtain ⟨T6, X6, e6, st6⟩ := getS2 X0 hx hZ hown (host := "") (Or.inl (hw _ (List.mem_of_getElem? (i := 19) rfl))) Via.refl e0 P11 (g := (mkF m 44 #[.val (.long q1), .second, .val (.int p2), .val (.long mm), .second, .unset] [])) rfl (hb hby at_44)
      refine own_fw (A' := (T6.setTop (mkF m 47 #[.val (.long q1), .second, .val (.int p2), .val (.long mm), .second, .unset] [(.ref r1)]))) (fun t k => st6 _ k) ?_
      refine own_fw (A' := (T6.setTop (mkF m 49 #[.val (.long q1), .second, .val (.int p2), .val (.long mm), .second, .val (.ref r1)] []))) (fun t k => XS.astore X6.here hx rfl (hb hby at_47) rfl rfl (l' := #[.val (.long q1), .second, .val (.int p2), .val (.long mm), .second, .val (.ref r1)]) rfl k) ?_
      refine own_fw (A' := (T6.setTop (mkF m 73 #[.val (.long q1), .second, .val (.int p2), .val (.long mm), .second, .val (.ref r1)] []))) (fun t k => XS.goto X6.here hx rfl (pc0 := 49) (pc' := 73) rfl (hb hby at_49) (by decide) (by decide) k) ?_
      refine own_fw (A' := (T6.setTop (mkF m 74 #[.val (.long q1), .second, .val (.int p2), .val (.long mm), .second, .val (.ref r1)] [(.long mm)]))) (fun t k => XS.lloadN X6.here hx rfl (hb hby at_73) rfl k) ?_
      obtain ⟨_, _, ⟨T7, L7, k7, n7⟩, -, X7, ⟨Lc7, hQ7, l7, y7, z7⟩, st7⟩ := Jvm.LawKit.callS X6 hx (y := (⟨"com/example/spindle/spindle/DispatchTimes$Band", "of", "(J)Lcom/example/spindle/spindle/DispatchTimes$Band;"⟩ : MethodName)) hown (mvT hZ (hw _ (List.mem_of_getElem? (i := 5) rfl))) (mvT hZ (hw _ (List.mem_of_getElem? (i := 6) rfl))) (mvT hZ (hw _ (List.mem_of_getElem? (i := 3) rfl))) (mvT hZ (hw _ (List.mem_of_getElem? (i := 7) rfl))) (by decide) (backOf (W := 0) (rmOf1 l Z a0 hw [] mm ba kb r0 r1 r2 r3 h0 n0 Z0 P0 P1 P2 P3 P4 P5 P6 P7 P8 P9 (own_lt mm _ _ hc5 (by decide)) hc5 hc2) hZ (hw _ (List.mem_of_getElem? (i := 7) rfl)) (hw _ (List.mem_of_getElem? (i := 3) rfl)) (by decide) (by decide)) (g := (mkF m 74 #[.val (.long q1), .second, .val (.int p2), .val (.long mm), .second, .val (.ref r1)] [(.long mm)])) rfl (by rw [hml]; rfl) (argsL := [(.long mm)]) (rest := []) (lenOf pd__J_Lcom_example_spindle_spindle_DispatchTimes_Band_ rfl) rfl (by show 2 * 0 + _ ≤ _; exact Nat.le_of_eq rfl) (hb hby at_74) (fun _ _ => ⟨rfl, e6, (by decide : 0 + 0 ≤ _), (by decide : 0 + 0 ≤ _)⟩)
      dsimp only [Pt.U, Pt.locs, Pt.cells, Pt.slots] at X7 l7 y7 z7 st7 hQ7
      subst l7 y7 z7
      obtain ⟨rfl, Nq7, e7⟩ := hQ7
      have Nf7 := Fr.app N0 Nq7
      refine own_fw (A' := (T7.setTop (mkF m 77 #[.val (.long q1), .second, .val (.int p2), .val (.long mm), .second, .val (.ref r1)] [(.ref r1)]))) (fun t k => st7 _ k) ?_
      refine own_fw (A' := (T7.setTop (mkF m 79 #[.val (.long q1), .second, .val (.int p2), .val (.long mm), .second, .val (.ref r1)] [(.ref r1), (.ref r1)]))) (fun t k => XS.aload X7.here hx rfl (hb hby at_77) rfl rfl k) ?_
      refine own_fw (A' := (T7.setTop (mkF m 82 #[.val (.long q1), .second, .val (.int p2), .val (.long mm), .second, .val (.ref r1)] []))) (fun t k => Jvm.RoadKit.acmp (g := (mkF m 79 #[.val (.long q1), .second, .val (.int p2), .val (.long mm), .second, .val (.ref r1)] [(.ref r1), (.ref r1)])) X7 hx rfl rfl rfl (pc0 := 79) (pc' := 82) (same := true) rfl (hb hby at_79) rfl (decide_eq_true rfl) (by decide) (by decide) k) ?_
      refine own_fw (A' := (T7.setTop (mkF m 83 #[.val (.long q1), .second, .val (.int p2), .val (.long mm), .second, .val (.ref r1)] [(.int (1 : Int32))]))) (fun t k => XS.iconst X7.here hx rfl (hb hby at_82) k) ?_
      refine own_fw (A' := (T7.setTop (mkF m 87 #[.val (.long q1), .second, .val (.int p2), .val (.long mm), .second, .val (.ref r1)] [(.int (1 : Int32))]))) (fun t k => XS.goto X7.here hx rfl (pc0 := 83) (pc' := 87) rfl (hb hby at_83) (by decide) (by decide) k) ?_
      obtain ⟨fs, hr, hrun, hended, hW, hsame⟩ := X7.leave (v := some (.int (1 : Int32))) (fun h => by rw [Bd.returns] at h; cases h)
      refine ⟨_, _, ?_, hrun, hended, _, _, rfl, ?_, ⟨_, rfl⟩, hW, hsame.mono (by decide) (by decide)⟩
      · exact retOut X7 hx Bd.returns rfl (Or.inl ⟨rfl, by simp, _, rfl⟩) (hb hby at_87) hr
      · show Q_rm0 Z q1 p2 ba kb r0 r1 r2 r3 h0 n0 _ T7.heap _
        rw [e7]
        exact ⟨rfl, Nf7⟩
    · refine own_fw (A' := (s₁.setTop (mkF m 52 #[.val (.long q1), .second, .val (.int p2), .val (.long mm), .second, .unset] []))) (fun t k => XS.ifYes X0.here hx rfl (pc0 := 41) (pc' := 52) rfl (hb hby at_41) rfl (XT.ll_ge_t hc5) (by decide) (by decide) k) ?_
      refine own_fw (A' := (s₁.setTop (mkF m 53 #[.val (.long q1), .second, .val (.int p2), .val (.long mm), .second, .unset] [(.long mm)]))) (fun t k => XS.lloadN X0.here hx rfl (hb hby at_52) rfl k) ?_
      refine own_fw (A' := (s₁.setTop (mkF m 56 #[.val (.long q1), .second, .val (.int p2), .val (.long mm), .second, .unset] [(.long (1000 : Int64)), (.long mm)]))) (fun t k => X0.ldc2Long hx hown (mvT hZ (hw _ (List.mem_of_getElem? (i := 16) rfl))) (g := (mkF m 53 #[.val (.long q1), .second, .val (.int p2), .val (.long mm), .second, .unset] [(.long mm)])) rfl (hb hby at_53) _ k) ?_
      refine own_fw (A' := (s₁.setTop (mkF m 57 #[.val (.long q1), .second, .val (.int p2), .val (.long mm), .second, .unset] [(.int (XT.cmpL mm (1000 : Int64)))]))) (fun t k => XT.lcmp X0.here hx rfl (hb hby at_56) rfl k) ?_
      by_cases hc8 : mm < (1000 : Int64)
      · refine own_fw (A' := (s₁.setTop (mkF m 60 #[.val (.long q1), .second, .val (.int p2), .val (.long mm), .second, .unset] []))) (fun t k => XS.ifNo X0.here hx rfl (hb hby at_57) rfl (XT.ll_ge_f hc8) k) ?_
        obtain ⟨T9, X9, e9, st9⟩ := getS2 X0 hx hZ hown (host := "") (Or.inl (hw _ (List.mem_of_getElem? (i := 20) rfl))) Via.refl e0 P12 (g := (mkF m 60 #[.val (.long q1), .second, .val (.int p2), .val (.long mm), .second, .unset] [])) rfl (hb hby at_60)
        refine own_fw (A' := (T9.setTop (mkF m 63 #[.val (.long q1), .second, .val (.int p2), .val (.long mm), .second, .unset] [(.ref r2)]))) (fun t k => st9 _ k) ?_
        refine own_fw (A' := (T9.setTop (mkF m 65 #[.val (.long q1), .second, .val (.int p2), .val (.long mm), .second, .val (.ref r2)] []))) (fun t k => XS.astore X9.here hx rfl (hb hby at_63) rfl rfl (l' := #[.val (.long q1), .second, .val (.int p2), .val (.long mm), .second, .val (.ref r2)]) rfl k) ?_
        refine own_fw (A' := (T9.setTop (mkF m 73 #[.val (.long q1), .second, .val (.int p2), .val (.long mm), .second, .val (.ref r2)] []))) (fun t k => XS.goto X9.here hx rfl (pc0 := 65) (pc' := 73) rfl (hb hby at_65) (by decide) (by decide) k) ?_
        refine own_fw (A' := (T9.setTop (mkF m 74 #[.val (.long q1), .second, .val (.int p2), .val (.long mm), .second, .val (.ref r2)] [(.long mm)]))) (fun t k => XS.lloadN X9.here hx rfl (hb hby at_73) rfl k) ?_
        obtain ⟨_, _, ⟨T10, L10, k10, n10⟩, -, X10, ⟨Lc10, hQ10, l10, y10, z10⟩, st10⟩ := Jvm.LawKit.callS X9 hx (y := (⟨"com/example/spindle/spindle/DispatchTimes$Band", "of", "(J)Lcom/example/spindle/spindle/DispatchTimes$Band;"⟩ : MethodName)) hown (mvT hZ (hw _ (List.mem_of_getElem? (i := 5) rfl))) (mvT hZ (hw _ (List.mem_of_getElem? (i := 6) rfl))) (mvT hZ (hw _ (List.mem_of_getElem? (i := 3) rfl))) (mvT hZ (hw _ (List.mem_of_getElem? (i := 7) rfl))) (by decide) (backOf (W := 0) (rmOf2 l Z a0 hw [] mm ba kb r0 r1 r2 r3 h0 n0 Z0 P0 P1 P2 P3 P4 P5 P6 P7 P8 P9 hc8 hc5) hZ (hw _ (List.mem_of_getElem? (i := 7) rfl)) (hw _ (List.mem_of_getElem? (i := 3) rfl)) (by decide) (by decide)) (g := (mkF m 74 #[.val (.long q1), .second, .val (.int p2), .val (.long mm), .second, .val (.ref r2)] [(.long mm)])) rfl (by rw [hml]; rfl) (argsL := [(.long mm)]) (rest := []) (lenOf pd__J_Lcom_example_spindle_spindle_DispatchTimes_Band_ rfl) rfl (by show 2 * 0 + _ ≤ _; exact Nat.le_of_eq rfl) (hb hby at_74) (fun _ _ => ⟨rfl, e9, (by decide : 0 + 0 ≤ _), (by decide : 0 + 0 ≤ _)⟩)
        dsimp only [Pt.U, Pt.locs, Pt.cells, Pt.slots] at X10 l10 y10 z10 st10 hQ10
        subst l10 y10 z10
        obtain ⟨rfl, Nq10, e10⟩ := hQ10
        have Nf10 := Fr.app N0 Nq10
        refine own_fw (A' := (T10.setTop (mkF m 77 #[.val (.long q1), .second, .val (.int p2), .val (.long mm), .second, .val (.ref r2)] [(.ref r2)]))) (fun t k => st10 _ k) ?_
        refine own_fw (A' := (T10.setTop (mkF m 79 #[.val (.long q1), .second, .val (.int p2), .val (.long mm), .second, .val (.ref r2)] [(.ref r2), (.ref r2)]))) (fun t k => XS.aload X10.here hx rfl (hb hby at_77) rfl rfl k) ?_
        refine own_fw (A' := (T10.setTop (mkF m 82 #[.val (.long q1), .second, .val (.int p2), .val (.long mm), .second, .val (.ref r2)] []))) (fun t k => Jvm.RoadKit.acmp (g := (mkF m 79 #[.val (.long q1), .second, .val (.int p2), .val (.long mm), .second, .val (.ref r2)] [(.ref r2), (.ref r2)])) X10 hx rfl rfl rfl (pc0 := 79) (pc' := 82) (same := true) rfl (hb hby at_79) rfl (decide_eq_true rfl) (by decide) (by decide) k) ?_
        refine own_fw (A' := (T10.setTop (mkF m 83 #[.val (.long q1), .second, .val (.int p2), .val (.long mm), .second, .val (.ref r2)] [(.int (1 : Int32))]))) (fun t k => XS.iconst X10.here hx rfl (hb hby at_82) k) ?_
        refine own_fw (A' := (T10.setTop (mkF m 87 #[.val (.long q1), .second, .val (.int p2), .val (.long mm), .second, .val (.ref r2)] [(.int (1 : Int32))]))) (fun t k => XS.goto X10.here hx rfl (pc0 := 83) (pc' := 87) rfl (hb hby at_83) (by decide) (by decide) k) ?_
        obtain ⟨fs, hr, hrun, hended, hW, hsame⟩ := X10.leave (v := some (.int (1 : Int32))) (fun h => by rw [Bd.returns] at h; cases h)
        refine ⟨_, _, ?_, hrun, hended, _, _, rfl, ?_, ⟨_, rfl⟩, hW, hsame.mono (by decide) (by decide)⟩
        · exact retOut X10 hx Bd.returns rfl (Or.inl ⟨rfl, by simp, _, rfl⟩) (hb hby at_87) hr
        · show Q_rm0 Z q1 p2 ba kb r0 r1 r2 r3 h0 n0 _ T10.heap _
          rw [e10]
          exact ⟨rfl, Nf10⟩
      · refine own_fw (A' := (s₁.setTop (mkF m 68 #[.val (.long q1), .second, .val (.int p2), .val (.long mm), .second, .unset] []))) (fun t k => XS.ifYes X0.here hx rfl (pc0 := 57) (pc' := 68) rfl (hb hby at_57) rfl (XT.ll_ge_t hc8) (by decide) (by decide) k) ?_
        obtain ⟨T11, X11, e11, st11⟩ := getS2 X0 hx hZ hown (host := "") (Or.inl (hw _ (List.mem_of_getElem? (i := 17) rfl))) Via.refl e0 P13 (g := (mkF m 68 #[.val (.long q1), .second, .val (.int p2), .val (.long mm), .second, .unset] [])) rfl (hb hby at_68)
        refine own_fw (A' := (T11.setTop (mkF m 71 #[.val (.long q1), .second, .val (.int p2), .val (.long mm), .second, .unset] [(.ref r3)]))) (fun t k => st11 _ k) ?_
        refine own_fw (A' := (T11.setTop (mkF m 73 #[.val (.long q1), .second, .val (.int p2), .val (.long mm), .second, .val (.ref r3)] []))) (fun t k => XS.astore X11.here hx rfl (hb hby at_71) rfl rfl (l' := #[.val (.long q1), .second, .val (.int p2), .val (.long mm), .second, .val (.ref r3)]) rfl k) ?_
        refine own_fw (A' := (T11.setTop (mkF m 74 #[.val (.long q1), .second, .val (.int p2), .val (.long mm), .second, .val (.ref r3)] [(.long mm)]))) (fun t k => XS.lloadN X11.here hx rfl (hb hby at_73) rfl k) ?_
        obtain ⟨_, _, ⟨T12, L12, k12, n12⟩, -, X12, ⟨Lc12, hQ12, l12, y12, z12⟩, st12⟩ := Jvm.LawKit.callS X11 hx (y := (⟨"com/example/spindle/spindle/DispatchTimes$Band", "of", "(J)Lcom/example/spindle/spindle/DispatchTimes$Band;"⟩ : MethodName)) hown (mvT hZ (hw _ (List.mem_of_getElem? (i := 5) rfl))) (mvT hZ (hw _ (List.mem_of_getElem? (i := 6) rfl))) (mvT hZ (hw _ (List.mem_of_getElem? (i := 3) rfl))) (mvT hZ (hw _ (List.mem_of_getElem? (i := 7) rfl))) (by decide) (backOf (W := 0) (rmOf3 l Z a0 hw [] mm ba kb r0 r1 r2 r3 h0 n0 Z0 P0 P1 P2 P3 P4 P5 P6 P7 P8 P9 hc8) hZ (hw _ (List.mem_of_getElem? (i := 7) rfl)) (hw _ (List.mem_of_getElem? (i := 3) rfl)) (by decide) (by decide)) (g := (mkF m 74 #[.val (.long q1), .second, .val (.int p2), .val (.long mm), .second, .val (.ref r3)] [(.long mm)])) rfl (by rw [hml]; rfl) (argsL := [(.long mm)]) (rest := []) (lenOf pd__J_Lcom_example_spindle_spindle_DispatchTimes_Band_ rfl) rfl (by show 2 * 0 + _ ≤ _; exact Nat.le_of_eq rfl) (hb hby at_74) (fun _ _ => ⟨rfl, e11, (by decide : 0 + 0 ≤ _), (by decide : 0 + 0 ≤ _)⟩)
        dsimp only [Pt.U, Pt.locs, Pt.cells, Pt.slots] at X12 l12 y12 z12 st12 hQ12
        subst l12 y12 z12
        obtain ⟨rfl, Nq12, e12⟩ := hQ12
        have Nf12 := Fr.app N0 Nq12
        refine own_fw (A' := (T12.setTop (mkF m 77 #[.val (.long q1), .second, .val (.int p2), .val (.long mm), .second, .val (.ref r3)] [(.ref r3)]))) (fun t k => st12 _ k) ?_
        refine own_fw (A' := (T12.setTop (mkF m 79 #[.val (.long q1), .second, .val (.int p2), .val (.long mm), .second, .val (.ref r3)] [(.ref r3), (.ref r3)]))) (fun t k => XS.aload X12.here hx rfl (hb hby at_77) rfl rfl k) ?_
        refine own_fw (A' := (T12.setTop (mkF m 82 #[.val (.long q1), .second, .val (.int p2), .val (.long mm), .second, .val (.ref r3)] []))) (fun t k => Jvm.RoadKit.acmp (g := (mkF m 79 #[.val (.long q1), .second, .val (.int p2), .val (.long mm), .second, .val (.ref r3)] [(.ref r3), (.ref r3)])) X12 hx rfl rfl rfl (pc0 := 79) (pc' := 82) (same := true) rfl (hb hby at_79) rfl (decide_eq_true rfl) (by decide) (by decide) k) ?_
        refine own_fw (A' := (T12.setTop (mkF m 83 #[.val (.long q1), .second, .val (.int p2), .val (.long mm), .second, .val (.ref r3)] [(.int (1 : Int32))]))) (fun t k => XS.iconst X12.here hx rfl (hb hby at_82) k) ?_
        refine own_fw (A' := (T12.setTop (mkF m 87 #[.val (.long q1), .second, .val (.int p2), .val (.long mm), .second, .val (.ref r3)] [(.int (1 : Int32))]))) (fun t k => XS.goto X12.here hx rfl (pc0 := 83) (pc' := 87) rfl (hb hby at_83) (by decide) (by decide) k) ?_
        obtain ⟨fs, hr, hrun, hended, hW, hsame⟩ := X12.leave (v := some (.int (1 : Int32))) (fun h => by rw [Bd.returns] at h; cases h)
        refine ⟨_, _, ?_, hrun, hended, _, _, rfl, ?_, ⟨_, rfl⟩, hW, hsame.mono (by decide) (by decide)⟩
        · exact retOut X12 hx Bd.returns rfl (Or.inl ⟨rfl, by simp, _, rfl⟩) (hb hby at_87) hr
        · show Q_rm0 Z q1 p2 ba kb r0 r1 r2 r3 h0 n0 _ T12.heap _
          rw [e12]
          exact ⟨rfl, Nf12⟩
set_option maxRecDepth 65536 in
set_option maxHeartbeats 40000000 in
theorem comes_1 {Post : Tables → Env → Array Value → State → Outcome → State → Prop} (hpost : ∀ tb e args s v u, (limb_1_1.after args s (.returned v) u = true ∧ limb_1_2.after args s (.returned v) u = true ∧ True) → FrameEnd s (.returned v) u (Jvm.fieldLocs frame_1_writes args s ++ Jvm.arrayLocs frame_1_arrays args s ++ Jvm.staticLocs frame_1_statics s) 0 0 → Post tb e args s (.returned v) u) :
    ArmFor flags0 classFile x code maxLocals ret World_1 tables_1 room_1 Calls_1 rest_1 Pre_1 Post := by
  intro l hfl _ _ p e ha hc hk s m args below hf hA hF happ hP
  obtain ⟨hcalls, hrest, hpre⟩ := hP
  obtain ⟨-, -, -, hnamed, -, -, -, hat⟩ := (Spec.applies_iff hf).mp happ
  obtain ⟨hg, hn⟩ := and_e (Cond.before_iff.mp (show (Jvm.Cond.and given_1 narrow_1).before args s = true from hpre))
  obtain ⟨hcount, hg0⟩ := and_e hg
  obtain ⟨hv0, hg1⟩ := and_e hg0
  have hv1 := hg1
  obtain ⟨w0, w1, rfl⟩ : ∃ w0 w1 : Value, args = #[w0, w1] := by
    have hs : args.size = 2 := by simpa [Cond.value, given_1] using hcount
    obtain ⟨L⟩ := args
    match L, hs with
    | [w0, w1], _ => exact ⟨w0, w1, rfl⟩
  have hw := fun d (hd : d ∈ tables_1) => atoms_spec (ws := Jvm.Cond.code x code maxLocals ret :: tables_1) hat d (List.mem_cons_of_mem _ hd)
  have hfit : Fit s := fun {y c} hc i hi => by
    obtain ⟨ha, rfl⟩ := Array.getElem?_eq_some_iff.mp hc
    have q := List.all_eq_true.mp ((Array.all_eq_true_iff_forall_mem.mp hF) _ (Array.getElem_mem ha)) i (List.mem_range.mpr hi)
    simpa [Array.getElem?_eq_getElem hi] using q
  obtain ⟨i0, ei0⟩ := isL_v hv0
  obtain rfl : w0 = (.long i0) := Option.some.inj ei0
  obtain ⟨i1, ei1⟩ := is_v hv1
  obtain rfl : w1 = (.int i1) := Option.some.inj ei1
  obtain ⟨hn0, hm0⟩ := and_e hn
  obtain ⟨hn1, hm1⟩ := and_e hm0
  obtain ⟨hn2, hm2⟩ := and_e hm1
  obtain ⟨hn3, hm3⟩ := and_e hm2
  obtain ⟨hn4, hm4⟩ := and_e hm3
  obtain ⟨hn5, hm5⟩ := and_e hm4
  obtain ⟨hn6, hm6⟩ := and_e hm5
  obtain ⟨hn7, hm7⟩ := and_e hm6
  obtain ⟨hn8, hm8⟩ := and_e hm7
  obtain ⟨hn9, hm9⟩ := and_e hm8
  obtain ⟨hn10, hm10⟩ := and_e hm9
  obtain ⟨hn11, hm11⟩ := and_e hm10
  obtain ⟨hn12, hm12⟩ := and_e hm11
  have hn13 := hm12
  obtain ⟨r_UNDER_50_MS, ev_UNDER_50_MS⟩ := exa_v hn0
  have E_UNDER_50_MS := Exa.start ev_UNDER_50_MS hn0
  have S_UNDER_50_MS := Sta.start ev_UNDER_50_MS (Or.inr ⟨(hw _ (List.mem_of_getElem? (i := 3) rfl)), (hw _ (List.mem_of_getElem? (i := 4) rfl))⟩)
  obtain ⟨r_FROM_1000_MS, ev_FROM_1000_MS⟩ := exa_v hn3
  have E_FROM_1000_MS := Exa.start ev_FROM_1000_MS hn3
  have S_FROM_1000_MS := Sta.start ev_FROM_1000_MS (Or.inr ⟨(hw _ (List.mem_of_getElem? (i := 3) rfl)), (hw _ (List.mem_of_getElem? (i := 10) rfl))⟩)
  obtain ⟨r_FROM_250_MS, ev_FROM_250_MS⟩ := exa_v hn6
  have E_FROM_250_MS := Exa.start ev_FROM_250_MS hn6
  have S_FROM_250_MS := Sta.start ev_FROM_250_MS (Or.inr ⟨(hw _ (List.mem_of_getElem? (i := 3) rfl)), (hw _ (List.mem_of_getElem? (i := 13) rfl))⟩)
  obtain ⟨r_FROM_50_MS, ev_FROM_50_MS⟩ := exa_v hn9
  have E_FROM_50_MS := Exa.start ev_FROM_50_MS hn9
  have S_FROM_50_MS := Sta.start ev_FROM_50_MS (Or.inr ⟨(hw _ (List.mem_of_getElem? (i := 3) rfl)), (hw _ (List.mem_of_getElem? (i := 14) rfl))⟩)
  have F_FROM_1000_MS_lowerMillis := own_fldJ ev_FROM_1000_MS hn5
  have F_FROM_250_MS_lowerMillis := own_fldJ ev_FROM_250_MS hn8
  have F_FROM_50_MS_lowerMillis := own_fldJ ev_FROM_50_MS hn11
  have F_UNDER_50_MS_lowerMillis := own_fldJ ev_UNDER_50_MS hn13
  obtain ⟨ba, ev_ba⟩ := arr_v hn1
  have S_ba := Sta.start ev_ba (Or.inr ⟨(hw _ (List.mem_of_getElem? (i := 3) rfl)), (hw _ (List.mem_of_getElem? (i := 9) rfl))⟩)
  obtain ⟨clb, A_ba⟩ := Arr.start ev_ba hn1
  have L_ba := own_len hn2 ev_ba (A_ba.fin (Vm.Alike.refl _))
  have el0 := own_elem hn12 ev_ba ev_UNDER_50_MS A_ba.1
  have el1 := own_elem hn10 ev_ba ev_FROM_50_MS A_ba.1
  have el2 := own_elem hn7 ev_ba ev_FROM_250_MS A_ba.1
  have el3 := own_elem hn4 ev_ba ev_FROM_1000_MS A_ba.1
  have V_ba : Arv s s.heap ba clb.cls (.object "com/example/spindle/spindle/DispatchTimes$Band") (4 : Int32) [(.ref r_UNDER_50_MS), (.ref r_FROM_50_MS), (.ref r_FROM_250_MS), (.ref r_FROM_1000_MS)] .null := Arv.start hfit A_ba L_ba.1 L_ba.2 (by decide) rfl ⟨el0, el1, el2, el3, trivial⟩
  obtain ⟨n, o, h1, h2, h3, _, L, rfl, ⟨rfl, N⟩, hq⟩ := rm0 l s _ hw tables_1 i0 i1 ba clb.cls r_UNDER_50_MS r_FROM_50_MS r_FROM_250_MS r_FROM_1000_MS s.heap s.heap.size (Nat.le_refl _) S_ba V_ba E_UNDER_50_MS F_UNDER_50_MS_lowerMillis E_FROM_50_MS F_FROM_50_MS_lowerMillis E_FROM_250_MS F_FROM_250_MS_lowerMillis E_FROM_1000_MS F_FROM_1000_MS_lowerMillis S_UNDER_50_MS S_FROM_50_MS S_FROM_250_MS S_FROM_1000_MS p e ha hc hk s m _ below hf ((Spec.applies_iff_loose hf).mp happ).1 ⟨rfl, State.Warmed39.refl s, rfl⟩ trivial
  refine ⟨n, _, h1, h2, h3, hpost _ _ _ _ _ _ ⟨Cond.after_iff.mpr rfl, Cond.after_iff.mpr (eq_i res_at (Term.int_eval (1)) rfl), trivial⟩ ⟨hq.1, hq.2.1, (hq.2.2.sift fun y hy => Or.inr (N y hy)).mono (by decide) (by decide)⟩⟩
theorem main_1_1 : Claimed_1_1 := comes_1 fun _ _ _ _ _ _ h hF => ⟨h.1, hF⟩
theorem main_1_2 : Claimed_1_2 := comes_1 fun _ _ _ _ _ _ h hF => ⟨h.2.1, hF⟩
end Jvm.Pilot.@@N@@
namespace Jvm.Pilot.@@N@@
open Jvm Jvm.ClassFile Sem Op Lib Jvm.Free Jvm.Stand Jvm.Pilot.@@N@@.Jvm.D
/-! MADE BY PROGRAM (witnessworld.py) out of the Statement's table words and the real class files: 13 classes; the members and pool entries that the words name. The judged class is class 1, her method 1. -/
namespace start1
open Jvm.ClassFile
def u (s : String) : CpInfo := .utf8 (stringToUtf16 s)
/-- a pool by its gaps: so many unusable entries, then the entry; so many at the end -/
def gap : Nat → List CpInfo → List CpInfo
  | 0, r => r
  | n + 1, r => .unusable :: gap n r
def poolList (es : List (Nat × CpInfo)) (last : Nat) : List CpInfo := es.foldr (fun e r => gap e.1 (e.2 :: r)) (gap last [])
def pool (es : List (Nat × CpInfo)) (last : Nat) : Array CpInfo := ⟨poolList es last⟩
def fileOf (pool : Array CpInfo) (this : Nat) (attrs : Array Attribute := #[]) (ms : Array MethodInfo := #[]) (fl : Nat := 33) (sup : Nat := 0) (ifs : Array Nat := #[]) (fds : Array FieldInfo := #[]) : ClassFile where
  minorVersion := 0
  majorVersion := 65
  constantPool := pool
  accessFlags := fl
  thisClass := this
  superClass := sup
  interfaces := ifs
  fields := fds
  methods := ms
  attributes := attrs
def plain (name : String) (sup : Option ClassId) : Class where
  name := name
  kind := .ordinary
  loader := none
  accessFlags := 33
  super := sup
  interfaces := #[]
  cf := none
  fields := #[]
  methods := #[]
  instanceTypes := #[]
  staticTypes := #[]
  resolved := #[]
  callSites := []
  init := .initialized
  statics := none
  mirror := none

def pool0 : Array CpInfo := pool [(5, u "<init>"), (0, u "()V"), (1, .class_ 10), (1, u "java/lang/Object")] 113

def k0m0 : Method := { name := "<init>", desc := "()V", sig := { parameters := [], returnType := none }, accessFlags := 1, code := none }
/-- java/lang/Object -/
def k0 : Class := { plain "java/lang/Object" none with
  accessFlags := 33
  interfaces := #[]
  cf := some (fileOf pool0 8 #[] #[{ accessFlags := 1, nameIndex := 5, descriptorIndex := 6, attributes := #[] }] 33 0 #[] #[])
  fields := #[]
  methods := #[k0m0]
  instanceTypes := #[]
  staticTypes := #[]
  resolved := Array.replicate 124 none
  statics := none }

def pool1 : Array CpInfo := pool [(2, .class_ 4), (1, u "java/lang/Object"), (0, u "<init>"), (0, u "()V"), (2, .long 9223372036854775807), (1, .long 2047), (1, .long 50), (1, .fieldref 16 17), (0, .class_ 18), (0, .nameAndType 19 20), (0, u "com/example/spindle/spindle/DispatchTimes$Band"), (0, u "UNDER_50_MS"), (0, u "Lcom/example/spindle/spindle/DispatchTimes$Band;"), (0, .long 250), (1, .fieldref 16 24), (0, .nameAndType 25 20), (0, u "FROM_50_MS"), (0, .long 1000), (1, .fieldref 16 29), (0, .nameAndType 30 20), (0, u "FROM_250_MS"), (0, .fieldref 16 32), (0, .nameAndType 33 20), (0, u "FROM_1000_MS"), (0, .methodref 16 35), (0, .nameAndType 36 37), (0, u "of"), (0, u "(J)Lcom/example/spindle/spindle/DispatchTimes$Band;"), (0, .class_ 39), (0, u "com/example/spindle/spindle/BandOfPinLaw"), (2, u "law"), (0, u "(JI)Z")] 7

def k1m0 : Method := { name := "<init>", desc := "()V", sig := { parameters := [], returnType := none }, accessFlags := 1, code := none }
def k1c1 : Code := { maxStack := 4, maxLocals := 6, code := code, exceptionTable := #[], attributes := #[] }
def k1m1 : Method := { name := "law", desc := "(JI)Z", sig := { parameters := [.long, .int], returnType := some .boolean }, accessFlags := 9, code := some k1c1 }
/-- com/example/spindle/spindle/BandOfPinLaw -/
def k1 : Class := { plain "com/example/spindle/spindle/BandOfPinLaw" (some 0) with
  accessFlags := 49
  interfaces := #[]
  cf := some (fileOf pool1 38 #[] #[{ accessFlags := 1, nameIndex := 5, descriptorIndex := 6, attributes := #[] }, { accessFlags := 9, nameIndex := 42, descriptorIndex := 43, attributes := #[] }] 49 2 #[] #[])
  fields := #[]
  methods := #[k1m0, k1m1]
  instanceTypes := #[]
  staticTypes := #[]
  resolved := Array.replicate 51 none
  statics := none }

def pool2 : Array CpInfo := pool [(1, .class_ 2), (0, u "java/lang/constant/Constable"), (0, .class_ 4), (0, u "java/lang/Object")] 6

/-- java/lang/constant/Constable -/
def k2 : Class := { plain "java/lang/constant/Constable" (some 0) with
  accessFlags := 1537
  interfaces := #[]
  cf := some (fileOf pool2 1 #[] #[] 1537 3 #[] #[])
  fields := #[]
  methods := #[]
  instanceTypes := #[]
  staticTypes := #[]
  resolved := Array.replicate 11 none
  statics := none }

def pool3 : Array CpInfo := pool [(1, .class_ 2), (0, u "java/lang/Comparable"), (0, .class_ 4), (0, u "java/lang/Object")] 7

/-- java/lang/Comparable -/
def k3 : Class := { plain "java/lang/Comparable" (some 0) with
  accessFlags := 1537
  interfaces := #[]
  cf := some (fileOf pool3 1 #[] #[] 1537 3 #[] #[])
  fields := #[]
  methods := #[]
  instanceTypes := #[]
  staticTypes := #[]
  resolved := Array.replicate 12 none
  statics := none }

def pool4 : Array CpInfo := pool [(1, .class_ 2), (0, u "java/io/Serializable"), (0, .class_ 4), (0, u "java/lang/Object")] 2

/-- java/io/Serializable -/
def k4 : Class := { plain "java/io/Serializable" (some 0) with
  accessFlags := 1537
  interfaces := #[]
  cf := some (fileOf pool4 1 #[] #[] 1537 3 #[] #[])
  fields := #[]
  methods := #[]
  instanceTypes := #[]
  staticTypes := #[]
  resolved := Array.replicate 7 none
  statics := none }

def pool5 : Array CpInfo := pool [(2, .class_ 4), (1, u "java/lang/Enum"), (0, u "name"), (0, u "Ljava/lang/String;"), (2, u "ordinal"), (0, u "I"), (1, .class_ 14), (1, u "java/lang/Object"), (4, u "hash"), (86, .class_ 108), (1, u "java/lang/Enum$EnumDesc"), (2, .class_ 112), (0, u "java/lang/constant/Constable"), (0, .class_ 114), (0, u "java/lang/Comparable"), (0, .class_ 116), (0, u "java/io/Serializable")] 87

/-- java/lang/Enum -/
def k5 : Class := { plain "java/lang/Enum" (some 0) with
  accessFlags := 1057
  interfaces := #[2, 3, 4]
  cf := some (fileOf pool5 2 #[.nestMembers #[106]] #[] 1057 12 #[111, 113, 115] #[{ accessFlags := 18, nameIndex := 5, descriptorIndex := 6, attributes := #[] }, { accessFlags := 18, nameIndex := 9, descriptorIndex := 10, attributes := #[] }, { accessFlags := 2, nameIndex := 19, descriptorIndex := 10, attributes := #[] }])
  fields := #[{ name := "name", type := (.object "java/lang/String"), accessFlags := 18, slot := 0, constantValue := 0 }, { name := "ordinal", type := .int, accessFlags := 18, slot := 1, constantValue := 0 }, { name := "hash", type := .int, accessFlags := 2, slot := 2, constantValue := 0 }]
  methods := #[]
  instanceTypes := #[(.object "java/lang/String"), .int, .int]
  staticTypes := #[]
  resolved := Array.replicate 204 none
  statics := none }

def pool6 : Array CpInfo := pool [(1, .class_ 2), (0, u "com/example/spindle/spindle/DispatchTimes$Band"), (2, u "UNDER_50_MS"), (0, u "Lcom/example/spindle/spindle/DispatchTimes$Band;"), (2, u "FROM_50_MS"), (2, u "FROM_250_MS"), (2, u "FROM_1000_MS"), (2, u "$VALUES"), (0, u "[Lcom/example/spindle/spindle/DispatchTimes$Band;"), (6, .class_ 28), (1, u "java/lang/Enum"), (6, .fieldref 1 36), (0, .nameAndType 37 38), (0, u "lowerMillis"), (0, u "J"), (0, .fieldref 1 40), (0, .nameAndType 41 19), (0, u "BANDS"), (28, u "of"), (0, u "(J)Lcom/example/spindle/spindle/DispatchTimes$Band;"), (7, .class_ 80), (0, u "com/example/spindle/spindle/DispatchTimes")] 2

def k6c0 : Code := { maxStack := 4, maxLocals := 3, code := prog_6_method_5_code, exceptionTable := #[], attributes := #[] }
def k6m0 : Method := { name := "of", desc := "(J)Lcom/example/spindle/spindle/DispatchTimes$Band;", sig := { parameters := [.long], returnType := some (.object "com/example/spindle/spindle/DispatchTimes$Band") }, accessFlags := 8, code := some k6c0 }
/-- com/example/spindle/spindle/DispatchTimes$Band -/
def k6 : Class := { plain "com/example/spindle/spindle/DispatchTimes$Band" (some 5) with
  accessFlags := 16433
  interfaces := #[]
  cf := some (fileOf pool6 1 #[.nestHost 79] #[{ accessFlags := 8, nameIndex := 70, descriptorIndex := 71, attributes := #[] }] 16433 26 #[] #[{ accessFlags := 16409, nameIndex := 5, descriptorIndex := 6, attributes := #[] }, { accessFlags := 16409, nameIndex := 9, descriptorIndex := 6, attributes := #[] }, { accessFlags := 16409, nameIndex := 12, descriptorIndex := 6, attributes := #[] }, { accessFlags := 16409, nameIndex := 15, descriptorIndex := 6, attributes := #[] }, { accessFlags := 26, nameIndex := 41, descriptorIndex := 19, attributes := #[] }, { accessFlags := 18, nameIndex := 37, descriptorIndex := 38, attributes := #[] }, { accessFlags := 4122, nameIndex := 18, descriptorIndex := 19, attributes := #[] }])
  fields := #[{ name := "UNDER_50_MS", type := (.object "com/example/spindle/spindle/DispatchTimes$Band"), accessFlags := 16409, slot := 0, constantValue := 0 }, { name := "FROM_50_MS", type := (.object "com/example/spindle/spindle/DispatchTimes$Band"), accessFlags := 16409, slot := 1, constantValue := 0 }, { name := "FROM_250_MS", type := (.object "com/example/spindle/spindle/DispatchTimes$Band"), accessFlags := 16409, slot := 2, constantValue := 0 }, { name := "FROM_1000_MS", type := (.object "com/example/spindle/spindle/DispatchTimes$Band"), accessFlags := 16409, slot := 3, constantValue := 0 }, { name := "BANDS", type := (.array (.object "com/example/spindle/spindle/DispatchTimes$Band")), accessFlags := 26, slot := 4, constantValue := 0 }, { name := "lowerMillis", type := .long, accessFlags := 18, slot := 3, constantValue := 0 }, { name := "$VALUES", type := (.array (.object "com/example/spindle/spindle/DispatchTimes$Band")), accessFlags := 4122, slot := 5, constantValue := 0 }]
  methods := #[k6m0]
  instanceTypes := #[(.object "java/lang/String"), .int, .int, .long]
  staticTypes := #[(.object "com/example/spindle/spindle/DispatchTimes$Band"), (.object "com/example/spindle/spindle/DispatchTimes$Band"), (.object "com/example/spindle/spindle/DispatchTimes$Band"), (.object "com/example/spindle/spindle/DispatchTimes$Band"), (.array (.object "com/example/spindle/spindle/DispatchTimes$Band")), (.array (.object "com/example/spindle/spindle/DispatchTimes$Band"))]
  resolved := Array.replicate 83 none
  statics := some 0 }

def pool7 : Array CpInfo := pool [(1, u "java/lang/Cloneable"), (0, .class_ 1), (0, u "java/lang/Object"), (0, .class_ 3)] 3

/-- java/lang/Cloneable -/
def k7 : Class := { plain "java/lang/Cloneable" (some 0) with
  accessFlags := 1537
  interfaces := #[]
  cf := some (fileOf pool7 2 #[] #[] 1537 4 #[] #[])
  fields := #[]
  methods := #[]
  instanceTypes := #[]
  staticTypes := #[]
  resolved := Array.replicate 8 none
  statics := none }

/-- the primitive byte -/
def k8 : Class := { plain "byte" none with kind := .primitive 'B', accessFlags := 0x411 }
/-- [B -/
def k9 : Class := { plain "[B" (some 0) with kind := .array 8 .byte, interfaces := #[7, 4], accessFlags := 1041 }

/-- the primitive int -/
def k10 : Class := { plain "int" none with kind := .primitive 'I', accessFlags := 0x411 }
/-- [I -/
def k11 : Class := { plain "[I" (some 0) with kind := .array 10 .int, interfaces := #[7, 4], accessFlags := 1041 }

/-- [Lcom/example/spindle/spindle/DispatchTimes$Band; -/
def k12 : Class := { plain "[Lcom/example/spindle/spindle/DispatchTimes$Band;" (some 0) with kind := .array 6 (.object "com/example/spindle/spindle/DispatchTimes$Band"), interfaces := #[7, 4], accessFlags := 1041 }

def heap : Heap := #[{ cls := 6, slots := #[.ref 2, .ref 3, .ref 4, .ref 5, .ref 1, .null], vm := .statics 6 },
  { cls := 12, slots := #[.ref 2, .ref 3, .ref 4, .ref 5], vm := .none },
  { cls := 6, slots := #[.null, .int 0, .int 0, .long 0], vm := .none },
  { cls := 6, slots := #[.null, .int 1, .int 0, .long 50], vm := .none },
  { cls := 6, slots := #[.null, .int 2, .int 0, .long 250], vm := .none },
  { cls := 6, slots := #[.null, .int 3, .int 0, .long 1000], vm := .none }]
def classes : Array Class := #[k0, k1, k2, k3, k4, k5, k6, k7, k8, k9, k10, k11, k12]
def interned : List (Array UInt16 × Addr) := []
def slotsUsed : Nat := 26
def theMethod : MethodId := ⟨1, 1⟩
def args0 : Array Value := #[.long 5, .int 300]
def aboutOver (below : List Frame) : State where
  vm := { classes := classes, interned := interned.toArray }
  heap := heap
  slotsUsed := slotsUsed
  threads := #[{ frames := .invoking theMethod args0 :: below }]
def below0 : List Frame := [.native { method := ⟨0, 0⟩, args := #[] }]
def about1 : State := aboutOver below0
def p0 : Program := .bare "" "" ""
def e0 : Env := launch0.env 0 0 0
theorem w_frames : about1.frames = Frame.invoking theMethod args0 :: below0 := rfl
set_option maxRecDepth 65536 in
theorem w_args : argsFit about1.vm theMethod args0 = true := by decide +kernel
set_option maxRecDepth 65536 in
theorem w_heap : heapFits about1 = true := by decide +kernel
set_option maxRecDepth 65536 in
theorem w_runnable : about1.curStatus? = some .runnable := by decide +kernel
set_option maxRecDepth 65536 in
theorem w_alone : about1.alone = true := by decide +kernel
set_option maxRecDepth 65536 in
theorem w_named : about1.methodNamed? x = some theMethod := by decide +kernel
set_option maxRecDepth 65536 in
theorem w_hears : about1.hears theMethod below0 = true := by decide +kernel
set_option maxRecDepth 65536 in
theorem w_ripe : about1.ripe theMethod args0 below0 = true := by decide +kernel
theorem w_running : about1.status = .running := rfl
set_option maxRecDepth 65536 in
theorem w_room : about1.hasRoom e0.platform room_1 = true :=
  launch0.hasRoom_least _ room_1 (by decide +kernel) (by decide +kernel) (by decide +kernel) (by decide +kernel) (by decide +kernel) (by decide +kernel)
theorem allAtoms_all (ts : List Jvm.Cond) (a : Array Jvm.Value) (st : Jvm.State) : (allAtoms ts).before a st = ts.all (fun c => c.before a st) := by
  induction ts with
  | nil => rfl
  | cons c t ih =>
    show (Jvm.Cond.and c (allAtoms t)).before a st = _
    rw [Jvm.Cond.before_and, ih, List.all_cons]
def words1 : List Jvm.Cond := Jvm.Cond.code x code maxLocals ret :: tables_1
/-- a 'code' word, met by the world's own term for the bytes: nothing is compared byte by byte -/
theorem code_word {y : MethodName} {bytes : ByteArray} {mx : Nat} {rt : Option FieldType} {a : Array Value} {s : State} {m : MethodId} {meth : Method} {c : Code} (h1 : s.methodNamed? y = some m) (h2 : s.vm.method? m = some meth) (h3 : meth.code = some c) (h4 : c.code = bytes)
    (h5 : (c.maxLocals == mx && c.exceptionTable.isEmpty && decide (c.maxStack ≤ mostOperands) && decide (meth.sig.returnType = rt) && !meth.locks && decide (parseMethodDescriptor y.desc = some meth.sig)) = true) : (Jvm.Cond.code y bytes mx rt).before a s = true := by
  simp only [Bool.and_eq_true, beq_iff_eq, Bool.not_eq_true', decide_eq_true_eq] at h5
  obtain ⟨⟨⟨⟨⟨g1, g2⟩, g3⟩, g4⟩, g5⟩, g6⟩ := h5
  simp [Cond.before, Cond.holds, Cond.value, h1, h2, h3, h4, g1, g2, g3, g4, g5, g6]
def isCode : Jvm.Cond → Bool
  | .code _ _ _ _ => true
  | _ => false
theorem all_split {L : List Jvm.Cond} {P : Jvm.Cond → Bool} (h1 : L.all (fun c => isCode c || P c) = true) (h2 : ∀ c ∈ L.filter isCode, P c = true) : L.all P = true := by
  refine List.all_eq_true.mpr fun c hc => ?_
  have h := List.all_eq_true.mp h1 c hc
  rcases Bool.eq_false_or_eq_true (isCode c) with hi | hi
  · exact h2 c (List.mem_filter.mpr ⟨hc, hi⟩)
  · simpa [hi] using h
set_option maxRecDepth 65536 in
theorem w_c0 : (Jvm.Cond.code x code maxLocals ret).before args0 about1 = true := code_word (m := ⟨1, 1⟩) (meth := k1m1) (c := k1c1) (by decide +kernel) rfl rfl rfl (by decide +kernel)
set_option maxRecDepth 65536 in
theorem w_c1 : (Jvm.Cond.code ({ cls := "com/example/spindle/spindle/DispatchTimes$Band", name := "of", desc := "(J)Lcom/example/spindle/spindle/DispatchTimes$Band;" } : Jvm.MethodName) prog_6_method_5_code (3 : Nat) (Option.some (Jvm.ClassFile.FieldType.object "com/example/spindle/spindle/DispatchTimes$Band"))).before args0 about1 = true := code_word (m := ⟨6, 0⟩) (meth := k6m0) (c := k6c0) (by decide +kernel) rfl rfl rfl (by decide +kernel)
def codes1 : List Jvm.Cond := [Jvm.Cond.code x code maxLocals ret, Jvm.Cond.code ({ cls := "com/example/spindle/spindle/DispatchTimes$Band", name := "of", desc := "(J)Lcom/example/spindle/spindle/DispatchTimes$Band;" } : Jvm.MethodName) prog_6_method_5_code (3 : Nat) (Option.some (Jvm.ClassFile.FieldType.object "com/example/spindle/spindle/DispatchTimes$Band"))]
set_option maxRecDepth 65536 in
theorem codes_eq : words1.filter isCode = codes1 := rfl
theorem w_codes : ∀ c ∈ words1.filter isCode, c.before args0 about1 = true := by
  rw [codes_eq]
  intro c hc
  simp only [codes1, List.mem_cons, List.not_mem_nil, or_false] at hc
  rcases hc with rfl | rfl
  · exact w_c0
  · exact w_c1
set_option maxRecDepth 65536 in
theorem w_t1 : words1.all (fun c => isCode c || c.before args0 about1) = true := by decide +kernel
theorem w_tables : (allAtoms (Jvm.Cond.code x code maxLocals ret :: tables_1)).before args0 about1 = true := by
  rw [allAtoms_all]
  show words1.all (fun c => c.before args0 about1) = true
  refine all_split ?_ w_codes
  rw [w_t1]
set_option maxRecDepth 65536 in
theorem w_case : (Jvm.Cond.and given_1 narrow_1).before args0 about1 = true := by decide +kernel
theorem w_applies : (headSpec (Jvm.Cond.code x code maxLocals ret :: tables_1) room_1).applies x e0.platform about1 = true :=
  (Spec.applies_iff w_frames).mpr ⟨w_running, w_runnable, w_alone, w_named, w_hears, w_ripe, w_room, w_tables⟩
theorem atStart : AtStart classFile x code maxLocals ret World_1 tables_1 room_1 Calls_1 rest_1 Pre_1 launch0 p0 e0 about1 theMethod args0 below0 :=
  ⟨lists_1, trivial, launch0.admits_env _ _ _, launch0.least_env, fairChoices_fair.cas, fairChoices_fair.clock, w_frames, w_args, w_heap, w_applies, trivial, trivial, w_case⟩
end start1
theorem witness_1 : WitnessClaimed_1 := ⟨start1.p0, start1.e0, start1.about1, start1.theMethod, start1.args0, start1.below0, start1.atStart⟩
end Jvm.Pilot.@@N@@
