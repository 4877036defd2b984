import JvmDerived
import JvmDerived.Pilot.@@N@@Statement
import JvmDerived.Pilot.@@N@@Code
set_option linter.unusedVariables false
set_option linter.unusedSimpArgs false
namespace Jvm.Pilot.@@N@@
open Jvm Jvm.ClassFile Sem Op Lib Jvm.Free Jvm.Stand Jvm.LawKit Jvm.RoadKit Bundle Jvm.Pilot.@@N@@.Jvm.D
/-! steps, taken forward -/
theorem own_fw {tb : Tables} {e : Env} {below : List Frame} {A A' : State} {P : State → Outcome → Prop} (h : ∀ t, Steps tb e below A' t → Steps tb e below A t) (g : ∃ U o, Steps tb e below A' U ∧ P U o) : ∃ U o, Steps tb e below A U ∧ P U o := by
  obtain ⟨U, o, s, r⟩ := g
  exact ⟨U, o, h U s, r⟩
theorem own_st {tb : Tables} {e : Env} {below : List Frame} {A A' t : State} (h : ∀ t, Steps tb e below A' t → Steps tb e below A t) (g : Steps tb e below A' t) : Steps tb e below A t := h t g
theorem own_plainE {Z : State} {h : Heap} {a : Addr} {C : String} (F : Exa Z h a C) : ∀ cell : Cell, h[a]? = some cell → cell.vm.isStatics = false := fun cell hc => by
  obtain ⟨c1, k1, h1, -, -, h4, -⟩ := F
  cases h1.symm.trans hc
  exact h4
theorem own_plainV {Z : State} {h : Heap} {a : Addr} {k : ClassId} {ty : FieldType} {z : Int32} {vs : List Value} {dv : Value} (F : Arv Z h a k ty z vs dv) : ∀ cell : Cell, h[a]? = some cell → cell.vm.isStatics = false := fun cell hc => by
  obtain ⟨c1, A, -⟩ := F
  cases A.1.symm.trans hc
  exact A.plain
theorem own_staKeep {Z : State} {h h' : Heap} {C n d : String} {v : Value} {ws : List Addr} (F : Sta Z h C n d v) (K : Keep h h' ws) (q : ∀ x ∈ ws, ∀ cell : Cell, h[x]? = some cell → cell.vm.isStatics = false) : Sta Z h' C n d v := by
  obtain ⟨cf, i, k, f, st, cell, h1, h2, h3, h4, h5, h6, h7⟩ := F
  exact ⟨cf, i, k, f, st, cell, h1, h2, h3, h4, K.2.1 st cell h5 (fun m => by rw [q st m cell h5] at h6; cases h6), h6, h7⟩
theorem own_insLt {Z : State} {h : Heap} {a : Addr} {C : String} {bo : Bool} (F : Ins Z h a C bo) : a < h.size := by
  obtain ⟨cell, cT, h1, -⟩ := F
  exact (Array.getElem?_eq_some_iff.mp h1).1
theorem own_insKeep {Z : State} {h h' : Heap} {a : Addr} {C : String} {bo : Bool} {ws : List Addr} (F : Ins Z h a C bo) (K : Keep h h' ws) : Ins Z h' a C bo := by
  obtain ⟨cell, cT, h1, h2, h3⟩ := F
  obtain ⟨c', e1, e2, e3, -⟩ := K.2.2 a cell h1
  exact ⟨c', cT, e1, h2, by rw [e2, e3]; exact h3⟩


theorem own_fldI {args : Array Value} {s : State} {t : Term} {C n d : String} {z : Int32} {r : Addr} (ht : t.eval args s none [] s = some (.ref r)) (h : (Jvm.Cond.eq (.field t C n d) (.int z)).value args s none s [] = some true) : Fld s s.heap r C n d (.int z) := by
  obtain ⟨x, y, ex, ey, k1, k2⟩ := cmp_v (Or.inl h)
  have hy : y = .int z := by simpa [Term.eval] using ey.symm
  subst hy
  obtain ⟨w, rfl⟩ : ∃ w, x = .int w := k2
  have e : w = z := by simpa [Cond.value, ex, ey] using h
  subst e
  exact Fld.start (by rw [← fld_at (C := C) (n := n) (dd := d) ht]; exact ex)
theorem own_fldJ {args : Array Value} {s : State} {t : Term} {C n d : String} {z : Int64} {r : Addr} (ht : t.eval args s none [] s = some (.ref r)) (h : (Jvm.Cond.eq (.field t C n d) (.long z)).value args s none s [] = some true) : Fld s s.heap r C n d (.long z) := by
  obtain ⟨x, y, ex, ey, k1, k2⟩ := cmp_v (Or.inl h)
  have hy : y = .long z := by simpa [Term.eval] using ey.symm
  subst hy
  obtain ⟨w, rfl⟩ : ∃ w, x = .long w := k2
  have e : w = z := by simpa [Cond.value, ex, ey] using h
  subst e
  exact Fld.start (by rw [← fld_at (C := C) (n := n) (dd := d) ht]; exact ex)


theorem own_len {args : Array Value} {s : State} {t : Term} {a : Addr} {z : Int32} {cl : Cell} (h : (Jvm.Cond.eq (.length t) (.int z)).value args s none s [] = some true) (ht : t.eval args s none [] s = some (.ref a)) (ha : s.arrayAt? a = some cl) : cl.slots.size < 2 ^ 31 ∧ cl.slots.size.toInt32 = z := by
  obtain ⟨x, y, ex, ey, -, -⟩ := cmp_v (Or.inl h)
  have hy : y = .int z := by simpa [Term.eval] using ey.symm
  subst hy
  by_cases hl : cl.slots.size < 2 ^ 31
  · have e := len_f ht ha hl
    exact ⟨hl, by simpa [Cond.value, e, ey] using h⟩
  · exfalso
    simp [Term.eval, ht, ha, hl] at ex

theorem own_elem {args : Array Value} {s : State} {t u : Term} {a r : Addr} {j : Int32} {cl : Cell} (h : (Jvm.Cond.eq (.elem t (.int j)) u).value args s none s [] = some true) (ht : t.eval args s none [] s = some (.ref a)) (hu : u.eval args s none [] s = some (.ref r)) (hc : s.heap[a]? = some cl) : cl.slots[j.toNatClampNeg]? = some (.ref r) := by
  obtain ⟨x, y, ex, ey, k1, k2⟩ := cmp_v (Or.inl h)
  cases hu.symm.trans ey
  have hx : x.isRef = true := by
    cases x <;> simp [Kin, Value.isRef] at k2 ⊢
  have e := gotT (eq_R ex ey hx rfl) h
  subst e
  exact (elem_in ex ht rfl hc).2


theorem own_lt (q a b : Int64) (h : q < a) (hab : a.toInt ≤ b.toInt) : q < b := by
  rw [Int64.lt_iff_toInt_lt] at h ⊢
  omega

theorem own_getRef {p : Program} {l : Launch} {e : Env} {R : Room} {s : State} {m : MethodId} {args : Array Value} {below : List Frame} {meth : Method} {c : Code} {T : State} {locs : List Loc} {cells slots : Nat} {Z : State} {a0 : Array Value} {h : Heap}
    (X : Stand p l e R s m args below meth c T locs cells slots) (hx : p.tables.exec = Jvm.exec) (hZ : Z.Warmed39 s.vm) {own O n d : String} {index : Nat} (hown : s.vm.findClass own = some m.cls) (w : (Jvm.Cond.fieldRef own index O n d).before a0 Z = true)
    (eT : T.heap = h) {v : Value} (F : Sta Z h O n d v) {g : JFrame} (hg : g.method = m) (hd : decode c.code g.pc = .ok (.getstatic index, 3)) : ∃ T', Stand p l e R s m args below meth c T' locs cells slots ∧ T'.heap = h ∧ ∀ target, Steps p.tables e below (T'.setTop { g with pc := g.pc + 3, stack := v :: g.stack }) target → Steps p.tables e below (T.setTop g) target := by
  obtain ⟨cf, i, k, f, st, cell, h1, h2, h3, h4, h5, h6, h7⟩ := F
  have hT : Z.Warmed39 T.vm := wtrans hZ X.warmed
  have wT := Cond.fieldRef_warmed39 hT w
  have hc : (Z.setVm T.vm).vm.findClass own = some m.cls := by
    show T.vm.findClass own = _
    rw [X.warmed.alike.findClass]
    exact hown
  obtain ⟨c', k1, i', f', q1, hready⟩ := Cond.fieldRef_spec hc wT
  obtain ⟨k2, q2, ek⟩ := State.fieldFound?_setVm (s := Z) hT.alike h1
  cases q1.symm.trans q2
  have hk := (State.fieldFound?_spec q2).1
  refine ⟨T, X, eT, fun target hrest => ?_⟩
  subst hg
  jvm_step X.here [hx, hd, getstatic.wp_ready (e := e) (s := T) (f := g) X.here.top hready h2 hk (by rw [ek]; exact h3) (by rw [ek]; exact h4) (by rw [eT]; exact h5) (fun q => by rw [q] at h6; cases h6) h7]
  exact hrest

theorem pn_com_example_spindle_spindle_DispatchTimes_Band : plainName "com/example/spindle/spindle/DispatchTimes$Band" = true := by first | (simp [plainName, overriddenIn]; done) | decide +kernel
theorem d_prog_5_method_5_code_0 : decode prog_5_method_5_code 0 = .ok (.getstatic 39, 3) := by decide +kernel
theorem d_prog_5_method_5_code_3 : decode prog_5_method_5_code 3 = .ok (.arraylength, 1) := by decide +kernel
theorem d_prog_5_method_5_code_4 : decode prog_5_method_5_code 4 = .ok (.iconst 1, 1) := by decide +kernel
theorem d_prog_5_method_5_code_5 : decode prog_5_method_5_code 5 = .ok (.isub, 1) := by decide +kernel
theorem d_prog_5_method_5_code_6 : decode prog_5_method_5_code 6 = .ok (.istore_n 2, 1) := by decide +kernel
theorem d_prog_5_method_5_code_7 : decode prog_5_method_5_code 7 = .ok (.iload_n 2, 1) := by decide +kernel
theorem d_prog_5_method_5_code_8 : decode prog_5_method_5_code 8 = .ok (.ifCond .le 22, 3) := by decide +kernel
theorem d_prog_5_method_5_code_11 : decode prog_5_method_5_code 11 = .ok (.getstatic 39, 3) := by decide +kernel
theorem d_prog_5_method_5_code_14 : decode prog_5_method_5_code 14 = .ok (.iload_n 2, 1) := by decide +kernel
theorem d_prog_5_method_5_code_15 : decode prog_5_method_5_code 15 = .ok (.aaload, 1) := by decide +kernel
theorem d_prog_5_method_5_code_16 : decode prog_5_method_5_code 16 = .ok (.getfield 35, 3) := by decide +kernel
theorem d_prog_5_method_5_code_19 : decode prog_5_method_5_code 19 = .ok (.lload_n 0, 1) := by decide +kernel
theorem d_prog_5_method_5_code_20 : decode prog_5_method_5_code 20 = .ok (.lcmp, 1) := by decide +kernel
theorem d_prog_5_method_5_code_21 : decode prog_5_method_5_code 21 = .ok (.ifCond .le 9, 3) := by decide +kernel
theorem d_prog_5_method_5_code_24 : decode prog_5_method_5_code 24 = .ok (.iinc 2 (-1), 3) := by decide +kernel
theorem d_prog_5_method_5_code_27 : decode prog_5_method_5_code 27 = .ok (.goto (-20), 3) := by decide +kernel
theorem d_prog_5_method_5_code_30 : decode prog_5_method_5_code 30 = .ok (.getstatic 39, 3) := by decide +kernel
theorem d_prog_5_method_5_code_33 : decode prog_5_method_5_code 33 = .ok (.iload_n 2, 1) := by decide +kernel
theorem d_prog_5_method_5_code_34 : decode prog_5_method_5_code 34 = .ok (.aaload, 1) := by decide +kernel
theorem d_prog_5_method_5_code_35 : decode prog_5_method_5_code 35 = .ok (.areturn, 1) := by decide +kernel
theorem ef_rmOf0 (m : MethodId) (q1 : Int64) : entryFrame m #[(.long q1)] 3 = mkF m 0 #[.val (.long q1), .second, .unset] [] := by first | (simp [entryFrame, mkF, argsToLocals, Value.category]; done) | rfl
def Q_rmOf0 (Z : State) (q1 : Int64) (ba : Addr) (kb : ClassId) (r0 : Addr) (r1 : Addr) (r2 : Addr) (r3 : Addr) (h0 : Heap) (n0 : Nat) (v : Option Value) (h : Heap) (L : List Loc) : Prop := v = some (.ref r0) ∧ Fr n0 L ∧ h = h0
set_option maxRecDepth 65536 in
set_option maxHeartbeats 40000000 in
theorem rmOf0 (l : Launch) (Z : State) (a0 : Array Value) (hw : ∀ d ∈ tables_1, d.before a0 Z = true) (ws : List Jvm.Cond) (q1 : Int64) (ba : Addr) (kb : ClassId) (r0 : Addr) (r1 : Addr) (r2 : Addr) (r3 : Addr) (h0 : Heap) (n0 : Nat) (Z0 : n0 ≤ h0.size) (P0 : Sta Z h0 "com/example/spindle/spindle/DispatchTimes$Band" "BANDS" "[Lcom/example/spindle/spindle/DispatchTimes$Band;" (.ref ba)) (P1 : Arv Z h0 ba kb (.object "com/example/spindle/spindle/DispatchTimes$Band") (4 : Int32) [(.ref r0), (.ref r1), (.ref r2), (.ref r3)] .null) (P2 : Exa Z h0 r0 "com/example/spindle/spindle/DispatchTimes$Band") (P3 : Fld Z h0 r0 "com/example/spindle/spindle/DispatchTimes$Band" "lowerMillis" "J" (.long (0 : Int64))) (P4 : Exa Z h0 r1 "com/example/spindle/spindle/DispatchTimes$Band") (P5 : Fld Z h0 r1 "com/example/spindle/spindle/DispatchTimes$Band" "lowerMillis" "J" (.long (50 : Int64))) (P6 : Exa Z h0 r2 "com/example/spindle/spindle/DispatchTimes$Band") (P7 : Fld Z h0 r2 "com/example/spindle/spindle/DispatchTimes$Band" "lowerMillis" "J" (.long (250 : Int64))) (P8 : Exa Z h0 r3 "com/example/spindle/spindle/DispatchTimes$Band") (P9 : Fld Z h0 r3 "com/example/spindle/spindle/DispatchTimes$Band" "lowerMillis" "J" (.long (1000 : Int64))) (h1 : q1 < (1000 : Int64)) (h2 : q1 < (250 : Int64)) (h3 : q1 < (50 : Int64)) :
    MetFree l (⟨"com/example/spindle/spindle/DispatchTimes$Band", "of", "(J)Lcom/example/spindle/spindle/DispatchTimes$Band;"⟩ : MethodName) (head1 (Jvm.Cond.code (⟨"com/example/spindle/spindle/DispatchTimes$Band", "of", "(J)Lcom/example/spindle/spindle/DispatchTimes$Band;"⟩ : MethodName) prog_5_method_5_code 3 (some (.object "com/example/spindle/spindle/DispatchTimes$Band")) :: ws) ({ frames := 0, cells := 0, slots := 0, locals := 0 } : Room)) (fun a U => a = #[(.long q1)] ∧ Z.Warmed39 U.vm ∧ U.heap = h0) (fun _ _ _ _ _ => True) (fun _ U o U' => ∃ v L, o = .returned v ∧ Q_rmOf0 Z q1 ba kb r0 r1 r2 r3 h0 n0 v U'.heap L ∧ FrameEnd U o U' L ({ frames := 0, cells := 0, slots := 0, locals := 0 } : Room).cells ({ frames := 0, cells := 0, slots := 0, locals := 0 } : Room).slots) := by
  refine MetFree.of_bodySF (plainFor_of_name pn_com_example_spindle_spindle_DispatchTimes_Band) hisR ?_
  intro p e s m args below meth c s₁ Bd hml0 hP hK
  obtain ⟨rfl, hZ, hh⟩ := hP
  have hx := Bd.exec
  have hby := Bd.bytes
  have hml : c.maxLocals = 3 := hml0
  have hown : s.vm.findClass "com/example/spindle/spindle/DispatchTimes$Band" = some m.cls := findClass_of_methodNamed Bd.named
  have hnm := (name_of_methodNamed Bd.named Bd.method).1
  have X0 : Stand p l e ({ frames := 0, cells := 0, slots := 0, locals := 0 } : Room) s m #[(.long q1)] below meth c s₁ [] 0 0 := Stand.of_body Bd
  have e0 : s₁.heap = h0 := by rw [← hh, Bd.state]; rfl
  have N0 := Fr.nil n0
  refine own_fw (A' := (s₁.setTop (mkF m 0 #[.val (.long q1), .second, .unset] []))) (fun t k => castTop (ef_rmOf0 m q1) k) ?_
  obtain ⟨T1, X1, e1, st1⟩ := getS2 X0 hx hZ hown (host := "") (Or.inl (hw _ (List.mem_of_getElem? (i := 30) rfl))) Via.refl e0 P0 (g := (mkF m 0 #[.val (.long q1), .second, .unset] [])) rfl (hb hby d_prog_5_method_5_code_0)
  refine own_fw (A' := (T1.setTop (mkF m 3 #[.val (.long q1), .second, .unset] [(.ref ba)]))) (fun t k => st1 _ k) ?_
  obtain ⟨cl2, Ar2, q2, S2, M2, H2, G2⟩ := id P1
  refine own_fw (A' := (T1.setTop (mkF m 4 #[.val (.long q1), .second, .unset] [(.int (4 : Int32))]))) (fun t k => X1.arraylength hx (by rw [e1]; exact Ar2.1) (State.isArrayOf_alike hZ.alike Ar2.2.1) (g := (mkF m 3 #[.val (.long q1), .second, .unset] [(.ref ba)])) rfl rfl (hb hby d_prog_5_method_5_code_3) _ (by rw [len_of S2 M2]; exact k)) ?_
  refine own_fw (A' := (T1.setTop (mkF m 5 #[.val (.long q1), .second, .unset] [(.int (1 : Int32)), (.int (4 : Int32))]))) (fun t k => XS.iconst X1.here hx rfl (hb hby d_prog_5_method_5_code_4) k) ?_
  refine own_fw (A' := (T1.setTop (mkF m 6 #[.val (.long q1), .second, .unset] [(.int (3 : Int32))]))) (fun t k => XS.isub X1.here hx rfl (hb hby d_prog_5_method_5_code_5) rfl k) ?_
  refine own_fw (A' := (T1.setTop (mkF m 7 #[.val (.long q1), .second, .val (.int (3 : Int32))] []))) (fun t k => XS.istoreN X1.here hx rfl (hb hby d_prog_5_method_5_code_6) rfl (l' := #[.val (.long q1), .second, .val (.int (3 : Int32))]) rfl k) ?_
  refine own_fw (A' := (T1.setTop (mkF m 8 #[.val (.long q1), .second, .val (.int (3 : Int32))] [(.int (3 : Int32))]))) (fun t k => XS.iloadN X1.here hx rfl (hb hby d_prog_5_method_5_code_7) rfl k) ?_
  refine own_fw (A' := (T1.setTop (mkF m 11 #[.val (.long q1), .second, .val (.int (3 : Int32))] []))) (fun t k => XS.ifNo X1.here hx rfl (hb hby d_prog_5_method_5_code_8) rfl (XT.i0_le_f (by decide)) k) ?_
  obtain ⟨T3, X3, e3, st3⟩ := getS2 X1 hx hZ hown (host := "") (Or.inl (hw _ (List.mem_of_getElem? (i := 30) rfl))) Via.refl e1 P0 (g := (mkF m 11 #[.val (.long q1), .second, .val (.int (3 : Int32))] [])) rfl (hb hby d_prog_5_method_5_code_11)
  refine own_fw (A' := (T3.setTop (mkF m 14 #[.val (.long q1), .second, .val (.int (3 : Int32))] [(.ref ba)]))) (fun t k => st3 _ k) ?_
  refine own_fw (A' := (T3.setTop (mkF m 15 #[.val (.long q1), .second, .val (.int (3 : Int32))] [(.int (3 : Int32)), (.ref ba)]))) (fun t k => XS.iloadN X3.here hx rfl (hb hby d_prog_5_method_5_code_14) rfl k) ?_
  obtain ⟨cl4, Ar4, q4, S4, M4, H4, G4⟩ := id P1
  have hin4 : ¬ ((3 : Int32) < 0 ∨ cl4.slots.size ≤ ((3 : Int32)).toNatClampNeg) := inb_of S4 ⟨by decide, by decide⟩
  have hat4 : cl4.slots[((3 : Int32)).toNatClampNeg]? = some (.ref r3) := H4.at hin4 rfl
  refine own_fw (A' := (T3.setTop (mkF m 16 #[.val (.long q1), .second, .val (.int (3 : Int32))] [(.ref r3)]))) (fun t k => X3.aaload hx (j := (3 : Int32)) (v := (.ref r3)) (by rw [e3]; exact Ar4.1) (State.isArrayOf_alike hZ.alike Ar4.2.1) rfl Ar4.2.2 hin4 hat4 (g := (mkF m 15 #[.val (.long q1), .second, .val (.int (3 : Int32))] [(.int (3 : Int32)), (.ref ba)])) rfl rfl (hb hby d_prog_5_method_5_code_15) _ k) ?_
  obtain ⟨T5, X5, e5, st5⟩ := getF X3 hx hZ hown (host := "") (Or.inl (hw _ (List.mem_of_getElem? (i := 32) rfl))) Via.refl e3 P9 (g := (mkF m 16 #[.val (.long q1), .second, .val (.int (3 : Int32))] [(.ref r3)])) rfl rfl (hb hby d_prog_5_method_5_code_16)
  refine own_fw (A' := (T5.setTop (mkF m 19 #[.val (.long q1), .second, .val (.int (3 : Int32))] [(.long (1000 : Int64))]))) (fun t k => st5 _ k) ?_
  refine own_fw (A' := (T5.setTop (mkF m 20 #[.val (.long q1), .second, .val (.int (3 : Int32))] [(.long q1), (.long (1000 : Int64))]))) (fun t k => XS.lloadN X5.here hx rfl (hb hby d_prog_5_method_5_code_19) rfl k) ?_
  refine own_fw (A' := (T5.setTop (mkF m 21 #[.val (.long q1), .second, .val (.int (3 : Int32))] [(.int (XT.cmpL (1000 : Int64) q1))]))) (fun t k => XT.lcmp X5.here hx rfl (hb hby d_prog_5_method_5_code_20) rfl k) ?_
  refine own_fw (A' := (T5.setTop (mkF m 24 #[.val (.long q1), .second, .val (.int (3 : Int32))] []))) (fun t k => XS.ifNo X5.here hx rfl (hb hby d_prog_5_method_5_code_21) rfl (XT.ll_le_f h1) k) ?_
  refine own_fw (A' := (T5.setTop (mkF m 27 #[.val (.long q1), .second, .val (.int (2 : Int32))] []))) (fun t k => XS.iinc X5.here hx rfl (hb hby d_prog_5_method_5_code_24) rfl (l' := #[.val (.long q1), .second, .val (.int (2 : Int32))]) rfl k) ?_
  refine own_fw (A' := (T5.setTop (mkF m 7 #[.val (.long q1), .second, .val (.int (2 : Int32))] []))) (fun t k => XS.goto X5.here hx rfl (pc0 := 27) (pc' := 7) rfl (hb hby d_prog_5_method_5_code_27) (by decide) (by decide) k) ?_
  refine own_fw (A' := (T5.setTop (mkF m 8 #[.val (.long q1), .second, .val (.int (2 : Int32))] [(.int (2 : Int32))]))) (fun t k => XS.iloadN X5.here hx rfl (hb hby d_prog_5_method_5_code_7) rfl k) ?_
  refine own_fw (A' := (T5.setTop (mkF m 11 #[.val (.long q1), .second, .val (.int (2 : Int32))] []))) (fun t k => XS.ifNo X5.here hx rfl (hb hby d_prog_5_method_5_code_8) rfl (XT.i0_le_f (by decide)) k) ?_
  obtain ⟨T6, X6, e6, st6⟩ := getS2 X5 hx hZ hown (host := "") (Or.inl (hw _ (List.mem_of_getElem? (i := 30) rfl))) Via.refl e5 P0 (g := (mkF m 11 #[.val (.long q1), .second, .val (.int (2 : Int32))] [])) rfl (hb hby d_prog_5_method_5_code_11)
  refine own_fw (A' := (T6.setTop (mkF m 14 #[.val (.long q1), .second, .val (.int (2 : Int32))] [(.ref ba)]))) (fun t k => st6 _ k) ?_
  refine own_fw (A' := (T6.setTop (mkF m 15 #[.val (.long q1), .second, .val (.int (2 : Int32))] [(.int (2 : Int32)), (.ref ba)]))) (fun t k => XS.iloadN X6.here hx rfl (hb hby d_prog_5_method_5_code_14) rfl k) ?_
  obtain ⟨cl7, Ar7, q7, S7, M7, H7, G7⟩ := id P1
  have hin7 : ¬ ((2 : Int32) < 0 ∨ cl7.slots.size ≤ ((2 : Int32)).toNatClampNeg) := inb_of S7 ⟨by decide, by decide⟩
  have hat7 : cl7.slots[((2 : Int32)).toNatClampNeg]? = some (.ref r2) := H7.at hin7 rfl
  refine own_fw (A' := (T6.setTop (mkF m 16 #[.val (.long q1), .second, .val (.int (2 : Int32))] [(.ref r2)]))) (fun t k => X6.aaload hx (j := (2 : Int32)) (v := (.ref r2)) (by rw [e6]; exact Ar7.1) (State.isArrayOf_alike hZ.alike Ar7.2.1) rfl Ar7.2.2 hin7 hat7 (g := (mkF m 15 #[.val (.long q1), .second, .val (.int (2 : Int32))] [(.int (2 : Int32)), (.ref ba)])) rfl rfl (hb hby d_prog_5_method_5_code_15) _ k) ?_
  obtain ⟨T8, X8, e8, st8⟩ := getF X6 hx hZ hown (host := "") (Or.inl (hw _ (List.mem_of_getElem? (i := 32) rfl))) Via.refl e6 P7 (g := (mkF m 16 #[.val (.long q1), .second, .val (.int (2 : Int32))] [(.ref r2)])) rfl rfl (hb hby d_prog_5_method_5_code_16)
  refine own_fw (A' := (T8.setTop (mkF m 19 #[.val (.long q1), .second, .val (.int (2 : Int32))] [(.long (250 : Int64))]))) (fun t k => st8 _ k) ?_
  refine own_fw (A' := (T8.setTop (mkF m 20 #[.val (.long q1), .second, .val (.int (2 : Int32))] [(.long q1), (.long (250 : Int64))]))) (fun t k => XS.lloadN X8.here hx rfl (hb hby d_prog_5_method_5_code_19) rfl k) ?_
  refine own_fw (A' := (T8.setTop (mkF m 21 #[.val (.long q1), .second, .val (.int (2 : Int32))] [(.int (XT.cmpL (250 : Int64) q1))]))) (fun t k => XT.lcmp X8.here hx rfl (hb hby d_prog_5_method_5_code_20) rfl k) ?_
  refine own_fw (A' := (T8.setTop (mkF m 24 #[.val (.long q1), .second, .val (.int (2 : Int32))] []))) (fun t k => XS.ifNo X8.here hx rfl (hb hby d_prog_5_method_5_code_21) rfl (XT.ll_le_f h2) k) ?_
  refine own_fw (A' := (T8.setTop (mkF m 27 #[.val (.long q1), .second, .val (.int (1 : Int32))] []))) (fun t k => XS.iinc X8.here hx rfl (hb hby d_prog_5_method_5_code_24) rfl (l' := #[.val (.long q1), .second, .val (.int (1 : Int32))]) rfl k) ?_
  refine own_fw (A' := (T8.setTop (mkF m 7 #[.val (.long q1), .second, .val (.int (1 : Int32))] []))) (fun t k => XS.goto X8.here hx rfl (pc0 := 27) (pc' := 7) rfl (hb hby d_prog_5_method_5_code_27) (by decide) (by decide) k) ?_
  refine own_fw (A' := (T8.setTop (mkF m 8 #[.val (.long q1), .second, .val (.int (1 : Int32))] [(.int (1 : Int32))]))) (fun t k => XS.iloadN X8.here hx rfl (hb hby d_prog_5_method_5_code_7) rfl k) ?_
  refine own_fw (A' := (T8.setTop (mkF m 11 #[.val (.long q1), .second, .val (.int (1 : Int32))] []))) (fun t k => XS.ifNo X8.here hx rfl (hb hby d_prog_5_method_5_code_8) rfl (XT.i0_le_f (by decide)) k) ?_
  obtain ⟨T9, X9, e9, st9⟩ := getS2 X8 hx hZ hown (host := "") (Or.inl (hw _ (List.mem_of_getElem? (i := 30) rfl))) Via.refl e8 P0 (g := (mkF m 11 #[.val (.long q1), .second, .val (.int (1 : Int32))] [])) rfl (hb hby d_prog_5_method_5_code_11)
  refine own_fw (A' := (T9.setTop (mkF m 14 #[.val (.long q1), .second, .val (.int (1 : Int32))] [(.ref ba)]))) (fun t k => st9 _ k) ?_
  refine own_fw (A' := (T9.setTop (mkF m 15 #[.val (.long q1), .second, .val (.int (1 : Int32))] [(.int (1 : Int32)), (.ref ba)]))) (fun t k => XS.iloadN X9.here hx rfl (hb hby d_prog_5_method_5_code_14) rfl k) ?_
  obtain ⟨cl10, Ar10, q10, S10, M10, H10, G10⟩ := id P1
  have hin10 : ¬ ((1 : Int32) < 0 ∨ cl10.slots.size ≤ ((1 : Int32)).toNatClampNeg) := inb_of S10 ⟨by decide, by decide⟩
  have hat10 : cl10.slots[((1 : Int32)).toNatClampNeg]? = some (.ref r1) := H10.at hin10 rfl
  refine own_fw (A' := (T9.setTop (mkF m 16 #[.val (.long q1), .second, .val (.int (1 : Int32))] [(.ref r1)]))) (fun t k => X9.aaload hx (j := (1 : Int32)) (v := (.ref r1)) (by rw [e9]; exact Ar10.1) (State.isArrayOf_alike hZ.alike Ar10.2.1) rfl Ar10.2.2 hin10 hat10 (g := (mkF m 15 #[.val (.long q1), .second, .val (.int (1 : Int32))] [(.int (1 : Int32)), (.ref ba)])) rfl rfl (hb hby d_prog_5_method_5_code_15) _ k) ?_
  obtain ⟨T11, X11, e11, st11⟩ := getF X9 hx hZ hown (host := "") (Or.inl (hw _ (List.mem_of_getElem? (i := 32) rfl))) Via.refl e9 P5 (g := (mkF m 16 #[.val (.long q1), .second, .val (.int (1 : Int32))] [(.ref r1)])) rfl rfl (hb hby d_prog_5_method_5_code_16)
  refine own_fw (A' := (T11.setTop (mkF m 19 #[.val (.long q1), .second, .val (.int (1 : Int32))] [(.long (50 : Int64))]))) (fun t k => st11 _ k) ?_
  refine own_fw (A' := (T11.setTop (mkF m 20 #[.val (.long q1), .second, .val (.int (1 : Int32))] [(.long q1), (.long (50 : Int64))]))) (fun t k => XS.lloadN X11.here hx rfl (hb hby d_prog_5_method_5_code_19) rfl k) ?_
  refine own_fw (A' := (T11.setTop (mkF m 21 #[.val (.long q1), .second, .val (.int (1 : Int32))] [(.int (XT.cmpL (50 : Int64) q1))]))) (fun t k => XT.lcmp X11.here hx rfl (hb hby d_prog_5_method_5_code_20) rfl k) ?_
  refine own_fw (A' := (T11.setTop (mkF m 24 #[.val (.long q1), .second, .val (.int (1 : Int32))] []))) (fun t k => XS.ifNo X11.here hx rfl (hb hby d_prog_5_method_5_code_21) rfl (XT.ll_le_f h3) k) ?_
  refine own_fw (A' := (T11.setTop (mkF m 27 #[.val (.long q1), .second, .val (.int (0 : Int32))] []))) (fun t k => XS.iinc X11.here hx rfl (hb hby d_prog_5_method_5_code_24) rfl (l' := #[.val (.long q1), .second, .val (.int (0 : Int32))]) rfl k) ?_
  refine own_fw (A' := (T11.setTop (mkF m 7 #[.val (.long q1), .second, .val (.int (0 : Int32))] []))) (fun t k => XS.goto X11.here hx rfl (pc0 := 27) (pc' := 7) rfl (hb hby d_prog_5_method_5_code_27) (by decide) (by decide) k) ?_
  refine own_fw (A' := (T11.setTop (mkF m 8 #[.val (.long q1), .second, .val (.int (0 : Int32))] [(.int (0 : Int32))]))) (fun t k => XS.iloadN X11.here hx rfl (hb hby d_prog_5_method_5_code_7) rfl k) ?_
  refine own_fw (A' := (T11.setTop (mkF m 30 #[.val (.long q1), .second, .val (.int (0 : Int32))] []))) (fun t k => XS.ifYes X11.here hx rfl (pc0 := 8) (pc' := 30) rfl (hb hby d_prog_5_method_5_code_8) rfl (XT.i0_le_t (by decide)) (by decide) (by decide) k) ?_
  obtain ⟨T12, X12, e12, st12⟩ := getS2 X11 hx hZ hown (host := "") (Or.inl (hw _ (List.mem_of_getElem? (i := 30) rfl))) Via.refl e11 P0 (g := (mkF m 30 #[.val (.long q1), .second, .val (.int (0 : Int32))] [])) rfl (hb hby d_prog_5_method_5_code_30)
  refine own_fw (A' := (T12.setTop (mkF m 33 #[.val (.long q1), .second, .val (.int (0 : Int32))] [(.ref ba)]))) (fun t k => st12 _ k) ?_
  refine own_fw (A' := (T12.setTop (mkF m 34 #[.val (.long q1), .second, .val (.int (0 : Int32))] [(.int (0 : Int32)), (.ref ba)]))) (fun t k => XS.iloadN X12.here hx rfl (hb hby d_prog_5_method_5_code_33) rfl k) ?_
  obtain ⟨cl13, Ar13, q13, S13, M13, H13, G13⟩ := id P1
  have hin13 : ¬ ((0 : Int32) < 0 ∨ cl13.slots.size ≤ ((0 : Int32)).toNatClampNeg) := inb_of S13 ⟨by decide, by decide⟩
  have hat13 : cl13.slots[((0 : Int32)).toNatClampNeg]? = some (.ref r0) := H13.at hin13 rfl
  refine own_fw (A' := (T12.setTop (mkF m 35 #[.val (.long q1), .second, .val (.int (0 : Int32))] [(.ref r0)]))) (fun t k => X12.aaload hx (j := (0 : Int32)) (v := (.ref r0)) (by rw [e12]; exact Ar13.1) (State.isArrayOf_alike hZ.alike Ar13.2.1) rfl Ar13.2.2 hin13 hat13 (g := (mkF m 34 #[.val (.long q1), .second, .val (.int (0 : Int32))] [(.int (0 : Int32)), (.ref ba)])) rfl rfl (hb hby d_prog_5_method_5_code_34) _ k) ?_
  obtain ⟨fs, hr, hrun, hended, hW, hsame⟩ := X12.leave (v := some (.ref r0)) (fun h => by rw [Bd.returns] at h; cases h)
  refine ⟨_, _, ?_, hrun, hended, _, _, rfl, ?_, ⟨_, rfl⟩, hW, hsame.mono (by decide) (by decide)⟩
  · exact retOut X12 hx Bd.returns rfl (Or.inr (Or.inr (Or.inr (Or.inr ⟨rfl, rfl, rfl⟩)))) (hb hby d_prog_5_method_5_code_35) hr
  · show Q_rmOf0 Z q1 ba kb r0 r1 r2 r3 h0 n0 _ T12.heap _
    rw [e12]
    exact ⟨rfl, N0, rfl⟩
theorem ef_rmOf1 (m : MethodId) (q1 : Int64) : entryFrame m #[(.long q1)] 3 = mkF m 0 #[.val (.long q1), .second, .unset] [] := by first | (simp [entryFrame, mkF, argsToLocals, Value.category]; done) | rfl
def Q_rmOf1 (Z : State) (q1 : Int64) (ba : Addr) (kb : ClassId) (r0 : Addr) (r1 : Addr) (r2 : Addr) (r3 : Addr) (h0 : Heap) (n0 : Nat) (v : Option Value) (h : Heap) (L : List Loc) : Prop := v = some (.ref r1) ∧ Fr n0 L ∧ h = h0
set_option maxRecDepth 65536 in
set_option maxHeartbeats 40000000 in
theorem rmOf1 (l : Launch) (Z : State) (a0 : Array Value) (hw : ∀ d ∈ tables_1, d.before a0 Z = true) (ws : List Jvm.Cond) (q1 : Int64) (ba : Addr) (kb : ClassId) (r0 : Addr) (r1 : Addr) (r2 : Addr) (r3 : Addr) (h0 : Heap) (n0 : Nat) (Z0 : n0 ≤ h0.size) (P0 : Sta Z h0 "com/example/spindle/spindle/DispatchTimes$Band" "BANDS" "[Lcom/example/spindle/spindle/DispatchTimes$Band;" (.ref ba)) (P1 : Arv Z h0 ba kb (.object "com/example/spindle/spindle/DispatchTimes$Band") (4 : Int32) [(.ref r0), (.ref r1), (.ref r2), (.ref r3)] .null) (P2 : Exa Z h0 r0 "com/example/spindle/spindle/DispatchTimes$Band") (P3 : Fld Z h0 r0 "com/example/spindle/spindle/DispatchTimes$Band" "lowerMillis" "J" (.long (0 : Int64))) (P4 : Exa Z h0 r1 "com/example/spindle/spindle/DispatchTimes$Band") (P5 : Fld Z h0 r1 "com/example/spindle/spindle/DispatchTimes$Band" "lowerMillis" "J" (.long (50 : Int64))) (P6 : Exa Z h0 r2 "com/example/spindle/spindle/DispatchTimes$Band") (P7 : Fld Z h0 r2 "com/example/spindle/spindle/DispatchTimes$Band" "lowerMillis" "J" (.long (250 : Int64))) (P8 : Exa Z h0 r3 "com/example/spindle/spindle/DispatchTimes$Band") (P9 : Fld Z h0 r3 "com/example/spindle/spindle/DispatchTimes$Band" "lowerMillis" "J" (.long (1000 : Int64))) (h1 : q1 < (1000 : Int64)) (h2 : q1 < (250 : Int64)) (h3 : ¬ (q1 < (50 : Int64))) :
    MetFree l (⟨"com/example/spindle/spindle/DispatchTimes$Band", "of", "(J)Lcom/example/spindle/spindle/DispatchTimes$Band;"⟩ : MethodName) (head1 (Jvm.Cond.code (⟨"com/example/spindle/spindle/DispatchTimes$Band", "of", "(J)Lcom/example/spindle/spindle/DispatchTimes$Band;"⟩ : MethodName) prog_5_method_5_code 3 (some (.object "com/example/spindle/spindle/DispatchTimes$Band")) :: ws) ({ frames := 0, cells := 0, slots := 0, locals := 0 } : Room)) (fun a U => a = #[(.long q1)] ∧ Z.Warmed39 U.vm ∧ U.heap = h0) (fun _ _ _ _ _ => True) (fun _ U o U' => ∃ v L, o = .returned v ∧ Q_rmOf1 Z q1 ba kb r0 r1 r2 r3 h0 n0 v U'.heap L ∧ FrameEnd U o U' L ({ frames := 0, cells := 0, slots := 0, locals := 0 } : Room).cells ({ frames := 0, cells := 0, slots := 0, locals := 0 } : Room).slots) := by
  refine MetFree.of_bodySF (plainFor_of_name pn_com_example_spindle_spindle_DispatchTimes_Band) hisR ?_
  intro p e s m args below meth c s₁ Bd hml0 hP hK
  obtain ⟨rfl, hZ, hh⟩ := hP
  have hx := Bd.exec
  have hby := Bd.bytes
  have hml : c.maxLocals = 3 := hml0
  have hown : s.vm.findClass "com/example/spindle/spindle/DispatchTimes$Band" = some m.cls := findClass_of_methodNamed Bd.named
  have hnm := (name_of_methodNamed Bd.named Bd.method).1
  have X0 : Stand p l e ({ frames := 0, cells := 0, slots := 0, locals := 0 } : Room) s m #[(.long q1)] below meth c s₁ [] 0 0 := Stand.of_body Bd
  have e0 : s₁.heap = h0 := by rw [← hh, Bd.state]; rfl
  have N0 := Fr.nil n0
  refine own_fw (A' := (s₁.setTop (mkF m 0 #[.val (.long q1), .second, .unset] []))) (fun t k => castTop (ef_rmOf1 m q1) k) ?_
  obtain ⟨T1, X1, e1, st1⟩ := getS2 X0 hx hZ hown (host := "") (Or.inl (hw _ (List.mem_of_getElem? (i := 30) rfl))) Via.refl e0 P0 (g := (mkF m 0 #[.val (.long q1), .second, .unset] [])) rfl (hb hby d_prog_5_method_5_code_0)
  refine own_fw (A' := (T1.setTop (mkF m 3 #[.val (.long q1), .second, .unset] [(.ref ba)]))) (fun t k => st1 _ k) ?_
  obtain ⟨cl2, Ar2, q2, S2, M2, H2, G2⟩ := id P1
  refine own_fw (A' := (T1.setTop (mkF m 4 #[.val (.long q1), .second, .unset] [(.int (4 : Int32))]))) (fun t k => X1.arraylength hx (by rw [e1]; exact Ar2.1) (State.isArrayOf_alike hZ.alike Ar2.2.1) (g := (mkF m 3 #[.val (.long q1), .second, .unset] [(.ref ba)])) rfl rfl (hb hby d_prog_5_method_5_code_3) _ (by rw [len_of S2 M2]; exact k)) ?_
  refine own_fw (A' := (T1.setTop (mkF m 5 #[.val (.long q1), .second, .unset] [(.int (1 : Int32)), (.int (4 : Int32))]))) (fun t k => XS.iconst X1.here hx rfl (hb hby d_prog_5_method_5_code_4) k) ?_
  refine own_fw (A' := (T1.setTop (mkF m 6 #[.val (.long q1), .second, .unset] [(.int (3 : Int32))]))) (fun t k => XS.isub X1.here hx rfl (hb hby d_prog_5_method_5_code_5) rfl k) ?_
  refine own_fw (A' := (T1.setTop (mkF m 7 #[.val (.long q1), .second, .val (.int (3 : Int32))] []))) (fun t k => XS.istoreN X1.here hx rfl (hb hby d_prog_5_method_5_code_6) rfl (l' := #[.val (.long q1), .second, .val (.int (3 : Int32))]) rfl k) ?_
  refine own_fw (A' := (T1.setTop (mkF m 8 #[.val (.long q1), .second, .val (.int (3 : Int32))] [(.int (3 : Int32))]))) (fun t k => XS.iloadN X1.here hx rfl (hb hby d_prog_5_method_5_code_7) rfl k) ?_
  refine own_fw (A' := (T1.setTop (mkF m 11 #[.val (.long q1), .second, .val (.int (3 : Int32))] []))) (fun t k => XS.ifNo X1.here hx rfl (hb hby d_prog_5_method_5_code_8) rfl (XT.i0_le_f (by decide)) k) ?_
  obtain ⟨T3, X3, e3, st3⟩ := getS2 X1 hx hZ hown (host := "") (Or.inl (hw _ (List.mem_of_getElem? (i := 30) rfl))) Via.refl e1 P0 (g := (mkF m 11 #[.val (.long q1), .second, .val (.int (3 : Int32))] [])) rfl (hb hby d_prog_5_method_5_code_11)
  refine own_fw (A' := (T3.setTop (mkF m 14 #[.val (.long q1), .second, .val (.int (3 : Int32))] [(.ref ba)]))) (fun t k => st3 _ k) ?_
  refine own_fw (A' := (T3.setTop (mkF m 15 #[.val (.long q1), .second, .val (.int (3 : Int32))] [(.int (3 : Int32)), (.ref ba)]))) (fun t k => XS.iloadN X3.here hx rfl (hb hby d_prog_5_method_5_code_14) rfl k) ?_
  obtain ⟨cl4, Ar4, q4, S4, M4, H4, G4⟩ := id P1
  have hin4 : ¬ ((3 : Int32) < 0 ∨ cl4.slots.size ≤ ((3 : Int32)).toNatClampNeg) := inb_of S4 ⟨by decide, by decide⟩
  have hat4 : cl4.slots[((3 : Int32)).toNatClampNeg]? = some (.ref r3) := H4.at hin4 rfl
  refine own_fw (A' := (T3.setTop (mkF m 16 #[.val (.long q1), .second, .val (.int (3 : Int32))] [(.ref r3)]))) (fun t k => X3.aaload hx (j := (3 : Int32)) (v := (.ref r3)) (by rw [e3]; exact Ar4.1) (State.isArrayOf_alike hZ.alike Ar4.2.1) rfl Ar4.2.2 hin4 hat4 (g := (mkF m 15 #[.val (.long q1), .second, .val (.int (3 : Int32))] [(.int (3 : Int32)), (.ref ba)])) rfl rfl (hb hby d_prog_5_method_5_code_15) _ k) ?_
  obtain ⟨T5, X5, e5, st5⟩ := getF X3 hx hZ hown (host := "") (Or.inl (hw _ (List.mem_of_getElem? (i := 32) rfl))) Via.refl e3 P9 (g := (mkF m 16 #[.val (.long q1), .second, .val (.int (3 : Int32))] [(.ref r3)])) rfl rfl (hb hby d_prog_5_method_5_code_16)
  refine own_fw (A' := (T5.setTop (mkF m 19 #[.val (.long q1), .second, .val (.int (3 : Int32))] [(.long (1000 : Int64))]))) (fun t k => st5 _ k) ?_
  refine own_fw (A' := (T5.setTop (mkF m 20 #[.val (.long q1), .second, .val (.int (3 : Int32))] [(.long q1), (.long (1000 : Int64))]))) (fun t k => XS.lloadN X5.here hx rfl (hb hby d_prog_5_method_5_code_19) rfl k) ?_
  refine own_fw (A' := (T5.setTop (mkF m 21 #[.val (.long q1), .second, .val (.int (3 : Int32))] [(.int (XT.cmpL (1000 : Int64) q1))]))) (fun t k => XT.lcmp X5.here hx rfl (hb hby d_prog_5_method_5_code_20) rfl k) ?_
  refine own_fw (A' := (T5.setTop (mkF m 24 #[.val (.long q1), .second, .val (.int (3 : Int32))] []))) (fun t k => XS.ifNo X5.here hx rfl (hb hby d_prog_5_method_5_code_21) rfl (XT.ll_le_f h1) k) ?_
  refine own_fw (A' := (T5.setTop (mkF m 27 #[.val (.long q1), .second, .val (.int (2 : Int32))] []))) (fun t k => XS.iinc X5.here hx rfl (hb hby d_prog_5_method_5_code_24) rfl (l' := #[.val (.long q1), .second, .val (.int (2 : Int32))]) rfl k) ?_
  refine own_fw (A' := (T5.setTop (mkF m 7 #[.val (.long q1), .second, .val (.int (2 : Int32))] []))) (fun t k => XS.goto X5.here hx rfl (pc0 := 27) (pc' := 7) rfl (hb hby d_prog_5_method_5_code_27) (by decide) (by decide) k) ?_
  refine own_fw (A' := (T5.setTop (mkF m 8 #[.val (.long q1), .second, .val (.int (2 : Int32))] [(.int (2 : Int32))]))) (fun t k => XS.iloadN X5.here hx rfl (hb hby d_prog_5_method_5_code_7) rfl k) ?_
  refine own_fw (A' := (T5.setTop (mkF m 11 #[.val (.long q1), .second, .val (.int (2 : Int32))] []))) (fun t k => XS.ifNo X5.here hx rfl (hb hby d_prog_5_method_5_code_8) rfl (XT.i0_le_f (by decide)) k) ?_
  obtain ⟨T6, X6, e6, st6⟩ := getS2 X5 hx hZ hown (host := "") (Or.inl (hw _ (List.mem_of_getElem? (i := 30) rfl))) Via.refl e5 P0 (g := (mkF m 11 #[.val (.long q1), .second, .val (.int (2 : Int32))] [])) rfl (hb hby d_prog_5_method_5_code_11)
  refine own_fw (A' := (T6.setTop (mkF m 14 #[.val (.long q1), .second, .val (.int (2 : Int32))] [(.ref ba)]))) (fun t k => st6 _ k) ?_
  refine own_fw (A' := (T6.setTop (mkF m 15 #[.val (.long q1), .second, .val (.int (2 : Int32))] [(.int (2 : Int32)), (.ref ba)]))) (fun t k => XS.iloadN X6.here hx rfl (hb hby d_prog_5_method_5_code_14) rfl k) ?_
  obtain ⟨cl7, Ar7, q7, S7, M7, H7, G7⟩ := id P1
  have hin7 : ¬ ((2 : Int32) < 0 ∨ cl7.slots.size ≤ ((2 : Int32)).toNatClampNeg) := inb_of S7 ⟨by decide, by decide⟩
  have hat7 : cl7.slots[((2 : Int32)).toNatClampNeg]? = some (.ref r2) := H7.at hin7 rfl
  refine own_fw (A' := (T6.setTop (mkF m 16 #[.val (.long q1), .second, .val (.int (2 : Int32))] [(.ref r2)]))) (fun t k => X6.aaload hx (j := (2 : Int32)) (v := (.ref r2)) (by rw [e6]; exact Ar7.1) (State.isArrayOf_alike hZ.alike Ar7.2.1) rfl Ar7.2.2 hin7 hat7 (g := (mkF m 15 #[.val (.long q1), .second, .val (.int (2 : Int32))] [(.int (2 : Int32)), (.ref ba)])) rfl rfl (hb hby d_prog_5_method_5_code_15) _ k) ?_
  obtain ⟨T8, X8, e8, st8⟩ := getF X6 hx hZ hown (host := "") (Or.inl (hw _ (List.mem_of_getElem? (i := 32) rfl))) Via.refl e6 P7 (g := (mkF m 16 #[.val (.long q1), .second, .val (.int (2 : Int32))] [(.ref r2)])) rfl rfl (hb hby d_prog_5_method_5_code_16)
  refine own_fw (A' := (T8.setTop (mkF m 19 #[.val (.long q1), .second, .val (.int (2 : Int32))] [(.long (250 : Int64))]))) (fun t k => st8 _ k) ?_
  refine own_fw (A' := (T8.setTop (mkF m 20 #[.val (.long q1), .second, .val (.int (2 : Int32))] [(.long q1), (.long (250 : Int64))]))) (fun t k => XS.lloadN X8.here hx rfl (hb hby d_prog_5_method_5_code_19) rfl k) ?_
  refine own_fw (A' := (T8.setTop (mkF m 21 #[.val (.long q1), .second, .val (.int (2 : Int32))] [(.int (XT.cmpL (250 : Int64) q1))]))) (fun t k => XT.lcmp X8.here hx rfl (hb hby d_prog_5_method_5_code_20) rfl k) ?_
  refine own_fw (A' := (T8.setTop (mkF m 24 #[.val (.long q1), .second, .val (.int (2 : Int32))] []))) (fun t k => XS.ifNo X8.here hx rfl (hb hby d_prog_5_method_5_code_21) rfl (XT.ll_le_f h2) k) ?_
  refine own_fw (A' := (T8.setTop (mkF m 27 #[.val (.long q1), .second, .val (.int (1 : Int32))] []))) (fun t k => XS.iinc X8.here hx rfl (hb hby d_prog_5_method_5_code_24) rfl (l' := #[.val (.long q1), .second, .val (.int (1 : Int32))]) rfl k) ?_
  refine own_fw (A' := (T8.setTop (mkF m 7 #[.val (.long q1), .second, .val (.int (1 : Int32))] []))) (fun t k => XS.goto X8.here hx rfl (pc0 := 27) (pc' := 7) rfl (hb hby d_prog_5_method_5_code_27) (by decide) (by decide) k) ?_
  refine own_fw (A' := (T8.setTop (mkF m 8 #[.val (.long q1), .second, .val (.int (1 : Int32))] [(.int (1 : Int32))]))) (fun t k => XS.iloadN X8.here hx rfl (hb hby d_prog_5_method_5_code_7) rfl k) ?_
  refine own_fw (A' := (T8.setTop (mkF m 11 #[.val (.long q1), .second, .val (.int (1 : Int32))] []))) (fun t k => XS.ifNo X8.here hx rfl (hb hby d_prog_5_method_5_code_8) rfl (XT.i0_le_f (by decide)) k) ?_
  obtain ⟨T9, X9, e9, st9⟩ := getS2 X8 hx hZ hown (host := "") (Or.inl (hw _ (List.mem_of_getElem? (i := 30) rfl))) Via.refl e8 P0 (g := (mkF m 11 #[.val (.long q1), .second, .val (.int (1 : Int32))] [])) rfl (hb hby d_prog_5_method_5_code_11)
  refine own_fw (A' := (T9.setTop (mkF m 14 #[.val (.long q1), .second, .val (.int (1 : Int32))] [(.ref ba)]))) (fun t k => st9 _ k) ?_
  refine own_fw (A' := (T9.setTop (mkF m 15 #[.val (.long q1), .second, .val (.int (1 : Int32))] [(.int (1 : Int32)), (.ref ba)]))) (fun t k => XS.iloadN X9.here hx rfl (hb hby d_prog_5_method_5_code_14) rfl k) ?_
  obtain ⟨cl10, Ar10, q10, S10, M10, H10, G10⟩ := id P1
  have hin10 : ¬ ((1 : Int32) < 0 ∨ cl10.slots.size ≤ ((1 : Int32)).toNatClampNeg) := inb_of S10 ⟨by decide, by decide⟩
  have hat10 : cl10.slots[((1 : Int32)).toNatClampNeg]? = some (.ref r1) := H10.at hin10 rfl
  refine own_fw (A' := (T9.setTop (mkF m 16 #[.val (.long q1), .second, .val (.int (1 : Int32))] [(.ref r1)]))) (fun t k => X9.aaload hx (j := (1 : Int32)) (v := (.ref r1)) (by rw [e9]; exact Ar10.1) (State.isArrayOf_alike hZ.alike Ar10.2.1) rfl Ar10.2.2 hin10 hat10 (g := (mkF m 15 #[.val (.long q1), .second, .val (.int (1 : Int32))] [(.int (1 : Int32)), (.ref ba)])) rfl rfl (hb hby d_prog_5_method_5_code_15) _ k) ?_
  obtain ⟨T11, X11, e11, st11⟩ := getF X9 hx hZ hown (host := "") (Or.inl (hw _ (List.mem_of_getElem? (i := 32) rfl))) Via.refl e9 P5 (g := (mkF m 16 #[.val (.long q1), .second, .val (.int (1 : Int32))] [(.ref r1)])) rfl rfl (hb hby d_prog_5_method_5_code_16)
  refine own_fw (A' := (T11.setTop (mkF m 19 #[.val (.long q1), .second, .val (.int (1 : Int32))] [(.long (50 : Int64))]))) (fun t k => st11 _ k) ?_
  refine own_fw (A' := (T11.setTop (mkF m 20 #[.val (.long q1), .second, .val (.int (1 : Int32))] [(.long q1), (.long (50 : Int64))]))) (fun t k => XS.lloadN X11.here hx rfl (hb hby d_prog_5_method_5_code_19) rfl k) ?_
  refine own_fw (A' := (T11.setTop (mkF m 21 #[.val (.long q1), .second, .val (.int (1 : Int32))] [(.int (XT.cmpL (50 : Int64) q1))]))) (fun t k => XT.lcmp X11.here hx rfl (hb hby d_prog_5_method_5_code_20) rfl k) ?_
  refine own_fw (A' := (T11.setTop (mkF m 30 #[.val (.long q1), .second, .val (.int (1 : Int32))] []))) (fun t k => XS.ifYes X11.here hx rfl (pc0 := 21) (pc' := 30) rfl (hb hby d_prog_5_method_5_code_21) rfl (XT.ll_le_t h3) (by decide) (by decide) k) ?_
  obtain ⟨T12, X12, e12, st12⟩ := getS2 X11 hx hZ hown (host := "") (Or.inl (hw _ (List.mem_of_getElem? (i := 30) rfl))) Via.refl e11 P0 (g := (mkF m 30 #[.val (.long q1), .second, .val (.int (1 : Int32))] [])) rfl (hb hby d_prog_5_method_5_code_30)
  refine own_fw (A' := (T12.setTop (mkF m 33 #[.val (.long q1), .second, .val (.int (1 : Int32))] [(.ref ba)]))) (fun t k => st12 _ k) ?_
  refine own_fw (A' := (T12.setTop (mkF m 34 #[.val (.long q1), .second, .val (.int (1 : Int32))] [(.int (1 : Int32)), (.ref ba)]))) (fun t k => XS.iloadN X12.here hx rfl (hb hby d_prog_5_method_5_code_33) rfl k) ?_
  obtain ⟨cl13, Ar13, q13, S13, M13, H13, G13⟩ := id P1
  have hin13 : ¬ ((1 : Int32) < 0 ∨ cl13.slots.size ≤ ((1 : Int32)).toNatClampNeg) := inb_of S13 ⟨by decide, by decide⟩
  have hat13 : cl13.slots[((1 : Int32)).toNatClampNeg]? = some (.ref r1) := H13.at hin13 rfl
  refine own_fw (A' := (T12.setTop (mkF m 35 #[.val (.long q1), .second, .val (.int (1 : Int32))] [(.ref r1)]))) (fun t k => X12.aaload hx (j := (1 : Int32)) (v := (.ref r1)) (by rw [e12]; exact Ar13.1) (State.isArrayOf_alike hZ.alike Ar13.2.1) rfl Ar13.2.2 hin13 hat13 (g := (mkF m 34 #[.val (.long q1), .second, .val (.int (1 : Int32))] [(.int (1 : Int32)), (.ref ba)])) rfl rfl (hb hby d_prog_5_method_5_code_34) _ k) ?_
  obtain ⟨fs, hr, hrun, hended, hW, hsame⟩ := X12.leave (v := some (.ref r1)) (fun h => by rw [Bd.returns] at h; cases h)
  refine ⟨_, _, ?_, hrun, hended, _, _, rfl, ?_, ⟨_, rfl⟩, hW, hsame.mono (by decide) (by decide)⟩
  · exact retOut X12 hx Bd.returns rfl (Or.inr (Or.inr (Or.inr (Or.inr ⟨rfl, rfl, rfl⟩)))) (hb hby d_prog_5_method_5_code_35) hr
  · show Q_rmOf1 Z q1 ba kb r0 r1 r2 r3 h0 n0 _ T12.heap _
    rw [e12]
    exact ⟨rfl, N0, rfl⟩
theorem ef_rmOf2 (m : MethodId) (q1 : Int64) : entryFrame m #[(.long q1)] 3 = mkF m 0 #[.val (.long q1), .second, .unset] [] := by first | (simp [entryFrame, mkF, argsToLocals, Value.category]; done) | rfl
def Q_rmOf2 (Z : State) (q1 : Int64) (ba : Addr) (kb : ClassId) (r0 : Addr) (r1 : Addr) (r2 : Addr) (r3 : Addr) (h0 : Heap) (n0 : Nat) (v : Option Value) (h : Heap) (L : List Loc) : Prop := v = some (.ref r2) ∧ Fr n0 L ∧ h = h0
set_option maxRecDepth 65536 in
set_option maxHeartbeats 40000000 in
theorem rmOf2 (l : Launch) (Z : State) (a0 : Array Value) (hw : ∀ d ∈ tables_1, d.before a0 Z = true) (ws : List Jvm.Cond) (q1 : Int64) (ba : Addr) (kb : ClassId) (r0 : Addr) (r1 : Addr) (r2 : Addr) (r3 : Addr) (h0 : Heap) (n0 : Nat) (Z0 : n0 ≤ h0.size) (P0 : Sta Z h0 "com/example/spindle/spindle/DispatchTimes$Band" "BANDS" "[Lcom/example/spindle/spindle/DispatchTimes$Band;" (.ref ba)) (P1 : Arv Z h0 ba kb (.object "com/example/spindle/spindle/DispatchTimes$Band") (4 : Int32) [(.ref r0), (.ref r1), (.ref r2), (.ref r3)] .null) (P2 : Exa Z h0 r0 "com/example/spindle/spindle/DispatchTimes$Band") (P3 : Fld Z h0 r0 "com/example/spindle/spindle/DispatchTimes$Band" "lowerMillis" "J" (.long (0 : Int64))) (P4 : Exa Z h0 r1 "com/example/spindle/spindle/DispatchTimes$Band") (P5 : Fld Z h0 r1 "com/example/spindle/spindle/DispatchTimes$Band" "lowerMillis" "J" (.long (50 : Int64))) (P6 : Exa Z h0 r2 "com/example/spindle/spindle/DispatchTimes$Band") (P7 : Fld Z h0 r2 "com/example/spindle/spindle/DispatchTimes$Band" "lowerMillis" "J" (.long (250 : Int64))) (P8 : Exa Z h0 r3 "com/example/spindle/spindle/DispatchTimes$Band") (P9 : Fld Z h0 r3 "com/example/spindle/spindle/DispatchTimes$Band" "lowerMillis" "J" (.long (1000 : Int64))) (h1 : q1 < (1000 : Int64)) (h2 : ¬ (q1 < (250 : Int64))) :
    MetFree l (⟨"com/example/spindle/spindle/DispatchTimes$Band", "of", "(J)Lcom/example/spindle/spindle/DispatchTimes$Band;"⟩ : MethodName) (head1 (Jvm.Cond.code (⟨"com/example/spindle/spindle/DispatchTimes$Band", "of", "(J)Lcom/example/spindle/spindle/DispatchTimes$Band;"⟩ : MethodName) prog_5_method_5_code 3 (some (.object "com/example/spindle/spindle/DispatchTimes$Band")) :: ws) ({ frames := 0, cells := 0, slots := 0, locals := 0 } : Room)) (fun a U => a = #[(.long q1)] ∧ Z.Warmed39 U.vm ∧ U.heap = h0) (fun _ _ _ _ _ => True) (fun _ U o U' => ∃ v L, o = .returned v ∧ Q_rmOf2 Z q1 ba kb r0 r1 r2 r3 h0 n0 v U'.heap L ∧ FrameEnd U o U' L ({ frames := 0, cells := 0, slots := 0, locals := 0 } : Room).cells ({ frames := 0, cells := 0, slots := 0, locals := 0 } : Room).slots) := by
  refine MetFree.of_bodySF (plainFor_of_name pn_com_example_spindle_spindle_DispatchTimes_Band) hisR ?_
  intro p e s m args below meth c s₁ Bd hml0 hP hK
  obtain ⟨rfl, hZ, hh⟩ := hP
  have hx := Bd.exec
  have hby := Bd.bytes
  have hml : c.maxLocals = 3 := hml0
  have hown : s.vm.findClass "com/example/spindle/spindle/DispatchTimes$Band" = some m.cls := findClass_of_methodNamed Bd.named
  have hnm := (name_of_methodNamed Bd.named Bd.method).1
  have X0 : Stand p l e ({ frames := 0, cells := 0, slots := 0, locals := 0 } : Room) s m #[(.long q1)] below meth c s₁ [] 0 0 := Stand.of_body Bd
  have e0 : s₁.heap = h0 := by rw [← hh, Bd.state]; rfl
  have N0 := Fr.nil n0
  refine own_fw (A' := (s₁.setTop (mkF m 0 #[.val (.long q1), .second, .unset] []))) (fun t k => castTop (ef_rmOf2 m q1) k) ?_
  obtain ⟨T1, X1, e1, st1⟩ := getS2 X0 hx hZ hown (host := "") (Or.inl (hw _ (List.mem_of_getElem? (i := 30) rfl))) Via.refl e0 P0 (g := (mkF m 0 #[.val (.long q1), .second, .unset] [])) rfl (hb hby d_prog_5_method_5_code_0)
  refine own_fw (A' := (T1.setTop (mkF m 3 #[.val (.long q1), .second, .unset] [(.ref ba)]))) (fun t k => st1 _ k) ?_
  obtain ⟨cl2, Ar2, q2, S2, M2, H2, G2⟩ := id P1
  refine own_fw (A' := (T1.setTop (mkF m 4 #[.val (.long q1), .second, .unset] [(.int (4 : Int32))]))) (fun t k => X1.arraylength hx (by rw [e1]; exact Ar2.1) (State.isArrayOf_alike hZ.alike Ar2.2.1) (g := (mkF m 3 #[.val (.long q1), .second, .unset] [(.ref ba)])) rfl rfl (hb hby d_prog_5_method_5_code_3) _ (by rw [len_of S2 M2]; exact k)) ?_
  refine own_fw (A' := (T1.setTop (mkF m 5 #[.val (.long q1), .second, .unset] [(.int (1 : Int32)), (.int (4 : Int32))]))) (fun t k => XS.iconst X1.here hx rfl (hb hby d_prog_5_method_5_code_4) k) ?_
  refine own_fw (A' := (T1.setTop (mkF m 6 #[.val (.long q1), .second, .unset] [(.int (3 : Int32))]))) (fun t k => XS.isub X1.here hx rfl (hb hby d_prog_5_method_5_code_5) rfl k) ?_
  refine own_fw (A' := (T1.setTop (mkF m 7 #[.val (.long q1), .second, .val (.int (3 : Int32))] []))) (fun t k => XS.istoreN X1.here hx rfl (hb hby d_prog_5_method_5_code_6) rfl (l' := #[.val (.long q1), .second, .val (.int (3 : Int32))]) rfl k) ?_
  refine own_fw (A' := (T1.setTop (mkF m 8 #[.val (.long q1), .second, .val (.int (3 : Int32))] [(.int (3 : Int32))]))) (fun t k => XS.iloadN X1.here hx rfl (hb hby d_prog_5_method_5_code_7) rfl k) ?_
  refine own_fw (A' := (T1.setTop (mkF m 11 #[.val (.long q1), .second, .val (.int (3 : Int32))] []))) (fun t k => XS.ifNo X1.here hx rfl (hb hby d_prog_5_method_5_code_8) rfl (XT.i0_le_f (by decide)) k) ?_
  obtain ⟨T3, X3, e3, st3⟩ := getS2 X1 hx hZ hown (host := "") (Or.inl (hw _ (List.mem_of_getElem? (i := 30) rfl))) Via.refl e1 P0 (g := (mkF m 11 #[.val (.long q1), .second, .val (.int (3 : Int32))] [])) rfl (hb hby d_prog_5_method_5_code_11)
  refine own_fw (A' := (T3.setTop (mkF m 14 #[.val (.long q1), .second, .val (.int (3 : Int32))] [(.ref ba)]))) (fun t k => st3 _ k) ?_
  refine own_fw (A' := (T3.setTop (mkF m 15 #[.val (.long q1), .second, .val (.int (3 : Int32))] [(.int (3 : Int32)), (.ref ba)]))) (fun t k => XS.iloadN X3.here hx rfl (hb hby d_prog_5_method_5_code_14) rfl k) ?_
  obtain ⟨cl4, Ar4, q4, S4, M4, H4, G4⟩ := id P1
  have hin4 : ¬ ((3 : Int32) < 0 ∨ cl4.slots.size ≤ ((3 : Int32)).toNatClampNeg) := inb_of S4 ⟨by decide, by decide⟩
  have hat4 : cl4.slots[((3 : Int32)).toNatClampNeg]? = some (.ref r3) := H4.at hin4 rfl
  refine own_fw (A' := (T3.setTop (mkF m 16 #[.val (.long q1), .second, .val (.int (3 : Int32))] [(.ref r3)]))) (fun t k => X3.aaload hx (j := (3 : Int32)) (v := (.ref r3)) (by rw [e3]; exact Ar4.1) (State.isArrayOf_alike hZ.alike Ar4.2.1) rfl Ar4.2.2 hin4 hat4 (g := (mkF m 15 #[.val (.long q1), .second, .val (.int (3 : Int32))] [(.int (3 : Int32)), (.ref ba)])) rfl rfl (hb hby d_prog_5_method_5_code_15) _ k) ?_
  obtain ⟨T5, X5, e5, st5⟩ := getF X3 hx hZ hown (host := "") (Or.inl (hw _ (List.mem_of_getElem? (i := 32) rfl))) Via.refl e3 P9 (g := (mkF m 16 #[.val (.long q1), .second, .val (.int (3 : Int32))] [(.ref r3)])) rfl rfl (hb hby d_prog_5_method_5_code_16)
  refine own_fw (A' := (T5.setTop (mkF m 19 #[.val (.long q1), .second, .val (.int (3 : Int32))] [(.long (1000 : Int64))]))) (fun t k => st5 _ k) ?_
  refine own_fw (A' := (T5.setTop (mkF m 20 #[.val (.long q1), .second, .val (.int (3 : Int32))] [(.long q1), (.long (1000 : Int64))]))) (fun t k => XS.lloadN X5.here hx rfl (hb hby d_prog_5_method_5_code_19) rfl k) ?_
  refine own_fw (A' := (T5.setTop (mkF m 21 #[.val (.long q1), .second, .val (.int (3 : Int32))] [(.int (XT.cmpL (1000 : Int64) q1))]))) (fun t k => XT.lcmp X5.here hx rfl (hb hby d_prog_5_method_5_code_20) rfl k) ?_
  refine own_fw (A' := (T5.setTop (mkF m 24 #[.val (.long q1), .second, .val (.int (3 : Int32))] []))) (fun t k => XS.ifNo X5.here hx rfl (hb hby d_prog_5_method_5_code_21) rfl (XT.ll_le_f h1) k) ?_
  refine own_fw (A' := (T5.setTop (mkF m 27 #[.val (.long q1), .second, .val (.int (2 : Int32))] []))) (fun t k => XS.iinc X5.here hx rfl (hb hby d_prog_5_method_5_code_24) rfl (l' := #[.val (.long q1), .second, .val (.int (2 : Int32))]) rfl k) ?_
  refine own_fw (A' := (T5.setTop (mkF m 7 #[.val (.long q1), .second, .val (.int (2 : Int32))] []))) (fun t k => XS.goto X5.here hx rfl (pc0 := 27) (pc' := 7) rfl (hb hby d_prog_5_method_5_code_27) (by decide) (by decide) k) ?_
  refine own_fw (A' := (T5.setTop (mkF m 8 #[.val (.long q1), .second, .val (.int (2 : Int32))] [(.int (2 : Int32))]))) (fun t k => XS.iloadN X5.here hx rfl (hb hby d_prog_5_method_5_code_7) rfl k) ?_
  refine own_fw (A' := (T5.setTop (mkF m 11 #[.val (.long q1), .second, .val (.int (2 : Int32))] []))) (fun t k => XS.ifNo X5.here hx rfl (hb hby d_prog_5_method_5_code_8) rfl (XT.i0_le_f (by decide)) k) ?_
  obtain ⟨T6, X6, e6, st6⟩ := getS2 X5 hx hZ hown (host := "") (Or.inl (hw _ (List.mem_of_getElem? (i := 30) rfl))) Via.refl e5 P0 (g := (mkF m 11 #[.val (.long q1), .second, .val (.int (2 : Int32))] [])) rfl (hb hby d_prog_5_method_5_code_11)
  refine own_fw (A' := (T6.setTop (mkF m 14 #[.val (.long q1), .second, .val (.int (2 : Int32))] [(.ref ba)]))) (fun t k => st6 _ k) ?_
  refine own_fw (A' := (T6.setTop (mkF m 15 #[.val (.long q1), .second, .val (.int (2 : Int32))] [(.int (2 : Int32)), (.ref ba)]))) (fun t k => XS.iloadN X6.here hx rfl (hb hby d_prog_5_method_5_code_14) rfl k) ?_
  obtain ⟨cl7, Ar7, q7, S7, M7, H7, G7⟩ := id P1
  have hin7 : ¬ ((2 : Int32) < 0 ∨ cl7.slots.size ≤ ((2 : Int32)).toNatClampNeg) := inb_of S7 ⟨by decide, by decide⟩
  have hat7 : cl7.slots[((2 : Int32)).toNatClampNeg]? = some (.ref r2) := H7.at hin7 rfl
  refine own_fw (A' := (T6.setTop (mkF m 16 #[.val (.long q1), .second, .val (.int (2 : Int32))] [(.ref r2)]))) (fun t k => X6.aaload hx (j := (2 : Int32)) (v := (.ref r2)) (by rw [e6]; exact Ar7.1) (State.isArrayOf_alike hZ.alike Ar7.2.1) rfl Ar7.2.2 hin7 hat7 (g := (mkF m 15 #[.val (.long q1), .second, .val (.int (2 : Int32))] [(.int (2 : Int32)), (.ref ba)])) rfl rfl (hb hby d_prog_5_method_5_code_15) _ k) ?_
  obtain ⟨T8, X8, e8, st8⟩ := getF X6 hx hZ hown (host := "") (Or.inl (hw _ (List.mem_of_getElem? (i := 32) rfl))) Via.refl e6 P7 (g := (mkF m 16 #[.val (.long q1), .second, .val (.int (2 : Int32))] [(.ref r2)])) rfl rfl (hb hby d_prog_5_method_5_code_16)
  refine own_fw (A' := (T8.setTop (mkF m 19 #[.val (.long q1), .second, .val (.int (2 : Int32))] [(.long (250 : Int64))]))) (fun t k => st8 _ k) ?_
  refine own_fw (A' := (T8.setTop (mkF m 20 #[.val (.long q1), .second, .val (.int (2 : Int32))] [(.long q1), (.long (250 : Int64))]))) (fun t k => XS.lloadN X8.here hx rfl (hb hby d_prog_5_method_5_code_19) rfl k) ?_
  refine own_fw (A' := (T8.setTop (mkF m 21 #[.val (.long q1), .second, .val (.int (2 : Int32))] [(.int (XT.cmpL (250 : Int64) q1))]))) (fun t k => XT.lcmp X8.here hx rfl (hb hby d_prog_5_method_5_code_20) rfl k) ?_
  refine own_fw (A' := (T8.setTop (mkF m 30 #[.val (.long q1), .second, .val (.int (2 : Int32))] []))) (fun t k => XS.ifYes X8.here hx rfl (pc0 := 21) (pc' := 30) rfl (hb hby d_prog_5_method_5_code_21) rfl (XT.ll_le_t h2) (by decide) (by decide) k) ?_
  obtain ⟨T9, X9, e9, st9⟩ := getS2 X8 hx hZ hown (host := "") (Or.inl (hw _ (List.mem_of_getElem? (i := 30) rfl))) Via.refl e8 P0 (g := (mkF m 30 #[.val (.long q1), .second, .val (.int (2 : Int32))] [])) rfl (hb hby d_prog_5_method_5_code_30)
  refine own_fw (A' := (T9.setTop (mkF m 33 #[.val (.long q1), .second, .val (.int (2 : Int32))] [(.ref ba)]))) (fun t k => st9 _ k) ?_
  refine own_fw (A' := (T9.setTop (mkF m 34 #[.val (.long q1), .second, .val (.int (2 : Int32))] [(.int (2 : Int32)), (.ref ba)]))) (fun t k => XS.iloadN X9.here hx rfl (hb hby d_prog_5_method_5_code_33) rfl k) ?_
  obtain ⟨cl10, Ar10, q10, S10, M10, H10, G10⟩ := id P1
  have hin10 : ¬ ((2 : Int32) < 0 ∨ cl10.slots.size ≤ ((2 : Int32)).toNatClampNeg) := inb_of S10 ⟨by decide, by decide⟩
  have hat10 : cl10.slots[((2 : Int32)).toNatClampNeg]? = some (.ref r2) := H10.at hin10 rfl
  refine own_fw (A' := (T9.setTop (mkF m 35 #[.val (.long q1), .second, .val (.int (2 : Int32))] [(.ref r2)]))) (fun t k => X9.aaload hx (j := (2 : Int32)) (v := (.ref r2)) (by rw [e9]; exact Ar10.1) (State.isArrayOf_alike hZ.alike Ar10.2.1) rfl Ar10.2.2 hin10 hat10 (g := (mkF m 34 #[.val (.long q1), .second, .val (.int (2 : Int32))] [(.int (2 : Int32)), (.ref ba)])) rfl rfl (hb hby d_prog_5_method_5_code_34) _ k) ?_
  obtain ⟨fs, hr, hrun, hended, hW, hsame⟩ := X9.leave (v := some (.ref r2)) (fun h => by rw [Bd.returns] at h; cases h)
  refine ⟨_, _, ?_, hrun, hended, _, _, rfl, ?_, ⟨_, rfl⟩, hW, hsame.mono (by decide) (by decide)⟩
  · exact retOut X9 hx Bd.returns rfl (Or.inr (Or.inr (Or.inr (Or.inr ⟨rfl, rfl, rfl⟩)))) (hb hby d_prog_5_method_5_code_35) hr
  · show Q_rmOf2 Z q1 ba kb r0 r1 r2 r3 h0 n0 _ T9.heap _
    rw [e9]
    exact ⟨rfl, N0, rfl⟩
theorem ef_rmOf3 (m : MethodId) (q1 : Int64) : entryFrame m #[(.long q1)] 3 = mkF m 0 #[.val (.long q1), .second, .unset] [] := by first | (simp [entryFrame, mkF, argsToLocals, Value.category]; done) | rfl
def Q_rmOf3 (Z : State) (q1 : Int64) (ba : Addr) (kb : ClassId) (r0 : Addr) (r1 : Addr) (r2 : Addr) (r3 : Addr) (h0 : Heap) (n0 : Nat) (v : Option Value) (h : Heap) (L : List Loc) : Prop := v = some (.ref r3) ∧ Fr n0 L ∧ h = h0
set_option maxRecDepth 65536 in
set_option maxHeartbeats 40000000 in
theorem rmOf3 (l : Launch) (Z : State) (a0 : Array Value) (hw : ∀ d ∈ tables_1, d.before a0 Z = true) (ws : List Jvm.Cond) (q1 : Int64) (ba : Addr) (kb : ClassId) (r0 : Addr) (r1 : Addr) (r2 : Addr) (r3 : Addr) (h0 : Heap) (n0 : Nat) (Z0 : n0 ≤ h0.size) (P0 : Sta Z h0 "com/example/spindle/spindle/DispatchTimes$Band" "BANDS" "[Lcom/example/spindle/spindle/DispatchTimes$Band;" (.ref ba)) (P1 : Arv Z h0 ba kb (.object "com/example/spindle/spindle/DispatchTimes$Band") (4 : Int32) [(.ref r0), (.ref r1), (.ref r2), (.ref r3)] .null) (P2 : Exa Z h0 r0 "com/example/spindle/spindle/DispatchTimes$Band") (P3 : Fld Z h0 r0 "com/example/spindle/spindle/DispatchTimes$Band" "lowerMillis" "J" (.long (0 : Int64))) (P4 : Exa Z h0 r1 "com/example/spindle/spindle/DispatchTimes$Band") (P5 : Fld Z h0 r1 "com/example/spindle/spindle/DispatchTimes$Band" "lowerMillis" "J" (.long (50 : Int64))) (P6 : Exa Z h0 r2 "com/example/spindle/spindle/DispatchTimes$Band") (P7 : Fld Z h0 r2 "com/example/spindle/spindle/DispatchTimes$Band" "lowerMillis" "J" (.long (250 : Int64))) (P8 : Exa Z h0 r3 "com/example/spindle/spindle/DispatchTimes$Band") (P9 : Fld Z h0 r3 "com/example/spindle/spindle/DispatchTimes$Band" "lowerMillis" "J" (.long (1000 : Int64))) (h1 : ¬ (q1 < (1000 : Int64))) :
    MetFree l (⟨"com/example/spindle/spindle/DispatchTimes$Band", "of", "(J)Lcom/example/spindle/spindle/DispatchTimes$Band;"⟩ : MethodName) (head1 (Jvm.Cond.code (⟨"com/example/spindle/spindle/DispatchTimes$Band", "of", "(J)Lcom/example/spindle/spindle/DispatchTimes$Band;"⟩ : MethodName) prog_5_method_5_code 3 (some (.object "com/example/spindle/spindle/DispatchTimes$Band")) :: ws) ({ frames := 0, cells := 0, slots := 0, locals := 0 } : Room)) (fun a U => a = #[(.long q1)] ∧ Z.Warmed39 U.vm ∧ U.heap = h0) (fun _ _ _ _ _ => True) (fun _ U o U' => ∃ v L, o = .returned v ∧ Q_rmOf3 Z q1 ba kb r0 r1 r2 r3 h0 n0 v U'.heap L ∧ FrameEnd U o U' L ({ frames := 0, cells := 0, slots := 0, locals := 0 } : Room).cells ({ frames := 0, cells := 0, slots := 0, locals := 0 } : Room).slots) := by
  refine MetFree.of_bodySF (plainFor_of_name pn_com_example_spindle_spindle_DispatchTimes_Band) hisR ?_
  intro p e s m args below meth c s₁ Bd hml0 hP hK
  obtain ⟨rfl, hZ, hh⟩ := hP
  have hx := Bd.exec
  have hby := Bd.bytes
  have hml : c.maxLocals = 3 := hml0
  have hown : s.vm.findClass "com/example/spindle/spindle/DispatchTimes$Band" = some m.cls := findClass_of_methodNamed Bd.named
  have hnm := (name_of_methodNamed Bd.named Bd.method).1
  have X0 : Stand p l e ({ frames := 0, cells := 0, slots := 0, locals := 0 } : Room) s m #[(.long q1)] below meth c s₁ [] 0 0 := Stand.of_body Bd
  have e0 : s₁.heap = h0 := by rw [← hh, Bd.state]; rfl
  have N0 := Fr.nil n0
  refine own_fw (A' := (s₁.setTop (mkF m 0 #[.val (.long q1), .second, .unset] []))) (fun t k => castTop (ef_rmOf3 m q1) k) ?_
  obtain ⟨T1, X1, e1, st1⟩ := getS2 X0 hx hZ hown (host := "") (Or.inl (hw _ (List.mem_of_getElem? (i := 30) rfl))) Via.refl e0 P0 (g := (mkF m 0 #[.val (.long q1), .second, .unset] [])) rfl (hb hby d_prog_5_method_5_code_0)
  refine own_fw (A' := (T1.setTop (mkF m 3 #[.val (.long q1), .second, .unset] [(.ref ba)]))) (fun t k => st1 _ k) ?_
  obtain ⟨cl2, Ar2, q2, S2, M2, H2, G2⟩ := id P1
  refine own_fw (A' := (T1.setTop (mkF m 4 #[.val (.long q1), .second, .unset] [(.int (4 : Int32))]))) (fun t k => X1.arraylength hx (by rw [e1]; exact Ar2.1) (State.isArrayOf_alike hZ.alike Ar2.2.1) (g := (mkF m 3 #[.val (.long q1), .second, .unset] [(.ref ba)])) rfl rfl (hb hby d_prog_5_method_5_code_3) _ (by rw [len_of S2 M2]; exact k)) ?_
  refine own_fw (A' := (T1.setTop (mkF m 5 #[.val (.long q1), .second, .unset] [(.int (1 : Int32)), (.int (4 : Int32))]))) (fun t k => XS.iconst X1.here hx rfl (hb hby d_prog_5_method_5_code_4) k) ?_
  refine own_fw (A' := (T1.setTop (mkF m 6 #[.val (.long q1), .second, .unset] [(.int (3 : Int32))]))) (fun t k => XS.isub X1.here hx rfl (hb hby d_prog_5_method_5_code_5) rfl k) ?_
  refine own_fw (A' := (T1.setTop (mkF m 7 #[.val (.long q1), .second, .val (.int (3 : Int32))] []))) (fun t k => XS.istoreN X1.here hx rfl (hb hby d_prog_5_method_5_code_6) rfl (l' := #[.val (.long q1), .second, .val (.int (3 : Int32))]) rfl k) ?_
  refine own_fw (A' := (T1.setTop (mkF m 8 #[.val (.long q1), .second, .val (.int (3 : Int32))] [(.int (3 : Int32))]))) (fun t k => XS.iloadN X1.here hx rfl (hb hby d_prog_5_method_5_code_7) rfl k) ?_
  refine own_fw (A' := (T1.setTop (mkF m 11 #[.val (.long q1), .second, .val (.int (3 : Int32))] []))) (fun t k => XS.ifNo X1.here hx rfl (hb hby d_prog_5_method_5_code_8) rfl (XT.i0_le_f (by decide)) k) ?_
  obtain ⟨T3, X3, e3, st3⟩ := getS2 X1 hx hZ hown (host := "") (Or.inl (hw _ (List.mem_of_getElem? (i := 30) rfl))) Via.refl e1 P0 (g := (mkF m 11 #[.val (.long q1), .second, .val (.int (3 : Int32))] [])) rfl (hb hby d_prog_5_method_5_code_11)
  refine own_fw (A' := (T3.setTop (mkF m 14 #[.val (.long q1), .second, .val (.int (3 : Int32))] [(.ref ba)]))) (fun t k => st3 _ k) ?_
  refine own_fw (A' := (T3.setTop (mkF m 15 #[.val (.long q1), .second, .val (.int (3 : Int32))] [(.int (3 : Int32)), (.ref ba)]))) (fun t k => XS.iloadN X3.here hx rfl (hb hby d_prog_5_method_5_code_14) rfl k) ?_
  obtain ⟨cl4, Ar4, q4, S4, M4, H4, G4⟩ := id P1
  have hin4 : ¬ ((3 : Int32) < 0 ∨ cl4.slots.size ≤ ((3 : Int32)).toNatClampNeg) := inb_of S4 ⟨by decide, by decide⟩
  have hat4 : cl4.slots[((3 : Int32)).toNatClampNeg]? = some (.ref r3) := H4.at hin4 rfl
  refine own_fw (A' := (T3.setTop (mkF m 16 #[.val (.long q1), .second, .val (.int (3 : Int32))] [(.ref r3)]))) (fun t k => X3.aaload hx (j := (3 : Int32)) (v := (.ref r3)) (by rw [e3]; exact Ar4.1) (State.isArrayOf_alike hZ.alike Ar4.2.1) rfl Ar4.2.2 hin4 hat4 (g := (mkF m 15 #[.val (.long q1), .second, .val (.int (3 : Int32))] [(.int (3 : Int32)), (.ref ba)])) rfl rfl (hb hby d_prog_5_method_5_code_15) _ k) ?_
  obtain ⟨T5, X5, e5, st5⟩ := getF X3 hx hZ hown (host := "") (Or.inl (hw _ (List.mem_of_getElem? (i := 32) rfl))) Via.refl e3 P9 (g := (mkF m 16 #[.val (.long q1), .second, .val (.int (3 : Int32))] [(.ref r3)])) rfl rfl (hb hby d_prog_5_method_5_code_16)
  refine own_fw (A' := (T5.setTop (mkF m 19 #[.val (.long q1), .second, .val (.int (3 : Int32))] [(.long (1000 : Int64))]))) (fun t k => st5 _ k) ?_
  refine own_fw (A' := (T5.setTop (mkF m 20 #[.val (.long q1), .second, .val (.int (3 : Int32))] [(.long q1), (.long (1000 : Int64))]))) (fun t k => XS.lloadN X5.here hx rfl (hb hby d_prog_5_method_5_code_19) rfl k) ?_
  refine own_fw (A' := (T5.setTop (mkF m 21 #[.val (.long q1), .second, .val (.int (3 : Int32))] [(.int (XT.cmpL (1000 : Int64) q1))]))) (fun t k => XT.lcmp X5.here hx rfl (hb hby d_prog_5_method_5_code_20) rfl k) ?_
  refine own_fw (A' := (T5.setTop (mkF m 30 #[.val (.long q1), .second, .val (.int (3 : Int32))] []))) (fun t k => XS.ifYes X5.here hx rfl (pc0 := 21) (pc' := 30) rfl (hb hby d_prog_5_method_5_code_21) rfl (XT.ll_le_t h1) (by decide) (by decide) k) ?_
  obtain ⟨T6, X6, e6, st6⟩ := getS2 X5 hx hZ hown (host := "") (Or.inl (hw _ (List.mem_of_getElem? (i := 30) rfl))) Via.refl e5 P0 (g := (mkF m 30 #[.val (.long q1), .second, .val (.int (3 : Int32))] [])) rfl (hb hby d_prog_5_method_5_code_30)
  refine own_fw (A' := (T6.setTop (mkF m 33 #[.val (.long q1), .second, .val (.int (3 : Int32))] [(.ref ba)]))) (fun t k => st6 _ k) ?_
  refine own_fw (A' := (T6.setTop (mkF m 34 #[.val (.long q1), .second, .val (.int (3 : Int32))] [(.int (3 : Int32)), (.ref ba)]))) (fun t k => XS.iloadN X6.here hx rfl (hb hby d_prog_5_method_5_code_33) rfl k) ?_
  obtain ⟨cl7, Ar7, q7, S7, M7, H7, G7⟩ := id P1
  have hin7 : ¬ ((3 : Int32) < 0 ∨ cl7.slots.size ≤ ((3 : Int32)).toNatClampNeg) := inb_of S7 ⟨by decide, by decide⟩
  have hat7 : cl7.slots[((3 : Int32)).toNatClampNeg]? = some (.ref r3) := H7.at hin7 rfl
  refine own_fw (A' := (T6.setTop (mkF m 35 #[.val (.long q1), .second, .val (.int (3 : Int32))] [(.ref r3)]))) (fun t k => X6.aaload hx (j := (3 : Int32)) (v := (.ref r3)) (by rw [e6]; exact Ar7.1) (State.isArrayOf_alike hZ.alike Ar7.2.1) rfl Ar7.2.2 hin7 hat7 (g := (mkF m 34 #[.val (.long q1), .second, .val (.int (3 : Int32))] [(.int (3 : Int32)), (.ref ba)])) rfl rfl (hb hby d_prog_5_method_5_code_34) _ k) ?_
  obtain ⟨fs, hr, hrun, hended, hW, hsame⟩ := X6.leave (v := some (.ref r3)) (fun h => by rw [Bd.returns] at h; cases h)
  refine ⟨_, _, ?_, hrun, hended, _, _, rfl, ?_, ⟨_, rfl⟩, hW, hsame.mono (by decide) (by decide)⟩
  · exact retOut X6 hx Bd.returns rfl (Or.inr (Or.inr (Or.inr (Or.inr ⟨rfl, rfl, rfl⟩)))) (hb hby d_prog_5_method_5_code_35) hr
  · show Q_rmOf3 Z q1 ba kb r0 r1 r2 r3 h0 n0 _ T6.heap _
    rw [e6]
    exact ⟨rfl, N0, rfl⟩
theorem pn_com_example_spindle_spindle_DispatchTimes : plainName "com/example/spindle/spindle/DispatchTimes" = true := by first | (simp [plainName, overriddenIn]; done) | decide +kernel
theorem d_prog_4_method_1_code_0 : decode prog_4_method_1_code 0 = .ok (.aload_n 0, 1) := by decide +kernel
theorem d_prog_4_method_1_code_1 : decode prog_4_method_1_code 1 = .ok (.invokespecial 1, 3) := by decide +kernel
theorem d_prog_4_method_1_code_4 : decode prog_4_method_1_code 4 = .ok (.aload_n 0, 1) := by decide +kernel
theorem d_prog_4_method_1_code_5 : decode prog_4_method_1_code 5 = .ok (.getstatic 7, 3) := by decide +kernel
theorem d_prog_4_method_1_code_8 : decode prog_4_method_1_code 8 = .ok (.arraylength, 1) := by decide +kernel
theorem d_prog_4_method_1_code_9 : decode prog_4_method_1_code 9 = .ok (.newarray .long, 2) := by decide +kernel
theorem d_prog_4_method_1_code_11 : decode prog_4_method_1_code 11 = .ok (.putfield 13, 3) := by decide +kernel
theorem d_prog_4_method_1_code_14 : decode prog_4_method_1_code 14 = .ok (.aload_n 0, 1) := by decide +kernel
theorem d_prog_4_method_1_code_15 : decode prog_4_method_1_code 15 = .ok (.getstatic 7, 3) := by decide +kernel
theorem d_prog_4_method_1_code_18 : decode prog_4_method_1_code 18 = .ok (.arraylength, 1) := by decide +kernel
theorem d_prog_4_method_1_code_19 : decode prog_4_method_1_code 19 = .ok (.newarray .long, 2) := by decide +kernel
theorem d_prog_4_method_1_code_21 : decode prog_4_method_1_code 21 = .ok (.putfield 19, 3) := by decide +kernel
theorem d_prog_4_method_1_code_24 : decode prog_4_method_1_code 24 = .ok (.return_, 1) := by decide +kernel
theorem ef_rmInit (m : MethodId) (a1 : Addr) : entryFrame m #[(.ref a1)] 1 = mkF m 0 #[.val (.ref a1)] [] := by first | (simp [entryFrame, mkF, argsToLocals, Value.category]; done) | rfl
def Q_rmInit (Z : State) (a1 : Addr) (ba : Addr) (kb : ClassId) (r0 : Addr) (r1 : Addr) (r2 : Addr) (r3 : Addr) (h0 : Heap) (n0 : Nat) (v : Option Value) (h : Heap) (L : List Loc) : Prop := ∃ b1 : Addr, ∃ b2 : Addr, ∃ k1 : ClassId, ∃ k2 : ClassId, v = none ∧ Fr n0 L ∧ Keep h0 h [a1] ∧ Exa Z h a1 "com/example/spindle/spindle/DispatchTimes" ∧ Fld Z h a1 "com/example/spindle/spindle/DispatchTimes" "counts" "[J" (.ref b1) ∧ Fld Z h a1 "com/example/spindle/spindle/DispatchTimes" "totalMillis" "[J" (.ref b2) ∧ Arv Z h b1 k1 .long (4 : Int32) [(.long (0 : Int64)), (.long (0 : Int64)), (.long (0 : Int64)), (.long (0 : Int64))] (.long (0 : Int64)) ∧ Arv Z h b2 k2 .long (4 : Int32) [(.long (0 : Int64)), (.long (0 : Int64)), (.long (0 : Int64)), (.long (0 : Int64))] (.long (0 : Int64)) ∧ (h0.size ≤ b1) ∧ (h0.size ≤ b2) ∧ (b1 ≠ b2)
set_option maxRecDepth 65536 in
set_option maxHeartbeats 40000000 in
theorem rmInit (l : Launch) (Z : State) (a0 : Array Value) (hw : ∀ d ∈ tables_1, d.before a0 Z = true) (ws : List Jvm.Cond) (a1 : Addr) (ba : Addr) (kb : ClassId) (r0 : Addr) (r1 : Addr) (r2 : Addr) (r3 : Addr) (h0 : Heap) (n0 : Nat) (Z0 : n0 ≤ h0.size) (P0 : Exa Z h0 a1 "com/example/spindle/spindle/DispatchTimes") (P1 : Fld Z h0 a1 "com/example/spindle/spindle/DispatchTimes" "counts" "[J" .null) (P2 : Fld Z h0 a1 "com/example/spindle/spindle/DispatchTimes" "totalMillis" "[J" .null) (g_a1 : n0 ≤ a1) (ne_ba_a1 : ba ≠ a1) (P5 : Sta Z h0 "com/example/spindle/spindle/DispatchTimes$Band" "BANDS" "[Lcom/example/spindle/spindle/DispatchTimes$Band;" (.ref ba)) (P6 : Arv Z h0 ba kb (.object "com/example/spindle/spindle/DispatchTimes$Band") (4 : Int32) [(.ref r0), (.ref r1), (.ref r2), (.ref r3)] .null) :
    MetFree l (⟨"com/example/spindle/spindle/DispatchTimes", "<init>", "()V"⟩ : MethodName) (head1 (Jvm.Cond.code (⟨"com/example/spindle/spindle/DispatchTimes", "<init>", "()V"⟩ : MethodName) prog_4_method_1_code 1 none :: ws) ({ frames := 1, cells := 2, slots := 8, locals := 12 } : Room)) (fun a U => a = #[(.ref a1)] ∧ Z.Warmed39 U.vm ∧ U.heap = h0) (fun _ _ _ _ _ => True) (fun _ U o U' => ∃ v L, o = .returned v ∧ Q_rmInit Z a1 ba kb r0 r1 r2 r3 h0 n0 v U'.heap L ∧ FrameEnd U o U' L ({ frames := 1, cells := 2, slots := 8, locals := 12 } : Room).cells ({ frames := 1, cells := 2, slots := 8, locals := 12 } : Room).slots) := by
  refine MetFree.of_bodySF (plainFor_of_name pn_com_example_spindle_spindle_DispatchTimes) hisR ?_
  intro p e s m args below meth c s₁ Bd hml0 hP hK
  obtain ⟨rfl, hZ, hh⟩ := hP
  have hx := Bd.exec
  have hby := Bd.bytes
  have hml : c.maxLocals = 1 := hml0
  have hown : s.vm.findClass "com/example/spindle/spindle/DispatchTimes" = some m.cls := findClass_of_methodNamed Bd.named
  have hnm := (name_of_methodNamed Bd.named Bd.method).1
  have X0 : Stand p l e ({ frames := 1, cells := 2, slots := 8, locals := 12 } : Room) s m #[(.ref a1)] below meth c s₁ [] 0 0 := Stand.of_body Bd
  have e0 : s₁.heap = h0 := by rw [← hh, Bd.state]; rfl
  have N0 := Fr.nil n0
  refine own_fw (A' := (s₁.setTop (mkF m 0 #[.val (.ref a1)] []))) (fun t k => castTop (ef_rmInit m a1) k) ?_
  refine own_fw (A' := (s₁.setTop (mkF m 1 #[.val (.ref a1)] [(.ref a1)]))) (fun t k => XS.aloadN X0.here hx rfl (hb hby d_prog_4_method_1_code_0) rfl rfl k) ?_
  obtain ⟨T1, X1, e1, st1⟩ := initO X0 hx hZ hown (hw _ (List.mem_of_getElem? (i := 6) rfl)) (hw _ (List.mem_of_getElem? (i := 7) rfl)) (hw _ (List.mem_of_getElem? (i := 8) rfl)) e0 (g := (mkF m 1 #[.val (.ref a1)] [(.ref a1)])) rfl (by rw [hml]; rfl) rfl (hb hby d_prog_4_method_1_code_1) (by decide) (W := 0) (by show 2 * 0 + _ ≤ _; exact Nat.le_of_eq rfl) (by decide)
  refine own_fw (A' := (T1.setTop (mkF m 4 #[.val (.ref a1)] []))) (fun t k => st1 _ k) ?_
  refine own_fw (A' := (T1.setTop (mkF m 5 #[.val (.ref a1)] [(.ref a1)]))) (fun t k => XS.aloadN X1.here hx rfl (hb hby d_prog_4_method_1_code_4) rfl rfl k) ?_
  obtain ⟨T2, X2, e2, st2⟩ := own_getRef X1 hx hZ hown (hw _ (List.mem_of_getElem? (i := 9) rfl)) e1 P5 (g := (mkF m 5 #[.val (.ref a1)] [(.ref a1)])) rfl (hb hby d_prog_4_method_1_code_5)
  refine own_fw (A' := (T2.setTop (mkF m 8 #[.val (.ref a1)] [(.ref ba), (.ref a1)]))) (fun t k => st2 _ k) ?_
  obtain ⟨cl3, Ar3, q3, S3, M3, H3, G3⟩ := id P6
  refine own_fw (A' := (T2.setTop (mkF m 9 #[.val (.ref a1)] [(.int (4 : Int32)), (.ref a1)]))) (fun t k => X2.arraylength hx (by rw [e2]; exact Ar3.1) (State.isArrayOf_alike hZ.alike Ar3.2.1) (g := (mkF m 8 #[.val (.ref a1)] [(.ref ba), (.ref a1)])) rfl rfl (hb hby d_prog_4_method_1_code_8) _ (by rw [len_of S3 M3]; exact k)) ?_
  obtain ⟨T4, h4, k4, X4, e4, E4, A4, st4⟩ := newP X2 hx hZ (hw _ (List.mem_of_getElem? (i := 12) rfl)) e2 (g := (mkF m 9 #[.val (.ref a1)] [(.int (4 : Int32)), (.ref a1)])) rfl (hb hby d_prog_4_method_1_code_9) rfl (by decide) (cap := 4) (by decide) (by decide) (by decide) (by decide)
  obtain ⟨b4, gb4⟩ : ∃ z, z = h0.size := ⟨_, rfl⟩
  have g_b4 : n0 ≤ b4 := Nat.le_trans Z0 (Nat.le_of_eq gb4.symm)
  have sz_b4 : h0.size ≤ b4 := Nat.le_trans (Keep.refl h0 [a1]).1 (Nat.le_of_eq gb4.symm)
  have ne_a1_b4 : a1 ≠ b4 := Nat.ne_of_lt (Nat.lt_of_lt_of_le P0.lt (Nat.le_of_eq gb4.symm))
  have ne_ba_b4 : ba ≠ b4 := Nat.ne_of_lt (Nat.lt_of_lt_of_le P6.lt (Nat.le_of_eq gb4.symm))
  rw [← gb4] at A4 st4
  have V_b4 : Arv Z h4 b4 k4 .long (4 : Int32) [(.long (0 : Int64)), (.long (0 : Int64)), (.long (0 : Int64)), (.long (0 : Int64))] (.long (0 : Int64)) := (Arv.new A4 (by decide)).pad (pad_rep [] (.long (0 : Int64)) 4)
  have K4 : Keep h0 h4 [a1] := (Keep.refl h0 [a1]).ext E4
  have Z4 : n0 ≤ h4.size := Nat.le_trans Z0 E4.1
  refine own_fw (A' := (T4.setTop (mkF m 11 #[.val (.ref a1)] [(.ref b4), (.ref a1)]))) (fun t k => st4 _ k) ?_
  obtain ⟨T5, h5, X5, e5, W5, st5⟩ := putF X4 hx hZ hown (host := "") (Or.inl (hw _ (List.mem_of_getElem? (i := 13) rfl))) Via.refl e4 (P1.ext E4) (P0.ext E4) (Or.inr ⟨(hw _ (List.mem_of_getElem? (i := 14) rfl)), rfl, hnm⟩) (hw _ (List.mem_of_getElem? (i := 1) rfl)) (ty := (.array .long)) (by decide) rfl rfl (g := (mkF m 11 #[.val (.ref a1)] [(.ref b4), (.ref a1)])) rfl rfl (hb hby d_prog_4_method_1_code_11)
  have Fw5 : Fld Z h5 a1 "com/example/spindle/spindle/DispatchTimes" "counts" "[J" (.ref b4) := (P1.ext E4).same W5
  have Nf5 := Fr.snoc X5 N0 g_a1
  have K5 : Keep h0 h5 [a1] := K4.wr W5 (Or.inl (List.mem_of_getElem? (i := 0) rfl))
  have Z5 : n0 ≤ h5.size := Nat.le_trans Z4 (Keep.of_wr W5).1
  refine own_fw (A' := (T5.setTop (mkF m 14 #[.val (.ref a1)] []))) (fun t k => st5 _ k) ?_
  refine own_fw (A' := (T5.setTop (mkF m 15 #[.val (.ref a1)] [(.ref a1)]))) (fun t k => XS.aloadN X5.here hx rfl (hb hby d_prog_4_method_1_code_14) rfl rfl k) ?_
  obtain ⟨T6, X6, e6, st6⟩ := own_getRef X5 hx hZ hown (hw _ (List.mem_of_getElem? (i := 9) rfl)) e5 ((P5.ext E4).wr W5) (g := (mkF m 15 #[.val (.ref a1)] [(.ref a1)])) rfl (hb hby d_prog_4_method_1_code_15)
  refine own_fw (A' := (T6.setTop (mkF m 18 #[.val (.ref a1)] [(.ref ba), (.ref a1)]))) (fun t k => st6 _ k) ?_
  obtain ⟨cl7, Ar7, q7, S7, M7, H7, G7⟩ := id ((P6.ext E4).other W5 ne_ba_a1)
  refine own_fw (A' := (T6.setTop (mkF m 19 #[.val (.ref a1)] [(.int (4 : Int32)), (.ref a1)]))) (fun t k => X6.arraylength hx (by rw [e6]; exact Ar7.1) (State.isArrayOf_alike hZ.alike Ar7.2.1) (g := (mkF m 18 #[.val (.ref a1)] [(.ref ba), (.ref a1)])) rfl rfl (hb hby d_prog_4_method_1_code_18) _ (by rw [len_of S7 M7]; exact k)) ?_
  obtain ⟨T8, h8, k8, X8, e8, E8, A8, st8⟩ := newP X6 hx hZ (hw _ (List.mem_of_getElem? (i := 12) rfl)) e6 (g := (mkF m 19 #[.val (.ref a1)] [(.int (4 : Int32)), (.ref a1)])) rfl (hb hby d_prog_4_method_1_code_19) rfl (by decide) (cap := 4) (by decide) (by decide) (by decide) (by decide)
  obtain ⟨b8, gb8⟩ : ∃ z, z = h5.size := ⟨_, rfl⟩
  have g_b8 : n0 ≤ b8 := Nat.le_trans Z5 (Nat.le_of_eq gb8.symm)
  have sz_b8 : h0.size ≤ b8 := Nat.le_trans K5.1 (Nat.le_of_eq gb8.symm)
  have ne_a1_b8 : a1 ≠ b8 := Nat.ne_of_lt (Nat.lt_of_lt_of_le ((P0.ext E4).wr W5).lt (Nat.le_of_eq gb8.symm))
  have ne_ba_b8 : ba ≠ b8 := Nat.ne_of_lt (Nat.lt_of_lt_of_le ((P6.ext E4).other W5 ne_ba_a1).lt (Nat.le_of_eq gb8.symm))
  have ne_b4_b8 : b4 ≠ b8 := Nat.ne_of_lt (Nat.lt_of_lt_of_le (V_b4.other W5 (Ne.symm ne_a1_b4)).lt (Nat.le_of_eq gb8.symm))
  rw [← gb8] at A8 st8
  have V_b8 : Arv Z h8 b8 k8 .long (4 : Int32) [(.long (0 : Int64)), (.long (0 : Int64)), (.long (0 : Int64)), (.long (0 : Int64))] (.long (0 : Int64)) := (Arv.new A8 (by decide)).pad (pad_rep [] (.long (0 : Int64)) 4)
  have K8 : Keep h0 h8 [a1] := K5.ext E8
  have Z8 : n0 ≤ h8.size := Nat.le_trans Z5 E8.1
  refine own_fw (A' := (T8.setTop (mkF m 21 #[.val (.ref a1)] [(.ref b8), (.ref a1)]))) (fun t k => st8 _ k) ?_
  obtain ⟨T9, h9, X9, e9, W9, st9⟩ := putF X8 hx hZ hown (host := "") (Or.inl (hw _ (List.mem_of_getElem? (i := 15) rfl))) Via.refl e8 (((P2.ext E4).other W5 (Or.inr (slot_ne (Or.inr (hw _ (List.mem_of_getElem? (i := 16) rfl))) (Or.inr (hw _ (List.mem_of_getElem? (i := 14) rfl))) (by decide) (t := (.array .long)) (t' := (.array .long)) (by decide) (by decide)))).ext E8) (((P0.ext E4).wr W5).ext E8) (Or.inr ⟨(hw _ (List.mem_of_getElem? (i := 16) rfl)), rfl, hnm⟩) (hw _ (List.mem_of_getElem? (i := 1) rfl)) (ty := (.array .long)) (by decide) rfl rfl (g := (mkF m 21 #[.val (.ref a1)] [(.ref b8), (.ref a1)])) rfl rfl (hb hby d_prog_4_method_1_code_21)
  have Fw9 : Fld Z h9 a1 "com/example/spindle/spindle/DispatchTimes" "totalMillis" "[J" (.ref b8) := (((P2.ext E4).other W5 (Or.inr (slot_ne (Or.inr (hw _ (List.mem_of_getElem? (i := 16) rfl))) (Or.inr (hw _ (List.mem_of_getElem? (i := 14) rfl))) (by decide) (t := (.array .long)) (t' := (.array .long)) (by decide) (by decide)))).ext E8).same W9
  have Nf9 := Fr.snoc X9 Nf5 g_a1
  have K9 : Keep h0 h9 [a1] := K8.wr W9 (Or.inl (List.mem_of_getElem? (i := 0) rfl))
  have Z9 : n0 ≤ h9.size := Nat.le_trans Z8 (Keep.of_wr W9).1
  refine own_fw (A' := (T9.setTop (mkF m 24 #[.val (.ref a1)] []))) (fun t k => st9 _ k) ?_
  obtain ⟨fs, hr, hrun, hended, hW, hsame⟩ := X9.leave (v := none) (fun _ => rfl)
  refine ⟨_, _, ?_, hrun, hended, _, _, rfl, ?_, ⟨_, rfl⟩, hW, hsame.mono (by decide) (by decide)⟩
  · exact X9.returnOut hx Bd.returns (hb hby d_prog_4_method_1_code_24) hr
  · show Q_rmInit Z a1 ba kb r0 r1 r2 r3 h0 n0 _ T9.heap _
    rw [e9]
    exact ⟨b4, b8, k4, k8, rfl, Nf9, K9, ((((P0.ext E4).wr W5).ext E8).wr W9), ((Fw5.ext E8).other W9 (Or.inr (slot_ne (Or.inr (hw _ (List.mem_of_getElem? (i := 14) rfl))) (Or.inr (hw _ (List.mem_of_getElem? (i := 16) rfl))) (by decide) (t := (.array .long)) (t' := (.array .long)) (by decide) (by decide)))), Fw9, (((V_b4.other W5 (Ne.symm ne_a1_b4)).ext E8).other W9 (Ne.symm ne_a1_b4)), (V_b8.other W9 (Ne.symm ne_a1_b8)), sz_b4, sz_b8, ne_b4_b8⟩
theorem pn_com_example_spindle_spindle_DispatchTimesClearPinLaw : plainName "com/example/spindle/spindle/DispatchTimesClearPinLaw" = true := by first | (simp [plainName, overriddenIn]; done) | decide +kernel
theorem d_method_2_code_0 : decode method_2_code 0 = .ok (.iload_n 2, 1) := by decide +kernel
theorem d_method_2_code_1 : decode method_2_code 1 = .ok (.iconst 3, 1) := by decide +kernel
theorem d_method_2_code_2 : decode method_2_code 2 = .ok (.iand, 1) := by decide +kernel
theorem d_method_2_code_3 : decode method_2_code 3 = .ok (.istore_n 3, 1) := by decide +kernel
theorem d_method_2_code_4 : decode method_2_code 4 = .ok (.iload_n 3, 1) := by decide +kernel
theorem d_method_2_code_5 : decode method_2_code 5 = .ok (.ifCond .ne 9, 3) := by decide +kernel
theorem d_method_2_code_8 : decode method_2_code 8 = .ok (.lload_n 0, 1) := by decide +kernel
theorem d_method_2_code_9 : decode method_2_code 9 = .ok (.ldc2_w 7, 3) := by decide +kernel
theorem d_method_2_code_12 : decode method_2_code 12 = .ok (.land, 1) := by decide +kernel
theorem d_method_2_code_13 : decode method_2_code 13 = .ok (.lreturn, 1) := by decide +kernel
theorem d_method_2_code_14 : decode method_2_code 14 = .ok (.iload_n 3, 1) := by decide +kernel
theorem d_method_2_code_15 : decode method_2_code 15 = .ok (.iconst 1, 1) := by decide +kernel
theorem d_method_2_code_16 : decode method_2_code 16 = .ok (.if_icmp .ne 9, 3) := by decide +kernel
theorem d_method_2_code_19 : decode method_2_code 19 = .ok (.lload_n 0, 1) := by decide +kernel
theorem d_method_2_code_20 : decode method_2_code 20 = .ok (.ldc2_w 9, 3) := by decide +kernel
theorem d_method_2_code_23 : decode method_2_code 23 = .ok (.land, 1) := by decide +kernel
theorem d_method_2_code_24 : decode method_2_code 24 = .ok (.lreturn, 1) := by decide +kernel
theorem d_method_2_code_25 : decode method_2_code 25 = .ok (.iload_n 3, 1) := by decide +kernel
theorem d_method_2_code_26 : decode method_2_code 26 = .ok (.iconst 2, 1) := by decide +kernel
theorem d_method_2_code_27 : decode method_2_code 27 = .ok (.if_icmp .ne 9, 3) := by decide +kernel
theorem d_method_2_code_30 : decode method_2_code 30 = .ok (.lload_n 0, 1) := by decide +kernel
theorem d_method_2_code_31 : decode method_2_code 31 = .ok (.ldc2_w 11, 3) := by decide +kernel
theorem d_method_2_code_34 : decode method_2_code 34 = .ok (.land, 1) := by decide +kernel
theorem d_method_2_code_35 : decode method_2_code 35 = .ok (.lreturn, 1) := by decide +kernel
theorem d_method_2_code_36 : decode method_2_code 36 = .ok (.lload_n 0, 1) := by decide +kernel
theorem d_method_2_code_37 : decode method_2_code 37 = .ok (.ldc2_w 15, 3) := by decide +kernel
theorem d_method_2_code_40 : decode method_2_code 40 = .ok (.land, 1) := by decide +kernel
theorem d_method_2_code_41 : decode method_2_code 41 = .ok (.lreturn, 1) := by decide +kernel
theorem ef_rmMillis (m : MethodId) (q1 : Int64) (p2 : Int32) : entryFrame m #[(.long q1), (.int p2)] 4 = mkF m 0 #[.val (.long q1), .second, .val (.int p2), .unset] [] := by first | (simp [entryFrame, mkF, argsToLocals, Value.category]; done) | rfl
def Q_rmMillis (Z : State) (q1 : Int64) (p2 : Int32) (h0 : Heap) (n0 : Nat) (v : Option Value) (h : Heap) (L : List Loc) : Prop := ∃ qr : Int64, v = some (.long qr) ∧ Fr n0 L ∧ h = h0
set_option maxRecDepth 65536 in
set_option maxHeartbeats 40000000 in
theorem rmMillis (l : Launch) (Z : State) (a0 : Array Value) (hw : ∀ d ∈ tables_1, d.before a0 Z = true) (ws : List Jvm.Cond) (q1 : Int64) (p2 : Int32) (h0 : Heap) (n0 : Nat) (Z0 : n0 ≤ h0.size)  :
    MetFree l (⟨"com/example/spindle/spindle/DispatchTimesClearPinLaw", "millis", "(JI)J"⟩ : MethodName) (head1 (Jvm.Cond.code (⟨"com/example/spindle/spindle/DispatchTimesClearPinLaw", "millis", "(JI)J"⟩ : MethodName) method_2_code 4 (some .long) :: ws) ({ frames := 0, cells := 0, slots := 0, locals := 0 } : Room)) (fun a U => a = #[(.long q1), (.int p2)] ∧ Z.Warmed39 U.vm ∧ U.heap = h0) (fun _ _ _ _ _ => True) (fun _ U o U' => ∃ v L, o = .returned v ∧ Q_rmMillis Z q1 p2 h0 n0 v U'.heap L ∧ FrameEnd U o U' L ({ frames := 0, cells := 0, slots := 0, locals := 0 } : Room).cells ({ frames := 0, cells := 0, slots := 0, locals := 0 } : Room).slots) := by
  refine MetFree.of_bodySF (plainFor_of_name pn_com_example_spindle_spindle_DispatchTimesClearPinLaw) hisR ?_
  intro p e s m args below meth c s₁ Bd hml0 hP hK
  obtain ⟨rfl, hZ, hh⟩ := hP
  have hx := Bd.exec
  have hby := Bd.bytes
  have hml : c.maxLocals = 4 := hml0
  have hown : s.vm.findClass "com/example/spindle/spindle/DispatchTimesClearPinLaw" = some m.cls := findClass_of_methodNamed Bd.named
  have hnm := (name_of_methodNamed Bd.named Bd.method).1
  have X0 : Stand p l e ({ frames := 0, cells := 0, slots := 0, locals := 0 } : Room) s m #[(.long q1), (.int p2)] below meth c s₁ [] 0 0 := Stand.of_body Bd
  have e0 : s₁.heap = h0 := by rw [← hh, Bd.state]; rfl
  have N0 := Fr.nil n0
  refine own_fw (A' := (s₁.setTop (mkF m 0 #[.val (.long q1), .second, .val (.int p2), .unset] []))) (fun t k => castTop (ef_rmMillis m q1 p2) k) ?_
  refine own_fw (A' := (s₁.setTop (mkF m 1 #[.val (.long q1), .second, .val (.int p2), .unset] [(.int p2)]))) (fun t k => XS.iloadN X0.here hx rfl (hb hby d_method_2_code_0) rfl k) ?_
  refine own_fw (A' := (s₁.setTop (mkF m 2 #[.val (.long q1), .second, .val (.int p2), .unset] [(.int (3 : Int32)), (.int p2)]))) (fun t k => XS.iconst X0.here hx rfl (hb hby d_method_2_code_1) k) ?_
  refine own_fw (A' := (s₁.setTop (mkF m 3 #[.val (.long q1), .second, .val (.int p2), .unset] [(.int (p2 &&& (3 : Int32)))]))) (fun t k => XS.iand X0.here hx rfl (hb hby d_method_2_code_2) rfl k) ?_
  refine own_fw (A' := (s₁.setTop (mkF m 4 #[.val (.long q1), .second, .val (.int p2), .val (.int (p2 &&& (3 : Int32)))] []))) (fun t k => XS.istoreN X0.here hx rfl (hb hby d_method_2_code_3) rfl (l' := #[.val (.long q1), .second, .val (.int p2), .val (.int (p2 &&& (3 : Int32)))]) rfl k) ?_
  refine own_fw (A' := (s₁.setTop (mkF m 5 #[.val (.long q1), .second, .val (.int p2), .val (.int (p2 &&& (3 : Int32)))] [(.int (p2 &&& (3 : Int32)))]))) (fun t k => XS.iloadN X0.here hx rfl (hb hby d_method_2_code_4) rfl k) ?_
  by_cases hc1 : (p2 &&& (3 : Int32)) = (0 : Int32)
  · refine own_fw (A' := (s₁.setTop (mkF m 8 #[.val (.long q1), .second, .val (.int p2), .val (.int (p2 &&& (3 : Int32)))] []))) (fun t k => XS.ifNo X0.here hx rfl (hb hby d_method_2_code_5) rfl (XT.i0_ne_f hc1) k) ?_
    refine own_fw (A' := (s₁.setTop (mkF m 9 #[.val (.long q1), .second, .val (.int p2), .val (.int (p2 &&& (3 : Int32)))] [(.long q1)]))) (fun t k => XS.lloadN X0.here hx rfl (hb hby d_method_2_code_8) rfl k) ?_
    refine own_fw (A' := (s₁.setTop (mkF m 12 #[.val (.long q1), .second, .val (.int p2), .val (.int (p2 &&& (3 : Int32)))] [(.long (63 : Int64)), (.long q1)]))) (fun t k => X0.ldc2Long hx hown (mvT hZ (hw _ (List.mem_of_getElem? (i := 21) rfl))) (g := (mkF m 9 #[.val (.long q1), .second, .val (.int p2), .val (.int (p2 &&& (3 : Int32)))] [(.long q1)])) rfl (hb hby d_method_2_code_9) _ k) ?_
    refine own_fw (A' := (s₁.setTop (mkF m 13 #[.val (.long q1), .second, .val (.int p2), .val (.int (p2 &&& (3 : Int32)))] [(.long (q1 &&& (63 : Int64)))]))) (fun t k => XS.land X0.here hx rfl (hb hby d_method_2_code_12) rfl k) ?_
    obtain ⟨fs, hr, hrun, hended, hW, hsame⟩ := X0.leave (v := some (.long (q1 &&& (63 : Int64)))) (fun h => by rw [Bd.returns] at h; cases h)
    refine ⟨_, _, ?_, hrun, hended, _, _, rfl, ?_, ⟨_, rfl⟩, hW, hsame.mono (by decide) (by decide)⟩
    · exact retOut X0 hx Bd.returns rfl (Or.inr (Or.inl ⟨rfl, rfl, _, rfl⟩)) (hb hby d_method_2_code_13) hr
    · show Q_rmMillis Z q1 p2 h0 n0 _ s₁.heap _
      rw [e0]
      exact ⟨(q1 &&& (63 : Int64)), rfl, N0, rfl⟩
  · refine own_fw (A' := (s₁.setTop (mkF m 14 #[.val (.long q1), .second, .val (.int p2), .val (.int (p2 &&& (3 : Int32)))] []))) (fun t k => XS.ifYes X0.here hx rfl (pc0 := 5) (pc' := 14) rfl (hb hby d_method_2_code_5) rfl (XT.i0_ne_t hc1) (by decide) (by decide) k) ?_
    refine own_fw (A' := (s₁.setTop (mkF m 15 #[.val (.long q1), .second, .val (.int p2), .val (.int (p2 &&& (3 : Int32)))] [(.int (p2 &&& (3 : Int32)))]))) (fun t k => XS.iloadN X0.here hx rfl (hb hby d_method_2_code_14) rfl k) ?_
    refine own_fw (A' := (s₁.setTop (mkF m 16 #[.val (.long q1), .second, .val (.int p2), .val (.int (p2 &&& (3 : Int32)))] [(.int (1 : Int32)), (.int (p2 &&& (3 : Int32)))]))) (fun t k => XS.iconst X0.here hx rfl (hb hby d_method_2_code_15) k) ?_
    by_cases hc2 : (p2 &&& (3 : Int32)) = (1 : Int32)
    · refine own_fw (A' := (s₁.setTop (mkF m 19 #[.val (.long q1), .second, .val (.int p2), .val (.int (p2 &&& (3 : Int32)))] []))) (fun t k => XS.icmpNo X0.here hx rfl (hb hby d_method_2_code_16) rfl (XT.ii_ne_f hc2) k) ?_
      refine own_fw (A' := (s₁.setTop (mkF m 20 #[.val (.long q1), .second, .val (.int p2), .val (.int (p2 &&& (3 : Int32)))] [(.long q1)]))) (fun t k => XS.lloadN X0.here hx rfl (hb hby d_method_2_code_19) rfl k) ?_
      refine own_fw (A' := (s₁.setTop (mkF m 23 #[.val (.long q1), .second, .val (.int p2), .val (.int (p2 &&& (3 : Int32)))] [(.long (511 : Int64)), (.long q1)]))) (fun t k => X0.ldc2Long hx hown (mvT hZ (hw _ (List.mem_of_getElem? (i := 66) rfl))) (g := (mkF m 20 #[.val (.long q1), .second, .val (.int p2), .val (.int (p2 &&& (3 : Int32)))] [(.long q1)])) rfl (hb hby d_method_2_code_20) _ k) ?_
      refine own_fw (A' := (s₁.setTop (mkF m 24 #[.val (.long q1), .second, .val (.int p2), .val (.int (p2 &&& (3 : Int32)))] [(.long (q1 &&& (511 : Int64)))]))) (fun t k => XS.land X0.here hx rfl (hb hby d_method_2_code_23) rfl k) ?_
      obtain ⟨fs, hr, hrun, hended, hW, hsame⟩ := X0.leave (v := some (.long (q1 &&& (511 : Int64)))) (fun h => by rw [Bd.returns] at h; cases h)
      refine ⟨_, _, ?_, hrun, hended, _, _, rfl, ?_, ⟨_, rfl⟩, hW, hsame.mono (by decide) (by decide)⟩
      · exact retOut X0 hx Bd.returns rfl (Or.inr (Or.inl ⟨rfl, rfl, _, rfl⟩)) (hb hby d_method_2_code_24) hr
      · show Q_rmMillis Z q1 p2 h0 n0 _ s₁.heap _
        rw [e0]
        exact ⟨(q1 &&& (511 : Int64)), rfl, N0, rfl⟩
    · refine own_fw (A' := (s₁.setTop (mkF m 25 #[.val (.long q1), .second, .val (.int p2), .val (.int (p2 &&& (3 : Int32)))] []))) (fun t k => XS.icmpYes X0.here hx rfl (pc0 := 16) (pc' := 25) rfl (hb hby d_method_2_code_16) rfl (XT.ii_ne_t hc2) (by decide) (by decide) k) ?_
      refine own_fw (A' := (s₁.setTop (mkF m 26 #[.val (.long q1), .second, .val (.int p2), .val (.int (p2 &&& (3 : Int32)))] [(.int (p2 &&& (3 : Int32)))]))) (fun t k => XS.iloadN X0.here hx rfl (hb hby d_method_2_code_25) rfl k) ?_
      refine own_fw (A' := (s₁.setTop (mkF m 27 #[.val (.long q1), .second, .val (.int p2), .val (.int (p2 &&& (3 : Int32)))] [(.int (2 : Int32)), (.int (p2 &&& (3 : Int32)))]))) (fun t k => XS.iconst X0.here hx rfl (hb hby d_method_2_code_26) k) ?_
      by_cases hc3 : (p2 &&& (3 : Int32)) = (2 : Int32)
      · refine own_fw (A' := (s₁.setTop (mkF m 30 #[.val (.long q1), .second, .val (.int p2), .val (.int (p2 &&& (3 : Int32)))] []))) (fun t k => XS.icmpNo X0.here hx rfl (hb hby d_method_2_code_27) rfl (XT.ii_ne_f hc3) k) ?_
        refine own_fw (A' := (s₁.setTop (mkF m 31 #[.val (.long q1), .second, .val (.int p2), .val (.int (p2 &&& (3 : Int32)))] [(.long q1)]))) (fun t k => XS.lloadN X0.here hx rfl (hb hby d_method_2_code_30) rfl k) ?_
        refine own_fw (A' := (s₁.setTop (mkF m 34 #[.val (.long q1), .second, .val (.int p2), .val (.int (p2 &&& (3 : Int32)))] [(.long (2047 : Int64)), (.long q1)]))) (fun t k => X0.ldc2Long hx hown (mvT hZ (hw _ (List.mem_of_getElem? (i := 67) rfl))) (g := (mkF m 31 #[.val (.long q1), .second, .val (.int p2), .val (.int (p2 &&& (3 : Int32)))] [(.long q1)])) rfl (hb hby d_method_2_code_31) _ k) ?_
        refine own_fw (A' := (s₁.setTop (mkF m 35 #[.val (.long q1), .second, .val (.int p2), .val (.int (p2 &&& (3 : Int32)))] [(.long (q1 &&& (2047 : Int64)))]))) (fun t k => XS.land X0.here hx rfl (hb hby d_method_2_code_34) rfl k) ?_
        obtain ⟨fs, hr, hrun, hended, hW, hsame⟩ := X0.leave (v := some (.long (q1 &&& (2047 : Int64)))) (fun h => by rw [Bd.returns] at h; cases h)
        refine ⟨_, _, ?_, hrun, hended, _, _, rfl, ?_, ⟨_, rfl⟩, hW, hsame.mono (by decide) (by decide)⟩
        · exact retOut X0 hx Bd.returns rfl (Or.inr (Or.inl ⟨rfl, rfl, _, rfl⟩)) (hb hby d_method_2_code_35) hr
        · show Q_rmMillis Z q1 p2 h0 n0 _ s₁.heap _
          rw [e0]
          exact ⟨(q1 &&& (2047 : Int64)), rfl, N0, rfl⟩
      · refine own_fw (A' := (s₁.setTop (mkF m 36 #[.val (.long q1), .second, .val (.int p2), .val (.int (p2 &&& (3 : Int32)))] []))) (fun t k => XS.icmpYes X0.here hx rfl (pc0 := 27) (pc' := 36) rfl (hb hby d_method_2_code_27) rfl (XT.ii_ne_t hc3) (by decide) (by decide) k) ?_
        refine own_fw (A' := (s₁.setTop (mkF m 37 #[.val (.long q1), .second, .val (.int p2), .val (.int (p2 &&& (3 : Int32)))] [(.long q1)]))) (fun t k => XS.lloadN X0.here hx rfl (hb hby d_method_2_code_36) rfl k) ?_
        refine own_fw (A' := (s₁.setTop (mkF m 40 #[.val (.long q1), .second, .val (.int p2), .val (.int (p2 &&& (3 : Int32)))] [(.long (9223372036854775807 : Int64)), (.long q1)]))) (fun t k => X0.ldc2Long hx hown (mvT hZ (hw _ (List.mem_of_getElem? (i := 65) rfl))) (g := (mkF m 37 #[.val (.long q1), .second, .val (.int p2), .val (.int (p2 &&& (3 : Int32)))] [(.long q1)])) rfl (hb hby d_method_2_code_37) _ k) ?_
        refine own_fw (A' := (s₁.setTop (mkF m 41 #[.val (.long q1), .second, .val (.int p2), .val (.int (p2 &&& (3 : Int32)))] [(.long (q1 &&& (9223372036854775807 : Int64)))]))) (fun t k => XS.land X0.here hx rfl (hb hby d_method_2_code_40) rfl k) ?_
        obtain ⟨fs, hr, hrun, hended, hW, hsame⟩ := X0.leave (v := some (.long (q1 &&& (9223372036854775807 : Int64)))) (fun h => by rw [Bd.returns] at h; cases h)
        refine ⟨_, _, ?_, hrun, hended, _, _, rfl, ?_, ⟨_, rfl⟩, hW, hsame.mono (by decide) (by decide)⟩
        · exact retOut X0 hx Bd.returns rfl (Or.inr (Or.inl ⟨rfl, rfl, _, rfl⟩)) (hb hby d_method_2_code_41) hr
        · show Q_rmMillis Z q1 p2 h0 n0 _ s₁.heap _
          rw [e0]
          exact ⟨(q1 &&& (9223372036854775807 : Int64)), rfl, N0, rfl⟩
theorem pn_java_lang_Enum : plainName "java/lang/Enum" = true := by first | (simp [plainName, overriddenIn]; done) | decide +kernel
theorem d_jdk_37_method_2_code_0 : decode jdk_37_method_2_code 0 = .ok (.aload_n 0, 1) := by decide +kernel
theorem d_jdk_37_method_2_code_1 : decode jdk_37_method_2_code 1 = .ok (.getfield 7, 3) := by decide +kernel
theorem d_jdk_37_method_2_code_4 : decode jdk_37_method_2_code 4 = .ok (.ireturn, 1) := by decide +kernel
theorem ef_rmOrd (m : MethodId) (a1 : Addr) : entryFrame m #[(.ref a1)] 1 = mkF m 0 #[.val (.ref a1)] [] := by first | (simp [entryFrame, mkF, argsToLocals, Value.category]; done) | rfl
def Q_rmOrd (Z : State) (a1 : Addr) (p2 : Int32) (h0 : Heap) (n0 : Nat) (v : Option Value) (h : Heap) (L : List Loc) : Prop := v = some (.int p2) ∧ Fr n0 L ∧ h = h0
set_option maxRecDepth 65536 in
set_option maxHeartbeats 40000000 in
theorem rmOrd (l : Launch) (Z : State) (a0 : Array Value) (hw : ∀ d ∈ tables_1, d.before a0 Z = true) (ws : List Jvm.Cond) (a1 : Addr) (p2 : Int32) (h0 : Heap) (n0 : Nat) (Z0 : n0 ≤ h0.size) (P0 : Fld Z h0 a1 "java/lang/Enum" "ordinal" "I" (.int p2)) :
    MetFree l (⟨"java/lang/Enum", "ordinal", "()I"⟩ : MethodName) (head1 (Jvm.Cond.code (⟨"java/lang/Enum", "ordinal", "()I"⟩ : MethodName) jdk_37_method_2_code 1 (some .int) :: ws) ({ frames := 0, cells := 0, slots := 0, locals := 0 } : Room)) (fun a U => a = #[(.ref a1)] ∧ Z.Warmed39 U.vm ∧ U.heap = h0) (fun _ _ _ _ _ => True) (fun _ U o U' => ∃ v L, o = .returned v ∧ Q_rmOrd Z a1 p2 h0 n0 v U'.heap L ∧ FrameEnd U o U' L ({ frames := 0, cells := 0, slots := 0, locals := 0 } : Room).cells ({ frames := 0, cells := 0, slots := 0, locals := 0 } : Room).slots) := by
  refine MetFree.of_bodySF (plainFor_of_name pn_java_lang_Enum) hisR ?_
  intro p e s m args below meth c s₁ Bd hml0 hP hK
  obtain ⟨rfl, hZ, hh⟩ := hP
  have hx := Bd.exec
  have hby := Bd.bytes
  have hml : c.maxLocals = 1 := hml0
  have hown : s.vm.findClass "java/lang/Enum" = some m.cls := findClass_of_methodNamed Bd.named
  have hnm := (name_of_methodNamed Bd.named Bd.method).1
  have X0 : Stand p l e ({ frames := 0, cells := 0, slots := 0, locals := 0 } : Room) s m #[(.ref a1)] below meth c s₁ [] 0 0 := Stand.of_body Bd
  have e0 : s₁.heap = h0 := by rw [← hh, Bd.state]; rfl
  have N0 := Fr.nil n0
  refine own_fw (A' := (s₁.setTop (mkF m 0 #[.val (.ref a1)] []))) (fun t k => castTop (ef_rmOrd m a1) k) ?_
  refine own_fw (A' := (s₁.setTop (mkF m 1 #[.val (.ref a1)] [(.ref a1)]))) (fun t k => XS.aloadN X0.here hx rfl (hb hby d_jdk_37_method_2_code_0) rfl rfl k) ?_
  obtain ⟨T1, X1, e1, st1⟩ := getF X0 hx hZ hown (host := "") (Or.inl (hw _ (List.mem_of_getElem? (i := 44) rfl))) Via.refl e0 P0 (g := (mkF m 1 #[.val (.ref a1)] [(.ref a1)])) rfl rfl (hb hby d_jdk_37_method_2_code_1)
  refine own_fw (A' := (T1.setTop (mkF m 4 #[.val (.ref a1)] [(.int p2)]))) (fun t k => st1 _ k) ?_
  obtain ⟨fs, hr, hrun, hended, hW, hsame⟩ := X1.leave (v := some (.int p2)) (fun h => by rw [Bd.returns] at h; cases h)
  refine ⟨_, _, ?_, hrun, hended, _, _, rfl, ?_, ⟨_, rfl⟩, hW, hsame.mono (by decide) (by decide)⟩
  · exact retOut X1 hx Bd.returns rfl (Or.inl ⟨rfl, by simp, _, rfl⟩) (hb hby d_jdk_37_method_2_code_4) hr
  · show Q_rmOrd Z a1 p2 h0 n0 _ T1.heap _
    rw [e1]
    exact ⟨rfl, N0, rfl⟩
theorem d_prog_4_method_4_code_0 : decode prog_4_method_4_code 0 = .ok (.lload_n 1, 1) := by decide +kernel
theorem d_prog_4_method_4_code_1 : decode prog_4_method_4_code 1 = .ok (.invokestatic 26, 3) := by decide +kernel
theorem pd__J_Lcom_example_spindle_spindle_DispatchTimes_Band_ : parseMethodDescriptor "(J)Lcom/example/spindle/spindle/DispatchTimes$Band;" = some ⟨[.long], some (.object "com/example/spindle/spindle/DispatchTimes$Band")⟩ := by decide +kernel
theorem d_prog_4_method_4_code_4 : decode prog_4_method_4_code 4 = .ok (.invokevirtual 22, 3) := by decide +kernel
theorem pd___I : parseMethodDescriptor "()I" = some ⟨[], some .int⟩ := by decide +kernel
theorem d_prog_4_method_4_code_7 : decode prog_4_method_4_code 7 = .ok (.istore_n 3, 1) := by decide +kernel
theorem d_prog_4_method_4_code_8 : decode prog_4_method_4_code 8 = .ok (.aload_n 0, 1) := by decide +kernel
theorem d_prog_4_method_4_code_9 : decode prog_4_method_4_code 9 = .ok (.getfield 13, 3) := by decide +kernel
theorem d_prog_4_method_4_code_12 : decode prog_4_method_4_code 12 = .ok (.iload_n 3, 1) := by decide +kernel
theorem d_prog_4_method_4_code_13 : decode prog_4_method_4_code 13 = .ok (.dup2, 1) := by decide +kernel
theorem d_prog_4_method_4_code_14 : decode prog_4_method_4_code 14 = .ok (.laload, 1) := by decide +kernel
theorem d_prog_4_method_4_code_15 : decode prog_4_method_4_code 15 = .ok (.lconst 1, 1) := by decide +kernel
theorem d_prog_4_method_4_code_16 : decode prog_4_method_4_code 16 = .ok (.ladd, 1) := by decide +kernel
theorem d_prog_4_method_4_code_17 : decode prog_4_method_4_code 17 = .ok (.lastore, 1) := by decide +kernel
theorem d_prog_4_method_4_code_18 : decode prog_4_method_4_code 18 = .ok (.aload_n 0, 1) := by decide +kernel
theorem d_prog_4_method_4_code_19 : decode prog_4_method_4_code 19 = .ok (.getfield 19, 3) := by decide +kernel
theorem d_prog_4_method_4_code_22 : decode prog_4_method_4_code 22 = .ok (.iload_n 3, 1) := by decide +kernel
theorem d_prog_4_method_4_code_23 : decode prog_4_method_4_code 23 = .ok (.dup2, 1) := by decide +kernel
theorem d_prog_4_method_4_code_24 : decode prog_4_method_4_code 24 = .ok (.laload, 1) := by decide +kernel
theorem d_prog_4_method_4_code_25 : decode prog_4_method_4_code 25 = .ok (.lload_n 1, 1) := by decide +kernel
theorem d_prog_4_method_4_code_26 : decode prog_4_method_4_code 26 = .ok (.ladd, 1) := by decide +kernel
theorem d_prog_4_method_4_code_27 : decode prog_4_method_4_code 27 = .ok (.lastore, 1) := by decide +kernel
theorem d_prog_4_method_4_code_28 : decode prog_4_method_4_code 28 = .ok (.return_, 1) := by decide +kernel
theorem ef_rmAdd (m : MethodId) (a1 : Addr) (q1 : Int64) : entryFrame m #[(.ref a1), (.long q1)] 4 = mkF m 0 #[.val (.ref a1), .val (.long q1), .second, .unset] [] := by first | (simp [entryFrame, mkF, argsToLocals, Value.category]; done) | rfl
def Q_rmAdd (Z : State) (a1 : Addr) (q1 : Int64) (c1 : Addr) (c2 : Addr) (k1 : ClassId) (k2 : ClassId) (x0 : Int64) (x1 : Int64) (x2 : Int64) (x3 : Int64) (y0 : Int64) (y1 : Int64) (y2 : Int64) (y3 : Int64) (ba : Addr) (kb : ClassId) (r0 : Addr) (r1 : Addr) (r2 : Addr) (r3 : Addr) (h0 : Heap) (n0 : Nat) (v : Option Value) (h : Heap) (L : List Loc) : Prop := ∃ u0 : Int64, ∃ u1 : Int64, ∃ u2 : Int64, ∃ u3 : Int64, ∃ v0 : Int64, ∃ v1 : Int64, ∃ v2 : Int64, ∃ v3 : Int64, v = none ∧ Fr n0 L ∧ Keep h0 h [c1, c2] ∧ Arv Z h c1 k1 .long (4 : Int32) [(.long u0), (.long u1), (.long u2), (.long u3)] (.long (0 : Int64)) ∧ Arv Z h c2 k2 .long (4 : Int32) [(.long v0), (.long v1), (.long v2), (.long v3)] (.long (0 : Int64))
set_option maxRecDepth 65536 in
set_option maxHeartbeats 40000000 in
theorem rmAdd (l : Launch) (Z : State) (a0 : Array Value) (hw : ∀ d ∈ tables_1, d.before a0 Z = true) (ws : List Jvm.Cond) (a1 : Addr) (q1 : Int64) (c1 : Addr) (c2 : Addr) (k1 : ClassId) (k2 : ClassId) (x0 : Int64) (x1 : Int64) (x2 : Int64) (x3 : Int64) (y0 : Int64) (y1 : Int64) (y2 : Int64) (y3 : Int64) (ba : Addr) (kb : ClassId) (r0 : Addr) (r1 : Addr) (r2 : Addr) (r3 : Addr) (h0 : Heap) (n0 : Nat) (Z0 : n0 ≤ h0.size) (P0 : Exa Z h0 a1 "com/example/spindle/spindle/DispatchTimes") (P1 : Fld Z h0 a1 "com/example/spindle/spindle/DispatchTimes" "counts" "[J" (.ref c1)) (P2 : Fld Z h0 a1 "com/example/spindle/spindle/DispatchTimes" "totalMillis" "[J" (.ref c2)) (P3 : Arv Z h0 c1 k1 .long (4 : Int32) [(.long x0), (.long x1), (.long x2), (.long x3)] (.long (0 : Int64))) (P4 : Arv Z h0 c2 k2 .long (4 : Int32) [(.long y0), (.long y1), (.long y2), (.long y3)] (.long (0 : Int64))) (g_c1 : n0 ≤ c1) (g_c2 : n0 ≤ c2) (ne_c1_c2 : c1 ≠ c2) (P8 : Sta Z h0 "com/example/spindle/spindle/DispatchTimes$Band" "BANDS" "[Lcom/example/spindle/spindle/DispatchTimes$Band;" (.ref ba)) (P9 : Arv Z h0 ba kb (.object "com/example/spindle/spindle/DispatchTimes$Band") (4 : Int32) [(.ref r0), (.ref r1), (.ref r2), (.ref r3)] .null) (P10 : Exa Z h0 r0 "com/example/spindle/spindle/DispatchTimes$Band") (P11 : Fld Z h0 r0 "com/example/spindle/spindle/DispatchTimes$Band" "lowerMillis" "J" (.long (0 : Int64))) (P12 : Exa Z h0 r1 "com/example/spindle/spindle/DispatchTimes$Band") (P13 : Fld Z h0 r1 "com/example/spindle/spindle/DispatchTimes$Band" "lowerMillis" "J" (.long (50 : Int64))) (P14 : Exa Z h0 r2 "com/example/spindle/spindle/DispatchTimes$Band") (P15 : Fld Z h0 r2 "com/example/spindle/spindle/DispatchTimes$Band" "lowerMillis" "J" (.long (250 : Int64))) (P16 : Exa Z h0 r3 "com/example/spindle/spindle/DispatchTimes$Band") (P17 : Fld Z h0 r3 "com/example/spindle/spindle/DispatchTimes$Band" "lowerMillis" "J" (.long (1000 : Int64))) (P18 : Fld Z h0 r0 "java/lang/Enum" "ordinal" "I" (.int (0 : Int32))) (P19 : Fld Z h0 r1 "java/lang/Enum" "ordinal" "I" (.int (1 : Int32))) (P20 : Fld Z h0 r2 "java/lang/Enum" "ordinal" "I" (.int (2 : Int32))) (P21 : Fld Z h0 r3 "java/lang/Enum" "ordinal" "I" (.int (3 : Int32))) (ne_ba_c1 : ba ≠ c1) (ne_ba_c2 : ba ≠ c2) (ne_r0_c1 : r0 ≠ c1) (ne_r0_c2 : r0 ≠ c2) (ne_r1_c1 : r1 ≠ c1) (ne_r1_c2 : r1 ≠ c2) (ne_r2_c1 : r2 ≠ c1) (ne_r2_c2 : r2 ≠ c2) (ne_r3_c1 : r3 ≠ c1) (ne_r3_c2 : r3 ≠ c2) (ne_a1_c1 : a1 ≠ c1) (ne_a1_c2 : a1 ≠ c2) :
    MetFree l (⟨"com/example/spindle/spindle/DispatchTimes", "add", "(J)V"⟩ : MethodName) (head1 (Jvm.Cond.code (⟨"com/example/spindle/spindle/DispatchTimes", "add", "(J)V"⟩ : MethodName) prog_4_method_4_code 4 none :: ws) ({ frames := 1, cells := 0, slots := 0, locals := 14 } : Room)) (fun a U => a = #[(.ref a1), (.long q1)] ∧ Z.Warmed39 U.vm ∧ U.heap = h0) (fun _ _ _ _ _ => True) (fun _ U o U' => ∃ v L, o = .returned v ∧ Q_rmAdd Z a1 q1 c1 c2 k1 k2 x0 x1 x2 x3 y0 y1 y2 y3 ba kb r0 r1 r2 r3 h0 n0 v U'.heap L ∧ FrameEnd U o U' L ({ frames := 1, cells := 0, slots := 0, locals := 14 } : Room).cells ({ frames := 1, cells := 0, slots := 0, locals := 14 } : Room).slots) := by
  refine MetFree.of_bodySF (plainFor_of_name pn_com_example_spindle_spindle_DispatchTimes) hisR ?_
  intro p e s m args below meth c s₁ Bd hml0 hP hK
  obtain ⟨rfl, hZ, hh⟩ := hP
  have hx := Bd.exec
  have hby := Bd.bytes
  have hml : c.maxLocals = 4 := hml0
  have hown : s.vm.findClass "com/example/spindle/spindle/DispatchTimes" = some m.cls := findClass_of_methodNamed Bd.named
  have hnm := (name_of_methodNamed Bd.named Bd.method).1
  have X0 : Stand p l e ({ frames := 1, cells := 0, slots := 0, locals := 14 } : Room) s m #[(.ref a1), (.long q1)] below meth c s₁ [] 0 0 := Stand.of_body Bd
  have e0 : s₁.heap = h0 := by rw [← hh, Bd.state]; rfl
  have N0 := Fr.nil n0
  refine own_fw (A' := (s₁.setTop (mkF m 0 #[.val (.ref a1), .val (.long q1), .second, .unset] []))) (fun t k => castTop (ef_rmAdd m a1 q1) k) ?_
  by_cases hc1 : q1 < (50 : Int64)
  · refine own_fw (A' := (s₁.setTop (mkF m 1 #[.val (.ref a1), .val (.long q1), .second, .unset] [(.long q1)]))) (fun t k => XS.lloadN X0.here hx rfl (hb hby d_prog_4_method_4_code_0) rfl k) ?_
    obtain ⟨_, _, ⟨T2, L2, k2, n2⟩, -, X2, ⟨Lc2, hQ2, l2, y2, z2⟩, st2⟩ := Jvm.LawKit.callS X0 hx (y := (⟨"com/example/spindle/spindle/DispatchTimes$Band", "of", "(J)Lcom/example/spindle/spindle/DispatchTimes$Band;"⟩ : MethodName)) hown (mvT hZ (hw _ (List.mem_of_getElem? (i := 27) rfl))) (mvT hZ (hw _ (List.mem_of_getElem? (i := 28) rfl))) (mvT hZ (hw _ (List.mem_of_getElem? (i := 10) rfl))) (mvT hZ (hw _ (List.mem_of_getElem? (i := 29) rfl))) (by decide) (backOf (W := 0) (rmOf0 l Z a0 hw [] q1 ba kb r0 r1 r2 r3 h0 n0 Z0 P8 P9 P10 P11 P12 P13 P14 P15 P16 P17 (own_lt q1 _ _ hc1 (by decide)) (own_lt q1 _ _ hc1 (by decide)) hc1) hZ (hw _ (List.mem_of_getElem? (i := 29) rfl)) (hw _ (List.mem_of_getElem? (i := 10) rfl)) (by decide) (by decide)) (g := (mkF m 1 #[.val (.ref a1), .val (.long q1), .second, .unset] [(.long q1)])) rfl (by rw [hml]; rfl) (argsL := [(.long q1)]) (rest := []) (lenOf pd__J_Lcom_example_spindle_spindle_DispatchTimes_Band_ rfl) rfl (by show 2 * 0 + _ ≤ _; exact Nat.le_of_eq rfl) (hb hby d_prog_4_method_4_code_1) (fun _ _ => ⟨rfl, e0, (by decide : 0 + 0 ≤ _), (by decide : 0 + 0 ≤ _)⟩)
    dsimp only [Pt.U, Pt.locs, Pt.cells, Pt.slots] at X2 l2 y2 z2 st2 hQ2
    subst l2 y2 z2
    obtain ⟨rfl, Nq2, e2⟩ := hQ2
    have Nf2 := Fr.app N0 Nq2
    refine own_fw (A' := (T2.setTop (mkF m 4 #[.val (.ref a1), .val (.long q1), .second, .unset] [(.ref r0)]))) (fun t k => st2 _ k) ?_
    obtain ⟨cq3, kq3, qa3, qb3, qc3⟩ := isOf hZ e2 P10
    obtain ⟨_, _, ⟨T3, L3, k3, n3⟩, -, X3, ⟨Lc3, hQ3, l3, y3, z3⟩, st3⟩ := X2.virtualBackUp hx (x := (⟨"com/example/spindle/spindle/DispatchTimes$Band", "ordinal", "()I"⟩ : MethodName)) (y := (⟨"java/lang/Enum", "ordinal", "()I"⟩ : MethodName)) hown (mvT hZ (hw _ (List.mem_of_getElem? (i := 37) rfl))) (mvT hZ (hw _ (List.mem_of_getElem? (i := 38) rfl))) (mvT hZ (hw _ (List.mem_of_getElem? (i := 39) rfl))) (by decide) (mvT hZ (hw _ (List.mem_of_getElem? (i := 41) rfl))) (mvT hZ (hw _ (List.mem_of_getElem? (i := 40) rfl))) (backOf (W := 0) (rmOrd l Z a0 hw [] r0 (0 : Int32) h0 n0 Z0 P18) hZ (hw _ (List.mem_of_getElem? (i := 43) rfl)) (hw _ (List.mem_of_getElem? (i := 42) rfl)) (by decide) (by decide)) qa3 qc3 (g := (mkF m 4 #[.val (.ref a1), .val (.long q1), .second, .unset] [(.ref r0)])) rfl (by rw [hml]; rfl) (Steps.refl _) (argsL := []) (rest := []) (lenOf pd___I rfl) rfl (by show 2 * 0 + _ ≤ _; exact Nat.le_of_eq rfl) (hb hby d_prog_4_method_4_code_4) (fun _ _ => ⟨rfl, e2, (by decide : 0 + 0 ≤ _), (by decide : 0 + 0 ≤ _)⟩)
    dsimp only [Pt.U, Pt.locs, Pt.cells, Pt.slots] at X3 l3 y3 z3 st3 hQ3
    subst l3 y3 z3
    obtain ⟨rfl, Nq3, e3⟩ := hQ3
    have Nf3 := Fr.app Nf2 Nq3
    refine own_fw (A' := (T3.setTop (mkF m 7 #[.val (.ref a1), .val (.long q1), .second, .unset] [(.int (0 : Int32))]))) (fun t k => st3.trans k) ?_
    refine own_fw (A' := (T3.setTop (mkF m 8 #[.val (.ref a1), .val (.long q1), .second, .val (.int (0 : Int32))] []))) (fun t k => XS.istoreN X3.here hx rfl (hb hby d_prog_4_method_4_code_7) rfl (l' := #[.val (.ref a1), .val (.long q1), .second, .val (.int (0 : Int32))]) rfl k) ?_
    refine own_fw (A' := (T3.setTop (mkF m 9 #[.val (.ref a1), .val (.long q1), .second, .val (.int (0 : Int32))] [(.ref a1)]))) (fun t k => XS.aloadN X3.here hx rfl (hb hby d_prog_4_method_4_code_8) rfl rfl k) ?_
    obtain ⟨T4, X4, e4, st4⟩ := getF X3 hx hZ hown (host := "") (Or.inl (hw _ (List.mem_of_getElem? (i := 13) rfl))) Via.refl e3 P1 (g := (mkF m 9 #[.val (.ref a1), .val (.long q1), .second, .val (.int (0 : Int32))] [(.ref a1)])) rfl rfl (hb hby d_prog_4_method_4_code_9)
    refine own_fw (A' := (T4.setTop (mkF m 12 #[.val (.ref a1), .val (.long q1), .second, .val (.int (0 : Int32))] [(.ref c1)]))) (fun t k => st4 _ k) ?_
    refine own_fw (A' := (T4.setTop (mkF m 13 #[.val (.ref a1), .val (.long q1), .second, .val (.int (0 : Int32))] [(.int (0 : Int32)), (.ref c1)]))) (fun t k => XS.iloadN X4.here hx rfl (hb hby d_prog_4_method_4_code_12) rfl k) ?_
    refine own_fw (A' := (T4.setTop (mkF m 14 #[.val (.ref a1), .val (.long q1), .second, .val (.int (0 : Int32))] [(.int (0 : Int32)), (.ref c1), (.int (0 : Int32)), (.ref c1)]))) (fun t k => XT.dup2 X4.here hx rfl (hb hby d_prog_4_method_4_code_13) rfl rfl rfl k) ?_
    obtain ⟨cl5, Ar5, q5, S5, M5, H5, G5⟩ := id P3
    have hin5 : ¬ ((0 : Int32) < 0 ∨ cl5.slots.size ≤ ((0 : Int32)).toNatClampNeg) := inb_of S5 ⟨by decide, by decide⟩
    have hat5 : cl5.slots[((0 : Int32)).toNatClampNeg]? = some (.long x0) := H5.at hin5 rfl
    refine own_fw (A' := (T4.setTop (mkF m 15 #[.val (.ref a1), .val (.long q1), .second, .val (.int (0 : Int32))] [(.long x0), (.int (0 : Int32)), (.ref c1)]))) (fun t k => X4.laload hx (j := (0 : Int32)) (v := (.long x0)) (by rw [e4]; exact Ar5.1) (State.isArrayOf_alike hZ.alike Ar5.2.1) Ar5.2.2 hin5 hat5 (g := (mkF m 14 #[.val (.ref a1), .val (.long q1), .second, .val (.int (0 : Int32))] [(.int (0 : Int32)), (.ref c1), (.int (0 : Int32)), (.ref c1)])) rfl rfl (hb hby d_prog_4_method_4_code_14) _ k) ?_
    refine own_fw (A' := (T4.setTop (mkF m 16 #[.val (.ref a1), .val (.long q1), .second, .val (.int (0 : Int32))] [(.long (1 : Int64)), (.long x0), (.int (0 : Int32)), (.ref c1)]))) (fun t k => XS.lconst X4.here hx rfl (hb hby d_prog_4_method_4_code_15) k) ?_
    refine own_fw (A' := (T4.setTop (mkF m 17 #[.val (.ref a1), .val (.long q1), .second, .val (.int (0 : Int32))] [(.long (x0 + (1 : Int64))), (.int (0 : Int32)), (.ref c1)]))) (fun t k => XS.ladd X4.here hx rfl (hb hby d_prog_4_method_4_code_16) rfl k) ?_
    obtain ⟨cl6, Ar6, q6, S6, M6, H6, G6⟩ := id P3
    have hin6 : ¬ ((0 : Int32) < 0 ∨ cl6.slots.size ≤ ((0 : Int32)).toNatClampNeg) := inb_of S6 ⟨by decide, by decide⟩
    obtain ⟨T6, h6, X6, e6, W6, st6⟩ := stJ X4 hx hZ e4 Ar6 (j := (0 : Int32)) hin6 (g := (mkF m 17 #[.val (.ref a1), .val (.long q1), .second, .val (.int (0 : Int32))] [(.long (x0 + (1 : Int64))), (.int (0 : Int32)), (.ref c1)])) rfl rfl (hb hby d_prog_4_method_4_code_17)
    have V6 : Arv Z h6 c1 k1 .long (4 : Int32) [(.long (x0 + (1 : Int64))), (.long x1), (.long x2), (.long x3)] (.long (0 : Int64)) := Arv.set Ar6 q6 S6 M6 H6 G6 rfl W6 0 rfl (Nat.le_of_ble_eq_true rfl)
    have Nf6 := Fr.snoc X6 Nf3 g_c1
    have K6 : Keep h0 h6 [c1, c2] := (Keep.refl h0 [c1, c2]).wr W6 (Or.inl (List.mem_of_getElem? (i := 0) rfl))
    have Z6 : n0 ≤ h6.size := Nat.le_trans Z0 (Keep.of_wr W6).1
    refine own_fw (A' := (T6.setTop (mkF m 18 #[.val (.ref a1), .val (.long q1), .second, .val (.int (0 : Int32))] []))) (fun t k => st6 _ k) ?_
    refine own_fw (A' := (T6.setTop (mkF m 19 #[.val (.ref a1), .val (.long q1), .second, .val (.int (0 : Int32))] [(.ref a1)]))) (fun t k => XS.aloadN X6.here hx rfl (hb hby d_prog_4_method_4_code_18) rfl rfl k) ?_
    obtain ⟨T7, X7, e7, st7⟩ := getF X6 hx hZ hown (host := "") (Or.inl (hw _ (List.mem_of_getElem? (i := 15) rfl))) Via.refl e6 (P2.other W6 (Or.inl ne_a1_c1)) (g := (mkF m 19 #[.val (.ref a1), .val (.long q1), .second, .val (.int (0 : Int32))] [(.ref a1)])) rfl rfl (hb hby d_prog_4_method_4_code_19)
    refine own_fw (A' := (T7.setTop (mkF m 22 #[.val (.ref a1), .val (.long q1), .second, .val (.int (0 : Int32))] [(.ref c2)]))) (fun t k => st7 _ k) ?_
    refine own_fw (A' := (T7.setTop (mkF m 23 #[.val (.ref a1), .val (.long q1), .second, .val (.int (0 : Int32))] [(.int (0 : Int32)), (.ref c2)]))) (fun t k => XS.iloadN X7.here hx rfl (hb hby d_prog_4_method_4_code_22) rfl k) ?_
    refine own_fw (A' := (T7.setTop (mkF m 24 #[.val (.ref a1), .val (.long q1), .second, .val (.int (0 : Int32))] [(.int (0 : Int32)), (.ref c2), (.int (0 : Int32)), (.ref c2)]))) (fun t k => XT.dup2 X7.here hx rfl (hb hby d_prog_4_method_4_code_23) rfl rfl rfl k) ?_
    obtain ⟨cl8, Ar8, q8, S8, M8, H8, G8⟩ := id (P4.other W6 (Ne.symm ne_c1_c2))
    have hin8 : ¬ ((0 : Int32) < 0 ∨ cl8.slots.size ≤ ((0 : Int32)).toNatClampNeg) := inb_of S8 ⟨by decide, by decide⟩
    have hat8 : cl8.slots[((0 : Int32)).toNatClampNeg]? = some (.long y0) := H8.at hin8 rfl
    refine own_fw (A' := (T7.setTop (mkF m 25 #[.val (.ref a1), .val (.long q1), .second, .val (.int (0 : Int32))] [(.long y0), (.int (0 : Int32)), (.ref c2)]))) (fun t k => X7.laload hx (j := (0 : Int32)) (v := (.long y0)) (by rw [e7]; exact Ar8.1) (State.isArrayOf_alike hZ.alike Ar8.2.1) Ar8.2.2 hin8 hat8 (g := (mkF m 24 #[.val (.ref a1), .val (.long q1), .second, .val (.int (0 : Int32))] [(.int (0 : Int32)), (.ref c2), (.int (0 : Int32)), (.ref c2)])) rfl rfl (hb hby d_prog_4_method_4_code_24) _ k) ?_
    refine own_fw (A' := (T7.setTop (mkF m 26 #[.val (.ref a1), .val (.long q1), .second, .val (.int (0 : Int32))] [(.long q1), (.long y0), (.int (0 : Int32)), (.ref c2)]))) (fun t k => XS.lloadN X7.here hx rfl (hb hby d_prog_4_method_4_code_25) rfl k) ?_
    refine own_fw (A' := (T7.setTop (mkF m 27 #[.val (.ref a1), .val (.long q1), .second, .val (.int (0 : Int32))] [(.long (y0 + q1)), (.int (0 : Int32)), (.ref c2)]))) (fun t k => XS.ladd X7.here hx rfl (hb hby d_prog_4_method_4_code_26) rfl k) ?_
    obtain ⟨cl9, Ar9, q9, S9, M9, H9, G9⟩ := id (P4.other W6 (Ne.symm ne_c1_c2))
    have hin9 : ¬ ((0 : Int32) < 0 ∨ cl9.slots.size ≤ ((0 : Int32)).toNatClampNeg) := inb_of S9 ⟨by decide, by decide⟩
    obtain ⟨T9, h9, X9, e9, W9, st9⟩ := stJ X7 hx hZ e7 Ar9 (j := (0 : Int32)) hin9 (g := (mkF m 27 #[.val (.ref a1), .val (.long q1), .second, .val (.int (0 : Int32))] [(.long (y0 + q1)), (.int (0 : Int32)), (.ref c2)])) rfl rfl (hb hby d_prog_4_method_4_code_27)
    have V9 : Arv Z h9 c2 k2 .long (4 : Int32) [(.long (y0 + q1)), (.long y1), (.long y2), (.long y3)] (.long (0 : Int64)) := Arv.set Ar9 q9 S9 M9 H9 G9 rfl W9 0 rfl (Nat.le_of_ble_eq_true rfl)
    have Nf9 := Fr.snoc X9 Nf6 g_c2
    have K9 : Keep h0 h9 [c1, c2] := K6.wr W9 (Or.inl (List.mem_of_getElem? (i := 1) rfl))
    have Z9 : n0 ≤ h9.size := Nat.le_trans Z6 (Keep.of_wr W9).1
    refine own_fw (A' := (T9.setTop (mkF m 28 #[.val (.ref a1), .val (.long q1), .second, .val (.int (0 : Int32))] []))) (fun t k => st9 _ k) ?_
    obtain ⟨fs, hr, hrun, hended, hW, hsame⟩ := X9.leave (v := none) (fun _ => rfl)
    refine ⟨_, _, ?_, hrun, hended, _, _, rfl, ?_, ⟨_, rfl⟩, hW, hsame.mono (by decide) (by decide)⟩
    · exact X9.returnOut hx Bd.returns (hb hby d_prog_4_method_4_code_28) hr
    · show Q_rmAdd Z a1 q1 c1 c2 k1 k2 x0 x1 x2 x3 y0 y1 y2 y3 ba kb r0 r1 r2 r3 h0 n0 _ T9.heap _
      rw [e9]
      exact ⟨(x0 + (1 : Int64)), x1, x2, x3, (y0 + q1), y1, y2, y3, rfl, Nf9, K9, (V6.other W9 ne_c1_c2), V9⟩
  · by_cases hc10 : q1 < (250 : Int64)
    · refine own_fw (A' := (s₁.setTop (mkF m 1 #[.val (.ref a1), .val (.long q1), .second, .unset] [(.long q1)]))) (fun t k => XS.lloadN X0.here hx rfl (hb hby d_prog_4_method_4_code_0) rfl k) ?_
      obtain ⟨_, _, ⟨T11, L11, k11, n11⟩, -, X11, ⟨Lc11, hQ11, l11, y11, z11⟩, st11⟩ := Jvm.LawKit.callS X0 hx (y := (⟨"com/example/spindle/spindle/DispatchTimes$Band", "of", "(J)Lcom/example/spindle/spindle/DispatchTimes$Band;"⟩ : MethodName)) hown (mvT hZ (hw _ (List.mem_of_getElem? (i := 27) rfl))) (mvT hZ (hw _ (List.mem_of_getElem? (i := 28) rfl))) (mvT hZ (hw _ (List.mem_of_getElem? (i := 10) rfl))) (mvT hZ (hw _ (List.mem_of_getElem? (i := 29) rfl))) (by decide) (backOf (W := 0) (rmOf1 l Z a0 hw [] q1 ba kb r0 r1 r2 r3 h0 n0 Z0 P8 P9 P10 P11 P12 P13 P14 P15 P16 P17 (own_lt q1 _ _ hc10 (by decide)) hc10 hc1) hZ (hw _ (List.mem_of_getElem? (i := 29) rfl)) (hw _ (List.mem_of_getElem? (i := 10) rfl)) (by decide) (by decide)) (g := (mkF m 1 #[.val (.ref a1), .val (.long q1), .second, .unset] [(.long q1)])) rfl (by rw [hml]; rfl) (argsL := [(.long q1)]) (rest := []) (lenOf pd__J_Lcom_example_spindle_spindle_DispatchTimes_Band_ rfl) rfl (by show 2 * 0 + _ ≤ _; exact Nat.le_of_eq rfl) (hb hby d_prog_4_method_4_code_1) (fun _ _ => ⟨rfl, e0, (by decide : 0 + 0 ≤ _), (by decide : 0 + 0 ≤ _)⟩)
      dsimp only [Pt.U, Pt.locs, Pt.cells, Pt.slots] at X11 l11 y11 z11 st11 hQ11
      subst l11 y11 z11
      obtain ⟨rfl, Nq11, e11⟩ := hQ11
      have Nf11 := Fr.app N0 Nq11
      refine own_fw (A' := (T11.setTop (mkF m 4 #[.val (.ref a1), .val (.long q1), .second, .unset] [(.ref r1)]))) (fun t k => st11 _ k) ?_
      obtain ⟨cq12, kq12, qa12, qb12, qc12⟩ := isOf hZ e11 P12
      obtain ⟨_, _, ⟨T12, L12, k12, n12⟩, -, X12, ⟨Lc12, hQ12, l12, y12, z12⟩, st12⟩ := X11.virtualBackUp hx (x := (⟨"com/example/spindle/spindle/DispatchTimes$Band", "ordinal", "()I"⟩ : MethodName)) (y := (⟨"java/lang/Enum", "ordinal", "()I"⟩ : MethodName)) hown (mvT hZ (hw _ (List.mem_of_getElem? (i := 37) rfl))) (mvT hZ (hw _ (List.mem_of_getElem? (i := 38) rfl))) (mvT hZ (hw _ (List.mem_of_getElem? (i := 39) rfl))) (by decide) (mvT hZ (hw _ (List.mem_of_getElem? (i := 41) rfl))) (mvT hZ (hw _ (List.mem_of_getElem? (i := 40) rfl))) (backOf (W := 0) (rmOrd l Z a0 hw [] r1 (1 : Int32) h0 n0 Z0 P19) hZ (hw _ (List.mem_of_getElem? (i := 43) rfl)) (hw _ (List.mem_of_getElem? (i := 42) rfl)) (by decide) (by decide)) qa12 qc12 (g := (mkF m 4 #[.val (.ref a1), .val (.long q1), .second, .unset] [(.ref r1)])) rfl (by rw [hml]; rfl) (Steps.refl _) (argsL := []) (rest := []) (lenOf pd___I rfl) rfl (by show 2 * 0 + _ ≤ _; exact Nat.le_of_eq rfl) (hb hby d_prog_4_method_4_code_4) (fun _ _ => ⟨rfl, e11, (by decide : 0 + 0 ≤ _), (by decide : 0 + 0 ≤ _)⟩)
      dsimp only [Pt.U, Pt.locs, Pt.cells, Pt.slots] at X12 l12 y12 z12 st12 hQ12
      subst l12 y12 z12
      obtain ⟨rfl, Nq12, e12⟩ := hQ12
      have Nf12 := Fr.app Nf11 Nq12
      refine own_fw (A' := (T12.setTop (mkF m 7 #[.val (.ref a1), .val (.long q1), .second, .unset] [(.int (1 : Int32))]))) (fun t k => st12.trans k) ?_
      refine own_fw (A' := (T12.setTop (mkF m 8 #[.val (.ref a1), .val (.long q1), .second, .val (.int (1 : Int32))] []))) (fun t k => XS.istoreN X12.here hx rfl (hb hby d_prog_4_method_4_code_7) rfl (l' := #[.val (.ref a1), .val (.long q1), .second, .val (.int (1 : Int32))]) rfl k) ?_
      refine own_fw (A' := (T12.setTop (mkF m 9 #[.val (.ref a1), .val (.long q1), .second, .val (.int (1 : Int32))] [(.ref a1)]))) (fun t k => XS.aloadN X12.here hx rfl (hb hby d_prog_4_method_4_code_8) rfl rfl k) ?_
      obtain ⟨T13, X13, e13, st13⟩ := getF X12 hx hZ hown (host := "") (Or.inl (hw _ (List.mem_of_getElem? (i := 13) rfl))) Via.refl e12 P1 (g := (mkF m 9 #[.val (.ref a1), .val (.long q1), .second, .val (.int (1 : Int32))] [(.ref a1)])) rfl rfl (hb hby d_prog_4_method_4_code_9)
      refine own_fw (A' := (T13.setTop (mkF m 12 #[.val (.ref a1), .val (.long q1), .second, .val (.int (1 : Int32))] [(.ref c1)]))) (fun t k => st13 _ k) ?_
      refine own_fw (A' := (T13.setTop (mkF m 13 #[.val (.ref a1), .val (.long q1), .second, .val (.int (1 : Int32))] [(.int (1 : Int32)), (.ref c1)]))) (fun t k => XS.iloadN X13.here hx rfl (hb hby d_prog_4_method_4_code_12) rfl k) ?_
      refine own_fw (A' := (T13.setTop (mkF m 14 #[.val (.ref a1), .val (.long q1), .second, .val (.int (1 : Int32))] [(.int (1 : Int32)), (.ref c1), (.int (1 : Int32)), (.ref c1)]))) (fun t k => XT.dup2 X13.here hx rfl (hb hby d_prog_4_method_4_code_13) rfl rfl rfl k) ?_
      obtain ⟨cl14, Ar14, q14, S14, M14, H14, G14⟩ := id P3
      have hin14 : ¬ ((1 : Int32) < 0 ∨ cl14.slots.size ≤ ((1 : Int32)).toNatClampNeg) := inb_of S14 ⟨by decide, by decide⟩
      have hat14 : cl14.slots[((1 : Int32)).toNatClampNeg]? = some (.long x1) := H14.at hin14 rfl
      refine own_fw (A' := (T13.setTop (mkF m 15 #[.val (.ref a1), .val (.long q1), .second, .val (.int (1 : Int32))] [(.long x1), (.int (1 : Int32)), (.ref c1)]))) (fun t k => X13.laload hx (j := (1 : Int32)) (v := (.long x1)) (by rw [e13]; exact Ar14.1) (State.isArrayOf_alike hZ.alike Ar14.2.1) Ar14.2.2 hin14 hat14 (g := (mkF m 14 #[.val (.ref a1), .val (.long q1), .second, .val (.int (1 : Int32))] [(.int (1 : Int32)), (.ref c1), (.int (1 : Int32)), (.ref c1)])) rfl rfl (hb hby d_prog_4_method_4_code_14) _ k) ?_
      refine own_fw (A' := (T13.setTop (mkF m 16 #[.val (.ref a1), .val (.long q1), .second, .val (.int (1 : Int32))] [(.long (1 : Int64)), (.long x1), (.int (1 : Int32)), (.ref c1)]))) (fun t k => XS.lconst X13.here hx rfl (hb hby d_prog_4_method_4_code_15) k) ?_
      refine own_fw (A' := (T13.setTop (mkF m 17 #[.val (.ref a1), .val (.long q1), .second, .val (.int (1 : Int32))] [(.long (x1 + (1 : Int64))), (.int (1 : Int32)), (.ref c1)]))) (fun t k => XS.ladd X13.here hx rfl (hb hby d_prog_4_method_4_code_16) rfl k) ?_
      obtain ⟨cl15, Ar15, q15, S15, M15, H15, G15⟩ := id P3
      have hin15 : ¬ ((1 : Int32) < 0 ∨ cl15.slots.size ≤ ((1 : Int32)).toNatClampNeg) := inb_of S15 ⟨by decide, by decide⟩
      obtain ⟨T15, h15, X15, e15, W15, st15⟩ := stJ X13 hx hZ e13 Ar15 (j := (1 : Int32)) hin15 (g := (mkF m 17 #[.val (.ref a1), .val (.long q1), .second, .val (.int (1 : Int32))] [(.long (x1 + (1 : Int64))), (.int (1 : Int32)), (.ref c1)])) rfl rfl (hb hby d_prog_4_method_4_code_17)
      have V15 : Arv Z h15 c1 k1 .long (4 : Int32) [(.long x0), (.long (x1 + (1 : Int64))), (.long x2), (.long x3)] (.long (0 : Int64)) := Arv.set Ar15 q15 S15 M15 H15 G15 rfl W15 1 rfl (Nat.le_of_ble_eq_true rfl)
      have Nf15 := Fr.snoc X15 Nf12 g_c1
      have K15 : Keep h0 h15 [c1, c2] := (Keep.refl h0 [c1, c2]).wr W15 (Or.inl (List.mem_of_getElem? (i := 0) rfl))
      have Z15 : n0 ≤ h15.size := Nat.le_trans Z0 (Keep.of_wr W15).1
      refine own_fw (A' := (T15.setTop (mkF m 18 #[.val (.ref a1), .val (.long q1), .second, .val (.int (1 : Int32))] []))) (fun t k => st15 _ k) ?_
      refine own_fw (A' := (T15.setTop (mkF m 19 #[.val (.ref a1), .val (.long q1), .second, .val (.int (1 : Int32))] [(.ref a1)]))) (fun t k => XS.aloadN X15.here hx rfl (hb hby d_prog_4_method_4_code_18) rfl rfl k) ?_
      obtain ⟨T16, X16, e16, st16⟩ := getF X15 hx hZ hown (host := "") (Or.inl (hw _ (List.mem_of_getElem? (i := 15) rfl))) Via.refl e15 (P2.other W15 (Or.inl ne_a1_c1)) (g := (mkF m 19 #[.val (.ref a1), .val (.long q1), .second, .val (.int (1 : Int32))] [(.ref a1)])) rfl rfl (hb hby d_prog_4_method_4_code_19)
      refine own_fw (A' := (T16.setTop (mkF m 22 #[.val (.ref a1), .val (.long q1), .second, .val (.int (1 : Int32))] [(.ref c2)]))) (fun t k => st16 _ k) ?_
      refine own_fw (A' := (T16.setTop (mkF m 23 #[.val (.ref a1), .val (.long q1), .second, .val (.int (1 : Int32))] [(.int (1 : Int32)), (.ref c2)]))) (fun t k => XS.iloadN X16.here hx rfl (hb hby d_prog_4_method_4_code_22) rfl k) ?_
      refine own_fw (A' := (T16.setTop (mkF m 24 #[.val (.ref a1), .val (.long q1), .second, .val (.int (1 : Int32))] [(.int (1 : Int32)), (.ref c2), (.int (1 : Int32)), (.ref c2)]))) (fun t k => XT.dup2 X16.here hx rfl (hb hby d_prog_4_method_4_code_23) rfl rfl rfl k) ?_
      obtain ⟨cl17, Ar17, q17, S17, M17, H17, G17⟩ := id (P4.other W15 (Ne.symm ne_c1_c2))
      have hin17 : ¬ ((1 : Int32) < 0 ∨ cl17.slots.size ≤ ((1 : Int32)).toNatClampNeg) := inb_of S17 ⟨by decide, by decide⟩
      have hat17 : cl17.slots[((1 : Int32)).toNatClampNeg]? = some (.long y1) := H17.at hin17 rfl
      refine own_fw (A' := (T16.setTop (mkF m 25 #[.val (.ref a1), .val (.long q1), .second, .val (.int (1 : Int32))] [(.long y1), (.int (1 : Int32)), (.ref c2)]))) (fun t k => X16.laload hx (j := (1 : Int32)) (v := (.long y1)) (by rw [e16]; exact Ar17.1) (State.isArrayOf_alike hZ.alike Ar17.2.1) Ar17.2.2 hin17 hat17 (g := (mkF m 24 #[.val (.ref a1), .val (.long q1), .second, .val (.int (1 : Int32))] [(.int (1 : Int32)), (.ref c2), (.int (1 : Int32)), (.ref c2)])) rfl rfl (hb hby d_prog_4_method_4_code_24) _ k) ?_
      refine own_fw (A' := (T16.setTop (mkF m 26 #[.val (.ref a1), .val (.long q1), .second, .val (.int (1 : Int32))] [(.long q1), (.long y1), (.int (1 : Int32)), (.ref c2)]))) (fun t k => XS.lloadN X16.here hx rfl (hb hby d_prog_4_method_4_code_25) rfl k) ?_
      refine own_fw (A' := (T16.setTop (mkF m 27 #[.val (.ref a1), .val (.long q1), .second, .val (.int (1 : Int32))] [(.long (y1 + q1)), (.int (1 : Int32)), (.ref c2)]))) (fun t k => XS.ladd X16.here hx rfl (hb hby d_prog_4_method_4_code_26) rfl k) ?_
      obtain ⟨cl18, Ar18, q18, S18, M18, H18, G18⟩ := id (P4.other W15 (Ne.symm ne_c1_c2))
      have hin18 : ¬ ((1 : Int32) < 0 ∨ cl18.slots.size ≤ ((1 : Int32)).toNatClampNeg) := inb_of S18 ⟨by decide, by decide⟩
      obtain ⟨T18, h18, X18, e18, W18, st18⟩ := stJ X16 hx hZ e16 Ar18 (j := (1 : Int32)) hin18 (g := (mkF m 27 #[.val (.ref a1), .val (.long q1), .second, .val (.int (1 : Int32))] [(.long (y1 + q1)), (.int (1 : Int32)), (.ref c2)])) rfl rfl (hb hby d_prog_4_method_4_code_27)
      have V18 : Arv Z h18 c2 k2 .long (4 : Int32) [(.long y0), (.long (y1 + q1)), (.long y2), (.long y3)] (.long (0 : Int64)) := Arv.set Ar18 q18 S18 M18 H18 G18 rfl W18 1 rfl (Nat.le_of_ble_eq_true rfl)
      have Nf18 := Fr.snoc X18 Nf15 g_c2
      have K18 : Keep h0 h18 [c1, c2] := K15.wr W18 (Or.inl (List.mem_of_getElem? (i := 1) rfl))
      have Z18 : n0 ≤ h18.size := Nat.le_trans Z15 (Keep.of_wr W18).1
      refine own_fw (A' := (T18.setTop (mkF m 28 #[.val (.ref a1), .val (.long q1), .second, .val (.int (1 : Int32))] []))) (fun t k => st18 _ k) ?_
      obtain ⟨fs, hr, hrun, hended, hW, hsame⟩ := X18.leave (v := none) (fun _ => rfl)
      refine ⟨_, _, ?_, hrun, hended, _, _, rfl, ?_, ⟨_, rfl⟩, hW, hsame.mono (by decide) (by decide)⟩
      · exact X18.returnOut hx Bd.returns (hb hby d_prog_4_method_4_code_28) hr
      · show Q_rmAdd Z a1 q1 c1 c2 k1 k2 x0 x1 x2 x3 y0 y1 y2 y3 ba kb r0 r1 r2 r3 h0 n0 _ T18.heap _
        rw [e18]
        exact ⟨x0, (x1 + (1 : Int64)), x2, x3, y0, (y1 + q1), y2, y3, rfl, Nf18, K18, (V15.other W18 ne_c1_c2), V18⟩
    · by_cases hc19 : q1 < (1000 : Int64)
      · refine own_fw (A' := (s₁.setTop (mkF m 1 #[.val (.ref a1), .val (.long q1), .second, .unset] [(.long q1)]))) (fun t k => XS.lloadN X0.here hx rfl (hb hby d_prog_4_method_4_code_0) rfl k) ?_
        obtain ⟨_, _, ⟨T20, L20, k20, n20⟩, -, X20, ⟨Lc20, hQ20, l20, y20, z20⟩, st20⟩ := Jvm.LawKit.callS X0 hx (y := (⟨"com/example/spindle/spindle/DispatchTimes$Band", "of", "(J)Lcom/example/spindle/spindle/DispatchTimes$Band;"⟩ : MethodName)) hown (mvT hZ (hw _ (List.mem_of_getElem? (i := 27) rfl))) (mvT hZ (hw _ (List.mem_of_getElem? (i := 28) rfl))) (mvT hZ (hw _ (List.mem_of_getElem? (i := 10) rfl))) (mvT hZ (hw _ (List.mem_of_getElem? (i := 29) rfl))) (by decide) (backOf (W := 0) (rmOf2 l Z a0 hw [] q1 ba kb r0 r1 r2 r3 h0 n0 Z0 P8 P9 P10 P11 P12 P13 P14 P15 P16 P17 hc19 hc10) hZ (hw _ (List.mem_of_getElem? (i := 29) rfl)) (hw _ (List.mem_of_getElem? (i := 10) rfl)) (by decide) (by decide)) (g := (mkF m 1 #[.val (.ref a1), .val (.long q1), .second, .unset] [(.long q1)])) rfl (by rw [hml]; rfl) (argsL := [(.long q1)]) (rest := []) (lenOf pd__J_Lcom_example_spindle_spindle_DispatchTimes_Band_ rfl) rfl (by show 2 * 0 + _ ≤ _; exact Nat.le_of_eq rfl) (hb hby d_prog_4_method_4_code_1) (fun _ _ => ⟨rfl, e0, (by decide : 0 + 0 ≤ _), (by decide : 0 + 0 ≤ _)⟩)
        dsimp only [Pt.U, Pt.locs, Pt.cells, Pt.slots] at X20 l20 y20 z20 st20 hQ20
        subst l20 y20 z20
        obtain ⟨rfl, Nq20, e20⟩ := hQ20
        have Nf20 := Fr.app N0 Nq20
        refine own_fw (A' := (T20.setTop (mkF m 4 #[.val (.ref a1), .val (.long q1), .second, .unset] [(.ref r2)]))) (fun t k => st20 _ k) ?_
        obtain ⟨cq21, kq21, qa21, qb21, qc21⟩ := isOf hZ e20 P14
        obtain ⟨_, _, ⟨T21, L21, k21, n21⟩, -, X21, ⟨Lc21, hQ21, l21, y21, z21⟩, st21⟩ := X20.virtualBackUp hx (x := (⟨"com/example/spindle/spindle/DispatchTimes$Band", "ordinal", "()I"⟩ : MethodName)) (y := (⟨"java/lang/Enum", "ordinal", "()I"⟩ : MethodName)) hown (mvT hZ (hw _ (List.mem_of_getElem? (i := 37) rfl))) (mvT hZ (hw _ (List.mem_of_getElem? (i := 38) rfl))) (mvT hZ (hw _ (List.mem_of_getElem? (i := 39) rfl))) (by decide) (mvT hZ (hw _ (List.mem_of_getElem? (i := 41) rfl))) (mvT hZ (hw _ (List.mem_of_getElem? (i := 40) rfl))) (backOf (W := 0) (rmOrd l Z a0 hw [] r2 (2 : Int32) h0 n0 Z0 P20) hZ (hw _ (List.mem_of_getElem? (i := 43) rfl)) (hw _ (List.mem_of_getElem? (i := 42) rfl)) (by decide) (by decide)) qa21 qc21 (g := (mkF m 4 #[.val (.ref a1), .val (.long q1), .second, .unset] [(.ref r2)])) rfl (by rw [hml]; rfl) (Steps.refl _) (argsL := []) (rest := []) (lenOf pd___I rfl) rfl (by show 2 * 0 + _ ≤ _; exact Nat.le_of_eq rfl) (hb hby d_prog_4_method_4_code_4) (fun _ _ => ⟨rfl, e20, (by decide : 0 + 0 ≤ _), (by decide : 0 + 0 ≤ _)⟩)
        dsimp only [Pt.U, Pt.locs, Pt.cells, Pt.slots] at X21 l21 y21 z21 st21 hQ21
        subst l21 y21 z21
        obtain ⟨rfl, Nq21, e21⟩ := hQ21
        have Nf21 := Fr.app Nf20 Nq21
        refine own_fw (A' := (T21.setTop (mkF m 7 #[.val (.ref a1), .val (.long q1), .second, .unset] [(.int (2 : Int32))]))) (fun t k => st21.trans k) ?_
        refine own_fw (A' := (T21.setTop (mkF m 8 #[.val (.ref a1), .val (.long q1), .second, .val (.int (2 : Int32))] []))) (fun t k => XS.istoreN X21.here hx rfl (hb hby d_prog_4_method_4_code_7) rfl (l' := #[.val (.ref a1), .val (.long q1), .second, .val (.int (2 : Int32))]) rfl k) ?_
        refine own_fw (A' := (T21.setTop (mkF m 9 #[.val (.ref a1), .val (.long q1), .second, .val (.int (2 : Int32))] [(.ref a1)]))) (fun t k => XS.aloadN X21.here hx rfl (hb hby d_prog_4_method_4_code_8) rfl rfl k) ?_
        obtain ⟨T22, X22, e22, st22⟩ := getF X21 hx hZ hown (host := "") (Or.inl (hw _ (List.mem_of_getElem? (i := 13) rfl))) Via.refl e21 P1 (g := (mkF m 9 #[.val (.ref a1), .val (.long q1), .second, .val (.int (2 : Int32))] [(.ref a1)])) rfl rfl (hb hby d_prog_4_method_4_code_9)
        refine own_fw (A' := (T22.setTop (mkF m 12 #[.val (.ref a1), .val (.long q1), .second, .val (.int (2 : Int32))] [(.ref c1)]))) (fun t k => st22 _ k) ?_
        refine own_fw (A' := (T22.setTop (mkF m 13 #[.val (.ref a1), .val (.long q1), .second, .val (.int (2 : Int32))] [(.int (2 : Int32)), (.ref c1)]))) (fun t k => XS.iloadN X22.here hx rfl (hb hby d_prog_4_method_4_code_12) rfl k) ?_
        refine own_fw (A' := (T22.setTop (mkF m 14 #[.val (.ref a1), .val (.long q1), .second, .val (.int (2 : Int32))] [(.int (2 : Int32)), (.ref c1), (.int (2 : Int32)), (.ref c1)]))) (fun t k => XT.dup2 X22.here hx rfl (hb hby d_prog_4_method_4_code_13) rfl rfl rfl k) ?_
        obtain ⟨cl23, Ar23, q23, S23, M23, H23, G23⟩ := id P3
        have hin23 : ¬ ((2 : Int32) < 0 ∨ cl23.slots.size ≤ ((2 : Int32)).toNatClampNeg) := inb_of S23 ⟨by decide, by decide⟩
        have hat23 : cl23.slots[((2 : Int32)).toNatClampNeg]? = some (.long x2) := H23.at hin23 rfl
        refine own_fw (A' := (T22.setTop (mkF m 15 #[.val (.ref a1), .val (.long q1), .second, .val (.int (2 : Int32))] [(.long x2), (.int (2 : Int32)), (.ref c1)]))) (fun t k => X22.laload hx (j := (2 : Int32)) (v := (.long x2)) (by rw [e22]; exact Ar23.1) (State.isArrayOf_alike hZ.alike Ar23.2.1) Ar23.2.2 hin23 hat23 (g := (mkF m 14 #[.val (.ref a1), .val (.long q1), .second, .val (.int (2 : Int32))] [(.int (2 : Int32)), (.ref c1), (.int (2 : Int32)), (.ref c1)])) rfl rfl (hb hby d_prog_4_method_4_code_14) _ k) ?_
        refine own_fw (A' := (T22.setTop (mkF m 16 #[.val (.ref a1), .val (.long q1), .second, .val (.int (2 : Int32))] [(.long (1 : Int64)), (.long x2), (.int (2 : Int32)), (.ref c1)]))) (fun t k => XS.lconst X22.here hx rfl (hb hby d_prog_4_method_4_code_15) k) ?_
        refine own_fw (A' := (T22.setTop (mkF m 17 #[.val (.ref a1), .val (.long q1), .second, .val (.int (2 : Int32))] [(.long (x2 + (1 : Int64))), (.int (2 : Int32)), (.ref c1)]))) (fun t k => XS.ladd X22.here hx rfl (hb hby d_prog_4_method_4_code_16) rfl k) ?_
        obtain ⟨cl24, Ar24, q24, S24, M24, H24, G24⟩ := id P3
        have hin24 : ¬ ((2 : Int32) < 0 ∨ cl24.slots.size ≤ ((2 : Int32)).toNatClampNeg) := inb_of S24 ⟨by decide, by decide⟩
        obtain ⟨T24, h24, X24, e24, W24, st24⟩ := stJ X22 hx hZ e22 Ar24 (j := (2 : Int32)) hin24 (g := (mkF m 17 #[.val (.ref a1), .val (.long q1), .second, .val (.int (2 : Int32))] [(.long (x2 + (1 : Int64))), (.int (2 : Int32)), (.ref c1)])) rfl rfl (hb hby d_prog_4_method_4_code_17)
        have V24 : Arv Z h24 c1 k1 .long (4 : Int32) [(.long x0), (.long x1), (.long (x2 + (1 : Int64))), (.long x3)] (.long (0 : Int64)) := Arv.set Ar24 q24 S24 M24 H24 G24 rfl W24 2 rfl (Nat.le_of_ble_eq_true rfl)
        have Nf24 := Fr.snoc X24 Nf21 g_c1
        have K24 : Keep h0 h24 [c1, c2] := (Keep.refl h0 [c1, c2]).wr W24 (Or.inl (List.mem_of_getElem? (i := 0) rfl))
        have Z24 : n0 ≤ h24.size := Nat.le_trans Z0 (Keep.of_wr W24).1
        refine own_fw (A' := (T24.setTop (mkF m 18 #[.val (.ref a1), .val (.long q1), .second, .val (.int (2 : Int32))] []))) (fun t k => st24 _ k) ?_
        refine own_fw (A' := (T24.setTop (mkF m 19 #[.val (.ref a1), .val (.long q1), .second, .val (.int (2 : Int32))] [(.ref a1)]))) (fun t k => XS.aloadN X24.here hx rfl (hb hby d_prog_4_method_4_code_18) rfl rfl k) ?_
        obtain ⟨T25, X25, e25, st25⟩ := getF X24 hx hZ hown (host := "") (Or.inl (hw _ (List.mem_of_getElem? (i := 15) rfl))) Via.refl e24 (P2.other W24 (Or.inl ne_a1_c1)) (g := (mkF m 19 #[.val (.ref a1), .val (.long q1), .second, .val (.int (2 : Int32))] [(.ref a1)])) rfl rfl (hb hby d_prog_4_method_4_code_19)
        refine own_fw (A' := (T25.setTop (mkF m 22 #[.val (.ref a1), .val (.long q1), .second, .val (.int (2 : Int32))] [(.ref c2)]))) (fun t k => st25 _ k) ?_
        refine own_fw (A' := (T25.setTop (mkF m 23 #[.val (.ref a1), .val (.long q1), .second, .val (.int (2 : Int32))] [(.int (2 : Int32)), (.ref c2)]))) (fun t k => XS.iloadN X25.here hx rfl (hb hby d_prog_4_method_4_code_22) rfl k) ?_
        refine own_fw (A' := (T25.setTop (mkF m 24 #[.val (.ref a1), .val (.long q1), .second, .val (.int (2 : Int32))] [(.int (2 : Int32)), (.ref c2), (.int (2 : Int32)), (.ref c2)]))) (fun t k => XT.dup2 X25.here hx rfl (hb hby d_prog_4_method_4_code_23) rfl rfl rfl k) ?_
        obtain ⟨cl26, Ar26, q26, S26, M26, H26, G26⟩ := id (P4.other W24 (Ne.symm ne_c1_c2))
        have hin26 : ¬ ((2 : Int32) < 0 ∨ cl26.slots.size ≤ ((2 : Int32)).toNatClampNeg) := inb_of S26 ⟨by decide, by decide⟩
        have hat26 : cl26.slots[((2 : Int32)).toNatClampNeg]? = some (.long y2) := H26.at hin26 rfl
        refine own_fw (A' := (T25.setTop (mkF m 25 #[.val (.ref a1), .val (.long q1), .second, .val (.int (2 : Int32))] [(.long y2), (.int (2 : Int32)), (.ref c2)]))) (fun t k => X25.laload hx (j := (2 : Int32)) (v := (.long y2)) (by rw [e25]; exact Ar26.1) (State.isArrayOf_alike hZ.alike Ar26.2.1) Ar26.2.2 hin26 hat26 (g := (mkF m 24 #[.val (.ref a1), .val (.long q1), .second, .val (.int (2 : Int32))] [(.int (2 : Int32)), (.ref c2), (.int (2 : Int32)), (.ref c2)])) rfl rfl (hb hby d_prog_4_method_4_code_24) _ k) ?_
        refine own_fw (A' := (T25.setTop (mkF m 26 #[.val (.ref a1), .val (.long q1), .second, .val (.int (2 : Int32))] [(.long q1), (.long y2), (.int (2 : Int32)), (.ref c2)]))) (fun t k => XS.lloadN X25.here hx rfl (hb hby d_prog_4_method_4_code_25) rfl k) ?_
        refine own_fw (A' := (T25.setTop (mkF m 27 #[.val (.ref a1), .val (.long q1), .second, .val (.int (2 : Int32))] [(.long (y2 + q1)), (.int (2 : Int32)), (.ref c2)]))) (fun t k => XS.ladd X25.here hx rfl (hb hby d_prog_4_method_4_code_26) rfl k) ?_
        obtain ⟨cl27, Ar27, q27, S27, M27, H27, G27⟩ := id (P4.other W24 (Ne.symm ne_c1_c2))
        have hin27 : ¬ ((2 : Int32) < 0 ∨ cl27.slots.size ≤ ((2 : Int32)).toNatClampNeg) := inb_of S27 ⟨by decide, by decide⟩
        obtain ⟨T27, h27, X27, e27, W27, st27⟩ := stJ X25 hx hZ e25 Ar27 (j := (2 : Int32)) hin27 (g := (mkF m 27 #[.val (.ref a1), .val (.long q1), .second, .val (.int (2 : Int32))] [(.long (y2 + q1)), (.int (2 : Int32)), (.ref c2)])) rfl rfl (hb hby d_prog_4_method_4_code_27)
        have V27 : Arv Z h27 c2 k2 .long (4 : Int32) [(.long y0), (.long y1), (.long (y2 + q1)), (.long y3)] (.long (0 : Int64)) := Arv.set Ar27 q27 S27 M27 H27 G27 rfl W27 2 rfl (Nat.le_of_ble_eq_true rfl)
        have Nf27 := Fr.snoc X27 Nf24 g_c2
        have K27 : Keep h0 h27 [c1, c2] := K24.wr W27 (Or.inl (List.mem_of_getElem? (i := 1) rfl))
        have Z27 : n0 ≤ h27.size := Nat.le_trans Z24 (Keep.of_wr W27).1
        refine own_fw (A' := (T27.setTop (mkF m 28 #[.val (.ref a1), .val (.long q1), .second, .val (.int (2 : Int32))] []))) (fun t k => st27 _ k) ?_
        obtain ⟨fs, hr, hrun, hended, hW, hsame⟩ := X27.leave (v := none) (fun _ => rfl)
        refine ⟨_, _, ?_, hrun, hended, _, _, rfl, ?_, ⟨_, rfl⟩, hW, hsame.mono (by decide) (by decide)⟩
        · exact X27.returnOut hx Bd.returns (hb hby d_prog_4_method_4_code_28) hr
        · show Q_rmAdd Z a1 q1 c1 c2 k1 k2 x0 x1 x2 x3 y0 y1 y2 y3 ba kb r0 r1 r2 r3 h0 n0 _ T27.heap _
          rw [e27]
          exact ⟨x0, x1, (x2 + (1 : Int64)), x3, y0, y1, (y2 + q1), y3, rfl, Nf27, K27, (V24.other W27 ne_c1_c2), V27⟩
      · refine own_fw (A' := (s₁.setTop (mkF m 1 #[.val (.ref a1), .val (.long q1), .second, .unset] [(.long q1)]))) (fun t k => XS.lloadN X0.here hx rfl (hb hby d_prog_4_method_4_code_0) rfl k) ?_
        obtain ⟨_, _, ⟨T28, L28, k28, n28⟩, -, X28, ⟨Lc28, hQ28, l28, y28, z28⟩, st28⟩ := Jvm.LawKit.callS X0 hx (y := (⟨"com/example/spindle/spindle/DispatchTimes$Band", "of", "(J)Lcom/example/spindle/spindle/DispatchTimes$Band;"⟩ : MethodName)) hown (mvT hZ (hw _ (List.mem_of_getElem? (i := 27) rfl))) (mvT hZ (hw _ (List.mem_of_getElem? (i := 28) rfl))) (mvT hZ (hw _ (List.mem_of_getElem? (i := 10) rfl))) (mvT hZ (hw _ (List.mem_of_getElem? (i := 29) rfl))) (by decide) (backOf (W := 0) (rmOf3 l Z a0 hw [] q1 ba kb r0 r1 r2 r3 h0 n0 Z0 P8 P9 P10 P11 P12 P13 P14 P15 P16 P17 hc19) hZ (hw _ (List.mem_of_getElem? (i := 29) rfl)) (hw _ (List.mem_of_getElem? (i := 10) rfl)) (by decide) (by decide)) (g := (mkF m 1 #[.val (.ref a1), .val (.long q1), .second, .unset] [(.long q1)])) rfl (by rw [hml]; rfl) (argsL := [(.long q1)]) (rest := []) (lenOf pd__J_Lcom_example_spindle_spindle_DispatchTimes_Band_ rfl) rfl (by show 2 * 0 + _ ≤ _; exact Nat.le_of_eq rfl) (hb hby d_prog_4_method_4_code_1) (fun _ _ => ⟨rfl, e0, (by decide : 0 + 0 ≤ _), (by decide : 0 + 0 ≤ _)⟩)
        dsimp only [Pt.U, Pt.locs, Pt.cells, Pt.slots] at X28 l28 y28 z28 st28 hQ28
        subst l28 y28 z28
        obtain ⟨rfl, Nq28, e28⟩ := hQ28
        have Nf28 := Fr.app N0 Nq28
        refine own_fw (A' := (T28.setTop (mkF m 4 #[.val (.ref a1), .val (.long q1), .second, .unset] [(.ref r3)]))) (fun t k => st28 _ k) ?_
        obtain ⟨cq29, kq29, qa29, qb29, qc29⟩ := isOf hZ e28 P16
        obtain ⟨_, _, ⟨T29, L29, k29, n29⟩, -, X29, ⟨Lc29, hQ29, l29, y29, z29⟩, st29⟩ := X28.virtualBackUp hx (x := (⟨"com/example/spindle/spindle/DispatchTimes$Band", "ordinal", "()I"⟩ : MethodName)) (y := (⟨"java/lang/Enum", "ordinal", "()I"⟩ : MethodName)) hown (mvT hZ (hw _ (List.mem_of_getElem? (i := 37) rfl))) (mvT hZ (hw _ (List.mem_of_getElem? (i := 38) rfl))) (mvT hZ (hw _ (List.mem_of_getElem? (i := 39) rfl))) (by decide) (mvT hZ (hw _ (List.mem_of_getElem? (i := 41) rfl))) (mvT hZ (hw _ (List.mem_of_getElem? (i := 40) rfl))) (backOf (W := 0) (rmOrd l Z a0 hw [] r3 (3 : Int32) h0 n0 Z0 P21) hZ (hw _ (List.mem_of_getElem? (i := 43) rfl)) (hw _ (List.mem_of_getElem? (i := 42) rfl)) (by decide) (by decide)) qa29 qc29 (g := (mkF m 4 #[.val (.ref a1), .val (.long q1), .second, .unset] [(.ref r3)])) rfl (by rw [hml]; rfl) (Steps.refl _) (argsL := []) (rest := []) (lenOf pd___I rfl) rfl (by show 2 * 0 + _ ≤ _; exact Nat.le_of_eq rfl) (hb hby d_prog_4_method_4_code_4) (fun _ _ => ⟨rfl, e28, (by decide : 0 + 0 ≤ _), (by decide : 0 + 0 ≤ _)⟩)
        dsimp only [Pt.U, Pt.locs, Pt.cells, Pt.slots] at X29 l29 y29 z29 st29 hQ29
        subst l29 y29 z29
        obtain ⟨rfl, Nq29, e29⟩ := hQ29
        have Nf29 := Fr.app Nf28 Nq29
        refine own_fw (A' := (T29.setTop (mkF m 7 #[.val (.ref a1), .val (.long q1), .second, .unset] [(.int (3 : Int32))]))) (fun t k => st29.trans k) ?_
        refine own_fw (A' := (T29.setTop (mkF m 8 #[.val (.ref a1), .val (.long q1), .second, .val (.int (3 : Int32))] []))) (fun t k => XS.istoreN X29.here hx rfl (hb hby d_prog_4_method_4_code_7) rfl (l' := #[.val (.ref a1), .val (.long q1), .second, .val (.int (3 : Int32))]) rfl k) ?_
        refine own_fw (A' := (T29.setTop (mkF m 9 #[.val (.ref a1), .val (.long q1), .second, .val (.int (3 : Int32))] [(.ref a1)]))) (fun t k => XS.aloadN X29.here hx rfl (hb hby d_prog_4_method_4_code_8) rfl rfl k) ?_
        obtain ⟨T30, X30, e30, st30⟩ := getF X29 hx hZ hown (host := "") (Or.inl (hw _ (List.mem_of_getElem? (i := 13) rfl))) Via.refl e29 P1 (g := (mkF m 9 #[.val (.ref a1), .val (.long q1), .second, .val (.int (3 : Int32))] [(.ref a1)])) rfl rfl (hb hby d_prog_4_method_4_code_9)
        refine own_fw (A' := (T30.setTop (mkF m 12 #[.val (.ref a1), .val (.long q1), .second, .val (.int (3 : Int32))] [(.ref c1)]))) (fun t k => st30 _ k) ?_
        refine own_fw (A' := (T30.setTop (mkF m 13 #[.val (.ref a1), .val (.long q1), .second, .val (.int (3 : Int32))] [(.int (3 : Int32)), (.ref c1)]))) (fun t k => XS.iloadN X30.here hx rfl (hb hby d_prog_4_method_4_code_12) rfl k) ?_
        refine own_fw (A' := (T30.setTop (mkF m 14 #[.val (.ref a1), .val (.long q1), .second, .val (.int (3 : Int32))] [(.int (3 : Int32)), (.ref c1), (.int (3 : Int32)), (.ref c1)]))) (fun t k => XT.dup2 X30.here hx rfl (hb hby d_prog_4_method_4_code_13) rfl rfl rfl k) ?_
        obtain ⟨cl31, Ar31, q31, S31, M31, H31, G31⟩ := id P3
        have hin31 : ¬ ((3 : Int32) < 0 ∨ cl31.slots.size ≤ ((3 : Int32)).toNatClampNeg) := inb_of S31 ⟨by decide, by decide⟩
        have hat31 : cl31.slots[((3 : Int32)).toNatClampNeg]? = some (.long x3) := H31.at hin31 rfl
        refine own_fw (A' := (T30.setTop (mkF m 15 #[.val (.ref a1), .val (.long q1), .second, .val (.int (3 : Int32))] [(.long x3), (.int (3 : Int32)), (.ref c1)]))) (fun t k => X30.laload hx (j := (3 : Int32)) (v := (.long x3)) (by rw [e30]; exact Ar31.1) (State.isArrayOf_alike hZ.alike Ar31.2.1) Ar31.2.2 hin31 hat31 (g := (mkF m 14 #[.val (.ref a1), .val (.long q1), .second, .val (.int (3 : Int32))] [(.int (3 : Int32)), (.ref c1), (.int (3 : Int32)), (.ref c1)])) rfl rfl (hb hby d_prog_4_method_4_code_14) _ k) ?_
        refine own_fw (A' := (T30.setTop (mkF m 16 #[.val (.ref a1), .val (.long q1), .second, .val (.int (3 : Int32))] [(.long (1 : Int64)), (.long x3), (.int (3 : Int32)), (.ref c1)]))) (fun t k => XS.lconst X30.here hx rfl (hb hby d_prog_4_method_4_code_15) k) ?_
        refine own_fw (A' := (T30.setTop (mkF m 17 #[.val (.ref a1), .val (.long q1), .second, .val (.int (3 : Int32))] [(.long (x3 + (1 : Int64))), (.int (3 : Int32)), (.ref c1)]))) (fun t k => XS.ladd X30.here hx rfl (hb hby d_prog_4_method_4_code_16) rfl k) ?_
        obtain ⟨cl32, Ar32, q32, S32, M32, H32, G32⟩ := id P3
        have hin32 : ¬ ((3 : Int32) < 0 ∨ cl32.slots.size ≤ ((3 : Int32)).toNatClampNeg) := inb_of S32 ⟨by decide, by decide⟩
        obtain ⟨T32, h32, X32, e32, W32, st32⟩ := stJ X30 hx hZ e30 Ar32 (j := (3 : Int32)) hin32 (g := (mkF m 17 #[.val (.ref a1), .val (.long q1), .second, .val (.int (3 : Int32))] [(.long (x3 + (1 : Int64))), (.int (3 : Int32)), (.ref c1)])) rfl rfl (hb hby d_prog_4_method_4_code_17)
        have V32 : Arv Z h32 c1 k1 .long (4 : Int32) [(.long x0), (.long x1), (.long x2), (.long (x3 + (1 : Int64)))] (.long (0 : Int64)) := Arv.set Ar32 q32 S32 M32 H32 G32 rfl W32 3 rfl (Nat.le_of_ble_eq_true rfl)
        have Nf32 := Fr.snoc X32 Nf29 g_c1
        have K32 : Keep h0 h32 [c1, c2] := (Keep.refl h0 [c1, c2]).wr W32 (Or.inl (List.mem_of_getElem? (i := 0) rfl))
        have Z32 : n0 ≤ h32.size := Nat.le_trans Z0 (Keep.of_wr W32).1
        refine own_fw (A' := (T32.setTop (mkF m 18 #[.val (.ref a1), .val (.long q1), .second, .val (.int (3 : Int32))] []))) (fun t k => st32 _ k) ?_
        refine own_fw (A' := (T32.setTop (mkF m 19 #[.val (.ref a1), .val (.long q1), .second, .val (.int (3 : Int32))] [(.ref a1)]))) (fun t k => XS.aloadN X32.here hx rfl (hb hby d_prog_4_method_4_code_18) rfl rfl k) ?_
        obtain ⟨T33, X33, e33, st33⟩ := getF X32 hx hZ hown (host := "") (Or.inl (hw _ (List.mem_of_getElem? (i := 15) rfl))) Via.refl e32 (P2.other W32 (Or.inl ne_a1_c1)) (g := (mkF m 19 #[.val (.ref a1), .val (.long q1), .second, .val (.int (3 : Int32))] [(.ref a1)])) rfl rfl (hb hby d_prog_4_method_4_code_19)
        refine own_fw (A' := (T33.setTop (mkF m 22 #[.val (.ref a1), .val (.long q1), .second, .val (.int (3 : Int32))] [(.ref c2)]))) (fun t k => st33 _ k) ?_
        refine own_fw (A' := (T33.setTop (mkF m 23 #[.val (.ref a1), .val (.long q1), .second, .val (.int (3 : Int32))] [(.int (3 : Int32)), (.ref c2)]))) (fun t k => XS.iloadN X33.here hx rfl (hb hby d_prog_4_method_4_code_22) rfl k) ?_
        refine own_fw (A' := (T33.setTop (mkF m 24 #[.val (.ref a1), .val (.long q1), .second, .val (.int (3 : Int32))] [(.int (3 : Int32)), (.ref c2), (.int (3 : Int32)), (.ref c2)]))) (fun t k => XT.dup2 X33.here hx rfl (hb hby d_prog_4_method_4_code_23) rfl rfl rfl k) ?_
        obtain ⟨cl34, Ar34, q34, S34, M34, H34, G34⟩ := id (P4.other W32 (Ne.symm ne_c1_c2))
        have hin34 : ¬ ((3 : Int32) < 0 ∨ cl34.slots.size ≤ ((3 : Int32)).toNatClampNeg) := inb_of S34 ⟨by decide, by decide⟩
        have hat34 : cl34.slots[((3 : Int32)).toNatClampNeg]? = some (.long y3) := H34.at hin34 rfl
        refine own_fw (A' := (T33.setTop (mkF m 25 #[.val (.ref a1), .val (.long q1), .second, .val (.int (3 : Int32))] [(.long y3), (.int (3 : Int32)), (.ref c2)]))) (fun t k => X33.laload hx (j := (3 : Int32)) (v := (.long y3)) (by rw [e33]; exact Ar34.1) (State.isArrayOf_alike hZ.alike Ar34.2.1) Ar34.2.2 hin34 hat34 (g := (mkF m 24 #[.val (.ref a1), .val (.long q1), .second, .val (.int (3 : Int32))] [(.int (3 : Int32)), (.ref c2), (.int (3 : Int32)), (.ref c2)])) rfl rfl (hb hby d_prog_4_method_4_code_24) _ k) ?_
        refine own_fw (A' := (T33.setTop (mkF m 26 #[.val (.ref a1), .val (.long q1), .second, .val (.int (3 : Int32))] [(.long q1), (.long y3), (.int (3 : Int32)), (.ref c2)]))) (fun t k => XS.lloadN X33.here hx rfl (hb hby d_prog_4_method_4_code_25) rfl k) ?_
        refine own_fw (A' := (T33.setTop (mkF m 27 #[.val (.ref a1), .val (.long q1), .second, .val (.int (3 : Int32))] [(.long (y3 + q1)), (.int (3 : Int32)), (.ref c2)]))) (fun t k => XS.ladd X33.here hx rfl (hb hby d_prog_4_method_4_code_26) rfl k) ?_
        obtain ⟨cl35, Ar35, q35, S35, M35, H35, G35⟩ := id (P4.other W32 (Ne.symm ne_c1_c2))
        have hin35 : ¬ ((3 : Int32) < 0 ∨ cl35.slots.size ≤ ((3 : Int32)).toNatClampNeg) := inb_of S35 ⟨by decide, by decide⟩
        obtain ⟨T35, h35, X35, e35, W35, st35⟩ := stJ X33 hx hZ e33 Ar35 (j := (3 : Int32)) hin35 (g := (mkF m 27 #[.val (.ref a1), .val (.long q1), .second, .val (.int (3 : Int32))] [(.long (y3 + q1)), (.int (3 : Int32)), (.ref c2)])) rfl rfl (hb hby d_prog_4_method_4_code_27)
        have V35 : Arv Z h35 c2 k2 .long (4 : Int32) [(.long y0), (.long y1), (.long y2), (.long (y3 + q1))] (.long (0 : Int64)) := Arv.set Ar35 q35 S35 M35 H35 G35 rfl W35 3 rfl (Nat.le_of_ble_eq_true rfl)
        have Nf35 := Fr.snoc X35 Nf32 g_c2
        have K35 : Keep h0 h35 [c1, c2] := K32.wr W35 (Or.inl (List.mem_of_getElem? (i := 1) rfl))
        have Z35 : n0 ≤ h35.size := Nat.le_trans Z32 (Keep.of_wr W35).1
        refine own_fw (A' := (T35.setTop (mkF m 28 #[.val (.ref a1), .val (.long q1), .second, .val (.int (3 : Int32))] []))) (fun t k => st35 _ k) ?_
        obtain ⟨fs, hr, hrun, hended, hW, hsame⟩ := X35.leave (v := none) (fun _ => rfl)
        refine ⟨_, _, ?_, hrun, hended, _, _, rfl, ?_, ⟨_, rfl⟩, hW, hsame.mono (by decide) (by decide)⟩
        · exact X35.returnOut hx Bd.returns (hb hby d_prog_4_method_4_code_28) hr
        · show Q_rmAdd Z a1 q1 c1 c2 k1 k2 x0 x1 x2 x3 y0 y1 y2 y3 ba kb r0 r1 r2 r3 h0 n0 _ T35.heap _
          rw [e35]
          exact ⟨x0, x1, x2, (x3 + (1 : Int64)), y0, y1, y2, (y3 + q1), rfl, Nf35, K35, (V32.other W35 ne_c1_c2), V35⟩
theorem d_prog_4_method_6_code_0 : decode prog_4_method_6_code 0 = .ok (.iconst 0, 1) := by decide +kernel
theorem d_prog_4_method_6_code_1 : decode prog_4_method_6_code 1 = .ok (.istore_n 1, 1) := by decide +kernel
theorem d_prog_4_method_6_code_2 : decode prog_4_method_6_code 2 = .ok (.iload_n 1, 1) := by decide +kernel
theorem d_prog_4_method_6_code_3 : decode prog_4_method_6_code 3 = .ok (.aload_n 0, 1) := by decide +kernel
theorem d_prog_4_method_6_code_4 : decode prog_4_method_6_code 4 = .ok (.getfield 13, 3) := by decide +kernel
theorem d_prog_4_method_6_code_7 : decode prog_4_method_6_code 7 = .ok (.arraylength, 1) := by decide +kernel
theorem d_prog_4_method_6_code_8 : decode prog_4_method_6_code 8 = .ok (.if_icmp .ge 23, 3) := by decide +kernel
theorem d_prog_4_method_6_code_11 : decode prog_4_method_6_code 11 = .ok (.aload_n 0, 1) := by decide +kernel
theorem d_prog_4_method_6_code_12 : decode prog_4_method_6_code 12 = .ok (.getfield 13, 3) := by decide +kernel
theorem d_prog_4_method_6_code_15 : decode prog_4_method_6_code 15 = .ok (.iload_n 1, 1) := by decide +kernel
theorem d_prog_4_method_6_code_16 : decode prog_4_method_6_code 16 = .ok (.lconst 0, 1) := by decide +kernel
theorem d_prog_4_method_6_code_17 : decode prog_4_method_6_code 17 = .ok (.lastore, 1) := by decide +kernel
theorem d_prog_4_method_6_code_18 : decode prog_4_method_6_code 18 = .ok (.aload_n 0, 1) := by decide +kernel
theorem d_prog_4_method_6_code_19 : decode prog_4_method_6_code 19 = .ok (.getfield 19, 3) := by decide +kernel
theorem d_prog_4_method_6_code_22 : decode prog_4_method_6_code 22 = .ok (.iload_n 1, 1) := by decide +kernel
theorem d_prog_4_method_6_code_23 : decode prog_4_method_6_code 23 = .ok (.lconst 0, 1) := by decide +kernel
theorem d_prog_4_method_6_code_24 : decode prog_4_method_6_code 24 = .ok (.lastore, 1) := by decide +kernel
theorem d_prog_4_method_6_code_25 : decode prog_4_method_6_code 25 = .ok (.iinc 1 1, 3) := by decide +kernel
theorem d_prog_4_method_6_code_28 : decode prog_4_method_6_code 28 = .ok (.goto (-26), 3) := by decide +kernel
theorem d_prog_4_method_6_code_31 : decode prog_4_method_6_code 31 = .ok (.return_, 1) := by decide +kernel
theorem ef_rmClear (m : MethodId) (a1 : Addr) : entryFrame m #[(.ref a1)] 2 = mkF m 0 #[.val (.ref a1), .unset] [] := by first | (simp [entryFrame, mkF, argsToLocals, Value.category]; done) | rfl
def Q_rmClear (Z : State) (a1 : Addr) (c1 : Addr) (c2 : Addr) (k1 : ClassId) (k2 : ClassId) (x0 : Int64) (x1 : Int64) (x2 : Int64) (x3 : Int64) (y0 : Int64) (y1 : Int64) (y2 : Int64) (y3 : Int64) (h0 : Heap) (n0 : Nat) (v : Option Value) (h : Heap) (L : List Loc) : Prop := v = none ∧ Fr n0 L ∧ Keep h0 h [c1, c2] ∧ Arv Z h c1 k1 .long (4 : Int32) [(.long (0 : Int64)), (.long (0 : Int64)), (.long (0 : Int64)), (.long (0 : Int64))] (.long (0 : Int64)) ∧ Arv Z h c2 k2 .long (4 : Int32) [(.long (0 : Int64)), (.long (0 : Int64)), (.long (0 : Int64)), (.long (0 : Int64))] (.long (0 : Int64))
set_option maxRecDepth 65536 in
set_option maxHeartbeats 40000000 in
theorem rmClear (l : Launch) (Z : State) (a0 : Array Value) (hw : ∀ d ∈ tables_1, d.before a0 Z = true) (ws : List Jvm.Cond) (a1 : Addr) (c1 : Addr) (c2 : Addr) (k1 : ClassId) (k2 : ClassId) (x0 : Int64) (x1 : Int64) (x2 : Int64) (x3 : Int64) (y0 : Int64) (y1 : Int64) (y2 : Int64) (y3 : Int64) (h0 : Heap) (n0 : Nat) (Z0 : n0 ≤ h0.size) (P0 : Exa Z h0 a1 "com/example/spindle/spindle/DispatchTimes") (P1 : Fld Z h0 a1 "com/example/spindle/spindle/DispatchTimes" "counts" "[J" (.ref c1)) (P2 : Fld Z h0 a1 "com/example/spindle/spindle/DispatchTimes" "totalMillis" "[J" (.ref c2)) (P3 : Arv Z h0 c1 k1 .long (4 : Int32) [(.long x0), (.long x1), (.long x2), (.long x3)] (.long (0 : Int64))) (P4 : Arv Z h0 c2 k2 .long (4 : Int32) [(.long y0), (.long y1), (.long y2), (.long y3)] (.long (0 : Int64))) (g_c1 : n0 ≤ c1) (g_c2 : n0 ≤ c2) (ne_c1_c2 : c1 ≠ c2) (ne_a1_c1 : a1 ≠ c1) (ne_a1_c2 : a1 ≠ c2) :
    MetFree l (⟨"com/example/spindle/spindle/DispatchTimes", "clear", "()V"⟩ : MethodName) (head1 (Jvm.Cond.code (⟨"com/example/spindle/spindle/DispatchTimes", "clear", "()V"⟩ : MethodName) prog_4_method_6_code 2 none :: ws) ({ frames := 0, cells := 0, slots := 0, locals := 0 } : Room)) (fun a U => a = #[(.ref a1)] ∧ Z.Warmed39 U.vm ∧ U.heap = h0) (fun _ _ _ _ _ => True) (fun _ U o U' => ∃ v L, o = .returned v ∧ Q_rmClear Z a1 c1 c2 k1 k2 x0 x1 x2 x3 y0 y1 y2 y3 h0 n0 v U'.heap L ∧ FrameEnd U o U' L ({ frames := 0, cells := 0, slots := 0, locals := 0 } : Room).cells ({ frames := 0, cells := 0, slots := 0, locals := 0 } : Room).slots) := by
  refine MetFree.of_bodySF (plainFor_of_name pn_com_example_spindle_spindle_DispatchTimes) hisR ?_
  intro p e s m args below meth c s₁ Bd hml0 hP hK
  obtain ⟨rfl, hZ, hh⟩ := hP
  have hx := Bd.exec
  have hby := Bd.bytes
  have hml : c.maxLocals = 2 := hml0
  have hown : s.vm.findClass "com/example/spindle/spindle/DispatchTimes" = some m.cls := findClass_of_methodNamed Bd.named
  have hnm := (name_of_methodNamed Bd.named Bd.method).1
  have X0 : Stand p l e ({ frames := 0, cells := 0, slots := 0, locals := 0 } : Room) s m #[(.ref a1)] below meth c s₁ [] 0 0 := Stand.of_body Bd
  have e0 : s₁.heap = h0 := by rw [← hh, Bd.state]; rfl
  have N0 := Fr.nil n0
  refine own_fw (A' := (s₁.setTop (mkF m 0 #[.val (.ref a1), .unset] []))) (fun t k => castTop (ef_rmClear m a1) k) ?_
  refine own_fw (A' := (s₁.setTop (mkF m 1 #[.val (.ref a1), .unset] [(.int (0 : Int32))]))) (fun t k => XS.iconst X0.here hx rfl (hb hby d_prog_4_method_6_code_0) k) ?_
  refine own_fw (A' := (s₁.setTop (mkF m 2 #[.val (.ref a1), .val (.int (0 : Int32))] []))) (fun t k => XS.istoreN X0.here hx rfl (hb hby d_prog_4_method_6_code_1) rfl (l' := #[.val (.ref a1), .val (.int (0 : Int32))]) rfl k) ?_
  refine own_fw (A' := (s₁.setTop (mkF m 3 #[.val (.ref a1), .val (.int (0 : Int32))] [(.int (0 : Int32))]))) (fun t k => XS.iloadN X0.here hx rfl (hb hby d_prog_4_method_6_code_2) rfl k) ?_
  refine own_fw (A' := (s₁.setTop (mkF m 4 #[.val (.ref a1), .val (.int (0 : Int32))] [(.ref a1), (.int (0 : Int32))]))) (fun t k => XS.aloadN X0.here hx rfl (hb hby d_prog_4_method_6_code_3) rfl rfl k) ?_
  obtain ⟨T1, X1, e1, st1⟩ := getF X0 hx hZ hown (host := "") (Or.inl (hw _ (List.mem_of_getElem? (i := 13) rfl))) Via.refl e0 P1 (g := (mkF m 4 #[.val (.ref a1), .val (.int (0 : Int32))] [(.ref a1), (.int (0 : Int32))])) rfl rfl (hb hby d_prog_4_method_6_code_4)
  refine own_fw (A' := (T1.setTop (mkF m 7 #[.val (.ref a1), .val (.int (0 : Int32))] [(.ref c1), (.int (0 : Int32))]))) (fun t k => st1 _ k) ?_
  obtain ⟨cl2, Ar2, q2, S2, M2, H2, G2⟩ := id P3
  refine own_fw (A' := (T1.setTop (mkF m 8 #[.val (.ref a1), .val (.int (0 : Int32))] [(.int (4 : Int32)), (.int (0 : Int32))]))) (fun t k => X1.arraylength hx (by rw [e1]; exact Ar2.1) (State.isArrayOf_alike hZ.alike Ar2.2.1) (g := (mkF m 7 #[.val (.ref a1), .val (.int (0 : Int32))] [(.ref c1), (.int (0 : Int32))])) rfl rfl (hb hby d_prog_4_method_6_code_7) _ (by rw [len_of S2 M2]; exact k)) ?_
  refine own_fw (A' := (T1.setTop (mkF m 11 #[.val (.ref a1), .val (.int (0 : Int32))] []))) (fun t k => XS.icmpNo X1.here hx rfl (hb hby d_prog_4_method_6_code_8) rfl (XT.ii_ge_f (by decide)) k) ?_
  refine own_fw (A' := (T1.setTop (mkF m 12 #[.val (.ref a1), .val (.int (0 : Int32))] [(.ref a1)]))) (fun t k => XS.aloadN X1.here hx rfl (hb hby d_prog_4_method_6_code_11) rfl rfl k) ?_
  obtain ⟨T3, X3, e3, st3⟩ := getF X1 hx hZ hown (host := "") (Or.inl (hw _ (List.mem_of_getElem? (i := 13) rfl))) Via.refl e1 P1 (g := (mkF m 12 #[.val (.ref a1), .val (.int (0 : Int32))] [(.ref a1)])) rfl rfl (hb hby d_prog_4_method_6_code_12)
  refine own_fw (A' := (T3.setTop (mkF m 15 #[.val (.ref a1), .val (.int (0 : Int32))] [(.ref c1)]))) (fun t k => st3 _ k) ?_
  refine own_fw (A' := (T3.setTop (mkF m 16 #[.val (.ref a1), .val (.int (0 : Int32))] [(.int (0 : Int32)), (.ref c1)]))) (fun t k => XS.iloadN X3.here hx rfl (hb hby d_prog_4_method_6_code_15) rfl k) ?_
  refine own_fw (A' := (T3.setTop (mkF m 17 #[.val (.ref a1), .val (.int (0 : Int32))] [(.long (0 : Int64)), (.int (0 : Int32)), (.ref c1)]))) (fun t k => XS.lconst X3.here hx rfl (hb hby d_prog_4_method_6_code_16) k) ?_
  obtain ⟨cl4, Ar4, q4, S4, M4, H4, G4⟩ := id P3
  have hin4 : ¬ ((0 : Int32) < 0 ∨ cl4.slots.size ≤ ((0 : Int32)).toNatClampNeg) := inb_of S4 ⟨by decide, by decide⟩
  obtain ⟨T4, h4, X4, e4, W4, st4⟩ := stJ X3 hx hZ e3 Ar4 (j := (0 : Int32)) hin4 (g := (mkF m 17 #[.val (.ref a1), .val (.int (0 : Int32))] [(.long (0 : Int64)), (.int (0 : Int32)), (.ref c1)])) rfl rfl (hb hby d_prog_4_method_6_code_17)
  have V4 : Arv Z h4 c1 k1 .long (4 : Int32) [(.long (0 : Int64)), (.long x1), (.long x2), (.long x3)] (.long (0 : Int64)) := Arv.set Ar4 q4 S4 M4 H4 G4 rfl W4 0 rfl (Nat.le_of_ble_eq_true rfl)
  have Nf4 := Fr.snoc X4 N0 g_c1
  have K4 : Keep h0 h4 [c1, c2] := (Keep.refl h0 [c1, c2]).wr W4 (Or.inl (List.mem_of_getElem? (i := 0) rfl))
  have Z4 : n0 ≤ h4.size := Nat.le_trans Z0 (Keep.of_wr W4).1
  refine own_fw (A' := (T4.setTop (mkF m 18 #[.val (.ref a1), .val (.int (0 : Int32))] []))) (fun t k => st4 _ k) ?_
  refine own_fw (A' := (T4.setTop (mkF m 19 #[.val (.ref a1), .val (.int (0 : Int32))] [(.ref a1)]))) (fun t k => XS.aloadN X4.here hx rfl (hb hby d_prog_4_method_6_code_18) rfl rfl k) ?_
  obtain ⟨T5, X5, e5, st5⟩ := getF X4 hx hZ hown (host := "") (Or.inl (hw _ (List.mem_of_getElem? (i := 15) rfl))) Via.refl e4 (P2.other W4 (Or.inl ne_a1_c1)) (g := (mkF m 19 #[.val (.ref a1), .val (.int (0 : Int32))] [(.ref a1)])) rfl rfl (hb hby d_prog_4_method_6_code_19)
  refine own_fw (A' := (T5.setTop (mkF m 22 #[.val (.ref a1), .val (.int (0 : Int32))] [(.ref c2)]))) (fun t k => st5 _ k) ?_
  refine own_fw (A' := (T5.setTop (mkF m 23 #[.val (.ref a1), .val (.int (0 : Int32))] [(.int (0 : Int32)), (.ref c2)]))) (fun t k => XS.iloadN X5.here hx rfl (hb hby d_prog_4_method_6_code_22) rfl k) ?_
  refine own_fw (A' := (T5.setTop (mkF m 24 #[.val (.ref a1), .val (.int (0 : Int32))] [(.long (0 : Int64)), (.int (0 : Int32)), (.ref c2)]))) (fun t k => XS.lconst X5.here hx rfl (hb hby d_prog_4_method_6_code_23) k) ?_
  obtain ⟨cl6, Ar6, q6, S6, M6, H6, G6⟩ := id (P4.other W4 (Ne.symm ne_c1_c2))
  have hin6 : ¬ ((0 : Int32) < 0 ∨ cl6.slots.size ≤ ((0 : Int32)).toNatClampNeg) := inb_of S6 ⟨by decide, by decide⟩
  obtain ⟨T6, h6, X6, e6, W6, st6⟩ := stJ X5 hx hZ e5 Ar6 (j := (0 : Int32)) hin6 (g := (mkF m 24 #[.val (.ref a1), .val (.int (0 : Int32))] [(.long (0 : Int64)), (.int (0 : Int32)), (.ref c2)])) rfl rfl (hb hby d_prog_4_method_6_code_24)
  have V6 : Arv Z h6 c2 k2 .long (4 : Int32) [(.long (0 : Int64)), (.long y1), (.long y2), (.long y3)] (.long (0 : Int64)) := Arv.set Ar6 q6 S6 M6 H6 G6 rfl W6 0 rfl (Nat.le_of_ble_eq_true rfl)
  have Nf6 := Fr.snoc X6 Nf4 g_c2
  have K6 : Keep h0 h6 [c1, c2] := K4.wr W6 (Or.inl (List.mem_of_getElem? (i := 1) rfl))
  have Z6 : n0 ≤ h6.size := Nat.le_trans Z4 (Keep.of_wr W6).1
  refine own_fw (A' := (T6.setTop (mkF m 25 #[.val (.ref a1), .val (.int (0 : Int32))] []))) (fun t k => st6 _ k) ?_
  refine own_fw (A' := (T6.setTop (mkF m 28 #[.val (.ref a1), .val (.int (1 : Int32))] []))) (fun t k => XS.iinc X6.here hx rfl (hb hby d_prog_4_method_6_code_25) rfl (l' := #[.val (.ref a1), .val (.int (1 : Int32))]) rfl k) ?_
  refine own_fw (A' := (T6.setTop (mkF m 2 #[.val (.ref a1), .val (.int (1 : Int32))] []))) (fun t k => XS.goto X6.here hx rfl (pc0 := 28) (pc' := 2) rfl (hb hby d_prog_4_method_6_code_28) (by decide) (by decide) k) ?_
  refine own_fw (A' := (T6.setTop (mkF m 3 #[.val (.ref a1), .val (.int (1 : Int32))] [(.int (1 : Int32))]))) (fun t k => XS.iloadN X6.here hx rfl (hb hby d_prog_4_method_6_code_2) rfl k) ?_
  refine own_fw (A' := (T6.setTop (mkF m 4 #[.val (.ref a1), .val (.int (1 : Int32))] [(.ref a1), (.int (1 : Int32))]))) (fun t k => XS.aloadN X6.here hx rfl (hb hby d_prog_4_method_6_code_3) rfl rfl k) ?_
  obtain ⟨T7, X7, e7, st7⟩ := getF X6 hx hZ hown (host := "") (Or.inl (hw _ (List.mem_of_getElem? (i := 13) rfl))) Via.refl e6 ((P1.other W4 (Or.inl ne_a1_c1)).other W6 (Or.inl ne_a1_c2)) (g := (mkF m 4 #[.val (.ref a1), .val (.int (1 : Int32))] [(.ref a1), (.int (1 : Int32))])) rfl rfl (hb hby d_prog_4_method_6_code_4)
  refine own_fw (A' := (T7.setTop (mkF m 7 #[.val (.ref a1), .val (.int (1 : Int32))] [(.ref c1), (.int (1 : Int32))]))) (fun t k => st7 _ k) ?_
  obtain ⟨cl8, Ar8, q8, S8, M8, H8, G8⟩ := id (V4.other W6 ne_c1_c2)
  refine own_fw (A' := (T7.setTop (mkF m 8 #[.val (.ref a1), .val (.int (1 : Int32))] [(.int (4 : Int32)), (.int (1 : Int32))]))) (fun t k => X7.arraylength hx (by rw [e7]; exact Ar8.1) (State.isArrayOf_alike hZ.alike Ar8.2.1) (g := (mkF m 7 #[.val (.ref a1), .val (.int (1 : Int32))] [(.ref c1), (.int (1 : Int32))])) rfl rfl (hb hby d_prog_4_method_6_code_7) _ (by rw [len_of S8 M8]; exact k)) ?_
  refine own_fw (A' := (T7.setTop (mkF m 11 #[.val (.ref a1), .val (.int (1 : Int32))] []))) (fun t k => XS.icmpNo X7.here hx rfl (hb hby d_prog_4_method_6_code_8) rfl (XT.ii_ge_f (by decide)) k) ?_
  refine own_fw (A' := (T7.setTop (mkF m 12 #[.val (.ref a1), .val (.int (1 : Int32))] [(.ref a1)]))) (fun t k => XS.aloadN X7.here hx rfl (hb hby d_prog_4_method_6_code_11) rfl rfl k) ?_
  obtain ⟨T9, X9, e9, st9⟩ := getF X7 hx hZ hown (host := "") (Or.inl (hw _ (List.mem_of_getElem? (i := 13) rfl))) Via.refl e7 ((P1.other W4 (Or.inl ne_a1_c1)).other W6 (Or.inl ne_a1_c2)) (g := (mkF m 12 #[.val (.ref a1), .val (.int (1 : Int32))] [(.ref a1)])) rfl rfl (hb hby d_prog_4_method_6_code_12)
  refine own_fw (A' := (T9.setTop (mkF m 15 #[.val (.ref a1), .val (.int (1 : Int32))] [(.ref c1)]))) (fun t k => st9 _ k) ?_
  refine own_fw (A' := (T9.setTop (mkF m 16 #[.val (.ref a1), .val (.int (1 : Int32))] [(.int (1 : Int32)), (.ref c1)]))) (fun t k => XS.iloadN X9.here hx rfl (hb hby d_prog_4_method_6_code_15) rfl k) ?_
  refine own_fw (A' := (T9.setTop (mkF m 17 #[.val (.ref a1), .val (.int (1 : Int32))] [(.long (0 : Int64)), (.int (1 : Int32)), (.ref c1)]))) (fun t k => XS.lconst X9.here hx rfl (hb hby d_prog_4_method_6_code_16) k) ?_
  obtain ⟨cl10, Ar10, q10, S10, M10, H10, G10⟩ := id (V4.other W6 ne_c1_c2)
  have hin10 : ¬ ((1 : Int32) < 0 ∨ cl10.slots.size ≤ ((1 : Int32)).toNatClampNeg) := inb_of S10 ⟨by decide, by decide⟩
  obtain ⟨T10, h10, X10, e10, W10, st10⟩ := stJ X9 hx hZ e9 Ar10 (j := (1 : Int32)) hin10 (g := (mkF m 17 #[.val (.ref a1), .val (.int (1 : Int32))] [(.long (0 : Int64)), (.int (1 : Int32)), (.ref c1)])) rfl rfl (hb hby d_prog_4_method_6_code_17)
  have V10 : Arv Z h10 c1 k1 .long (4 : Int32) [(.long (0 : Int64)), (.long (0 : Int64)), (.long x2), (.long x3)] (.long (0 : Int64)) := Arv.set Ar10 q10 S10 M10 H10 G10 rfl W10 1 rfl (Nat.le_of_ble_eq_true rfl)
  have Nf10 := Fr.snoc X10 Nf6 g_c1
  have K10 : Keep h0 h10 [c1, c2] := K6.wr W10 (Or.inl (List.mem_of_getElem? (i := 0) rfl))
  have Z10 : n0 ≤ h10.size := Nat.le_trans Z6 (Keep.of_wr W10).1
  refine own_fw (A' := (T10.setTop (mkF m 18 #[.val (.ref a1), .val (.int (1 : Int32))] []))) (fun t k => st10 _ k) ?_
  refine own_fw (A' := (T10.setTop (mkF m 19 #[.val (.ref a1), .val (.int (1 : Int32))] [(.ref a1)]))) (fun t k => XS.aloadN X10.here hx rfl (hb hby d_prog_4_method_6_code_18) rfl rfl k) ?_
  obtain ⟨T11, X11, e11, st11⟩ := getF X10 hx hZ hown (host := "") (Or.inl (hw _ (List.mem_of_getElem? (i := 15) rfl))) Via.refl e10 (((P2.other W4 (Or.inl ne_a1_c1)).other W6 (Or.inl ne_a1_c2)).other W10 (Or.inl ne_a1_c1)) (g := (mkF m 19 #[.val (.ref a1), .val (.int (1 : Int32))] [(.ref a1)])) rfl rfl (hb hby d_prog_4_method_6_code_19)
  refine own_fw (A' := (T11.setTop (mkF m 22 #[.val (.ref a1), .val (.int (1 : Int32))] [(.ref c2)]))) (fun t k => st11 _ k) ?_
  refine own_fw (A' := (T11.setTop (mkF m 23 #[.val (.ref a1), .val (.int (1 : Int32))] [(.int (1 : Int32)), (.ref c2)]))) (fun t k => XS.iloadN X11.here hx rfl (hb hby d_prog_4_method_6_code_22) rfl k) ?_
  refine own_fw (A' := (T11.setTop (mkF m 24 #[.val (.ref a1), .val (.int (1 : Int32))] [(.long (0 : Int64)), (.int (1 : Int32)), (.ref c2)]))) (fun t k => XS.lconst X11.here hx rfl (hb hby d_prog_4_method_6_code_23) k) ?_
  obtain ⟨cl12, Ar12, q12, S12, M12, H12, G12⟩ := id (V6.other W10 (Ne.symm ne_c1_c2))
  have hin12 : ¬ ((1 : Int32) < 0 ∨ cl12.slots.size ≤ ((1 : Int32)).toNatClampNeg) := inb_of S12 ⟨by decide, by decide⟩
  obtain ⟨T12, h12, X12, e12, W12, st12⟩ := stJ X11 hx hZ e11 Ar12 (j := (1 : Int32)) hin12 (g := (mkF m 24 #[.val (.ref a1), .val (.int (1 : Int32))] [(.long (0 : Int64)), (.int (1 : Int32)), (.ref c2)])) rfl rfl (hb hby d_prog_4_method_6_code_24)
  have V12 : Arv Z h12 c2 k2 .long (4 : Int32) [(.long (0 : Int64)), (.long (0 : Int64)), (.long y2), (.long y3)] (.long (0 : Int64)) := Arv.set Ar12 q12 S12 M12 H12 G12 rfl W12 1 rfl (Nat.le_of_ble_eq_true rfl)
  have Nf12 := Fr.snoc X12 Nf10 g_c2
  have K12 : Keep h0 h12 [c1, c2] := K10.wr W12 (Or.inl (List.mem_of_getElem? (i := 1) rfl))
  have Z12 : n0 ≤ h12.size := Nat.le_trans Z10 (Keep.of_wr W12).1
  refine own_fw (A' := (T12.setTop (mkF m 25 #[.val (.ref a1), .val (.int (1 : Int32))] []))) (fun t k => st12 _ k) ?_
  refine own_fw (A' := (T12.setTop (mkF m 28 #[.val (.ref a1), .val (.int (2 : Int32))] []))) (fun t k => XS.iinc X12.here hx rfl (hb hby d_prog_4_method_6_code_25) rfl (l' := #[.val (.ref a1), .val (.int (2 : Int32))]) rfl k) ?_
  refine own_fw (A' := (T12.setTop (mkF m 2 #[.val (.ref a1), .val (.int (2 : Int32))] []))) (fun t k => XS.goto X12.here hx rfl (pc0 := 28) (pc' := 2) rfl (hb hby d_prog_4_method_6_code_28) (by decide) (by decide) k) ?_
  refine own_fw (A' := (T12.setTop (mkF m 3 #[.val (.ref a1), .val (.int (2 : Int32))] [(.int (2 : Int32))]))) (fun t k => XS.iloadN X12.here hx rfl (hb hby d_prog_4_method_6_code_2) rfl k) ?_
  refine own_fw (A' := (T12.setTop (mkF m 4 #[.val (.ref a1), .val (.int (2 : Int32))] [(.ref a1), (.int (2 : Int32))]))) (fun t k => XS.aloadN X12.here hx rfl (hb hby d_prog_4_method_6_code_3) rfl rfl k) ?_
  obtain ⟨T13, X13, e13, st13⟩ := getF X12 hx hZ hown (host := "") (Or.inl (hw _ (List.mem_of_getElem? (i := 13) rfl))) Via.refl e12 ((((P1.other W4 (Or.inl ne_a1_c1)).other W6 (Or.inl ne_a1_c2)).other W10 (Or.inl ne_a1_c1)).other W12 (Or.inl ne_a1_c2)) (g := (mkF m 4 #[.val (.ref a1), .val (.int (2 : Int32))] [(.ref a1), (.int (2 : Int32))])) rfl rfl (hb hby d_prog_4_method_6_code_4)
  refine own_fw (A' := (T13.setTop (mkF m 7 #[.val (.ref a1), .val (.int (2 : Int32))] [(.ref c1), (.int (2 : Int32))]))) (fun t k => st13 _ k) ?_
  obtain ⟨cl14, Ar14, q14, S14, M14, H14, G14⟩ := id (V10.other W12 ne_c1_c2)
  refine own_fw (A' := (T13.setTop (mkF m 8 #[.val (.ref a1), .val (.int (2 : Int32))] [(.int (4 : Int32)), (.int (2 : Int32))]))) (fun t k => X13.arraylength hx (by rw [e13]; exact Ar14.1) (State.isArrayOf_alike hZ.alike Ar14.2.1) (g := (mkF m 7 #[.val (.ref a1), .val (.int (2 : Int32))] [(.ref c1), (.int (2 : Int32))])) rfl rfl (hb hby d_prog_4_method_6_code_7) _ (by rw [len_of S14 M14]; exact k)) ?_
  refine own_fw (A' := (T13.setTop (mkF m 11 #[.val (.ref a1), .val (.int (2 : Int32))] []))) (fun t k => XS.icmpNo X13.here hx rfl (hb hby d_prog_4_method_6_code_8) rfl (XT.ii_ge_f (by decide)) k) ?_
  refine own_fw (A' := (T13.setTop (mkF m 12 #[.val (.ref a1), .val (.int (2 : Int32))] [(.ref a1)]))) (fun t k => XS.aloadN X13.here hx rfl (hb hby d_prog_4_method_6_code_11) rfl rfl k) ?_
  obtain ⟨T15, X15, e15, st15⟩ := getF X13 hx hZ hown (host := "") (Or.inl (hw _ (List.mem_of_getElem? (i := 13) rfl))) Via.refl e13 ((((P1.other W4 (Or.inl ne_a1_c1)).other W6 (Or.inl ne_a1_c2)).other W10 (Or.inl ne_a1_c1)).other W12 (Or.inl ne_a1_c2)) (g := (mkF m 12 #[.val (.ref a1), .val (.int (2 : Int32))] [(.ref a1)])) rfl rfl (hb hby d_prog_4_method_6_code_12)
  refine own_fw (A' := (T15.setTop (mkF m 15 #[.val (.ref a1), .val (.int (2 : Int32))] [(.ref c1)]))) (fun t k => st15 _ k) ?_
  refine own_fw (A' := (T15.setTop (mkF m 16 #[.val (.ref a1), .val (.int (2 : Int32))] [(.int (2 : Int32)), (.ref c1)]))) (fun t k => XS.iloadN X15.here hx rfl (hb hby d_prog_4_method_6_code_15) rfl k) ?_
  refine own_fw (A' := (T15.setTop (mkF m 17 #[.val (.ref a1), .val (.int (2 : Int32))] [(.long (0 : Int64)), (.int (2 : Int32)), (.ref c1)]))) (fun t k => XS.lconst X15.here hx rfl (hb hby d_prog_4_method_6_code_16) k) ?_
  obtain ⟨cl16, Ar16, q16, S16, M16, H16, G16⟩ := id (V10.other W12 ne_c1_c2)
  have hin16 : ¬ ((2 : Int32) < 0 ∨ cl16.slots.size ≤ ((2 : Int32)).toNatClampNeg) := inb_of S16 ⟨by decide, by decide⟩
  obtain ⟨T16, h16, X16, e16, W16, st16⟩ := stJ X15 hx hZ e15 Ar16 (j := (2 : Int32)) hin16 (g := (mkF m 17 #[.val (.ref a1), .val (.int (2 : Int32))] [(.long (0 : Int64)), (.int (2 : Int32)), (.ref c1)])) rfl rfl (hb hby d_prog_4_method_6_code_17)
  have V16 : Arv Z h16 c1 k1 .long (4 : Int32) [(.long (0 : Int64)), (.long (0 : Int64)), (.long (0 : Int64)), (.long x3)] (.long (0 : Int64)) := Arv.set Ar16 q16 S16 M16 H16 G16 rfl W16 2 rfl (Nat.le_of_ble_eq_true rfl)
  have Nf16 := Fr.snoc X16 Nf12 g_c1
  have K16 : Keep h0 h16 [c1, c2] := K12.wr W16 (Or.inl (List.mem_of_getElem? (i := 0) rfl))
  have Z16 : n0 ≤ h16.size := Nat.le_trans Z12 (Keep.of_wr W16).1
  refine own_fw (A' := (T16.setTop (mkF m 18 #[.val (.ref a1), .val (.int (2 : Int32))] []))) (fun t k => st16 _ k) ?_
  refine own_fw (A' := (T16.setTop (mkF m 19 #[.val (.ref a1), .val (.int (2 : Int32))] [(.ref a1)]))) (fun t k => XS.aloadN X16.here hx rfl (hb hby d_prog_4_method_6_code_18) rfl rfl k) ?_
  obtain ⟨T17, X17, e17, st17⟩ := getF X16 hx hZ hown (host := "") (Or.inl (hw _ (List.mem_of_getElem? (i := 15) rfl))) Via.refl e16 (((((P2.other W4 (Or.inl ne_a1_c1)).other W6 (Or.inl ne_a1_c2)).other W10 (Or.inl ne_a1_c1)).other W12 (Or.inl ne_a1_c2)).other W16 (Or.inl ne_a1_c1)) (g := (mkF m 19 #[.val (.ref a1), .val (.int (2 : Int32))] [(.ref a1)])) rfl rfl (hb hby d_prog_4_method_6_code_19)
  refine own_fw (A' := (T17.setTop (mkF m 22 #[.val (.ref a1), .val (.int (2 : Int32))] [(.ref c2)]))) (fun t k => st17 _ k) ?_
  refine own_fw (A' := (T17.setTop (mkF m 23 #[.val (.ref a1), .val (.int (2 : Int32))] [(.int (2 : Int32)), (.ref c2)]))) (fun t k => XS.iloadN X17.here hx rfl (hb hby d_prog_4_method_6_code_22) rfl k) ?_
  refine own_fw (A' := (T17.setTop (mkF m 24 #[.val (.ref a1), .val (.int (2 : Int32))] [(.long (0 : Int64)), (.int (2 : Int32)), (.ref c2)]))) (fun t k => XS.lconst X17.here hx rfl (hb hby d_prog_4_method_6_code_23) k) ?_
  obtain ⟨cl18, Ar18, q18, S18, M18, H18, G18⟩ := id (V12.other W16 (Ne.symm ne_c1_c2))
  have hin18 : ¬ ((2 : Int32) < 0 ∨ cl18.slots.size ≤ ((2 : Int32)).toNatClampNeg) := inb_of S18 ⟨by decide, by decide⟩
  obtain ⟨T18, h18, X18, e18, W18, st18⟩ := stJ X17 hx hZ e17 Ar18 (j := (2 : Int32)) hin18 (g := (mkF m 24 #[.val (.ref a1), .val (.int (2 : Int32))] [(.long (0 : Int64)), (.int (2 : Int32)), (.ref c2)])) rfl rfl (hb hby d_prog_4_method_6_code_24)
  have V18 : Arv Z h18 c2 k2 .long (4 : Int32) [(.long (0 : Int64)), (.long (0 : Int64)), (.long (0 : Int64)), (.long y3)] (.long (0 : Int64)) := Arv.set Ar18 q18 S18 M18 H18 G18 rfl W18 2 rfl (Nat.le_of_ble_eq_true rfl)
  have Nf18 := Fr.snoc X18 Nf16 g_c2
  have K18 : Keep h0 h18 [c1, c2] := K16.wr W18 (Or.inl (List.mem_of_getElem? (i := 1) rfl))
  have Z18 : n0 ≤ h18.size := Nat.le_trans Z16 (Keep.of_wr W18).1
  refine own_fw (A' := (T18.setTop (mkF m 25 #[.val (.ref a1), .val (.int (2 : Int32))] []))) (fun t k => st18 _ k) ?_
  refine own_fw (A' := (T18.setTop (mkF m 28 #[.val (.ref a1), .val (.int (3 : Int32))] []))) (fun t k => XS.iinc X18.here hx rfl (hb hby d_prog_4_method_6_code_25) rfl (l' := #[.val (.ref a1), .val (.int (3 : Int32))]) rfl k) ?_
  refine own_fw (A' := (T18.setTop (mkF m 2 #[.val (.ref a1), .val (.int (3 : Int32))] []))) (fun t k => XS.goto X18.here hx rfl (pc0 := 28) (pc' := 2) rfl (hb hby d_prog_4_method_6_code_28) (by decide) (by decide) k) ?_
  refine own_fw (A' := (T18.setTop (mkF m 3 #[.val (.ref a1), .val (.int (3 : Int32))] [(.int (3 : Int32))]))) (fun t k => XS.iloadN X18.here hx rfl (hb hby d_prog_4_method_6_code_2) rfl k) ?_
  refine own_fw (A' := (T18.setTop (mkF m 4 #[.val (.ref a1), .val (.int (3 : Int32))] [(.ref a1), (.int (3 : Int32))]))) (fun t k => XS.aloadN X18.here hx rfl (hb hby d_prog_4_method_6_code_3) rfl rfl k) ?_
  obtain ⟨T19, X19, e19, st19⟩ := getF X18 hx hZ hown (host := "") (Or.inl (hw _ (List.mem_of_getElem? (i := 13) rfl))) Via.refl e18 ((((((P1.other W4 (Or.inl ne_a1_c1)).other W6 (Or.inl ne_a1_c2)).other W10 (Or.inl ne_a1_c1)).other W12 (Or.inl ne_a1_c2)).other W16 (Or.inl ne_a1_c1)).other W18 (Or.inl ne_a1_c2)) (g := (mkF m 4 #[.val (.ref a1), .val (.int (3 : Int32))] [(.ref a1), (.int (3 : Int32))])) rfl rfl (hb hby d_prog_4_method_6_code_4)
  refine own_fw (A' := (T19.setTop (mkF m 7 #[.val (.ref a1), .val (.int (3 : Int32))] [(.ref c1), (.int (3 : Int32))]))) (fun t k => st19 _ k) ?_
  obtain ⟨cl20, Ar20, q20, S20, M20, H20, G20⟩ := id (V16.other W18 ne_c1_c2)
  refine own_fw (A' := (T19.setTop (mkF m 8 #[.val (.ref a1), .val (.int (3 : Int32))] [(.int (4 : Int32)), (.int (3 : Int32))]))) (fun t k => X19.arraylength hx (by rw [e19]; exact Ar20.1) (State.isArrayOf_alike hZ.alike Ar20.2.1) (g := (mkF m 7 #[.val (.ref a1), .val (.int (3 : Int32))] [(.ref c1), (.int (3 : Int32))])) rfl rfl (hb hby d_prog_4_method_6_code_7) _ (by rw [len_of S20 M20]; exact k)) ?_
  refine own_fw (A' := (T19.setTop (mkF m 11 #[.val (.ref a1), .val (.int (3 : Int32))] []))) (fun t k => XS.icmpNo X19.here hx rfl (hb hby d_prog_4_method_6_code_8) rfl (XT.ii_ge_f (by decide)) k) ?_
  refine own_fw (A' := (T19.setTop (mkF m 12 #[.val (.ref a1), .val (.int (3 : Int32))] [(.ref a1)]))) (fun t k => XS.aloadN X19.here hx rfl (hb hby d_prog_4_method_6_code_11) rfl rfl k) ?_
  obtain ⟨T21, X21, e21, st21⟩ := getF X19 hx hZ hown (host := "") (Or.inl (hw _ (List.mem_of_getElem? (i := 13) rfl))) Via.refl e19 ((((((P1.other W4 (Or.inl ne_a1_c1)).other W6 (Or.inl ne_a1_c2)).other W10 (Or.inl ne_a1_c1)).other W12 (Or.inl ne_a1_c2)).other W16 (Or.inl ne_a1_c1)).other W18 (Or.inl ne_a1_c2)) (g := (mkF m 12 #[.val (.ref a1), .val (.int (3 : Int32))] [(.ref a1)])) rfl rfl (hb hby d_prog_4_method_6_code_12)
  refine own_fw (A' := (T21.setTop (mkF m 15 #[.val (.ref a1), .val (.int (3 : Int32))] [(.ref c1)]))) (fun t k => st21 _ k) ?_
  refine own_fw (A' := (T21.setTop (mkF m 16 #[.val (.ref a1), .val (.int (3 : Int32))] [(.int (3 : Int32)), (.ref c1)]))) (fun t k => XS.iloadN X21.here hx rfl (hb hby d_prog_4_method_6_code_15) rfl k) ?_
  refine own_fw (A' := (T21.setTop (mkF m 17 #[.val (.ref a1), .val (.int (3 : Int32))] [(.long (0 : Int64)), (.int (3 : Int32)), (.ref c1)]))) (fun t k => XS.lconst X21.here hx rfl (hb hby d_prog_4_method_6_code_16) k) ?_
  obtain ⟨cl22, Ar22, q22, S22, M22, H22, G22⟩ := id (V16.other W18 ne_c1_c2)
  have hin22 : ¬ ((3 : Int32) < 0 ∨ cl22.slots.size ≤ ((3 : Int32)).toNatClampNeg) := inb_of S22 ⟨by decide, by decide⟩
  obtain ⟨T22, h22, X22, e22, W22, st22⟩ := stJ X21 hx hZ e21 Ar22 (j := (3 : Int32)) hin22 (g := (mkF m 17 #[.val (.ref a1), .val (.int (3 : Int32))] [(.long (0 : Int64)), (.int (3 : Int32)), (.ref c1)])) rfl rfl (hb hby d_prog_4_method_6_code_17)
  have V22 : Arv Z h22 c1 k1 .long (4 : Int32) [(.long (0 : Int64)), (.long (0 : Int64)), (.long (0 : Int64)), (.long (0 : Int64))] (.long (0 : Int64)) := Arv.set Ar22 q22 S22 M22 H22 G22 rfl W22 3 rfl (Nat.le_of_ble_eq_true rfl)
  have Nf22 := Fr.snoc X22 Nf18 g_c1
  have K22 : Keep h0 h22 [c1, c2] := K18.wr W22 (Or.inl (List.mem_of_getElem? (i := 0) rfl))
  have Z22 : n0 ≤ h22.size := Nat.le_trans Z18 (Keep.of_wr W22).1
  refine own_fw (A' := (T22.setTop (mkF m 18 #[.val (.ref a1), .val (.int (3 : Int32))] []))) (fun t k => st22 _ k) ?_
  refine own_fw (A' := (T22.setTop (mkF m 19 #[.val (.ref a1), .val (.int (3 : Int32))] [(.ref a1)]))) (fun t k => XS.aloadN X22.here hx rfl (hb hby d_prog_4_method_6_code_18) rfl rfl k) ?_
  obtain ⟨T23, X23, e23, st23⟩ := getF X22 hx hZ hown (host := "") (Or.inl (hw _ (List.mem_of_getElem? (i := 15) rfl))) Via.refl e22 (((((((P2.other W4 (Or.inl ne_a1_c1)).other W6 (Or.inl ne_a1_c2)).other W10 (Or.inl ne_a1_c1)).other W12 (Or.inl ne_a1_c2)).other W16 (Or.inl ne_a1_c1)).other W18 (Or.inl ne_a1_c2)).other W22 (Or.inl ne_a1_c1)) (g := (mkF m 19 #[.val (.ref a1), .val (.int (3 : Int32))] [(.ref a1)])) rfl rfl (hb hby d_prog_4_method_6_code_19)
  refine own_fw (A' := (T23.setTop (mkF m 22 #[.val (.ref a1), .val (.int (3 : Int32))] [(.ref c2)]))) (fun t k => st23 _ k) ?_
  refine own_fw (A' := (T23.setTop (mkF m 23 #[.val (.ref a1), .val (.int (3 : Int32))] [(.int (3 : Int32)), (.ref c2)]))) (fun t k => XS.iloadN X23.here hx rfl (hb hby d_prog_4_method_6_code_22) rfl k) ?_
  refine own_fw (A' := (T23.setTop (mkF m 24 #[.val (.ref a1), .val (.int (3 : Int32))] [(.long (0 : Int64)), (.int (3 : Int32)), (.ref c2)]))) (fun t k => XS.lconst X23.here hx rfl (hb hby d_prog_4_method_6_code_23) k) ?_
  obtain ⟨cl24, Ar24, q24, S24, M24, H24, G24⟩ := id (V18.other W22 (Ne.symm ne_c1_c2))
  have hin24 : ¬ ((3 : Int32) < 0 ∨ cl24.slots.size ≤ ((3 : Int32)).toNatClampNeg) := inb_of S24 ⟨by decide, by decide⟩
  obtain ⟨T24, h24, X24, e24, W24, st24⟩ := stJ X23 hx hZ e23 Ar24 (j := (3 : Int32)) hin24 (g := (mkF m 24 #[.val (.ref a1), .val (.int (3 : Int32))] [(.long (0 : Int64)), (.int (3 : Int32)), (.ref c2)])) rfl rfl (hb hby d_prog_4_method_6_code_24)
  have V24 : Arv Z h24 c2 k2 .long (4 : Int32) [(.long (0 : Int64)), (.long (0 : Int64)), (.long (0 : Int64)), (.long (0 : Int64))] (.long (0 : Int64)) := Arv.set Ar24 q24 S24 M24 H24 G24 rfl W24 3 rfl (Nat.le_of_ble_eq_true rfl)
  have Nf24 := Fr.snoc X24 Nf22 g_c2
  have K24 : Keep h0 h24 [c1, c2] := K22.wr W24 (Or.inl (List.mem_of_getElem? (i := 1) rfl))
  have Z24 : n0 ≤ h24.size := Nat.le_trans Z22 (Keep.of_wr W24).1
  refine own_fw (A' := (T24.setTop (mkF m 25 #[.val (.ref a1), .val (.int (3 : Int32))] []))) (fun t k => st24 _ k) ?_
  refine own_fw (A' := (T24.setTop (mkF m 28 #[.val (.ref a1), .val (.int (4 : Int32))] []))) (fun t k => XS.iinc X24.here hx rfl (hb hby d_prog_4_method_6_code_25) rfl (l' := #[.val (.ref a1), .val (.int (4 : Int32))]) rfl k) ?_
  refine own_fw (A' := (T24.setTop (mkF m 2 #[.val (.ref a1), .val (.int (4 : Int32))] []))) (fun t k => XS.goto X24.here hx rfl (pc0 := 28) (pc' := 2) rfl (hb hby d_prog_4_method_6_code_28) (by decide) (by decide) k) ?_
  refine own_fw (A' := (T24.setTop (mkF m 3 #[.val (.ref a1), .val (.int (4 : Int32))] [(.int (4 : Int32))]))) (fun t k => XS.iloadN X24.here hx rfl (hb hby d_prog_4_method_6_code_2) rfl k) ?_
  refine own_fw (A' := (T24.setTop (mkF m 4 #[.val (.ref a1), .val (.int (4 : Int32))] [(.ref a1), (.int (4 : Int32))]))) (fun t k => XS.aloadN X24.here hx rfl (hb hby d_prog_4_method_6_code_3) rfl rfl k) ?_
  obtain ⟨T25, X25, e25, st25⟩ := getF X24 hx hZ hown (host := "") (Or.inl (hw _ (List.mem_of_getElem? (i := 13) rfl))) Via.refl e24 ((((((((P1.other W4 (Or.inl ne_a1_c1)).other W6 (Or.inl ne_a1_c2)).other W10 (Or.inl ne_a1_c1)).other W12 (Or.inl ne_a1_c2)).other W16 (Or.inl ne_a1_c1)).other W18 (Or.inl ne_a1_c2)).other W22 (Or.inl ne_a1_c1)).other W24 (Or.inl ne_a1_c2)) (g := (mkF m 4 #[.val (.ref a1), .val (.int (4 : Int32))] [(.ref a1), (.int (4 : Int32))])) rfl rfl (hb hby d_prog_4_method_6_code_4)
  refine own_fw (A' := (T25.setTop (mkF m 7 #[.val (.ref a1), .val (.int (4 : Int32))] [(.ref c1), (.int (4 : Int32))]))) (fun t k => st25 _ k) ?_
  obtain ⟨cl26, Ar26, q26, S26, M26, H26, G26⟩ := id (V22.other W24 ne_c1_c2)
  refine own_fw (A' := (T25.setTop (mkF m 8 #[.val (.ref a1), .val (.int (4 : Int32))] [(.int (4 : Int32)), (.int (4 : Int32))]))) (fun t k => X25.arraylength hx (by rw [e25]; exact Ar26.1) (State.isArrayOf_alike hZ.alike Ar26.2.1) (g := (mkF m 7 #[.val (.ref a1), .val (.int (4 : Int32))] [(.ref c1), (.int (4 : Int32))])) rfl rfl (hb hby d_prog_4_method_6_code_7) _ (by rw [len_of S26 M26]; exact k)) ?_
  refine own_fw (A' := (T25.setTop (mkF m 31 #[.val (.ref a1), .val (.int (4 : Int32))] []))) (fun t k => XS.icmpYes X25.here hx rfl (pc0 := 8) (pc' := 31) rfl (hb hby d_prog_4_method_6_code_8) rfl (XT.ii_ge_t (by decide)) (by decide) (by decide) k) ?_
  obtain ⟨fs, hr, hrun, hended, hW, hsame⟩ := X25.leave (v := none) (fun _ => rfl)
  refine ⟨_, _, ?_, hrun, hended, _, _, rfl, ?_, ⟨_, rfl⟩, hW, hsame.mono (by decide) (by decide)⟩
  · exact X25.returnOut hx Bd.returns (hb hby d_prog_4_method_6_code_31) hr
  · show Q_rmClear Z a1 c1 c2 k1 k2 x0 x1 x2 x3 y0 y1 y2 y3 h0 n0 _ T25.heap _
    rw [e25]
    exact ⟨rfl, Nf24, K24, (V22.other W24 ne_c1_c2), V24⟩
theorem d_prog_4_method_2_code_0 : decode prog_4_method_2_code 0 = .ok (.aload_n 0, 1) := by decide +kernel
theorem d_prog_4_method_2_code_1 : decode prog_4_method_2_code 1 = .ok (.getfield 13, 3) := by decide +kernel
theorem d_prog_4_method_2_code_4 : decode prog_4_method_2_code 4 = .ok (.aload_n 1, 1) := by decide +kernel
theorem d_prog_4_method_2_code_5 : decode prog_4_method_2_code 5 = .ok (.invokevirtual 22, 3) := by decide +kernel
theorem d_prog_4_method_2_code_8 : decode prog_4_method_2_code 8 = .ok (.laload, 1) := by decide +kernel
theorem d_prog_4_method_2_code_9 : decode prog_4_method_2_code 9 = .ok (.lreturn, 1) := by decide +kernel
theorem ef_rmGc0 (m : MethodId) (a1 : Addr) (a2 : Addr) : entryFrame m #[(.ref a1), (.ref a2)] 2 = mkF m 0 #[.val (.ref a1), .val (.ref a2)] [] := by first | (simp [entryFrame, mkF, argsToLocals, Value.category]; done) | rfl
def Q_rmGc0 (Z : State) (a1 : Addr) (a2 : Addr) (c1 : Addr) (k1 : ClassId) (h0 : Heap) (n0 : Nat) (v : Option Value) (h : Heap) (L : List Loc) : Prop := v = some (.long (0 : Int64)) ∧ Fr n0 L ∧ h = h0
set_option maxRecDepth 65536 in
set_option maxHeartbeats 40000000 in
theorem rmGc0 (l : Launch) (Z : State) (a0 : Array Value) (hw : ∀ d ∈ tables_1, d.before a0 Z = true) (ws : List Jvm.Cond) (a1 : Addr) (a2 : Addr) (c1 : Addr) (k1 : ClassId) (h0 : Heap) (n0 : Nat) (Z0 : n0 ≤ h0.size) (P0 : Fld Z h0 a1 "com/example/spindle/spindle/DispatchTimes" "counts" "[J" (.ref c1)) (P1 : Arv Z h0 c1 k1 .long (4 : Int32) [(.long (0 : Int64)), (.long (0 : Int64)), (.long (0 : Int64)), (.long (0 : Int64))] (.long (0 : Int64))) (P2 : Exa Z h0 a2 "com/example/spindle/spindle/DispatchTimes$Band") (P3 : Fld Z h0 a2 "java/lang/Enum" "ordinal" "I" (.int (0 : Int32))) :
    MetFree l (⟨"com/example/spindle/spindle/DispatchTimes", "getCount", "(Lcom/example/spindle/spindle/DispatchTimes$Band;)J"⟩ : MethodName) (head1 (Jvm.Cond.code (⟨"com/example/spindle/spindle/DispatchTimes", "getCount", "(Lcom/example/spindle/spindle/DispatchTimes$Band;)J"⟩ : MethodName) prog_4_method_2_code 2 (some .long) :: ws) ({ frames := 1, cells := 0, slots := 0, locals := 13 } : Room)) (fun a U => a = #[(.ref a1), (.ref a2)] ∧ Z.Warmed39 U.vm ∧ U.heap = h0) (fun _ _ _ _ _ => True) (fun _ U o U' => ∃ v L, o = .returned v ∧ Q_rmGc0 Z a1 a2 c1 k1 h0 n0 v U'.heap L ∧ FrameEnd U o U' L ({ frames := 1, cells := 0, slots := 0, locals := 13 } : Room).cells ({ frames := 1, cells := 0, slots := 0, locals := 13 } : Room).slots) := by
  refine MetFree.of_bodySF (plainFor_of_name pn_com_example_spindle_spindle_DispatchTimes) hisR ?_
  intro p e s m args below meth c s₁ Bd hml0 hP hK
  obtain ⟨rfl, hZ, hh⟩ := hP
  have hx := Bd.exec
  have hby := Bd.bytes
  have hml : c.maxLocals = 2 := hml0
  have hown : s.vm.findClass "com/example/spindle/spindle/DispatchTimes" = some m.cls := findClass_of_methodNamed Bd.named
  have hnm := (name_of_methodNamed Bd.named Bd.method).1
  have X0 : Stand p l e ({ frames := 1, cells := 0, slots := 0, locals := 13 } : Room) s m #[(.ref a1), (.ref a2)] below meth c s₁ [] 0 0 := Stand.of_body Bd
  have e0 : s₁.heap = h0 := by rw [← hh, Bd.state]; rfl
  have N0 := Fr.nil n0
  refine own_fw (A' := (s₁.setTop (mkF m 0 #[.val (.ref a1), .val (.ref a2)] []))) (fun t k => castTop (ef_rmGc0 m a1 a2) k) ?_
  refine own_fw (A' := (s₁.setTop (mkF m 1 #[.val (.ref a1), .val (.ref a2)] [(.ref a1)]))) (fun t k => XS.aloadN X0.here hx rfl (hb hby d_prog_4_method_2_code_0) rfl rfl k) ?_
  obtain ⟨T1, X1, e1, st1⟩ := getF X0 hx hZ hown (host := "") (Or.inl (hw _ (List.mem_of_getElem? (i := 13) rfl))) Via.refl e0 P0 (g := (mkF m 1 #[.val (.ref a1), .val (.ref a2)] [(.ref a1)])) rfl rfl (hb hby d_prog_4_method_2_code_1)
  refine own_fw (A' := (T1.setTop (mkF m 4 #[.val (.ref a1), .val (.ref a2)] [(.ref c1)]))) (fun t k => st1 _ k) ?_
  refine own_fw (A' := (T1.setTop (mkF m 5 #[.val (.ref a1), .val (.ref a2)] [(.ref a2), (.ref c1)]))) (fun t k => XS.aloadN X1.here hx rfl (hb hby d_prog_4_method_2_code_4) rfl rfl k) ?_
  obtain ⟨cq2, kq2, qa2, qb2, qc2⟩ := isOf hZ e1 P2
  obtain ⟨_, _, ⟨T2, L2, k2, n2⟩, -, X2, ⟨Lc2, hQ2, l2, y2, z2⟩, st2⟩ := X1.virtualBackUp hx (x := (⟨"com/example/spindle/spindle/DispatchTimes$Band", "ordinal", "()I"⟩ : MethodName)) (y := (⟨"java/lang/Enum", "ordinal", "()I"⟩ : MethodName)) hown (mvT hZ (hw _ (List.mem_of_getElem? (i := 37) rfl))) (mvT hZ (hw _ (List.mem_of_getElem? (i := 38) rfl))) (mvT hZ (hw _ (List.mem_of_getElem? (i := 39) rfl))) (by decide) (mvT hZ (hw _ (List.mem_of_getElem? (i := 41) rfl))) (mvT hZ (hw _ (List.mem_of_getElem? (i := 40) rfl))) (backOf (W := 1) (rmOrd l Z a0 hw [] a2 (0 : Int32) h0 n0 Z0 P3) hZ (hw _ (List.mem_of_getElem? (i := 43) rfl)) (hw _ (List.mem_of_getElem? (i := 42) rfl)) (by decide) (by decide)) qa2 qc2 (g := (mkF m 5 #[.val (.ref a1), .val (.ref a2)] [(.ref a2), (.ref c1)])) rfl (by rw [hml]; rfl) (Steps.refl _) (argsL := []) (rest := [(.ref c1)]) (lenOf pd___I rfl) rfl (by show 2 * 0 + _ ≤ _; exact Nat.le_of_eq rfl) (hb hby d_prog_4_method_2_code_5) (fun _ _ => ⟨rfl, e1, (by decide : 0 + 0 ≤ _), (by decide : 0 + 0 ≤ _)⟩)
  dsimp only [Pt.U, Pt.locs, Pt.cells, Pt.slots] at X2 l2 y2 z2 st2 hQ2
  subst l2 y2 z2
  obtain ⟨rfl, Nq2, e2⟩ := hQ2
  have Nf2 := Fr.app N0 Nq2
  refine own_fw (A' := (T2.setTop (mkF m 8 #[.val (.ref a1), .val (.ref a2)] [(.int (0 : Int32)), (.ref c1)]))) (fun t k => st2.trans k) ?_
  obtain ⟨cl3, Ar3, q3, S3, M3, H3, G3⟩ := id P1
  have hin3 : ¬ ((0 : Int32) < 0 ∨ cl3.slots.size ≤ ((0 : Int32)).toNatClampNeg) := inb_of S3 ⟨by decide, by decide⟩
  have hat3 : cl3.slots[((0 : Int32)).toNatClampNeg]? = some (.long (0 : Int64)) := H3.at hin3 rfl
  refine own_fw (A' := (T2.setTop (mkF m 9 #[.val (.ref a1), .val (.ref a2)] [(.long (0 : Int64))]))) (fun t k => X2.laload hx (j := (0 : Int32)) (v := (.long (0 : Int64))) (by rw [e2]; exact Ar3.1) (State.isArrayOf_alike hZ.alike Ar3.2.1) Ar3.2.2 hin3 hat3 (g := (mkF m 8 #[.val (.ref a1), .val (.ref a2)] [(.int (0 : Int32)), (.ref c1)])) rfl rfl (hb hby d_prog_4_method_2_code_8) _ k) ?_
  obtain ⟨fs, hr, hrun, hended, hW, hsame⟩ := X2.leave (v := some (.long (0 : Int64))) (fun h => by rw [Bd.returns] at h; cases h)
  refine ⟨_, _, ?_, hrun, hended, _, _, rfl, ?_, ⟨_, rfl⟩, hW, hsame.mono (by decide) (by decide)⟩
  · exact retOut X2 hx Bd.returns rfl (Or.inr (Or.inl ⟨rfl, rfl, _, rfl⟩)) (hb hby d_prog_4_method_2_code_9) hr
  · show Q_rmGc0 Z a1 a2 c1 k1 h0 n0 _ T2.heap _
    rw [e2]
    exact ⟨rfl, Nf2, rfl⟩
theorem ef_rmGc1 (m : MethodId) (a1 : Addr) (a2 : Addr) : entryFrame m #[(.ref a1), (.ref a2)] 2 = mkF m 0 #[.val (.ref a1), .val (.ref a2)] [] := by first | (simp [entryFrame, mkF, argsToLocals, Value.category]; done) | rfl
def Q_rmGc1 (Z : State) (a1 : Addr) (a2 : Addr) (c1 : Addr) (k1 : ClassId) (h0 : Heap) (n0 : Nat) (v : Option Value) (h : Heap) (L : List Loc) : Prop := v = some (.long (0 : Int64)) ∧ Fr n0 L ∧ h = h0
set_option maxRecDepth 65536 in
set_option maxHeartbeats 40000000 in
theorem rmGc1 (l : Launch) (Z : State) (a0 : Array Value) (hw : ∀ d ∈ tables_1, d.before a0 Z = true) (ws : List Jvm.Cond) (a1 : Addr) (a2 : Addr) (c1 : Addr) (k1 : ClassId) (h0 : Heap) (n0 : Nat) (Z0 : n0 ≤ h0.size) (P0 : Fld Z h0 a1 "com/example/spindle/spindle/DispatchTimes" "counts" "[J" (.ref c1)) (P1 : Arv Z h0 c1 k1 .long (4 : Int32) [(.long (0 : Int64)), (.long (0 : Int64)), (.long (0 : Int64)), (.long (0 : Int64))] (.long (0 : Int64))) (P2 : Exa Z h0 a2 "com/example/spindle/spindle/DispatchTimes$Band") (P3 : Fld Z h0 a2 "java/lang/Enum" "ordinal" "I" (.int (1 : Int32))) :
    MetFree l (⟨"com/example/spindle/spindle/DispatchTimes", "getCount", "(Lcom/example/spindle/spindle/DispatchTimes$Band;)J"⟩ : MethodName) (head1 (Jvm.Cond.code (⟨"com/example/spindle/spindle/DispatchTimes", "getCount", "(Lcom/example/spindle/spindle/DispatchTimes$Band;)J"⟩ : MethodName) prog_4_method_2_code 2 (some .long) :: ws) ({ frames := 1, cells := 0, slots := 0, locals := 13 } : Room)) (fun a U => a = #[(.ref a1), (.ref a2)] ∧ Z.Warmed39 U.vm ∧ U.heap = h0) (fun _ _ _ _ _ => True) (fun _ U o U' => ∃ v L, o = .returned v ∧ Q_rmGc1 Z a1 a2 c1 k1 h0 n0 v U'.heap L ∧ FrameEnd U o U' L ({ frames := 1, cells := 0, slots := 0, locals := 13 } : Room).cells ({ frames := 1, cells := 0, slots := 0, locals := 13 } : Room).slots) := by
  refine MetFree.of_bodySF (plainFor_of_name pn_com_example_spindle_spindle_DispatchTimes) hisR ?_
  intro p e s m args below meth c s₁ Bd hml0 hP hK
  obtain ⟨rfl, hZ, hh⟩ := hP
  have hx := Bd.exec
  have hby := Bd.bytes
  have hml : c.maxLocals = 2 := hml0
  have hown : s.vm.findClass "com/example/spindle/spindle/DispatchTimes" = some m.cls := findClass_of_methodNamed Bd.named
  have hnm := (name_of_methodNamed Bd.named Bd.method).1
  have X0 : Stand p l e ({ frames := 1, cells := 0, slots := 0, locals := 13 } : Room) s m #[(.ref a1), (.ref a2)] below meth c s₁ [] 0 0 := Stand.of_body Bd
  have e0 : s₁.heap = h0 := by rw [← hh, Bd.state]; rfl
  have N0 := Fr.nil n0
  refine own_fw (A' := (s₁.setTop (mkF m 0 #[.val (.ref a1), .val (.ref a2)] []))) (fun t k => castTop (ef_rmGc1 m a1 a2) k) ?_
  refine own_fw (A' := (s₁.setTop (mkF m 1 #[.val (.ref a1), .val (.ref a2)] [(.ref a1)]))) (fun t k => XS.aloadN X0.here hx rfl (hb hby d_prog_4_method_2_code_0) rfl rfl k) ?_
  obtain ⟨T1, X1, e1, st1⟩ := getF X0 hx hZ hown (host := "") (Or.inl (hw _ (List.mem_of_getElem? (i := 13) rfl))) Via.refl e0 P0 (g := (mkF m 1 #[.val (.ref a1), .val (.ref a2)] [(.ref a1)])) rfl rfl (hb hby d_prog_4_method_2_code_1)
  refine own_fw (A' := (T1.setTop (mkF m 4 #[.val (.ref a1), .val (.ref a2)] [(.ref c1)]))) (fun t k => st1 _ k) ?_
  refine own_fw (A' := (T1.setTop (mkF m 5 #[.val (.ref a1), .val (.ref a2)] [(.ref a2), (.ref c1)]))) (fun t k => XS.aloadN X1.here hx rfl (hb hby d_prog_4_method_2_code_4) rfl rfl k) ?_
  obtain ⟨cq2, kq2, qa2, qb2, qc2⟩ := isOf hZ e1 P2
  obtain ⟨_, _, ⟨T2, L2, k2, n2⟩, -, X2, ⟨Lc2, hQ2, l2, y2, z2⟩, st2⟩ := X1.virtualBackUp hx (x := (⟨"com/example/spindle/spindle/DispatchTimes$Band", "ordinal", "()I"⟩ : MethodName)) (y := (⟨"java/lang/Enum", "ordinal", "()I"⟩ : MethodName)) hown (mvT hZ (hw _ (List.mem_of_getElem? (i := 37) rfl))) (mvT hZ (hw _ (List.mem_of_getElem? (i := 38) rfl))) (mvT hZ (hw _ (List.mem_of_getElem? (i := 39) rfl))) (by decide) (mvT hZ (hw _ (List.mem_of_getElem? (i := 41) rfl))) (mvT hZ (hw _ (List.mem_of_getElem? (i := 40) rfl))) (backOf (W := 1) (rmOrd l Z a0 hw [] a2 (1 : Int32) h0 n0 Z0 P3) hZ (hw _ (List.mem_of_getElem? (i := 43) rfl)) (hw _ (List.mem_of_getElem? (i := 42) rfl)) (by decide) (by decide)) qa2 qc2 (g := (mkF m 5 #[.val (.ref a1), .val (.ref a2)] [(.ref a2), (.ref c1)])) rfl (by rw [hml]; rfl) (Steps.refl _) (argsL := []) (rest := [(.ref c1)]) (lenOf pd___I rfl) rfl (by show 2 * 0 + _ ≤ _; exact Nat.le_of_eq rfl) (hb hby d_prog_4_method_2_code_5) (fun _ _ => ⟨rfl, e1, (by decide : 0 + 0 ≤ _), (by decide : 0 + 0 ≤ _)⟩)
  dsimp only [Pt.U, Pt.locs, Pt.cells, Pt.slots] at X2 l2 y2 z2 st2 hQ2
  subst l2 y2 z2
  obtain ⟨rfl, Nq2, e2⟩ := hQ2
  have Nf2 := Fr.app N0 Nq2
  refine own_fw (A' := (T2.setTop (mkF m 8 #[.val (.ref a1), .val (.ref a2)] [(.int (1 : Int32)), (.ref c1)]))) (fun t k => st2.trans k) ?_
  obtain ⟨cl3, Ar3, q3, S3, M3, H3, G3⟩ := id P1
  have hin3 : ¬ ((1 : Int32) < 0 ∨ cl3.slots.size ≤ ((1 : Int32)).toNatClampNeg) := inb_of S3 ⟨by decide, by decide⟩
  have hat3 : cl3.slots[((1 : Int32)).toNatClampNeg]? = some (.long (0 : Int64)) := H3.at hin3 rfl
  refine own_fw (A' := (T2.setTop (mkF m 9 #[.val (.ref a1), .val (.ref a2)] [(.long (0 : Int64))]))) (fun t k => X2.laload hx (j := (1 : Int32)) (v := (.long (0 : Int64))) (by rw [e2]; exact Ar3.1) (State.isArrayOf_alike hZ.alike Ar3.2.1) Ar3.2.2 hin3 hat3 (g := (mkF m 8 #[.val (.ref a1), .val (.ref a2)] [(.int (1 : Int32)), (.ref c1)])) rfl rfl (hb hby d_prog_4_method_2_code_8) _ k) ?_
  obtain ⟨fs, hr, hrun, hended, hW, hsame⟩ := X2.leave (v := some (.long (0 : Int64))) (fun h => by rw [Bd.returns] at h; cases h)
  refine ⟨_, _, ?_, hrun, hended, _, _, rfl, ?_, ⟨_, rfl⟩, hW, hsame.mono (by decide) (by decide)⟩
  · exact retOut X2 hx Bd.returns rfl (Or.inr (Or.inl ⟨rfl, rfl, _, rfl⟩)) (hb hby d_prog_4_method_2_code_9) hr
  · show Q_rmGc1 Z a1 a2 c1 k1 h0 n0 _ T2.heap _
    rw [e2]
    exact ⟨rfl, Nf2, rfl⟩
theorem ef_rmGc2 (m : MethodId) (a1 : Addr) (a2 : Addr) : entryFrame m #[(.ref a1), (.ref a2)] 2 = mkF m 0 #[.val (.ref a1), .val (.ref a2)] [] := by first | (simp [entryFrame, mkF, argsToLocals, Value.category]; done) | rfl
def Q_rmGc2 (Z : State) (a1 : Addr) (a2 : Addr) (c1 : Addr) (k1 : ClassId) (h0 : Heap) (n0 : Nat) (v : Option Value) (h : Heap) (L : List Loc) : Prop := v = some (.long (0 : Int64)) ∧ Fr n0 L ∧ h = h0
set_option maxRecDepth 65536 in
set_option maxHeartbeats 40000000 in
theorem rmGc2 (l : Launch) (Z : State) (a0 : Array Value) (hw : ∀ d ∈ tables_1, d.before a0 Z = true) (ws : List Jvm.Cond) (a1 : Addr) (a2 : Addr) (c1 : Addr) (k1 : ClassId) (h0 : Heap) (n0 : Nat) (Z0 : n0 ≤ h0.size) (P0 : Fld Z h0 a1 "com/example/spindle/spindle/DispatchTimes" "counts" "[J" (.ref c1)) (P1 : Arv Z h0 c1 k1 .long (4 : Int32) [(.long (0 : Int64)), (.long (0 : Int64)), (.long (0 : Int64)), (.long (0 : Int64))] (.long (0 : Int64))) (P2 : Exa Z h0 a2 "com/example/spindle/spindle/DispatchTimes$Band") (P3 : Fld Z h0 a2 "java/lang/Enum" "ordinal" "I" (.int (2 : Int32))) :
    MetFree l (⟨"com/example/spindle/spindle/DispatchTimes", "getCount", "(Lcom/example/spindle/spindle/DispatchTimes$Band;)J"⟩ : MethodName) (head1 (Jvm.Cond.code (⟨"com/example/spindle/spindle/DispatchTimes", "getCount", "(Lcom/example/spindle/spindle/DispatchTimes$Band;)J"⟩ : MethodName) prog_4_method_2_code 2 (some .long) :: ws) ({ frames := 1, cells := 0, slots := 0, locals := 13 } : Room)) (fun a U => a = #[(.ref a1), (.ref a2)] ∧ Z.Warmed39 U.vm ∧ U.heap = h0) (fun _ _ _ _ _ => True) (fun _ U o U' => ∃ v L, o = .returned v ∧ Q_rmGc2 Z a1 a2 c1 k1 h0 n0 v U'.heap L ∧ FrameEnd U o U' L ({ frames := 1, cells := 0, slots := 0, locals := 13 } : Room).cells ({ frames := 1, cells := 0, slots := 0, locals := 13 } : Room).slots) := by
  refine MetFree.of_bodySF (plainFor_of_name pn_com_example_spindle_spindle_DispatchTimes) hisR ?_
  intro p e s m args below meth c s₁ Bd hml0 hP hK
  obtain ⟨rfl, hZ, hh⟩ := hP
  have hx := Bd.exec
  have hby := Bd.bytes
  have hml : c.maxLocals = 2 := hml0
  have hown : s.vm.findClass "com/example/spindle/spindle/DispatchTimes" = some m.cls := findClass_of_methodNamed Bd.named
  have hnm := (name_of_methodNamed Bd.named Bd.method).1
  have X0 : Stand p l e ({ frames := 1, cells := 0, slots := 0, locals := 13 } : Room) s m #[(.ref a1), (.ref a2)] below meth c s₁ [] 0 0 := Stand.of_body Bd
  have e0 : s₁.heap = h0 := by rw [← hh, Bd.state]; rfl
  have N0 := Fr.nil n0
  refine own_fw (A' := (s₁.setTop (mkF m 0 #[.val (.ref a1), .val (.ref a2)] []))) (fun t k => castTop (ef_rmGc2 m a1 a2) k) ?_
  refine own_fw (A' := (s₁.setTop (mkF m 1 #[.val (.ref a1), .val (.ref a2)] [(.ref a1)]))) (fun t k => XS.aloadN X0.here hx rfl (hb hby d_prog_4_method_2_code_0) rfl rfl k) ?_
  obtain ⟨T1, X1, e1, st1⟩ := getF X0 hx hZ hown (host := "") (Or.inl (hw _ (List.mem_of_getElem? (i := 13) rfl))) Via.refl e0 P0 (g := (mkF m 1 #[.val (.ref a1), .val (.ref a2)] [(.ref a1)])) rfl rfl (hb hby d_prog_4_method_2_code_1)
  refine own_fw (A' := (T1.setTop (mkF m 4 #[.val (.ref a1), .val (.ref a2)] [(.ref c1)]))) (fun t k => st1 _ k) ?_
  refine own_fw (A' := (T1.setTop (mkF m 5 #[.val (.ref a1), .val (.ref a2)] [(.ref a2), (.ref c1)]))) (fun t k => XS.aloadN X1.here hx rfl (hb hby d_prog_4_method_2_code_4) rfl rfl k) ?_
  obtain ⟨cq2, kq2, qa2, qb2, qc2⟩ := isOf hZ e1 P2
  obtain ⟨_, _, ⟨T2, L2, k2, n2⟩, -, X2, ⟨Lc2, hQ2, l2, y2, z2⟩, st2⟩ := X1.virtualBackUp hx (x := (⟨"com/example/spindle/spindle/DispatchTimes$Band", "ordinal", "()I"⟩ : MethodName)) (y := (⟨"java/lang/Enum", "ordinal", "()I"⟩ : MethodName)) hown (mvT hZ (hw _ (List.mem_of_getElem? (i := 37) rfl))) (mvT hZ (hw _ (List.mem_of_getElem? (i := 38) rfl))) (mvT hZ (hw _ (List.mem_of_getElem? (i := 39) rfl))) (by decide) (mvT hZ (hw _ (List.mem_of_getElem? (i := 41) rfl))) (mvT hZ (hw _ (List.mem_of_getElem? (i := 40) rfl))) (backOf (W := 1) (rmOrd l Z a0 hw [] a2 (2 : Int32) h0 n0 Z0 P3) hZ (hw _ (List.mem_of_getElem? (i := 43) rfl)) (hw _ (List.mem_of_getElem? (i := 42) rfl)) (by decide) (by decide)) qa2 qc2 (g := (mkF m 5 #[.val (.ref a1), .val (.ref a2)] [(.ref a2), (.ref c1)])) rfl (by rw [hml]; rfl) (Steps.refl _) (argsL := []) (rest := [(.ref c1)]) (lenOf pd___I rfl) rfl (by show 2 * 0 + _ ≤ _; exact Nat.le_of_eq rfl) (hb hby d_prog_4_method_2_code_5) (fun _ _ => ⟨rfl, e1, (by decide : 0 + 0 ≤ _), (by decide : 0 + 0 ≤ _)⟩)
  dsimp only [Pt.U, Pt.locs, Pt.cells, Pt.slots] at X2 l2 y2 z2 st2 hQ2
  subst l2 y2 z2
  obtain ⟨rfl, Nq2, e2⟩ := hQ2
  have Nf2 := Fr.app N0 Nq2
  refine own_fw (A' := (T2.setTop (mkF m 8 #[.val (.ref a1), .val (.ref a2)] [(.int (2 : Int32)), (.ref c1)]))) (fun t k => st2.trans k) ?_
  obtain ⟨cl3, Ar3, q3, S3, M3, H3, G3⟩ := id P1
  have hin3 : ¬ ((2 : Int32) < 0 ∨ cl3.slots.size ≤ ((2 : Int32)).toNatClampNeg) := inb_of S3 ⟨by decide, by decide⟩
  have hat3 : cl3.slots[((2 : Int32)).toNatClampNeg]? = some (.long (0 : Int64)) := H3.at hin3 rfl
  refine own_fw (A' := (T2.setTop (mkF m 9 #[.val (.ref a1), .val (.ref a2)] [(.long (0 : Int64))]))) (fun t k => X2.laload hx (j := (2 : Int32)) (v := (.long (0 : Int64))) (by rw [e2]; exact Ar3.1) (State.isArrayOf_alike hZ.alike Ar3.2.1) Ar3.2.2 hin3 hat3 (g := (mkF m 8 #[.val (.ref a1), .val (.ref a2)] [(.int (2 : Int32)), (.ref c1)])) rfl rfl (hb hby d_prog_4_method_2_code_8) _ k) ?_
  obtain ⟨fs, hr, hrun, hended, hW, hsame⟩ := X2.leave (v := some (.long (0 : Int64))) (fun h => by rw [Bd.returns] at h; cases h)
  refine ⟨_, _, ?_, hrun, hended, _, _, rfl, ?_, ⟨_, rfl⟩, hW, hsame.mono (by decide) (by decide)⟩
  · exact retOut X2 hx Bd.returns rfl (Or.inr (Or.inl ⟨rfl, rfl, _, rfl⟩)) (hb hby d_prog_4_method_2_code_9) hr
  · show Q_rmGc2 Z a1 a2 c1 k1 h0 n0 _ T2.heap _
    rw [e2]
    exact ⟨rfl, Nf2, rfl⟩
theorem ef_rmGc3 (m : MethodId) (a1 : Addr) (a2 : Addr) : entryFrame m #[(.ref a1), (.ref a2)] 2 = mkF m 0 #[.val (.ref a1), .val (.ref a2)] [] := by first | (simp [entryFrame, mkF, argsToLocals, Value.category]; done) | rfl
def Q_rmGc3 (Z : State) (a1 : Addr) (a2 : Addr) (c1 : Addr) (k1 : ClassId) (h0 : Heap) (n0 : Nat) (v : Option Value) (h : Heap) (L : List Loc) : Prop := v = some (.long (0 : Int64)) ∧ Fr n0 L ∧ h = h0
set_option maxRecDepth 65536 in
set_option maxHeartbeats 40000000 in
theorem rmGc3 (l : Launch) (Z : State) (a0 : Array Value) (hw : ∀ d ∈ tables_1, d.before a0 Z = true) (ws : List Jvm.Cond) (a1 : Addr) (a2 : Addr) (c1 : Addr) (k1 : ClassId) (h0 : Heap) (n0 : Nat) (Z0 : n0 ≤ h0.size) (P0 : Fld Z h0 a1 "com/example/spindle/spindle/DispatchTimes" "counts" "[J" (.ref c1)) (P1 : Arv Z h0 c1 k1 .long (4 : Int32) [(.long (0 : Int64)), (.long (0 : Int64)), (.long (0 : Int64)), (.long (0 : Int64))] (.long (0 : Int64))) (P2 : Exa Z h0 a2 "com/example/spindle/spindle/DispatchTimes$Band") (P3 : Fld Z h0 a2 "java/lang/Enum" "ordinal" "I" (.int (3 : Int32))) :
    MetFree l (⟨"com/example/spindle/spindle/DispatchTimes", "getCount", "(Lcom/example/spindle/spindle/DispatchTimes$Band;)J"⟩ : MethodName) (head1 (Jvm.Cond.code (⟨"com/example/spindle/spindle/DispatchTimes", "getCount", "(Lcom/example/spindle/spindle/DispatchTimes$Band;)J"⟩ : MethodName) prog_4_method_2_code 2 (some .long) :: ws) ({ frames := 1, cells := 0, slots := 0, locals := 13 } : Room)) (fun a U => a = #[(.ref a1), (.ref a2)] ∧ Z.Warmed39 U.vm ∧ U.heap = h0) (fun _ _ _ _ _ => True) (fun _ U o U' => ∃ v L, o = .returned v ∧ Q_rmGc3 Z a1 a2 c1 k1 h0 n0 v U'.heap L ∧ FrameEnd U o U' L ({ frames := 1, cells := 0, slots := 0, locals := 13 } : Room).cells ({ frames := 1, cells := 0, slots := 0, locals := 13 } : Room).slots) := by
  refine MetFree.of_bodySF (plainFor_of_name pn_com_example_spindle_spindle_DispatchTimes) hisR ?_
  intro p e s m args below meth c s₁ Bd hml0 hP hK
  obtain ⟨rfl, hZ, hh⟩ := hP
  have hx := Bd.exec
  have hby := Bd.bytes
  have hml : c.maxLocals = 2 := hml0
  have hown : s.vm.findClass "com/example/spindle/spindle/DispatchTimes" = some m.cls := findClass_of_methodNamed Bd.named
  have hnm := (name_of_methodNamed Bd.named Bd.method).1
  have X0 : Stand p l e ({ frames := 1, cells := 0, slots := 0, locals := 13 } : Room) s m #[(.ref a1), (.ref a2)] below meth c s₁ [] 0 0 := Stand.of_body Bd
  have e0 : s₁.heap = h0 := by rw [← hh, Bd.state]; rfl
  have N0 := Fr.nil n0
  refine own_fw (A' := (s₁.setTop (mkF m 0 #[.val (.ref a1), .val (.ref a2)] []))) (fun t k => castTop (ef_rmGc3 m a1 a2) k) ?_
  refine own_fw (A' := (s₁.setTop (mkF m 1 #[.val (.ref a1), .val (.ref a2)] [(.ref a1)]))) (fun t k => XS.aloadN X0.here hx rfl (hb hby d_prog_4_method_2_code_0) rfl rfl k) ?_
  obtain ⟨T1, X1, e1, st1⟩ := getF X0 hx hZ hown (host := "") (Or.inl (hw _ (List.mem_of_getElem? (i := 13) rfl))) Via.refl e0 P0 (g := (mkF m 1 #[.val (.ref a1), .val (.ref a2)] [(.ref a1)])) rfl rfl (hb hby d_prog_4_method_2_code_1)
  refine own_fw (A' := (T1.setTop (mkF m 4 #[.val (.ref a1), .val (.ref a2)] [(.ref c1)]))) (fun t k => st1 _ k) ?_
  refine own_fw (A' := (T1.setTop (mkF m 5 #[.val (.ref a1), .val (.ref a2)] [(.ref a2), (.ref c1)]))) (fun t k => XS.aloadN X1.here hx rfl (hb hby d_prog_4_method_2_code_4) rfl rfl k) ?_
  obtain ⟨cq2, kq2, qa2, qb2, qc2⟩ := isOf hZ e1 P2
  obtain ⟨_, _, ⟨T2, L2, k2, n2⟩, -, X2, ⟨Lc2, hQ2, l2, y2, z2⟩, st2⟩ := X1.virtualBackUp hx (x := (⟨"com/example/spindle/spindle/DispatchTimes$Band", "ordinal", "()I"⟩ : MethodName)) (y := (⟨"java/lang/Enum", "ordinal", "()I"⟩ : MethodName)) hown (mvT hZ (hw _ (List.mem_of_getElem? (i := 37) rfl))) (mvT hZ (hw _ (List.mem_of_getElem? (i := 38) rfl))) (mvT hZ (hw _ (List.mem_of_getElem? (i := 39) rfl))) (by decide) (mvT hZ (hw _ (List.mem_of_getElem? (i := 41) rfl))) (mvT hZ (hw _ (List.mem_of_getElem? (i := 40) rfl))) (backOf (W := 1) (rmOrd l Z a0 hw [] a2 (3 : Int32) h0 n0 Z0 P3) hZ (hw _ (List.mem_of_getElem? (i := 43) rfl)) (hw _ (List.mem_of_getElem? (i := 42) rfl)) (by decide) (by decide)) qa2 qc2 (g := (mkF m 5 #[.val (.ref a1), .val (.ref a2)] [(.ref a2), (.ref c1)])) rfl (by rw [hml]; rfl) (Steps.refl _) (argsL := []) (rest := [(.ref c1)]) (lenOf pd___I rfl) rfl (by show 2 * 0 + _ ≤ _; exact Nat.le_of_eq rfl) (hb hby d_prog_4_method_2_code_5) (fun _ _ => ⟨rfl, e1, (by decide : 0 + 0 ≤ _), (by decide : 0 + 0 ≤ _)⟩)
  dsimp only [Pt.U, Pt.locs, Pt.cells, Pt.slots] at X2 l2 y2 z2 st2 hQ2
  subst l2 y2 z2
  obtain ⟨rfl, Nq2, e2⟩ := hQ2
  have Nf2 := Fr.app N0 Nq2
  refine own_fw (A' := (T2.setTop (mkF m 8 #[.val (.ref a1), .val (.ref a2)] [(.int (3 : Int32)), (.ref c1)]))) (fun t k => st2.trans k) ?_
  obtain ⟨cl3, Ar3, q3, S3, M3, H3, G3⟩ := id P1
  have hin3 : ¬ ((3 : Int32) < 0 ∨ cl3.slots.size ≤ ((3 : Int32)).toNatClampNeg) := inb_of S3 ⟨by decide, by decide⟩
  have hat3 : cl3.slots[((3 : Int32)).toNatClampNeg]? = some (.long (0 : Int64)) := H3.at hin3 rfl
  refine own_fw (A' := (T2.setTop (mkF m 9 #[.val (.ref a1), .val (.ref a2)] [(.long (0 : Int64))]))) (fun t k => X2.laload hx (j := (3 : Int32)) (v := (.long (0 : Int64))) (by rw [e2]; exact Ar3.1) (State.isArrayOf_alike hZ.alike Ar3.2.1) Ar3.2.2 hin3 hat3 (g := (mkF m 8 #[.val (.ref a1), .val (.ref a2)] [(.int (3 : Int32)), (.ref c1)])) rfl rfl (hb hby d_prog_4_method_2_code_8) _ k) ?_
  obtain ⟨fs, hr, hrun, hended, hW, hsame⟩ := X2.leave (v := some (.long (0 : Int64))) (fun h => by rw [Bd.returns] at h; cases h)
  refine ⟨_, _, ?_, hrun, hended, _, _, rfl, ?_, ⟨_, rfl⟩, hW, hsame.mono (by decide) (by decide)⟩
  · exact retOut X2 hx Bd.returns rfl (Or.inr (Or.inl ⟨rfl, rfl, _, rfl⟩)) (hb hby d_prog_4_method_2_code_9) hr
  · show Q_rmGc3 Z a1 a2 c1 k1 h0 n0 _ T2.heap _
    rw [e2]
    exact ⟨rfl, Nf2, rfl⟩
theorem d_prog_4_method_3_code_0 : decode prog_4_method_3_code 0 = .ok (.aload_n 0, 1) := by decide +kernel
theorem d_prog_4_method_3_code_1 : decode prog_4_method_3_code 1 = .ok (.getfield 19, 3) := by decide +kernel
theorem d_prog_4_method_3_code_4 : decode prog_4_method_3_code 4 = .ok (.aload_n 1, 1) := by decide +kernel
theorem d_prog_4_method_3_code_5 : decode prog_4_method_3_code 5 = .ok (.invokevirtual 22, 3) := by decide +kernel
theorem d_prog_4_method_3_code_8 : decode prog_4_method_3_code 8 = .ok (.laload, 1) := by decide +kernel
theorem d_prog_4_method_3_code_9 : decode prog_4_method_3_code 9 = .ok (.lreturn, 1) := by decide +kernel
theorem ef_rmGt0 (m : MethodId) (a1 : Addr) (a2 : Addr) : entryFrame m #[(.ref a1), (.ref a2)] 2 = mkF m 0 #[.val (.ref a1), .val (.ref a2)] [] := by first | (simp [entryFrame, mkF, argsToLocals, Value.category]; done) | rfl
def Q_rmGt0 (Z : State) (a1 : Addr) (a2 : Addr) (c1 : Addr) (k1 : ClassId) (h0 : Heap) (n0 : Nat) (v : Option Value) (h : Heap) (L : List Loc) : Prop := v = some (.long (0 : Int64)) ∧ Fr n0 L ∧ h = h0
set_option maxRecDepth 65536 in
set_option maxHeartbeats 40000000 in
theorem rmGt0 (l : Launch) (Z : State) (a0 : Array Value) (hw : ∀ d ∈ tables_1, d.before a0 Z = true) (ws : List Jvm.Cond) (a1 : Addr) (a2 : Addr) (c1 : Addr) (k1 : ClassId) (h0 : Heap) (n0 : Nat) (Z0 : n0 ≤ h0.size) (P0 : Fld Z h0 a1 "com/example/spindle/spindle/DispatchTimes" "totalMillis" "[J" (.ref c1)) (P1 : Arv Z h0 c1 k1 .long (4 : Int32) [(.long (0 : Int64)), (.long (0 : Int64)), (.long (0 : Int64)), (.long (0 : Int64))] (.long (0 : Int64))) (P2 : Exa Z h0 a2 "com/example/spindle/spindle/DispatchTimes$Band") (P3 : Fld Z h0 a2 "java/lang/Enum" "ordinal" "I" (.int (0 : Int32))) :
    MetFree l (⟨"com/example/spindle/spindle/DispatchTimes", "getTotalMillis", "(Lcom/example/spindle/spindle/DispatchTimes$Band;)J"⟩ : MethodName) (head1 (Jvm.Cond.code (⟨"com/example/spindle/spindle/DispatchTimes", "getTotalMillis", "(Lcom/example/spindle/spindle/DispatchTimes$Band;)J"⟩ : MethodName) prog_4_method_3_code 2 (some .long) :: ws) ({ frames := 1, cells := 0, slots := 0, locals := 13 } : Room)) (fun a U => a = #[(.ref a1), (.ref a2)] ∧ Z.Warmed39 U.vm ∧ U.heap = h0) (fun _ _ _ _ _ => True) (fun _ U o U' => ∃ v L, o = .returned v ∧ Q_rmGt0 Z a1 a2 c1 k1 h0 n0 v U'.heap L ∧ FrameEnd U o U' L ({ frames := 1, cells := 0, slots := 0, locals := 13 } : Room).cells ({ frames := 1, cells := 0, slots := 0, locals := 13 } : Room).slots) := by
  refine MetFree.of_bodySF (plainFor_of_name pn_com_example_spindle_spindle_DispatchTimes) hisR ?_
  intro p e s m args below meth c s₁ Bd hml0 hP hK
  obtain ⟨rfl, hZ, hh⟩ := hP
  have hx := Bd.exec
  have hby := Bd.bytes
  have hml : c.maxLocals = 2 := hml0
  have hown : s.vm.findClass "com/example/spindle/spindle/DispatchTimes" = some m.cls := findClass_of_methodNamed Bd.named
  have hnm := (name_of_methodNamed Bd.named Bd.method).1
  have X0 : Stand p l e ({ frames := 1, cells := 0, slots := 0, locals := 13 } : Room) s m #[(.ref a1), (.ref a2)] below meth c s₁ [] 0 0 := Stand.of_body Bd
  have e0 : s₁.heap = h0 := by rw [← hh, Bd.state]; rfl
  have N0 := Fr.nil n0
  refine own_fw (A' := (s₁.setTop (mkF m 0 #[.val (.ref a1), .val (.ref a2)] []))) (fun t k => castTop (ef_rmGt0 m a1 a2) k) ?_
  refine own_fw (A' := (s₁.setTop (mkF m 1 #[.val (.ref a1), .val (.ref a2)] [(.ref a1)]))) (fun t k => XS.aloadN X0.here hx rfl (hb hby d_prog_4_method_3_code_0) rfl rfl k) ?_
  obtain ⟨T1, X1, e1, st1⟩ := getF X0 hx hZ hown (host := "") (Or.inl (hw _ (List.mem_of_getElem? (i := 15) rfl))) Via.refl e0 P0 (g := (mkF m 1 #[.val (.ref a1), .val (.ref a2)] [(.ref a1)])) rfl rfl (hb hby d_prog_4_method_3_code_1)
  refine own_fw (A' := (T1.setTop (mkF m 4 #[.val (.ref a1), .val (.ref a2)] [(.ref c1)]))) (fun t k => st1 _ k) ?_
  refine own_fw (A' := (T1.setTop (mkF m 5 #[.val (.ref a1), .val (.ref a2)] [(.ref a2), (.ref c1)]))) (fun t k => XS.aloadN X1.here hx rfl (hb hby d_prog_4_method_3_code_4) rfl rfl k) ?_
  obtain ⟨cq2, kq2, qa2, qb2, qc2⟩ := isOf hZ e1 P2
  obtain ⟨_, _, ⟨T2, L2, k2, n2⟩, -, X2, ⟨Lc2, hQ2, l2, y2, z2⟩, st2⟩ := X1.virtualBackUp hx (x := (⟨"com/example/spindle/spindle/DispatchTimes$Band", "ordinal", "()I"⟩ : MethodName)) (y := (⟨"java/lang/Enum", "ordinal", "()I"⟩ : MethodName)) hown (mvT hZ (hw _ (List.mem_of_getElem? (i := 37) rfl))) (mvT hZ (hw _ (List.mem_of_getElem? (i := 38) rfl))) (mvT hZ (hw _ (List.mem_of_getElem? (i := 39) rfl))) (by decide) (mvT hZ (hw _ (List.mem_of_getElem? (i := 41) rfl))) (mvT hZ (hw _ (List.mem_of_getElem? (i := 40) rfl))) (backOf (W := 1) (rmOrd l Z a0 hw [] a2 (0 : Int32) h0 n0 Z0 P3) hZ (hw _ (List.mem_of_getElem? (i := 43) rfl)) (hw _ (List.mem_of_getElem? (i := 42) rfl)) (by decide) (by decide)) qa2 qc2 (g := (mkF m 5 #[.val (.ref a1), .val (.ref a2)] [(.ref a2), (.ref c1)])) rfl (by rw [hml]; rfl) (Steps.refl _) (argsL := []) (rest := [(.ref c1)]) (lenOf pd___I rfl) rfl (by show 2 * 0 + _ ≤ _; exact Nat.le_of_eq rfl) (hb hby d_prog_4_method_3_code_5) (fun _ _ => ⟨rfl, e1, (by decide : 0 + 0 ≤ _), (by decide : 0 + 0 ≤ _)⟩)
  dsimp only [Pt.U, Pt.locs, Pt.cells, Pt.slots] at X2 l2 y2 z2 st2 hQ2
  subst l2 y2 z2
  obtain ⟨rfl, Nq2, e2⟩ := hQ2
  have Nf2 := Fr.app N0 Nq2
  refine own_fw (A' := (T2.setTop (mkF m 8 #[.val (.ref a1), .val (.ref a2)] [(.int (0 : Int32)), (.ref c1)]))) (fun t k => st2.trans k) ?_
  obtain ⟨cl3, Ar3, q3, S3, M3, H3, G3⟩ := id P1
  have hin3 : ¬ ((0 : Int32) < 0 ∨ cl3.slots.size ≤ ((0 : Int32)).toNatClampNeg) := inb_of S3 ⟨by decide, by decide⟩
  have hat3 : cl3.slots[((0 : Int32)).toNatClampNeg]? = some (.long (0 : Int64)) := H3.at hin3 rfl
  refine own_fw (A' := (T2.setTop (mkF m 9 #[.val (.ref a1), .val (.ref a2)] [(.long (0 : Int64))]))) (fun t k => X2.laload hx (j := (0 : Int32)) (v := (.long (0 : Int64))) (by rw [e2]; exact Ar3.1) (State.isArrayOf_alike hZ.alike Ar3.2.1) Ar3.2.2 hin3 hat3 (g := (mkF m 8 #[.val (.ref a1), .val (.ref a2)] [(.int (0 : Int32)), (.ref c1)])) rfl rfl (hb hby d_prog_4_method_3_code_8) _ k) ?_
  obtain ⟨fs, hr, hrun, hended, hW, hsame⟩ := X2.leave (v := some (.long (0 : Int64))) (fun h => by rw [Bd.returns] at h; cases h)
  refine ⟨_, _, ?_, hrun, hended, _, _, rfl, ?_, ⟨_, rfl⟩, hW, hsame.mono (by decide) (by decide)⟩
  · exact retOut X2 hx Bd.returns rfl (Or.inr (Or.inl ⟨rfl, rfl, _, rfl⟩)) (hb hby d_prog_4_method_3_code_9) hr
  · show Q_rmGt0 Z a1 a2 c1 k1 h0 n0 _ T2.heap _
    rw [e2]
    exact ⟨rfl, Nf2, rfl⟩
theorem ef_rmGt1 (m : MethodId) (a1 : Addr) (a2 : Addr) : entryFrame m #[(.ref a1), (.ref a2)] 2 = mkF m 0 #[.val (.ref a1), .val (.ref a2)] [] := by first | (simp [entryFrame, mkF, argsToLocals, Value.category]; done) | rfl
def Q_rmGt1 (Z : State) (a1 : Addr) (a2 : Addr) (c1 : Addr) (k1 : ClassId) (h0 : Heap) (n0 : Nat) (v : Option Value) (h : Heap) (L : List Loc) : Prop := v = some (.long (0 : Int64)) ∧ Fr n0 L ∧ h = h0
set_option maxRecDepth 65536 in
set_option maxHeartbeats 40000000 in
theorem rmGt1 (l : Launch) (Z : State) (a0 : Array Value) (hw : ∀ d ∈ tables_1, d.before a0 Z = true) (ws : List Jvm.Cond) (a1 : Addr) (a2 : Addr) (c1 : Addr) (k1 : ClassId) (h0 : Heap) (n0 : Nat) (Z0 : n0 ≤ h0.size) (P0 : Fld Z h0 a1 "com/example/spindle/spindle/DispatchTimes" "totalMillis" "[J" (.ref c1)) (P1 : Arv Z h0 c1 k1 .long (4 : Int32) [(.long (0 : Int64)), (.long (0 : Int64)), (.long (0 : Int64)), (.long (0 : Int64))] (.long (0 : Int64))) (P2 : Exa Z h0 a2 "com/example/spindle/spindle/DispatchTimes$Band") (P3 : Fld Z h0 a2 "java/lang/Enum" "ordinal" "I" (.int (1 : Int32))) :
    MetFree l (⟨"com/example/spindle/spindle/DispatchTimes", "getTotalMillis", "(Lcom/example/spindle/spindle/DispatchTimes$Band;)J"⟩ : MethodName) (head1 (Jvm.Cond.code (⟨"com/example/spindle/spindle/DispatchTimes", "getTotalMillis", "(Lcom/example/spindle/spindle/DispatchTimes$Band;)J"⟩ : MethodName) prog_4_method_3_code 2 (some .long) :: ws) ({ frames := 1, cells := 0, slots := 0, locals := 13 } : Room)) (fun a U => a = #[(.ref a1), (.ref a2)] ∧ Z.Warmed39 U.vm ∧ U.heap = h0) (fun _ _ _ _ _ => True) (fun _ U o U' => ∃ v L, o = .returned v ∧ Q_rmGt1 Z a1 a2 c1 k1 h0 n0 v U'.heap L ∧ FrameEnd U o U' L ({ frames := 1, cells := 0, slots := 0, locals := 13 } : Room).cells ({ frames := 1, cells := 0, slots := 0, locals := 13 } : Room).slots) := by
  refine MetFree.of_bodySF (plainFor_of_name pn_com_example_spindle_spindle_DispatchTimes) hisR ?_
  intro p e s m args below meth c s₁ Bd hml0 hP hK
  obtain ⟨rfl, hZ, hh⟩ := hP
  have hx := Bd.exec
  have hby := Bd.bytes
  have hml : c.maxLocals = 2 := hml0
  have hown : s.vm.findClass "com/example/spindle/spindle/DispatchTimes" = some m.cls := findClass_of_methodNamed Bd.named
  have hnm := (name_of_methodNamed Bd.named Bd.method).1
  have X0 : Stand p l e ({ frames := 1, cells := 0, slots := 0, locals := 13 } : Room) s m #[(.ref a1), (.ref a2)] below meth c s₁ [] 0 0 := Stand.of_body Bd
  have e0 : s₁.heap = h0 := by rw [← hh, Bd.state]; rfl
  have N0 := Fr.nil n0
  refine own_fw (A' := (s₁.setTop (mkF m 0 #[.val (.ref a1), .val (.ref a2)] []))) (fun t k => castTop (ef_rmGt1 m a1 a2) k) ?_
  refine own_fw (A' := (s₁.setTop (mkF m 1 #[.val (.ref a1), .val (.ref a2)] [(.ref a1)]))) (fun t k => XS.aloadN X0.here hx rfl (hb hby d_prog_4_method_3_code_0) rfl rfl k) ?_
  obtain ⟨T1, X1, e1, st1⟩ := getF X0 hx hZ hown (host := "") (Or.inl (hw _ (List.mem_of_getElem? (i := 15) rfl))) Via.refl e0 P0 (g := (mkF m 1 #[.val (.ref a1), .val (.ref a2)] [(.ref a1)])) rfl rfl (hb hby d_prog_4_method_3_code_1)
  refine own_fw (A' := (T1.setTop (mkF m 4 #[.val (.ref a1), .val (.ref a2)] [(.ref c1)]))) (fun t k => st1 _ k) ?_
  refine own_fw (A' := (T1.setTop (mkF m 5 #[.val (.ref a1), .val (.ref a2)] [(.ref a2), (.ref c1)]))) (fun t k => XS.aloadN X1.here hx rfl (hb hby d_prog_4_method_3_code_4) rfl rfl k) ?_
  obtain ⟨cq2, kq2, qa2, qb2, qc2⟩ := isOf hZ e1 P2
  obtain ⟨_, _, ⟨T2, L2, k2, n2⟩, -, X2, ⟨Lc2, hQ2, l2, y2, z2⟩, st2⟩ := X1.virtualBackUp hx (x := (⟨"com/example/spindle/spindle/DispatchTimes$Band", "ordinal", "()I"⟩ : MethodName)) (y := (⟨"java/lang/Enum", "ordinal", "()I"⟩ : MethodName)) hown (mvT hZ (hw _ (List.mem_of_getElem? (i := 37) rfl))) (mvT hZ (hw _ (List.mem_of_getElem? (i := 38) rfl))) (mvT hZ (hw _ (List.mem_of_getElem? (i := 39) rfl))) (by decide) (mvT hZ (hw _ (List.mem_of_getElem? (i := 41) rfl))) (mvT hZ (hw _ (List.mem_of_getElem? (i := 40) rfl))) (backOf (W := 1) (rmOrd l Z a0 hw [] a2 (1 : Int32) h0 n0 Z0 P3) hZ (hw _ (List.mem_of_getElem? (i := 43) rfl)) (hw _ (List.mem_of_getElem? (i := 42) rfl)) (by decide) (by decide)) qa2 qc2 (g := (mkF m 5 #[.val (.ref a1), .val (.ref a2)] [(.ref a2), (.ref c1)])) rfl (by rw [hml]; rfl) (Steps.refl _) (argsL := []) (rest := [(.ref c1)]) (lenOf pd___I rfl) rfl (by show 2 * 0 + _ ≤ _; exact Nat.le_of_eq rfl) (hb hby d_prog_4_method_3_code_5) (fun _ _ => ⟨rfl, e1, (by decide : 0 + 0 ≤ _), (by decide : 0 + 0 ≤ _)⟩)
  dsimp only [Pt.U, Pt.locs, Pt.cells, Pt.slots] at X2 l2 y2 z2 st2 hQ2
  subst l2 y2 z2
  obtain ⟨rfl, Nq2, e2⟩ := hQ2
  have Nf2 := Fr.app N0 Nq2
  refine own_fw (A' := (T2.setTop (mkF m 8 #[.val (.ref a1), .val (.ref a2)] [(.int (1 : Int32)), (.ref c1)]))) (fun t k => st2.trans k) ?_
  obtain ⟨cl3, Ar3, q3, S3, M3, H3, G3⟩ := id P1
  have hin3 : ¬ ((1 : Int32) < 0 ∨ cl3.slots.size ≤ ((1 : Int32)).toNatClampNeg) := inb_of S3 ⟨by decide, by decide⟩
  have hat3 : cl3.slots[((1 : Int32)).toNatClampNeg]? = some (.long (0 : Int64)) := H3.at hin3 rfl
  refine own_fw (A' := (T2.setTop (mkF m 9 #[.val (.ref a1), .val (.ref a2)] [(.long (0 : Int64))]))) (fun t k => X2.laload hx (j := (1 : Int32)) (v := (.long (0 : Int64))) (by rw [e2]; exact Ar3.1) (State.isArrayOf_alike hZ.alike Ar3.2.1) Ar3.2.2 hin3 hat3 (g := (mkF m 8 #[.val (.ref a1), .val (.ref a2)] [(.int (1 : Int32)), (.ref c1)])) rfl rfl (hb hby d_prog_4_method_3_code_8) _ k) ?_
  obtain ⟨fs, hr, hrun, hended, hW, hsame⟩ := X2.leave (v := some (.long (0 : Int64))) (fun h => by rw [Bd.returns] at h; cases h)
  refine ⟨_, _, ?_, hrun, hended, _, _, rfl, ?_, ⟨_, rfl⟩, hW, hsame.mono (by decide) (by decide)⟩
  · exact retOut X2 hx Bd.returns rfl (Or.inr (Or.inl ⟨rfl, rfl, _, rfl⟩)) (hb hby d_prog_4_method_3_code_9) hr
  · show Q_rmGt1 Z a1 a2 c1 k1 h0 n0 _ T2.heap _
    rw [e2]
    exact ⟨rfl, Nf2, rfl⟩
theorem ef_rmGt2 (m : MethodId) (a1 : Addr) (a2 : Addr) : entryFrame m #[(.ref a1), (.ref a2)] 2 = mkF m 0 #[.val (.ref a1), .val (.ref a2)] [] := by first | (simp [entryFrame, mkF, argsToLocals, Value.category]; done) | rfl
def Q_rmGt2 (Z : State) (a1 : Addr) (a2 : Addr) (c1 : Addr) (k1 : ClassId) (h0 : Heap) (n0 : Nat) (v : Option Value) (h : Heap) (L : List Loc) : Prop := v = some (.long (0 : Int64)) ∧ Fr n0 L ∧ h = h0
set_option maxRecDepth 65536 in
set_option maxHeartbeats 40000000 in
theorem rmGt2 (l : Launch) (Z : State) (a0 : Array Value) (hw : ∀ d ∈ tables_1, d.before a0 Z = true) (ws : List Jvm.Cond) (a1 : Addr) (a2 : Addr) (c1 : Addr) (k1 : ClassId) (h0 : Heap) (n0 : Nat) (Z0 : n0 ≤ h0.size) (P0 : Fld Z h0 a1 "com/example/spindle/spindle/DispatchTimes" "totalMillis" "[J" (.ref c1)) (P1 : Arv Z h0 c1 k1 .long (4 : Int32) [(.long (0 : Int64)), (.long (0 : Int64)), (.long (0 : Int64)), (.long (0 : Int64))] (.long (0 : Int64))) (P2 : Exa Z h0 a2 "com/example/spindle/spindle/DispatchTimes$Band") (P3 : Fld Z h0 a2 "java/lang/Enum" "ordinal" "I" (.int (2 : Int32))) :
    MetFree l (⟨"com/example/spindle/spindle/DispatchTimes", "getTotalMillis", "(Lcom/example/spindle/spindle/DispatchTimes$Band;)J"⟩ : MethodName) (head1 (Jvm.Cond.code (⟨"com/example/spindle/spindle/DispatchTimes", "getTotalMillis", "(Lcom/example/spindle/spindle/DispatchTimes$Band;)J"⟩ : MethodName) prog_4_method_3_code 2 (some .long) :: ws) ({ frames := 1, cells := 0, slots := 0, locals := 13 } : Room)) (fun a U => a = #[(.ref a1), (.ref a2)] ∧ Z.Warmed39 U.vm ∧ U.heap = h0) (fun _ _ _ _ _ => True) (fun _ U o U' => ∃ v L, o = .returned v ∧ Q_rmGt2 Z a1 a2 c1 k1 h0 n0 v U'.heap L ∧ FrameEnd U o U' L ({ frames := 1, cells := 0, slots := 0, locals := 13 } : Room).cells ({ frames := 1, cells := 0, slots := 0, locals := 13 } : Room).slots) := by
  refine MetFree.of_bodySF (plainFor_of_name pn_com_example_spindle_spindle_DispatchTimes) hisR ?_
  intro p e s m args below meth c s₁ Bd hml0 hP hK
  obtain ⟨rfl, hZ, hh⟩ := hP
  have hx := Bd.exec
  have hby := Bd.bytes
  have hml : c.maxLocals = 2 := hml0
  have hown : s.vm.findClass "com/example/spindle/spindle/DispatchTimes" = some m.cls := findClass_of_methodNamed Bd.named
  have hnm := (name_of_methodNamed Bd.named Bd.method).1
  have X0 : Stand p l e ({ frames := 1, cells := 0, slots := 0, locals := 13 } : Room) s m #[(.ref a1), (.ref a2)] below meth c s₁ [] 0 0 := Stand.of_body Bd
  have e0 : s₁.heap = h0 := by rw [← hh, Bd.state]; rfl
  have N0 := Fr.nil n0
  refine own_fw (A' := (s₁.setTop (mkF m 0 #[.val (.ref a1), .val (.ref a2)] []))) (fun t k => castTop (ef_rmGt2 m a1 a2) k) ?_
  refine own_fw (A' := (s₁.setTop (mkF m 1 #[.val (.ref a1), .val (.ref a2)] [(.ref a1)]))) (fun t k => XS.aloadN X0.here hx rfl (hb hby d_prog_4_method_3_code_0) rfl rfl k) ?_
  obtain ⟨T1, X1, e1, st1⟩ := getF X0 hx hZ hown (host := "") (Or.inl (hw _ (List.mem_of_getElem? (i := 15) rfl))) Via.refl e0 P0 (g := (mkF m 1 #[.val (.ref a1), .val (.ref a2)] [(.ref a1)])) rfl rfl (hb hby d_prog_4_method_3_code_1)
  refine own_fw (A' := (T1.setTop (mkF m 4 #[.val (.ref a1), .val (.ref a2)] [(.ref c1)]))) (fun t k => st1 _ k) ?_
  refine own_fw (A' := (T1.setTop (mkF m 5 #[.val (.ref a1), .val (.ref a2)] [(.ref a2), (.ref c1)]))) (fun t k => XS.aloadN X1.here hx rfl (hb hby d_prog_4_method_3_code_4) rfl rfl k) ?_
  obtain ⟨cq2, kq2, qa2, qb2, qc2⟩ := isOf hZ e1 P2
  obtain ⟨_, _, ⟨T2, L2, k2, n2⟩, -, X2, ⟨Lc2, hQ2, l2, y2, z2⟩, st2⟩ := X1.virtualBackUp hx (x := (⟨"com/example/spindle/spindle/DispatchTimes$Band", "ordinal", "()I"⟩ : MethodName)) (y := (⟨"java/lang/Enum", "ordinal", "()I"⟩ : MethodName)) hown (mvT hZ (hw _ (List.mem_of_getElem? (i := 37) rfl))) (mvT hZ (hw _ (List.mem_of_getElem? (i := 38) rfl))) (mvT hZ (hw _ (List.mem_of_getElem? (i := 39) rfl))) (by decide) (mvT hZ (hw _ (List.mem_of_getElem? (i := 41) rfl))) (mvT hZ (hw _ (List.mem_of_getElem? (i := 40) rfl))) (backOf (W := 1) (rmOrd l Z a0 hw [] a2 (2 : Int32) h0 n0 Z0 P3) hZ (hw _ (List.mem_of_getElem? (i := 43) rfl)) (hw _ (List.mem_of_getElem? (i := 42) rfl)) (by decide) (by decide)) qa2 qc2 (g := (mkF m 5 #[.val (.ref a1), .val (.ref a2)] [(.ref a2), (.ref c1)])) rfl (by rw [hml]; rfl) (Steps.refl _) (argsL := []) (rest := [(.ref c1)]) (lenOf pd___I rfl) rfl (by show 2 * 0 + _ ≤ _; exact Nat.le_of_eq rfl) (hb hby d_prog_4_method_3_code_5) (fun _ _ => ⟨rfl, e1, (by decide : 0 + 0 ≤ _), (by decide : 0 + 0 ≤ _)⟩)
  dsimp only [Pt.U, Pt.locs, Pt.cells, Pt.slots] at X2 l2 y2 z2 st2 hQ2
  subst l2 y2 z2
  obtain ⟨rfl, Nq2, e2⟩ := hQ2
  have Nf2 := Fr.app N0 Nq2
  refine own_fw (A' := (T2.setTop (mkF m 8 #[.val (.ref a1), .val (.ref a2)] [(.int (2 : Int32)), (.ref c1)]))) (fun t k => st2.trans k) ?_
  obtain ⟨cl3, Ar3, q3, S3, M3, H3, G3⟩ := id P1
  have hin3 : ¬ ((2 : Int32) < 0 ∨ cl3.slots.size ≤ ((2 : Int32)).toNatClampNeg) := inb_of S3 ⟨by decide, by decide⟩
  have hat3 : cl3.slots[((2 : Int32)).toNatClampNeg]? = some (.long (0 : Int64)) := H3.at hin3 rfl
  refine own_fw (A' := (T2.setTop (mkF m 9 #[.val (.ref a1), .val (.ref a2)] [(.long (0 : Int64))]))) (fun t k => X2.laload hx (j := (2 : Int32)) (v := (.long (0 : Int64))) (by rw [e2]; exact Ar3.1) (State.isArrayOf_alike hZ.alike Ar3.2.1) Ar3.2.2 hin3 hat3 (g := (mkF m 8 #[.val (.ref a1), .val (.ref a2)] [(.int (2 : Int32)), (.ref c1)])) rfl rfl (hb hby d_prog_4_method_3_code_8) _ k) ?_
  obtain ⟨fs, hr, hrun, hended, hW, hsame⟩ := X2.leave (v := some (.long (0 : Int64))) (fun h => by rw [Bd.returns] at h; cases h)
  refine ⟨_, _, ?_, hrun, hended, _, _, rfl, ?_, ⟨_, rfl⟩, hW, hsame.mono (by decide) (by decide)⟩
  · exact retOut X2 hx Bd.returns rfl (Or.inr (Or.inl ⟨rfl, rfl, _, rfl⟩)) (hb hby d_prog_4_method_3_code_9) hr
  · show Q_rmGt2 Z a1 a2 c1 k1 h0 n0 _ T2.heap _
    rw [e2]
    exact ⟨rfl, Nf2, rfl⟩
theorem ef_rmGt3 (m : MethodId) (a1 : Addr) (a2 : Addr) : entryFrame m #[(.ref a1), (.ref a2)] 2 = mkF m 0 #[.val (.ref a1), .val (.ref a2)] [] := by first | (simp [entryFrame, mkF, argsToLocals, Value.category]; done) | rfl
def Q_rmGt3 (Z : State) (a1 : Addr) (a2 : Addr) (c1 : Addr) (k1 : ClassId) (h0 : Heap) (n0 : Nat) (v : Option Value) (h : Heap) (L : List Loc) : Prop := v = some (.long (0 : Int64)) ∧ Fr n0 L ∧ h = h0
set_option maxRecDepth 65536 in
set_option maxHeartbeats 40000000 in
theorem rmGt3 (l : Launch) (Z : State) (a0 : Array Value) (hw : ∀ d ∈ tables_1, d.before a0 Z = true) (ws : List Jvm.Cond) (a1 : Addr) (a2 : Addr) (c1 : Addr) (k1 : ClassId) (h0 : Heap) (n0 : Nat) (Z0 : n0 ≤ h0.size) (P0 : Fld Z h0 a1 "com/example/spindle/spindle/DispatchTimes" "totalMillis" "[J" (.ref c1)) (P1 : Arv Z h0 c1 k1 .long (4 : Int32) [(.long (0 : Int64)), (.long (0 : Int64)), (.long (0 : Int64)), (.long (0 : Int64))] (.long (0 : Int64))) (P2 : Exa Z h0 a2 "com/example/spindle/spindle/DispatchTimes$Band") (P3 : Fld Z h0 a2 "java/lang/Enum" "ordinal" "I" (.int (3 : Int32))) :
    MetFree l (⟨"com/example/spindle/spindle/DispatchTimes", "getTotalMillis", "(Lcom/example/spindle/spindle/DispatchTimes$Band;)J"⟩ : MethodName) (head1 (Jvm.Cond.code (⟨"com/example/spindle/spindle/DispatchTimes", "getTotalMillis", "(Lcom/example/spindle/spindle/DispatchTimes$Band;)J"⟩ : MethodName) prog_4_method_3_code 2 (some .long) :: ws) ({ frames := 1, cells := 0, slots := 0, locals := 13 } : Room)) (fun a U => a = #[(.ref a1), (.ref a2)] ∧ Z.Warmed39 U.vm ∧ U.heap = h0) (fun _ _ _ _ _ => True) (fun _ U o U' => ∃ v L, o = .returned v ∧ Q_rmGt3 Z a1 a2 c1 k1 h0 n0 v U'.heap L ∧ FrameEnd U o U' L ({ frames := 1, cells := 0, slots := 0, locals := 13 } : Room).cells ({ frames := 1, cells := 0, slots := 0, locals := 13 } : Room).slots) := by
  refine MetFree.of_bodySF (plainFor_of_name pn_com_example_spindle_spindle_DispatchTimes) hisR ?_
  intro p e s m args below meth c s₁ Bd hml0 hP hK
  obtain ⟨rfl, hZ, hh⟩ := hP
  have hx := Bd.exec
  have hby := Bd.bytes
  have hml : c.maxLocals = 2 := hml0
  have hown : s.vm.findClass "com/example/spindle/spindle/DispatchTimes" = some m.cls := findClass_of_methodNamed Bd.named
  have hnm := (name_of_methodNamed Bd.named Bd.method).1
  have X0 : Stand p l e ({ frames := 1, cells := 0, slots := 0, locals := 13 } : Room) s m #[(.ref a1), (.ref a2)] below meth c s₁ [] 0 0 := Stand.of_body Bd
  have e0 : s₁.heap = h0 := by rw [← hh, Bd.state]; rfl
  have N0 := Fr.nil n0
  refine own_fw (A' := (s₁.setTop (mkF m 0 #[.val (.ref a1), .val (.ref a2)] []))) (fun t k => castTop (ef_rmGt3 m a1 a2) k) ?_
  refine own_fw (A' := (s₁.setTop (mkF m 1 #[.val (.ref a1), .val (.ref a2)] [(.ref a1)]))) (fun t k => XS.aloadN X0.here hx rfl (hb hby d_prog_4_method_3_code_0) rfl rfl k) ?_
  obtain ⟨T1, X1, e1, st1⟩ := getF X0 hx hZ hown (host := "") (Or.inl (hw _ (List.mem_of_getElem? (i := 15) rfl))) Via.refl e0 P0 (g := (mkF m 1 #[.val (.ref a1), .val (.ref a2)] [(.ref a1)])) rfl rfl (hb hby d_prog_4_method_3_code_1)
  refine own_fw (A' := (T1.setTop (mkF m 4 #[.val (.ref a1), .val (.ref a2)] [(.ref c1)]))) (fun t k => st1 _ k) ?_
  refine own_fw (A' := (T1.setTop (mkF m 5 #[.val (.ref a1), .val (.ref a2)] [(.ref a2), (.ref c1)]))) (fun t k => XS.aloadN X1.here hx rfl (hb hby d_prog_4_method_3_code_4) rfl rfl k) ?_
  obtain ⟨cq2, kq2, qa2, qb2, qc2⟩ := isOf hZ e1 P2
  obtain ⟨_, _, ⟨T2, L2, k2, n2⟩, -, X2, ⟨Lc2, hQ2, l2, y2, z2⟩, st2⟩ := X1.virtualBackUp hx (x := (⟨"com/example/spindle/spindle/DispatchTimes$Band", "ordinal", "()I"⟩ : MethodName)) (y := (⟨"java/lang/Enum", "ordinal", "()I"⟩ : MethodName)) hown (mvT hZ (hw _ (List.mem_of_getElem? (i := 37) rfl))) (mvT hZ (hw _ (List.mem_of_getElem? (i := 38) rfl))) (mvT hZ (hw _ (List.mem_of_getElem? (i := 39) rfl))) (by decide) (mvT hZ (hw _ (List.mem_of_getElem? (i := 41) rfl))) (mvT hZ (hw _ (List.mem_of_getElem? (i := 40) rfl))) (backOf (W := 1) (rmOrd l Z a0 hw [] a2 (3 : Int32) h0 n0 Z0 P3) hZ (hw _ (List.mem_of_getElem? (i := 43) rfl)) (hw _ (List.mem_of_getElem? (i := 42) rfl)) (by decide) (by decide)) qa2 qc2 (g := (mkF m 5 #[.val (.ref a1), .val (.ref a2)] [(.ref a2), (.ref c1)])) rfl (by rw [hml]; rfl) (Steps.refl _) (argsL := []) (rest := [(.ref c1)]) (lenOf pd___I rfl) rfl (by show 2 * 0 + _ ≤ _; exact Nat.le_of_eq rfl) (hb hby d_prog_4_method_3_code_5) (fun _ _ => ⟨rfl, e1, (by decide : 0 + 0 ≤ _), (by decide : 0 + 0 ≤ _)⟩)
  dsimp only [Pt.U, Pt.locs, Pt.cells, Pt.slots] at X2 l2 y2 z2 st2 hQ2
  subst l2 y2 z2
  obtain ⟨rfl, Nq2, e2⟩ := hQ2
  have Nf2 := Fr.app N0 Nq2
  refine own_fw (A' := (T2.setTop (mkF m 8 #[.val (.ref a1), .val (.ref a2)] [(.int (3 : Int32)), (.ref c1)]))) (fun t k => st2.trans k) ?_
  obtain ⟨cl3, Ar3, q3, S3, M3, H3, G3⟩ := id P1
  have hin3 : ¬ ((3 : Int32) < 0 ∨ cl3.slots.size ≤ ((3 : Int32)).toNatClampNeg) := inb_of S3 ⟨by decide, by decide⟩
  have hat3 : cl3.slots[((3 : Int32)).toNatClampNeg]? = some (.long (0 : Int64)) := H3.at hin3 rfl
  refine own_fw (A' := (T2.setTop (mkF m 9 #[.val (.ref a1), .val (.ref a2)] [(.long (0 : Int64))]))) (fun t k => X2.laload hx (j := (3 : Int32)) (v := (.long (0 : Int64))) (by rw [e2]; exact Ar3.1) (State.isArrayOf_alike hZ.alike Ar3.2.1) Ar3.2.2 hin3 hat3 (g := (mkF m 8 #[.val (.ref a1), .val (.ref a2)] [(.int (3 : Int32)), (.ref c1)])) rfl rfl (hb hby d_prog_4_method_3_code_8) _ k) ?_
  obtain ⟨fs, hr, hrun, hended, hW, hsame⟩ := X2.leave (v := some (.long (0 : Int64))) (fun h => by rw [Bd.returns] at h; cases h)
  refine ⟨_, _, ?_, hrun, hended, _, _, rfl, ?_, ⟨_, rfl⟩, hW, hsame.mono (by decide) (by decide)⟩
  · exact retOut X2 hx Bd.returns rfl (Or.inr (Or.inl ⟨rfl, rfl, _, rfl⟩)) (hb hby d_prog_4_method_3_code_9) hr
  · show Q_rmGt3 Z a1 a2 c1 k1 h0 n0 _ T2.heap _
    rw [e2]
    exact ⟨rfl, Nf2, rfl⟩
theorem pd___V : parseMethodDescriptor "()V" = some ⟨[], none⟩ := by decide +kernel
theorem pd__JI_J : parseMethodDescriptor "(JI)J" = some ⟨[.long, .int], some .long⟩ := by decide +kernel
theorem pd__J_V : parseMethodDescriptor "(J)V" = some ⟨[.long], none⟩ := by decide +kernel
theorem pd__Lcom_example_spindle_spindle_DispatchTimes_Band__J : parseMethodDescriptor "(Lcom/example/spindle/spindle/DispatchTimes$Band;)J" = some ⟨[(.object "com/example/spindle/spindle/DispatchTimes$Band")], some .long⟩ := by decide +kernel
theorem ef_rm0 (m : MethodId) (q1 : Int64) (q2 : Int64) (p3 : Int32) : entryFrame m #[(.long q1), (.long q2), (.int p3)] maxLocals = mkF m 0 #[.val (.long q1), .second, .val (.long q2), .second, .val (.int p3), .unset] [] := by first | (simp [entryFrame, mkF, argsToLocals, Value.category, maxLocals]; done) | rfl
def Q_rm0 (Z : State) (q1 : Int64) (q2 : Int64) (p3 : Int32) (ba : Addr) (kb : ClassId) (r0 : Addr) (r1 : Addr) (r2 : Addr) (r3 : Addr) (h0 : Heap) (n0 : Nat) (v : Option Value) (h : Heap) (L : List Loc) : Prop := v = some (.int (1 : Int32)) ∧ Fr n0 L
set_option maxRecDepth 65536 in
set_option maxHeartbeats 40000000 in
theorem rm0 (l : Launch) (Z : State) (a0 : Array Value) (hw : ∀ d ∈ tables_1, d.before a0 Z = true) (ws : List Jvm.Cond) (q1 : Int64) (q2 : Int64) (p3 : Int32) (ba : Addr) (kb : ClassId) (r0 : Addr) (r1 : Addr) (r2 : Addr) (r3 : Addr) (h0 : Heap) (n0 : Nat) (Z0 : n0 ≤ h0.size) (P0 : Sta Z h0 "com/example/spindle/spindle/DispatchTimes$Band" "BANDS" "[Lcom/example/spindle/spindle/DispatchTimes$Band;" (.ref ba)) (P1 : Arv Z h0 ba kb (.object "com/example/spindle/spindle/DispatchTimes$Band") (4 : Int32) [(.ref r0), (.ref r1), (.ref r2), (.ref r3)] .null) (P2 : Exa Z h0 r0 "com/example/spindle/spindle/DispatchTimes$Band") (P3 : Fld Z h0 r0 "com/example/spindle/spindle/DispatchTimes$Band" "lowerMillis" "J" (.long (0 : Int64))) (P4 : Exa Z h0 r1 "com/example/spindle/spindle/DispatchTimes$Band") (P5 : Fld Z h0 r1 "com/example/spindle/spindle/DispatchTimes$Band" "lowerMillis" "J" (.long (50 : Int64))) (P6 : Exa Z h0 r2 "com/example/spindle/spindle/DispatchTimes$Band") (P7 : Fld Z h0 r2 "com/example/spindle/spindle/DispatchTimes$Band" "lowerMillis" "J" (.long (250 : Int64))) (P8 : Exa Z h0 r3 "com/example/spindle/spindle/DispatchTimes$Band") (P9 : Fld Z h0 r3 "com/example/spindle/spindle/DispatchTimes$Band" "lowerMillis" "J" (.long (1000 : Int64))) (P10 : Fld Z h0 r0 "java/lang/Enum" "ordinal" "I" (.int (0 : Int32))) (P11 : Fld Z h0 r1 "java/lang/Enum" "ordinal" "I" (.int (1 : Int32))) (P12 : Fld Z h0 r2 "java/lang/Enum" "ordinal" "I" (.int (2 : Int32))) (P13 : Fld Z h0 r3 "java/lang/Enum" "ordinal" "I" (.int (3 : Int32))) (P14 : Sta Z h0 "com/example/spindle/spindle/DispatchTimes$Band" "UNDER_50_MS" "Lcom/example/spindle/spindle/DispatchTimes$Band;" (.ref r0)) (P15 : Sta Z h0 "com/example/spindle/spindle/DispatchTimes$Band" "FROM_50_MS" "Lcom/example/spindle/spindle/DispatchTimes$Band;" (.ref r1)) (P16 : Sta Z h0 "com/example/spindle/spindle/DispatchTimes$Band" "FROM_250_MS" "Lcom/example/spindle/spindle/DispatchTimes$Band;" (.ref r2)) (P17 : Sta Z h0 "com/example/spindle/spindle/DispatchTimes$Band" "FROM_1000_MS" "Lcom/example/spindle/spindle/DispatchTimes$Band;" (.ref r3)) :
    MetFree l x (head1 (Jvm.Cond.code x code maxLocals ret :: ws) room_1) (fun a U => a = #[(.long q1), (.long q2), (.int p3)] ∧ Z.Warmed39 U.vm ∧ U.heap = h0) (fun _ _ _ _ _ => True) (fun _ U o U' => ∃ v L, o = .returned v ∧ Q_rm0 Z q1 q2 p3 ba kb r0 r1 r2 r3 h0 n0 v U'.heap L ∧ FrameEnd U o U' L room_1.cells room_1.slots) := by
  refine MetFree.of_bodySF (plainFor_of_name pn_com_example_spindle_spindle_DispatchTimesClearPinLaw) hisR ?_
  intro p e s m args below meth c s₁ Bd hml0 hP hK
  obtain ⟨rfl, hZ, hh⟩ := hP
  have hx := Bd.exec
  have hby := Bd.bytes
  have hml : c.maxLocals = 6 := hml0
  have hown : s.vm.findClass "com/example/spindle/spindle/DispatchTimesClearPinLaw" = some m.cls := findClass_of_methodNamed Bd.named
  have hnm := (name_of_methodNamed Bd.named Bd.method).1
  have X0 : Stand p l e room_1 s m #[(.long q1), (.long q2), (.int p3)] below meth c s₁ [] 0 0 := Stand.of_body Bd
  have e0 : s₁.heap = h0 := by rw [← hh, Bd.state]; rfl
  have N0 := Fr.nil n0
  refine own_fw (A' := (s₁.setTop (mkF m 0 #[.val (.long q1), .second, .val (.long q2), .second, .val (.int p3), .unset] []))) (fun t k => castTop (ef_rm0 m q1 q2 p3) k) ?_
  obtain ⟨T1, h1, X1, e1, E1, A1, D1, -, st1⟩ := newO X0 hx hZ hown (hw _ (List.mem_of_getElem? (i := 0) rfl)) (hw _ (List.mem_of_getElem? (i := 1) rfl)) (hw _ (List.mem_of_getElem? (i := 2) rfl)) e0 (g := (mkF m 0 #[.val (.long q1), .second, .val (.long q2), .second, .val (.int p3), .unset] [])) rfl (hb hby at_0) (by decide) (by decide)
  obtain ⟨b1, gb1⟩ : ∃ z, z = h0.size := ⟨_, rfl⟩
  have g_b1 : n0 ≤ b1 := Nat.le_trans Z0 (Nat.le_of_eq gb1.symm)
  have sz_b1 : h0.size ≤ b1 := Nat.le_trans (Keep.refl h0 []).1 (Nat.le_of_eq gb1.symm)
  have ne_ba_b1 : ba ≠ b1 := Nat.ne_of_lt (Nat.lt_of_lt_of_le P1.lt (Nat.le_of_eq gb1.symm))
  have ne_r0_b1 : r0 ≠ b1 := Nat.ne_of_lt (Nat.lt_of_lt_of_le P2.lt (Nat.le_of_eq gb1.symm))
  have ne_r1_b1 : r1 ≠ b1 := Nat.ne_of_lt (Nat.lt_of_lt_of_le P4.lt (Nat.le_of_eq gb1.symm))
  have ne_r2_b1 : r2 ≠ b1 := Nat.ne_of_lt (Nat.lt_of_lt_of_le P6.lt (Nat.le_of_eq gb1.symm))
  have ne_r3_b1 : r3 ≠ b1 := Nat.ne_of_lt (Nat.lt_of_lt_of_le P8.lt (Nat.le_of_eq gb1.symm))
  rw [← gb1] at A1 D1 st1
  have F_counts_b1 : Fld Z h1 b1 "com/example/spindle/spindle/DispatchTimes" "counts" "[J" .null := D1 (Or.inr (hw _ (List.mem_of_getElem? (i := 14) rfl))) (ty := (.array .long)) (by decide)
  have F_totalMillis_b1 : Fld Z h1 b1 "com/example/spindle/spindle/DispatchTimes" "totalMillis" "[J" .null := D1 (Or.inr (hw _ (List.mem_of_getElem? (i := 16) rfl))) (ty := (.array .long)) (by decide)
  have K1 : Keep h0 h1 [] := (Keep.refl h0 []).ext E1
  have Z1 : n0 ≤ h1.size := Nat.le_trans Z0 E1.1
  refine own_fw (A' := (T1.setTop (mkF m 3 #[.val (.long q1), .second, .val (.long q2), .second, .val (.int p3), .unset] [(.ref b1)]))) (fun t k => st1 _ k) ?_
  refine own_fw (A' := (T1.setTop (mkF m 4 #[.val (.long q1), .second, .val (.long q2), .second, .val (.int p3), .unset] [(.ref b1), (.ref b1)]))) (fun t k => XS.dup X1.here hx rfl (hb hby at_3) rfl rfl k) ?_
  obtain ⟨_, _, ⟨T2, L2, k2, n2⟩, -, X2, ⟨Lc2, hQ2, l2, y2, z2⟩, st2⟩ := X1.specialBack hx (y := (⟨"com/example/spindle/spindle/DispatchTimes", "<init>", "()V"⟩ : MethodName)) rfl hown (mvT hZ (hw _ (List.mem_of_getElem? (i := 3) rfl))) (mvT hZ (hw _ (List.mem_of_getElem? (i := 4) rfl))) (mvT hZ (hw _ (List.mem_of_getElem? (i := 5) rfl))) (by decide) (backOf (W := 1) (rmInit l Z a0 hw [] b1 ba kb r0 r1 r2 r3 h1 n0 Z1 A1 F_counts_b1 F_totalMillis_b1 g_b1 ne_ba_b1 (P0.ext E1) (P1.ext E1)) hZ (hw _ (List.mem_of_getElem? (i := 5) rfl)) (hw _ (List.mem_of_getElem? (i := 2) rfl)) (by decide) (by decide)) (g := (mkF m 4 #[.val (.long q1), .second, .val (.long q2), .second, .val (.int p3), .unset] [(.ref b1), (.ref b1)])) rfl (by rw [hml]; rfl) (Steps.refl _) (a := b1) (argsL := []) (rest := [(.ref b1)]) (lenOf pd___V rfl) rfl (by show 2 * 0 + _ ≤ _; exact Nat.le_of_eq rfl) (hb hby at_4) (fun _ _ => ⟨rfl, e1, (by decide : 1 + 2 ≤ _), (by decide : 2 + 8 ≤ _)⟩)
  dsimp only [Pt.U, Pt.locs, Pt.cells, Pt.slots] at X2 l2 y2 z2 st2 hQ2
  subst l2 y2 z2
  obtain ⟨b1_2, b2_2, k1_2, k2_2, rfl, Nq2, Kq2, Fq2_0, Fq2_1, Fq2_2, Fq2_3, Fq2_4, gb1_2, gb2_2, nb_2⟩ := hQ2
  have Nf2 := Fr.app N0 Nq2
  have K2 : Keep h0 T2.heap [] := K1.trans Kq2 (allS (Or.inr sz_b1) all0)
  have sz_b1_2 : h0.size ≤ b1_2 := Nat.le_trans K1.1 gb1_2
  have g_b1_2 : n0 ≤ b1_2 := Nat.le_trans Z1 gb1_2
  have ne_ba_b1_2 : ba ≠ b1_2 := Nat.ne_of_lt (Nat.lt_of_lt_of_le (P1.ext E1).lt gb1_2)
  have ne_r0_b1_2 : r0 ≠ b1_2 := Nat.ne_of_lt (Nat.lt_of_lt_of_le (P2.ext E1).lt gb1_2)
  have ne_r1_b1_2 : r1 ≠ b1_2 := Nat.ne_of_lt (Nat.lt_of_lt_of_le (P4.ext E1).lt gb1_2)
  have ne_r2_b1_2 : r2 ≠ b1_2 := Nat.ne_of_lt (Nat.lt_of_lt_of_le (P6.ext E1).lt gb1_2)
  have ne_r3_b1_2 : r3 ≠ b1_2 := Nat.ne_of_lt (Nat.lt_of_lt_of_le (P8.ext E1).lt gb1_2)
  have ne_b1_b1_2 : b1 ≠ b1_2 := Nat.ne_of_lt (Nat.lt_of_lt_of_le A1.lt gb1_2)
  have sz_b2_2 : h0.size ≤ b2_2 := Nat.le_trans K1.1 gb2_2
  have g_b2_2 : n0 ≤ b2_2 := Nat.le_trans Z1 gb2_2
  have ne_ba_b2_2 : ba ≠ b2_2 := Nat.ne_of_lt (Nat.lt_of_lt_of_le (P1.ext E1).lt gb2_2)
  have ne_r0_b2_2 : r0 ≠ b2_2 := Nat.ne_of_lt (Nat.lt_of_lt_of_le (P2.ext E1).lt gb2_2)
  have ne_r1_b2_2 : r1 ≠ b2_2 := Nat.ne_of_lt (Nat.lt_of_lt_of_le (P4.ext E1).lt gb2_2)
  have ne_r2_b2_2 : r2 ≠ b2_2 := Nat.ne_of_lt (Nat.lt_of_lt_of_le (P6.ext E1).lt gb2_2)
  have ne_r3_b2_2 : r3 ≠ b2_2 := Nat.ne_of_lt (Nat.lt_of_lt_of_le (P8.ext E1).lt gb2_2)
  have ne_b1_b2_2 : b1 ≠ b2_2 := Nat.ne_of_lt (Nat.lt_of_lt_of_le A1.lt gb2_2)
  have Z2 : n0 ≤ T2.heap.size := Nat.le_trans Z1 Kq2.1
  refine own_fw (A' := (T2.setTop (mkF m 7 #[.val (.long q1), .second, .val (.long q2), .second, .val (.int p3), .unset] [(.ref b1)]))) (fun t k => st2.trans k) ?_
  refine own_fw (A' := (T2.setTop (mkF m 9 #[.val (.long q1), .second, .val (.long q2), .second, .val (.int p3), .val (.ref b1)] []))) (fun t k => XS.astore X2.here hx rfl (hb hby at_7) rfl rfl (l' := #[.val (.long q1), .second, .val (.long q2), .second, .val (.int p3), .val (.ref b1)]) rfl k) ?_
  refine own_fw (A' := (T2.setTop (mkF m 11 #[.val (.long q1), .second, .val (.long q2), .second, .val (.int p3), .val (.ref b1)] [(.ref b1)]))) (fun t k => XS.aload X2.here hx rfl (hb hby at_9) rfl rfl k) ?_
  refine own_fw (A' := (T2.setTop (mkF m 12 #[.val (.long q1), .second, .val (.long q2), .second, .val (.int p3), .val (.ref b1)] [(.long q1), (.ref b1)]))) (fun t k => XS.lloadN X2.here hx rfl (hb hby at_11) rfl k) ?_
  refine own_fw (A' := (T2.setTop (mkF m 14 #[.val (.long q1), .second, .val (.long q2), .second, .val (.int p3), .val (.ref b1)] [(.int p3), (.long q1), (.ref b1)]))) (fun t k => XS.iload X2.here hx rfl (hb hby at_12) rfl k) ?_
  obtain ⟨_, _, ⟨T3, L3, k3, n3⟩, -, X3, ⟨Lc3, hQ3, l3, y3, z3⟩, st3⟩ := Jvm.LawKit.callS X2 hx (y := (⟨"com/example/spindle/spindle/DispatchTimesClearPinLaw", "millis", "(JI)J"⟩ : MethodName)) hown (mvT hZ (hw _ (List.mem_of_getElem? (i := 17) rfl))) (mvT hZ (hw _ (List.mem_of_getElem? (i := 18) rfl))) (mvT hZ (hw _ (List.mem_of_getElem? (i := 19) rfl))) (mvT hZ (hw _ (List.mem_of_getElem? (i := 20) rfl))) (by decide) (backOf (W := 1) (rmMillis l Z a0 hw [] q1 p3 T2.heap n0 Z2 ) hZ (hw _ (List.mem_of_getElem? (i := 20) rfl)) (hw _ (List.mem_of_getElem? (i := 19) rfl)) (by decide) (by decide)) (g := (mkF m 14 #[.val (.long q1), .second, .val (.long q2), .second, .val (.int p3), .val (.ref b1)] [(.int p3), (.long q1), (.ref b1)])) rfl (by rw [hml]; rfl) (argsL := [(.long q1), (.int p3)]) (rest := [(.ref b1)]) (lenOf pd__JI_J rfl) rfl (by show 2 * 0 + _ ≤ _; exact Nat.le_of_eq rfl) (hb hby at_14) (fun _ _ => ⟨rfl, rfl, (by decide : 3 + 0 ≤ _), (by decide : 10 + 0 ≤ _)⟩)
  dsimp only [Pt.U, Pt.locs, Pt.cells, Pt.slots] at X3 l3 y3 z3 st3 hQ3
  subst l3 y3 z3
  obtain ⟨qr_3, rfl, Nq3, e3⟩ := hQ3
  have Nf3 := Fr.app Nf2 Nq3
  refine own_fw (A' := (T3.setTop (mkF m 17 #[.val (.long q1), .second, .val (.long q2), .second, .val (.int p3), .val (.ref b1)] [(.long qr_3), (.ref b1)]))) (fun t k => st3 _ k) ?_
  obtain ⟨cq4, kq4, qa4, qb4, qc4⟩ := isOf hZ e3 Fq2_0
  obtain ⟨_, _, ⟨T4, L4, k4, n4⟩, -, X4, ⟨Lc4, hQ4, l4, y4, z4⟩, st4⟩ := X3.virtualBack hx (y := (⟨"com/example/spindle/spindle/DispatchTimes", "add", "(J)V"⟩ : MethodName)) (z := (⟨"com/example/spindle/spindle/DispatchTimes", "add", "(J)V"⟩ : MethodName)) hown (mvT hZ (hw _ (List.mem_of_getElem? (i := 22) rfl))) (mvT hZ (hw _ (List.mem_of_getElem? (i := 23) rfl))) (notFace_of_selects (args := #[]) (mvT hZ (hw _ (List.mem_of_getElem? (i := 25) rfl)))) (mvT hZ (hw _ (List.mem_of_getElem? (i := 25) rfl))) (mvT hZ (hw _ (List.mem_of_getElem? (i := 24) rfl))) (by decide) (backOf (W := 0) (rmAdd l Z a0 hw [] b1 qr_3 b1_2 b2_2 k1_2 k2_2 (0 : Int64) (0 : Int64) (0 : Int64) (0 : Int64) (0 : Int64) (0 : Int64) (0 : Int64) (0 : Int64) ba kb r0 r1 r2 r3 T2.heap n0 Z2 Fq2_0 Fq2_1 Fq2_2 Fq2_3 Fq2_4 g_b1_2 g_b2_2 nb_2 (own_staKeep (P0.ext E1) Kq2 (allS (own_plainE A1) all0)) ((P1.ext E1).keep Kq2 (ninS ne_ba_b1 nin0)) ((P2.ext E1).keep Kq2) ((P3.ext E1).keep Kq2 (ninS ne_r0_b1 nin0)) ((P4.ext E1).keep Kq2) ((P5.ext E1).keep Kq2 (ninS ne_r1_b1 nin0)) ((P6.ext E1).keep Kq2) ((P7.ext E1).keep Kq2 (ninS ne_r2_b1 nin0)) ((P8.ext E1).keep Kq2) ((P9.ext E1).keep Kq2 (ninS ne_r3_b1 nin0)) ((P10.ext E1).keep Kq2 (ninS ne_r0_b1 nin0)) ((P11.ext E1).keep Kq2 (ninS ne_r1_b1 nin0)) ((P12.ext E1).keep Kq2 (ninS ne_r2_b1 nin0)) ((P13.ext E1).keep Kq2 (ninS ne_r3_b1 nin0)) ne_ba_b1_2 ne_ba_b2_2 ne_r0_b1_2 ne_r0_b2_2 ne_r1_b1_2 ne_r1_b2_2 ne_r2_b1_2 ne_r2_b2_2 ne_r3_b1_2 ne_r3_b2_2 ne_b1_b1_2 ne_b1_b2_2) hZ (hw _ (List.mem_of_getElem? (i := 26) rfl)) (hw _ (List.mem_of_getElem? (i := 2) rfl)) (by decide) (by decide)) qa4 qc4 (g := (mkF m 17 #[.val (.long q1), .second, .val (.long q2), .second, .val (.int p3), .val (.ref b1)] [(.long qr_3), (.ref b1)])) rfl (by rw [hml]; rfl) (Steps.refl _) (argsL := [(.long qr_3)]) (rest := []) (lenOf pd__J_V rfl) rfl (by show 2 * 0 + _ ≤ _; exact Nat.le_of_eq rfl) (hb hby at_17) (fun _ _ => ⟨rfl, e3, (by decide : 3 + 0 ≤ _), (by decide : 10 + 0 ≤ _)⟩)
  dsimp only [Pt.U, Pt.locs, Pt.cells, Pt.slots] at X4 l4 y4 z4 st4 hQ4
  subst l4 y4 z4
  obtain ⟨u0_4, u1_4, u2_4, u3_4, v0_4, v1_4, v2_4, v3_4, rfl, Nq4, Kq4, Fq4_0, Fq4_1⟩ := hQ4
  have Nf4 := Fr.app Nf3 Nq4
  have K4 : Keep h0 T4.heap [] := K2.trans Kq4 (allS (Or.inr sz_b1_2) (allS (Or.inr sz_b2_2) all0))
  have Z4 : n0 ≤ T4.heap.size := Nat.le_trans Z2 Kq4.1
  refine own_fw (A' := (T4.setTop (mkF m 20 #[.val (.long q1), .second, .val (.long q2), .second, .val (.int p3), .val (.ref b1)] []))) (fun t k => st4.trans k) ?_
  refine own_fw (A' := (T4.setTop (mkF m 22 #[.val (.long q1), .second, .val (.long q2), .second, .val (.int p3), .val (.ref b1)] [(.ref b1)]))) (fun t k => XS.aload X4.here hx rfl (hb hby at_20) rfl rfl k) ?_
  refine own_fw (A' := (T4.setTop (mkF m 23 #[.val (.long q1), .second, .val (.long q2), .second, .val (.int p3), .val (.ref b1)] [(.long q2), (.ref b1)]))) (fun t k => XS.lloadN X4.here hx rfl (hb hby at_22) rfl k) ?_
  refine own_fw (A' := (T4.setTop (mkF m 25 #[.val (.long q1), .second, .val (.long q2), .second, .val (.int p3), .val (.ref b1)] [(.int p3), (.long q2), (.ref b1)]))) (fun t k => XS.iload X4.here hx rfl (hb hby at_23) rfl k) ?_
  refine own_fw (A' := (T4.setTop (mkF m 26 #[.val (.long q1), .second, .val (.long q2), .second, .val (.int p3), .val (.ref b1)] [(.int (2 : Int32)), (.int p3), (.long q2), (.ref b1)]))) (fun t k => XS.iconst X4.here hx rfl (hb hby at_25) k) ?_
  refine own_fw (A' := (T4.setTop (mkF m 27 #[.val (.long q1), .second, .val (.long q2), .second, .val (.int p3), .val (.ref b1)] [(.int ((p3.toUInt32 >>> ((2 : Int32) &&& 31).toUInt32).toInt32)), (.long q2), (.ref b1)]))) (fun t k => XS.iushr X4.here hx rfl (hb hby at_26) rfl k) ?_
  obtain ⟨_, _, ⟨T5, L5, k5, n5⟩, -, X5, ⟨Lc5, hQ5, l5, y5, z5⟩, st5⟩ := Jvm.LawKit.callS X4 hx (y := (⟨"com/example/spindle/spindle/DispatchTimesClearPinLaw", "millis", "(JI)J"⟩ : MethodName)) hown (mvT hZ (hw _ (List.mem_of_getElem? (i := 17) rfl))) (mvT hZ (hw _ (List.mem_of_getElem? (i := 18) rfl))) (mvT hZ (hw _ (List.mem_of_getElem? (i := 19) rfl))) (mvT hZ (hw _ (List.mem_of_getElem? (i := 20) rfl))) (by decide) (backOf (W := 1) (rmMillis l Z a0 hw [] q2 ((p3.toUInt32 >>> ((2 : Int32) &&& 31).toUInt32).toInt32) T4.heap n0 Z4 ) hZ (hw _ (List.mem_of_getElem? (i := 20) rfl)) (hw _ (List.mem_of_getElem? (i := 19) rfl)) (by decide) (by decide)) (g := (mkF m 27 #[.val (.long q1), .second, .val (.long q2), .second, .val (.int p3), .val (.ref b1)] [(.int ((p3.toUInt32 >>> ((2 : Int32) &&& 31).toUInt32).toInt32)), (.long q2), (.ref b1)])) rfl (by rw [hml]; rfl) (argsL := [(.long q2), (.int ((p3.toUInt32 >>> ((2 : Int32) &&& 31).toUInt32).toInt32))]) (rest := [(.ref b1)]) (lenOf pd__JI_J rfl) rfl (by show 2 * 0 + _ ≤ _; exact Nat.le_of_eq rfl) (hb hby at_27) (fun _ _ => ⟨rfl, rfl, (by decide : 3 + 0 ≤ _), (by decide : 10 + 0 ≤ _)⟩)
  dsimp only [Pt.U, Pt.locs, Pt.cells, Pt.slots] at X5 l5 y5 z5 st5 hQ5
  subst l5 y5 z5
  obtain ⟨qr_5, rfl, Nq5, e5⟩ := hQ5
  have Nf5 := Fr.app Nf4 Nq5
  refine own_fw (A' := (T5.setTop (mkF m 30 #[.val (.long q1), .second, .val (.long q2), .second, .val (.int p3), .val (.ref b1)] [(.long qr_5), (.ref b1)]))) (fun t k => st5 _ k) ?_
  obtain ⟨cq6, kq6, qa6, qb6, qc6⟩ := isOf hZ e5 (Fq2_0.keep Kq4)
  obtain ⟨_, _, ⟨T6, L6, k6, n6⟩, -, X6, ⟨Lc6, hQ6, l6, y6, z6⟩, st6⟩ := X5.virtualBack hx (y := (⟨"com/example/spindle/spindle/DispatchTimes", "add", "(J)V"⟩ : MethodName)) (z := (⟨"com/example/spindle/spindle/DispatchTimes", "add", "(J)V"⟩ : MethodName)) hown (mvT hZ (hw _ (List.mem_of_getElem? (i := 22) rfl))) (mvT hZ (hw _ (List.mem_of_getElem? (i := 23) rfl))) (notFace_of_selects (args := #[]) (mvT hZ (hw _ (List.mem_of_getElem? (i := 25) rfl)))) (mvT hZ (hw _ (List.mem_of_getElem? (i := 25) rfl))) (mvT hZ (hw _ (List.mem_of_getElem? (i := 24) rfl))) (by decide) (backOf (W := 0) (rmAdd l Z a0 hw [] b1 qr_5 b1_2 b2_2 k1_2 k2_2 u0_4 u1_4 u2_4 u3_4 v0_4 v1_4 v2_4 v3_4 ba kb r0 r1 r2 r3 T4.heap n0 Z4 (Fq2_0.keep Kq4) (Fq2_1.keep Kq4 (ninS ne_b1_b1_2 (ninS ne_b1_b2_2 nin0))) (Fq2_2.keep Kq4 (ninS ne_b1_b1_2 (ninS ne_b1_b2_2 nin0))) Fq4_0 Fq4_1 g_b1_2 g_b2_2 nb_2 (own_staKeep (own_staKeep (P0.ext E1) Kq2 (allS (own_plainE A1) all0)) Kq4 (allS (own_plainV Fq2_3) (allS (own_plainV Fq2_4) all0))) (((P1.ext E1).keep Kq2 (ninS ne_ba_b1 nin0)).keep Kq4 (ninS ne_ba_b1_2 (ninS ne_ba_b2_2 nin0))) (((P2.ext E1).keep Kq2).keep Kq4) (((P3.ext E1).keep Kq2 (ninS ne_r0_b1 nin0)).keep Kq4 (ninS ne_r0_b1_2 (ninS ne_r0_b2_2 nin0))) (((P4.ext E1).keep Kq2).keep Kq4) (((P5.ext E1).keep Kq2 (ninS ne_r1_b1 nin0)).keep Kq4 (ninS ne_r1_b1_2 (ninS ne_r1_b2_2 nin0))) (((P6.ext E1).keep Kq2).keep Kq4) (((P7.ext E1).keep Kq2 (ninS ne_r2_b1 nin0)).keep Kq4 (ninS ne_r2_b1_2 (ninS ne_r2_b2_2 nin0))) (((P8.ext E1).keep Kq2).keep Kq4) (((P9.ext E1).keep Kq2 (ninS ne_r3_b1 nin0)).keep Kq4 (ninS ne_r3_b1_2 (ninS ne_r3_b2_2 nin0))) (((P10.ext E1).keep Kq2 (ninS ne_r0_b1 nin0)).keep Kq4 (ninS ne_r0_b1_2 (ninS ne_r0_b2_2 nin0))) (((P11.ext E1).keep Kq2 (ninS ne_r1_b1 nin0)).keep Kq4 (ninS ne_r1_b1_2 (ninS ne_r1_b2_2 nin0))) (((P12.ext E1).keep Kq2 (ninS ne_r2_b1 nin0)).keep Kq4 (ninS ne_r2_b1_2 (ninS ne_r2_b2_2 nin0))) (((P13.ext E1).keep Kq2 (ninS ne_r3_b1 nin0)).keep Kq4 (ninS ne_r3_b1_2 (ninS ne_r3_b2_2 nin0))) ne_ba_b1_2 ne_ba_b2_2 ne_r0_b1_2 ne_r0_b2_2 ne_r1_b1_2 ne_r1_b2_2 ne_r2_b1_2 ne_r2_b2_2 ne_r3_b1_2 ne_r3_b2_2 ne_b1_b1_2 ne_b1_b2_2) hZ (hw _ (List.mem_of_getElem? (i := 26) rfl)) (hw _ (List.mem_of_getElem? (i := 2) rfl)) (by decide) (by decide)) qa6 qc6 (g := (mkF m 30 #[.val (.long q1), .second, .val (.long q2), .second, .val (.int p3), .val (.ref b1)] [(.long qr_5), (.ref b1)])) rfl (by rw [hml]; rfl) (Steps.refl _) (argsL := [(.long qr_5)]) (rest := []) (lenOf pd__J_V rfl) rfl (by show 2 * 0 + _ ≤ _; exact Nat.le_of_eq rfl) (hb hby at_30) (fun _ _ => ⟨rfl, e5, (by decide : 3 + 0 ≤ _), (by decide : 10 + 0 ≤ _)⟩)
  dsimp only [Pt.U, Pt.locs, Pt.cells, Pt.slots] at X6 l6 y6 z6 st6 hQ6
  subst l6 y6 z6
  obtain ⟨u0_6, u1_6, u2_6, u3_6, v0_6, v1_6, v2_6, v3_6, rfl, Nq6, Kq6, Fq6_0, Fq6_1⟩ := hQ6
  have Nf6 := Fr.app Nf5 Nq6
  have K6 : Keep h0 T6.heap [] := K4.trans Kq6 (allS (Or.inr sz_b1_2) (allS (Or.inr sz_b2_2) all0))
  have Z6 : n0 ≤ T6.heap.size := Nat.le_trans Z4 Kq6.1
  refine own_fw (A' := (T6.setTop (mkF m 33 #[.val (.long q1), .second, .val (.long q2), .second, .val (.int p3), .val (.ref b1)] []))) (fun t k => st6.trans k) ?_
  refine own_fw (A' := (T6.setTop (mkF m 35 #[.val (.long q1), .second, .val (.long q2), .second, .val (.int p3), .val (.ref b1)] [(.ref b1)]))) (fun t k => XS.aload X6.here hx rfl (hb hby at_33) rfl rfl k) ?_
  obtain ⟨cq7, kq7, qa7, qb7, qc7⟩ := isOf hZ rfl ((Fq2_0.keep Kq4).keep Kq6)
  obtain ⟨_, _, ⟨T7, L7, k7, n7⟩, -, X7, ⟨Lc7, hQ7, l7, y7, z7⟩, st7⟩ := X6.virtualBack hx (y := (⟨"com/example/spindle/spindle/DispatchTimes", "clear", "()V"⟩ : MethodName)) (z := (⟨"com/example/spindle/spindle/DispatchTimes", "clear", "()V"⟩ : MethodName)) hown (mvT hZ (hw _ (List.mem_of_getElem? (i := 46) rfl))) (mvT hZ (hw _ (List.mem_of_getElem? (i := 47) rfl))) (notFace_of_selects (args := #[]) (mvT hZ (hw _ (List.mem_of_getElem? (i := 49) rfl)))) (mvT hZ (hw _ (List.mem_of_getElem? (i := 49) rfl))) (mvT hZ (hw _ (List.mem_of_getElem? (i := 48) rfl))) (by decide) (backOf (W := 0) (rmClear l Z a0 hw [] b1 b1_2 b2_2 k1_2 k2_2 u0_6 u1_6 u2_6 u3_6 v0_6 v1_6 v2_6 v3_6 T6.heap n0 Z6 ((Fq2_0.keep Kq4).keep Kq6) ((Fq2_1.keep Kq4 (ninS ne_b1_b1_2 (ninS ne_b1_b2_2 nin0))).keep Kq6 (ninS ne_b1_b1_2 (ninS ne_b1_b2_2 nin0))) ((Fq2_2.keep Kq4 (ninS ne_b1_b1_2 (ninS ne_b1_b2_2 nin0))).keep Kq6 (ninS ne_b1_b1_2 (ninS ne_b1_b2_2 nin0))) Fq6_0 Fq6_1 g_b1_2 g_b2_2 nb_2 ne_b1_b1_2 ne_b1_b2_2) hZ (hw _ (List.mem_of_getElem? (i := 50) rfl)) (hw _ (List.mem_of_getElem? (i := 2) rfl)) (by decide) (by decide)) qa7 qc7 (g := (mkF m 35 #[.val (.long q1), .second, .val (.long q2), .second, .val (.int p3), .val (.ref b1)] [(.ref b1)])) rfl (by rw [hml]; rfl) (Steps.refl _) (argsL := []) (rest := []) (lenOf pd___V rfl) rfl (by show 2 * 0 + _ ≤ _; exact Nat.le_of_eq rfl) (hb hby at_35) (fun _ _ => ⟨rfl, rfl, (by decide : 3 + 0 ≤ _), (by decide : 10 + 0 ≤ _)⟩)
  dsimp only [Pt.U, Pt.locs, Pt.cells, Pt.slots] at X7 l7 y7 z7 st7 hQ7
  subst l7 y7 z7
  obtain ⟨rfl, Nq7, Kq7, Fq7_0, Fq7_1⟩ := hQ7
  have Nf7 := Fr.app Nf6 Nq7
  have K7 : Keep h0 T7.heap [] := K6.trans Kq7 (allS (Or.inr sz_b1_2) (allS (Or.inr sz_b2_2) all0))
  have Z7 : n0 ≤ T7.heap.size := Nat.le_trans Z6 Kq7.1
  refine own_fw (A' := (T7.setTop (mkF m 38 #[.val (.long q1), .second, .val (.long q2), .second, .val (.int p3), .val (.ref b1)] []))) (fun t k => st7.trans k) ?_
  refine own_fw (A' := (T7.setTop (mkF m 40 #[.val (.long q1), .second, .val (.long q2), .second, .val (.int p3), .val (.ref b1)] [(.ref b1)]))) (fun t k => XS.aload X7.here hx rfl (hb hby at_38) rfl rfl k) ?_
  obtain ⟨T8, X8, e8, st8⟩ := getS2 X7 hx hZ hown (host := "") (Or.inl (hw _ (List.mem_of_getElem? (i := 51) rfl))) Via.refl rfl (own_staKeep (own_staKeep (own_staKeep (own_staKeep (P14.ext E1) Kq2 (allS (own_plainE A1) all0)) Kq4 (allS (own_plainV Fq2_3) (allS (own_plainV Fq2_4) all0))) Kq6 (allS (own_plainV Fq4_0) (allS (own_plainV Fq4_1) all0))) Kq7 (allS (own_plainV Fq6_0) (allS (own_plainV Fq6_1) all0))) (g := (mkF m 40 #[.val (.long q1), .second, .val (.long q2), .second, .val (.int p3), .val (.ref b1)] [(.ref b1)])) rfl (hb hby at_40)
  refine own_fw (A' := (T8.setTop (mkF m 43 #[.val (.long q1), .second, .val (.long q2), .second, .val (.int p3), .val (.ref b1)] [(.ref r0), (.ref b1)]))) (fun t k => st8 _ k) ?_
  obtain ⟨cq9, kq9, qa9, qb9, qc9⟩ := isOf hZ e8 (((Fq2_0.keep Kq4).keep Kq6).keep Kq7)
  obtain ⟨_, _, ⟨T9, L9, k9, n9⟩, -, X9, ⟨Lc9, hQ9, l9, y9, z9⟩, st9⟩ := X8.virtualBack hx (y := (⟨"com/example/spindle/spindle/DispatchTimes", "getCount", "(Lcom/example/spindle/spindle/DispatchTimes$Band;)J"⟩ : MethodName)) (z := (⟨"com/example/spindle/spindle/DispatchTimes", "getCount", "(Lcom/example/spindle/spindle/DispatchTimes$Band;)J"⟩ : MethodName)) hown (mvT hZ (hw _ (List.mem_of_getElem? (i := 52) rfl))) (mvT hZ (hw _ (List.mem_of_getElem? (i := 53) rfl))) (notFace_of_selects (args := #[]) (mvT hZ (hw _ (List.mem_of_getElem? (i := 55) rfl)))) (mvT hZ (hw _ (List.mem_of_getElem? (i := 55) rfl))) (mvT hZ (hw _ (List.mem_of_getElem? (i := 54) rfl))) (by decide) (backOf (W := 0) (rmGc0 l Z a0 hw [] b1 r0 b1_2 k1_2 T7.heap n0 Z7 (((Fq2_1.keep Kq4 (ninS ne_b1_b1_2 (ninS ne_b1_b2_2 nin0))).keep Kq6 (ninS ne_b1_b1_2 (ninS ne_b1_b2_2 nin0))).keep Kq7 (ninS ne_b1_b1_2 (ninS ne_b1_b2_2 nin0))) Fq7_0 (((((P2.ext E1).keep Kq2).keep Kq4).keep Kq6).keep Kq7) (((((P10.ext E1).keep Kq2 (ninS ne_r0_b1 nin0)).keep Kq4 (ninS ne_r0_b1_2 (ninS ne_r0_b2_2 nin0))).keep Kq6 (ninS ne_r0_b1_2 (ninS ne_r0_b2_2 nin0))).keep Kq7 (ninS ne_r0_b1_2 (ninS ne_r0_b2_2 nin0)))) hZ (hw _ (List.mem_of_getElem? (i := 56) rfl)) (hw _ (List.mem_of_getElem? (i := 2) rfl)) (by decide) (by decide)) qa9 qc9 (g := (mkF m 43 #[.val (.long q1), .second, .val (.long q2), .second, .val (.int p3), .val (.ref b1)] [(.ref r0), (.ref b1)])) rfl (by rw [hml]; rfl) (Steps.refl _) (argsL := [(.ref r0)]) (rest := []) (lenOf pd__Lcom_example_spindle_spindle_DispatchTimes_Band__J rfl) rfl (by show 2 * 0 + _ ≤ _; exact Nat.le_of_eq rfl) (hb hby at_43) (fun _ _ => ⟨rfl, e8, (by decide : 3 + 0 ≤ _), (by decide : 10 + 0 ≤ _)⟩)
  dsimp only [Pt.U, Pt.locs, Pt.cells, Pt.slots] at X9 l9 y9 z9 st9 hQ9
  subst l9 y9 z9
  obtain ⟨rfl, Nq9, e9⟩ := hQ9
  have Nf9 := Fr.app Nf7 Nq9
  refine own_fw (A' := (T9.setTop (mkF m 46 #[.val (.long q1), .second, .val (.long q2), .second, .val (.int p3), .val (.ref b1)] [(.long (0 : Int64))]))) (fun t k => st9.trans k) ?_
  refine own_fw (A' := (T9.setTop (mkF m 47 #[.val (.long q1), .second, .val (.long q2), .second, .val (.int p3), .val (.ref b1)] [(.long (0 : Int64)), (.long (0 : Int64))]))) (fun t k => XS.lconst X9.here hx rfl (hb hby at_46) k) ?_
  refine own_fw (A' := (T9.setTop (mkF m 48 #[.val (.long q1), .second, .val (.long q2), .second, .val (.int p3), .val (.ref b1)] [(.int (XT.cmpL (0 : Int64) (0 : Int64)))]))) (fun t k => XT.lcmp X9.here hx rfl (hb hby at_47) rfl k) ?_
  refine own_fw (A' := (T9.setTop (mkF m 51 #[.val (.long q1), .second, .val (.long q2), .second, .val (.int p3), .val (.ref b1)] []))) (fun t k => XS.ifNo X9.here hx rfl (hb hby at_48) rfl (XT.ll_ne_f rfl) k) ?_
  refine own_fw (A' := (T9.setTop (mkF m 53 #[.val (.long q1), .second, .val (.long q2), .second, .val (.int p3), .val (.ref b1)] [(.ref b1)]))) (fun t k => XS.aload X9.here hx rfl (hb hby at_51) rfl rfl k) ?_
  obtain ⟨T10, X10, e10, st10⟩ := getS2 X9 hx hZ hown (host := "") (Or.inl (hw _ (List.mem_of_getElem? (i := 51) rfl))) Via.refl e9 (own_staKeep (own_staKeep (own_staKeep (own_staKeep (P14.ext E1) Kq2 (allS (own_plainE A1) all0)) Kq4 (allS (own_plainV Fq2_3) (allS (own_plainV Fq2_4) all0))) Kq6 (allS (own_plainV Fq4_0) (allS (own_plainV Fq4_1) all0))) Kq7 (allS (own_plainV Fq6_0) (allS (own_plainV Fq6_1) all0))) (g := (mkF m 53 #[.val (.long q1), .second, .val (.long q2), .second, .val (.int p3), .val (.ref b1)] [(.ref b1)])) rfl (hb hby at_53)
  refine own_fw (A' := (T10.setTop (mkF m 56 #[.val (.long q1), .second, .val (.long q2), .second, .val (.int p3), .val (.ref b1)] [(.ref r0), (.ref b1)]))) (fun t k => st10 _ k) ?_
  obtain ⟨cq11, kq11, qa11, qb11, qc11⟩ := isOf hZ e10 (((Fq2_0.keep Kq4).keep Kq6).keep Kq7)
  obtain ⟨_, _, ⟨T11, L11, k11, n11⟩, -, X11, ⟨Lc11, hQ11, l11, y11, z11⟩, st11⟩ := X10.virtualBack hx (y := (⟨"com/example/spindle/spindle/DispatchTimes", "getTotalMillis", "(Lcom/example/spindle/spindle/DispatchTimes$Band;)J"⟩ : MethodName)) (z := (⟨"com/example/spindle/spindle/DispatchTimes", "getTotalMillis", "(Lcom/example/spindle/spindle/DispatchTimes$Band;)J"⟩ : MethodName)) hown (mvT hZ (hw _ (List.mem_of_getElem? (i := 57) rfl))) (mvT hZ (hw _ (List.mem_of_getElem? (i := 58) rfl))) (notFace_of_selects (args := #[]) (mvT hZ (hw _ (List.mem_of_getElem? (i := 60) rfl)))) (mvT hZ (hw _ (List.mem_of_getElem? (i := 60) rfl))) (mvT hZ (hw _ (List.mem_of_getElem? (i := 59) rfl))) (by decide) (backOf (W := 0) (rmGt0 l Z a0 hw [] b1 r0 b2_2 k2_2 T7.heap n0 Z7 (((Fq2_2.keep Kq4 (ninS ne_b1_b1_2 (ninS ne_b1_b2_2 nin0))).keep Kq6 (ninS ne_b1_b1_2 (ninS ne_b1_b2_2 nin0))).keep Kq7 (ninS ne_b1_b1_2 (ninS ne_b1_b2_2 nin0))) Fq7_1 (((((P2.ext E1).keep Kq2).keep Kq4).keep Kq6).keep Kq7) (((((P10.ext E1).keep Kq2 (ninS ne_r0_b1 nin0)).keep Kq4 (ninS ne_r0_b1_2 (ninS ne_r0_b2_2 nin0))).keep Kq6 (ninS ne_r0_b1_2 (ninS ne_r0_b2_2 nin0))).keep Kq7 (ninS ne_r0_b1_2 (ninS ne_r0_b2_2 nin0)))) hZ (hw _ (List.mem_of_getElem? (i := 61) rfl)) (hw _ (List.mem_of_getElem? (i := 2) rfl)) (by decide) (by decide)) qa11 qc11 (g := (mkF m 56 #[.val (.long q1), .second, .val (.long q2), .second, .val (.int p3), .val (.ref b1)] [(.ref r0), (.ref b1)])) rfl (by rw [hml]; rfl) (Steps.refl _) (argsL := [(.ref r0)]) (rest := []) (lenOf pd__Lcom_example_spindle_spindle_DispatchTimes_Band__J rfl) rfl (by show 2 * 0 + _ ≤ _; exact Nat.le_of_eq rfl) (hb hby at_56) (fun _ _ => ⟨rfl, e10, (by decide : 3 + 0 ≤ _), (by decide : 10 + 0 ≤ _)⟩)
  dsimp only [Pt.U, Pt.locs, Pt.cells, Pt.slots] at X11 l11 y11 z11 st11 hQ11
  subst l11 y11 z11
  obtain ⟨rfl, Nq11, e11⟩ := hQ11
  have Nf11 := Fr.app Nf9 Nq11
  refine own_fw (A' := (T11.setTop (mkF m 59 #[.val (.long q1), .second, .val (.long q2), .second, .val (.int p3), .val (.ref b1)] [(.long (0 : Int64))]))) (fun t k => st11.trans k) ?_
  refine own_fw (A' := (T11.setTop (mkF m 60 #[.val (.long q1), .second, .val (.long q2), .second, .val (.int p3), .val (.ref b1)] [(.long (0 : Int64)), (.long (0 : Int64))]))) (fun t k => XS.lconst X11.here hx rfl (hb hby at_59) k) ?_
  refine own_fw (A' := (T11.setTop (mkF m 61 #[.val (.long q1), .second, .val (.long q2), .second, .val (.int p3), .val (.ref b1)] [(.int (XT.cmpL (0 : Int64) (0 : Int64)))]))) (fun t k => XT.lcmp X11.here hx rfl (hb hby at_60) rfl k) ?_
  refine own_fw (A' := (T11.setTop (mkF m 64 #[.val (.long q1), .second, .val (.long q2), .second, .val (.int p3), .val (.ref b1)] []))) (fun t k => XS.ifNo X11.here hx rfl (hb hby at_61) rfl (XT.ll_ne_f rfl) k) ?_
  refine own_fw (A' := (T11.setTop (mkF m 66 #[.val (.long q1), .second, .val (.long q2), .second, .val (.int p3), .val (.ref b1)] [(.ref b1)]))) (fun t k => XS.aload X11.here hx rfl (hb hby at_64) rfl rfl k) ?_
  obtain ⟨T12, X12, e12, st12⟩ := getS2 X11 hx hZ hown (host := "") (Or.inl (hw _ (List.mem_of_getElem? (i := 62) rfl))) Via.refl e11 (own_staKeep (own_staKeep (own_staKeep (own_staKeep (P15.ext E1) Kq2 (allS (own_plainE A1) all0)) Kq4 (allS (own_plainV Fq2_3) (allS (own_plainV Fq2_4) all0))) Kq6 (allS (own_plainV Fq4_0) (allS (own_plainV Fq4_1) all0))) Kq7 (allS (own_plainV Fq6_0) (allS (own_plainV Fq6_1) all0))) (g := (mkF m 66 #[.val (.long q1), .second, .val (.long q2), .second, .val (.int p3), .val (.ref b1)] [(.ref b1)])) rfl (hb hby at_66)
  refine own_fw (A' := (T12.setTop (mkF m 69 #[.val (.long q1), .second, .val (.long q2), .second, .val (.int p3), .val (.ref b1)] [(.ref r1), (.ref b1)]))) (fun t k => st12 _ k) ?_
  obtain ⟨cq13, kq13, qa13, qb13, qc13⟩ := isOf hZ e12 (((Fq2_0.keep Kq4).keep Kq6).keep Kq7)
  obtain ⟨_, _, ⟨T13, L13, k13, n13⟩, -, X13, ⟨Lc13, hQ13, l13, y13, z13⟩, st13⟩ := X12.virtualBack hx (y := (⟨"com/example/spindle/spindle/DispatchTimes", "getCount", "(Lcom/example/spindle/spindle/DispatchTimes$Band;)J"⟩ : MethodName)) (z := (⟨"com/example/spindle/spindle/DispatchTimes", "getCount", "(Lcom/example/spindle/spindle/DispatchTimes$Band;)J"⟩ : MethodName)) hown (mvT hZ (hw _ (List.mem_of_getElem? (i := 52) rfl))) (mvT hZ (hw _ (List.mem_of_getElem? (i := 53) rfl))) (notFace_of_selects (args := #[]) (mvT hZ (hw _ (List.mem_of_getElem? (i := 55) rfl)))) (mvT hZ (hw _ (List.mem_of_getElem? (i := 55) rfl))) (mvT hZ (hw _ (List.mem_of_getElem? (i := 54) rfl))) (by decide) (backOf (W := 0) (rmGc1 l Z a0 hw [] b1 r1 b1_2 k1_2 T7.heap n0 Z7 (((Fq2_1.keep Kq4 (ninS ne_b1_b1_2 (ninS ne_b1_b2_2 nin0))).keep Kq6 (ninS ne_b1_b1_2 (ninS ne_b1_b2_2 nin0))).keep Kq7 (ninS ne_b1_b1_2 (ninS ne_b1_b2_2 nin0))) Fq7_0 (((((P4.ext E1).keep Kq2).keep Kq4).keep Kq6).keep Kq7) (((((P11.ext E1).keep Kq2 (ninS ne_r1_b1 nin0)).keep Kq4 (ninS ne_r1_b1_2 (ninS ne_r1_b2_2 nin0))).keep Kq6 (ninS ne_r1_b1_2 (ninS ne_r1_b2_2 nin0))).keep Kq7 (ninS ne_r1_b1_2 (ninS ne_r1_b2_2 nin0)))) hZ (hw _ (List.mem_of_getElem? (i := 56) rfl)) (hw _ (List.mem_of_getElem? (i := 2) rfl)) (by decide) (by decide)) qa13 qc13 (g := (mkF m 69 #[.val (.long q1), .second, .val (.long q2), .second, .val (.int p3), .val (.ref b1)] [(.ref r1), (.ref b1)])) rfl (by rw [hml]; rfl) (Steps.refl _) (argsL := [(.ref r1)]) (rest := []) (lenOf pd__Lcom_example_spindle_spindle_DispatchTimes_Band__J rfl) rfl (by show 2 * 0 + _ ≤ _; exact Nat.le_of_eq rfl) (hb hby at_69) (fun _ _ => ⟨rfl, e12, (by decide : 3 + 0 ≤ _), (by decide : 10 + 0 ≤ _)⟩)
  dsimp only [Pt.U, Pt.locs, Pt.cells, Pt.slots] at X13 l13 y13 z13 st13 hQ13
  subst l13 y13 z13
  obtain ⟨rfl, Nq13, e13⟩ := hQ13
  have Nf13 := Fr.app Nf11 Nq13
  refine own_fw (A' := (T13.setTop (mkF m 72 #[.val (.long q1), .second, .val (.long q2), .second, .val (.int p3), .val (.ref b1)] [(.long (0 : Int64))]))) (fun t k => st13.trans k) ?_
  refine own_fw (A' := (T13.setTop (mkF m 73 #[.val (.long q1), .second, .val (.long q2), .second, .val (.int p3), .val (.ref b1)] [(.long (0 : Int64)), (.long (0 : Int64))]))) (fun t k => XS.lconst X13.here hx rfl (hb hby at_72) k) ?_
  refine own_fw (A' := (T13.setTop (mkF m 74 #[.val (.long q1), .second, .val (.long q2), .second, .val (.int p3), .val (.ref b1)] [(.int (XT.cmpL (0 : Int64) (0 : Int64)))]))) (fun t k => XT.lcmp X13.here hx rfl (hb hby at_73) rfl k) ?_
  refine own_fw (A' := (T13.setTop (mkF m 77 #[.val (.long q1), .second, .val (.long q2), .second, .val (.int p3), .val (.ref b1)] []))) (fun t k => XS.ifNo X13.here hx rfl (hb hby at_74) rfl (XT.ll_ne_f rfl) k) ?_
  refine own_fw (A' := (T13.setTop (mkF m 79 #[.val (.long q1), .second, .val (.long q2), .second, .val (.int p3), .val (.ref b1)] [(.ref b1)]))) (fun t k => XS.aload X13.here hx rfl (hb hby at_77) rfl rfl k) ?_
  obtain ⟨T14, X14, e14, st14⟩ := getS2 X13 hx hZ hown (host := "") (Or.inl (hw _ (List.mem_of_getElem? (i := 62) rfl))) Via.refl e13 (own_staKeep (own_staKeep (own_staKeep (own_staKeep (P15.ext E1) Kq2 (allS (own_plainE A1) all0)) Kq4 (allS (own_plainV Fq2_3) (allS (own_plainV Fq2_4) all0))) Kq6 (allS (own_plainV Fq4_0) (allS (own_plainV Fq4_1) all0))) Kq7 (allS (own_plainV Fq6_0) (allS (own_plainV Fq6_1) all0))) (g := (mkF m 79 #[.val (.long q1), .second, .val (.long q2), .second, .val (.int p3), .val (.ref b1)] [(.ref b1)])) rfl (hb hby at_79)
  refine own_fw (A' := (T14.setTop (mkF m 82 #[.val (.long q1), .second, .val (.long q2), .second, .val (.int p3), .val (.ref b1)] [(.ref r1), (.ref b1)]))) (fun t k => st14 _ k) ?_
  obtain ⟨cq15, kq15, qa15, qb15, qc15⟩ := isOf hZ e14 (((Fq2_0.keep Kq4).keep Kq6).keep Kq7)
  obtain ⟨_, _, ⟨T15, L15, k15, n15⟩, -, X15, ⟨Lc15, hQ15, l15, y15, z15⟩, st15⟩ := X14.virtualBack hx (y := (⟨"com/example/spindle/spindle/DispatchTimes", "getTotalMillis", "(Lcom/example/spindle/spindle/DispatchTimes$Band;)J"⟩ : MethodName)) (z := (⟨"com/example/spindle/spindle/DispatchTimes", "getTotalMillis", "(Lcom/example/spindle/spindle/DispatchTimes$Band;)J"⟩ : MethodName)) hown (mvT hZ (hw _ (List.mem_of_getElem? (i := 57) rfl))) (mvT hZ (hw _ (List.mem_of_getElem? (i := 58) rfl))) (notFace_of_selects (args := #[]) (mvT hZ (hw _ (List.mem_of_getElem? (i := 60) rfl)))) (mvT hZ (hw _ (List.mem_of_getElem? (i := 60) rfl))) (mvT hZ (hw _ (List.mem_of_getElem? (i := 59) rfl))) (by decide) (backOf (W := 0) (rmGt1 l Z a0 hw [] b1 r1 b2_2 k2_2 T7.heap n0 Z7 (((Fq2_2.keep Kq4 (ninS ne_b1_b1_2 (ninS ne_b1_b2_2 nin0))).keep Kq6 (ninS ne_b1_b1_2 (ninS ne_b1_b2_2 nin0))).keep Kq7 (ninS ne_b1_b1_2 (ninS ne_b1_b2_2 nin0))) Fq7_1 (((((P4.ext E1).keep Kq2).keep Kq4).keep Kq6).keep Kq7) (((((P11.ext E1).keep Kq2 (ninS ne_r1_b1 nin0)).keep Kq4 (ninS ne_r1_b1_2 (ninS ne_r1_b2_2 nin0))).keep Kq6 (ninS ne_r1_b1_2 (ninS ne_r1_b2_2 nin0))).keep Kq7 (ninS ne_r1_b1_2 (ninS ne_r1_b2_2 nin0)))) hZ (hw _ (List.mem_of_getElem? (i := 61) rfl)) (hw _ (List.mem_of_getElem? (i := 2) rfl)) (by decide) (by decide)) qa15 qc15 (g := (mkF m 82 #[.val (.long q1), .second, .val (.long q2), .second, .val (.int p3), .val (.ref b1)] [(.ref r1), (.ref b1)])) rfl (by rw [hml]; rfl) (Steps.refl _) (argsL := [(.ref r1)]) (rest := []) (lenOf pd__Lcom_example_spindle_spindle_DispatchTimes_Band__J rfl) rfl (by show 2 * 0 + _ ≤ _; exact Nat.le_of_eq rfl) (hb hby at_82) (fun _ _ => ⟨rfl, e14, (by decide : 3 + 0 ≤ _), (by decide : 10 + 0 ≤ _)⟩)
  dsimp only [Pt.U, Pt.locs, Pt.cells, Pt.slots] at X15 l15 y15 z15 st15 hQ15
  subst l15 y15 z15
  obtain ⟨rfl, Nq15, e15⟩ := hQ15
  have Nf15 := Fr.app Nf13 Nq15
  refine own_fw (A' := (T15.setTop (mkF m 85 #[.val (.long q1), .second, .val (.long q2), .second, .val (.int p3), .val (.ref b1)] [(.long (0 : Int64))]))) (fun t k => st15.trans k) ?_
  refine own_fw (A' := (T15.setTop (mkF m 86 #[.val (.long q1), .second, .val (.long q2), .second, .val (.int p3), .val (.ref b1)] [(.long (0 : Int64)), (.long (0 : Int64))]))) (fun t k => XS.lconst X15.here hx rfl (hb hby at_85) k) ?_
  refine own_fw (A' := (T15.setTop (mkF m 87 #[.val (.long q1), .second, .val (.long q2), .second, .val (.int p3), .val (.ref b1)] [(.int (XT.cmpL (0 : Int64) (0 : Int64)))]))) (fun t k => XT.lcmp X15.here hx rfl (hb hby at_86) rfl k) ?_
  refine own_fw (A' := (T15.setTop (mkF m 90 #[.val (.long q1), .second, .val (.long q2), .second, .val (.int p3), .val (.ref b1)] []))) (fun t k => XS.ifNo X15.here hx rfl (hb hby at_87) rfl (XT.ll_ne_f rfl) k) ?_
  refine own_fw (A' := (T15.setTop (mkF m 92 #[.val (.long q1), .second, .val (.long q2), .second, .val (.int p3), .val (.ref b1)] [(.ref b1)]))) (fun t k => XS.aload X15.here hx rfl (hb hby at_90) rfl rfl k) ?_
  obtain ⟨T16, X16, e16, st16⟩ := getS2 X15 hx hZ hown (host := "") (Or.inl (hw _ (List.mem_of_getElem? (i := 63) rfl))) Via.refl e15 (own_staKeep (own_staKeep (own_staKeep (own_staKeep (P16.ext E1) Kq2 (allS (own_plainE A1) all0)) Kq4 (allS (own_plainV Fq2_3) (allS (own_plainV Fq2_4) all0))) Kq6 (allS (own_plainV Fq4_0) (allS (own_plainV Fq4_1) all0))) Kq7 (allS (own_plainV Fq6_0) (allS (own_plainV Fq6_1) all0))) (g := (mkF m 92 #[.val (.long q1), .second, .val (.long q2), .second, .val (.int p3), .val (.ref b1)] [(.ref b1)])) rfl (hb hby at_92)
  refine own_fw (A' := (T16.setTop (mkF m 95 #[.val (.long q1), .second, .val (.long q2), .second, .val (.int p3), .val (.ref b1)] [(.ref r2), (.ref b1)]))) (fun t k => st16 _ k) ?_
  obtain ⟨cq17, kq17, qa17, qb17, qc17⟩ := isOf hZ e16 (((Fq2_0.keep Kq4).keep Kq6).keep Kq7)
  obtain ⟨_, _, ⟨T17, L17, k17, n17⟩, -, X17, ⟨Lc17, hQ17, l17, y17, z17⟩, st17⟩ := X16.virtualBack hx (y := (⟨"com/example/spindle/spindle/DispatchTimes", "getCount", "(Lcom/example/spindle/spindle/DispatchTimes$Band;)J"⟩ : MethodName)) (z := (⟨"com/example/spindle/spindle/DispatchTimes", "getCount", "(Lcom/example/spindle/spindle/DispatchTimes$Band;)J"⟩ : MethodName)) hown (mvT hZ (hw _ (List.mem_of_getElem? (i := 52) rfl))) (mvT hZ (hw _ (List.mem_of_getElem? (i := 53) rfl))) (notFace_of_selects (args := #[]) (mvT hZ (hw _ (List.mem_of_getElem? (i := 55) rfl)))) (mvT hZ (hw _ (List.mem_of_getElem? (i := 55) rfl))) (mvT hZ (hw _ (List.mem_of_getElem? (i := 54) rfl))) (by decide) (backOf (W := 0) (rmGc2 l Z a0 hw [] b1 r2 b1_2 k1_2 T7.heap n0 Z7 (((Fq2_1.keep Kq4 (ninS ne_b1_b1_2 (ninS ne_b1_b2_2 nin0))).keep Kq6 (ninS ne_b1_b1_2 (ninS ne_b1_b2_2 nin0))).keep Kq7 (ninS ne_b1_b1_2 (ninS ne_b1_b2_2 nin0))) Fq7_0 (((((P6.ext E1).keep Kq2).keep Kq4).keep Kq6).keep Kq7) (((((P12.ext E1).keep Kq2 (ninS ne_r2_b1 nin0)).keep Kq4 (ninS ne_r2_b1_2 (ninS ne_r2_b2_2 nin0))).keep Kq6 (ninS ne_r2_b1_2 (ninS ne_r2_b2_2 nin0))).keep Kq7 (ninS ne_r2_b1_2 (ninS ne_r2_b2_2 nin0)))) hZ (hw _ (List.mem_of_getElem? (i := 56) rfl)) (hw _ (List.mem_of_getElem? (i := 2) rfl)) (by decide) (by decide)) qa17 qc17 (g := (mkF m 95 #[.val (.long q1), .second, .val (.long q2), .second, .val (.int p3), .val (.ref b1)] [(.ref r2), (.ref b1)])) rfl (by rw [hml]; rfl) (Steps.refl _) (argsL := [(.ref r2)]) (rest := []) (lenOf pd__Lcom_example_spindle_spindle_DispatchTimes_Band__J rfl) rfl (by show 2 * 0 + _ ≤ _; exact Nat.le_of_eq rfl) (hb hby at_95) (fun _ _ => ⟨rfl, e16, (by decide : 3 + 0 ≤ _), (by decide : 10 + 0 ≤ _)⟩)
  dsimp only [Pt.U, Pt.locs, Pt.cells, Pt.slots] at X17 l17 y17 z17 st17 hQ17
  subst l17 y17 z17
  obtain ⟨rfl, Nq17, e17⟩ := hQ17
  have Nf17 := Fr.app Nf15 Nq17
  refine own_fw (A' := (T17.setTop (mkF m 98 #[.val (.long q1), .second, .val (.long q2), .second, .val (.int p3), .val (.ref b1)] [(.long (0 : Int64))]))) (fun t k => st17.trans k) ?_
  refine own_fw (A' := (T17.setTop (mkF m 99 #[.val (.long q1), .second, .val (.long q2), .second, .val (.int p3), .val (.ref b1)] [(.long (0 : Int64)), (.long (0 : Int64))]))) (fun t k => XS.lconst X17.here hx rfl (hb hby at_98) k) ?_
  refine own_fw (A' := (T17.setTop (mkF m 100 #[.val (.long q1), .second, .val (.long q2), .second, .val (.int p3), .val (.ref b1)] [(.int (XT.cmpL (0 : Int64) (0 : Int64)))]))) (fun t k => XT.lcmp X17.here hx rfl (hb hby at_99) rfl k) ?_
  refine own_fw (A' := (T17.setTop (mkF m 103 #[.val (.long q1), .second, .val (.long q2), .second, .val (.int p3), .val (.ref b1)] []))) (fun t k => XS.ifNo X17.here hx rfl (hb hby at_100) rfl (XT.ll_ne_f rfl) k) ?_
  refine own_fw (A' := (T17.setTop (mkF m 105 #[.val (.long q1), .second, .val (.long q2), .second, .val (.int p3), .val (.ref b1)] [(.ref b1)]))) (fun t k => XS.aload X17.here hx rfl (hb hby at_103) rfl rfl k) ?_
  obtain ⟨T18, X18, e18, st18⟩ := getS2 X17 hx hZ hown (host := "") (Or.inl (hw _ (List.mem_of_getElem? (i := 63) rfl))) Via.refl e17 (own_staKeep (own_staKeep (own_staKeep (own_staKeep (P16.ext E1) Kq2 (allS (own_plainE A1) all0)) Kq4 (allS (own_plainV Fq2_3) (allS (own_plainV Fq2_4) all0))) Kq6 (allS (own_plainV Fq4_0) (allS (own_plainV Fq4_1) all0))) Kq7 (allS (own_plainV Fq6_0) (allS (own_plainV Fq6_1) all0))) (g := (mkF m 105 #[.val (.long q1), .second, .val (.long q2), .second, .val (.int p3), .val (.ref b1)] [(.ref b1)])) rfl (hb hby at_105)
  refine own_fw (A' := (T18.setTop (mkF m 108 #[.val (.long q1), .second, .val (.long q2), .second, .val (.int p3), .val (.ref b1)] [(.ref r2), (.ref b1)]))) (fun t k => st18 _ k) ?_
  obtain ⟨cq19, kq19, qa19, qb19, qc19⟩ := isOf hZ e18 (((Fq2_0.keep Kq4).keep Kq6).keep Kq7)
  obtain ⟨_, _, ⟨T19, L19, k19, n19⟩, -, X19, ⟨Lc19, hQ19, l19, y19, z19⟩, st19⟩ := X18.virtualBack hx (y := (⟨"com/example/spindle/spindle/DispatchTimes", "getTotalMillis", "(Lcom/example/spindle/spindle/DispatchTimes$Band;)J"⟩ : MethodName)) (z := (⟨"com/example/spindle/spindle/DispatchTimes", "getTotalMillis", "(Lcom/example/spindle/spindle/DispatchTimes$Band;)J"⟩ : MethodName)) hown (mvT hZ (hw _ (List.mem_of_getElem? (i := 57) rfl))) (mvT hZ (hw _ (List.mem_of_getElem? (i := 58) rfl))) (notFace_of_selects (args := #[]) (mvT hZ (hw _ (List.mem_of_getElem? (i := 60) rfl)))) (mvT hZ (hw _ (List.mem_of_getElem? (i := 60) rfl))) (mvT hZ (hw _ (List.mem_of_getElem? (i := 59) rfl))) (by decide) (backOf (W := 0) (rmGt2 l Z a0 hw [] b1 r2 b2_2 k2_2 T7.heap n0 Z7 (((Fq2_2.keep Kq4 (ninS ne_b1_b1_2 (ninS ne_b1_b2_2 nin0))).keep Kq6 (ninS ne_b1_b1_2 (ninS ne_b1_b2_2 nin0))).keep Kq7 (ninS ne_b1_b1_2 (ninS ne_b1_b2_2 nin0))) Fq7_1 (((((P6.ext E1).keep Kq2).keep Kq4).keep Kq6).keep Kq7) (((((P12.ext E1).keep Kq2 (ninS ne_r2_b1 nin0)).keep Kq4 (ninS ne_r2_b1_2 (ninS ne_r2_b2_2 nin0))).keep Kq6 (ninS ne_r2_b1_2 (ninS ne_r2_b2_2 nin0))).keep Kq7 (ninS ne_r2_b1_2 (ninS ne_r2_b2_2 nin0)))) hZ (hw _ (List.mem_of_getElem? (i := 61) rfl)) (hw _ (List.mem_of_getElem? (i := 2) rfl)) (by decide) (by decide)) qa19 qc19 (g := (mkF m 108 #[.val (.long q1), .second, .val (.long q2), .second, .val (.int p3), .val (.ref b1)] [(.ref r2), (.ref b1)])) rfl (by rw [hml]; rfl) (Steps.refl _) (argsL := [(.ref r2)]) (rest := []) (lenOf pd__Lcom_example_spindle_spindle_DispatchTimes_Band__J rfl) rfl (by show 2 * 0 + _ ≤ _; exact Nat.le_of_eq rfl) (hb hby at_108) (fun _ _ => ⟨rfl, e18, (by decide : 3 + 0 ≤ _), (by decide : 10 + 0 ≤ _)⟩)
  dsimp only [Pt.U, Pt.locs, Pt.cells, Pt.slots] at X19 l19 y19 z19 st19 hQ19
  subst l19 y19 z19
  obtain ⟨rfl, Nq19, e19⟩ := hQ19
  have Nf19 := Fr.app Nf17 Nq19
  refine own_fw (A' := (T19.setTop (mkF m 111 #[.val (.long q1), .second, .val (.long q2), .second, .val (.int p3), .val (.ref b1)] [(.long (0 : Int64))]))) (fun t k => st19.trans k) ?_
  refine own_fw (A' := (T19.setTop (mkF m 112 #[.val (.long q1), .second, .val (.long q2), .second, .val (.int p3), .val (.ref b1)] [(.long (0 : Int64)), (.long (0 : Int64))]))) (fun t k => XS.lconst X19.here hx rfl (hb hby at_111) k) ?_
  refine own_fw (A' := (T19.setTop (mkF m 113 #[.val (.long q1), .second, .val (.long q2), .second, .val (.int p3), .val (.ref b1)] [(.int (XT.cmpL (0 : Int64) (0 : Int64)))]))) (fun t k => XT.lcmp X19.here hx rfl (hb hby at_112) rfl k) ?_
  refine own_fw (A' := (T19.setTop (mkF m 116 #[.val (.long q1), .second, .val (.long q2), .second, .val (.int p3), .val (.ref b1)] []))) (fun t k => XS.ifNo X19.here hx rfl (hb hby at_113) rfl (XT.ll_ne_f rfl) k) ?_
  refine own_fw (A' := (T19.setTop (mkF m 118 #[.val (.long q1), .second, .val (.long q2), .second, .val (.int p3), .val (.ref b1)] [(.ref b1)]))) (fun t k => XS.aload X19.here hx rfl (hb hby at_116) rfl rfl k) ?_
  obtain ⟨T20, X20, e20, st20⟩ := getS2 X19 hx hZ hown (host := "") (Or.inl (hw _ (List.mem_of_getElem? (i := 64) rfl))) Via.refl e19 (own_staKeep (own_staKeep (own_staKeep (own_staKeep (P17.ext E1) Kq2 (allS (own_plainE A1) all0)) Kq4 (allS (own_plainV Fq2_3) (allS (own_plainV Fq2_4) all0))) Kq6 (allS (own_plainV Fq4_0) (allS (own_plainV Fq4_1) all0))) Kq7 (allS (own_plainV Fq6_0) (allS (own_plainV Fq6_1) all0))) (g := (mkF m 118 #[.val (.long q1), .second, .val (.long q2), .second, .val (.int p3), .val (.ref b1)] [(.ref b1)])) rfl (hb hby at_118)
  refine own_fw (A' := (T20.setTop (mkF m 121 #[.val (.long q1), .second, .val (.long q2), .second, .val (.int p3), .val (.ref b1)] [(.ref r3), (.ref b1)]))) (fun t k => st20 _ k) ?_
  obtain ⟨cq21, kq21, qa21, qb21, qc21⟩ := isOf hZ e20 (((Fq2_0.keep Kq4).keep Kq6).keep Kq7)
  obtain ⟨_, _, ⟨T21, L21, k21, n21⟩, -, X21, ⟨Lc21, hQ21, l21, y21, z21⟩, st21⟩ := X20.virtualBack hx (y := (⟨"com/example/spindle/spindle/DispatchTimes", "getCount", "(Lcom/example/spindle/spindle/DispatchTimes$Band;)J"⟩ : MethodName)) (z := (⟨"com/example/spindle/spindle/DispatchTimes", "getCount", "(Lcom/example/spindle/spindle/DispatchTimes$Band;)J"⟩ : MethodName)) hown (mvT hZ (hw _ (List.mem_of_getElem? (i := 52) rfl))) (mvT hZ (hw _ (List.mem_of_getElem? (i := 53) rfl))) (notFace_of_selects (args := #[]) (mvT hZ (hw _ (List.mem_of_getElem? (i := 55) rfl)))) (mvT hZ (hw _ (List.mem_of_getElem? (i := 55) rfl))) (mvT hZ (hw _ (List.mem_of_getElem? (i := 54) rfl))) (by decide) (backOf (W := 0) (rmGc3 l Z a0 hw [] b1 r3 b1_2 k1_2 T7.heap n0 Z7 (((Fq2_1.keep Kq4 (ninS ne_b1_b1_2 (ninS ne_b1_b2_2 nin0))).keep Kq6 (ninS ne_b1_b1_2 (ninS ne_b1_b2_2 nin0))).keep Kq7 (ninS ne_b1_b1_2 (ninS ne_b1_b2_2 nin0))) Fq7_0 (((((P8.ext E1).keep Kq2).keep Kq4).keep Kq6).keep Kq7) (((((P13.ext E1).keep Kq2 (ninS ne_r3_b1 nin0)).keep Kq4 (ninS ne_r3_b1_2 (ninS ne_r3_b2_2 nin0))).keep Kq6 (ninS ne_r3_b1_2 (ninS ne_r3_b2_2 nin0))).keep Kq7 (ninS ne_r3_b1_2 (ninS ne_r3_b2_2 nin0)))) hZ (hw _ (List.mem_of_getElem? (i := 56) rfl)) (hw _ (List.mem_of_getElem? (i := 2) rfl)) (by decide) (by decide)) qa21 qc21 (g := (mkF m 121 #[.val (.long q1), .second, .val (.long q2), .second, .val (.int p3), .val (.ref b1)] [(.ref r3), (.ref b1)])) rfl (by rw [hml]; rfl) (Steps.refl _) (argsL := [(.ref r3)]) (rest := []) (lenOf pd__Lcom_example_spindle_spindle_DispatchTimes_Band__J rfl) rfl (by show 2 * 0 + _ ≤ _; exact Nat.le_of_eq rfl) (hb hby at_121) (fun _ _ => ⟨rfl, e20, (by decide : 3 + 0 ≤ _), (by decide : 10 + 0 ≤ _)⟩)
  dsimp only [Pt.U, Pt.locs, Pt.cells, Pt.slots] at X21 l21 y21 z21 st21 hQ21
  subst l21 y21 z21
  obtain ⟨rfl, Nq21, e21⟩ := hQ21
  have Nf21 := Fr.app Nf19 Nq21
  refine own_fw (A' := (T21.setTop (mkF m 124 #[.val (.long q1), .second, .val (.long q2), .second, .val (.int p3), .val (.ref b1)] [(.long (0 : Int64))]))) (fun t k => st21.trans k) ?_
  refine own_fw (A' := (T21.setTop (mkF m 125 #[.val (.long q1), .second, .val (.long q2), .second, .val (.int p3), .val (.ref b1)] [(.long (0 : Int64)), (.long (0 : Int64))]))) (fun t k => XS.lconst X21.here hx rfl (hb hby at_124) k) ?_
  refine own_fw (A' := (T21.setTop (mkF m 126 #[.val (.long q1), .second, .val (.long q2), .second, .val (.int p3), .val (.ref b1)] [(.int (XT.cmpL (0 : Int64) (0 : Int64)))]))) (fun t k => XT.lcmp X21.here hx rfl (hb hby at_125) rfl k) ?_
  refine own_fw (A' := (T21.setTop (mkF m 129 #[.val (.long q1), .second, .val (.long q2), .second, .val (.int p3), .val (.ref b1)] []))) (fun t k => XS.ifNo X21.here hx rfl (hb hby at_126) rfl (XT.ll_ne_f rfl) k) ?_
  refine own_fw (A' := (T21.setTop (mkF m 131 #[.val (.long q1), .second, .val (.long q2), .second, .val (.int p3), .val (.ref b1)] [(.ref b1)]))) (fun t k => XS.aload X21.here hx rfl (hb hby at_129) rfl rfl k) ?_
  obtain ⟨T22, X22, e22, st22⟩ := getS2 X21 hx hZ hown (host := "") (Or.inl (hw _ (List.mem_of_getElem? (i := 64) rfl))) Via.refl e21 (own_staKeep (own_staKeep (own_staKeep (own_staKeep (P17.ext E1) Kq2 (allS (own_plainE A1) all0)) Kq4 (allS (own_plainV Fq2_3) (allS (own_plainV Fq2_4) all0))) Kq6 (allS (own_plainV Fq4_0) (allS (own_plainV Fq4_1) all0))) Kq7 (allS (own_plainV Fq6_0) (allS (own_plainV Fq6_1) all0))) (g := (mkF m 131 #[.val (.long q1), .second, .val (.long q2), .second, .val (.int p3), .val (.ref b1)] [(.ref b1)])) rfl (hb hby at_131)
  refine own_fw (A' := (T22.setTop (mkF m 134 #[.val (.long q1), .second, .val (.long q2), .second, .val (.int p3), .val (.ref b1)] [(.ref r3), (.ref b1)]))) (fun t k => st22 _ k) ?_
  obtain ⟨cq23, kq23, qa23, qb23, qc23⟩ := isOf hZ e22 (((Fq2_0.keep Kq4).keep Kq6).keep Kq7)
  obtain ⟨_, _, ⟨T23, L23, k23, n23⟩, -, X23, ⟨Lc23, hQ23, l23, y23, z23⟩, st23⟩ := X22.virtualBack hx (y := (⟨"com/example/spindle/spindle/DispatchTimes", "getTotalMillis", "(Lcom/example/spindle/spindle/DispatchTimes$Band;)J"⟩ : MethodName)) (z := (⟨"com/example/spindle/spindle/DispatchTimes", "getTotalMillis", "(Lcom/example/spindle/spindle/DispatchTimes$Band;)J"⟩ : MethodName)) hown (mvT hZ (hw _ (List.mem_of_getElem? (i := 57) rfl))) (mvT hZ (hw _ (List.mem_of_getElem? (i := 58) rfl))) (notFace_of_selects (args := #[]) (mvT hZ (hw _ (List.mem_of_getElem? (i := 60) rfl)))) (mvT hZ (hw _ (List.mem_of_getElem? (i := 60) rfl))) (mvT hZ (hw _ (List.mem_of_getElem? (i := 59) rfl))) (by decide) (backOf (W := 0) (rmGt3 l Z a0 hw [] b1 r3 b2_2 k2_2 T7.heap n0 Z7 (((Fq2_2.keep Kq4 (ninS ne_b1_b1_2 (ninS ne_b1_b2_2 nin0))).keep Kq6 (ninS ne_b1_b1_2 (ninS ne_b1_b2_2 nin0))).keep Kq7 (ninS ne_b1_b1_2 (ninS ne_b1_b2_2 nin0))) Fq7_1 (((((P8.ext E1).keep Kq2).keep Kq4).keep Kq6).keep Kq7) (((((P13.ext E1).keep Kq2 (ninS ne_r3_b1 nin0)).keep Kq4 (ninS ne_r3_b1_2 (ninS ne_r3_b2_2 nin0))).keep Kq6 (ninS ne_r3_b1_2 (ninS ne_r3_b2_2 nin0))).keep Kq7 (ninS ne_r3_b1_2 (ninS ne_r3_b2_2 nin0)))) hZ (hw _ (List.mem_of_getElem? (i := 61) rfl)) (hw _ (List.mem_of_getElem? (i := 2) rfl)) (by decide) (by decide)) qa23 qc23 (g := (mkF m 134 #[.val (.long q1), .second, .val (.long q2), .second, .val (.int p3), .val (.ref b1)] [(.ref r3), (.ref b1)])) rfl (by rw [hml]; rfl) (Steps.refl _) (argsL := [(.ref r3)]) (rest := []) (lenOf pd__Lcom_example_spindle_spindle_DispatchTimes_Band__J rfl) rfl (by show 2 * 0 + _ ≤ _; exact Nat.le_of_eq rfl) (hb hby at_134) (fun _ _ => ⟨rfl, e22, (by decide : 3 + 0 ≤ _), (by decide : 10 + 0 ≤ _)⟩)
  dsimp only [Pt.U, Pt.locs, Pt.cells, Pt.slots] at X23 l23 y23 z23 st23 hQ23
  subst l23 y23 z23
  obtain ⟨rfl, Nq23, e23⟩ := hQ23
  have Nf23 := Fr.app Nf21 Nq23
  refine own_fw (A' := (T23.setTop (mkF m 137 #[.val (.long q1), .second, .val (.long q2), .second, .val (.int p3), .val (.ref b1)] [(.long (0 : Int64))]))) (fun t k => st23.trans k) ?_
  refine own_fw (A' := (T23.setTop (mkF m 138 #[.val (.long q1), .second, .val (.long q2), .second, .val (.int p3), .val (.ref b1)] [(.long (0 : Int64)), (.long (0 : Int64))]))) (fun t k => XS.lconst X23.here hx rfl (hb hby at_137) k) ?_
  refine own_fw (A' := (T23.setTop (mkF m 139 #[.val (.long q1), .second, .val (.long q2), .second, .val (.int p3), .val (.ref b1)] [(.int (XT.cmpL (0 : Int64) (0 : Int64)))]))) (fun t k => XT.lcmp X23.here hx rfl (hb hby at_138) rfl k) ?_
  refine own_fw (A' := (T23.setTop (mkF m 142 #[.val (.long q1), .second, .val (.long q2), .second, .val (.int p3), .val (.ref b1)] []))) (fun t k => XS.ifNo X23.here hx rfl (hb hby at_139) rfl (XT.ll_ne_f rfl) k) ?_
  refine own_fw (A' := (T23.setTop (mkF m 143 #[.val (.long q1), .second, .val (.long q2), .second, .val (.int p3), .val (.ref b1)] [(.int (1 : Int32))]))) (fun t k => XS.iconst X23.here hx rfl (hb hby at_142) k) ?_
  refine own_fw (A' := (T23.setTop (mkF m 147 #[.val (.long q1), .second, .val (.long q2), .second, .val (.int p3), .val (.ref b1)] [(.int (1 : Int32))]))) (fun t k => XS.goto X23.here hx rfl (pc0 := 143) (pc' := 147) rfl (hb hby at_143) (by decide) (by decide) k) ?_
  obtain ⟨fs, hr, hrun, hended, hW, hsame⟩ := X23.leave (v := some (.int (1 : Int32))) (fun h => by rw [Bd.returns] at h; cases h)
  refine ⟨_, _, ?_, hrun, hended, _, _, rfl, ?_, ⟨_, rfl⟩, hW, hsame.mono (by decide) (by decide)⟩
  · exact retOut X23 hx Bd.returns rfl (Or.inl ⟨rfl, by simp, _, rfl⟩) (hb hby at_147) hr
  · show Q_rm0 Z q1 q2 p3 ba kb r0 r1 r2 r3 h0 n0 _ T23.heap _
    rw [e23]
    exact ⟨rfl, Nf23⟩
set_option maxRecDepth 65536 in
set_option maxHeartbeats 40000000 in
theorem comes_1 {Post : Tables → Env → Array Value → State → Outcome → State → Prop} (hpost : ∀ tb e args s v u, (limb_1_1.after args s (.returned v) u = true ∧ limb_1_2.after args s (.returned v) u = true ∧ True) → FrameEnd s (.returned v) u (Jvm.fieldLocs frame_1_writes args s ++ Jvm.arrayLocs frame_1_arrays args s ++ Jvm.staticLocs frame_1_statics s) 16 128 → Post tb e args s (.returned v) u) :
    ArmFor flags0 classFile x code maxLocals ret World_1 tables_1 room_1 Calls_1 rest_1 Pre_1 Post := by
  intro l hfl _ _ p e ha hc hk s m args below hf hA hF happ hP
  obtain ⟨hcalls, hrest, hpre⟩ := hP
  obtain ⟨-, -, -, hnamed, -, -, -, hat⟩ := (Spec.applies_iff hf).mp happ
  obtain ⟨hg, hn⟩ := and_e (Cond.before_iff.mp (show (Jvm.Cond.and given_1 narrow_1).before args s = true from hpre))
  obtain ⟨hcount, hg0⟩ := and_e hg
  obtain ⟨hv0, hg1⟩ := and_e hg0
  obtain ⟨hv1, hg2⟩ := and_e hg1
  have hv2 := hg2
  obtain ⟨w0, w1, w2, rfl⟩ : ∃ w0 w1 w2 : Value, args = #[w0, w1, w2] := by
    have hs : args.size = 3 := by simpa [Cond.value, given_1] using hcount
    obtain ⟨L⟩ := args
    match L, hs with
    | [w0, w1, w2], _ => exact ⟨w0, w1, w2, rfl⟩
  have hw := fun d (hd : d ∈ tables_1) => atoms_spec (ws := Jvm.Cond.code x code maxLocals ret :: tables_1) hat d (List.mem_cons_of_mem _ hd)
  have hfit : Fit s := fun {y c} hc i hi => by
    obtain ⟨ha, rfl⟩ := Array.getElem?_eq_some_iff.mp hc
    have q := List.all_eq_true.mp ((Array.all_eq_true_iff_forall_mem.mp hF) _ (Array.getElem_mem ha)) i (List.mem_range.mpr hi)
    simpa [Array.getElem?_eq_getElem hi] using q
  obtain ⟨i0, ei0⟩ := isL_v hv0
  obtain rfl : w0 = (.long i0) := Option.some.inj ei0
  obtain ⟨i1, ei1⟩ := isL_v hv1
  obtain rfl : w1 = (.long i1) := Option.some.inj ei1
  obtain ⟨i2, ei2⟩ := is_v hv2
  obtain rfl : w2 = (.int i2) := Option.some.inj ei2
  obtain ⟨hn0, hm0⟩ := and_e hn
  obtain ⟨hn1, hm1⟩ := and_e hm0
  obtain ⟨hn2, hm2⟩ := and_e hm1
  obtain ⟨hn3, hm3⟩ := and_e hm2
  obtain ⟨hn4, hm4⟩ := and_e hm3
  obtain ⟨hn5, hm5⟩ := and_e hm4
  obtain ⟨hn6, hm6⟩ := and_e hm5
  obtain ⟨hn7, hm7⟩ := and_e hm6
  obtain ⟨hn8, hm8⟩ := and_e hm7
  obtain ⟨hn9, hm9⟩ := and_e hm8
  obtain ⟨hn10, hm10⟩ := and_e hm9
  obtain ⟨hn11, hm11⟩ := and_e hm10
  obtain ⟨hn12, hm12⟩ := and_e hm11
  obtain ⟨hn13, hm13⟩ := and_e hm12
  obtain ⟨hn14, hm14⟩ := and_e hm13
  obtain ⟨hn15, hm15⟩ := and_e hm14
  obtain ⟨hn16, hm16⟩ := and_e hm15
  have hn17 := hm16
  obtain ⟨r_FROM_1000_MS, ev_FROM_1000_MS⟩ := exa_v hn2
  have E_FROM_1000_MS := Exa.start ev_FROM_1000_MS hn2
  have S_FROM_1000_MS := Sta.start ev_FROM_1000_MS (Or.inr ⟨(hw _ (List.mem_of_getElem? (i := 10) rfl)), (hw _ (List.mem_of_getElem? (i := 31) rfl))⟩)
  obtain ⟨r_FROM_250_MS, ev_FROM_250_MS⟩ := exa_v hn5
  have E_FROM_250_MS := Exa.start ev_FROM_250_MS hn5
  have S_FROM_250_MS := Sta.start ev_FROM_250_MS (Or.inr ⟨(hw _ (List.mem_of_getElem? (i := 10) rfl)), (hw _ (List.mem_of_getElem? (i := 34) rfl))⟩)
  obtain ⟨r_FROM_50_MS, ev_FROM_50_MS⟩ := exa_v hn8
  have E_FROM_50_MS := Exa.start ev_FROM_50_MS hn8
  have S_FROM_50_MS := Sta.start ev_FROM_50_MS (Or.inr ⟨(hw _ (List.mem_of_getElem? (i := 10) rfl)), (hw _ (List.mem_of_getElem? (i := 35) rfl))⟩)
  obtain ⟨r_UNDER_50_MS, ev_UNDER_50_MS⟩ := exa_v hn11
  have E_UNDER_50_MS := Exa.start ev_UNDER_50_MS hn11
  have S_UNDER_50_MS := Sta.start ev_UNDER_50_MS (Or.inr ⟨(hw _ (List.mem_of_getElem? (i := 10) rfl)), (hw _ (List.mem_of_getElem? (i := 36) rfl))⟩)
  have F_FROM_1000_MS_lowerMillis := own_fldJ ev_FROM_1000_MS hn4
  have F_FROM_250_MS_lowerMillis := own_fldJ ev_FROM_250_MS hn7
  have F_FROM_50_MS_lowerMillis := own_fldJ ev_FROM_50_MS hn10
  have F_UNDER_50_MS_ordinal := own_fldI ev_UNDER_50_MS hn13
  have F_FROM_50_MS_ordinal := own_fldI ev_FROM_50_MS hn14
  have F_FROM_250_MS_ordinal := own_fldI ev_FROM_250_MS hn15
  have F_FROM_1000_MS_ordinal := own_fldI ev_FROM_1000_MS hn16
  have F_UNDER_50_MS_lowerMillis := own_fldJ ev_UNDER_50_MS hn17
  obtain ⟨ba, ev_ba⟩ := arr_v hn0
  have S_ba := Sta.start ev_ba (Or.inr ⟨(hw _ (List.mem_of_getElem? (i := 10) rfl)), (hw _ (List.mem_of_getElem? (i := 11) rfl))⟩)
  obtain ⟨clb, A_ba⟩ := Arr.start ev_ba hn0
  have L_ba := own_len hn1 ev_ba (A_ba.fin (Vm.Alike.refl _))
  have el0 := own_elem hn12 ev_ba ev_UNDER_50_MS A_ba.1
  have el1 := own_elem hn9 ev_ba ev_FROM_50_MS A_ba.1
  have el2 := own_elem hn6 ev_ba ev_FROM_250_MS A_ba.1
  have el3 := own_elem hn3 ev_ba ev_FROM_1000_MS A_ba.1
  have V_ba : Arv s s.heap ba clb.cls (.object "com/example/spindle/spindle/DispatchTimes$Band") (4 : Int32) [(.ref r_UNDER_50_MS), (.ref r_FROM_50_MS), (.ref r_FROM_250_MS), (.ref r_FROM_1000_MS)] .null := Arv.start hfit A_ba L_ba.1 L_ba.2 (by decide) rfl ⟨el0, el1, el2, el3, trivial⟩
  obtain ⟨n, o, h1, h2, h3, _, L, rfl, ⟨rfl, N⟩, hq⟩ := rm0 l s _ hw tables_1 i0 i1 i2 ba clb.cls r_UNDER_50_MS r_FROM_50_MS r_FROM_250_MS r_FROM_1000_MS s.heap s.heap.size (Nat.le_refl _) S_ba V_ba E_UNDER_50_MS F_UNDER_50_MS_lowerMillis E_FROM_50_MS F_FROM_50_MS_lowerMillis E_FROM_250_MS F_FROM_250_MS_lowerMillis E_FROM_1000_MS F_FROM_1000_MS_lowerMillis F_UNDER_50_MS_ordinal F_FROM_50_MS_ordinal F_FROM_250_MS_ordinal F_FROM_1000_MS_ordinal S_UNDER_50_MS S_FROM_50_MS S_FROM_250_MS S_FROM_1000_MS p e ha hc hk s m _ below hf ((Spec.applies_iff_loose hf).mp happ).1 ⟨rfl, State.Warmed39.refl s, rfl⟩ trivial
  refine ⟨n, _, h1, h2, h3, hpost _ _ _ _ _ _ ⟨Cond.after_iff.mpr rfl, Cond.after_iff.mpr (eq_i res_at (Term.int_eval (1)) rfl), trivial⟩ ⟨hq.1, hq.2.1, (hq.2.2.sift fun y hy => Or.inr (N y hy)).mono (by decide) (by decide)⟩⟩
theorem main_1_1 : Claimed_1_1 := comes_1 fun _ _ _ _ _ _ h hF => ⟨h.1, hF⟩
theorem main_1_2 : Claimed_1_2 := comes_1 fun _ _ _ _ _ _ h hF => ⟨h.2.1, hF⟩
end Jvm.Pilot.@@N@@
namespace Jvm.Pilot.@@N@@
open Jvm Jvm.ClassFile Sem Op Lib Jvm.Free Jvm.Stand Jvm.Pilot.@@N@@.Jvm.D
/-! MADE BY PROGRAM (witnessworld.py) out of the Statement's table words and the real class files: 16 classes; the members and pool entries that the words name. The judged class is class 1, her method 2. -/
namespace start1
open Jvm.ClassFile
def u (s : String) : CpInfo := .utf8 (stringToUtf16 s)
/-- a pool by its gaps: so many unusable entries, then the entry; so many at the end -/
def gap : Nat → List CpInfo → List CpInfo
  | 0, r => r
  | n + 1, r => .unusable :: gap n r
def poolList (es : List (Nat × CpInfo)) (last : Nat) : List CpInfo := es.foldr (fun e r => gap e.1 (e.2 :: r)) (gap last [])
def pool (es : List (Nat × CpInfo)) (last : Nat) : Array CpInfo := ⟨poolList es last⟩
def fileOf (pool : Array CpInfo) (this : Nat) (attrs : Array Attribute := #[]) (ms : Array MethodInfo := #[]) (fl : Nat := 33) (sup : Nat := 0) (ifs : Array Nat := #[]) (fds : Array FieldInfo := #[]) : ClassFile where
  minorVersion := 0
  majorVersion := 65
  constantPool := pool
  accessFlags := fl
  thisClass := this
  superClass := sup
  interfaces := ifs
  fields := fds
  methods := ms
  attributes := attrs
def plain (name : String) (sup : Option ClassId) : Class where
  name := name
  kind := .ordinary
  loader := none
  accessFlags := 33
  super := sup
  interfaces := #[]
  cf := none
  fields := #[]
  methods := #[]
  instanceTypes := #[]
  staticTypes := #[]
  resolved := #[]
  callSites := []
  init := .initialized
  statics := none
  mirror := none

def pool0 : Array CpInfo := pool [(5, u "<init>"), (0, u "()V"), (1, .class_ 10), (1, u "java/lang/Object")] 113

def k0c0 : Code := { maxStack := 0, maxLocals := 1, code := object_method_1_code, exceptionTable := #[], attributes := #[] }
def k0m0 : Method := { name := "<init>", desc := "()V", sig := { parameters := [], returnType := none }, accessFlags := 1, code := some k0c0 }
/-- java/lang/Object -/
def k0 : Class := { plain "java/lang/Object" none with
  accessFlags := 33
  interfaces := #[]
  cf := some (fileOf pool0 8 #[] #[{ accessFlags := 1, nameIndex := 5, descriptorIndex := 6, attributes := #[] }] 33 0 #[] #[])
  fields := #[]
  methods := #[k0m0]
  instanceTypes := #[]
  staticTypes := #[]
  resolved := Array.replicate 124 none
  statics := none }

def pool1 : Array CpInfo := pool [(2, .class_ 4), (0, .nameAndType 5 6), (0, u "java/lang/Object"), (0, u "<init>"), (0, u "()V"), (0, .long 63), (1, .long 511), (1, .long 2047), (3, .long 9223372036854775807), (1, .class_ 18), (0, u "com/example/spindle/spindle/DispatchTimes"), (0, .methodref 17 3), (0, .methodref 21 22), (0, .class_ 23), (0, .nameAndType 24 25), (0, u "com/example/spindle/spindle/DispatchTimesClearPinLaw"), (0, u "millis"), (0, u "(JI)J"), (0, .methodref 17 27), (0, .nameAndType 28 29), (0, u "add"), (0, u "(J)V"), (0, .methodref 17 31), (0, .nameAndType 32 6), (0, u "clear"), (0, .fieldref 34 35), (0, .class_ 36), (0, .nameAndType 37 38), (0, u "com/example/spindle/spindle/DispatchTimes$Band"), (0, u "UNDER_50_MS"), (0, u "Lcom/example/spindle/spindle/DispatchTimes$Band;"), (0, .methodref 17 40), (0, .nameAndType 41 42), (0, u "getCount"), (0, u "(Lcom/example/spindle/spindle/DispatchTimes$Band;)J"), (0, .methodref 17 44), (0, .nameAndType 45 42), (0, u "getTotalMillis"), (0, .fieldref 34 47), (0, .nameAndType 48 38), (0, u "FROM_50_MS"), (0, .fieldref 34 50), (0, .nameAndType 51 38), (0, u "FROM_250_MS"), (0, .fieldref 34 53), (0, .nameAndType 54 38), (0, u "FROM_1000_MS"), (3, u "law"), (0, u "(JJI)Z")] 4

def k1m0 : Method := { name := "<init>", desc := "()V", sig := { parameters := [], returnType := none }, accessFlags := 1, code := none }
def k1c1 : Code := { maxStack := 4, maxLocals := 4, code := method_2_code, exceptionTable := #[], attributes := #[] }
def k1m1 : Method := { name := "millis", desc := "(JI)J", sig := { parameters := [.long, .int], returnType := some .long }, accessFlags := 10, code := some k1c1 }
def k1c2 : Code := { maxStack := 5, maxLocals := 6, code := code, exceptionTable := #[], attributes := #[] }
def k1m2 : Method := { name := "law", desc := "(JJI)Z", sig := { parameters := [.long, .long, .int], returnType := some .boolean }, accessFlags := 9, code := some k1c2 }
/-- com/example/spindle/spindle/DispatchTimesClearPinLaw -/
def k1 : Class := { plain "com/example/spindle/spindle/DispatchTimesClearPinLaw" (some 0) with
  accessFlags := 49
  interfaces := #[]
  cf := some (fileOf pool1 21 #[] #[{ accessFlags := 1, nameIndex := 5, descriptorIndex := 6, attributes := #[] }, { accessFlags := 10, nameIndex := 24, descriptorIndex := 25, attributes := #[] }, { accessFlags := 9, nameIndex := 58, descriptorIndex := 59, attributes := #[] }] 49 2 #[] #[])
  fields := #[]
  methods := #[k1m0, k1m1, k1m2]
  instanceTypes := #[]
  staticTypes := #[]
  resolved := Array.replicate 64 none
  statics := none }

def pool2 : Array CpInfo := pool [(1, .methodref 2 3), (0, .class_ 4), (0, .nameAndType 5 6), (0, u "java/lang/Object"), (0, u "<init>"), (0, u "()V"), (0, .fieldref 8 9), (0, .class_ 10), (0, .nameAndType 11 12), (0, u "com/example/spindle/spindle/DispatchTimes$Band"), (0, u "BANDS"), (0, u "[Lcom/example/spindle/spindle/DispatchTimes$Band;"), (0, .fieldref 14 15), (0, .class_ 16), (0, .nameAndType 17 18), (0, u "com/example/spindle/spindle/DispatchTimes"), (0, u "counts"), (0, u "[J"), (0, .fieldref 14 20), (0, .nameAndType 21 18), (0, u "totalMillis"), (0, .methodref 8 23), (0, .nameAndType 24 25), (0, u "ordinal"), (0, u "()I"), (0, .methodref 8 27), (0, .nameAndType 28 29), (0, u "of"), (0, u "(J)Lcom/example/spindle/spindle/DispatchTimes$Band;"), (28, u "getCount"), (0, u "(Lcom/example/spindle/spindle/DispatchTimes$Band;)J"), (7, u "getTotalMillis"), (8, u "add"), (0, u "(J)V"), (2, u "clear")] 7

def k2c0 : Code := { maxStack := 2, maxLocals := 1, code := prog_4_method_1_code, exceptionTable := #[], attributes := #[] }
def k2m0 : Method := { name := "<init>", desc := "()V", sig := { parameters := [], returnType := none }, accessFlags := 0, code := some k2c0 }
def k2c1 : Code := { maxStack := 2, maxLocals := 2, code := prog_4_method_2_code, exceptionTable := #[], attributes := #[] }
def k2m1 : Method := { name := "getCount", desc := "(Lcom/example/spindle/spindle/DispatchTimes$Band;)J", sig := { parameters := [(.object "com/example/spindle/spindle/DispatchTimes$Band")], returnType := some .long }, accessFlags := 1, code := some k2c1 }
def k2c2 : Code := { maxStack := 2, maxLocals := 2, code := prog_4_method_3_code, exceptionTable := #[], attributes := #[] }
def k2m2 : Method := { name := "getTotalMillis", desc := "(Lcom/example/spindle/spindle/DispatchTimes$Band;)J", sig := { parameters := [(.object "com/example/spindle/spindle/DispatchTimes$Band")], returnType := some .long }, accessFlags := 1, code := some k2c2 }
def k2c3 : Code := { maxStack := 6, maxLocals := 4, code := prog_4_method_4_code, exceptionTable := #[], attributes := #[] }
def k2m3 : Method := { name := "add", desc := "(J)V", sig := { parameters := [.long], returnType := none }, accessFlags := 0, code := some k2c3 }
def k2c4 : Code := { maxStack := 4, maxLocals := 2, code := prog_4_method_6_code, exceptionTable := #[], attributes := #[] }
def k2m4 : Method := { name := "clear", desc := "()V", sig := { parameters := [], returnType := none }, accessFlags := 0, code := some k2c4 }
/-- com/example/spindle/spindle/DispatchTimes -/
def k2 : Class := { plain "com/example/spindle/spindle/DispatchTimes" (some 0) with
  accessFlags := 33
  interfaces := #[]
  cf := some (fileOf pool2 14 #[.nestMembers #[8]] #[{ accessFlags := 0, nameIndex := 5, descriptorIndex := 6, attributes := #[] }, { accessFlags := 1, nameIndex := 58, descriptorIndex := 59, attributes := #[] }, { accessFlags := 1, nameIndex := 67, descriptorIndex := 59, attributes := #[] }, { accessFlags := 0, nameIndex := 76, descriptorIndex := 77, attributes := #[] }, { accessFlags := 0, nameIndex := 80, descriptorIndex := 6, attributes := #[] }] 33 2 #[] #[{ accessFlags := 18, nameIndex := 17, descriptorIndex := 18, attributes := #[] }, { accessFlags := 18, nameIndex := 21, descriptorIndex := 18, attributes := #[] }])
  fields := #[{ name := "counts", type := (.array .long), accessFlags := 18, slot := 0, constantValue := 0 }, { name := "totalMillis", type := (.array .long), accessFlags := 18, slot := 1, constantValue := 0 }]
  methods := #[k2m0, k2m1, k2m2, k2m3, k2m4]
  instanceTypes := #[(.array .long), (.array .long)]
  staticTypes := #[]
  resolved := (Array.replicate 88 none).setIfInBounds 7 (some (.field 7 4))
  statics := none }

def pool3 : Array CpInfo := pool [(1, .class_ 2), (0, u "java/lang/constant/Constable"), (0, .class_ 4), (0, u "java/lang/Object")] 6

/-- java/lang/constant/Constable -/
def k3 : Class := { plain "java/lang/constant/Constable" (some 0) with
  accessFlags := 1537
  interfaces := #[]
  cf := some (fileOf pool3 1 #[] #[] 1537 3 #[] #[])
  fields := #[]
  methods := #[]
  instanceTypes := #[]
  staticTypes := #[]
  resolved := Array.replicate 11 none
  statics := none }

def pool4 : Array CpInfo := pool [(1, .class_ 2), (0, u "java/lang/Comparable"), (0, .class_ 4), (0, u "java/lang/Object")] 7

/-- java/lang/Comparable -/
def k4 : Class := { plain "java/lang/Comparable" (some 0) with
  accessFlags := 1537
  interfaces := #[]
  cf := some (fileOf pool4 1 #[] #[] 1537 3 #[] #[])
  fields := #[]
  methods := #[]
  instanceTypes := #[]
  staticTypes := #[]
  resolved := Array.replicate 12 none
  statics := none }

def pool5 : Array CpInfo := pool [(1, .class_ 2), (0, u "java/io/Serializable"), (0, .class_ 4), (0, u "java/lang/Object")] 2

/-- java/io/Serializable -/
def k5 : Class := { plain "java/io/Serializable" (some 0) with
  accessFlags := 1537
  interfaces := #[]
  cf := some (fileOf pool5 1 #[] #[] 1537 3 #[] #[])
  fields := #[]
  methods := #[]
  instanceTypes := #[]
  staticTypes := #[]
  resolved := Array.replicate 7 none
  statics := none }

def pool6 : Array CpInfo := pool [(2, .class_ 4), (1, u "java/lang/Enum"), (0, u "name"), (0, u "Ljava/lang/String;"), (0, .fieldref 2 8), (0, .nameAndType 9 10), (0, u "ordinal"), (0, u "I"), (1, .class_ 14), (1, u "java/lang/Object"), (4, u "hash"), (86, .class_ 108), (1, u "java/lang/Enum$EnumDesc"), (2, .class_ 112), (0, u "java/lang/constant/Constable"), (0, .class_ 114), (0, u "java/lang/Comparable"), (0, .class_ 116), (0, u "java/io/Serializable"), (9, u "()I")] 77

def k6c0 : Code := { maxStack := 1, maxLocals := 1, code := jdk_37_method_2_code, exceptionTable := #[], attributes := #[] }
def k6m0 : Method := { name := "ordinal", desc := "()I", sig := { parameters := [], returnType := some .int }, accessFlags := 17, code := some k6c0 }
/-- java/lang/Enum -/
def k6 : Class := { plain "java/lang/Enum" (some 0) with
  accessFlags := 1057
  interfaces := #[3, 4, 5]
  cf := some (fileOf pool6 2 #[.nestMembers #[106]] #[{ accessFlags := 17, nameIndex := 9, descriptorIndex := 126, attributes := #[] }] 1057 12 #[111, 113, 115] #[{ accessFlags := 18, nameIndex := 5, descriptorIndex := 6, attributes := #[] }, { accessFlags := 18, nameIndex := 9, descriptorIndex := 10, attributes := #[] }, { accessFlags := 2, nameIndex := 19, descriptorIndex := 10, attributes := #[] }])
  fields := #[{ name := "name", type := (.object "java/lang/String"), accessFlags := 18, slot := 0, constantValue := 0 }, { name := "ordinal", type := .int, accessFlags := 18, slot := 1, constantValue := 0 }, { name := "hash", type := .int, accessFlags := 2, slot := 2, constantValue := 0 }]
  methods := #[k6m0]
  instanceTypes := #[(.object "java/lang/String"), .int, .int]
  staticTypes := #[]
  resolved := Array.replicate 204 none
  statics := none }

def pool7 : Array CpInfo := pool [(1, .class_ 2), (0, u "com/example/spindle/spindle/DispatchTimes$Band"), (2, u "UNDER_50_MS"), (0, u "Lcom/example/spindle/spindle/DispatchTimes$Band;"), (2, u "FROM_50_MS"), (2, u "FROM_250_MS"), (2, u "FROM_1000_MS"), (2, u "$VALUES"), (0, u "[Lcom/example/spindle/spindle/DispatchTimes$Band;"), (6, .class_ 28), (1, u "java/lang/Enum"), (6, .fieldref 1 36), (0, .nameAndType 37 38), (0, u "lowerMillis"), (0, u "J"), (0, .fieldref 1 40), (0, .nameAndType 41 19), (0, u "BANDS"), (28, u "of"), (0, u "(J)Lcom/example/spindle/spindle/DispatchTimes$Band;"), (7, .class_ 80), (0, u "com/example/spindle/spindle/DispatchTimes")] 2

def k7c0 : Code := { maxStack := 4, maxLocals := 3, code := prog_5_method_5_code, exceptionTable := #[], attributes := #[] }
def k7m0 : Method := { name := "of", desc := "(J)Lcom/example/spindle/spindle/DispatchTimes$Band;", sig := { parameters := [.long], returnType := some (.object "com/example/spindle/spindle/DispatchTimes$Band") }, accessFlags := 8, code := some k7c0 }
/-- com/example/spindle/spindle/DispatchTimes$Band -/
def k7 : Class := { plain "com/example/spindle/spindle/DispatchTimes$Band" (some 6) with
  accessFlags := 16433
  interfaces := #[]
  cf := some (fileOf pool7 1 #[.nestHost 79] #[{ accessFlags := 8, nameIndex := 70, descriptorIndex := 71, attributes := #[] }] 16433 26 #[] #[{ accessFlags := 16409, nameIndex := 5, descriptorIndex := 6, attributes := #[] }, { accessFlags := 16409, nameIndex := 9, descriptorIndex := 6, attributes := #[] }, { accessFlags := 16409, nameIndex := 12, descriptorIndex := 6, attributes := #[] }, { accessFlags := 16409, nameIndex := 15, descriptorIndex := 6, attributes := #[] }, { accessFlags := 26, nameIndex := 41, descriptorIndex := 19, attributes := #[] }, { accessFlags := 18, nameIndex := 37, descriptorIndex := 38, attributes := #[] }, { accessFlags := 4122, nameIndex := 18, descriptorIndex := 19, attributes := #[] }])
  fields := #[{ name := "UNDER_50_MS", type := (.object "com/example/spindle/spindle/DispatchTimes$Band"), accessFlags := 16409, slot := 0, constantValue := 0 }, { name := "FROM_50_MS", type := (.object "com/example/spindle/spindle/DispatchTimes$Band"), accessFlags := 16409, slot := 1, constantValue := 0 }, { name := "FROM_250_MS", type := (.object "com/example/spindle/spindle/DispatchTimes$Band"), accessFlags := 16409, slot := 2, constantValue := 0 }, { name := "FROM_1000_MS", type := (.object "com/example/spindle/spindle/DispatchTimes$Band"), accessFlags := 16409, slot := 3, constantValue := 0 }, { name := "BANDS", type := (.array (.object "com/example/spindle/spindle/DispatchTimes$Band")), accessFlags := 26, slot := 4, constantValue := 0 }, { name := "lowerMillis", type := .long, accessFlags := 18, slot := 3, constantValue := 0 }, { name := "$VALUES", type := (.array (.object "com/example/spindle/spindle/DispatchTimes$Band")), accessFlags := 4122, slot := 5, constantValue := 0 }]
  methods := #[k7m0]
  instanceTypes := #[(.object "java/lang/String"), .int, .int, .long]
  staticTypes := #[(.object "com/example/spindle/spindle/DispatchTimes$Band"), (.object "com/example/spindle/spindle/DispatchTimes$Band"), (.object "com/example/spindle/spindle/DispatchTimes$Band"), (.object "com/example/spindle/spindle/DispatchTimes$Band"), (.array (.object "com/example/spindle/spindle/DispatchTimes$Band")), (.array (.object "com/example/spindle/spindle/DispatchTimes$Band"))]
  resolved := Array.replicate 83 none
  statics := some 0 }

def pool8 : Array CpInfo := pool [(1, u "java/lang/Cloneable"), (0, .class_ 1), (0, u "java/lang/Object"), (0, .class_ 3)] 3

/-- java/lang/Cloneable -/
def k8 : Class := { plain "java/lang/Cloneable" (some 0) with
  accessFlags := 1537
  interfaces := #[]
  cf := some (fileOf pool8 2 #[] #[] 1537 4 #[] #[])
  fields := #[]
  methods := #[]
  instanceTypes := #[]
  staticTypes := #[]
  resolved := Array.replicate 8 none
  statics := none }

/-- the primitive byte -/
def k9 : Class := { plain "byte" none with kind := .primitive 'B', accessFlags := 0x411 }
/-- [B -/
def k10 : Class := { plain "[B" (some 0) with kind := .array 9 .byte, interfaces := #[8, 5], accessFlags := 1041 }

/-- the primitive int -/
def k11 : Class := { plain "int" none with kind := .primitive 'I', accessFlags := 0x411 }
/-- [I -/
def k12 : Class := { plain "[I" (some 0) with kind := .array 11 .int, interfaces := #[8, 5], accessFlags := 1041 }

/-- the primitive long -/
def k13 : Class := { plain "long" none with kind := .primitive 'J', accessFlags := 0x411 }
/-- [J -/
def k14 : Class := { plain "[J" (some 0) with kind := .array 13 .long, interfaces := #[8, 5], accessFlags := 1041 }

/-- [Lcom/example/spindle/spindle/DispatchTimes$Band; -/
def k15 : Class := { plain "[Lcom/example/spindle/spindle/DispatchTimes$Band;" (some 0) with kind := .array 7 (.object "com/example/spindle/spindle/DispatchTimes$Band"), interfaces := #[8, 5], accessFlags := 1041 }

def heap : Heap := #[{ cls := 7, slots := #[.ref 2, .ref 3, .ref 4, .ref 5, .ref 1, .null], vm := .statics 7 },
  { cls := 15, slots := #[.ref 2, .ref 3, .ref 4, .ref 5], vm := .none },
  { cls := 7, slots := #[.null, .int 0, .int 0, .long 0], vm := .none },
  { cls := 7, slots := #[.null, .int 1, .int 0, .long 50], vm := .none },
  { cls := 7, slots := #[.null, .int 2, .int 0, .long 250], vm := .none },
  { cls := 7, slots := #[.null, .int 3, .int 0, .long 1000], vm := .none }]
def classes : Array Class := #[k0, k1, k2, k3, k4, k5, k6, k7, k8, k9, k10, k11, k12, k13, k14, k15]
def interned : List (Array UInt16 × Addr) := []
def slotsUsed : Nat := 26
def theMethod : MethodId := ⟨1, 2⟩
def args0 : Array Value := #[.long 5, .long 7, .int 300]
def aboutOver (below : List Frame) : State where
  vm := { classes := classes, interned := interned.toArray }
  heap := heap
  slotsUsed := slotsUsed
  threads := #[{ frames := .invoking theMethod args0 :: below }]
def below0 : List Frame := [.native { method := ⟨0, 0⟩, args := #[] }]
def about1 : State := aboutOver below0
def p0 : Program := .bare "" "" ""
def e0 : Env := launch0.env 0 0 0
theorem w_frames : about1.frames = Frame.invoking theMethod args0 :: below0 := rfl
set_option maxRecDepth 65536 in
theorem w_args : argsFit about1.vm theMethod args0 = true := by decide +kernel
set_option maxRecDepth 65536 in
theorem w_heap : heapFits about1 = true := by decide +kernel
set_option maxRecDepth 65536 in
theorem w_runnable : about1.curStatus? = some .runnable := by decide +kernel
set_option maxRecDepth 65536 in
theorem w_alone : about1.alone = true := by decide +kernel
set_option maxRecDepth 65536 in
theorem w_named : about1.methodNamed? x = some theMethod := by decide +kernel
set_option maxRecDepth 65536 in
theorem w_hears : about1.hears theMethod below0 = true := by decide +kernel
set_option maxRecDepth 65536 in
theorem w_ripe : about1.ripe theMethod args0 below0 = true := by decide +kernel
theorem w_running : about1.status = .running := rfl
set_option maxRecDepth 65536 in
theorem w_room : about1.hasRoom e0.platform room_1 = true :=
  launch0.hasRoom_least _ room_1 (by decide +kernel) (by decide +kernel) (by decide +kernel) (by decide +kernel) (by decide +kernel) (by decide +kernel)
theorem allAtoms_all (ts : List Jvm.Cond) (a : Array Jvm.Value) (st : Jvm.State) : (allAtoms ts).before a st = ts.all (fun c => c.before a st) := by
  induction ts with
  | nil => rfl
  | cons c t ih =>
    show (Jvm.Cond.and c (allAtoms t)).before a st = _
    rw [Jvm.Cond.before_and, ih, List.all_cons]
def words1 : List Jvm.Cond := Jvm.Cond.code x code maxLocals ret :: tables_1
/-- a 'code' word, met by the world's own term for the bytes: nothing is compared byte by byte -/
theorem code_word {y : MethodName} {bytes : ByteArray} {mx : Nat} {rt : Option FieldType} {a : Array Value} {s : State} {m : MethodId} {meth : Method} {c : Code} (h1 : s.methodNamed? y = some m) (h2 : s.vm.method? m = some meth) (h3 : meth.code = some c) (h4 : c.code = bytes)
    (h5 : (c.maxLocals == mx && c.exceptionTable.isEmpty && decide (c.maxStack ≤ mostOperands) && decide (meth.sig.returnType = rt) && !meth.locks && decide (parseMethodDescriptor y.desc = some meth.sig)) = true) : (Jvm.Cond.code y bytes mx rt).before a s = true := by
  simp only [Bool.and_eq_true, beq_iff_eq, Bool.not_eq_true', decide_eq_true_eq] at h5
  obtain ⟨⟨⟨⟨⟨g1, g2⟩, g3⟩, g4⟩, g5⟩, g6⟩ := h5
  simp [Cond.before, Cond.holds, Cond.value, h1, h2, h3, h4, g1, g2, g3, g4, g5, g6]
def isCode : Jvm.Cond → Bool
  | .code _ _ _ _ => true
  | _ => false
theorem all_split {L : List Jvm.Cond} {P : Jvm.Cond → Bool} (h1 : L.all (fun c => isCode c || P c) = true) (h2 : ∀ c ∈ L.filter isCode, P c = true) : L.all P = true := by
  refine List.all_eq_true.mpr fun c hc => ?_
  have h := List.all_eq_true.mp h1 c hc
  rcases Bool.eq_false_or_eq_true (isCode c) with hi | hi
  · exact h2 c (List.mem_filter.mpr ⟨hc, hi⟩)
  · simpa [hi] using h
set_option maxRecDepth 65536 in
theorem w_c0 : (Jvm.Cond.code x code maxLocals ret).before args0 about1 = true := code_word (m := ⟨1, 2⟩) (meth := k1m2) (c := k1c2) (by decide +kernel) rfl rfl rfl (by decide +kernel)
set_option maxRecDepth 65536 in
theorem w_c1 : (Jvm.Cond.code ({ cls := "com/example/spindle/spindle/DispatchTimes", name := "<init>", desc := "()V" } : Jvm.MethodName) prog_4_method_1_code (1 : Nat) (Option.none : Option Jvm.ClassFile.FieldType)).before args0 about1 = true := code_word (m := ⟨2, 0⟩) (meth := k2m0) (c := k2c0) (by decide +kernel) rfl rfl rfl (by decide +kernel)
set_option maxRecDepth 65536 in
theorem w_c2 : (Jvm.Cond.code ({ cls := "java/lang/Object", name := "<init>", desc := "()V" } : Jvm.MethodName) object_method_1_code (1 : Nat) (Option.none : Option Jvm.ClassFile.FieldType)).before args0 about1 = true := code_word (m := ⟨0, 0⟩) (meth := k0m0) (c := k0c0) (by decide +kernel) rfl rfl rfl (by decide +kernel)
set_option maxRecDepth 65536 in
theorem w_c3 : (Jvm.Cond.code ({ cls := "com/example/spindle/spindle/DispatchTimesClearPinLaw", name := "millis", desc := "(JI)J" } : Jvm.MethodName) method_2_code (4 : Nat) (Option.some Jvm.ClassFile.FieldType.long)).before args0 about1 = true := code_word (m := ⟨1, 1⟩) (meth := k1m1) (c := k1c1) (by decide +kernel) rfl rfl rfl (by decide +kernel)
set_option maxRecDepth 65536 in
theorem w_c4 : (Jvm.Cond.code ({ cls := "com/example/spindle/spindle/DispatchTimes", name := "add", desc := "(J)V" } : Jvm.MethodName) prog_4_method_4_code (4 : Nat) (Option.none : Option Jvm.ClassFile.FieldType)).before args0 about1 = true := code_word (m := ⟨2, 3⟩) (meth := k2m3) (c := k2c3) (by decide +kernel) rfl rfl rfl (by decide +kernel)
set_option maxRecDepth 65536 in
theorem w_c5 : (Jvm.Cond.code ({ cls := "com/example/spindle/spindle/DispatchTimes$Band", name := "of", desc := "(J)Lcom/example/spindle/spindle/DispatchTimes$Band;" } : Jvm.MethodName) prog_5_method_5_code (3 : Nat) (Option.some (Jvm.ClassFile.FieldType.object "com/example/spindle/spindle/DispatchTimes$Band"))).before args0 about1 = true := code_word (m := ⟨7, 0⟩) (meth := k7m0) (c := k7c0) (by decide +kernel) rfl rfl rfl (by decide +kernel)
set_option maxRecDepth 65536 in
theorem w_c6 : (Jvm.Cond.code ({ cls := "java/lang/Enum", name := "ordinal", desc := "()I" } : Jvm.MethodName) jdk_37_method_2_code (1 : Nat) (Option.some Jvm.ClassFile.FieldType.int)).before args0 about1 = true := code_word (m := ⟨6, 0⟩) (meth := k6m0) (c := k6c0) (by decide +kernel) rfl rfl rfl (by decide +kernel)
set_option maxRecDepth 65536 in
theorem w_c7 : (Jvm.Cond.code ({ cls := "com/example/spindle/spindle/DispatchTimes", name := "clear", desc := "()V" } : Jvm.MethodName) prog_4_method_6_code (2 : Nat) (Option.none : Option Jvm.ClassFile.FieldType)).before args0 about1 = true := code_word (m := ⟨2, 4⟩) (meth := k2m4) (c := k2c4) (by decide +kernel) rfl rfl rfl (by decide +kernel)
set_option maxRecDepth 65536 in
theorem w_c8 : (Jvm.Cond.code ({ cls := "com/example/spindle/spindle/DispatchTimes", name := "getCount", desc := "(Lcom/example/spindle/spindle/DispatchTimes$Band;)J" } : Jvm.MethodName) prog_4_method_2_code (2 : Nat) (Option.some Jvm.ClassFile.FieldType.long)).before args0 about1 = true := code_word (m := ⟨2, 1⟩) (meth := k2m1) (c := k2c1) (by decide +kernel) rfl rfl rfl (by decide +kernel)
set_option maxRecDepth 65536 in
theorem w_c9 : (Jvm.Cond.code ({ cls := "com/example/spindle/spindle/DispatchTimes", name := "getTotalMillis", desc := "(Lcom/example/spindle/spindle/DispatchTimes$Band;)J" } : Jvm.MethodName) prog_4_method_3_code (2 : Nat) (Option.some Jvm.ClassFile.FieldType.long)).before args0 about1 = true := code_word (m := ⟨2, 2⟩) (meth := k2m2) (c := k2c2) (by decide +kernel) rfl rfl rfl (by decide +kernel)
def codes1 : List Jvm.Cond := [Jvm.Cond.code x code maxLocals ret, Jvm.Cond.code ({ cls := "com/example/spindle/spindle/DispatchTimes", name := "<init>", desc := "()V" } : Jvm.MethodName) prog_4_method_1_code (1 : Nat) (Option.none : Option Jvm.ClassFile.FieldType), Jvm.Cond.code ({ cls := "java/lang/Object", name := "<init>", desc := "()V" } : Jvm.MethodName) object_method_1_code (1 : Nat) (Option.none : Option Jvm.ClassFile.FieldType), Jvm.Cond.code ({ cls := "com/example/spindle/spindle/DispatchTimesClearPinLaw", name := "millis", desc := "(JI)J" } : Jvm.MethodName) method_2_code (4 : Nat) (Option.some Jvm.ClassFile.FieldType.long), Jvm.Cond.code ({ cls := "com/example/spindle/spindle/DispatchTimes", name := "add", desc := "(J)V" } : Jvm.MethodName) prog_4_method_4_code (4 : Nat) (Option.none : Option Jvm.ClassFile.FieldType), Jvm.Cond.code ({ cls := "com/example/spindle/spindle/DispatchTimes$Band", name := "of", desc := "(J)Lcom/example/spindle/spindle/DispatchTimes$Band;" } : Jvm.MethodName) prog_5_method_5_code (3 : Nat) (Option.some (Jvm.ClassFile.FieldType.object "com/example/spindle/spindle/DispatchTimes$Band")), Jvm.Cond.code ({ cls := "java/lang/Enum", name := "ordinal", desc := "()I" } : Jvm.MethodName) jdk_37_method_2_code (1 : Nat) (Option.some Jvm.ClassFile.FieldType.int), Jvm.Cond.code ({ cls := "com/example/spindle/spindle/DispatchTimes", name := "clear", desc := "()V" } : Jvm.MethodName) prog_4_method_6_code (2 : Nat) (Option.none : Option Jvm.ClassFile.FieldType), Jvm.Cond.code ({ cls := "com/example/spindle/spindle/DispatchTimes", name := "getCount", desc := "(Lcom/example/spindle/spindle/DispatchTimes$Band;)J" } : Jvm.MethodName) prog_4_method_2_code (2 : Nat) (Option.some Jvm.ClassFile.FieldType.long), Jvm.Cond.code ({ cls := "com/example/spindle/spindle/DispatchTimes", name := "getTotalMillis", desc := "(Lcom/example/spindle/spindle/DispatchTimes$Band;)J" } : Jvm.MethodName) prog_4_method_3_code (2 : Nat) (Option.some Jvm.ClassFile.FieldType.long)]
set_option maxRecDepth 65536 in
theorem codes_eq : words1.filter isCode = codes1 := rfl
theorem w_codes : ∀ c ∈ words1.filter isCode, c.before args0 about1 = true := by
  rw [codes_eq]
  intro c hc
  simp only [codes1, List.mem_cons, List.not_mem_nil, or_false] at hc
  rcases hc with rfl | rfl | rfl | rfl | rfl | rfl | rfl | rfl | rfl | rfl
  · exact w_c0
  · exact w_c1
  · exact w_c2
  · exact w_c3
  · exact w_c4
  · exact w_c5
  · exact w_c6
  · exact w_c7
  · exact w_c8
  · exact w_c9
set_option maxRecDepth 65536 in
theorem w_t1 : (words1.take 24).all (fun c => isCode c || c.before args0 about1) = true := by decide +kernel
set_option maxRecDepth 65536 in
theorem w_t2 : ((words1.drop 24).take 24).all (fun c => isCode c || c.before args0 about1) = true := by decide +kernel
set_option maxRecDepth 65536 in
theorem w_t3 : ((words1.drop 24).drop 24).all (fun c => isCode c || c.before args0 about1) = true := by decide +kernel
theorem w_tables : (allAtoms (Jvm.Cond.code x code maxLocals ret :: tables_1)).before args0 about1 = true := by
  rw [allAtoms_all]
  show words1.all (fun c => c.before args0 about1) = true
  refine all_split ?_ w_codes
  rw [← List.take_append_drop 24 words1, List.all_append, w_t1, ← List.take_append_drop 24 (words1.drop 24), List.all_append, w_t2, w_t3]
  rfl
set_option maxRecDepth 65536 in
theorem w_case : (Jvm.Cond.and given_1 narrow_1).before args0 about1 = true := by decide +kernel
theorem w_applies : (headSpec (Jvm.Cond.code x code maxLocals ret :: tables_1) room_1).applies x e0.platform about1 = true :=
  (Spec.applies_iff w_frames).mpr ⟨w_running, w_runnable, w_alone, w_named, w_hears, w_ripe, w_room, w_tables⟩
theorem atStart : AtStart classFile x code maxLocals ret World_1 tables_1 room_1 Calls_1 rest_1 Pre_1 launch0 p0 e0 about1 theMethod args0 below0 :=
  ⟨lists_1, trivial, launch0.admits_env _ _ _, launch0.least_env, fairChoices_fair.cas, fairChoices_fair.clock, w_frames, w_args, w_heap, w_applies, trivial, trivial, w_case⟩
end start1
theorem witness_1 : WitnessClaimed_1 := ⟨start1.p0, start1.e0, start1.about1, start1.theMethod, start1.args0, start1.below0, start1.atStart⟩
end Jvm.Pilot.@@N@@
