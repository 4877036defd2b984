import JvmDerived
import JvmDerived.Pilot.@@N@@Statement
import JvmDerived.Pilot.@@N@@Code
set_option linter.unusedVariables false
set_option linter.unusedSimpArgs false
namespace Jvm.Pilot.@@N@@
open Jvm Jvm.ClassFile Sem Op Lib Jvm.Free Jvm.Stand Jvm.LawKit Jvm.RoadKit Bundle Jvm.Pilot.@@N@@.Jvm.D
/-! steps, taken forward -/
theorem own_fw {tb : Tables} {e : Env} {below : List Frame} {A A' : State} {P : State → Outcome → Prop} (h : ∀ t, Steps tb e below A' t → Steps tb e below A t) (g : ∃ U o, Steps tb e below A' U ∧ P U o) : ∃ U o, Steps tb e below A U ∧ P U o := by
  obtain ⟨U, o, s, r⟩ := g
  exact ⟨U, o, h U s, r⟩
theorem own_st {tb : Tables} {e : Env} {below : List Frame} {A A' t : State} (h : ∀ t, Steps tb e below A' t → Steps tb e below A t) (g : Steps tb e below A' t) : Steps tb e below A t := h t g
theorem own_plainE {Z : State} {h : Heap} {a : Addr} {C : String} (F : Exa Z h a C) : ∀ cell : Cell, h[a]? = some cell → cell.vm.isStatics = false := fun cell hc => by
  obtain ⟨c1, k1, h1, -, -, h4, -⟩ := F
  cases h1.symm.trans hc
  exact h4
theorem own_plainV {Z : State} {h : Heap} {a : Addr} {k : ClassId} {ty : FieldType} {z : Int32} {vs : List Value} {dv : Value} (F : Arv Z h a k ty z vs dv) : ∀ cell : Cell, h[a]? = some cell → cell.vm.isStatics = false := fun cell hc => by
  obtain ⟨c1, A, -⟩ := F
  cases A.1.symm.trans hc
  exact A.plain
theorem own_staKeep {Z : State} {h h' : Heap} {C n d : String} {v : Value} {ws : List Addr} (F : Sta Z h C n d v) (K : Keep h h' ws) (q : ∀ x ∈ ws, ∀ cell : Cell, h[x]? = some cell → cell.vm.isStatics = false) : Sta Z h' C n d v := by
  obtain ⟨cf, i, k, f, st, cell, h1, h2, h3, h4, h5, h6, h7⟩ := F
  exact ⟨cf, i, k, f, st, cell, h1, h2, h3, h4, K.2.1 st cell h5 (fun m => by rw [q st m cell h5] at h6; cases h6), h6, h7⟩
theorem own_insLt {Z : State} {h : Heap} {a : Addr} {C : String} {bo : Bool} (F : Ins Z h a C bo) : a < h.size := by
  obtain ⟨cell, cT, h1, -⟩ := F
  exact (Array.getElem?_eq_some_iff.mp h1).1
theorem own_insKeep {Z : State} {h h' : Heap} {a : Addr} {C : String} {bo : Bool} {ws : List Addr} (F : Ins Z h a C bo) (K : Keep h h' ws) : Ins Z h' a C bo := by
  obtain ⟨cell, cT, h1, h2, h3⟩ := F
  obtain ⟨c', e1, e2, e3, -⟩ := K.2.2 a cell h1
  exact ⟨c', cT, e1, h2, by rw [e2, e3]; exact h3⟩


theorem own_z (p : Int32) : (p &&& 7) = 0 ∨ (p &&& 7) = 1 ∨ (p &&& 7) = 2 ∨ (p &&& 7) = 3 ∨ (p &&& 7) = 4 ∨ (p &&& 7) = 5 ∨ (p &&& 7) = 6 ∨ (p &&& 7) = 7 := by
  have m := c_mask p 7 3 (by decide) (by decide)
  have e0 : (0 : Int32).toInt = 0 := by decide
  have e1 : (1 : Int32).toInt = 1 := by decide
  have e2 : (2 : Int32).toInt = 2 := by decide
  have e3 : (3 : Int32).toInt = 3 := by decide
  have e4 : (4 : Int32).toInt = 4 := by decide
  have e5 : (5 : Int32).toInt = 5 := by decide
  have e6 : (6 : Int32).toInt = 6 := by decide
  have e7 : (7 : Int32).toInt = 7 := by decide
  simp only [← Int32.toInt_inj, e0, e1, e2, e3, e4, e5, e6, e7]
  omega
theorem own_bit (p m : Int32) (h : (7 : Int32) &&& m = m) : p &&& m = (p &&& 7) &&& m := by rw [Int32.and_assoc, h]
theorem own_ix (p k : Int32) (a b c : Bool) (h1 : decide ((p &&& (1 : Int32)) = (0 : Int32)) = a) (h2 : decide ((p &&& (4 : Int32)) = (0 : Int32)) = b) (h3 : decide ((p &&& (2 : Int32)) = (0 : Int32)) = c) (hk : ((if a then (0 : Int32) else 1) + (if b then 0 else 4) + (if c then 0 else 2)) = k) : (p &&& (7 : Int32)) = k := by
  rw [own_bit p 1 (by decide)] at h1
  rw [own_bit p 4 (by decide)] at h2
  rw [own_bit p 2 (by decide)] at h3
  rcases own_z p with h | h | h | h | h | h | h | h <;> rw [h] at h1 h2 h3 ⊢ <;> subst h1 h2 h3 hk <;> decide


theorem own_len {args : Array Value} {s : State} {t : Term} {a : Addr} {z : Int32} {cl : Cell} (h : (Jvm.Cond.eq (.length t) (.int z)).value args s none s [] = some true) (ht : t.eval args s none [] s = some (.ref a)) (ha : s.arrayAt? a = some cl) : cl.slots.size < 2 ^ 31 ∧ cl.slots.size.toInt32 = z := by
  obtain ⟨x, y, ex, ey, -, -⟩ := cmp_v (Or.inl h)
  have hy : y = .int z := by simpa [Term.eval] using ey.symm
  subst hy
  by_cases hl : cl.slots.size < 2 ^ 31
  · have e := len_f ht ha hl
    exact ⟨hl, by simpa [Cond.value, e, ey] using h⟩
  · exfalso
    simp [Term.eval, ht, ha, hl] at ex

def own_Cache (Z : State) (h : Heap) (ca : Addr) (C : String) : Prop := ∃ cl : Cell, Arr Z h ca cl (.object C) ∧ cl.slots.size = 256 ∧ ∀ i, i < 256 → ∃ b, cl.slots[i]? = some (.ref b) ∧ Exa Z h b C
theorem own_cacheLt {Z : State} {h : Heap} {ca : Addr} {C : String} (F : own_Cache Z h ca C) : ca < h.size := by
  obtain ⟨cl, A, -⟩ := F
  exact A.lt
theorem own_cacheExt {Z : State} {h h' : Heap} {ca : Addr} {C : String} (F : own_Cache Z h ca C) (E : Ext h h') : own_Cache Z h' ca C := by
  obtain ⟨cl, A, s, q⟩ := F
  exact ⟨cl, A.ext E, s, fun i hi => by obtain ⟨b, h1, h2⟩ := q i hi; exact ⟨b, h1, h2.ext E⟩⟩
theorem own_cacheWr {Z : State} {h h' : Heap} {ca a : Addr} {C : String} {sl : Nat} {v : Value} (F : own_Cache Z h ca C) (W : Wr h h' a sl v) (ne : ca ≠ a) : own_Cache Z h' ca C := by
  obtain ⟨cl, A, s, q⟩ := F
  exact ⟨cl, A.other W ne, s, fun i hi => by obtain ⟨b, h1, h2⟩ := q i hi; exact ⟨b, h1, h2.wr W⟩⟩
theorem own_cacheKeep {Z : State} {h h' : Heap} {ca : Addr} {C : String} {ws : List Addr} (F : own_Cache Z h ca C) (K : Keep h h' ws) (ne : ca ∉ ws) : own_Cache Z h' ca C := by
  obtain ⟨cl, A, s, q⟩ := F
  exact ⟨cl, ⟨K.2.1 ca cl A.1 ne, A.2⟩, s, fun i hi => by obtain ⟨b, h1, h2⟩ := q i hi; exact ⟨b, h1, h2.keep K⟩⟩
theorem own_cacheStart {args : Array Value} {s : State} {C0 f d C : String} {Y : Jvm.Cond} {ca : Addr} (ev : (Term.static C0 f d).eval args s none [] s = some (.ref ca)) (h2 : (Jvm.Cond.arrayOf (Term.static C0 f d) (.object C)).value args s none s [] = some true)
    (h4 : (Jvm.Cond.eq (.length (Term.static C0 f d)) (.int 256)).value args s none s [] = some true) (h5 : (Jvm.Cond.all (Term.static C0 f d) (.and (.exactly (.elem (Term.static C0 f d) (.index 0)) C) Y)).value args s none s [] = some true) : own_Cache s s.heap ca C := by
  obtain ⟨cl, A⟩ := Arr.start ev h2
  have ha := A.fin (Vm.Alike.refl _)
  have hs : cl.slots.size = 256 := by
    obtain ⟨hl, q⟩ := own_len h4 ev ha
    have q2 := congrArg Int32.toInt q
    rw [len_toInt hl] at q2
    have e3 : (256 : Int32).toInt = 256 := by decide
    omega
  refine ⟨cl, A, hs, fun i hi => ?_⟩
  have q := (and_e (Cond.all_elim ev ha h5 i (by omega))).1
  obtain ⟨b, c', cell, k, e1, e2, e3, e4, e5, e6, e7⟩ := Cond.exactly_spec (beq_iff_eq.mpr q : (Jvm.Cond.exactly (.elem (Term.static C0 f d) (.index 0)) C).holds args s none s [i] = true)
  have evi : (Term.static C0 f d).eval args s none [i] s = some (.ref ca) := by simpa [Term.eval] using ev
  have evj : (Term.index 0).eval args s none [i] s = some (.int i.toInt32) := by simp [Term.eval]
  obtain ⟨-, g⟩ := elem_in e1 evi evj A.1
  have ti : i.toInt32.toNatClampNeg = i := by
    have t := len_toInt (n := i) (by omega)
    simp [Int32.toNatClampNeg, t]
  rw [ti] at g
  subst e6
  exact ⟨b, g, cell, k, e3, e2, e4, e5, e7⟩


theorem own_evI {args : Array Value} {s : State} {t : Term} {z : Int32} (h : (Jvm.Cond.eq t (.int z)).value args s none s [] = some true) : t.eval args s none [] s = some (.int z) := by
  obtain ⟨x, y, ex, ey, k1, k2⟩ := cmp_v (Or.inl h)
  have hy : y = .int z := by simpa [Term.eval] using ey.symm
  subst hy
  obtain ⟨w, rfl⟩ : ∃ w, x = .int w := k2
  have e : w = z := by simpa [Cond.value, ex, ey] using h
  subst e
  exact ex


theorem own_fldI {args : Array Value} {s : State} {t : Term} {C n d : String} {z : Int32} {r : Addr} (ht : t.eval args s none [] s = some (.ref r)) (h : (Jvm.Cond.eq (.field t C n d) (.int z)).value args s none s [] = some true) : Fld s s.heap r C n d (.int z) := by
  obtain ⟨x, y, ex, ey, k1, k2⟩ := cmp_v (Or.inl h)
  have hy : y = .int z := by simpa [Term.eval] using ey.symm
  subst hy
  obtain ⟨w, rfl⟩ : ∃ w, x = .int w := k2
  have e : w = z := by simpa [Cond.value, ex, ey] using h
  subst e
  exact Fld.start (by rw [← fld_at (C := C) (n := n) (dd := d) ht]; exact ex)
theorem own_fldJ {args : Array Value} {s : State} {t : Term} {C n d : String} {z : Int64} {r : Addr} (ht : t.eval args s none [] s = some (.ref r)) (h : (Jvm.Cond.eq (.field t C n d) (.long z)).value args s none s [] = some true) : Fld s s.heap r C n d (.long z) := by
  obtain ⟨x, y, ex, ey, k1, k2⟩ := cmp_v (Or.inl h)
  have hy : y = .long z := by simpa [Term.eval] using ey.symm
  subst hy
  obtain ⟨w, rfl⟩ : ∃ w, x = .long w := k2
  have e : w = z := by simpa [Cond.value, ex, ey] using h
  subst e
  exact Fld.start (by rw [← fld_at (C := C) (n := n) (dd := d) ht]; exact ex)


theorem own_placeI (w : Int32) (h1 : ¬ w < (-128 : Int32)) (h2 : ¬ (127 : Int32) < w) : ¬ ((w + (128 : Int32)) < 0 ∨ 256 ≤ (w + (128 : Int32)).toNatClampNeg) ∧ (w + (128 : Int32)).toNatClampNeg < 256 := by
  have e1 : (-128 : Int32).toInt = -128 := by decide
  have e2 : (127 : Int32).toInt = 127 := by decide
  have e3 : (128 : Int32).toInt = 128 := by decide
  have e0 : (0 : Int32).toInt = 0 := by decide
  rw [Int32.lt_iff_toInt_lt, e1] at h1
  rw [Int32.lt_iff_toInt_lt, e2] at h2
  have a := c_iadd w (128 : Int32)
  have r := rng32 (w + (128 : Int32))
  have n : ((w + (128 : Int32)).toNatClampNeg : Int) = (w + (128 : Int32)).toInt := (nat_of (by rw [Int32.lt_iff_toInt_lt, e0]; omega)).symm
  rw [Int32.lt_iff_toInt_lt, e0]
  omega

theorem pn_java_lang_Number : plainName "java/lang/Number" = true := by first | (simp [plainName, overriddenIn]; done) | decide +kernel
theorem d_jdk_18_method_1_code_0 : decode jdk_18_method_1_code 0 = .ok (.aload_n 0, 1) := by decide +kernel
theorem d_jdk_18_method_1_code_1 : decode jdk_18_method_1_code 1 = .ok (.invokespecial 1, 3) := by decide +kernel
theorem d_jdk_18_method_1_code_4 : decode jdk_18_method_1_code 4 = .ok (.return_, 1) := by decide +kernel
theorem ef_rmNumber (m : MethodId) (a1 : Addr) : entryFrame m #[(.ref a1)] 1 = mkF m 0 #[.val (.ref a1)] [] := by first | (simp [entryFrame, mkF, argsToLocals, Value.category]; done) | rfl
def Q_rmNumber (Z : State) (a1 : Addr) (h0 : Heap) (n0 : Nat) (v : Option Value) (h : Heap) (L : List Loc) : Prop := v = none ∧ Fr n0 L ∧ h = h0
set_option maxRecDepth 65536 in
set_option maxHeartbeats 40000000 in
theorem rmNumber (l : Launch) (Z : State) (a0 : Array Value) (hw : ∀ d ∈ tables_1, d.before a0 Z = true) (ws : List Jvm.Cond) (a1 : Addr) (h0 : Heap) (n0 : Nat) (Z0 : n0 ≤ h0.size)  :
    MetFree l (⟨"java/lang/Number", "<init>", "()V"⟩ : MethodName) (head1 (Jvm.Cond.code (⟨"java/lang/Number", "<init>", "()V"⟩ : MethodName) jdk_18_method_1_code 1 none :: ws) ({ frames := 1, cells := 0, slots := 0, locals := 12 } : Room)) (fun a U => a = #[(.ref a1)] ∧ Z.Warmed39 U.vm ∧ U.heap = h0) (fun _ _ _ _ _ => True) (fun _ U o U' => ∃ v L, o = .returned v ∧ Q_rmNumber Z a1 h0 n0 v U'.heap L ∧ FrameEnd U o U' L ({ frames := 1, cells := 0, slots := 0, locals := 12 } : Room).cells ({ frames := 1, cells := 0, slots := 0, locals := 12 } : Room).slots) := by
  refine MetFree.of_bodySF (plainFor_of_name pn_java_lang_Number) hisR ?_
  intro p e s m args below meth c s₁ Bd hml0 hP hK
  obtain ⟨rfl, hZ, hh⟩ := hP
  have hx := Bd.exec
  have hby := Bd.bytes
  have hml : c.maxLocals = 1 := hml0
  have hown : s.vm.findClass "java/lang/Number" = some m.cls := findClass_of_methodNamed Bd.named
  have hnm := (name_of_methodNamed Bd.named Bd.method).1
  have X0 : Stand p l e ({ frames := 1, cells := 0, slots := 0, locals := 12 } : Room) s m #[(.ref a1)] below meth c s₁ [] 0 0 := Stand.of_body Bd
  have e0 : s₁.heap = h0 := by rw [← hh, Bd.state]; rfl
  have N0 := Fr.nil n0
  refine own_fw (A' := (s₁.setTop (mkF m 0 #[.val (.ref a1)] []))) (fun t k => castTop (ef_rmNumber m a1) k) ?_
  refine own_fw (A' := (s₁.setTop (mkF m 1 #[.val (.ref a1)] [(.ref a1)]))) (fun t k => XS.aloadN X0.here hx rfl (hb hby d_jdk_18_method_1_code_0) rfl rfl k) ?_
  obtain ⟨T1, X1, e1, st1⟩ := initO X0 hx hZ hown (hw _ (List.mem_of_getElem? (i := 50) rfl)) (hw _ (List.mem_of_getElem? (i := 32) rfl)) (hw _ (List.mem_of_getElem? (i := 33) rfl)) e0 (g := (mkF m 1 #[.val (.ref a1)] [(.ref a1)])) rfl (by rw [hml]; rfl) rfl (hb hby d_jdk_18_method_1_code_1) (by decide) (W := 0) (by show 2 * 0 + _ ≤ _; exact Nat.le_of_eq rfl) (by decide)
  refine own_fw (A' := (T1.setTop (mkF m 4 #[.val (.ref a1)] []))) (fun t k => st1 _ k) ?_
  obtain ⟨fs, hr, hrun, hended, hW, hsame⟩ := X1.leave (v := none) (fun _ => rfl)
  refine ⟨_, _, ?_, hrun, hended, _, _, rfl, ?_, ⟨_, rfl⟩, hW, hsame.mono (by decide) (by decide)⟩
  · exact X1.returnOut hx Bd.returns (hb hby d_jdk_18_method_1_code_4) hr
  · show Q_rmNumber Z a1 h0 n0 _ T1.heap _
    rw [e1]
    exact ⟨rfl, N0, rfl⟩
theorem pn_java_lang_Integer : plainName "java/lang/Integer" = true := by first | (simp [plainName, overriddenIn]; done) | decide +kernel
theorem d_jdk_33_method_23_code_0 : decode jdk_33_method_23_code 0 = .ok (.aload_n 0, 1) := by decide +kernel
theorem d_jdk_33_method_23_code_1 : decode jdk_33_method_23_code 1 = .ok (.invokespecial 202, 3) := by decide +kernel
theorem pd___V : parseMethodDescriptor "()V" = some ⟨[], none⟩ := by decide +kernel
theorem d_jdk_33_method_23_code_4 : decode jdk_33_method_23_code 4 = .ok (.aload_n 0, 1) := by decide +kernel
theorem d_jdk_33_method_23_code_5 : decode jdk_33_method_23_code 5 = .ok (.iload_n 1, 1) := by decide +kernel
theorem d_jdk_33_method_23_code_6 : decode jdk_33_method_23_code 6 = .ok (.putfield 205, 3) := by decide +kernel
theorem d_jdk_33_method_23_code_9 : decode jdk_33_method_23_code 9 = .ok (.return_, 1) := by decide +kernel
theorem ef_rmIntInit (m : MethodId) (a1 : Addr) (p2 : Int32) : entryFrame m #[(.ref a1), (.int p2)] 2 = mkF m 0 #[.val (.ref a1), .val (.int p2)] [] := by first | (simp [entryFrame, mkF, argsToLocals, Value.category]; done) | rfl
def Q_rmIntInit (Z : State) (a1 : Addr) (p2 : Int32) (h0 : Heap) (n0 : Nat) (v : Option Value) (h : Heap) (L : List Loc) : Prop := v = none ∧ Fr n0 L ∧ Keep h0 h [a1] ∧ Exa Z h a1 "java/lang/Integer"
set_option maxRecDepth 65536 in
set_option maxHeartbeats 40000000 in
theorem rmIntInit (l : Launch) (Z : State) (a0 : Array Value) (hw : ∀ d ∈ tables_1, d.before a0 Z = true) (ws : List Jvm.Cond) (a1 : Addr) (p2 : Int32) (h0 : Heap) (n0 : Nat) (Z0 : n0 ≤ h0.size) (P0 : Exa Z h0 a1 "java/lang/Integer") (P1 : Fld Z h0 a1 "java/lang/Integer" "value" "I" (.int (0 : Int32))) (g_a1 : n0 ≤ a1) :
    MetFree l (⟨"java/lang/Integer", "<init>", "(I)V"⟩ : MethodName) (head1 (Jvm.Cond.code (⟨"java/lang/Integer", "<init>", "(I)V"⟩ : MethodName) jdk_33_method_23_code 2 none :: ws) ({ frames := 2, cells := 0, slots := 0, locals := 24 } : Room)) (fun a U => a = #[(.ref a1), (.int p2)] ∧ Z.Warmed39 U.vm ∧ U.heap = h0) (fun _ _ _ _ _ => True) (fun _ U o U' => ∃ v L, o = .returned v ∧ Q_rmIntInit Z a1 p2 h0 n0 v U'.heap L ∧ FrameEnd U o U' L ({ frames := 2, cells := 0, slots := 0, locals := 24 } : Room).cells ({ frames := 2, cells := 0, slots := 0, locals := 24 } : Room).slots) := by
  refine MetFree.of_bodySF (plainFor_of_name pn_java_lang_Integer) hisR ?_
  intro p e s m args below meth c s₁ Bd hml0 hP hK
  obtain ⟨rfl, hZ, hh⟩ := hP
  have hx := Bd.exec
  have hby := Bd.bytes
  have hml : c.maxLocals = 2 := hml0
  have hown : s.vm.findClass "java/lang/Integer" = some m.cls := findClass_of_methodNamed Bd.named
  have hnm := (name_of_methodNamed Bd.named Bd.method).1
  have X0 : Stand p l e ({ frames := 2, cells := 0, slots := 0, locals := 24 } : Room) s m #[(.ref a1), (.int p2)] below meth c s₁ [] 0 0 := Stand.of_body Bd
  have e0 : s₁.heap = h0 := by rw [← hh, Bd.state]; rfl
  have N0 := Fr.nil n0
  refine own_fw (A' := (s₁.setTop (mkF m 0 #[.val (.ref a1), .val (.int p2)] []))) (fun t k => castTop (ef_rmIntInit m a1 p2) k) ?_
  refine own_fw (A' := (s₁.setTop (mkF m 1 #[.val (.ref a1), .val (.int p2)] [(.ref a1)]))) (fun t k => XS.aloadN X0.here hx rfl (hb hby d_jdk_33_method_23_code_0) rfl rfl k) ?_
  obtain ⟨_, _, ⟨T1, L1, k1, n1⟩, -, X1, ⟨Lc1, hQ1, l1, y1, z1⟩, st1⟩ := X0.specialBack hx (y := (⟨"java/lang/Number", "<init>", "()V"⟩ : MethodName)) rfl hown (mvT hZ (hw _ (List.mem_of_getElem? (i := 44) rfl))) (mvT hZ (hw _ (List.mem_of_getElem? (i := 45) rfl))) (mvT hZ (hw _ (List.mem_of_getElem? (i := 49) rfl))) (by decide) (backOf (W := 0) (rmNumber l Z a0 hw [] a1 h0 n0 Z0 ) hZ (hw _ (List.mem_of_getElem? (i := 49) rfl)) (hw _ (List.mem_of_getElem? (i := 48) rfl)) (by decide) (by decide)) (g := (mkF m 1 #[.val (.ref a1), .val (.int p2)] [(.ref a1)])) rfl (by rw [hml]; rfl) (Steps.refl _) (a := a1) (argsL := []) (rest := []) (lenOf pd___V rfl) rfl (by show 2 * 0 + _ ≤ _; exact Nat.le_of_eq rfl) (hb hby d_jdk_33_method_23_code_1) (fun _ _ => ⟨rfl, e0, (by decide : 0 + 0 ≤ _), (by decide : 0 + 0 ≤ _)⟩)
  dsimp only [Pt.U, Pt.locs, Pt.cells, Pt.slots] at X1 l1 y1 z1 st1 hQ1
  subst l1 y1 z1
  obtain ⟨rfl, Nq1, e1⟩ := hQ1
  have Nf1 := Fr.app N0 Nq1
  refine own_fw (A' := (T1.setTop (mkF m 4 #[.val (.ref a1), .val (.int p2)] []))) (fun t k => st1.trans k) ?_
  refine own_fw (A' := (T1.setTop (mkF m 5 #[.val (.ref a1), .val (.int p2)] [(.ref a1)]))) (fun t k => XS.aloadN X1.here hx rfl (hb hby d_jdk_33_method_23_code_4) rfl rfl k) ?_
  refine own_fw (A' := (T1.setTop (mkF m 6 #[.val (.ref a1), .val (.int p2)] [(.int p2), (.ref a1)]))) (fun t k => XS.iloadN X1.here hx rfl (hb hby d_jdk_33_method_23_code_5) rfl k) ?_
  obtain ⟨T2, h2, X2, e2, W2, st2⟩ := putF X1 hx hZ hown (host := "") (Or.inl (hw _ (List.mem_of_getElem? (i := 51) rfl))) Via.refl e1 P1 P0 (Or.inr ⟨(hw _ (List.mem_of_getElem? (i := 52) rfl)), rfl, hnm⟩) (hw _ (List.mem_of_getElem? (i := 39) rfl)) (ty := .int) (by decide) rfl rfl (g := (mkF m 6 #[.val (.ref a1), .val (.int p2)] [(.int p2), (.ref a1)])) rfl rfl (hb hby d_jdk_33_method_23_code_6)
  have Fw2 : Fld Z h2 a1 "java/lang/Integer" "value" "I" (.int p2) := P1.same W2
  have Nf2 := Fr.snoc X2 Nf1 g_a1
  have K2 : Keep h0 h2 [a1] := (Keep.refl h0 [a1]).wr W2 (Or.inl (List.mem_of_getElem? (i := 0) rfl))
  have Z2 : n0 ≤ h2.size := Nat.le_trans Z0 (Keep.of_wr W2).1
  refine own_fw (A' := (T2.setTop (mkF m 9 #[.val (.ref a1), .val (.int p2)] []))) (fun t k => st2 _ k) ?_
  obtain ⟨fs, hr, hrun, hended, hW, hsame⟩ := X2.leave (v := none) (fun _ => rfl)
  refine ⟨_, _, ?_, hrun, hended, _, _, rfl, ?_, ⟨_, rfl⟩, hW, hsame.mono (by decide) (by decide)⟩
  · exact X2.returnOut hx Bd.returns (hb hby d_jdk_33_method_23_code_9) hr
  · show Q_rmIntInit Z a1 p2 h0 n0 _ T2.heap _
    rw [e2]
    exact ⟨rfl, Nf2, K2, (P0.wr W2)⟩
theorem d_jdk_33_method_22_code_0 : decode jdk_33_method_22_code 0 = .ok (.iload_n 0, 1) := by decide +kernel
theorem d_jdk_33_method_22_code_1 : decode jdk_33_method_22_code 1 = .ok (.bipush (-128), 2) := by decide +kernel
theorem d_jdk_33_method_22_code_3 : decode jdk_33_method_22_code 3 = .ok (.if_icmp .lt 20, 3) := by decide +kernel
theorem d_jdk_33_method_22_code_23 : decode jdk_33_method_22_code 23 = .ok (.new 1, 3) := by decide +kernel
theorem d_jdk_33_method_22_code_26 : decode jdk_33_method_22_code 26 = .ok (.dup, 1) := by decide +kernel
theorem d_jdk_33_method_22_code_27 : decode jdk_33_method_22_code 27 = .ok (.iload_n 0, 1) := by decide +kernel
theorem d_jdk_33_method_22_code_28 : decode jdk_33_method_22_code 28 = .ok (.invokespecial 199, 3) := by decide +kernel
theorem pd__I_V : parseMethodDescriptor "(I)V" = some ⟨[.int], none⟩ := by decide +kernel
theorem d_jdk_33_method_22_code_31 : decode jdk_33_method_22_code 31 = .ok (.areturn, 1) := by decide +kernel
theorem d_jdk_33_method_22_code_6 : decode jdk_33_method_22_code 6 = .ok (.iload_n 0, 1) := by decide +kernel
theorem d_jdk_33_method_22_code_7 : decode jdk_33_method_22_code 7 = .ok (.getstatic 191, 3) := by decide +kernel
theorem d_jdk_33_method_22_code_10 : decode jdk_33_method_22_code 10 = .ok (.if_icmp .gt 13, 3) := by decide +kernel
theorem d_jdk_33_method_22_code_13 : decode jdk_33_method_22_code 13 = .ok (.getstatic 195, 3) := by decide +kernel
theorem d_jdk_33_method_22_code_16 : decode jdk_33_method_22_code 16 = .ok (.iload_n 0, 1) := by decide +kernel
theorem d_jdk_33_method_22_code_17 : decode jdk_33_method_22_code 17 = .ok (.sipush 128, 3) := by decide +kernel
theorem d_jdk_33_method_22_code_20 : decode jdk_33_method_22_code 20 = .ok (.iadd, 1) := by decide +kernel
theorem d_jdk_33_method_22_code_21 : decode jdk_33_method_22_code 21 = .ok (.aaload, 1) := by decide +kernel
theorem d_jdk_33_method_22_code_22 : decode jdk_33_method_22_code 22 = .ok (.areturn, 1) := by decide +kernel
theorem ef_rmIntOf (m : MethodId) (p1 : Int32) : entryFrame m #[(.int p1)] 1 = mkF m 0 #[.val (.int p1)] [] := by first | (simp [entryFrame, mkF, argsToLocals, Value.category]; done) | rfl
def Q_rmIntOf (Z : State) (p1 : Int32) (ca : Addr) (h0 : Heap) (n0 : Nat) (v : Option Value) (h : Heap) (L : List Loc) : Prop := ∃ b : Addr, v = some (.ref b) ∧ Fr n0 L ∧ Keep h0 h [] ∧ Exa Z h b "java/lang/Integer"
set_option maxRecDepth 65536 in
set_option maxHeartbeats 40000000 in
theorem rmIntOf (l : Launch) (Z : State) (a0 : Array Value) (hw : ∀ d ∈ tables_1, d.before a0 Z = true) (ws : List Jvm.Cond) (p1 : Int32) (ca : Addr) (h0 : Heap) (n0 : Nat) (Z0 : n0 ≤ h0.size) (P0 : Sta Z h0 "java/lang/Integer$IntegerCache" "high" "I" (.int (127 : Int32))) (P1 : Sta Z h0 "java/lang/Integer$IntegerCache" "cache" "[Ljava/lang/Integer;" (.ref ca)) (P2 : own_Cache Z h0 ca "java/lang/Integer") :
    MetFree l (⟨"java/lang/Integer", "valueOf", "(I)Ljava/lang/Integer;"⟩ : MethodName) (head1 (Jvm.Cond.code (⟨"java/lang/Integer", "valueOf", "(I)Ljava/lang/Integer;"⟩ : MethodName) jdk_33_method_22_code 1 (some (.object "java/lang/Integer")) :: ws) ({ frames := 3, cells := 1, slots := 1, locals := 38 } : Room)) (fun a U => a = #[(.int p1)] ∧ Z.Warmed39 U.vm ∧ U.heap = h0) (fun _ _ _ _ _ => True) (fun _ U o U' => ∃ v L, o = .returned v ∧ Q_rmIntOf Z p1 ca h0 n0 v U'.heap L ∧ FrameEnd U o U' L ({ frames := 3, cells := 1, slots := 1, locals := 38 } : Room).cells ({ frames := 3, cells := 1, slots := 1, locals := 38 } : Room).slots) := by
  refine MetFree.of_bodySF (plainFor_of_name pn_java_lang_Integer) hisR ?_
  intro p e s m args below meth c s₁ Bd hml0 hP hK
  obtain ⟨rfl, hZ, hh⟩ := hP
  have hx := Bd.exec
  have hby := Bd.bytes
  have hml : c.maxLocals = 1 := hml0
  have hown : s.vm.findClass "java/lang/Integer" = some m.cls := findClass_of_methodNamed Bd.named
  have hnm := (name_of_methodNamed Bd.named Bd.method).1
  have X0 : Stand p l e ({ frames := 3, cells := 1, slots := 1, locals := 38 } : Room) s m #[(.int p1)] below meth c s₁ [] 0 0 := Stand.of_body Bd
  have e0 : s₁.heap = h0 := by rw [← hh, Bd.state]; rfl
  have N0 := Fr.nil n0
  refine own_fw (A' := (s₁.setTop (mkF m 0 #[.val (.int p1)] []))) (fun t k => castTop (ef_rmIntOf m p1) k) ?_
  refine own_fw (A' := (s₁.setTop (mkF m 1 #[.val (.int p1)] [(.int p1)]))) (fun t k => XS.iloadN X0.here hx rfl (hb hby d_jdk_33_method_22_code_0) rfl k) ?_
  refine own_fw (A' := (s₁.setTop (mkF m 3 #[.val (.int p1)] [(.int (-128 : Int32)), (.int p1)]))) (fun t k => XS.bipush X0.here hx rfl (hb hby d_jdk_33_method_22_code_1) k) ?_
  by_cases hlo : p1 < (-128 : Int32)
  · refine own_fw (A' := (s₁.setTop (mkF m 23 #[.val (.int p1)] []))) (fun t k => XS.icmpYes X0.here hx rfl (pc0 := 3) (pc' := 23) rfl (hb hby d_jdk_33_method_22_code_3) rfl (XT.ii_lt_t hlo) (by decide) (by decide) k) ?_
    obtain ⟨T1, h1, X1, e1, E1, A1, D1, -, st1⟩ := newO X0 hx hZ hown (hw _ (List.mem_of_getElem? (i := 38) rfl)) (hw _ (List.mem_of_getElem? (i := 39) rfl)) (hw _ (List.mem_of_getElem? (i := 23) rfl)) e0 (g := (mkF m 23 #[.val (.int p1)] [])) rfl (hb hby d_jdk_33_method_22_code_23) (by decide) (by decide)
    obtain ⟨b1, gb1⟩ : ∃ z, z = h0.size := ⟨_, rfl⟩
    have g_b1 : n0 ≤ b1 := Nat.le_trans Z0 (Nat.le_of_eq gb1.symm)
    have sz_b1 : h0.size ≤ b1 := Nat.le_trans (Keep.refl h0 []).1 (Nat.le_of_eq gb1.symm)
    have ne_ca_b1 : ca ≠ b1 := Nat.ne_of_lt (Nat.lt_of_lt_of_le (own_cacheLt P2) (Nat.le_of_eq gb1.symm))
    rw [← gb1] at A1 D1 st1
    have F_value_b1 : Fld Z h1 b1 "java/lang/Integer" "value" "I" (.int (0 : Int32)) := D1 (Or.inr (hw _ (List.mem_of_getElem? (i := 52) rfl))) (ty := .int) (by decide)
    have K1 : Keep h0 h1 [] := (Keep.refl h0 []).ext E1
    have Z1 : n0 ≤ h1.size := Nat.le_trans Z0 E1.1
    refine own_fw (A' := (T1.setTop (mkF m 26 #[.val (.int p1)] [(.ref b1)]))) (fun t k => st1 _ k) ?_
    refine own_fw (A' := (T1.setTop (mkF m 27 #[.val (.int p1)] [(.ref b1), (.ref b1)]))) (fun t k => XS.dup X1.here hx rfl (hb hby d_jdk_33_method_22_code_26) rfl rfl k) ?_
    refine own_fw (A' := (T1.setTop (mkF m 28 #[.val (.int p1)] [(.int p1), (.ref b1), (.ref b1)]))) (fun t k => XS.iloadN X1.here hx rfl (hb hby d_jdk_33_method_22_code_27) rfl k) ?_
    obtain ⟨_, _, ⟨T2, L2, k2, n2⟩, -, X2, ⟨Lc2, hQ2, l2, y2, z2⟩, st2⟩ := X1.specialBack hx (y := (⟨"java/lang/Integer", "<init>", "(I)V"⟩ : MethodName)) rfl hown (mvT hZ (hw _ (List.mem_of_getElem? (i := 40) rfl))) (mvT hZ (hw _ (List.mem_of_getElem? (i := 41) rfl))) (mvT hZ (hw _ (List.mem_of_getElem? (i := 43) rfl))) (by decide) (backOf (W := 1) (rmIntInit l Z a0 hw [] b1 p1 h1 n0 Z1 A1 F_value_b1 g_b1) hZ (hw _ (List.mem_of_getElem? (i := 43) rfl)) (hw _ (List.mem_of_getElem? (i := 23) rfl)) (by decide) (by decide)) (g := (mkF m 28 #[.val (.int p1)] [(.int p1), (.ref b1), (.ref b1)])) rfl (by rw [hml]; rfl) (Steps.refl _) (a := b1) (argsL := [(.int p1)]) (rest := [(.ref b1)]) (lenOf pd__I_V rfl) rfl (by show 2 * 0 + _ ≤ _; exact Nat.le_of_eq rfl) (hb hby d_jdk_33_method_22_code_28) (fun _ _ => ⟨rfl, e1, (by decide : 1 + 0 ≤ _), (by decide : 1 + 0 ≤ _)⟩)
    dsimp only [Pt.U, Pt.locs, Pt.cells, Pt.slots] at X2 l2 y2 z2 st2 hQ2
    subst l2 y2 z2
    obtain ⟨rfl, Nq2, Kq2, Fq2_0⟩ := hQ2
    have Nf2 := Fr.app N0 Nq2
    have K2 : Keep h0 T2.heap [] := K1.trans Kq2 (allS (Or.inr sz_b1) all0)
    have Z2 : n0 ≤ T2.heap.size := Nat.le_trans Z1 Kq2.1
    refine own_fw (A' := (T2.setTop (mkF m 31 #[.val (.int p1)] [(.ref b1)]))) (fun t k => st2.trans k) ?_
    obtain ⟨fs, hr, hrun, hended, hW, hsame⟩ := X2.leave (v := some (.ref b1)) (fun h => by rw [Bd.returns] at h; cases h)
    refine ⟨_, _, ?_, hrun, hended, _, _, rfl, ?_, ⟨_, rfl⟩, hW, hsame.mono (by decide) (by decide)⟩
    · exact retOut X2 hx Bd.returns rfl (Or.inr (Or.inr (Or.inr (Or.inr ⟨rfl, rfl, rfl⟩)))) (hb hby d_jdk_33_method_22_code_31) hr
    · show Q_rmIntOf Z p1 ca h0 n0 _ T2.heap _
      exact ⟨b1, rfl, Nf2, K2, Fq2_0⟩
  · refine own_fw (A' := (s₁.setTop (mkF m 6 #[.val (.int p1)] []))) (fun t k => XS.icmpNo X0.here hx rfl (hb hby d_jdk_33_method_22_code_3) rfl (XT.ii_lt_f hlo) k) ?_
    refine own_fw (A' := (s₁.setTop (mkF m 7 #[.val (.int p1)] [(.int p1)]))) (fun t k => XS.iloadN X0.here hx rfl (hb hby d_jdk_33_method_22_code_6) rfl k) ?_
    obtain ⟨T3, X3, e3, st3⟩ := getS2 X0 hx hZ hown (host := "") (Or.inl (hw _ (List.mem_of_getElem? (i := 25) rfl))) Via.refl e0 P0 (g := (mkF m 7 #[.val (.int p1)] [(.int p1)])) rfl (hb hby d_jdk_33_method_22_code_7)
    refine own_fw (A' := (T3.setTop (mkF m 10 #[.val (.int p1)] [(.int (127 : Int32)), (.int p1)]))) (fun t k => st3 _ k) ?_
    by_cases hhi : (127 : Int32) < p1
    · refine own_fw (A' := (T3.setTop (mkF m 23 #[.val (.int p1)] []))) (fun t k => XS.icmpYes X3.here hx rfl (pc0 := 10) (pc' := 23) rfl (hb hby d_jdk_33_method_22_code_10) rfl (XT.ii_gt_t hhi) (by decide) (by decide) k) ?_
      obtain ⟨T4, h4, X4, e4, E4, A4, D4, -, st4⟩ := newO X3 hx hZ hown (hw _ (List.mem_of_getElem? (i := 38) rfl)) (hw _ (List.mem_of_getElem? (i := 39) rfl)) (hw _ (List.mem_of_getElem? (i := 23) rfl)) e3 (g := (mkF m 23 #[.val (.int p1)] [])) rfl (hb hby d_jdk_33_method_22_code_23) (by decide) (by decide)
      obtain ⟨b4, gb4⟩ : ∃ z, z = h0.size := ⟨_, rfl⟩
      have g_b4 : n0 ≤ b4 := Nat.le_trans Z0 (Nat.le_of_eq gb4.symm)
      have sz_b4 : h0.size ≤ b4 := Nat.le_trans (Keep.refl h0 []).1 (Nat.le_of_eq gb4.symm)
      have ne_ca_b4 : ca ≠ b4 := Nat.ne_of_lt (Nat.lt_of_lt_of_le (own_cacheLt P2) (Nat.le_of_eq gb4.symm))
      rw [← gb4] at A4 D4 st4
      have F_value_b4 : Fld Z h4 b4 "java/lang/Integer" "value" "I" (.int (0 : Int32)) := D4 (Or.inr (hw _ (List.mem_of_getElem? (i := 52) rfl))) (ty := .int) (by decide)
      have K4 : Keep h0 h4 [] := (Keep.refl h0 []).ext E4
      have Z4 : n0 ≤ h4.size := Nat.le_trans Z0 E4.1
      refine own_fw (A' := (T4.setTop (mkF m 26 #[.val (.int p1)] [(.ref b4)]))) (fun t k => st4 _ k) ?_
      refine own_fw (A' := (T4.setTop (mkF m 27 #[.val (.int p1)] [(.ref b4), (.ref b4)]))) (fun t k => XS.dup X4.here hx rfl (hb hby d_jdk_33_method_22_code_26) rfl rfl k) ?_
      refine own_fw (A' := (T4.setTop (mkF m 28 #[.val (.int p1)] [(.int p1), (.ref b4), (.ref b4)]))) (fun t k => XS.iloadN X4.here hx rfl (hb hby d_jdk_33_method_22_code_27) rfl k) ?_
      obtain ⟨_, _, ⟨T5, L5, k5, n5⟩, -, X5, ⟨Lc5, hQ5, l5, y5, z5⟩, st5⟩ := X4.specialBack hx (y := (⟨"java/lang/Integer", "<init>", "(I)V"⟩ : MethodName)) rfl hown (mvT hZ (hw _ (List.mem_of_getElem? (i := 40) rfl))) (mvT hZ (hw _ (List.mem_of_getElem? (i := 41) rfl))) (mvT hZ (hw _ (List.mem_of_getElem? (i := 43) rfl))) (by decide) (backOf (W := 1) (rmIntInit l Z a0 hw [] b4 p1 h4 n0 Z4 A4 F_value_b4 g_b4) hZ (hw _ (List.mem_of_getElem? (i := 43) rfl)) (hw _ (List.mem_of_getElem? (i := 23) rfl)) (by decide) (by decide)) (g := (mkF m 28 #[.val (.int p1)] [(.int p1), (.ref b4), (.ref b4)])) rfl (by rw [hml]; rfl) (Steps.refl _) (a := b4) (argsL := [(.int p1)]) (rest := [(.ref b4)]) (lenOf pd__I_V rfl) rfl (by show 2 * 0 + _ ≤ _; exact Nat.le_of_eq rfl) (hb hby d_jdk_33_method_22_code_28) (fun _ _ => ⟨rfl, e4, (by decide : 1 + 0 ≤ _), (by decide : 1 + 0 ≤ _)⟩)
      dsimp only [Pt.U, Pt.locs, Pt.cells, Pt.slots] at X5 l5 y5 z5 st5 hQ5
      subst l5 y5 z5
      obtain ⟨rfl, Nq5, Kq5, Fq5_0⟩ := hQ5
      have Nf5 := Fr.app N0 Nq5
      have K5 : Keep h0 T5.heap [] := K4.trans Kq5 (allS (Or.inr sz_b4) all0)
      have Z5 : n0 ≤ T5.heap.size := Nat.le_trans Z4 Kq5.1
      refine own_fw (A' := (T5.setTop (mkF m 31 #[.val (.int p1)] [(.ref b4)]))) (fun t k => st5.trans k) ?_
      obtain ⟨fs, hr, hrun, hended, hW, hsame⟩ := X5.leave (v := some (.ref b4)) (fun h => by rw [Bd.returns] at h; cases h)
      refine ⟨_, _, ?_, hrun, hended, _, _, rfl, ?_, ⟨_, rfl⟩, hW, hsame.mono (by decide) (by decide)⟩
      · exact retOut X5 hx Bd.returns rfl (Or.inr (Or.inr (Or.inr (Or.inr ⟨rfl, rfl, rfl⟩)))) (hb hby d_jdk_33_method_22_code_31) hr
      · show Q_rmIntOf Z p1 ca h0 n0 _ T5.heap _
        exact ⟨b4, rfl, Nf5, K5, Fq5_0⟩
    · refine own_fw (A' := (T3.setTop (mkF m 13 #[.val (.int p1)] []))) (fun t k => XS.icmpNo X3.here hx rfl (hb hby d_jdk_33_method_22_code_10) rfl (XT.ii_gt_f hhi) k) ?_
      obtain ⟨T6, X6, e6, st6⟩ := getS2 X3 hx hZ hown (host := "") (Or.inl (hw _ (List.mem_of_getElem? (i := 27) rfl))) Via.refl e3 P1 (g := (mkF m 13 #[.val (.int p1)] [])) rfl (hb hby d_jdk_33_method_22_code_13)
      refine own_fw (A' := (T6.setTop (mkF m 16 #[.val (.int p1)] [(.ref ca)]))) (fun t k => st6 _ k) ?_
      refine own_fw (A' := (T6.setTop (mkF m 17 #[.val (.int p1)] [(.int p1), (.ref ca)]))) (fun t k => XS.iloadN X6.here hx rfl (hb hby d_jdk_33_method_22_code_16) rfl k) ?_
      refine own_fw (A' := (T6.setTop (mkF m 20 #[.val (.int p1)] [(.int (128 : Int32)), (.int p1), (.ref ca)]))) (fun t k => XS.sipush X6.here hx rfl (hb hby d_jdk_33_method_22_code_17) k) ?_
      refine own_fw (A' := (T6.setTop (mkF m 21 #[.val (.int p1)] [(.int (p1 + (128 : Int32))), (.ref ca)]))) (fun t k => XS.iadd X6.here hx rfl (hb hby d_jdk_33_method_22_code_20) rfl k) ?_
      obtain ⟨cl7, Ar7, S7, El7⟩ := id P2
      have hin7 : ¬ ((p1 + (128 : Int32)) < 0 ∨ cl7.slots.size ≤ ((p1 + (128 : Int32))).toNatClampNeg) := by rw [S7]; exact (own_placeI p1 hlo hhi).1
      obtain ⟨bx7, hat7, Eb7⟩ := El7 (((p1 + (128 : Int32))).toNatClampNeg) (own_placeI p1 hlo hhi).2
      refine own_fw (A' := (T6.setTop (mkF m 22 #[.val (.int p1)] [(.ref bx7)]))) (fun t k => X6.aaload hx (j := (p1 + (128 : Int32))) (v := (.ref bx7)) (by rw [e6]; exact Ar7.1) (State.isArrayOf_alike hZ.alike Ar7.2.1) rfl Ar7.2.2 hin7 hat7 (g := (mkF m 21 #[.val (.int p1)] [(.int (p1 + (128 : Int32))), (.ref ca)])) rfl rfl (hb hby d_jdk_33_method_22_code_21) _ k) ?_
      obtain ⟨fs, hr, hrun, hended, hW, hsame⟩ := X6.leave (v := some (.ref bx7)) (fun h => by rw [Bd.returns] at h; cases h)
      refine ⟨_, _, ?_, hrun, hended, _, _, rfl, ?_, ⟨_, rfl⟩, hW, hsame.mono (by decide) (by decide)⟩
      · exact retOut X6 hx Bd.returns rfl (Or.inr (Or.inr (Or.inr (Or.inr ⟨rfl, rfl, rfl⟩)))) (hb hby d_jdk_33_method_22_code_22) hr
      · show Q_rmIntOf Z p1 ca h0 n0 _ T6.heap _
        rw [e6]
        exact ⟨bx7, rfl, N0, (Keep.refl h0 []), Eb7⟩
theorem pn_com_example_measured_cache_measuredcache_cache_EntryVersion : plainName "com/example/measured_cache/measuredcache/cache/EntryVersion" = true := by first | (simp [plainName, overriddenIn]; done) | decide +kernel
theorem d_prog_7_method_1_code_0 : decode prog_7_method_1_code 0 = .ok (.aload_n 0, 1) := by decide +kernel
theorem d_prog_7_method_1_code_1 : decode prog_7_method_1_code 1 = .ok (.invokespecial 1, 3) := by decide +kernel
theorem d_prog_7_method_1_code_4 : decode prog_7_method_1_code 4 = .ok (.aload_n 0, 1) := by decide +kernel
theorem d_prog_7_method_1_code_5 : decode prog_7_method_1_code 5 = .ok (.aload_n 1, 1) := by decide +kernel
theorem d_prog_7_method_1_code_6 : decode prog_7_method_1_code 6 = .ok (.putfield 7, 3) := by decide +kernel
theorem d_prog_7_method_1_code_9 : decode prog_7_method_1_code 9 = .ok (.return_, 1) := by decide +kernel
theorem ef_rmEv (m : MethodId) (a1 : Addr) (a2 : Addr) : entryFrame m #[(.ref a1), (.ref a2)] 2 = mkF m 0 #[.val (.ref a1), .val (.ref a2)] [] := by first | (simp [entryFrame, mkF, argsToLocals, Value.category]; done) | rfl
def Q_rmEv (Z : State) (a1 : Addr) (a2 : Addr) (h0 : Heap) (n0 : Nat) (v : Option Value) (h : Heap) (L : List Loc) : Prop := v = none ∧ Fr n0 L ∧ Keep h0 h [a1] ∧ Exa Z h a1 "com/example/measured_cache/measuredcache/cache/EntryVersion"
set_option maxRecDepth 65536 in
set_option maxHeartbeats 40000000 in
theorem rmEv (l : Launch) (Z : State) (a0 : Array Value) (hw : ∀ d ∈ tables_1, d.before a0 Z = true) (ws : List Jvm.Cond) (a1 : Addr) (a2 : Addr) (h0 : Heap) (n0 : Nat) (Z0 : n0 ≤ h0.size) (P0 : Exa Z h0 a1 "com/example/measured_cache/measuredcache/cache/EntryVersion") (P1 : Fld Z h0 a1 "com/example/measured_cache/measuredcache/cache/EntryVersion" "content" "Ljava/lang/Object;" .null) (g_a1 : n0 ≤ a1) :
    MetFree l (⟨"com/example/measured_cache/measuredcache/cache/EntryVersion", "<init>", "(Ljava/lang/Object;)V"⟩ : MethodName) (head1 (Jvm.Cond.code (⟨"com/example/measured_cache/measuredcache/cache/EntryVersion", "<init>", "(Ljava/lang/Object;)V"⟩ : MethodName) prog_7_method_1_code 2 none :: ws) ({ frames := 1, cells := 0, slots := 0, locals := 12 } : Room)) (fun a U => a = #[(.ref a1), (.ref a2)] ∧ Z.Warmed39 U.vm ∧ U.heap = h0) (fun _ _ _ _ _ => True) (fun _ U o U' => ∃ v L, o = .returned v ∧ Q_rmEv Z a1 a2 h0 n0 v U'.heap L ∧ FrameEnd U o U' L ({ frames := 1, cells := 0, slots := 0, locals := 12 } : Room).cells ({ frames := 1, cells := 0, slots := 0, locals := 12 } : Room).slots) := by
  refine MetFree.of_bodySF (plainFor_of_name pn_com_example_measured_cache_measuredcache_cache_EntryVersion) hisR ?_
  intro p e s m args below meth c s₁ Bd hml0 hP hK
  obtain ⟨rfl, hZ, hh⟩ := hP
  have hx := Bd.exec
  have hby := Bd.bytes
  have hml : c.maxLocals = 2 := hml0
  have hown : s.vm.findClass "com/example/measured_cache/measuredcache/cache/EntryVersion" = some m.cls := findClass_of_methodNamed Bd.named
  have hnm := (name_of_methodNamed Bd.named Bd.method).1
  have X0 : Stand p l e ({ frames := 1, cells := 0, slots := 0, locals := 12 } : Room) s m #[(.ref a1), (.ref a2)] below meth c s₁ [] 0 0 := Stand.of_body Bd
  have e0 : s₁.heap = h0 := by rw [← hh, Bd.state]; rfl
  have N0 := Fr.nil n0
  refine own_fw (A' := (s₁.setTop (mkF m 0 #[.val (.ref a1), .val (.ref a2)] []))) (fun t k => castTop (ef_rmEv m a1 a2) k) ?_
  refine own_fw (A' := (s₁.setTop (mkF m 1 #[.val (.ref a1), .val (.ref a2)] [(.ref a1)]))) (fun t k => XS.aloadN X0.here hx rfl (hb hby d_prog_7_method_1_code_0) rfl rfl k) ?_
  obtain ⟨T1, X1, e1, st1⟩ := initO X0 hx hZ hown (hw _ (List.mem_of_getElem? (i := 31) rfl)) (hw _ (List.mem_of_getElem? (i := 32) rfl)) (hw _ (List.mem_of_getElem? (i := 33) rfl)) e0 (g := (mkF m 1 #[.val (.ref a1), .val (.ref a2)] [(.ref a1)])) rfl (by rw [hml]; rfl) rfl (hb hby d_prog_7_method_1_code_1) (by decide) (W := 0) (by show 2 * 0 + _ ≤ _; exact Nat.le_of_eq rfl) (by decide)
  refine own_fw (A' := (T1.setTop (mkF m 4 #[.val (.ref a1), .val (.ref a2)] []))) (fun t k => st1 _ k) ?_
  refine own_fw (A' := (T1.setTop (mkF m 5 #[.val (.ref a1), .val (.ref a2)] [(.ref a1)]))) (fun t k => XS.aloadN X1.here hx rfl (hb hby d_prog_7_method_1_code_4) rfl rfl k) ?_
  refine own_fw (A' := (T1.setTop (mkF m 6 #[.val (.ref a1), .val (.ref a2)] [(.ref a2), (.ref a1)]))) (fun t k => XS.aloadN X1.here hx rfl (hb hby d_prog_7_method_1_code_5) rfl rfl k) ?_
  obtain ⟨T2, h2, X2, e2, W2, st2⟩ := putF X1 hx hZ hown (host := "") (Or.inl (hw _ (List.mem_of_getElem? (i := 34) rfl))) Via.refl e1 P1 P0 (Or.inl (hw _ (List.mem_of_getElem? (i := 35) rfl))) (hw _ (List.mem_of_getElem? (i := 19) rfl)) (ty := (.object "java/lang/Object")) (by decide) rfl rfl (g := (mkF m 6 #[.val (.ref a1), .val (.ref a2)] [(.ref a2), (.ref a1)])) rfl rfl (hb hby d_prog_7_method_1_code_6)
  have Fw2 : Fld Z h2 a1 "com/example/measured_cache/measuredcache/cache/EntryVersion" "content" "Ljava/lang/Object;" (.ref a2) := P1.same W2
  have Nf2 := Fr.snoc X2 N0 g_a1
  have K2 : Keep h0 h2 [a1] := (Keep.refl h0 [a1]).wr W2 (Or.inl (List.mem_of_getElem? (i := 0) rfl))
  have Z2 : n0 ≤ h2.size := Nat.le_trans Z0 (Keep.of_wr W2).1
  refine own_fw (A' := (T2.setTop (mkF m 9 #[.val (.ref a1), .val (.ref a2)] []))) (fun t k => st2 _ k) ?_
  obtain ⟨fs, hr, hrun, hended, hW, hsame⟩ := X2.leave (v := none) (fun _ => rfl)
  refine ⟨_, _, ?_, hrun, hended, _, _, rfl, ?_, ⟨_, rfl⟩, hW, hsame.mono (by decide) (by decide)⟩
  · exact X2.returnOut hx Bd.returns (hb hby d_prog_7_method_1_code_9) hr
  · show Q_rmEv Z a1 a2 h0 n0 _ T2.heap _
    rw [e2]
    exact ⟨rfl, Nf2, K2, (P0.wr W2)⟩
theorem pn_com_example_measured_cache_measuredcache_cache_Change : plainName "com/example/measured_cache/measuredcache/cache/Change" = true := by first | (simp [plainName, overriddenIn]; done) | decide +kernel
theorem d_prog_5_method_4_code_0 : decode prog_5_method_4_code 0 = .ok (.aload_n 2, 1) := by decide +kernel
theorem d_prog_5_method_4_code_1 : decode prog_5_method_4_code 1 = .ok (.ifnull 17, 3) := by decide +kernel
theorem d_prog_5_method_4_code_18 : decode prog_5_method_4_code 18 = .ok (.aload_n 0, 1) := by decide +kernel
theorem d_prog_5_method_4_code_19 : decode prog_5_method_4_code 19 = .ok (.ifnonnull 7, 3) := by decide +kernel
theorem d_prog_5_method_4_code_22 : decode prog_5_method_4_code 22 = .ok (.getstatic 16, 3) := by decide +kernel
theorem d_prog_5_method_4_code_25 : decode prog_5_method_4_code 25 = .ok (.areturn, 1) := by decide +kernel
theorem ef_rmOf111 (m : MethodId) : entryFrame m #[.null, .null, .null] 3 = mkF m 0 #[.val .null, .val .null, .val .null] [] := by first | (simp [entryFrame, mkF, argsToLocals, Value.category]; done) | rfl
def Q_rmOf111 (Z : State) (r1 : Addr) (h0 : Heap) (n0 : Nat) (v : Option Value) (h : Heap) (L : List Loc) : Prop := v = some (.ref r1) ∧ Fr n0 L ∧ h = h0
set_option maxRecDepth 65536 in
set_option maxHeartbeats 40000000 in
theorem rmOf111 (l : Launch) (Z : State) (a0 : Array Value) (hw : ∀ d ∈ tables_1, d.before a0 Z = true) (ws : List Jvm.Cond) (r1 : Addr) (h0 : Heap) (n0 : Nat) (Z0 : n0 ≤ h0.size) (P0 : Sta Z h0 "com/example/measured_cache/measuredcache/cache/Change" "NONE" "Lcom/example/measured_cache/measuredcache/cache/Change;" (.ref r1)) :
    MetFree l (⟨"com/example/measured_cache/measuredcache/cache/Change", "of", "(Lcom/example/measured_cache/measuredcache/cache/EntryVersion;Ljava/lang/Object;Lcom/example/measured_cache/measuredcache/cache/EntryVersion;)Lcom/example/measured_cache/measuredcache/cache/Change;"⟩ : MethodName) (head1 (Jvm.Cond.code (⟨"com/example/measured_cache/measuredcache/cache/Change", "of", "(Lcom/example/measured_cache/measuredcache/cache/EntryVersion;Ljava/lang/Object;Lcom/example/measured_cache/measuredcache/cache/EntryVersion;)Lcom/example/measured_cache/measuredcache/cache/Change;"⟩ : MethodName) prog_5_method_4_code 3 (some (.object "com/example/measured_cache/measuredcache/cache/Change")) :: ws) ({ frames := 0, cells := 0, slots := 0, locals := 0 } : Room)) (fun a U => a = #[.null, .null, .null] ∧ Z.Warmed39 U.vm ∧ U.heap = h0) (fun _ _ _ _ _ => True) (fun _ U o U' => ∃ v L, o = .returned v ∧ Q_rmOf111 Z r1 h0 n0 v U'.heap L ∧ FrameEnd U o U' L ({ frames := 0, cells := 0, slots := 0, locals := 0 } : Room).cells ({ frames := 0, cells := 0, slots := 0, locals := 0 } : Room).slots) := by
  refine MetFree.of_bodySF (plainFor_of_name pn_com_example_measured_cache_measuredcache_cache_Change) hisR ?_
  intro p e s m args below meth c s₁ Bd hml0 hP hK
  obtain ⟨rfl, hZ, hh⟩ := hP
  have hx := Bd.exec
  have hby := Bd.bytes
  have hml : c.maxLocals = 3 := hml0
  have hown : s.vm.findClass "com/example/measured_cache/measuredcache/cache/Change" = some m.cls := findClass_of_methodNamed Bd.named
  have hnm := (name_of_methodNamed Bd.named Bd.method).1
  have X0 : Stand p l e ({ frames := 0, cells := 0, slots := 0, locals := 0 } : Room) s m #[.null, .null, .null] below meth c s₁ [] 0 0 := Stand.of_body Bd
  have e0 : s₁.heap = h0 := by rw [← hh, Bd.state]; rfl
  have N0 := Fr.nil n0
  refine own_fw (A' := (s₁.setTop (mkF m 0 #[.val .null, .val .null, .val .null] []))) (fun t k => castTop (ef_rmOf111 m) k) ?_
  refine own_fw (A' := (s₁.setTop (mkF m 1 #[.val .null, .val .null, .val .null] [.null]))) (fun t k => XS.aloadN X0.here hx rfl (hb hby d_prog_5_method_4_code_0) rfl rfl k) ?_
  refine own_fw (A' := (s₁.setTop (mkF m 18 #[.val .null, .val .null, .val .null] []))) (fun t k => XS.ifnullYes X0.here hx rfl (pc0 := 1) (pc' := 18) rfl (hb hby d_prog_5_method_4_code_1) rfl (by decide) (by decide) k) ?_
  refine own_fw (A' := (s₁.setTop (mkF m 19 #[.val .null, .val .null, .val .null] [.null]))) (fun t k => XS.aloadN X0.here hx rfl (hb hby d_prog_5_method_4_code_18) rfl rfl k) ?_
  refine own_fw (A' := (s₁.setTop (mkF m 22 #[.val .null, .val .null, .val .null] []))) (fun t k => XS.ifnonnullNo X0.here hx rfl (hb hby d_prog_5_method_4_code_19) rfl k) ?_
  obtain ⟨T1, X1, e1, st1⟩ := getS2 X0 hx hZ hown (host := "") (Or.inl (hw _ (List.mem_of_getElem? (i := 17) rfl))) Via.refl e0 P0 (g := (mkF m 22 #[.val .null, .val .null, .val .null] [])) rfl (hb hby d_prog_5_method_4_code_22)
  refine own_fw (A' := (T1.setTop (mkF m 25 #[.val .null, .val .null, .val .null] [(.ref r1)]))) (fun t k => st1 _ k) ?_
  obtain ⟨fs, hr, hrun, hended, hW, hsame⟩ := X1.leave (v := some (.ref r1)) (fun h => by rw [Bd.returns] at h; cases h)
  refine ⟨_, _, ?_, hrun, hended, _, _, rfl, ?_, ⟨_, rfl⟩, hW, hsame.mono (by decide) (by decide)⟩
  · exact retOut X1 hx Bd.returns rfl (Or.inr (Or.inr (Or.inr (Or.inr ⟨rfl, rfl, rfl⟩)))) (hb hby d_prog_5_method_4_code_25) hr
  · show Q_rmOf111 Z r1 h0 n0 _ T1.heap _
    rw [e1]
    exact ⟨rfl, N0, rfl⟩
theorem ef_rmOf101 (m : MethodId) (a2 : Addr) : entryFrame m #[.null, (.ref a2), .null] 3 = mkF m 0 #[.val .null, .val (.ref a2), .val .null] [] := by first | (simp [entryFrame, mkF, argsToLocals, Value.category]; done) | rfl
def Q_rmOf101 (Z : State) (a2 : Addr) (r1 : Addr) (h0 : Heap) (n0 : Nat) (v : Option Value) (h : Heap) (L : List Loc) : Prop := v = some (.ref r1) ∧ Fr n0 L ∧ h = h0
set_option maxRecDepth 65536 in
set_option maxHeartbeats 40000000 in
theorem rmOf101 (l : Launch) (Z : State) (a0 : Array Value) (hw : ∀ d ∈ tables_1, d.before a0 Z = true) (ws : List Jvm.Cond) (a2 : Addr) (r1 : Addr) (h0 : Heap) (n0 : Nat) (Z0 : n0 ≤ h0.size) (P0 : Sta Z h0 "com/example/measured_cache/measuredcache/cache/Change" "NONE" "Lcom/example/measured_cache/measuredcache/cache/Change;" (.ref r1)) :
    MetFree l (⟨"com/example/measured_cache/measuredcache/cache/Change", "of", "(Lcom/example/measured_cache/measuredcache/cache/EntryVersion;Ljava/lang/Object;Lcom/example/measured_cache/measuredcache/cache/EntryVersion;)Lcom/example/measured_cache/measuredcache/cache/Change;"⟩ : MethodName) (head1 (Jvm.Cond.code (⟨"com/example/measured_cache/measuredcache/cache/Change", "of", "(Lcom/example/measured_cache/measuredcache/cache/EntryVersion;Ljava/lang/Object;Lcom/example/measured_cache/measuredcache/cache/EntryVersion;)Lcom/example/measured_cache/measuredcache/cache/Change;"⟩ : MethodName) prog_5_method_4_code 3 (some (.object "com/example/measured_cache/measuredcache/cache/Change")) :: ws) ({ frames := 0, cells := 0, slots := 0, locals := 0 } : Room)) (fun a U => a = #[.null, (.ref a2), .null] ∧ Z.Warmed39 U.vm ∧ U.heap = h0) (fun _ _ _ _ _ => True) (fun _ U o U' => ∃ v L, o = .returned v ∧ Q_rmOf101 Z a2 r1 h0 n0 v U'.heap L ∧ FrameEnd U o U' L ({ frames := 0, cells := 0, slots := 0, locals := 0 } : Room).cells ({ frames := 0, cells := 0, slots := 0, locals := 0 } : Room).slots) := by
  refine MetFree.of_bodySF (plainFor_of_name pn_com_example_measured_cache_measuredcache_cache_Change) hisR ?_
  intro p e s m args below meth c s₁ Bd hml0 hP hK
  obtain ⟨rfl, hZ, hh⟩ := hP
  have hx := Bd.exec
  have hby := Bd.bytes
  have hml : c.maxLocals = 3 := hml0
  have hown : s.vm.findClass "com/example/measured_cache/measuredcache/cache/Change" = some m.cls := findClass_of_methodNamed Bd.named
  have hnm := (name_of_methodNamed Bd.named Bd.method).1
  have X0 : Stand p l e ({ frames := 0, cells := 0, slots := 0, locals := 0 } : Room) s m #[.null, (.ref a2), .null] below meth c s₁ [] 0 0 := Stand.of_body Bd
  have e0 : s₁.heap = h0 := by rw [← hh, Bd.state]; rfl
  have N0 := Fr.nil n0
  refine own_fw (A' := (s₁.setTop (mkF m 0 #[.val .null, .val (.ref a2), .val .null] []))) (fun t k => castTop (ef_rmOf101 m a2) k) ?_
  refine own_fw (A' := (s₁.setTop (mkF m 1 #[.val .null, .val (.ref a2), .val .null] [.null]))) (fun t k => XS.aloadN X0.here hx rfl (hb hby d_prog_5_method_4_code_0) rfl rfl k) ?_
  refine own_fw (A' := (s₁.setTop (mkF m 18 #[.val .null, .val (.ref a2), .val .null] []))) (fun t k => XS.ifnullYes X0.here hx rfl (pc0 := 1) (pc' := 18) rfl (hb hby d_prog_5_method_4_code_1) rfl (by decide) (by decide) k) ?_
  refine own_fw (A' := (s₁.setTop (mkF m 19 #[.val .null, .val (.ref a2), .val .null] [.null]))) (fun t k => XS.aloadN X0.here hx rfl (hb hby d_prog_5_method_4_code_18) rfl rfl k) ?_
  refine own_fw (A' := (s₁.setTop (mkF m 22 #[.val .null, .val (.ref a2), .val .null] []))) (fun t k => XS.ifnonnullNo X0.here hx rfl (hb hby d_prog_5_method_4_code_19) rfl k) ?_
  obtain ⟨T1, X1, e1, st1⟩ := getS2 X0 hx hZ hown (host := "") (Or.inl (hw _ (List.mem_of_getElem? (i := 17) rfl))) Via.refl e0 P0 (g := (mkF m 22 #[.val .null, .val (.ref a2), .val .null] [])) rfl (hb hby d_prog_5_method_4_code_22)
  refine own_fw (A' := (T1.setTop (mkF m 25 #[.val .null, .val (.ref a2), .val .null] [(.ref r1)]))) (fun t k => st1 _ k) ?_
  obtain ⟨fs, hr, hrun, hended, hW, hsame⟩ := X1.leave (v := some (.ref r1)) (fun h => by rw [Bd.returns] at h; cases h)
  refine ⟨_, _, ?_, hrun, hended, _, _, rfl, ?_, ⟨_, rfl⟩, hW, hsame.mono (by decide) (by decide)⟩
  · exact retOut X1 hx Bd.returns rfl (Or.inr (Or.inr (Or.inr (Or.inr ⟨rfl, rfl, rfl⟩)))) (hb hby d_prog_5_method_4_code_25) hr
  · show Q_rmOf101 Z a2 r1 h0 n0 _ T1.heap _
    rw [e1]
    exact ⟨rfl, N0, rfl⟩
theorem d_prog_5_method_4_code_4 : decode prog_5_method_4_code 4 = .ok (.aload_n 0, 1) := by decide +kernel
theorem d_prog_5_method_4_code_5 : decode prog_5_method_4_code 5 = .ok (.ifnonnull 9, 3) := by decide +kernel
theorem d_prog_5_method_4_code_8 : decode prog_5_method_4_code 8 = .ok (.getstatic 3, 3) := by decide +kernel
theorem d_prog_5_method_4_code_11 : decode prog_5_method_4_code 11 = .ok (.goto 6, 3) := by decide +kernel
theorem d_prog_5_method_4_code_17 : decode prog_5_method_4_code 17 = .ok (.areturn, 1) := by decide +kernel
theorem ef_rmOf100 (m : MethodId) (a2 : Addr) (a3 : Addr) : entryFrame m #[.null, (.ref a2), (.ref a3)] 3 = mkF m 0 #[.val .null, .val (.ref a2), .val (.ref a3)] [] := by first | (simp [entryFrame, mkF, argsToLocals, Value.category]; done) | rfl
def Q_rmOf100 (Z : State) (a2 : Addr) (a3 : Addr) (r1 : Addr) (h0 : Heap) (n0 : Nat) (v : Option Value) (h : Heap) (L : List Loc) : Prop := v = some (.ref r1) ∧ Fr n0 L ∧ h = h0
set_option maxRecDepth 65536 in
set_option maxHeartbeats 40000000 in
theorem rmOf100 (l : Launch) (Z : State) (a0 : Array Value) (hw : ∀ d ∈ tables_1, d.before a0 Z = true) (ws : List Jvm.Cond) (a2 : Addr) (a3 : Addr) (r1 : Addr) (h0 : Heap) (n0 : Nat) (Z0 : n0 ≤ h0.size) (P0 : Sta Z h0 "com/example/measured_cache/measuredcache/cache/Change" "CREATED" "Lcom/example/measured_cache/measuredcache/cache/Change;" (.ref r1)) :
    MetFree l (⟨"com/example/measured_cache/measuredcache/cache/Change", "of", "(Lcom/example/measured_cache/measuredcache/cache/EntryVersion;Ljava/lang/Object;Lcom/example/measured_cache/measuredcache/cache/EntryVersion;)Lcom/example/measured_cache/measuredcache/cache/Change;"⟩ : MethodName) (head1 (Jvm.Cond.code (⟨"com/example/measured_cache/measuredcache/cache/Change", "of", "(Lcom/example/measured_cache/measuredcache/cache/EntryVersion;Ljava/lang/Object;Lcom/example/measured_cache/measuredcache/cache/EntryVersion;)Lcom/example/measured_cache/measuredcache/cache/Change;"⟩ : MethodName) prog_5_method_4_code 3 (some (.object "com/example/measured_cache/measuredcache/cache/Change")) :: ws) ({ frames := 0, cells := 0, slots := 0, locals := 0 } : Room)) (fun a U => a = #[.null, (.ref a2), (.ref a3)] ∧ Z.Warmed39 U.vm ∧ U.heap = h0) (fun _ _ _ _ _ => True) (fun _ U o U' => ∃ v L, o = .returned v ∧ Q_rmOf100 Z a2 a3 r1 h0 n0 v U'.heap L ∧ FrameEnd U o U' L ({ frames := 0, cells := 0, slots := 0, locals := 0 } : Room).cells ({ frames := 0, cells := 0, slots := 0, locals := 0 } : Room).slots) := by
  refine MetFree.of_bodySF (plainFor_of_name pn_com_example_measured_cache_measuredcache_cache_Change) hisR ?_
  intro p e s m args below meth c s₁ Bd hml0 hP hK
  obtain ⟨rfl, hZ, hh⟩ := hP
  have hx := Bd.exec
  have hby := Bd.bytes
  have hml : c.maxLocals = 3 := hml0
  have hown : s.vm.findClass "com/example/measured_cache/measuredcache/cache/Change" = some m.cls := findClass_of_methodNamed Bd.named
  have hnm := (name_of_methodNamed Bd.named Bd.method).1
  have X0 : Stand p l e ({ frames := 0, cells := 0, slots := 0, locals := 0 } : Room) s m #[.null, (.ref a2), (.ref a3)] below meth c s₁ [] 0 0 := Stand.of_body Bd
  have e0 : s₁.heap = h0 := by rw [← hh, Bd.state]; rfl
  have N0 := Fr.nil n0
  refine own_fw (A' := (s₁.setTop (mkF m 0 #[.val .null, .val (.ref a2), .val (.ref a3)] []))) (fun t k => castTop (ef_rmOf100 m a2 a3) k) ?_
  refine own_fw (A' := (s₁.setTop (mkF m 1 #[.val .null, .val (.ref a2), .val (.ref a3)] [(.ref a3)]))) (fun t k => XS.aloadN X0.here hx rfl (hb hby d_prog_5_method_4_code_0) rfl rfl k) ?_
  refine own_fw (A' := (s₁.setTop (mkF m 4 #[.val .null, .val (.ref a2), .val (.ref a3)] []))) (fun t k => XS.ifnullNo X0.here hx rfl (hb hby d_prog_5_method_4_code_1) rfl k) ?_
  refine own_fw (A' := (s₁.setTop (mkF m 5 #[.val .null, .val (.ref a2), .val (.ref a3)] [.null]))) (fun t k => XS.aloadN X0.here hx rfl (hb hby d_prog_5_method_4_code_4) rfl rfl k) ?_
  refine own_fw (A' := (s₁.setTop (mkF m 8 #[.val .null, .val (.ref a2), .val (.ref a3)] []))) (fun t k => XS.ifnonnullNo X0.here hx rfl (hb hby d_prog_5_method_4_code_5) rfl k) ?_
  obtain ⟨T1, X1, e1, st1⟩ := getS2 X0 hx hZ hown (host := "") (Or.inl (hw _ (List.mem_of_getElem? (i := 37) rfl))) Via.refl e0 P0 (g := (mkF m 8 #[.val .null, .val (.ref a2), .val (.ref a3)] [])) rfl (hb hby d_prog_5_method_4_code_8)
  refine own_fw (A' := (T1.setTop (mkF m 11 #[.val .null, .val (.ref a2), .val (.ref a3)] [(.ref r1)]))) (fun t k => st1 _ k) ?_
  refine own_fw (A' := (T1.setTop (mkF m 17 #[.val .null, .val (.ref a2), .val (.ref a3)] [(.ref r1)]))) (fun t k => XS.goto X1.here hx rfl (pc0 := 11) (pc' := 17) rfl (hb hby d_prog_5_method_4_code_11) (by decide) (by decide) k) ?_
  obtain ⟨fs, hr, hrun, hended, hW, hsame⟩ := X1.leave (v := some (.ref r1)) (fun h => by rw [Bd.returns] at h; cases h)
  refine ⟨_, _, ?_, hrun, hended, _, _, rfl, ?_, ⟨_, rfl⟩, hW, hsame.mono (by decide) (by decide)⟩
  · exact retOut X1 hx Bd.returns rfl (Or.inr (Or.inr (Or.inr (Or.inr ⟨rfl, rfl, rfl⟩)))) (hb hby d_prog_5_method_4_code_17) hr
  · show Q_rmOf100 Z a2 a3 r1 h0 n0 _ T1.heap _
    rw [e1]
    exact ⟨rfl, N0, rfl⟩
theorem d_prog_5_method_4_code_26 : decode prog_5_method_4_code 26 = .ok (.aload_n 1, 1) := by decide +kernel
theorem d_prog_5_method_4_code_27 : decode prog_5_method_4_code 27 = .ok (.ifnonnull 9, 3) := by decide +kernel
theorem d_prog_5_method_4_code_30 : decode prog_5_method_4_code 30 = .ok (.getstatic 10, 3) := by decide +kernel
theorem d_prog_5_method_4_code_33 : decode prog_5_method_4_code 33 = .ok (.goto 6, 3) := by decide +kernel
theorem d_prog_5_method_4_code_39 : decode prog_5_method_4_code 39 = .ok (.areturn, 1) := by decide +kernel
theorem ef_rmOf011 (m : MethodId) (a1 : Addr) : entryFrame m #[(.ref a1), .null, .null] 3 = mkF m 0 #[.val (.ref a1), .val .null, .val .null] [] := by first | (simp [entryFrame, mkF, argsToLocals, Value.category]; done) | rfl
def Q_rmOf011 (Z : State) (a1 : Addr) (r1 : Addr) (h0 : Heap) (n0 : Nat) (v : Option Value) (h : Heap) (L : List Loc) : Prop := v = some (.ref r1) ∧ Fr n0 L ∧ h = h0
set_option maxRecDepth 65536 in
set_option maxHeartbeats 40000000 in
theorem rmOf011 (l : Launch) (Z : State) (a0 : Array Value) (hw : ∀ d ∈ tables_1, d.before a0 Z = true) (ws : List Jvm.Cond) (a1 : Addr) (r1 : Addr) (h0 : Heap) (n0 : Nat) (Z0 : n0 ≤ h0.size) (P0 : Sta Z h0 "com/example/measured_cache/measuredcache/cache/Change" "REMOVED" "Lcom/example/measured_cache/measuredcache/cache/Change;" (.ref r1)) :
    MetFree l (⟨"com/example/measured_cache/measuredcache/cache/Change", "of", "(Lcom/example/measured_cache/measuredcache/cache/EntryVersion;Ljava/lang/Object;Lcom/example/measured_cache/measuredcache/cache/EntryVersion;)Lcom/example/measured_cache/measuredcache/cache/Change;"⟩ : MethodName) (head1 (Jvm.Cond.code (⟨"com/example/measured_cache/measuredcache/cache/Change", "of", "(Lcom/example/measured_cache/measuredcache/cache/EntryVersion;Ljava/lang/Object;Lcom/example/measured_cache/measuredcache/cache/EntryVersion;)Lcom/example/measured_cache/measuredcache/cache/Change;"⟩ : MethodName) prog_5_method_4_code 3 (some (.object "com/example/measured_cache/measuredcache/cache/Change")) :: ws) ({ frames := 0, cells := 0, slots := 0, locals := 0 } : Room)) (fun a U => a = #[(.ref a1), .null, .null] ∧ Z.Warmed39 U.vm ∧ U.heap = h0) (fun _ _ _ _ _ => True) (fun _ U o U' => ∃ v L, o = .returned v ∧ Q_rmOf011 Z a1 r1 h0 n0 v U'.heap L ∧ FrameEnd U o U' L ({ frames := 0, cells := 0, slots := 0, locals := 0 } : Room).cells ({ frames := 0, cells := 0, slots := 0, locals := 0 } : Room).slots) := by
  refine MetFree.of_bodySF (plainFor_of_name pn_com_example_measured_cache_measuredcache_cache_Change) hisR ?_
  intro p e s m args below meth c s₁ Bd hml0 hP hK
  obtain ⟨rfl, hZ, hh⟩ := hP
  have hx := Bd.exec
  have hby := Bd.bytes
  have hml : c.maxLocals = 3 := hml0
  have hown : s.vm.findClass "com/example/measured_cache/measuredcache/cache/Change" = some m.cls := findClass_of_methodNamed Bd.named
  have hnm := (name_of_methodNamed Bd.named Bd.method).1
  have X0 : Stand p l e ({ frames := 0, cells := 0, slots := 0, locals := 0 } : Room) s m #[(.ref a1), .null, .null] below meth c s₁ [] 0 0 := Stand.of_body Bd
  have e0 : s₁.heap = h0 := by rw [← hh, Bd.state]; rfl
  have N0 := Fr.nil n0
  refine own_fw (A' := (s₁.setTop (mkF m 0 #[.val (.ref a1), .val .null, .val .null] []))) (fun t k => castTop (ef_rmOf011 m a1) k) ?_
  refine own_fw (A' := (s₁.setTop (mkF m 1 #[.val (.ref a1), .val .null, .val .null] [.null]))) (fun t k => XS.aloadN X0.here hx rfl (hb hby d_prog_5_method_4_code_0) rfl rfl k) ?_
  refine own_fw (A' := (s₁.setTop (mkF m 18 #[.val (.ref a1), .val .null, .val .null] []))) (fun t k => XS.ifnullYes X0.here hx rfl (pc0 := 1) (pc' := 18) rfl (hb hby d_prog_5_method_4_code_1) rfl (by decide) (by decide) k) ?_
  refine own_fw (A' := (s₁.setTop (mkF m 19 #[.val (.ref a1), .val .null, .val .null] [(.ref a1)]))) (fun t k => XS.aloadN X0.here hx rfl (hb hby d_prog_5_method_4_code_18) rfl rfl k) ?_
  refine own_fw (A' := (s₁.setTop (mkF m 26 #[.val (.ref a1), .val .null, .val .null] []))) (fun t k => XS.ifnonnullYes X0.here hx rfl (pc0 := 19) (pc' := 26) rfl (hb hby d_prog_5_method_4_code_19) rfl (by decide) (by decide) k) ?_
  refine own_fw (A' := (s₁.setTop (mkF m 27 #[.val (.ref a1), .val .null, .val .null] [.null]))) (fun t k => XS.aloadN X0.here hx rfl (hb hby d_prog_5_method_4_code_26) rfl rfl k) ?_
  refine own_fw (A' := (s₁.setTop (mkF m 30 #[.val (.ref a1), .val .null, .val .null] []))) (fun t k => XS.ifnonnullNo X0.here hx rfl (hb hby d_prog_5_method_4_code_27) rfl k) ?_
  obtain ⟨T1, X1, e1, st1⟩ := getS2 X0 hx hZ hown (host := "") (Or.inl (hw _ (List.mem_of_getElem? (i := 36) rfl))) Via.refl e0 P0 (g := (mkF m 30 #[.val (.ref a1), .val .null, .val .null] [])) rfl (hb hby d_prog_5_method_4_code_30)
  refine own_fw (A' := (T1.setTop (mkF m 33 #[.val (.ref a1), .val .null, .val .null] [(.ref r1)]))) (fun t k => st1 _ k) ?_
  refine own_fw (A' := (T1.setTop (mkF m 39 #[.val (.ref a1), .val .null, .val .null] [(.ref r1)]))) (fun t k => XS.goto X1.here hx rfl (pc0 := 33) (pc' := 39) rfl (hb hby d_prog_5_method_4_code_33) (by decide) (by decide) k) ?_
  obtain ⟨fs, hr, hrun, hended, hW, hsame⟩ := X1.leave (v := some (.ref r1)) (fun h => by rw [Bd.returns] at h; cases h)
  refine ⟨_, _, ?_, hrun, hended, _, _, rfl, ?_, ⟨_, rfl⟩, hW, hsame.mono (by decide) (by decide)⟩
  · exact retOut X1 hx Bd.returns rfl (Or.inr (Or.inr (Or.inr (Or.inr ⟨rfl, rfl, rfl⟩)))) (hb hby d_prog_5_method_4_code_39) hr
  · show Q_rmOf011 Z a1 r1 h0 n0 _ T1.heap _
    rw [e1]
    exact ⟨rfl, N0, rfl⟩
theorem d_prog_5_method_4_code_36 : decode prog_5_method_4_code 36 = .ok (.getstatic 13, 3) := by decide +kernel
theorem ef_rmOf001 (m : MethodId) (a1 : Addr) (a2 : Addr) : entryFrame m #[(.ref a1), (.ref a2), .null] 3 = mkF m 0 #[.val (.ref a1), .val (.ref a2), .val .null] [] := by first | (simp [entryFrame, mkF, argsToLocals, Value.category]; done) | rfl
def Q_rmOf001 (Z : State) (a1 : Addr) (a2 : Addr) (r1 : Addr) (h0 : Heap) (n0 : Nat) (v : Option Value) (h : Heap) (L : List Loc) : Prop := v = some (.ref r1) ∧ Fr n0 L ∧ h = h0
set_option maxRecDepth 65536 in
set_option maxHeartbeats 40000000 in
theorem rmOf001 (l : Launch) (Z : State) (a0 : Array Value) (hw : ∀ d ∈ tables_1, d.before a0 Z = true) (ws : List Jvm.Cond) (a1 : Addr) (a2 : Addr) (r1 : Addr) (h0 : Heap) (n0 : Nat) (Z0 : n0 ≤ h0.size) (P0 : Sta Z h0 "com/example/measured_cache/measuredcache/cache/Change" "EXPIRED" "Lcom/example/measured_cache/measuredcache/cache/Change;" (.ref r1)) :
    MetFree l (⟨"com/example/measured_cache/measuredcache/cache/Change", "of", "(Lcom/example/measured_cache/measuredcache/cache/EntryVersion;Ljava/lang/Object;Lcom/example/measured_cache/measuredcache/cache/EntryVersion;)Lcom/example/measured_cache/measuredcache/cache/Change;"⟩ : MethodName) (head1 (Jvm.Cond.code (⟨"com/example/measured_cache/measuredcache/cache/Change", "of", "(Lcom/example/measured_cache/measuredcache/cache/EntryVersion;Ljava/lang/Object;Lcom/example/measured_cache/measuredcache/cache/EntryVersion;)Lcom/example/measured_cache/measuredcache/cache/Change;"⟩ : MethodName) prog_5_method_4_code 3 (some (.object "com/example/measured_cache/measuredcache/cache/Change")) :: ws) ({ frames := 0, cells := 0, slots := 0, locals := 0 } : Room)) (fun a U => a = #[(.ref a1), (.ref a2), .null] ∧ Z.Warmed39 U.vm ∧ U.heap = h0) (fun _ _ _ _ _ => True) (fun _ U o U' => ∃ v L, o = .returned v ∧ Q_rmOf001 Z a1 a2 r1 h0 n0 v U'.heap L ∧ FrameEnd U o U' L ({ frames := 0, cells := 0, slots := 0, locals := 0 } : Room).cells ({ frames := 0, cells := 0, slots := 0, locals := 0 } : Room).slots) := by
  refine MetFree.of_bodySF (plainFor_of_name pn_com_example_measured_cache_measuredcache_cache_Change) hisR ?_
  intro p e s m args below meth c s₁ Bd hml0 hP hK
  obtain ⟨rfl, hZ, hh⟩ := hP
  have hx := Bd.exec
  have hby := Bd.bytes
  have hml : c.maxLocals = 3 := hml0
  have hown : s.vm.findClass "com/example/measured_cache/measuredcache/cache/Change" = some m.cls := findClass_of_methodNamed Bd.named
  have hnm := (name_of_methodNamed Bd.named Bd.method).1
  have X0 : Stand p l e ({ frames := 0, cells := 0, slots := 0, locals := 0 } : Room) s m #[(.ref a1), (.ref a2), .null] below meth c s₁ [] 0 0 := Stand.of_body Bd
  have e0 : s₁.heap = h0 := by rw [← hh, Bd.state]; rfl
  have N0 := Fr.nil n0
  refine own_fw (A' := (s₁.setTop (mkF m 0 #[.val (.ref a1), .val (.ref a2), .val .null] []))) (fun t k => castTop (ef_rmOf001 m a1 a2) k) ?_
  refine own_fw (A' := (s₁.setTop (mkF m 1 #[.val (.ref a1), .val (.ref a2), .val .null] [.null]))) (fun t k => XS.aloadN X0.here hx rfl (hb hby d_prog_5_method_4_code_0) rfl rfl k) ?_
  refine own_fw (A' := (s₁.setTop (mkF m 18 #[.val (.ref a1), .val (.ref a2), .val .null] []))) (fun t k => XS.ifnullYes X0.here hx rfl (pc0 := 1) (pc' := 18) rfl (hb hby d_prog_5_method_4_code_1) rfl (by decide) (by decide) k) ?_
  refine own_fw (A' := (s₁.setTop (mkF m 19 #[.val (.ref a1), .val (.ref a2), .val .null] [(.ref a1)]))) (fun t k => XS.aloadN X0.here hx rfl (hb hby d_prog_5_method_4_code_18) rfl rfl k) ?_
  refine own_fw (A' := (s₁.setTop (mkF m 26 #[.val (.ref a1), .val (.ref a2), .val .null] []))) (fun t k => XS.ifnonnullYes X0.here hx rfl (pc0 := 19) (pc' := 26) rfl (hb hby d_prog_5_method_4_code_19) rfl (by decide) (by decide) k) ?_
  refine own_fw (A' := (s₁.setTop (mkF m 27 #[.val (.ref a1), .val (.ref a2), .val .null] [(.ref a2)]))) (fun t k => XS.aloadN X0.here hx rfl (hb hby d_prog_5_method_4_code_26) rfl rfl k) ?_
  refine own_fw (A' := (s₁.setTop (mkF m 36 #[.val (.ref a1), .val (.ref a2), .val .null] []))) (fun t k => XS.ifnonnullYes X0.here hx rfl (pc0 := 27) (pc' := 36) rfl (hb hby d_prog_5_method_4_code_27) rfl (by decide) (by decide) k) ?_
  obtain ⟨T1, X1, e1, st1⟩ := getS2 X0 hx hZ hown (host := "") (Or.inl (hw _ (List.mem_of_getElem? (i := 54) rfl))) Via.refl e0 P0 (g := (mkF m 36 #[.val (.ref a1), .val (.ref a2), .val .null] [])) rfl (hb hby d_prog_5_method_4_code_36)
  refine own_fw (A' := (T1.setTop (mkF m 39 #[.val (.ref a1), .val (.ref a2), .val .null] [(.ref r1)]))) (fun t k => st1 _ k) ?_
  obtain ⟨fs, hr, hrun, hended, hW, hsame⟩ := X1.leave (v := some (.ref r1)) (fun h => by rw [Bd.returns] at h; cases h)
  refine ⟨_, _, ?_, hrun, hended, _, _, rfl, ?_, ⟨_, rfl⟩, hW, hsame.mono (by decide) (by decide)⟩
  · exact retOut X1 hx Bd.returns rfl (Or.inr (Or.inr (Or.inr (Or.inr ⟨rfl, rfl, rfl⟩)))) (hb hby d_prog_5_method_4_code_39) hr
  · show Q_rmOf001 Z a1 a2 r1 h0 n0 _ T1.heap _
    rw [e1]
    exact ⟨rfl, N0, rfl⟩
theorem d_prog_5_method_4_code_14 : decode prog_5_method_4_code 14 = .ok (.getstatic 7, 3) := by decide +kernel
theorem ef_rmOf000 (m : MethodId) (a1 : Addr) (a2 : Addr) (a3 : Addr) : entryFrame m #[(.ref a1), (.ref a2), (.ref a3)] 3 = mkF m 0 #[.val (.ref a1), .val (.ref a2), .val (.ref a3)] [] := by first | (simp [entryFrame, mkF, argsToLocals, Value.category]; done) | rfl
def Q_rmOf000 (Z : State) (a1 : Addr) (a2 : Addr) (a3 : Addr) (r1 : Addr) (h0 : Heap) (n0 : Nat) (v : Option Value) (h : Heap) (L : List Loc) : Prop := v = some (.ref r1) ∧ Fr n0 L ∧ h = h0
set_option maxRecDepth 65536 in
set_option maxHeartbeats 40000000 in
theorem rmOf000 (l : Launch) (Z : State) (a0 : Array Value) (hw : ∀ d ∈ tables_1, d.before a0 Z = true) (ws : List Jvm.Cond) (a1 : Addr) (a2 : Addr) (a3 : Addr) (r1 : Addr) (h0 : Heap) (n0 : Nat) (Z0 : n0 ≤ h0.size) (P0 : Sta Z h0 "com/example/measured_cache/measuredcache/cache/Change" "UPDATED" "Lcom/example/measured_cache/measuredcache/cache/Change;" (.ref r1)) :
    MetFree l (⟨"com/example/measured_cache/measuredcache/cache/Change", "of", "(Lcom/example/measured_cache/measuredcache/cache/EntryVersion;Ljava/lang/Object;Lcom/example/measured_cache/measuredcache/cache/EntryVersion;)Lcom/example/measured_cache/measuredcache/cache/Change;"⟩ : MethodName) (head1 (Jvm.Cond.code (⟨"com/example/measured_cache/measuredcache/cache/Change", "of", "(Lcom/example/measured_cache/measuredcache/cache/EntryVersion;Ljava/lang/Object;Lcom/example/measured_cache/measuredcache/cache/EntryVersion;)Lcom/example/measured_cache/measuredcache/cache/Change;"⟩ : MethodName) prog_5_method_4_code 3 (some (.object "com/example/measured_cache/measuredcache/cache/Change")) :: ws) ({ frames := 0, cells := 0, slots := 0, locals := 0 } : Room)) (fun a U => a = #[(.ref a1), (.ref a2), (.ref a3)] ∧ Z.Warmed39 U.vm ∧ U.heap = h0) (fun _ _ _ _ _ => True) (fun _ U o U' => ∃ v L, o = .returned v ∧ Q_rmOf000 Z a1 a2 a3 r1 h0 n0 v U'.heap L ∧ FrameEnd U o U' L ({ frames := 0, cells := 0, slots := 0, locals := 0 } : Room).cells ({ frames := 0, cells := 0, slots := 0, locals := 0 } : Room).slots) := by
  refine MetFree.of_bodySF (plainFor_of_name pn_com_example_measured_cache_measuredcache_cache_Change) hisR ?_
  intro p e s m args below meth c s₁ Bd hml0 hP hK
  obtain ⟨rfl, hZ, hh⟩ := hP
  have hx := Bd.exec
  have hby := Bd.bytes
  have hml : c.maxLocals = 3 := hml0
  have hown : s.vm.findClass "com/example/measured_cache/measuredcache/cache/Change" = some m.cls := findClass_of_methodNamed Bd.named
  have hnm := (name_of_methodNamed Bd.named Bd.method).1
  have X0 : Stand p l e ({ frames := 0, cells := 0, slots := 0, locals := 0 } : Room) s m #[(.ref a1), (.ref a2), (.ref a3)] below meth c s₁ [] 0 0 := Stand.of_body Bd
  have e0 : s₁.heap = h0 := by rw [← hh, Bd.state]; rfl
  have N0 := Fr.nil n0
  refine own_fw (A' := (s₁.setTop (mkF m 0 #[.val (.ref a1), .val (.ref a2), .val (.ref a3)] []))) (fun t k => castTop (ef_rmOf000 m a1 a2 a3) k) ?_
  refine own_fw (A' := (s₁.setTop (mkF m 1 #[.val (.ref a1), .val (.ref a2), .val (.ref a3)] [(.ref a3)]))) (fun t k => XS.aloadN X0.here hx rfl (hb hby d_prog_5_method_4_code_0) rfl rfl k) ?_
  refine own_fw (A' := (s₁.setTop (mkF m 4 #[.val (.ref a1), .val (.ref a2), .val (.ref a3)] []))) (fun t k => XS.ifnullNo X0.here hx rfl (hb hby d_prog_5_method_4_code_1) rfl k) ?_
  refine own_fw (A' := (s₁.setTop (mkF m 5 #[.val (.ref a1), .val (.ref a2), .val (.ref a3)] [(.ref a1)]))) (fun t k => XS.aloadN X0.here hx rfl (hb hby d_prog_5_method_4_code_4) rfl rfl k) ?_
  refine own_fw (A' := (s₁.setTop (mkF m 14 #[.val (.ref a1), .val (.ref a2), .val (.ref a3)] []))) (fun t k => XS.ifnonnullYes X0.here hx rfl (pc0 := 5) (pc' := 14) rfl (hb hby d_prog_5_method_4_code_5) rfl (by decide) (by decide) k) ?_
  obtain ⟨T1, X1, e1, st1⟩ := getS2 X0 hx hZ hown (host := "") (Or.inl (hw _ (List.mem_of_getElem? (i := 53) rfl))) Via.refl e0 P0 (g := (mkF m 14 #[.val (.ref a1), .val (.ref a2), .val (.ref a3)] [])) rfl (hb hby d_prog_5_method_4_code_14)
  refine own_fw (A' := (T1.setTop (mkF m 17 #[.val (.ref a1), .val (.ref a2), .val (.ref a3)] [(.ref r1)]))) (fun t k => st1 _ k) ?_
  obtain ⟨fs, hr, hrun, hended, hW, hsame⟩ := X1.leave (v := some (.ref r1)) (fun h => by rw [Bd.returns] at h; cases h)
  refine ⟨_, _, ?_, hrun, hended, _, _, rfl, ?_, ⟨_, rfl⟩, hW, hsame.mono (by decide) (by decide)⟩
  · exact retOut X1 hx Bd.returns rfl (Or.inr (Or.inr (Or.inr (Or.inr ⟨rfl, rfl, rfl⟩)))) (hb hby d_prog_5_method_4_code_17) hr
  · show Q_rmOf000 Z a1 a2 a3 r1 h0 n0 _ T1.heap _
    rw [e1]
    exact ⟨rfl, N0, rfl⟩
theorem pn_com_example_measured_cache_measuredcache_cache_ChangeOfPinLaw : plainName "com/example/measured_cache/measuredcache/cache/ChangeOfPinLaw" = true := by first | (simp [plainName, overriddenIn]; done) | decide +kernel
theorem pd__Lcom_example_measured_cache_measuredcache_cache_EntryVersion_Ljava_lang_Object_Lcom_example_measured_cache_measuredcache_cache_EntryVersion__Lcom_example_measured_cache_measuredcache_cache_Change_ : parseMethodDescriptor "(Lcom/example/measured_cache/measuredcache/cache/EntryVersion;Ljava/lang/Object;Lcom/example/measured_cache/measuredcache/cache/EntryVersion;)Lcom/example/measured_cache/measuredcache/cache/Change;" = some ⟨[(.object "com/example/measured_cache/measuredcache/cache/EntryVersion"), (.object "java/lang/Object"), (.object "com/example/measured_cache/measuredcache/cache/EntryVersion")], some (.object "com/example/measured_cache/measuredcache/cache/Change")⟩ := by decide +kernel
theorem pd__I_Ljava_lang_Integer_ : parseMethodDescriptor "(I)Ljava/lang/Integer;" = some ⟨[.int], some (.object "java/lang/Integer")⟩ := by decide +kernel
theorem pd__Ljava_lang_Object__V : parseMethodDescriptor "(Ljava/lang/Object;)V" = some ⟨[(.object "java/lang/Object")], none⟩ := by decide +kernel
theorem ef_rm0 (m : MethodId) (p1 : Int32) (p2 : Int32) (p3 : Int32) : entryFrame m #[(.int p1), (.int p2), (.int p3)] maxLocals = mkF m 0 #[.val (.int p1), .val (.int p2), .val (.int p3), .unset, .unset, .unset, .unset, .unset, .unset, .unset, .unset, .unset] [] := by first | (simp [entryFrame, mkF, argsToLocals, Value.category, maxLocals]; done) | rfl
def Q_rm0 (Z : State) (p1 : Int32) (p2 : Int32) (p3 : Int32) (ca : Addr) (r_NONE : Addr) (r_REMOVED : Addr) (r_EXPIRED : Addr) (r_CREATED : Addr) (r_UPDATED : Addr) (h0 : Heap) (n0 : Nat) (v : Option Value) (h : Heap) (L : List Loc) : Prop := v = some (.int (1 : Int32)) ∧ Fr n0 L
set_option maxRecDepth 65536 in
set_option maxHeartbeats 40000000 in
theorem rm0 (l : Launch) (Z : State) (a0 : Array Value) (hw : ∀ d ∈ tables_1, d.before a0 Z = true) (ws : List Jvm.Cond) (p1 : Int32) (p2 : Int32) (p3 : Int32) (ca : Addr) (r_NONE : Addr) (r_REMOVED : Addr) (r_EXPIRED : Addr) (r_CREATED : Addr) (r_UPDATED : Addr) (h0 : Heap) (n0 : Nat) (Z0 : n0 ≤ h0.size) (P0 : Sta Z h0 "java/lang/Integer$IntegerCache" "high" "I" (.int (127 : Int32))) (P1 : Sta Z h0 "java/lang/Integer$IntegerCache" "cache" "[Ljava/lang/Integer;" (.ref ca)) (P2 : own_Cache Z h0 ca "java/lang/Integer") (P3 : Sta Z h0 "com/example/measured_cache/measuredcache/cache/Change" "NONE" "Lcom/example/measured_cache/measuredcache/cache/Change;" (.ref r_NONE)) (P4 : Exa Z h0 r_NONE "com/example/measured_cache/measuredcache/cache/Change") (P5 : Sta Z h0 "com/example/measured_cache/measuredcache/cache/Change" "REMOVED" "Lcom/example/measured_cache/measuredcache/cache/Change;" (.ref r_REMOVED)) (P6 : Exa Z h0 r_REMOVED "com/example/measured_cache/measuredcache/cache/Change") (P7 : Sta Z h0 "com/example/measured_cache/measuredcache/cache/Change" "EXPIRED" "Lcom/example/measured_cache/measuredcache/cache/Change;" (.ref r_EXPIRED)) (P8 : Exa Z h0 r_EXPIRED "com/example/measured_cache/measuredcache/cache/Change") (P9 : Sta Z h0 "com/example/measured_cache/measuredcache/cache/Change" "CREATED" "Lcom/example/measured_cache/measuredcache/cache/Change;" (.ref r_CREATED)) (P10 : Exa Z h0 r_CREATED "com/example/measured_cache/measuredcache/cache/Change") (P11 : Sta Z h0 "com/example/measured_cache/measuredcache/cache/Change" "UPDATED" "Lcom/example/measured_cache/measuredcache/cache/Change;" (.ref r_UPDATED)) (P12 : Exa Z h0 r_UPDATED "com/example/measured_cache/measuredcache/cache/Change") :
    MetFree l x (head1 (Jvm.Cond.code x code maxLocals ret :: ws) room_1) (fun a U => a = #[(.int p1), (.int p2), (.int p3)] ∧ Z.Warmed39 U.vm ∧ U.heap = h0) (fun _ _ _ _ _ => True) (fun _ U o U' => ∃ v L, o = .returned v ∧ Q_rm0 Z p1 p2 p3 ca r_NONE r_REMOVED r_EXPIRED r_CREATED r_UPDATED h0 n0 v U'.heap L ∧ FrameEnd U o U' L room_1.cells room_1.slots) := by
  refine MetFree.of_bodySF (plainFor_of_name pn_com_example_measured_cache_measuredcache_cache_ChangeOfPinLaw) hisR ?_
  intro p e s m args below meth c s₁ Bd hml0 hP hK
  obtain ⟨rfl, hZ, hh⟩ := hP
  have hx := Bd.exec
  have hby := Bd.bytes
  have hml : c.maxLocals = 12 := hml0
  have hown : s.vm.findClass "com/example/measured_cache/measuredcache/cache/ChangeOfPinLaw" = some m.cls := findClass_of_methodNamed Bd.named
  have hnm := (name_of_methodNamed Bd.named Bd.method).1
  have X0 : Stand p l e room_1 s m #[(.int p1), (.int p2), (.int p3)] below meth c s₁ [] 0 0 := Stand.of_body Bd
  have e0 : s₁.heap = h0 := by rw [← hh, Bd.state]; rfl
  have N0 := Fr.nil n0
  refine own_fw (A' := (s₁.setTop (mkF m 0 #[.val (.int p1), .val (.int p2), .val (.int p3), .unset, .unset, .unset, .unset, .unset, .unset, .unset, .unset, .unset] []))) (fun t k => castTop (ef_rm0 m p1 p2 p3) k) ?_
  refine own_fw (A' := (s₁.setTop (mkF m 1 #[.val (.int p1), .val (.int p2), .val (.int p3), .unset, .unset, .unset, .unset, .unset, .unset, .unset, .unset, .unset] [(.int p1)]))) (fun t k => XS.iloadN X0.here hx rfl (hb hby at_0) rfl k) ?_
  refine own_fw (A' := (s₁.setTop (mkF m 2 #[.val (.int p1), .val (.int p2), .val (.int p3), .unset, .unset, .unset, .unset, .unset, .unset, .unset, .unset, .unset] [(.int (1 : Int32)), (.int p1)]))) (fun t k => XS.iconst X0.here hx rfl (hb hby at_1) k) ?_
  refine own_fw (A' := (s₁.setTop (mkF m 3 #[.val (.int p1), .val (.int p2), .val (.int p3), .unset, .unset, .unset, .unset, .unset, .unset, .unset, .unset, .unset] [(.int (p1 &&& (1 : Int32)))]))) (fun t k => XS.iand X0.here hx rfl (hb hby at_2) rfl k) ?_
  by_cases hc1 : (p1 &&& (1 : Int32)) = (0 : Int32)
  · refine own_fw (A' := (s₁.setTop (mkF m 10 #[.val (.int p1), .val (.int p2), .val (.int p3), .unset, .unset, .unset, .unset, .unset, .unset, .unset, .unset, .unset] []))) (fun t k => XS.ifYes X0.here hx rfl (pc0 := 3) (pc' := 10) rfl (hb hby at_3) rfl (XT.i0_eq_t hc1) (by decide) (by decide) k) ?_
    refine own_fw (A' := (s₁.setTop (mkF m 11 #[.val (.int p1), .val (.int p2), .val (.int p3), .unset, .unset, .unset, .unset, .unset, .unset, .unset, .unset, .unset] [(.int (0 : Int32))]))) (fun t k => XS.iconst X0.here hx rfl (hb hby at_10) k) ?_
    refine own_fw (A' := (s₁.setTop (mkF m 12 #[.val (.int p1), .val (.int p2), .val (.int p3), .val (.int (0 : Int32)), .unset, .unset, .unset, .unset, .unset, .unset, .unset, .unset] []))) (fun t k => XS.istoreN X0.here hx rfl (hb hby at_11) rfl (l' := #[.val (.int p1), .val (.int p2), .val (.int p3), .val (.int (0 : Int32)), .unset, .unset, .unset, .unset, .unset, .unset, .unset, .unset]) rfl k) ?_
    refine own_fw (A' := (s₁.setTop (mkF m 13 #[.val (.int p1), .val (.int p2), .val (.int p3), .val (.int (0 : Int32)), .unset, .unset, .unset, .unset, .unset, .unset, .unset, .unset] [(.int p1)]))) (fun t k => XS.iloadN X0.here hx rfl (hb hby at_12) rfl k) ?_
    refine own_fw (A' := (s₁.setTop (mkF m 14 #[.val (.int p1), .val (.int p2), .val (.int p3), .val (.int (0 : Int32)), .unset, .unset, .unset, .unset, .unset, .unset, .unset, .unset] [(.int (4 : Int32)), (.int p1)]))) (fun t k => XS.iconst X0.here hx rfl (hb hby at_13) k) ?_
    refine own_fw (A' := (s₁.setTop (mkF m 15 #[.val (.int p1), .val (.int p2), .val (.int p3), .val (.int (0 : Int32)), .unset, .unset, .unset, .unset, .unset, .unset, .unset, .unset] [(.int (p1 &&& (4 : Int32)))]))) (fun t k => XS.iand X0.here hx rfl (hb hby at_14) rfl k) ?_
    by_cases hc2 : (p1 &&& (4 : Int32)) = (0 : Int32)
    · refine own_fw (A' := (s₁.setTop (mkF m 22 #[.val (.int p1), .val (.int p2), .val (.int p3), .val (.int (0 : Int32)), .unset, .unset, .unset, .unset, .unset, .unset, .unset, .unset] []))) (fun t k => XS.ifYes X0.here hx rfl (pc0 := 15) (pc' := 22) rfl (hb hby at_15) rfl (XT.i0_eq_t hc2) (by decide) (by decide) k) ?_
      refine own_fw (A' := (s₁.setTop (mkF m 23 #[.val (.int p1), .val (.int p2), .val (.int p3), .val (.int (0 : Int32)), .unset, .unset, .unset, .unset, .unset, .unset, .unset, .unset] [(.int (0 : Int32))]))) (fun t k => XS.iconst X0.here hx rfl (hb hby at_22) k) ?_
      refine own_fw (A' := (s₁.setTop (mkF m 25 #[.val (.int p1), .val (.int p2), .val (.int p3), .val (.int (0 : Int32)), .val (.int (0 : Int32)), .unset, .unset, .unset, .unset, .unset, .unset, .unset] []))) (fun t k => XS.istore X0.here hx rfl (hb hby at_23) rfl (l' := #[.val (.int p1), .val (.int p2), .val (.int p3), .val (.int (0 : Int32)), .val (.int (0 : Int32)), .unset, .unset, .unset, .unset, .unset, .unset, .unset]) rfl k) ?_
      refine own_fw (A' := (s₁.setTop (mkF m 26 #[.val (.int p1), .val (.int p2), .val (.int p3), .val (.int (0 : Int32)), .val (.int (0 : Int32)), .unset, .unset, .unset, .unset, .unset, .unset, .unset] [(.int p1)]))) (fun t k => XS.iloadN X0.here hx rfl (hb hby at_25) rfl k) ?_
      refine own_fw (A' := (s₁.setTop (mkF m 27 #[.val (.int p1), .val (.int p2), .val (.int p3), .val (.int (0 : Int32)), .val (.int (0 : Int32)), .unset, .unset, .unset, .unset, .unset, .unset, .unset] [(.int (2 : Int32)), (.int p1)]))) (fun t k => XS.iconst X0.here hx rfl (hb hby at_26) k) ?_
      refine own_fw (A' := (s₁.setTop (mkF m 28 #[.val (.int p1), .val (.int p2), .val (.int p3), .val (.int (0 : Int32)), .val (.int (0 : Int32)), .unset, .unset, .unset, .unset, .unset, .unset, .unset] [(.int (p1 &&& (2 : Int32)))]))) (fun t k => XS.iand X0.here hx rfl (hb hby at_27) rfl k) ?_
      by_cases hc3 : (p1 &&& (2 : Int32)) = (0 : Int32)
      · refine own_fw (A' := (s₁.setTop (mkF m 31 #[.val (.int p1), .val (.int p2), .val (.int p3), .val (.int (0 : Int32)), .val (.int (0 : Int32)), .unset, .unset, .unset, .unset, .unset, .unset, .unset] []))) (fun t k => XS.ifNo X0.here hx rfl (hb hby at_28) rfl (XT.i0_ne_f hc3) k) ?_
        refine own_fw (A' := (s₁.setTop (mkF m 33 #[.val (.int p1), .val (.int p2), .val (.int p3), .val (.int (0 : Int32)), .val (.int (0 : Int32)), .unset, .unset, .unset, .unset, .unset, .unset, .unset] [(.int (0 : Int32))]))) (fun t k => XS.iload X0.here hx rfl (hb hby at_31) rfl k) ?_
        refine own_fw (A' := (s₁.setTop (mkF m 40 #[.val (.int p1), .val (.int p2), .val (.int p3), .val (.int (0 : Int32)), .val (.int (0 : Int32)), .unset, .unset, .unset, .unset, .unset, .unset, .unset] []))) (fun t k => XS.ifYes X0.here hx rfl (pc0 := 33) (pc' := 40) rfl (hb hby at_33) rfl (XT.i0_eq_t rfl) (by decide) (by decide) k) ?_
        refine own_fw (A' := (s₁.setTop (mkF m 41 #[.val (.int p1), .val (.int p2), .val (.int p3), .val (.int (0 : Int32)), .val (.int (0 : Int32)), .unset, .unset, .unset, .unset, .unset, .unset, .unset] [(.int (0 : Int32))]))) (fun t k => XS.iconst X0.here hx rfl (hb hby at_40) k) ?_
        refine own_fw (A' := (s₁.setTop (mkF m 43 #[.val (.int p1), .val (.int p2), .val (.int p3), .val (.int (0 : Int32)), .val (.int (0 : Int32)), .val (.int (0 : Int32)), .unset, .unset, .unset, .unset, .unset, .unset] []))) (fun t k => XS.istore X0.here hx rfl (hb hby at_41) rfl (l' := #[.val (.int p1), .val (.int p2), .val (.int p3), .val (.int (0 : Int32)), .val (.int (0 : Int32)), .val (.int (0 : Int32)), .unset, .unset, .unset, .unset, .unset, .unset]) rfl k) ?_
        refine own_fw (A' := (s₁.setTop (mkF m 45 #[.val (.int p1), .val (.int p2), .val (.int p3), .val (.int (0 : Int32)), .val (.int (0 : Int32)), .val (.int (0 : Int32)), .unset, .unset, .unset, .unset, .unset, .unset] [(.int (0 : Int32))]))) (fun t k => XS.iload X0.here hx rfl (hb hby at_43) rfl k) ?_
        refine own_fw (A' := (s₁.setTop (mkF m 55 #[.val (.int p1), .val (.int p2), .val (.int p3), .val (.int (0 : Int32)), .val (.int (0 : Int32)), .val (.int (0 : Int32)), .unset, .unset, .unset, .unset, .unset, .unset] []))) (fun t k => XS.ifYes X0.here hx rfl (pc0 := 45) (pc' := 55) rfl (hb hby at_45) rfl (XT.i0_eq_t rfl) (by decide) (by decide) k) ?_
        refine own_fw (A' := (s₁.setTop (mkF m 56 #[.val (.int p1), .val (.int p2), .val (.int p3), .val (.int (0 : Int32)), .val (.int (0 : Int32)), .val (.int (0 : Int32)), .unset, .unset, .unset, .unset, .unset, .unset] [.null]))) (fun t k => XS.aconstNull X0.here hx rfl (hb hby at_55) k) ?_
        refine own_fw (A' := (s₁.setTop (mkF m 58 #[.val (.int p1), .val (.int p2), .val (.int p3), .val (.int (0 : Int32)), .val (.int (0 : Int32)), .val (.int (0 : Int32)), .val .null, .unset, .unset, .unset, .unset, .unset] []))) (fun t k => XS.astore X0.here hx rfl (hb hby at_56) rfl rfl (l' := #[.val (.int p1), .val (.int p2), .val (.int p3), .val (.int (0 : Int32)), .val (.int (0 : Int32)), .val (.int (0 : Int32)), .val .null, .unset, .unset, .unset, .unset, .unset]) rfl k) ?_
        refine own_fw (A' := (s₁.setTop (mkF m 59 #[.val (.int p1), .val (.int p2), .val (.int p3), .val (.int (0 : Int32)), .val (.int (0 : Int32)), .val (.int (0 : Int32)), .val .null, .unset, .unset, .unset, .unset, .unset] [(.int (0 : Int32))]))) (fun t k => XS.iloadN X0.here hx rfl (hb hby at_58) rfl k) ?_
        refine own_fw (A' := (s₁.setTop (mkF m 76 #[.val (.int p1), .val (.int p2), .val (.int p3), .val (.int (0 : Int32)), .val (.int (0 : Int32)), .val (.int (0 : Int32)), .val .null, .unset, .unset, .unset, .unset, .unset] []))) (fun t k => XS.ifYes X0.here hx rfl (pc0 := 59) (pc' := 76) rfl (hb hby at_59) rfl (XT.i0_eq_t rfl) (by decide) (by decide) k) ?_
        refine own_fw (A' := (s₁.setTop (mkF m 77 #[.val (.int p1), .val (.int p2), .val (.int p3), .val (.int (0 : Int32)), .val (.int (0 : Int32)), .val (.int (0 : Int32)), .val .null, .unset, .unset, .unset, .unset, .unset] [.null]))) (fun t k => XS.aconstNull X0.here hx rfl (hb hby at_76) k) ?_
        refine own_fw (A' := (s₁.setTop (mkF m 79 #[.val (.int p1), .val (.int p2), .val (.int p3), .val (.int (0 : Int32)), .val (.int (0 : Int32)), .val (.int (0 : Int32)), .val .null, .val .null, .unset, .unset, .unset, .unset] []))) (fun t k => XS.astore X0.here hx rfl (hb hby at_77) rfl rfl (l' := #[.val (.int p1), .val (.int p2), .val (.int p3), .val (.int (0 : Int32)), .val (.int (0 : Int32)), .val (.int (0 : Int32)), .val .null, .val .null, .unset, .unset, .unset, .unset]) rfl k) ?_
        refine own_fw (A' := (s₁.setTop (mkF m 81 #[.val (.int p1), .val (.int p2), .val (.int p3), .val (.int (0 : Int32)), .val (.int (0 : Int32)), .val (.int (0 : Int32)), .val .null, .val .null, .unset, .unset, .unset, .unset] [(.int (0 : Int32))]))) (fun t k => XS.iload X0.here hx rfl (hb hby at_79) rfl k) ?_
        refine own_fw (A' := (s₁.setTop (mkF m 96 #[.val (.int p1), .val (.int p2), .val (.int p3), .val (.int (0 : Int32)), .val (.int (0 : Int32)), .val (.int (0 : Int32)), .val .null, .val .null, .unset, .unset, .unset, .unset] []))) (fun t k => XS.ifYes X0.here hx rfl (pc0 := 81) (pc' := 96) rfl (hb hby at_81) rfl (XT.i0_eq_t rfl) (by decide) (by decide) k) ?_
        refine own_fw (A' := (s₁.setTop (mkF m 97 #[.val (.int p1), .val (.int p2), .val (.int p3), .val (.int (0 : Int32)), .val (.int (0 : Int32)), .val (.int (0 : Int32)), .val .null, .val .null, .unset, .unset, .unset, .unset] [.null]))) (fun t k => XS.aconstNull X0.here hx rfl (hb hby at_96) k) ?_
        refine own_fw (A' := (s₁.setTop (mkF m 99 #[.val (.int p1), .val (.int p2), .val (.int p3), .val (.int (0 : Int32)), .val (.int (0 : Int32)), .val (.int (0 : Int32)), .val .null, .val .null, .val .null, .unset, .unset, .unset] []))) (fun t k => XS.astore X0.here hx rfl (hb hby at_97) rfl rfl (l' := #[.val (.int p1), .val (.int p2), .val (.int p3), .val (.int (0 : Int32)), .val (.int (0 : Int32)), .val (.int (0 : Int32)), .val .null, .val .null, .val .null, .unset, .unset, .unset]) rfl k) ?_
        refine own_fw (A' := (s₁.setTop (mkF m 101 #[.val (.int p1), .val (.int p2), .val (.int p3), .val (.int (0 : Int32)), .val (.int (0 : Int32)), .val (.int (0 : Int32)), .val .null, .val .null, .val .null, .unset, .unset, .unset] [(.int (8 : Int32))]))) (fun t k => XS.bipush X0.here hx rfl (hb hby at_99) k) ?_
        obtain ⟨T4, h4, k4, X4, e4, E4, A4, O4, st4⟩ := newR X0 hx hZ hown (hw _ (List.mem_of_getElem? (i := 0) rfl)) (hw _ (List.mem_of_getElem? (i := 1) rfl)) e0 (g := (mkF m 101 #[.val (.int p1), .val (.int p2), .val (.int p3), .val (.int (0 : Int32)), .val (.int (0 : Int32)), .val (.int (0 : Int32)), .val .null, .val .null, .val .null, .unset, .unset, .unset] [(.int (8 : Int32))])) rfl (hb hby at_101) rfl (by decide) (cap := 8) (by decide) (by decide) (by decide) (by decide)
        obtain ⟨b4, gb4⟩ : ∃ z, z = h0.size := ⟨_, rfl⟩
        have g_b4 : n0 ≤ b4 := Nat.le_trans Z0 (Nat.le_of_eq gb4.symm)
        have sz_b4 : h0.size ≤ b4 := Nat.le_trans (Keep.refl h0 []).1 (Nat.le_of_eq gb4.symm)
        have ne_ca_b4 : ca ≠ b4 := Nat.ne_of_lt (Nat.lt_of_lt_of_le (own_cacheLt P2) (Nat.le_of_eq gb4.symm))
        have ne_r_NONE_b4 : r_NONE ≠ b4 := Nat.ne_of_lt (Nat.lt_of_lt_of_le P4.lt (Nat.le_of_eq gb4.symm))
        have ne_r_REMOVED_b4 : r_REMOVED ≠ b4 := Nat.ne_of_lt (Nat.lt_of_lt_of_le P6.lt (Nat.le_of_eq gb4.symm))
        have ne_r_EXPIRED_b4 : r_EXPIRED ≠ b4 := Nat.ne_of_lt (Nat.lt_of_lt_of_le P8.lt (Nat.le_of_eq gb4.symm))
        have ne_r_CREATED_b4 : r_CREATED ≠ b4 := Nat.ne_of_lt (Nat.lt_of_lt_of_le P10.lt (Nat.le_of_eq gb4.symm))
        have ne_r_UPDATED_b4 : r_UPDATED ≠ b4 := Nat.ne_of_lt (Nat.lt_of_lt_of_le P12.lt (Nat.le_of_eq gb4.symm))
        rw [← gb4] at A4 st4
        have V_b4 : Arv Z h4 b4 k4 (.object "com/example/measured_cache/measuredcache/cache/Change") (8 : Int32) [.null, .null, .null, .null, .null, .null, .null, .null] .null := (Arv.new A4 (by decide)).pad (pad_rep [] .null 8)
        have K4 : Keep h0 h4 [] := (Keep.refl h0 []).ext E4
        have Z4 : n0 ≤ h4.size := Nat.le_trans Z0 E4.1
        refine own_fw (A' := (T4.setTop (mkF m 104 #[.val (.int p1), .val (.int p2), .val (.int p3), .val (.int (0 : Int32)), .val (.int (0 : Int32)), .val (.int (0 : Int32)), .val .null, .val .null, .val .null, .unset, .unset, .unset] [(.ref b4)]))) (fun t k => st4 _ k) ?_
        refine own_fw (A' := (T4.setTop (mkF m 105 #[.val (.int p1), .val (.int p2), .val (.int p3), .val (.int (0 : Int32)), .val (.int (0 : Int32)), .val (.int (0 : Int32)), .val .null, .val .null, .val .null, .unset, .unset, .unset] [(.ref b4), (.ref b4)]))) (fun t k => XS.dup X4.here hx rfl (hb hby at_104) rfl rfl k) ?_
        refine own_fw (A' := (T4.setTop (mkF m 106 #[.val (.int p1), .val (.int p2), .val (.int p3), .val (.int (0 : Int32)), .val (.int (0 : Int32)), .val (.int (0 : Int32)), .val .null, .val .null, .val .null, .unset, .unset, .unset] [(.int (0 : Int32)), (.ref b4), (.ref b4)]))) (fun t k => XS.iconst X4.here hx rfl (hb hby at_105) k) ?_
        obtain ⟨T5, X5, e5, st5⟩ := getS2 X4 hx hZ hown (host := "") (Or.inl (hw _ (List.mem_of_getElem? (i := 2) rfl))) Via.refl e4 (P3.ext E4) (g := (mkF m 106 #[.val (.int p1), .val (.int p2), .val (.int p3), .val (.int (0 : Int32)), .val (.int (0 : Int32)), .val (.int (0 : Int32)), .val .null, .val .null, .val .null, .unset, .unset, .unset] [(.int (0 : Int32)), (.ref b4), (.ref b4)])) rfl (hb hby at_106)
        refine own_fw (A' := (T5.setTop (mkF m 109 #[.val (.int p1), .val (.int p2), .val (.int p3), .val (.int (0 : Int32)), .val (.int (0 : Int32)), .val (.int (0 : Int32)), .val .null, .val .null, .val .null, .unset, .unset, .unset] [(.ref r_NONE), (.int (0 : Int32)), (.ref b4), (.ref b4)]))) (fun t k => st5 _ k) ?_
        obtain ⟨cl6, Ar6, q6, S6, M6, H6, G6⟩ := id V_b4
        have hin6 : ¬ ((0 : Int32) < 0 ∨ cl6.slots.size ≤ ((0 : Int32)).toNatClampNeg) := inb_of S6 ⟨by decide, by decide⟩
        obtain ⟨T6, h6, X6, e6, W6, st6⟩ := stR X5 hx hZ e5 Ar6 (j := (0 : Int32)) hin6 rfl (Sto.ofV Ar6 q6 O4 (Ins.self (P4.ext E4))) (g := (mkF m 109 #[.val (.int p1), .val (.int p2), .val (.int p3), .val (.int (0 : Int32)), .val (.int (0 : Int32)), .val (.int (0 : Int32)), .val .null, .val .null, .val .null, .unset, .unset, .unset] [(.ref r_NONE), (.int (0 : Int32)), (.ref b4), (.ref b4)])) rfl rfl (hb hby at_109)
        have V6 : Arv Z h6 b4 k4 (.object "com/example/measured_cache/measuredcache/cache/Change") (8 : Int32) [(.ref r_NONE), .null, .null, .null, .null, .null, .null, .null] .null := Arv.set Ar6 q6 S6 M6 H6 G6 rfl W6 0 rfl (Nat.le_of_ble_eq_true rfl)
        have Nf6 := Fr.snoc X6 N0 g_b4
        have K6 : Keep h0 h6 [] := K4.wr W6 (Or.inr sz_b4)
        have Z6 : n0 ≤ h6.size := Nat.le_trans Z4 (Keep.of_wr W6).1
        refine own_fw (A' := (T6.setTop (mkF m 110 #[.val (.int p1), .val (.int p2), .val (.int p3), .val (.int (0 : Int32)), .val (.int (0 : Int32)), .val (.int (0 : Int32)), .val .null, .val .null, .val .null, .unset, .unset, .unset] [(.ref b4)]))) (fun t k => st6 _ k) ?_
        refine own_fw (A' := (T6.setTop (mkF m 111 #[.val (.int p1), .val (.int p2), .val (.int p3), .val (.int (0 : Int32)), .val (.int (0 : Int32)), .val (.int (0 : Int32)), .val .null, .val .null, .val .null, .unset, .unset, .unset] [(.ref b4), (.ref b4)]))) (fun t k => XS.dup X6.here hx rfl (hb hby at_110) rfl rfl k) ?_
        refine own_fw (A' := (T6.setTop (mkF m 112 #[.val (.int p1), .val (.int p2), .val (.int p3), .val (.int (0 : Int32)), .val (.int (0 : Int32)), .val (.int (0 : Int32)), .val .null, .val .null, .val .null, .unset, .unset, .unset] [(.int (1 : Int32)), (.ref b4), (.ref b4)]))) (fun t k => XS.iconst X6.here hx rfl (hb hby at_111) k) ?_
        obtain ⟨T7, X7, e7, st7⟩ := getS2 X6 hx hZ hown (host := "") (Or.inl (hw _ (List.mem_of_getElem? (i := 6) rfl))) Via.refl e6 ((P5.ext E4).wr W6) (g := (mkF m 112 #[.val (.int p1), .val (.int p2), .val (.int p3), .val (.int (0 : Int32)), .val (.int (0 : Int32)), .val (.int (0 : Int32)), .val .null, .val .null, .val .null, .unset, .unset, .unset] [(.int (1 : Int32)), (.ref b4), (.ref b4)])) rfl (hb hby at_112)
        refine own_fw (A' := (T7.setTop (mkF m 115 #[.val (.int p1), .val (.int p2), .val (.int p3), .val (.int (0 : Int32)), .val (.int (0 : Int32)), .val (.int (0 : Int32)), .val .null, .val .null, .val .null, .unset, .unset, .unset] [(.ref r_REMOVED), (.int (1 : Int32)), (.ref b4), (.ref b4)]))) (fun t k => st7 _ k) ?_
        obtain ⟨cl8, Ar8, q8, S8, M8, H8, G8⟩ := id V6
        have hin8 : ¬ ((1 : Int32) < 0 ∨ cl8.slots.size ≤ ((1 : Int32)).toNatClampNeg) := inb_of S8 ⟨by decide, by decide⟩
        obtain ⟨T8, h8, X8, e8, W8, st8⟩ := stR X7 hx hZ e7 Ar8 (j := (1 : Int32)) hin8 rfl (Sto.ofV Ar8 q8 O4 (Ins.self ((P6.ext E4).wr W6))) (g := (mkF m 115 #[.val (.int p1), .val (.int p2), .val (.int p3), .val (.int (0 : Int32)), .val (.int (0 : Int32)), .val (.int (0 : Int32)), .val .null, .val .null, .val .null, .unset, .unset, .unset] [(.ref r_REMOVED), (.int (1 : Int32)), (.ref b4), (.ref b4)])) rfl rfl (hb hby at_115)
        have V8 : Arv Z h8 b4 k4 (.object "com/example/measured_cache/measuredcache/cache/Change") (8 : Int32) [(.ref r_NONE), (.ref r_REMOVED), .null, .null, .null, .null, .null, .null] .null := Arv.set Ar8 q8 S8 M8 H8 G8 rfl W8 1 rfl (Nat.le_of_ble_eq_true rfl)
        have Nf8 := Fr.snoc X8 Nf6 g_b4
        have K8 : Keep h0 h8 [] := K6.wr W8 (Or.inr sz_b4)
        have Z8 : n0 ≤ h8.size := Nat.le_trans Z6 (Keep.of_wr W8).1
        refine own_fw (A' := (T8.setTop (mkF m 116 #[.val (.int p1), .val (.int p2), .val (.int p3), .val (.int (0 : Int32)), .val (.int (0 : Int32)), .val (.int (0 : Int32)), .val .null, .val .null, .val .null, .unset, .unset, .unset] [(.ref b4)]))) (fun t k => st8 _ k) ?_
        refine own_fw (A' := (T8.setTop (mkF m 117 #[.val (.int p1), .val (.int p2), .val (.int p3), .val (.int (0 : Int32)), .val (.int (0 : Int32)), .val (.int (0 : Int32)), .val .null, .val .null, .val .null, .unset, .unset, .unset] [(.ref b4), (.ref b4)]))) (fun t k => XS.dup X8.here hx rfl (hb hby at_116) rfl rfl k) ?_
        refine own_fw (A' := (T8.setTop (mkF m 118 #[.val (.int p1), .val (.int p2), .val (.int p3), .val (.int (0 : Int32)), .val (.int (0 : Int32)), .val (.int (0 : Int32)), .val .null, .val .null, .val .null, .unset, .unset, .unset] [(.int (2 : Int32)), (.ref b4), (.ref b4)]))) (fun t k => XS.iconst X8.here hx rfl (hb hby at_117) k) ?_
        obtain ⟨T9, X9, e9, st9⟩ := getS2 X8 hx hZ hown (host := "") (Or.inl (hw _ (List.mem_of_getElem? (i := 2) rfl))) Via.refl e8 (((P3.ext E4).wr W6).wr W8) (g := (mkF m 118 #[.val (.int p1), .val (.int p2), .val (.int p3), .val (.int (0 : Int32)), .val (.int (0 : Int32)), .val (.int (0 : Int32)), .val .null, .val .null, .val .null, .unset, .unset, .unset] [(.int (2 : Int32)), (.ref b4), (.ref b4)])) rfl (hb hby at_118)
        refine own_fw (A' := (T9.setTop (mkF m 121 #[.val (.int p1), .val (.int p2), .val (.int p3), .val (.int (0 : Int32)), .val (.int (0 : Int32)), .val (.int (0 : Int32)), .val .null, .val .null, .val .null, .unset, .unset, .unset] [(.ref r_NONE), (.int (2 : Int32)), (.ref b4), (.ref b4)]))) (fun t k => st9 _ k) ?_
        obtain ⟨cl10, Ar10, q10, S10, M10, H10, G10⟩ := id V8
        have hin10 : ¬ ((2 : Int32) < 0 ∨ cl10.slots.size ≤ ((2 : Int32)).toNatClampNeg) := inb_of S10 ⟨by decide, by decide⟩
        obtain ⟨T10, h10, X10, e10, W10, st10⟩ := stR X9 hx hZ e9 Ar10 (j := (2 : Int32)) hin10 rfl (Sto.ofV Ar10 q10 O4 (Ins.self (((P4.ext E4).wr W6).wr W8))) (g := (mkF m 121 #[.val (.int p1), .val (.int p2), .val (.int p3), .val (.int (0 : Int32)), .val (.int (0 : Int32)), .val (.int (0 : Int32)), .val .null, .val .null, .val .null, .unset, .unset, .unset] [(.ref r_NONE), (.int (2 : Int32)), (.ref b4), (.ref b4)])) rfl rfl (hb hby at_121)
        have V10 : Arv Z h10 b4 k4 (.object "com/example/measured_cache/measuredcache/cache/Change") (8 : Int32) [(.ref r_NONE), (.ref r_REMOVED), (.ref r_NONE), .null, .null, .null, .null, .null] .null := Arv.set Ar10 q10 S10 M10 H10 G10 rfl W10 2 rfl (Nat.le_of_ble_eq_true rfl)
        have Nf10 := Fr.snoc X10 Nf8 g_b4
        have K10 : Keep h0 h10 [] := K8.wr W10 (Or.inr sz_b4)
        have Z10 : n0 ≤ h10.size := Nat.le_trans Z8 (Keep.of_wr W10).1
        refine own_fw (A' := (T10.setTop (mkF m 122 #[.val (.int p1), .val (.int p2), .val (.int p3), .val (.int (0 : Int32)), .val (.int (0 : Int32)), .val (.int (0 : Int32)), .val .null, .val .null, .val .null, .unset, .unset, .unset] [(.ref b4)]))) (fun t k => st10 _ k) ?_
        refine own_fw (A' := (T10.setTop (mkF m 123 #[.val (.int p1), .val (.int p2), .val (.int p3), .val (.int (0 : Int32)), .val (.int (0 : Int32)), .val (.int (0 : Int32)), .val .null, .val .null, .val .null, .unset, .unset, .unset] [(.ref b4), (.ref b4)]))) (fun t k => XS.dup X10.here hx rfl (hb hby at_122) rfl rfl k) ?_
        refine own_fw (A' := (T10.setTop (mkF m 124 #[.val (.int p1), .val (.int p2), .val (.int p3), .val (.int (0 : Int32)), .val (.int (0 : Int32)), .val (.int (0 : Int32)), .val .null, .val .null, .val .null, .unset, .unset, .unset] [(.int (3 : Int32)), (.ref b4), (.ref b4)]))) (fun t k => XS.iconst X10.here hx rfl (hb hby at_123) k) ?_
        obtain ⟨T11, X11, e11, st11⟩ := getS2 X10 hx hZ hown (host := "") (Or.inl (hw _ (List.mem_of_getElem? (i := 8) rfl))) Via.refl e10 ((((P7.ext E4).wr W6).wr W8).wr W10) (g := (mkF m 124 #[.val (.int p1), .val (.int p2), .val (.int p3), .val (.int (0 : Int32)), .val (.int (0 : Int32)), .val (.int (0 : Int32)), .val .null, .val .null, .val .null, .unset, .unset, .unset] [(.int (3 : Int32)), (.ref b4), (.ref b4)])) rfl (hb hby at_124)
        refine own_fw (A' := (T11.setTop (mkF m 127 #[.val (.int p1), .val (.int p2), .val (.int p3), .val (.int (0 : Int32)), .val (.int (0 : Int32)), .val (.int (0 : Int32)), .val .null, .val .null, .val .null, .unset, .unset, .unset] [(.ref r_EXPIRED), (.int (3 : Int32)), (.ref b4), (.ref b4)]))) (fun t k => st11 _ k) ?_
        obtain ⟨cl12, Ar12, q12, S12, M12, H12, G12⟩ := id V10
        have hin12 : ¬ ((3 : Int32) < 0 ∨ cl12.slots.size ≤ ((3 : Int32)).toNatClampNeg) := inb_of S12 ⟨by decide, by decide⟩
        obtain ⟨T12, h12, X12, e12, W12, st12⟩ := stR X11 hx hZ e11 Ar12 (j := (3 : Int32)) hin12 rfl (Sto.ofV Ar12 q12 O4 (Ins.self ((((P8.ext E4).wr W6).wr W8).wr W10))) (g := (mkF m 127 #[.val (.int p1), .val (.int p2), .val (.int p3), .val (.int (0 : Int32)), .val (.int (0 : Int32)), .val (.int (0 : Int32)), .val .null, .val .null, .val .null, .unset, .unset, .unset] [(.ref r_EXPIRED), (.int (3 : Int32)), (.ref b4), (.ref b4)])) rfl rfl (hb hby at_127)
        have V12 : Arv Z h12 b4 k4 (.object "com/example/measured_cache/measuredcache/cache/Change") (8 : Int32) [(.ref r_NONE), (.ref r_REMOVED), (.ref r_NONE), (.ref r_EXPIRED), .null, .null, .null, .null] .null := Arv.set Ar12 q12 S12 M12 H12 G12 rfl W12 3 rfl (Nat.le_of_ble_eq_true rfl)
        have Nf12 := Fr.snoc X12 Nf10 g_b4
        have K12 : Keep h0 h12 [] := K10.wr W12 (Or.inr sz_b4)
        have Z12 : n0 ≤ h12.size := Nat.le_trans Z10 (Keep.of_wr W12).1
        refine own_fw (A' := (T12.setTop (mkF m 128 #[.val (.int p1), .val (.int p2), .val (.int p3), .val (.int (0 : Int32)), .val (.int (0 : Int32)), .val (.int (0 : Int32)), .val .null, .val .null, .val .null, .unset, .unset, .unset] [(.ref b4)]))) (fun t k => st12 _ k) ?_
        refine own_fw (A' := (T12.setTop (mkF m 129 #[.val (.int p1), .val (.int p2), .val (.int p3), .val (.int (0 : Int32)), .val (.int (0 : Int32)), .val (.int (0 : Int32)), .val .null, .val .null, .val .null, .unset, .unset, .unset] [(.ref b4), (.ref b4)]))) (fun t k => XS.dup X12.here hx rfl (hb hby at_128) rfl rfl k) ?_
        refine own_fw (A' := (T12.setTop (mkF m 130 #[.val (.int p1), .val (.int p2), .val (.int p3), .val (.int (0 : Int32)), .val (.int (0 : Int32)), .val (.int (0 : Int32)), .val .null, .val .null, .val .null, .unset, .unset, .unset] [(.int (4 : Int32)), (.ref b4), (.ref b4)]))) (fun t k => XS.iconst X12.here hx rfl (hb hby at_129) k) ?_
        obtain ⟨T13, X13, e13, st13⟩ := getS2 X12 hx hZ hown (host := "") (Or.inl (hw _ (List.mem_of_getElem? (i := 10) rfl))) Via.refl e12 (((((P9.ext E4).wr W6).wr W8).wr W10).wr W12) (g := (mkF m 130 #[.val (.int p1), .val (.int p2), .val (.int p3), .val (.int (0 : Int32)), .val (.int (0 : Int32)), .val (.int (0 : Int32)), .val .null, .val .null, .val .null, .unset, .unset, .unset] [(.int (4 : Int32)), (.ref b4), (.ref b4)])) rfl (hb hby at_130)
        refine own_fw (A' := (T13.setTop (mkF m 133 #[.val (.int p1), .val (.int p2), .val (.int p3), .val (.int (0 : Int32)), .val (.int (0 : Int32)), .val (.int (0 : Int32)), .val .null, .val .null, .val .null, .unset, .unset, .unset] [(.ref r_CREATED), (.int (4 : Int32)), (.ref b4), (.ref b4)]))) (fun t k => st13 _ k) ?_
        obtain ⟨cl14, Ar14, q14, S14, M14, H14, G14⟩ := id V12
        have hin14 : ¬ ((4 : Int32) < 0 ∨ cl14.slots.size ≤ ((4 : Int32)).toNatClampNeg) := inb_of S14 ⟨by decide, by decide⟩
        obtain ⟨T14, h14, X14, e14, W14, st14⟩ := stR X13 hx hZ e13 Ar14 (j := (4 : Int32)) hin14 rfl (Sto.ofV Ar14 q14 O4 (Ins.self (((((P10.ext E4).wr W6).wr W8).wr W10).wr W12))) (g := (mkF m 133 #[.val (.int p1), .val (.int p2), .val (.int p3), .val (.int (0 : Int32)), .val (.int (0 : Int32)), .val (.int (0 : Int32)), .val .null, .val .null, .val .null, .unset, .unset, .unset] [(.ref r_CREATED), (.int (4 : Int32)), (.ref b4), (.ref b4)])) rfl rfl (hb hby at_133)
        have V14 : Arv Z h14 b4 k4 (.object "com/example/measured_cache/measuredcache/cache/Change") (8 : Int32) [(.ref r_NONE), (.ref r_REMOVED), (.ref r_NONE), (.ref r_EXPIRED), (.ref r_CREATED), .null, .null, .null] .null := Arv.set Ar14 q14 S14 M14 H14 G14 rfl W14 4 rfl (Nat.le_of_ble_eq_true rfl)
        have Nf14 := Fr.snoc X14 Nf12 g_b4
        have K14 : Keep h0 h14 [] := K12.wr W14 (Or.inr sz_b4)
        have Z14 : n0 ≤ h14.size := Nat.le_trans Z12 (Keep.of_wr W14).1
        refine own_fw (A' := (T14.setTop (mkF m 134 #[.val (.int p1), .val (.int p2), .val (.int p3), .val (.int (0 : Int32)), .val (.int (0 : Int32)), .val (.int (0 : Int32)), .val .null, .val .null, .val .null, .unset, .unset, .unset] [(.ref b4)]))) (fun t k => st14 _ k) ?_
        refine own_fw (A' := (T14.setTop (mkF m 135 #[.val (.int p1), .val (.int p2), .val (.int p3), .val (.int (0 : Int32)), .val (.int (0 : Int32)), .val (.int (0 : Int32)), .val .null, .val .null, .val .null, .unset, .unset, .unset] [(.ref b4), (.ref b4)]))) (fun t k => XS.dup X14.here hx rfl (hb hby at_134) rfl rfl k) ?_
        refine own_fw (A' := (T14.setTop (mkF m 136 #[.val (.int p1), .val (.int p2), .val (.int p3), .val (.int (0 : Int32)), .val (.int (0 : Int32)), .val (.int (0 : Int32)), .val .null, .val .null, .val .null, .unset, .unset, .unset] [(.int (5 : Int32)), (.ref b4), (.ref b4)]))) (fun t k => XS.iconst X14.here hx rfl (hb hby at_135) k) ?_
        obtain ⟨T15, X15, e15, st15⟩ := getS2 X14 hx hZ hown (host := "") (Or.inl (hw _ (List.mem_of_getElem? (i := 12) rfl))) Via.refl e14 ((((((P11.ext E4).wr W6).wr W8).wr W10).wr W12).wr W14) (g := (mkF m 136 #[.val (.int p1), .val (.int p2), .val (.int p3), .val (.int (0 : Int32)), .val (.int (0 : Int32)), .val (.int (0 : Int32)), .val .null, .val .null, .val .null, .unset, .unset, .unset] [(.int (5 : Int32)), (.ref b4), (.ref b4)])) rfl (hb hby at_136)
        refine own_fw (A' := (T15.setTop (mkF m 139 #[.val (.int p1), .val (.int p2), .val (.int p3), .val (.int (0 : Int32)), .val (.int (0 : Int32)), .val (.int (0 : Int32)), .val .null, .val .null, .val .null, .unset, .unset, .unset] [(.ref r_UPDATED), (.int (5 : Int32)), (.ref b4), (.ref b4)]))) (fun t k => st15 _ k) ?_
        obtain ⟨cl16, Ar16, q16, S16, M16, H16, G16⟩ := id V14
        have hin16 : ¬ ((5 : Int32) < 0 ∨ cl16.slots.size ≤ ((5 : Int32)).toNatClampNeg) := inb_of S16 ⟨by decide, by decide⟩
        obtain ⟨T16, h16, X16, e16, W16, st16⟩ := stR X15 hx hZ e15 Ar16 (j := (5 : Int32)) hin16 rfl (Sto.ofV Ar16 q16 O4 (Ins.self ((((((P12.ext E4).wr W6).wr W8).wr W10).wr W12).wr W14))) (g := (mkF m 139 #[.val (.int p1), .val (.int p2), .val (.int p3), .val (.int (0 : Int32)), .val (.int (0 : Int32)), .val (.int (0 : Int32)), .val .null, .val .null, .val .null, .unset, .unset, .unset] [(.ref r_UPDATED), (.int (5 : Int32)), (.ref b4), (.ref b4)])) rfl rfl (hb hby at_139)
        have V16 : Arv Z h16 b4 k4 (.object "com/example/measured_cache/measuredcache/cache/Change") (8 : Int32) [(.ref r_NONE), (.ref r_REMOVED), (.ref r_NONE), (.ref r_EXPIRED), (.ref r_CREATED), (.ref r_UPDATED), .null, .null] .null := Arv.set Ar16 q16 S16 M16 H16 G16 rfl W16 5 rfl (Nat.le_of_ble_eq_true rfl)
        have Nf16 := Fr.snoc X16 Nf14 g_b4
        have K16 : Keep h0 h16 [] := K14.wr W16 (Or.inr sz_b4)
        have Z16 : n0 ≤ h16.size := Nat.le_trans Z14 (Keep.of_wr W16).1
        refine own_fw (A' := (T16.setTop (mkF m 140 #[.val (.int p1), .val (.int p2), .val (.int p3), .val (.int (0 : Int32)), .val (.int (0 : Int32)), .val (.int (0 : Int32)), .val .null, .val .null, .val .null, .unset, .unset, .unset] [(.ref b4)]))) (fun t k => st16 _ k) ?_
        refine own_fw (A' := (T16.setTop (mkF m 141 #[.val (.int p1), .val (.int p2), .val (.int p3), .val (.int (0 : Int32)), .val (.int (0 : Int32)), .val (.int (0 : Int32)), .val .null, .val .null, .val .null, .unset, .unset, .unset] [(.ref b4), (.ref b4)]))) (fun t k => XS.dup X16.here hx rfl (hb hby at_140) rfl rfl k) ?_
        refine own_fw (A' := (T16.setTop (mkF m 143 #[.val (.int p1), .val (.int p2), .val (.int p3), .val (.int (0 : Int32)), .val (.int (0 : Int32)), .val (.int (0 : Int32)), .val .null, .val .null, .val .null, .unset, .unset, .unset] [(.int (6 : Int32)), (.ref b4), (.ref b4)]))) (fun t k => XS.bipush X16.here hx rfl (hb hby at_141) k) ?_
        obtain ⟨T17, X17, e17, st17⟩ := getS2 X16 hx hZ hown (host := "") (Or.inl (hw _ (List.mem_of_getElem? (i := 10) rfl))) Via.refl e16 (((((((P9.ext E4).wr W6).wr W8).wr W10).wr W12).wr W14).wr W16) (g := (mkF m 143 #[.val (.int p1), .val (.int p2), .val (.int p3), .val (.int (0 : Int32)), .val (.int (0 : Int32)), .val (.int (0 : Int32)), .val .null, .val .null, .val .null, .unset, .unset, .unset] [(.int (6 : Int32)), (.ref b4), (.ref b4)])) rfl (hb hby at_143)
        refine own_fw (A' := (T17.setTop (mkF m 146 #[.val (.int p1), .val (.int p2), .val (.int p3), .val (.int (0 : Int32)), .val (.int (0 : Int32)), .val (.int (0 : Int32)), .val .null, .val .null, .val .null, .unset, .unset, .unset] [(.ref r_CREATED), (.int (6 : Int32)), (.ref b4), (.ref b4)]))) (fun t k => st17 _ k) ?_
        obtain ⟨cl18, Ar18, q18, S18, M18, H18, G18⟩ := id V16
        have hin18 : ¬ ((6 : Int32) < 0 ∨ cl18.slots.size ≤ ((6 : Int32)).toNatClampNeg) := inb_of S18 ⟨by decide, by decide⟩
        obtain ⟨T18, h18, X18, e18, W18, st18⟩ := stR X17 hx hZ e17 Ar18 (j := (6 : Int32)) hin18 rfl (Sto.ofV Ar18 q18 O4 (Ins.self (((((((P10.ext E4).wr W6).wr W8).wr W10).wr W12).wr W14).wr W16))) (g := (mkF m 146 #[.val (.int p1), .val (.int p2), .val (.int p3), .val (.int (0 : Int32)), .val (.int (0 : Int32)), .val (.int (0 : Int32)), .val .null, .val .null, .val .null, .unset, .unset, .unset] [(.ref r_CREATED), (.int (6 : Int32)), (.ref b4), (.ref b4)])) rfl rfl (hb hby at_146)
        have V18 : Arv Z h18 b4 k4 (.object "com/example/measured_cache/measuredcache/cache/Change") (8 : Int32) [(.ref r_NONE), (.ref r_REMOVED), (.ref r_NONE), (.ref r_EXPIRED), (.ref r_CREATED), (.ref r_UPDATED), (.ref r_CREATED), .null] .null := Arv.set Ar18 q18 S18 M18 H18 G18 rfl W18 6 rfl (Nat.le_of_ble_eq_true rfl)
        have Nf18 := Fr.snoc X18 Nf16 g_b4
        have K18 : Keep h0 h18 [] := K16.wr W18 (Or.inr sz_b4)
        have Z18 : n0 ≤ h18.size := Nat.le_trans Z16 (Keep.of_wr W18).1
        refine own_fw (A' := (T18.setTop (mkF m 147 #[.val (.int p1), .val (.int p2), .val (.int p3), .val (.int (0 : Int32)), .val (.int (0 : Int32)), .val (.int (0 : Int32)), .val .null, .val .null, .val .null, .unset, .unset, .unset] [(.ref b4)]))) (fun t k => st18 _ k) ?_
        refine own_fw (A' := (T18.setTop (mkF m 148 #[.val (.int p1), .val (.int p2), .val (.int p3), .val (.int (0 : Int32)), .val (.int (0 : Int32)), .val (.int (0 : Int32)), .val .null, .val .null, .val .null, .unset, .unset, .unset] [(.ref b4), (.ref b4)]))) (fun t k => XS.dup X18.here hx rfl (hb hby at_147) rfl rfl k) ?_
        refine own_fw (A' := (T18.setTop (mkF m 150 #[.val (.int p1), .val (.int p2), .val (.int p3), .val (.int (0 : Int32)), .val (.int (0 : Int32)), .val (.int (0 : Int32)), .val .null, .val .null, .val .null, .unset, .unset, .unset] [(.int (7 : Int32)), (.ref b4), (.ref b4)]))) (fun t k => XS.bipush X18.here hx rfl (hb hby at_148) k) ?_
        obtain ⟨T19, X19, e19, st19⟩ := getS2 X18 hx hZ hown (host := "") (Or.inl (hw _ (List.mem_of_getElem? (i := 12) rfl))) Via.refl e18 ((((((((P11.ext E4).wr W6).wr W8).wr W10).wr W12).wr W14).wr W16).wr W18) (g := (mkF m 150 #[.val (.int p1), .val (.int p2), .val (.int p3), .val (.int (0 : Int32)), .val (.int (0 : Int32)), .val (.int (0 : Int32)), .val .null, .val .null, .val .null, .unset, .unset, .unset] [(.int (7 : Int32)), (.ref b4), (.ref b4)])) rfl (hb hby at_150)
        refine own_fw (A' := (T19.setTop (mkF m 153 #[.val (.int p1), .val (.int p2), .val (.int p3), .val (.int (0 : Int32)), .val (.int (0 : Int32)), .val (.int (0 : Int32)), .val .null, .val .null, .val .null, .unset, .unset, .unset] [(.ref r_UPDATED), (.int (7 : Int32)), (.ref b4), (.ref b4)]))) (fun t k => st19 _ k) ?_
        obtain ⟨cl20, Ar20, q20, S20, M20, H20, G20⟩ := id V18
        have hin20 : ¬ ((7 : Int32) < 0 ∨ cl20.slots.size ≤ ((7 : Int32)).toNatClampNeg) := inb_of S20 ⟨by decide, by decide⟩
        obtain ⟨T20, h20, X20, e20, W20, st20⟩ := stR X19 hx hZ e19 Ar20 (j := (7 : Int32)) hin20 rfl (Sto.ofV Ar20 q20 O4 (Ins.self ((((((((P12.ext E4).wr W6).wr W8).wr W10).wr W12).wr W14).wr W16).wr W18))) (g := (mkF m 153 #[.val (.int p1), .val (.int p2), .val (.int p3), .val (.int (0 : Int32)), .val (.int (0 : Int32)), .val (.int (0 : Int32)), .val .null, .val .null, .val .null, .unset, .unset, .unset] [(.ref r_UPDATED), (.int (7 : Int32)), (.ref b4), (.ref b4)])) rfl rfl (hb hby at_153)
        have V20 : Arv Z h20 b4 k4 (.object "com/example/measured_cache/measuredcache/cache/Change") (8 : Int32) [(.ref r_NONE), (.ref r_REMOVED), (.ref r_NONE), (.ref r_EXPIRED), (.ref r_CREATED), (.ref r_UPDATED), (.ref r_CREATED), (.ref r_UPDATED)] .null := Arv.set Ar20 q20 S20 M20 H20 G20 rfl W20 7 rfl (Nat.le_of_ble_eq_true rfl)
        have Nf20 := Fr.snoc X20 Nf18 g_b4
        have K20 : Keep h0 h20 [] := K18.wr W20 (Or.inr sz_b4)
        have Z20 : n0 ≤ h20.size := Nat.le_trans Z18 (Keep.of_wr W20).1
        refine own_fw (A' := (T20.setTop (mkF m 154 #[.val (.int p1), .val (.int p2), .val (.int p3), .val (.int (0 : Int32)), .val (.int (0 : Int32)), .val (.int (0 : Int32)), .val .null, .val .null, .val .null, .unset, .unset, .unset] [(.ref b4)]))) (fun t k => st20 _ k) ?_
        refine own_fw (A' := (T20.setTop (mkF m 156 #[.val (.int p1), .val (.int p2), .val (.int p3), .val (.int (0 : Int32)), .val (.int (0 : Int32)), .val (.int (0 : Int32)), .val .null, .val .null, .val .null, .val (.ref b4), .unset, .unset] []))) (fun t k => XS.astore X20.here hx rfl (hb hby at_154) rfl rfl (l' := #[.val (.int p1), .val (.int p2), .val (.int p3), .val (.int (0 : Int32)), .val (.int (0 : Int32)), .val (.int (0 : Int32)), .val .null, .val .null, .val .null, .val (.ref b4), .unset, .unset]) rfl k) ?_
        refine own_fw (A' := (T20.setTop (mkF m 158 #[.val (.int p1), .val (.int p2), .val (.int p3), .val (.int (0 : Int32)), .val (.int (0 : Int32)), .val (.int (0 : Int32)), .val .null, .val .null, .val .null, .val (.ref b4), .unset, .unset] [(.ref b4)]))) (fun t k => XS.aload X20.here hx rfl (hb hby at_156) rfl rfl k) ?_
        refine own_fw (A' := (T20.setTop (mkF m 159 #[.val (.int p1), .val (.int p2), .val (.int p3), .val (.int (0 : Int32)), .val (.int (0 : Int32)), .val (.int (0 : Int32)), .val .null, .val .null, .val .null, .val (.ref b4), .unset, .unset] [(.int p1), (.ref b4)]))) (fun t k => XS.iloadN X20.here hx rfl (hb hby at_158) rfl k) ?_
        refine own_fw (A' := (T20.setTop (mkF m 161 #[.val (.int p1), .val (.int p2), .val (.int p3), .val (.int (0 : Int32)), .val (.int (0 : Int32)), .val (.int (0 : Int32)), .val .null, .val .null, .val .null, .val (.ref b4), .unset, .unset] [(.int (7 : Int32)), (.int p1), (.ref b4)]))) (fun t k => XS.bipush X20.here hx rfl (hb hby at_159) k) ?_
        refine own_fw (A' := (T20.setTop (mkF m 162 #[.val (.int p1), .val (.int p2), .val (.int p3), .val (.int (0 : Int32)), .val (.int (0 : Int32)), .val (.int (0 : Int32)), .val .null, .val .null, .val .null, .val (.ref b4), .unset, .unset] [(.int (p1 &&& (7 : Int32))), (.ref b4)]))) (fun t k => XS.iand X20.here hx rfl (hb hby at_161) rfl k) ?_
        rw [own_ix p1 (0 : Int32) true true true (decide_eq_true hc1) (decide_eq_true hc2) (decide_eq_true hc3) (by decide)]
        obtain ⟨cl21, Ar21, q21, S21, M21, H21, G21⟩ := id V20
        have hin21 : ¬ ((0 : Int32) < 0 ∨ cl21.slots.size ≤ ((0 : Int32)).toNatClampNeg) := inb_of S21 ⟨by decide, by decide⟩
        have hat21 : cl21.slots[((0 : Int32)).toNatClampNeg]? = some (.ref r_NONE) := H21.at hin21 rfl
        refine own_fw (A' := (T20.setTop (mkF m 163 #[.val (.int p1), .val (.int p2), .val (.int p3), .val (.int (0 : Int32)), .val (.int (0 : Int32)), .val (.int (0 : Int32)), .val .null, .val .null, .val .null, .val (.ref b4), .unset, .unset] [(.ref r_NONE)]))) (fun t k => X20.aaload hx (j := (0 : Int32)) (v := (.ref r_NONE)) (by rw [e20]; exact Ar21.1) (State.isArrayOf_alike hZ.alike Ar21.2.1) rfl Ar21.2.2 hin21 hat21 (g := (mkF m 162 #[.val (.int p1), .val (.int p2), .val (.int p3), .val (.int (0 : Int32)), .val (.int (0 : Int32)), .val (.int (0 : Int32)), .val .null, .val .null, .val .null, .val (.ref b4), .unset, .unset] [(.int (0 : Int32)), (.ref b4)])) rfl rfl (hb hby at_162) _ k) ?_
        refine own_fw (A' := (T20.setTop (mkF m 165 #[.val (.int p1), .val (.int p2), .val (.int p3), .val (.int (0 : Int32)), .val (.int (0 : Int32)), .val (.int (0 : Int32)), .val .null, .val .null, .val .null, .val (.ref b4), .val (.ref r_NONE), .unset] []))) (fun t k => XS.astore X20.here hx rfl (hb hby at_163) rfl rfl (l' := #[.val (.int p1), .val (.int p2), .val (.int p3), .val (.int (0 : Int32)), .val (.int (0 : Int32)), .val (.int (0 : Int32)), .val .null, .val .null, .val .null, .val (.ref b4), .val (.ref r_NONE), .unset]) rfl k) ?_
        refine own_fw (A' := (T20.setTop (mkF m 167 #[.val (.int p1), .val (.int p2), .val (.int p3), .val (.int (0 : Int32)), .val (.int (0 : Int32)), .val (.int (0 : Int32)), .val .null, .val .null, .val .null, .val (.ref b4), .val (.ref r_NONE), .unset] [.null]))) (fun t k => XS.aload X20.here hx rfl (hb hby at_165) rfl rfl k) ?_
        refine own_fw (A' := (T20.setTop (mkF m 169 #[.val (.int p1), .val (.int p2), .val (.int p3), .val (.int (0 : Int32)), .val (.int (0 : Int32)), .val (.int (0 : Int32)), .val .null, .val .null, .val .null, .val (.ref b4), .val (.ref r_NONE), .unset] [.null, .null]))) (fun t k => XS.aload X20.here hx rfl (hb hby at_167) rfl rfl k) ?_
        refine own_fw (A' := (T20.setTop (mkF m 171 #[.val (.int p1), .val (.int p2), .val (.int p3), .val (.int (0 : Int32)), .val (.int (0 : Int32)), .val (.int (0 : Int32)), .val .null, .val .null, .val .null, .val (.ref b4), .val (.ref r_NONE), .unset] [.null, .null, .null]))) (fun t k => XS.aload X20.here hx rfl (hb hby at_169) rfl rfl k) ?_
        obtain ⟨_, _, ⟨T22, L22, k22, n22⟩, -, X22, ⟨Lc22, hQ22, l22, y22, z22⟩, st22⟩ := Jvm.LawKit.callS X20 hx (y := (⟨"com/example/measured_cache/measuredcache/cache/Change", "of", "(Lcom/example/measured_cache/measuredcache/cache/EntryVersion;Ljava/lang/Object;Lcom/example/measured_cache/measuredcache/cache/EntryVersion;)Lcom/example/measured_cache/measuredcache/cache/Change;"⟩ : MethodName)) hown (mvT hZ (hw _ (List.mem_of_getElem? (i := 14) rfl))) (mvT hZ (hw _ (List.mem_of_getElem? (i := 15) rfl))) (mvT hZ (hw _ (List.mem_of_getElem? (i := 3) rfl))) (mvT hZ (hw _ (List.mem_of_getElem? (i := 16) rfl))) (by decide) (backOf (W := 0) (rmOf111 l Z a0 hw [] r_NONE h20 n0 Z20 (((((((((P3.ext E4).wr W6).wr W8).wr W10).wr W12).wr W14).wr W16).wr W18).wr W20)) hZ (hw _ (List.mem_of_getElem? (i := 16) rfl)) (hw _ (List.mem_of_getElem? (i := 3) rfl)) (by decide) (by decide)) (g := (mkF m 171 #[.val (.int p1), .val (.int p2), .val (.int p3), .val (.int (0 : Int32)), .val (.int (0 : Int32)), .val (.int (0 : Int32)), .val .null, .val .null, .val .null, .val (.ref b4), .val (.ref r_NONE), .unset] [.null, .null, .null])) rfl (by rw [hml]; rfl) (argsL := [.null, .null, .null]) (rest := []) (lenOf pd__Lcom_example_measured_cache_measuredcache_cache_EntryVersion_Ljava_lang_Object_Lcom_example_measured_cache_measuredcache_cache_EntryVersion__Lcom_example_measured_cache_measuredcache_cache_Change_ rfl) rfl (by show 2 * 0 + _ ≤ _; exact Nat.le_of_eq rfl) (hb hby at_171) (fun _ _ => ⟨rfl, e20, (by decide : 1 + 0 ≤ _), (by decide : 8 + 0 ≤ _)⟩)
        dsimp only [Pt.U, Pt.locs, Pt.cells, Pt.slots] at X22 l22 y22 z22 st22 hQ22
        subst l22 y22 z22
        obtain ⟨rfl, Nq22, e22⟩ := hQ22
        have Nf22 := Fr.app Nf20 Nq22
        refine own_fw (A' := (T22.setTop (mkF m 174 #[.val (.int p1), .val (.int p2), .val (.int p3), .val (.int (0 : Int32)), .val (.int (0 : Int32)), .val (.int (0 : Int32)), .val .null, .val .null, .val .null, .val (.ref b4), .val (.ref r_NONE), .unset] [(.ref r_NONE)]))) (fun t k => st22 _ k) ?_
        refine own_fw (A' := (T22.setTop (mkF m 176 #[.val (.int p1), .val (.int p2), .val (.int p3), .val (.int (0 : Int32)), .val (.int (0 : Int32)), .val (.int (0 : Int32)), .val .null, .val .null, .val .null, .val (.ref b4), .val (.ref r_NONE), .val (.ref r_NONE)] []))) (fun t k => XS.astore X22.here hx rfl (hb hby at_174) rfl rfl (l' := #[.val (.int p1), .val (.int p2), .val (.int p3), .val (.int (0 : Int32)), .val (.int (0 : Int32)), .val (.int (0 : Int32)), .val .null, .val .null, .val .null, .val (.ref b4), .val (.ref r_NONE), .val (.ref r_NONE)]) rfl k) ?_
        refine own_fw (A' := (T22.setTop (mkF m 178 #[.val (.int p1), .val (.int p2), .val (.int p3), .val (.int (0 : Int32)), .val (.int (0 : Int32)), .val (.int (0 : Int32)), .val .null, .val .null, .val .null, .val (.ref b4), .val (.ref r_NONE), .val (.ref r_NONE)] [(.ref r_NONE)]))) (fun t k => XS.aload X22.here hx rfl (hb hby at_176) rfl rfl k) ?_
        refine own_fw (A' := (T22.setTop (mkF m 180 #[.val (.int p1), .val (.int p2), .val (.int p3), .val (.int (0 : Int32)), .val (.int (0 : Int32)), .val (.int (0 : Int32)), .val .null, .val .null, .val .null, .val (.ref b4), .val (.ref r_NONE), .val (.ref r_NONE)] [(.ref r_NONE), (.ref r_NONE)]))) (fun t k => XS.aload X22.here hx rfl (hb hby at_178) rfl rfl k) ?_
        refine own_fw (A' := (T22.setTop (mkF m 183 #[.val (.int p1), .val (.int p2), .val (.int p3), .val (.int (0 : Int32)), .val (.int (0 : Int32)), .val (.int (0 : Int32)), .val .null, .val .null, .val .null, .val (.ref b4), .val (.ref r_NONE), .val (.ref r_NONE)] []))) (fun t k => Jvm.RoadKit.acmp (g := (mkF m 180 #[.val (.int p1), .val (.int p2), .val (.int p3), .val (.int (0 : Int32)), .val (.int (0 : Int32)), .val (.int (0 : Int32)), .val .null, .val .null, .val .null, .val (.ref b4), .val (.ref r_NONE), .val (.ref r_NONE)] [(.ref r_NONE), (.ref r_NONE)])) X22 hx rfl rfl rfl (pc0 := 180) (pc' := 183) (same := true) rfl (hb hby at_180) rfl (decide_eq_true rfl) (by decide) (by decide) k) ?_
        refine own_fw (A' := (T22.setTop (mkF m 184 #[.val (.int p1), .val (.int p2), .val (.int p3), .val (.int (0 : Int32)), .val (.int (0 : Int32)), .val (.int (0 : Int32)), .val .null, .val .null, .val .null, .val (.ref b4), .val (.ref r_NONE), .val (.ref r_NONE)] [(.int (1 : Int32))]))) (fun t k => XS.iconst X22.here hx rfl (hb hby at_183) k) ?_
        refine own_fw (A' := (T22.setTop (mkF m 188 #[.val (.int p1), .val (.int p2), .val (.int p3), .val (.int (0 : Int32)), .val (.int (0 : Int32)), .val (.int (0 : Int32)), .val .null, .val .null, .val .null, .val (.ref b4), .val (.ref r_NONE), .val (.ref r_NONE)] [(.int (1 : Int32))]))) (fun t k => XS.goto X22.here hx rfl (pc0 := 184) (pc' := 188) rfl (hb hby at_184) (by decide) (by decide) k) ?_
        obtain ⟨fs, hr, hrun, hended, hW, hsame⟩ := X22.leave (v := some (.int (1 : Int32))) (fun h => by rw [Bd.returns] at h; cases h)
        refine ⟨_, _, ?_, hrun, hended, _, _, rfl, ?_, ⟨_, rfl⟩, hW, hsame.mono (by decide) (by decide)⟩
        · exact retOut X22 hx Bd.returns rfl (Or.inl ⟨rfl, by simp, _, rfl⟩) (hb hby at_188) hr
        · show Q_rm0 Z p1 p2 p3 ca r_NONE r_REMOVED r_EXPIRED r_CREATED r_UPDATED h0 n0 _ T22.heap _
          rw [e22]
          exact ⟨rfl, Nf22⟩
      · refine own_fw (A' := (s₁.setTop (mkF m 36 #[.val (.int p1), .val (.int p2), .val (.int p3), .val (.int (0 : Int32)), .val (.int (0 : Int32)), .unset, .unset, .unset, .unset, .unset, .unset, .unset] []))) (fun t k => XS.ifYes X0.here hx rfl (pc0 := 28) (pc' := 36) rfl (hb hby at_28) rfl (XT.i0_ne_t hc3) (by decide) (by decide) k) ?_
        refine own_fw (A' := (s₁.setTop (mkF m 37 #[.val (.int p1), .val (.int p2), .val (.int p3), .val (.int (0 : Int32)), .val (.int (0 : Int32)), .unset, .unset, .unset, .unset, .unset, .unset, .unset] [(.int (1 : Int32))]))) (fun t k => XS.iconst X0.here hx rfl (hb hby at_36) k) ?_
        refine own_fw (A' := (s₁.setTop (mkF m 41 #[.val (.int p1), .val (.int p2), .val (.int p3), .val (.int (0 : Int32)), .val (.int (0 : Int32)), .unset, .unset, .unset, .unset, .unset, .unset, .unset] [(.int (1 : Int32))]))) (fun t k => XS.goto X0.here hx rfl (pc0 := 37) (pc' := 41) rfl (hb hby at_37) (by decide) (by decide) k) ?_
        refine own_fw (A' := (s₁.setTop (mkF m 43 #[.val (.int p1), .val (.int p2), .val (.int p3), .val (.int (0 : Int32)), .val (.int (0 : Int32)), .val (.int (1 : Int32)), .unset, .unset, .unset, .unset, .unset, .unset] []))) (fun t k => XS.istore X0.here hx rfl (hb hby at_41) rfl (l' := #[.val (.int p1), .val (.int p2), .val (.int p3), .val (.int (0 : Int32)), .val (.int (0 : Int32)), .val (.int (1 : Int32)), .unset, .unset, .unset, .unset, .unset, .unset]) rfl k) ?_
        refine own_fw (A' := (s₁.setTop (mkF m 45 #[.val (.int p1), .val (.int p2), .val (.int p3), .val (.int (0 : Int32)), .val (.int (0 : Int32)), .val (.int (1 : Int32)), .unset, .unset, .unset, .unset, .unset, .unset] [(.int (1 : Int32))]))) (fun t k => XS.iload X0.here hx rfl (hb hby at_43) rfl k) ?_
        refine own_fw (A' := (s₁.setTop (mkF m 48 #[.val (.int p1), .val (.int p2), .val (.int p3), .val (.int (0 : Int32)), .val (.int (0 : Int32)), .val (.int (1 : Int32)), .unset, .unset, .unset, .unset, .unset, .unset] []))) (fun t k => XS.ifNo X0.here hx rfl (hb hby at_45) rfl (XT.i0_eq_f (by decide)) k) ?_
        refine own_fw (A' := (s₁.setTop (mkF m 49 #[.val (.int p1), .val (.int p2), .val (.int p3), .val (.int (0 : Int32)), .val (.int (0 : Int32)), .val (.int (1 : Int32)), .unset, .unset, .unset, .unset, .unset, .unset] [(.int p3)]))) (fun t k => XS.iloadN X0.here hx rfl (hb hby at_48) rfl k) ?_
        obtain ⟨_, _, ⟨T23, L23, k23, n23⟩, -, X23, ⟨Lc23, hQ23, l23, y23, z23⟩, st23⟩ := Jvm.LawKit.callS X0 hx (y := (⟨"java/lang/Integer", "valueOf", "(I)Ljava/lang/Integer;"⟩ : MethodName)) hown (mvT hZ (hw _ (List.mem_of_getElem? (i := 21) rfl))) (mvT hZ (hw _ (List.mem_of_getElem? (i := 22) rfl))) (mvT hZ (hw _ (List.mem_of_getElem? (i := 23) rfl))) (mvT hZ (hw _ (List.mem_of_getElem? (i := 24) rfl))) (by decide) (backOf (W := 0) (rmIntOf l Z a0 hw [] p3 ca h0 n0 Z0 P0 P1 P2) hZ (hw _ (List.mem_of_getElem? (i := 24) rfl)) (hw _ (List.mem_of_getElem? (i := 23) rfl)) (by decide) (by decide)) (g := (mkF m 49 #[.val (.int p1), .val (.int p2), .val (.int p3), .val (.int (0 : Int32)), .val (.int (0 : Int32)), .val (.int (1 : Int32)), .unset, .unset, .unset, .unset, .unset, .unset] [(.int p3)])) rfl (by rw [hml]; rfl) (argsL := [(.int p3)]) (rest := []) (lenOf pd__I_Ljava_lang_Integer_ rfl) rfl (by show 2 * 0 + _ ≤ _; exact Nat.le_of_eq rfl) (hb hby at_49) (fun _ _ => ⟨rfl, e0, (by decide : 0 + 1 ≤ _), (by decide : 0 + 1 ≤ _)⟩)
        dsimp only [Pt.U, Pt.locs, Pt.cells, Pt.slots] at X23 l23 y23 z23 st23 hQ23
        subst l23 y23 z23
        obtain ⟨b_23, rfl, Nq23, Kq23, Fq23_0⟩ := hQ23
        have Nf23 := Fr.app N0 Nq23
        have K23 : Keep h0 T23.heap [] := (Keep.refl h0 []).trans Kq23 all0
        have Z23 : n0 ≤ T23.heap.size := Nat.le_trans Z0 Kq23.1
        refine own_fw (A' := (T23.setTop (mkF m 52 #[.val (.int p1), .val (.int p2), .val (.int p3), .val (.int (0 : Int32)), .val (.int (0 : Int32)), .val (.int (1 : Int32)), .unset, .unset, .unset, .unset, .unset, .unset] [(.ref b_23)]))) (fun t k => st23 _ k) ?_
        refine own_fw (A' := (T23.setTop (mkF m 56 #[.val (.int p1), .val (.int p2), .val (.int p3), .val (.int (0 : Int32)), .val (.int (0 : Int32)), .val (.int (1 : Int32)), .unset, .unset, .unset, .unset, .unset, .unset] [(.ref b_23)]))) (fun t k => XS.goto X23.here hx rfl (pc0 := 52) (pc' := 56) rfl (hb hby at_52) (by decide) (by decide) k) ?_
        refine own_fw (A' := (T23.setTop (mkF m 58 #[.val (.int p1), .val (.int p2), .val (.int p3), .val (.int (0 : Int32)), .val (.int (0 : Int32)), .val (.int (1 : Int32)), .val (.ref b_23), .unset, .unset, .unset, .unset, .unset] []))) (fun t k => XS.astore X23.here hx rfl (hb hby at_56) rfl rfl (l' := #[.val (.int p1), .val (.int p2), .val (.int p3), .val (.int (0 : Int32)), .val (.int (0 : Int32)), .val (.int (1 : Int32)), .val (.ref b_23), .unset, .unset, .unset, .unset, .unset]) rfl k) ?_
        refine own_fw (A' := (T23.setTop (mkF m 59 #[.val (.int p1), .val (.int p2), .val (.int p3), .val (.int (0 : Int32)), .val (.int (0 : Int32)), .val (.int (1 : Int32)), .val (.ref b_23), .unset, .unset, .unset, .unset, .unset] [(.int (0 : Int32))]))) (fun t k => XS.iloadN X23.here hx rfl (hb hby at_58) rfl k) ?_
        refine own_fw (A' := (T23.setTop (mkF m 76 #[.val (.int p1), .val (.int p2), .val (.int p3), .val (.int (0 : Int32)), .val (.int (0 : Int32)), .val (.int (1 : Int32)), .val (.ref b_23), .unset, .unset, .unset, .unset, .unset] []))) (fun t k => XS.ifYes X23.here hx rfl (pc0 := 59) (pc' := 76) rfl (hb hby at_59) rfl (XT.i0_eq_t rfl) (by decide) (by decide) k) ?_
        refine own_fw (A' := (T23.setTop (mkF m 77 #[.val (.int p1), .val (.int p2), .val (.int p3), .val (.int (0 : Int32)), .val (.int (0 : Int32)), .val (.int (1 : Int32)), .val (.ref b_23), .unset, .unset, .unset, .unset, .unset] [.null]))) (fun t k => XS.aconstNull X23.here hx rfl (hb hby at_76) k) ?_
        refine own_fw (A' := (T23.setTop (mkF m 79 #[.val (.int p1), .val (.int p2), .val (.int p3), .val (.int (0 : Int32)), .val (.int (0 : Int32)), .val (.int (1 : Int32)), .val (.ref b_23), .val .null, .unset, .unset, .unset, .unset] []))) (fun t k => XS.astore X23.here hx rfl (hb hby at_77) rfl rfl (l' := #[.val (.int p1), .val (.int p2), .val (.int p3), .val (.int (0 : Int32)), .val (.int (0 : Int32)), .val (.int (1 : Int32)), .val (.ref b_23), .val .null, .unset, .unset, .unset, .unset]) rfl k) ?_
        refine own_fw (A' := (T23.setTop (mkF m 81 #[.val (.int p1), .val (.int p2), .val (.int p3), .val (.int (0 : Int32)), .val (.int (0 : Int32)), .val (.int (1 : Int32)), .val (.ref b_23), .val .null, .unset, .unset, .unset, .unset] [(.int (0 : Int32))]))) (fun t k => XS.iload X23.here hx rfl (hb hby at_79) rfl k) ?_
        refine own_fw (A' := (T23.setTop (mkF m 96 #[.val (.int p1), .val (.int p2), .val (.int p3), .val (.int (0 : Int32)), .val (.int (0 : Int32)), .val (.int (1 : Int32)), .val (.ref b_23), .val .null, .unset, .unset, .unset, .unset] []))) (fun t k => XS.ifYes X23.here hx rfl (pc0 := 81) (pc' := 96) rfl (hb hby at_81) rfl (XT.i0_eq_t rfl) (by decide) (by decide) k) ?_
        refine own_fw (A' := (T23.setTop (mkF m 97 #[.val (.int p1), .val (.int p2), .val (.int p3), .val (.int (0 : Int32)), .val (.int (0 : Int32)), .val (.int (1 : Int32)), .val (.ref b_23), .val .null, .unset, .unset, .unset, .unset] [.null]))) (fun t k => XS.aconstNull X23.here hx rfl (hb hby at_96) k) ?_
        refine own_fw (A' := (T23.setTop (mkF m 99 #[.val (.int p1), .val (.int p2), .val (.int p3), .val (.int (0 : Int32)), .val (.int (0 : Int32)), .val (.int (1 : Int32)), .val (.ref b_23), .val .null, .val .null, .unset, .unset, .unset] []))) (fun t k => XS.astore X23.here hx rfl (hb hby at_97) rfl rfl (l' := #[.val (.int p1), .val (.int p2), .val (.int p3), .val (.int (0 : Int32)), .val (.int (0 : Int32)), .val (.int (1 : Int32)), .val (.ref b_23), .val .null, .val .null, .unset, .unset, .unset]) rfl k) ?_
        refine own_fw (A' := (T23.setTop (mkF m 101 #[.val (.int p1), .val (.int p2), .val (.int p3), .val (.int (0 : Int32)), .val (.int (0 : Int32)), .val (.int (1 : Int32)), .val (.ref b_23), .val .null, .val .null, .unset, .unset, .unset] [(.int (8 : Int32))]))) (fun t k => XS.bipush X23.here hx rfl (hb hby at_99) k) ?_
        obtain ⟨T24, h24, k24, X24, e24, E24, A24, O24, st24⟩ := newR X23 hx hZ hown (hw _ (List.mem_of_getElem? (i := 0) rfl)) (hw _ (List.mem_of_getElem? (i := 1) rfl)) rfl (g := (mkF m 101 #[.val (.int p1), .val (.int p2), .val (.int p3), .val (.int (0 : Int32)), .val (.int (0 : Int32)), .val (.int (1 : Int32)), .val (.ref b_23), .val .null, .val .null, .unset, .unset, .unset] [(.int (8 : Int32))])) rfl (hb hby at_101) rfl (by decide) (cap := 8) (by decide) (by decide) (by decide) (by decide)
        obtain ⟨b24, gb24⟩ : ∃ z, z = T23.heap.size := ⟨_, rfl⟩
        have g_b24 : n0 ≤ b24 := Nat.le_trans Z23 (Nat.le_of_eq gb24.symm)
        have sz_b24 : h0.size ≤ b24 := Nat.le_trans K23.1 (Nat.le_of_eq gb24.symm)
        have ne_ca_b24 : ca ≠ b24 := Nat.ne_of_lt (Nat.lt_of_lt_of_le (own_cacheLt (own_cacheKeep P2 Kq23 nin0)) (Nat.le_of_eq gb24.symm))
        have ne_r_NONE_b24 : r_NONE ≠ b24 := Nat.ne_of_lt (Nat.lt_of_lt_of_le (P4.keep Kq23).lt (Nat.le_of_eq gb24.symm))
        have ne_r_REMOVED_b24 : r_REMOVED ≠ b24 := Nat.ne_of_lt (Nat.lt_of_lt_of_le (P6.keep Kq23).lt (Nat.le_of_eq gb24.symm))
        have ne_r_EXPIRED_b24 : r_EXPIRED ≠ b24 := Nat.ne_of_lt (Nat.lt_of_lt_of_le (P8.keep Kq23).lt (Nat.le_of_eq gb24.symm))
        have ne_r_CREATED_b24 : r_CREATED ≠ b24 := Nat.ne_of_lt (Nat.lt_of_lt_of_le (P10.keep Kq23).lt (Nat.le_of_eq gb24.symm))
        have ne_r_UPDATED_b24 : r_UPDATED ≠ b24 := Nat.ne_of_lt (Nat.lt_of_lt_of_le (P12.keep Kq23).lt (Nat.le_of_eq gb24.symm))
        have ne_b_23_b24 : b_23 ≠ b24 := Nat.ne_of_lt (Nat.lt_of_lt_of_le Fq23_0.lt (Nat.le_of_eq gb24.symm))
        rw [← gb24] at A24 st24
        have V_b24 : Arv Z h24 b24 k24 (.object "com/example/measured_cache/measuredcache/cache/Change") (8 : Int32) [.null, .null, .null, .null, .null, .null, .null, .null] .null := (Arv.new A24 (by decide)).pad (pad_rep [] .null 8)
        have K24 : Keep h0 h24 [] := K23.ext E24
        have Z24 : n0 ≤ h24.size := Nat.le_trans Z23 E24.1
        refine own_fw (A' := (T24.setTop (mkF m 104 #[.val (.int p1), .val (.int p2), .val (.int p3), .val (.int (0 : Int32)), .val (.int (0 : Int32)), .val (.int (1 : Int32)), .val (.ref b_23), .val .null, .val .null, .unset, .unset, .unset] [(.ref b24)]))) (fun t k => st24 _ k) ?_
        refine own_fw (A' := (T24.setTop (mkF m 105 #[.val (.int p1), .val (.int p2), .val (.int p3), .val (.int (0 : Int32)), .val (.int (0 : Int32)), .val (.int (1 : Int32)), .val (.ref b_23), .val .null, .val .null, .unset, .unset, .unset] [(.ref b24), (.ref b24)]))) (fun t k => XS.dup X24.here hx rfl (hb hby at_104) rfl rfl k) ?_
        refine own_fw (A' := (T24.setTop (mkF m 106 #[.val (.int p1), .val (.int p2), .val (.int p3), .val (.int (0 : Int32)), .val (.int (0 : Int32)), .val (.int (1 : Int32)), .val (.ref b_23), .val .null, .val .null, .unset, .unset, .unset] [(.int (0 : Int32)), (.ref b24), (.ref b24)]))) (fun t k => XS.iconst X24.here hx rfl (hb hby at_105) k) ?_
        obtain ⟨T25, X25, e25, st25⟩ := getS2 X24 hx hZ hown (host := "") (Or.inl (hw _ (List.mem_of_getElem? (i := 2) rfl))) Via.refl e24 ((own_staKeep P3 Kq23 all0).ext E24) (g := (mkF m 106 #[.val (.int p1), .val (.int p2), .val (.int p3), .val (.int (0 : Int32)), .val (.int (0 : Int32)), .val (.int (1 : Int32)), .val (.ref b_23), .val .null, .val .null, .unset, .unset, .unset] [(.int (0 : Int32)), (.ref b24), (.ref b24)])) rfl (hb hby at_106)
        refine own_fw (A' := (T25.setTop (mkF m 109 #[.val (.int p1), .val (.int p2), .val (.int p3), .val (.int (0 : Int32)), .val (.int (0 : Int32)), .val (.int (1 : Int32)), .val (.ref b_23), .val .null, .val .null, .unset, .unset, .unset] [(.ref r_NONE), (.int (0 : Int32)), (.ref b24), (.ref b24)]))) (fun t k => st25 _ k) ?_
        obtain ⟨cl26, Ar26, q26, S26, M26, H26, G26⟩ := id V_b24
        have hin26 : ¬ ((0 : Int32) < 0 ∨ cl26.slots.size ≤ ((0 : Int32)).toNatClampNeg) := inb_of S26 ⟨by decide, by decide⟩
        obtain ⟨T26, h26, X26, e26, W26, st26⟩ := stR X25 hx hZ e25 Ar26 (j := (0 : Int32)) hin26 rfl (Sto.ofV Ar26 q26 O24 (Ins.self ((P4.keep Kq23).ext E24))) (g := (mkF m 109 #[.val (.int p1), .val (.int p2), .val (.int p3), .val (.int (0 : Int32)), .val (.int (0 : Int32)), .val (.int (1 : Int32)), .val (.ref b_23), .val .null, .val .null, .unset, .unset, .unset] [(.ref r_NONE), (.int (0 : Int32)), (.ref b24), (.ref b24)])) rfl rfl (hb hby at_109)
        have V26 : Arv Z h26 b24 k24 (.object "com/example/measured_cache/measuredcache/cache/Change") (8 : Int32) [(.ref r_NONE), .null, .null, .null, .null, .null, .null, .null] .null := Arv.set Ar26 q26 S26 M26 H26 G26 rfl W26 0 rfl (Nat.le_of_ble_eq_true rfl)
        have Nf26 := Fr.snoc X26 Nf23 g_b24
        have K26 : Keep h0 h26 [] := K24.wr W26 (Or.inr sz_b24)
        have Z26 : n0 ≤ h26.size := Nat.le_trans Z24 (Keep.of_wr W26).1
        refine own_fw (A' := (T26.setTop (mkF m 110 #[.val (.int p1), .val (.int p2), .val (.int p3), .val (.int (0 : Int32)), .val (.int (0 : Int32)), .val (.int (1 : Int32)), .val (.ref b_23), .val .null, .val .null, .unset, .unset, .unset] [(.ref b24)]))) (fun t k => st26 _ k) ?_
        refine own_fw (A' := (T26.setTop (mkF m 111 #[.val (.int p1), .val (.int p2), .val (.int p3), .val (.int (0 : Int32)), .val (.int (0 : Int32)), .val (.int (1 : Int32)), .val (.ref b_23), .val .null, .val .null, .unset, .unset, .unset] [(.ref b24), (.ref b24)]))) (fun t k => XS.dup X26.here hx rfl (hb hby at_110) rfl rfl k) ?_
        refine own_fw (A' := (T26.setTop (mkF m 112 #[.val (.int p1), .val (.int p2), .val (.int p3), .val (.int (0 : Int32)), .val (.int (0 : Int32)), .val (.int (1 : Int32)), .val (.ref b_23), .val .null, .val .null, .unset, .unset, .unset] [(.int (1 : Int32)), (.ref b24), (.ref b24)]))) (fun t k => XS.iconst X26.here hx rfl (hb hby at_111) k) ?_
        obtain ⟨T27, X27, e27, st27⟩ := getS2 X26 hx hZ hown (host := "") (Or.inl (hw _ (List.mem_of_getElem? (i := 6) rfl))) Via.refl e26 (((own_staKeep P5 Kq23 all0).ext E24).wr W26) (g := (mkF m 112 #[.val (.int p1), .val (.int p2), .val (.int p3), .val (.int (0 : Int32)), .val (.int (0 : Int32)), .val (.int (1 : Int32)), .val (.ref b_23), .val .null, .val .null, .unset, .unset, .unset] [(.int (1 : Int32)), (.ref b24), (.ref b24)])) rfl (hb hby at_112)
        refine own_fw (A' := (T27.setTop (mkF m 115 #[.val (.int p1), .val (.int p2), .val (.int p3), .val (.int (0 : Int32)), .val (.int (0 : Int32)), .val (.int (1 : Int32)), .val (.ref b_23), .val .null, .val .null, .unset, .unset, .unset] [(.ref r_REMOVED), (.int (1 : Int32)), (.ref b24), (.ref b24)]))) (fun t k => st27 _ k) ?_
        obtain ⟨cl28, Ar28, q28, S28, M28, H28, G28⟩ := id V26
        have hin28 : ¬ ((1 : Int32) < 0 ∨ cl28.slots.size ≤ ((1 : Int32)).toNatClampNeg) := inb_of S28 ⟨by decide, by decide⟩
        obtain ⟨T28, h28, X28, e28, W28, st28⟩ := stR X27 hx hZ e27 Ar28 (j := (1 : Int32)) hin28 rfl (Sto.ofV Ar28 q28 O24 (Ins.self (((P6.keep Kq23).ext E24).wr W26))) (g := (mkF m 115 #[.val (.int p1), .val (.int p2), .val (.int p3), .val (.int (0 : Int32)), .val (.int (0 : Int32)), .val (.int (1 : Int32)), .val (.ref b_23), .val .null, .val .null, .unset, .unset, .unset] [(.ref r_REMOVED), (.int (1 : Int32)), (.ref b24), (.ref b24)])) rfl rfl (hb hby at_115)
        have V28 : Arv Z h28 b24 k24 (.object "com/example/measured_cache/measuredcache/cache/Change") (8 : Int32) [(.ref r_NONE), (.ref r_REMOVED), .null, .null, .null, .null, .null, .null] .null := Arv.set Ar28 q28 S28 M28 H28 G28 rfl W28 1 rfl (Nat.le_of_ble_eq_true rfl)
        have Nf28 := Fr.snoc X28 Nf26 g_b24
        have K28 : Keep h0 h28 [] := K26.wr W28 (Or.inr sz_b24)
        have Z28 : n0 ≤ h28.size := Nat.le_trans Z26 (Keep.of_wr W28).1
        refine own_fw (A' := (T28.setTop (mkF m 116 #[.val (.int p1), .val (.int p2), .val (.int p3), .val (.int (0 : Int32)), .val (.int (0 : Int32)), .val (.int (1 : Int32)), .val (.ref b_23), .val .null, .val .null, .unset, .unset, .unset] [(.ref b24)]))) (fun t k => st28 _ k) ?_
        refine own_fw (A' := (T28.setTop (mkF m 117 #[.val (.int p1), .val (.int p2), .val (.int p3), .val (.int (0 : Int32)), .val (.int (0 : Int32)), .val (.int (1 : Int32)), .val (.ref b_23), .val .null, .val .null, .unset, .unset, .unset] [(.ref b24), (.ref b24)]))) (fun t k => XS.dup X28.here hx rfl (hb hby at_116) rfl rfl k) ?_
        refine own_fw (A' := (T28.setTop (mkF m 118 #[.val (.int p1), .val (.int p2), .val (.int p3), .val (.int (0 : Int32)), .val (.int (0 : Int32)), .val (.int (1 : Int32)), .val (.ref b_23), .val .null, .val .null, .unset, .unset, .unset] [(.int (2 : Int32)), (.ref b24), (.ref b24)]))) (fun t k => XS.iconst X28.here hx rfl (hb hby at_117) k) ?_
        obtain ⟨T29, X29, e29, st29⟩ := getS2 X28 hx hZ hown (host := "") (Or.inl (hw _ (List.mem_of_getElem? (i := 2) rfl))) Via.refl e28 ((((own_staKeep P3 Kq23 all0).ext E24).wr W26).wr W28) (g := (mkF m 118 #[.val (.int p1), .val (.int p2), .val (.int p3), .val (.int (0 : Int32)), .val (.int (0 : Int32)), .val (.int (1 : Int32)), .val (.ref b_23), .val .null, .val .null, .unset, .unset, .unset] [(.int (2 : Int32)), (.ref b24), (.ref b24)])) rfl (hb hby at_118)
        refine own_fw (A' := (T29.setTop (mkF m 121 #[.val (.int p1), .val (.int p2), .val (.int p3), .val (.int (0 : Int32)), .val (.int (0 : Int32)), .val (.int (1 : Int32)), .val (.ref b_23), .val .null, .val .null, .unset, .unset, .unset] [(.ref r_NONE), (.int (2 : Int32)), (.ref b24), (.ref b24)]))) (fun t k => st29 _ k) ?_
        obtain ⟨cl30, Ar30, q30, S30, M30, H30, G30⟩ := id V28
        have hin30 : ¬ ((2 : Int32) < 0 ∨ cl30.slots.size ≤ ((2 : Int32)).toNatClampNeg) := inb_of S30 ⟨by decide, by decide⟩
        obtain ⟨T30, h30, X30, e30, W30, st30⟩ := stR X29 hx hZ e29 Ar30 (j := (2 : Int32)) hin30 rfl (Sto.ofV Ar30 q30 O24 (Ins.self ((((P4.keep Kq23).ext E24).wr W26).wr W28))) (g := (mkF m 121 #[.val (.int p1), .val (.int p2), .val (.int p3), .val (.int (0 : Int32)), .val (.int (0 : Int32)), .val (.int (1 : Int32)), .val (.ref b_23), .val .null, .val .null, .unset, .unset, .unset] [(.ref r_NONE), (.int (2 : Int32)), (.ref b24), (.ref b24)])) rfl rfl (hb hby at_121)
        have V30 : Arv Z h30 b24 k24 (.object "com/example/measured_cache/measuredcache/cache/Change") (8 : Int32) [(.ref r_NONE), (.ref r_REMOVED), (.ref r_NONE), .null, .null, .null, .null, .null] .null := Arv.set Ar30 q30 S30 M30 H30 G30 rfl W30 2 rfl (Nat.le_of_ble_eq_true rfl)
        have Nf30 := Fr.snoc X30 Nf28 g_b24
        have K30 : Keep h0 h30 [] := K28.wr W30 (Or.inr sz_b24)
        have Z30 : n0 ≤ h30.size := Nat.le_trans Z28 (Keep.of_wr W30).1
        refine own_fw (A' := (T30.setTop (mkF m 122 #[.val (.int p1), .val (.int p2), .val (.int p3), .val (.int (0 : Int32)), .val (.int (0 : Int32)), .val (.int (1 : Int32)), .val (.ref b_23), .val .null, .val .null, .unset, .unset, .unset] [(.ref b24)]))) (fun t k => st30 _ k) ?_
        refine own_fw (A' := (T30.setTop (mkF m 123 #[.val (.int p1), .val (.int p2), .val (.int p3), .val (.int (0 : Int32)), .val (.int (0 : Int32)), .val (.int (1 : Int32)), .val (.ref b_23), .val .null, .val .null, .unset, .unset, .unset] [(.ref b24), (.ref b24)]))) (fun t k => XS.dup X30.here hx rfl (hb hby at_122) rfl rfl k) ?_
        refine own_fw (A' := (T30.setTop (mkF m 124 #[.val (.int p1), .val (.int p2), .val (.int p3), .val (.int (0 : Int32)), .val (.int (0 : Int32)), .val (.int (1 : Int32)), .val (.ref b_23), .val .null, .val .null, .unset, .unset, .unset] [(.int (3 : Int32)), (.ref b24), (.ref b24)]))) (fun t k => XS.iconst X30.here hx rfl (hb hby at_123) k) ?_
        obtain ⟨T31, X31, e31, st31⟩ := getS2 X30 hx hZ hown (host := "") (Or.inl (hw _ (List.mem_of_getElem? (i := 8) rfl))) Via.refl e30 (((((own_staKeep P7 Kq23 all0).ext E24).wr W26).wr W28).wr W30) (g := (mkF m 124 #[.val (.int p1), .val (.int p2), .val (.int p3), .val (.int (0 : Int32)), .val (.int (0 : Int32)), .val (.int (1 : Int32)), .val (.ref b_23), .val .null, .val .null, .unset, .unset, .unset] [(.int (3 : Int32)), (.ref b24), (.ref b24)])) rfl (hb hby at_124)
        refine own_fw (A' := (T31.setTop (mkF m 127 #[.val (.int p1), .val (.int p2), .val (.int p3), .val (.int (0 : Int32)), .val (.int (0 : Int32)), .val (.int (1 : Int32)), .val (.ref b_23), .val .null, .val .null, .unset, .unset, .unset] [(.ref r_EXPIRED), (.int (3 : Int32)), (.ref b24), (.ref b24)]))) (fun t k => st31 _ k) ?_
        obtain ⟨cl32, Ar32, q32, S32, M32, H32, G32⟩ := id V30
        have hin32 : ¬ ((3 : Int32) < 0 ∨ cl32.slots.size ≤ ((3 : Int32)).toNatClampNeg) := inb_of S32 ⟨by decide, by decide⟩
        obtain ⟨T32, h32, X32, e32, W32, st32⟩ := stR X31 hx hZ e31 Ar32 (j := (3 : Int32)) hin32 rfl (Sto.ofV Ar32 q32 O24 (Ins.self (((((P8.keep Kq23).ext E24).wr W26).wr W28).wr W30))) (g := (mkF m 127 #[.val (.int p1), .val (.int p2), .val (.int p3), .val (.int (0 : Int32)), .val (.int (0 : Int32)), .val (.int (1 : Int32)), .val (.ref b_23), .val .null, .val .null, .unset, .unset, .unset] [(.ref r_EXPIRED), (.int (3 : Int32)), (.ref b24), (.ref b24)])) rfl rfl (hb hby at_127)
        have V32 : Arv Z h32 b24 k24 (.object "com/example/measured_cache/measuredcache/cache/Change") (8 : Int32) [(.ref r_NONE), (.ref r_REMOVED), (.ref r_NONE), (.ref r_EXPIRED), .null, .null, .null, .null] .null := Arv.set Ar32 q32 S32 M32 H32 G32 rfl W32 3 rfl (Nat.le_of_ble_eq_true rfl)
        have Nf32 := Fr.snoc X32 Nf30 g_b24
        have K32 : Keep h0 h32 [] := K30.wr W32 (Or.inr sz_b24)
        have Z32 : n0 ≤ h32.size := Nat.le_trans Z30 (Keep.of_wr W32).1
        refine own_fw (A' := (T32.setTop (mkF m 128 #[.val (.int p1), .val (.int p2), .val (.int p3), .val (.int (0 : Int32)), .val (.int (0 : Int32)), .val (.int (1 : Int32)), .val (.ref b_23), .val .null, .val .null, .unset, .unset, .unset] [(.ref b24)]))) (fun t k => st32 _ k) ?_
        refine own_fw (A' := (T32.setTop (mkF m 129 #[.val (.int p1), .val (.int p2), .val (.int p3), .val (.int (0 : Int32)), .val (.int (0 : Int32)), .val (.int (1 : Int32)), .val (.ref b_23), .val .null, .val .null, .unset, .unset, .unset] [(.ref b24), (.ref b24)]))) (fun t k => XS.dup X32.here hx rfl (hb hby at_128) rfl rfl k) ?_
        refine own_fw (A' := (T32.setTop (mkF m 130 #[.val (.int p1), .val (.int p2), .val (.int p3), .val (.int (0 : Int32)), .val (.int (0 : Int32)), .val (.int (1 : Int32)), .val (.ref b_23), .val .null, .val .null, .unset, .unset, .unset] [(.int (4 : Int32)), (.ref b24), (.ref b24)]))) (fun t k => XS.iconst X32.here hx rfl (hb hby at_129) k) ?_
        obtain ⟨T33, X33, e33, st33⟩ := getS2 X32 hx hZ hown (host := "") (Or.inl (hw _ (List.mem_of_getElem? (i := 10) rfl))) Via.refl e32 ((((((own_staKeep P9 Kq23 all0).ext E24).wr W26).wr W28).wr W30).wr W32) (g := (mkF m 130 #[.val (.int p1), .val (.int p2), .val (.int p3), .val (.int (0 : Int32)), .val (.int (0 : Int32)), .val (.int (1 : Int32)), .val (.ref b_23), .val .null, .val .null, .unset, .unset, .unset] [(.int (4 : Int32)), (.ref b24), (.ref b24)])) rfl (hb hby at_130)
        refine own_fw (A' := (T33.setTop (mkF m 133 #[.val (.int p1), .val (.int p2), .val (.int p3), .val (.int (0 : Int32)), .val (.int (0 : Int32)), .val (.int (1 : Int32)), .val (.ref b_23), .val .null, .val .null, .unset, .unset, .unset] [(.ref r_CREATED), (.int (4 : Int32)), (.ref b24), (.ref b24)]))) (fun t k => st33 _ k) ?_
        obtain ⟨cl34, Ar34, q34, S34, M34, H34, G34⟩ := id V32
        have hin34 : ¬ ((4 : Int32) < 0 ∨ cl34.slots.size ≤ ((4 : Int32)).toNatClampNeg) := inb_of S34 ⟨by decide, by decide⟩
        obtain ⟨T34, h34, X34, e34, W34, st34⟩ := stR X33 hx hZ e33 Ar34 (j := (4 : Int32)) hin34 rfl (Sto.ofV Ar34 q34 O24 (Ins.self ((((((P10.keep Kq23).ext E24).wr W26).wr W28).wr W30).wr W32))) (g := (mkF m 133 #[.val (.int p1), .val (.int p2), .val (.int p3), .val (.int (0 : Int32)), .val (.int (0 : Int32)), .val (.int (1 : Int32)), .val (.ref b_23), .val .null, .val .null, .unset, .unset, .unset] [(.ref r_CREATED), (.int (4 : Int32)), (.ref b24), (.ref b24)])) rfl rfl (hb hby at_133)
        have V34 : Arv Z h34 b24 k24 (.object "com/example/measured_cache/measuredcache/cache/Change") (8 : Int32) [(.ref r_NONE), (.ref r_REMOVED), (.ref r_NONE), (.ref r_EXPIRED), (.ref r_CREATED), .null, .null, .null] .null := Arv.set Ar34 q34 S34 M34 H34 G34 rfl W34 4 rfl (Nat.le_of_ble_eq_true rfl)
        have Nf34 := Fr.snoc X34 Nf32 g_b24
        have K34 : Keep h0 h34 [] := K32.wr W34 (Or.inr sz_b24)
        have Z34 : n0 ≤ h34.size := Nat.le_trans Z32 (Keep.of_wr W34).1
        refine own_fw (A' := (T34.setTop (mkF m 134 #[.val (.int p1), .val (.int p2), .val (.int p3), .val (.int (0 : Int32)), .val (.int (0 : Int32)), .val (.int (1 : Int32)), .val (.ref b_23), .val .null, .val .null, .unset, .unset, .unset] [(.ref b24)]))) (fun t k => st34 _ k) ?_
        refine own_fw (A' := (T34.setTop (mkF m 135 #[.val (.int p1), .val (.int p2), .val (.int p3), .val (.int (0 : Int32)), .val (.int (0 : Int32)), .val (.int (1 : Int32)), .val (.ref b_23), .val .null, .val .null, .unset, .unset, .unset] [(.ref b24), (.ref b24)]))) (fun t k => XS.dup X34.here hx rfl (hb hby at_134) rfl rfl k) ?_
        refine own_fw (A' := (T34.setTop (mkF m 136 #[.val (.int p1), .val (.int p2), .val (.int p3), .val (.int (0 : Int32)), .val (.int (0 : Int32)), .val (.int (1 : Int32)), .val (.ref b_23), .val .null, .val .null, .unset, .unset, .unset] [(.int (5 : Int32)), (.ref b24), (.ref b24)]))) (fun t k => XS.iconst X34.here hx rfl (hb hby at_135) k) ?_
        obtain ⟨T35, X35, e35, st35⟩ := getS2 X34 hx hZ hown (host := "") (Or.inl (hw _ (List.mem_of_getElem? (i := 12) rfl))) Via.refl e34 (((((((own_staKeep P11 Kq23 all0).ext E24).wr W26).wr W28).wr W30).wr W32).wr W34) (g := (mkF m 136 #[.val (.int p1), .val (.int p2), .val (.int p3), .val (.int (0 : Int32)), .val (.int (0 : Int32)), .val (.int (1 : Int32)), .val (.ref b_23), .val .null, .val .null, .unset, .unset, .unset] [(.int (5 : Int32)), (.ref b24), (.ref b24)])) rfl (hb hby at_136)
        refine own_fw (A' := (T35.setTop (mkF m 139 #[.val (.int p1), .val (.int p2), .val (.int p3), .val (.int (0 : Int32)), .val (.int (0 : Int32)), .val (.int (1 : Int32)), .val (.ref b_23), .val .null, .val .null, .unset, .unset, .unset] [(.ref r_UPDATED), (.int (5 : Int32)), (.ref b24), (.ref b24)]))) (fun t k => st35 _ k) ?_
        obtain ⟨cl36, Ar36, q36, S36, M36, H36, G36⟩ := id V34
        have hin36 : ¬ ((5 : Int32) < 0 ∨ cl36.slots.size ≤ ((5 : Int32)).toNatClampNeg) := inb_of S36 ⟨by decide, by decide⟩
        obtain ⟨T36, h36, X36, e36, W36, st36⟩ := stR X35 hx hZ e35 Ar36 (j := (5 : Int32)) hin36 rfl (Sto.ofV Ar36 q36 O24 (Ins.self (((((((P12.keep Kq23).ext E24).wr W26).wr W28).wr W30).wr W32).wr W34))) (g := (mkF m 139 #[.val (.int p1), .val (.int p2), .val (.int p3), .val (.int (0 : Int32)), .val (.int (0 : Int32)), .val (.int (1 : Int32)), .val (.ref b_23), .val .null, .val .null, .unset, .unset, .unset] [(.ref r_UPDATED), (.int (5 : Int32)), (.ref b24), (.ref b24)])) rfl rfl (hb hby at_139)
        have V36 : Arv Z h36 b24 k24 (.object "com/example/measured_cache/measuredcache/cache/Change") (8 : Int32) [(.ref r_NONE), (.ref r_REMOVED), (.ref r_NONE), (.ref r_EXPIRED), (.ref r_CREATED), (.ref r_UPDATED), .null, .null] .null := Arv.set Ar36 q36 S36 M36 H36 G36 rfl W36 5 rfl (Nat.le_of_ble_eq_true rfl)
        have Nf36 := Fr.snoc X36 Nf34 g_b24
        have K36 : Keep h0 h36 [] := K34.wr W36 (Or.inr sz_b24)
        have Z36 : n0 ≤ h36.size := Nat.le_trans Z34 (Keep.of_wr W36).1
        refine own_fw (A' := (T36.setTop (mkF m 140 #[.val (.int p1), .val (.int p2), .val (.int p3), .val (.int (0 : Int32)), .val (.int (0 : Int32)), .val (.int (1 : Int32)), .val (.ref b_23), .val .null, .val .null, .unset, .unset, .unset] [(.ref b24)]))) (fun t k => st36 _ k) ?_
        refine own_fw (A' := (T36.setTop (mkF m 141 #[.val (.int p1), .val (.int p2), .val (.int p3), .val (.int (0 : Int32)), .val (.int (0 : Int32)), .val (.int (1 : Int32)), .val (.ref b_23), .val .null, .val .null, .unset, .unset, .unset] [(.ref b24), (.ref b24)]))) (fun t k => XS.dup X36.here hx rfl (hb hby at_140) rfl rfl k) ?_
        refine own_fw (A' := (T36.setTop (mkF m 143 #[.val (.int p1), .val (.int p2), .val (.int p3), .val (.int (0 : Int32)), .val (.int (0 : Int32)), .val (.int (1 : Int32)), .val (.ref b_23), .val .null, .val .null, .unset, .unset, .unset] [(.int (6 : Int32)), (.ref b24), (.ref b24)]))) (fun t k => XS.bipush X36.here hx rfl (hb hby at_141) k) ?_
        obtain ⟨T37, X37, e37, st37⟩ := getS2 X36 hx hZ hown (host := "") (Or.inl (hw _ (List.mem_of_getElem? (i := 10) rfl))) Via.refl e36 ((((((((own_staKeep P9 Kq23 all0).ext E24).wr W26).wr W28).wr W30).wr W32).wr W34).wr W36) (g := (mkF m 143 #[.val (.int p1), .val (.int p2), .val (.int p3), .val (.int (0 : Int32)), .val (.int (0 : Int32)), .val (.int (1 : Int32)), .val (.ref b_23), .val .null, .val .null, .unset, .unset, .unset] [(.int (6 : Int32)), (.ref b24), (.ref b24)])) rfl (hb hby at_143)
        refine own_fw (A' := (T37.setTop (mkF m 146 #[.val (.int p1), .val (.int p2), .val (.int p3), .val (.int (0 : Int32)), .val (.int (0 : Int32)), .val (.int (1 : Int32)), .val (.ref b_23), .val .null, .val .null, .unset, .unset, .unset] [(.ref r_CREATED), (.int (6 : Int32)), (.ref b24), (.ref b24)]))) (fun t k => st37 _ k) ?_
        obtain ⟨cl38, Ar38, q38, S38, M38, H38, G38⟩ := id V36
        have hin38 : ¬ ((6 : Int32) < 0 ∨ cl38.slots.size ≤ ((6 : Int32)).toNatClampNeg) := inb_of S38 ⟨by decide, by decide⟩
        obtain ⟨T38, h38, X38, e38, W38, st38⟩ := stR X37 hx hZ e37 Ar38 (j := (6 : Int32)) hin38 rfl (Sto.ofV Ar38 q38 O24 (Ins.self ((((((((P10.keep Kq23).ext E24).wr W26).wr W28).wr W30).wr W32).wr W34).wr W36))) (g := (mkF m 146 #[.val (.int p1), .val (.int p2), .val (.int p3), .val (.int (0 : Int32)), .val (.int (0 : Int32)), .val (.int (1 : Int32)), .val (.ref b_23), .val .null, .val .null, .unset, .unset, .unset] [(.ref r_CREATED), (.int (6 : Int32)), (.ref b24), (.ref b24)])) rfl rfl (hb hby at_146)
        have V38 : Arv Z h38 b24 k24 (.object "com/example/measured_cache/measuredcache/cache/Change") (8 : Int32) [(.ref r_NONE), (.ref r_REMOVED), (.ref r_NONE), (.ref r_EXPIRED), (.ref r_CREATED), (.ref r_UPDATED), (.ref r_CREATED), .null] .null := Arv.set Ar38 q38 S38 M38 H38 G38 rfl W38 6 rfl (Nat.le_of_ble_eq_true rfl)
        have Nf38 := Fr.snoc X38 Nf36 g_b24
        have K38 : Keep h0 h38 [] := K36.wr W38 (Or.inr sz_b24)
        have Z38 : n0 ≤ h38.size := Nat.le_trans Z36 (Keep.of_wr W38).1
        refine own_fw (A' := (T38.setTop (mkF m 147 #[.val (.int p1), .val (.int p2), .val (.int p3), .val (.int (0 : Int32)), .val (.int (0 : Int32)), .val (.int (1 : Int32)), .val (.ref b_23), .val .null, .val .null, .unset, .unset, .unset] [(.ref b24)]))) (fun t k => st38 _ k) ?_
        refine own_fw (A' := (T38.setTop (mkF m 148 #[.val (.int p1), .val (.int p2), .val (.int p3), .val (.int (0 : Int32)), .val (.int (0 : Int32)), .val (.int (1 : Int32)), .val (.ref b_23), .val .null, .val .null, .unset, .unset, .unset] [(.ref b24), (.ref b24)]))) (fun t k => XS.dup X38.here hx rfl (hb hby at_147) rfl rfl k) ?_
        refine own_fw (A' := (T38.setTop (mkF m 150 #[.val (.int p1), .val (.int p2), .val (.int p3), .val (.int (0 : Int32)), .val (.int (0 : Int32)), .val (.int (1 : Int32)), .val (.ref b_23), .val .null, .val .null, .unset, .unset, .unset] [(.int (7 : Int32)), (.ref b24), (.ref b24)]))) (fun t k => XS.bipush X38.here hx rfl (hb hby at_148) k) ?_
        obtain ⟨T39, X39, e39, st39⟩ := getS2 X38 hx hZ hown (host := "") (Or.inl (hw _ (List.mem_of_getElem? (i := 12) rfl))) Via.refl e38 (((((((((own_staKeep P11 Kq23 all0).ext E24).wr W26).wr W28).wr W30).wr W32).wr W34).wr W36).wr W38) (g := (mkF m 150 #[.val (.int p1), .val (.int p2), .val (.int p3), .val (.int (0 : Int32)), .val (.int (0 : Int32)), .val (.int (1 : Int32)), .val (.ref b_23), .val .null, .val .null, .unset, .unset, .unset] [(.int (7 : Int32)), (.ref b24), (.ref b24)])) rfl (hb hby at_150)
        refine own_fw (A' := (T39.setTop (mkF m 153 #[.val (.int p1), .val (.int p2), .val (.int p3), .val (.int (0 : Int32)), .val (.int (0 : Int32)), .val (.int (1 : Int32)), .val (.ref b_23), .val .null, .val .null, .unset, .unset, .unset] [(.ref r_UPDATED), (.int (7 : Int32)), (.ref b24), (.ref b24)]))) (fun t k => st39 _ k) ?_
        obtain ⟨cl40, Ar40, q40, S40, M40, H40, G40⟩ := id V38
        have hin40 : ¬ ((7 : Int32) < 0 ∨ cl40.slots.size ≤ ((7 : Int32)).toNatClampNeg) := inb_of S40 ⟨by decide, by decide⟩
        obtain ⟨T40, h40, X40, e40, W40, st40⟩ := stR X39 hx hZ e39 Ar40 (j := (7 : Int32)) hin40 rfl (Sto.ofV Ar40 q40 O24 (Ins.self (((((((((P12.keep Kq23).ext E24).wr W26).wr W28).wr W30).wr W32).wr W34).wr W36).wr W38))) (g := (mkF m 153 #[.val (.int p1), .val (.int p2), .val (.int p3), .val (.int (0 : Int32)), .val (.int (0 : Int32)), .val (.int (1 : Int32)), .val (.ref b_23), .val .null, .val .null, .unset, .unset, .unset] [(.ref r_UPDATED), (.int (7 : Int32)), (.ref b24), (.ref b24)])) rfl rfl (hb hby at_153)
        have V40 : Arv Z h40 b24 k24 (.object "com/example/measured_cache/measuredcache/cache/Change") (8 : Int32) [(.ref r_NONE), (.ref r_REMOVED), (.ref r_NONE), (.ref r_EXPIRED), (.ref r_CREATED), (.ref r_UPDATED), (.ref r_CREATED), (.ref r_UPDATED)] .null := Arv.set Ar40 q40 S40 M40 H40 G40 rfl W40 7 rfl (Nat.le_of_ble_eq_true rfl)
        have Nf40 := Fr.snoc X40 Nf38 g_b24
        have K40 : Keep h0 h40 [] := K38.wr W40 (Or.inr sz_b24)
        have Z40 : n0 ≤ h40.size := Nat.le_trans Z38 (Keep.of_wr W40).1
        refine own_fw (A' := (T40.setTop (mkF m 154 #[.val (.int p1), .val (.int p2), .val (.int p3), .val (.int (0 : Int32)), .val (.int (0 : Int32)), .val (.int (1 : Int32)), .val (.ref b_23), .val .null, .val .null, .unset, .unset, .unset] [(.ref b24)]))) (fun t k => st40 _ k) ?_
        refine own_fw (A' := (T40.setTop (mkF m 156 #[.val (.int p1), .val (.int p2), .val (.int p3), .val (.int (0 : Int32)), .val (.int (0 : Int32)), .val (.int (1 : Int32)), .val (.ref b_23), .val .null, .val .null, .val (.ref b24), .unset, .unset] []))) (fun t k => XS.astore X40.here hx rfl (hb hby at_154) rfl rfl (l' := #[.val (.int p1), .val (.int p2), .val (.int p3), .val (.int (0 : Int32)), .val (.int (0 : Int32)), .val (.int (1 : Int32)), .val (.ref b_23), .val .null, .val .null, .val (.ref b24), .unset, .unset]) rfl k) ?_
        refine own_fw (A' := (T40.setTop (mkF m 158 #[.val (.int p1), .val (.int p2), .val (.int p3), .val (.int (0 : Int32)), .val (.int (0 : Int32)), .val (.int (1 : Int32)), .val (.ref b_23), .val .null, .val .null, .val (.ref b24), .unset, .unset] [(.ref b24)]))) (fun t k => XS.aload X40.here hx rfl (hb hby at_156) rfl rfl k) ?_
        refine own_fw (A' := (T40.setTop (mkF m 159 #[.val (.int p1), .val (.int p2), .val (.int p3), .val (.int (0 : Int32)), .val (.int (0 : Int32)), .val (.int (1 : Int32)), .val (.ref b_23), .val .null, .val .null, .val (.ref b24), .unset, .unset] [(.int p1), (.ref b24)]))) (fun t k => XS.iloadN X40.here hx rfl (hb hby at_158) rfl k) ?_
        refine own_fw (A' := (T40.setTop (mkF m 161 #[.val (.int p1), .val (.int p2), .val (.int p3), .val (.int (0 : Int32)), .val (.int (0 : Int32)), .val (.int (1 : Int32)), .val (.ref b_23), .val .null, .val .null, .val (.ref b24), .unset, .unset] [(.int (7 : Int32)), (.int p1), (.ref b24)]))) (fun t k => XS.bipush X40.here hx rfl (hb hby at_159) k) ?_
        refine own_fw (A' := (T40.setTop (mkF m 162 #[.val (.int p1), .val (.int p2), .val (.int p3), .val (.int (0 : Int32)), .val (.int (0 : Int32)), .val (.int (1 : Int32)), .val (.ref b_23), .val .null, .val .null, .val (.ref b24), .unset, .unset] [(.int (p1 &&& (7 : Int32))), (.ref b24)]))) (fun t k => XS.iand X40.here hx rfl (hb hby at_161) rfl k) ?_
        rw [own_ix p1 (2 : Int32) true true false (decide_eq_true hc1) (decide_eq_true hc2) (decide_eq_false hc3) (by decide)]
        obtain ⟨cl41, Ar41, q41, S41, M41, H41, G41⟩ := id V40
        have hin41 : ¬ ((2 : Int32) < 0 ∨ cl41.slots.size ≤ ((2 : Int32)).toNatClampNeg) := inb_of S41 ⟨by decide, by decide⟩
        have hat41 : cl41.slots[((2 : Int32)).toNatClampNeg]? = some (.ref r_NONE) := H41.at hin41 rfl
        refine own_fw (A' := (T40.setTop (mkF m 163 #[.val (.int p1), .val (.int p2), .val (.int p3), .val (.int (0 : Int32)), .val (.int (0 : Int32)), .val (.int (1 : Int32)), .val (.ref b_23), .val .null, .val .null, .val (.ref b24), .unset, .unset] [(.ref r_NONE)]))) (fun t k => X40.aaload hx (j := (2 : Int32)) (v := (.ref r_NONE)) (by rw [e40]; exact Ar41.1) (State.isArrayOf_alike hZ.alike Ar41.2.1) rfl Ar41.2.2 hin41 hat41 (g := (mkF m 162 #[.val (.int p1), .val (.int p2), .val (.int p3), .val (.int (0 : Int32)), .val (.int (0 : Int32)), .val (.int (1 : Int32)), .val (.ref b_23), .val .null, .val .null, .val (.ref b24), .unset, .unset] [(.int (2 : Int32)), (.ref b24)])) rfl rfl (hb hby at_162) _ k) ?_
        refine own_fw (A' := (T40.setTop (mkF m 165 #[.val (.int p1), .val (.int p2), .val (.int p3), .val (.int (0 : Int32)), .val (.int (0 : Int32)), .val (.int (1 : Int32)), .val (.ref b_23), .val .null, .val .null, .val (.ref b24), .val (.ref r_NONE), .unset] []))) (fun t k => XS.astore X40.here hx rfl (hb hby at_163) rfl rfl (l' := #[.val (.int p1), .val (.int p2), .val (.int p3), .val (.int (0 : Int32)), .val (.int (0 : Int32)), .val (.int (1 : Int32)), .val (.ref b_23), .val .null, .val .null, .val (.ref b24), .val (.ref r_NONE), .unset]) rfl k) ?_
        refine own_fw (A' := (T40.setTop (mkF m 167 #[.val (.int p1), .val (.int p2), .val (.int p3), .val (.int (0 : Int32)), .val (.int (0 : Int32)), .val (.int (1 : Int32)), .val (.ref b_23), .val .null, .val .null, .val (.ref b24), .val (.ref r_NONE), .unset] [.null]))) (fun t k => XS.aload X40.here hx rfl (hb hby at_165) rfl rfl k) ?_
        refine own_fw (A' := (T40.setTop (mkF m 169 #[.val (.int p1), .val (.int p2), .val (.int p3), .val (.int (0 : Int32)), .val (.int (0 : Int32)), .val (.int (1 : Int32)), .val (.ref b_23), .val .null, .val .null, .val (.ref b24), .val (.ref r_NONE), .unset] [(.ref b_23), .null]))) (fun t k => XS.aload X40.here hx rfl (hb hby at_167) rfl rfl k) ?_
        refine own_fw (A' := (T40.setTop (mkF m 171 #[.val (.int p1), .val (.int p2), .val (.int p3), .val (.int (0 : Int32)), .val (.int (0 : Int32)), .val (.int (1 : Int32)), .val (.ref b_23), .val .null, .val .null, .val (.ref b24), .val (.ref r_NONE), .unset] [.null, (.ref b_23), .null]))) (fun t k => XS.aload X40.here hx rfl (hb hby at_169) rfl rfl k) ?_
        obtain ⟨_, _, ⟨T42, L42, k42, n42⟩, -, X42, ⟨Lc42, hQ42, l42, y42, z42⟩, st42⟩ := Jvm.LawKit.callS X40 hx (y := (⟨"com/example/measured_cache/measuredcache/cache/Change", "of", "(Lcom/example/measured_cache/measuredcache/cache/EntryVersion;Ljava/lang/Object;Lcom/example/measured_cache/measuredcache/cache/EntryVersion;)Lcom/example/measured_cache/measuredcache/cache/Change;"⟩ : MethodName)) hown (mvT hZ (hw _ (List.mem_of_getElem? (i := 14) rfl))) (mvT hZ (hw _ (List.mem_of_getElem? (i := 15) rfl))) (mvT hZ (hw _ (List.mem_of_getElem? (i := 3) rfl))) (mvT hZ (hw _ (List.mem_of_getElem? (i := 16) rfl))) (by decide) (backOf (W := 0) (rmOf101 l Z a0 hw [] b_23 r_NONE h40 n0 Z40 ((((((((((own_staKeep P3 Kq23 all0).ext E24).wr W26).wr W28).wr W30).wr W32).wr W34).wr W36).wr W38).wr W40)) hZ (hw _ (List.mem_of_getElem? (i := 16) rfl)) (hw _ (List.mem_of_getElem? (i := 3) rfl)) (by decide) (by decide)) (g := (mkF m 171 #[.val (.int p1), .val (.int p2), .val (.int p3), .val (.int (0 : Int32)), .val (.int (0 : Int32)), .val (.int (1 : Int32)), .val (.ref b_23), .val .null, .val .null, .val (.ref b24), .val (.ref r_NONE), .unset] [.null, (.ref b_23), .null])) rfl (by rw [hml]; rfl) (argsL := [.null, (.ref b_23), .null]) (rest := []) (lenOf pd__Lcom_example_measured_cache_measuredcache_cache_EntryVersion_Ljava_lang_Object_Lcom_example_measured_cache_measuredcache_cache_EntryVersion__Lcom_example_measured_cache_measuredcache_cache_Change_ rfl) rfl (by show 2 * 0 + _ ≤ _; exact Nat.le_of_eq rfl) (hb hby at_171) (fun _ _ => ⟨rfl, e40, (by decide : 2 + 0 ≤ _), (by decide : 9 + 0 ≤ _)⟩)
        dsimp only [Pt.U, Pt.locs, Pt.cells, Pt.slots] at X42 l42 y42 z42 st42 hQ42
        subst l42 y42 z42
        obtain ⟨rfl, Nq42, e42⟩ := hQ42
        have Nf42 := Fr.app Nf40 Nq42
        refine own_fw (A' := (T42.setTop (mkF m 174 #[.val (.int p1), .val (.int p2), .val (.int p3), .val (.int (0 : Int32)), .val (.int (0 : Int32)), .val (.int (1 : Int32)), .val (.ref b_23), .val .null, .val .null, .val (.ref b24), .val (.ref r_NONE), .unset] [(.ref r_NONE)]))) (fun t k => st42 _ k) ?_
        refine own_fw (A' := (T42.setTop (mkF m 176 #[.val (.int p1), .val (.int p2), .val (.int p3), .val (.int (0 : Int32)), .val (.int (0 : Int32)), .val (.int (1 : Int32)), .val (.ref b_23), .val .null, .val .null, .val (.ref b24), .val (.ref r_NONE), .val (.ref r_NONE)] []))) (fun t k => XS.astore X42.here hx rfl (hb hby at_174) rfl rfl (l' := #[.val (.int p1), .val (.int p2), .val (.int p3), .val (.int (0 : Int32)), .val (.int (0 : Int32)), .val (.int (1 : Int32)), .val (.ref b_23), .val .null, .val .null, .val (.ref b24), .val (.ref r_NONE), .val (.ref r_NONE)]) rfl k) ?_
        refine own_fw (A' := (T42.setTop (mkF m 178 #[.val (.int p1), .val (.int p2), .val (.int p3), .val (.int (0 : Int32)), .val (.int (0 : Int32)), .val (.int (1 : Int32)), .val (.ref b_23), .val .null, .val .null, .val (.ref b24), .val (.ref r_NONE), .val (.ref r_NONE)] [(.ref r_NONE)]))) (fun t k => XS.aload X42.here hx rfl (hb hby at_176) rfl rfl k) ?_
        refine own_fw (A' := (T42.setTop (mkF m 180 #[.val (.int p1), .val (.int p2), .val (.int p3), .val (.int (0 : Int32)), .val (.int (0 : Int32)), .val (.int (1 : Int32)), .val (.ref b_23), .val .null, .val .null, .val (.ref b24), .val (.ref r_NONE), .val (.ref r_NONE)] [(.ref r_NONE), (.ref r_NONE)]))) (fun t k => XS.aload X42.here hx rfl (hb hby at_178) rfl rfl k) ?_
        refine own_fw (A' := (T42.setTop (mkF m 183 #[.val (.int p1), .val (.int p2), .val (.int p3), .val (.int (0 : Int32)), .val (.int (0 : Int32)), .val (.int (1 : Int32)), .val (.ref b_23), .val .null, .val .null, .val (.ref b24), .val (.ref r_NONE), .val (.ref r_NONE)] []))) (fun t k => Jvm.RoadKit.acmp (g := (mkF m 180 #[.val (.int p1), .val (.int p2), .val (.int p3), .val (.int (0 : Int32)), .val (.int (0 : Int32)), .val (.int (1 : Int32)), .val (.ref b_23), .val .null, .val .null, .val (.ref b24), .val (.ref r_NONE), .val (.ref r_NONE)] [(.ref r_NONE), (.ref r_NONE)])) X42 hx rfl rfl rfl (pc0 := 180) (pc' := 183) (same := true) rfl (hb hby at_180) rfl (decide_eq_true rfl) (by decide) (by decide) k) ?_
        refine own_fw (A' := (T42.setTop (mkF m 184 #[.val (.int p1), .val (.int p2), .val (.int p3), .val (.int (0 : Int32)), .val (.int (0 : Int32)), .val (.int (1 : Int32)), .val (.ref b_23), .val .null, .val .null, .val (.ref b24), .val (.ref r_NONE), .val (.ref r_NONE)] [(.int (1 : Int32))]))) (fun t k => XS.iconst X42.here hx rfl (hb hby at_183) k) ?_
        refine own_fw (A' := (T42.setTop (mkF m 188 #[.val (.int p1), .val (.int p2), .val (.int p3), .val (.int (0 : Int32)), .val (.int (0 : Int32)), .val (.int (1 : Int32)), .val (.ref b_23), .val .null, .val .null, .val (.ref b24), .val (.ref r_NONE), .val (.ref r_NONE)] [(.int (1 : Int32))]))) (fun t k => XS.goto X42.here hx rfl (pc0 := 184) (pc' := 188) rfl (hb hby at_184) (by decide) (by decide) k) ?_
        obtain ⟨fs, hr, hrun, hended, hW, hsame⟩ := X42.leave (v := some (.int (1 : Int32))) (fun h => by rw [Bd.returns] at h; cases h)
        refine ⟨_, _, ?_, hrun, hended, _, _, rfl, ?_, ⟨_, rfl⟩, hW, hsame.mono (by decide) (by decide)⟩
        · exact retOut X42 hx Bd.returns rfl (Or.inl ⟨rfl, by simp, _, rfl⟩) (hb hby at_188) hr
        · show Q_rm0 Z p1 p2 p3 ca r_NONE r_REMOVED r_EXPIRED r_CREATED r_UPDATED h0 n0 _ T42.heap _
          rw [e42]
          exact ⟨rfl, Nf42⟩
    · refine own_fw (A' := (s₁.setTop (mkF m 18 #[.val (.int p1), .val (.int p2), .val (.int p3), .val (.int (0 : Int32)), .unset, .unset, .unset, .unset, .unset, .unset, .unset, .unset] []))) (fun t k => XS.ifNo X0.here hx rfl (hb hby at_15) rfl (XT.i0_eq_f hc2) k) ?_
      refine own_fw (A' := (s₁.setTop (mkF m 19 #[.val (.int p1), .val (.int p2), .val (.int p3), .val (.int (0 : Int32)), .unset, .unset, .unset, .unset, .unset, .unset, .unset, .unset] [(.int (1 : Int32))]))) (fun t k => XS.iconst X0.here hx rfl (hb hby at_18) k) ?_
      refine own_fw (A' := (s₁.setTop (mkF m 23 #[.val (.int p1), .val (.int p2), .val (.int p3), .val (.int (0 : Int32)), .unset, .unset, .unset, .unset, .unset, .unset, .unset, .unset] [(.int (1 : Int32))]))) (fun t k => XS.goto X0.here hx rfl (pc0 := 19) (pc' := 23) rfl (hb hby at_19) (by decide) (by decide) k) ?_
      refine own_fw (A' := (s₁.setTop (mkF m 25 #[.val (.int p1), .val (.int p2), .val (.int p3), .val (.int (0 : Int32)), .val (.int (1 : Int32)), .unset, .unset, .unset, .unset, .unset, .unset, .unset] []))) (fun t k => XS.istore X0.here hx rfl (hb hby at_23) rfl (l' := #[.val (.int p1), .val (.int p2), .val (.int p3), .val (.int (0 : Int32)), .val (.int (1 : Int32)), .unset, .unset, .unset, .unset, .unset, .unset, .unset]) rfl k) ?_
      refine own_fw (A' := (s₁.setTop (mkF m 26 #[.val (.int p1), .val (.int p2), .val (.int p3), .val (.int (0 : Int32)), .val (.int (1 : Int32)), .unset, .unset, .unset, .unset, .unset, .unset, .unset] [(.int p1)]))) (fun t k => XS.iloadN X0.here hx rfl (hb hby at_25) rfl k) ?_
      refine own_fw (A' := (s₁.setTop (mkF m 27 #[.val (.int p1), .val (.int p2), .val (.int p3), .val (.int (0 : Int32)), .val (.int (1 : Int32)), .unset, .unset, .unset, .unset, .unset, .unset, .unset] [(.int (2 : Int32)), (.int p1)]))) (fun t k => XS.iconst X0.here hx rfl (hb hby at_26) k) ?_
      refine own_fw (A' := (s₁.setTop (mkF m 28 #[.val (.int p1), .val (.int p2), .val (.int p3), .val (.int (0 : Int32)), .val (.int (1 : Int32)), .unset, .unset, .unset, .unset, .unset, .unset, .unset] [(.int (p1 &&& (2 : Int32)))]))) (fun t k => XS.iand X0.here hx rfl (hb hby at_27) rfl k) ?_
      by_cases hc43 : (p1 &&& (2 : Int32)) = (0 : Int32)
      · refine own_fw (A' := (s₁.setTop (mkF m 31 #[.val (.int p1), .val (.int p2), .val (.int p3), .val (.int (0 : Int32)), .val (.int (1 : Int32)), .unset, .unset, .unset, .unset, .unset, .unset, .unset] []))) (fun t k => XS.ifNo X0.here hx rfl (hb hby at_28) rfl (XT.i0_ne_f hc43) k) ?_
        refine own_fw (A' := (s₁.setTop (mkF m 33 #[.val (.int p1), .val (.int p2), .val (.int p3), .val (.int (0 : Int32)), .val (.int (1 : Int32)), .unset, .unset, .unset, .unset, .unset, .unset, .unset] [(.int (1 : Int32))]))) (fun t k => XS.iload X0.here hx rfl (hb hby at_31) rfl k) ?_
        refine own_fw (A' := (s₁.setTop (mkF m 36 #[.val (.int p1), .val (.int p2), .val (.int p3), .val (.int (0 : Int32)), .val (.int (1 : Int32)), .unset, .unset, .unset, .unset, .unset, .unset, .unset] []))) (fun t k => XS.ifNo X0.here hx rfl (hb hby at_33) rfl (XT.i0_eq_f (by decide)) k) ?_
        refine own_fw (A' := (s₁.setTop (mkF m 37 #[.val (.int p1), .val (.int p2), .val (.int p3), .val (.int (0 : Int32)), .val (.int (1 : Int32)), .unset, .unset, .unset, .unset, .unset, .unset, .unset] [(.int (1 : Int32))]))) (fun t k => XS.iconst X0.here hx rfl (hb hby at_36) k) ?_
        refine own_fw (A' := (s₁.setTop (mkF m 41 #[.val (.int p1), .val (.int p2), .val (.int p3), .val (.int (0 : Int32)), .val (.int (1 : Int32)), .unset, .unset, .unset, .unset, .unset, .unset, .unset] [(.int (1 : Int32))]))) (fun t k => XS.goto X0.here hx rfl (pc0 := 37) (pc' := 41) rfl (hb hby at_37) (by decide) (by decide) k) ?_
        refine own_fw (A' := (s₁.setTop (mkF m 43 #[.val (.int p1), .val (.int p2), .val (.int p3), .val (.int (0 : Int32)), .val (.int (1 : Int32)), .val (.int (1 : Int32)), .unset, .unset, .unset, .unset, .unset, .unset] []))) (fun t k => XS.istore X0.here hx rfl (hb hby at_41) rfl (l' := #[.val (.int p1), .val (.int p2), .val (.int p3), .val (.int (0 : Int32)), .val (.int (1 : Int32)), .val (.int (1 : Int32)), .unset, .unset, .unset, .unset, .unset, .unset]) rfl k) ?_
        refine own_fw (A' := (s₁.setTop (mkF m 45 #[.val (.int p1), .val (.int p2), .val (.int p3), .val (.int (0 : Int32)), .val (.int (1 : Int32)), .val (.int (1 : Int32)), .unset, .unset, .unset, .unset, .unset, .unset] [(.int (1 : Int32))]))) (fun t k => XS.iload X0.here hx rfl (hb hby at_43) rfl k) ?_
        refine own_fw (A' := (s₁.setTop (mkF m 48 #[.val (.int p1), .val (.int p2), .val (.int p3), .val (.int (0 : Int32)), .val (.int (1 : Int32)), .val (.int (1 : Int32)), .unset, .unset, .unset, .unset, .unset, .unset] []))) (fun t k => XS.ifNo X0.here hx rfl (hb hby at_45) rfl (XT.i0_eq_f (by decide)) k) ?_
        refine own_fw (A' := (s₁.setTop (mkF m 49 #[.val (.int p1), .val (.int p2), .val (.int p3), .val (.int (0 : Int32)), .val (.int (1 : Int32)), .val (.int (1 : Int32)), .unset, .unset, .unset, .unset, .unset, .unset] [(.int p3)]))) (fun t k => XS.iloadN X0.here hx rfl (hb hby at_48) rfl k) ?_
        obtain ⟨_, _, ⟨T44, L44, k44, n44⟩, -, X44, ⟨Lc44, hQ44, l44, y44, z44⟩, st44⟩ := Jvm.LawKit.callS X0 hx (y := (⟨"java/lang/Integer", "valueOf", "(I)Ljava/lang/Integer;"⟩ : MethodName)) hown (mvT hZ (hw _ (List.mem_of_getElem? (i := 21) rfl))) (mvT hZ (hw _ (List.mem_of_getElem? (i := 22) rfl))) (mvT hZ (hw _ (List.mem_of_getElem? (i := 23) rfl))) (mvT hZ (hw _ (List.mem_of_getElem? (i := 24) rfl))) (by decide) (backOf (W := 0) (rmIntOf l Z a0 hw [] p3 ca h0 n0 Z0 P0 P1 P2) hZ (hw _ (List.mem_of_getElem? (i := 24) rfl)) (hw _ (List.mem_of_getElem? (i := 23) rfl)) (by decide) (by decide)) (g := (mkF m 49 #[.val (.int p1), .val (.int p2), .val (.int p3), .val (.int (0 : Int32)), .val (.int (1 : Int32)), .val (.int (1 : Int32)), .unset, .unset, .unset, .unset, .unset, .unset] [(.int p3)])) rfl (by rw [hml]; rfl) (argsL := [(.int p3)]) (rest := []) (lenOf pd__I_Ljava_lang_Integer_ rfl) rfl (by show 2 * 0 + _ ≤ _; exact Nat.le_of_eq rfl) (hb hby at_49) (fun _ _ => ⟨rfl, e0, (by decide : 0 + 1 ≤ _), (by decide : 0 + 1 ≤ _)⟩)
        dsimp only [Pt.U, Pt.locs, Pt.cells, Pt.slots] at X44 l44 y44 z44 st44 hQ44
        subst l44 y44 z44
        obtain ⟨b_44, rfl, Nq44, Kq44, Fq44_0⟩ := hQ44
        have Nf44 := Fr.app N0 Nq44
        have K44 : Keep h0 T44.heap [] := (Keep.refl h0 []).trans Kq44 all0
        have Z44 : n0 ≤ T44.heap.size := Nat.le_trans Z0 Kq44.1
        refine own_fw (A' := (T44.setTop (mkF m 52 #[.val (.int p1), .val (.int p2), .val (.int p3), .val (.int (0 : Int32)), .val (.int (1 : Int32)), .val (.int (1 : Int32)), .unset, .unset, .unset, .unset, .unset, .unset] [(.ref b_44)]))) (fun t k => st44 _ k) ?_
        refine own_fw (A' := (T44.setTop (mkF m 56 #[.val (.int p1), .val (.int p2), .val (.int p3), .val (.int (0 : Int32)), .val (.int (1 : Int32)), .val (.int (1 : Int32)), .unset, .unset, .unset, .unset, .unset, .unset] [(.ref b_44)]))) (fun t k => XS.goto X44.here hx rfl (pc0 := 52) (pc' := 56) rfl (hb hby at_52) (by decide) (by decide) k) ?_
        refine own_fw (A' := (T44.setTop (mkF m 58 #[.val (.int p1), .val (.int p2), .val (.int p3), .val (.int (0 : Int32)), .val (.int (1 : Int32)), .val (.int (1 : Int32)), .val (.ref b_44), .unset, .unset, .unset, .unset, .unset] []))) (fun t k => XS.astore X44.here hx rfl (hb hby at_56) rfl rfl (l' := #[.val (.int p1), .val (.int p2), .val (.int p3), .val (.int (0 : Int32)), .val (.int (1 : Int32)), .val (.int (1 : Int32)), .val (.ref b_44), .unset, .unset, .unset, .unset, .unset]) rfl k) ?_
        refine own_fw (A' := (T44.setTop (mkF m 59 #[.val (.int p1), .val (.int p2), .val (.int p3), .val (.int (0 : Int32)), .val (.int (1 : Int32)), .val (.int (1 : Int32)), .val (.ref b_44), .unset, .unset, .unset, .unset, .unset] [(.int (0 : Int32))]))) (fun t k => XS.iloadN X44.here hx rfl (hb hby at_58) rfl k) ?_
        refine own_fw (A' := (T44.setTop (mkF m 76 #[.val (.int p1), .val (.int p2), .val (.int p3), .val (.int (0 : Int32)), .val (.int (1 : Int32)), .val (.int (1 : Int32)), .val (.ref b_44), .unset, .unset, .unset, .unset, .unset] []))) (fun t k => XS.ifYes X44.here hx rfl (pc0 := 59) (pc' := 76) rfl (hb hby at_59) rfl (XT.i0_eq_t rfl) (by decide) (by decide) k) ?_
        refine own_fw (A' := (T44.setTop (mkF m 77 #[.val (.int p1), .val (.int p2), .val (.int p3), .val (.int (0 : Int32)), .val (.int (1 : Int32)), .val (.int (1 : Int32)), .val (.ref b_44), .unset, .unset, .unset, .unset, .unset] [.null]))) (fun t k => XS.aconstNull X44.here hx rfl (hb hby at_76) k) ?_
        refine own_fw (A' := (T44.setTop (mkF m 79 #[.val (.int p1), .val (.int p2), .val (.int p3), .val (.int (0 : Int32)), .val (.int (1 : Int32)), .val (.int (1 : Int32)), .val (.ref b_44), .val .null, .unset, .unset, .unset, .unset] []))) (fun t k => XS.astore X44.here hx rfl (hb hby at_77) rfl rfl (l' := #[.val (.int p1), .val (.int p2), .val (.int p3), .val (.int (0 : Int32)), .val (.int (1 : Int32)), .val (.int (1 : Int32)), .val (.ref b_44), .val .null, .unset, .unset, .unset, .unset]) rfl k) ?_
        refine own_fw (A' := (T44.setTop (mkF m 81 #[.val (.int p1), .val (.int p2), .val (.int p3), .val (.int (0 : Int32)), .val (.int (1 : Int32)), .val (.int (1 : Int32)), .val (.ref b_44), .val .null, .unset, .unset, .unset, .unset] [(.int (1 : Int32))]))) (fun t k => XS.iload X44.here hx rfl (hb hby at_79) rfl k) ?_
        refine own_fw (A' := (T44.setTop (mkF m 84 #[.val (.int p1), .val (.int p2), .val (.int p3), .val (.int (0 : Int32)), .val (.int (1 : Int32)), .val (.int (1 : Int32)), .val (.ref b_44), .val .null, .unset, .unset, .unset, .unset] []))) (fun t k => XS.ifNo X44.here hx rfl (hb hby at_81) rfl (XT.i0_eq_f (by decide)) k) ?_
        obtain ⟨T45, h45, X45, e45, E45, A45, D45, -, st45⟩ := newO X44 hx hZ hown (hw _ (List.mem_of_getElem? (i := 18) rfl)) (hw _ (List.mem_of_getElem? (i := 19) rfl)) (hw _ (List.mem_of_getElem? (i := 20) rfl)) rfl (g := (mkF m 84 #[.val (.int p1), .val (.int p2), .val (.int p3), .val (.int (0 : Int32)), .val (.int (1 : Int32)), .val (.int (1 : Int32)), .val (.ref b_44), .val .null, .unset, .unset, .unset, .unset] [])) rfl (hb hby at_84) (by decide) (by decide)
        obtain ⟨b45, gb45⟩ : ∃ z, z = T44.heap.size := ⟨_, rfl⟩
        have g_b45 : n0 ≤ b45 := Nat.le_trans Z44 (Nat.le_of_eq gb45.symm)
        have sz_b45 : h0.size ≤ b45 := Nat.le_trans K44.1 (Nat.le_of_eq gb45.symm)
        have ne_ca_b45 : ca ≠ b45 := Nat.ne_of_lt (Nat.lt_of_lt_of_le (own_cacheLt (own_cacheKeep P2 Kq44 nin0)) (Nat.le_of_eq gb45.symm))
        have ne_r_NONE_b45 : r_NONE ≠ b45 := Nat.ne_of_lt (Nat.lt_of_lt_of_le (P4.keep Kq44).lt (Nat.le_of_eq gb45.symm))
        have ne_r_REMOVED_b45 : r_REMOVED ≠ b45 := Nat.ne_of_lt (Nat.lt_of_lt_of_le (P6.keep Kq44).lt (Nat.le_of_eq gb45.symm))
        have ne_r_EXPIRED_b45 : r_EXPIRED ≠ b45 := Nat.ne_of_lt (Nat.lt_of_lt_of_le (P8.keep Kq44).lt (Nat.le_of_eq gb45.symm))
        have ne_r_CREATED_b45 : r_CREATED ≠ b45 := Nat.ne_of_lt (Nat.lt_of_lt_of_le (P10.keep Kq44).lt (Nat.le_of_eq gb45.symm))
        have ne_r_UPDATED_b45 : r_UPDATED ≠ b45 := Nat.ne_of_lt (Nat.lt_of_lt_of_le (P12.keep Kq44).lt (Nat.le_of_eq gb45.symm))
        have ne_b_44_b45 : b_44 ≠ b45 := Nat.ne_of_lt (Nat.lt_of_lt_of_le Fq44_0.lt (Nat.le_of_eq gb45.symm))
        rw [← gb45] at A45 D45 st45
        have F_content_b45 : Fld Z h45 b45 "com/example/measured_cache/measuredcache/cache/EntryVersion" "content" "Ljava/lang/Object;" .null := D45 (Or.inl (hw _ (List.mem_of_getElem? (i := 35) rfl))) (ty := (.object "java/lang/Object")) (by decide)
        have K45 : Keep h0 h45 [] := K44.ext E45
        have Z45 : n0 ≤ h45.size := Nat.le_trans Z44 E45.1
        refine own_fw (A' := (T45.setTop (mkF m 87 #[.val (.int p1), .val (.int p2), .val (.int p3), .val (.int (0 : Int32)), .val (.int (1 : Int32)), .val (.int (1 : Int32)), .val (.ref b_44), .val .null, .unset, .unset, .unset, .unset] [(.ref b45)]))) (fun t k => st45 _ k) ?_
        refine own_fw (A' := (T45.setTop (mkF m 88 #[.val (.int p1), .val (.int p2), .val (.int p3), .val (.int (0 : Int32)), .val (.int (1 : Int32)), .val (.int (1 : Int32)), .val (.ref b_44), .val .null, .unset, .unset, .unset, .unset] [(.ref b45), (.ref b45)]))) (fun t k => XS.dup X45.here hx rfl (hb hby at_87) rfl rfl k) ?_
        refine own_fw (A' := (T45.setTop (mkF m 90 #[.val (.int p1), .val (.int p2), .val (.int p3), .val (.int (0 : Int32)), .val (.int (1 : Int32)), .val (.int (1 : Int32)), .val (.ref b_44), .val .null, .unset, .unset, .unset, .unset] [(.ref b_44), (.ref b45), (.ref b45)]))) (fun t k => XS.aload X45.here hx rfl (hb hby at_88) rfl rfl k) ?_
        obtain ⟨_, _, ⟨T46, L46, k46, n46⟩, -, X46, ⟨Lc46, hQ46, l46, y46, z46⟩, st46⟩ := X45.specialBack hx (y := (⟨"com/example/measured_cache/measuredcache/cache/EntryVersion", "<init>", "(Ljava/lang/Object;)V"⟩ : MethodName)) rfl hown (mvT hZ (hw _ (List.mem_of_getElem? (i := 28) rfl))) (mvT hZ (hw _ (List.mem_of_getElem? (i := 29) rfl))) (mvT hZ (hw _ (List.mem_of_getElem? (i := 30) rfl))) (by decide) (backOf (W := 1) (rmEv l Z a0 hw [] b45 b_44 h45 n0 Z45 A45 F_content_b45 g_b45) hZ (hw _ (List.mem_of_getElem? (i := 30) rfl)) (hw _ (List.mem_of_getElem? (i := 20) rfl)) (by decide) (by decide)) (g := (mkF m 90 #[.val (.int p1), .val (.int p2), .val (.int p3), .val (.int (0 : Int32)), .val (.int (1 : Int32)), .val (.int (1 : Int32)), .val (.ref b_44), .val .null, .unset, .unset, .unset, .unset] [(.ref b_44), (.ref b45), (.ref b45)])) rfl (by rw [hml]; rfl) (Steps.refl _) (a := b45) (argsL := [(.ref b_44)]) (rest := [(.ref b45)]) (lenOf pd__Ljava_lang_Object__V rfl) rfl (by show 2 * 0 + _ ≤ _; exact Nat.le_of_eq rfl) (hb hby at_90) (fun _ _ => ⟨rfl, e45, (by decide : 2 + 0 ≤ _), (by decide : 2 + 0 ≤ _)⟩)
        dsimp only [Pt.U, Pt.locs, Pt.cells, Pt.slots] at X46 l46 y46 z46 st46 hQ46
        subst l46 y46 z46
        obtain ⟨rfl, Nq46, Kq46, Fq46_0⟩ := hQ46
        have Nf46 := Fr.app Nf44 Nq46
        have K46 : Keep h0 T46.heap [] := K45.trans Kq46 (allS (Or.inr sz_b45) all0)
        have Z46 : n0 ≤ T46.heap.size := Nat.le_trans Z45 Kq46.1
        refine own_fw (A' := (T46.setTop (mkF m 93 #[.val (.int p1), .val (.int p2), .val (.int p3), .val (.int (0 : Int32)), .val (.int (1 : Int32)), .val (.int (1 : Int32)), .val (.ref b_44), .val .null, .unset, .unset, .unset, .unset] [(.ref b45)]))) (fun t k => st46.trans k) ?_
        refine own_fw (A' := (T46.setTop (mkF m 97 #[.val (.int p1), .val (.int p2), .val (.int p3), .val (.int (0 : Int32)), .val (.int (1 : Int32)), .val (.int (1 : Int32)), .val (.ref b_44), .val .null, .unset, .unset, .unset, .unset] [(.ref b45)]))) (fun t k => XS.goto X46.here hx rfl (pc0 := 93) (pc' := 97) rfl (hb hby at_93) (by decide) (by decide) k) ?_
        refine own_fw (A' := (T46.setTop (mkF m 99 #[.val (.int p1), .val (.int p2), .val (.int p3), .val (.int (0 : Int32)), .val (.int (1 : Int32)), .val (.int (1 : Int32)), .val (.ref b_44), .val .null, .val (.ref b45), .unset, .unset, .unset] []))) (fun t k => XS.astore X46.here hx rfl (hb hby at_97) rfl rfl (l' := #[.val (.int p1), .val (.int p2), .val (.int p3), .val (.int (0 : Int32)), .val (.int (1 : Int32)), .val (.int (1 : Int32)), .val (.ref b_44), .val .null, .val (.ref b45), .unset, .unset, .unset]) rfl k) ?_
        refine own_fw (A' := (T46.setTop (mkF m 101 #[.val (.int p1), .val (.int p2), .val (.int p3), .val (.int (0 : Int32)), .val (.int (1 : Int32)), .val (.int (1 : Int32)), .val (.ref b_44), .val .null, .val (.ref b45), .unset, .unset, .unset] [(.int (8 : Int32))]))) (fun t k => XS.bipush X46.here hx rfl (hb hby at_99) k) ?_
        obtain ⟨T47, h47, k47, X47, e47, E47, A47, O47, st47⟩ := newR X46 hx hZ hown (hw _ (List.mem_of_getElem? (i := 0) rfl)) (hw _ (List.mem_of_getElem? (i := 1) rfl)) rfl (g := (mkF m 101 #[.val (.int p1), .val (.int p2), .val (.int p3), .val (.int (0 : Int32)), .val (.int (1 : Int32)), .val (.int (1 : Int32)), .val (.ref b_44), .val .null, .val (.ref b45), .unset, .unset, .unset] [(.int (8 : Int32))])) rfl (hb hby at_101) rfl (by decide) (cap := 8) (by decide) (by decide) (by decide) (by decide)
        obtain ⟨b47, gb47⟩ : ∃ z, z = T46.heap.size := ⟨_, rfl⟩
        have g_b47 : n0 ≤ b47 := Nat.le_trans Z46 (Nat.le_of_eq gb47.symm)
        have sz_b47 : h0.size ≤ b47 := Nat.le_trans K46.1 (Nat.le_of_eq gb47.symm)
        have ne_ca_b47 : ca ≠ b47 := Nat.ne_of_lt (Nat.lt_of_lt_of_le (own_cacheLt (own_cacheKeep (own_cacheExt (own_cacheKeep P2 Kq44 nin0) E45) Kq46 (ninS ne_ca_b45 nin0))) (Nat.le_of_eq gb47.symm))
        have ne_r_NONE_b47 : r_NONE ≠ b47 := Nat.ne_of_lt (Nat.lt_of_lt_of_le (((P4.keep Kq44).ext E45).keep Kq46).lt (Nat.le_of_eq gb47.symm))
        have ne_r_REMOVED_b47 : r_REMOVED ≠ b47 := Nat.ne_of_lt (Nat.lt_of_lt_of_le (((P6.keep Kq44).ext E45).keep Kq46).lt (Nat.le_of_eq gb47.symm))
        have ne_r_EXPIRED_b47 : r_EXPIRED ≠ b47 := Nat.ne_of_lt (Nat.lt_of_lt_of_le (((P8.keep Kq44).ext E45).keep Kq46).lt (Nat.le_of_eq gb47.symm))
        have ne_r_CREATED_b47 : r_CREATED ≠ b47 := Nat.ne_of_lt (Nat.lt_of_lt_of_le (((P10.keep Kq44).ext E45).keep Kq46).lt (Nat.le_of_eq gb47.symm))
        have ne_r_UPDATED_b47 : r_UPDATED ≠ b47 := Nat.ne_of_lt (Nat.lt_of_lt_of_le (((P12.keep Kq44).ext E45).keep Kq46).lt (Nat.le_of_eq gb47.symm))
        have ne_b_44_b47 : b_44 ≠ b47 := Nat.ne_of_lt (Nat.lt_of_lt_of_le ((Fq44_0.ext E45).keep Kq46).lt (Nat.le_of_eq gb47.symm))
        have ne_b45_b47 : b45 ≠ b47 := Nat.ne_of_lt (Nat.lt_of_lt_of_le Fq46_0.lt (Nat.le_of_eq gb47.symm))
        rw [← gb47] at A47 st47
        have V_b47 : Arv Z h47 b47 k47 (.object "com/example/measured_cache/measuredcache/cache/Change") (8 : Int32) [.null, .null, .null, .null, .null, .null, .null, .null] .null := (Arv.new A47 (by decide)).pad (pad_rep [] .null 8)
        have K47 : Keep h0 h47 [] := K46.ext E47
        have Z47 : n0 ≤ h47.size := Nat.le_trans Z46 E47.1
        refine own_fw (A' := (T47.setTop (mkF m 104 #[.val (.int p1), .val (.int p2), .val (.int p3), .val (.int (0 : Int32)), .val (.int (1 : Int32)), .val (.int (1 : Int32)), .val (.ref b_44), .val .null, .val (.ref b45), .unset, .unset, .unset] [(.ref b47)]))) (fun t k => st47 _ k) ?_
        refine own_fw (A' := (T47.setTop (mkF m 105 #[.val (.int p1), .val (.int p2), .val (.int p3), .val (.int (0 : Int32)), .val (.int (1 : Int32)), .val (.int (1 : Int32)), .val (.ref b_44), .val .null, .val (.ref b45), .unset, .unset, .unset] [(.ref b47), (.ref b47)]))) (fun t k => XS.dup X47.here hx rfl (hb hby at_104) rfl rfl k) ?_
        refine own_fw (A' := (T47.setTop (mkF m 106 #[.val (.int p1), .val (.int p2), .val (.int p3), .val (.int (0 : Int32)), .val (.int (1 : Int32)), .val (.int (1 : Int32)), .val (.ref b_44), .val .null, .val (.ref b45), .unset, .unset, .unset] [(.int (0 : Int32)), (.ref b47), (.ref b47)]))) (fun t k => XS.iconst X47.here hx rfl (hb hby at_105) k) ?_
        obtain ⟨T48, X48, e48, st48⟩ := getS2 X47 hx hZ hown (host := "") (Or.inl (hw _ (List.mem_of_getElem? (i := 2) rfl))) Via.refl e47 ((own_staKeep ((own_staKeep P3 Kq44 all0).ext E45) Kq46 (allS (own_plainE A45) all0)).ext E47) (g := (mkF m 106 #[.val (.int p1), .val (.int p2), .val (.int p3), .val (.int (0 : Int32)), .val (.int (1 : Int32)), .val (.int (1 : Int32)), .val (.ref b_44), .val .null, .val (.ref b45), .unset, .unset, .unset] [(.int (0 : Int32)), (.ref b47), (.ref b47)])) rfl (hb hby at_106)
        refine own_fw (A' := (T48.setTop (mkF m 109 #[.val (.int p1), .val (.int p2), .val (.int p3), .val (.int (0 : Int32)), .val (.int (1 : Int32)), .val (.int (1 : Int32)), .val (.ref b_44), .val .null, .val (.ref b45), .unset, .unset, .unset] [(.ref r_NONE), (.int (0 : Int32)), (.ref b47), (.ref b47)]))) (fun t k => st48 _ k) ?_
        obtain ⟨cl49, Ar49, q49, S49, M49, H49, G49⟩ := id V_b47
        have hin49 : ¬ ((0 : Int32) < 0 ∨ cl49.slots.size ≤ ((0 : Int32)).toNatClampNeg) := inb_of S49 ⟨by decide, by decide⟩
        obtain ⟨T49, h49, X49, e49, W49, st49⟩ := stR X48 hx hZ e48 Ar49 (j := (0 : Int32)) hin49 rfl (Sto.ofV Ar49 q49 O47 (Ins.self ((((P4.keep Kq44).ext E45).keep Kq46).ext E47))) (g := (mkF m 109 #[.val (.int p1), .val (.int p2), .val (.int p3), .val (.int (0 : Int32)), .val (.int (1 : Int32)), .val (.int (1 : Int32)), .val (.ref b_44), .val .null, .val (.ref b45), .unset, .unset, .unset] [(.ref r_NONE), (.int (0 : Int32)), (.ref b47), (.ref b47)])) rfl rfl (hb hby at_109)
        have V49 : Arv Z h49 b47 k47 (.object "com/example/measured_cache/measuredcache/cache/Change") (8 : Int32) [(.ref r_NONE), .null, .null, .null, .null, .null, .null, .null] .null := Arv.set Ar49 q49 S49 M49 H49 G49 rfl W49 0 rfl (Nat.le_of_ble_eq_true rfl)
        have Nf49 := Fr.snoc X49 Nf46 g_b47
        have K49 : Keep h0 h49 [] := K47.wr W49 (Or.inr sz_b47)
        have Z49 : n0 ≤ h49.size := Nat.le_trans Z47 (Keep.of_wr W49).1
        refine own_fw (A' := (T49.setTop (mkF m 110 #[.val (.int p1), .val (.int p2), .val (.int p3), .val (.int (0 : Int32)), .val (.int (1 : Int32)), .val (.int (1 : Int32)), .val (.ref b_44), .val .null, .val (.ref b45), .unset, .unset, .unset] [(.ref b47)]))) (fun t k => st49 _ k) ?_
        refine own_fw (A' := (T49.setTop (mkF m 111 #[.val (.int p1), .val (.int p2), .val (.int p3), .val (.int (0 : Int32)), .val (.int (1 : Int32)), .val (.int (1 : Int32)), .val (.ref b_44), .val .null, .val (.ref b45), .unset, .unset, .unset] [(.ref b47), (.ref b47)]))) (fun t k => XS.dup X49.here hx rfl (hb hby at_110) rfl rfl k) ?_
        refine own_fw (A' := (T49.setTop (mkF m 112 #[.val (.int p1), .val (.int p2), .val (.int p3), .val (.int (0 : Int32)), .val (.int (1 : Int32)), .val (.int (1 : Int32)), .val (.ref b_44), .val .null, .val (.ref b45), .unset, .unset, .unset] [(.int (1 : Int32)), (.ref b47), (.ref b47)]))) (fun t k => XS.iconst X49.here hx rfl (hb hby at_111) k) ?_
        obtain ⟨T50, X50, e50, st50⟩ := getS2 X49 hx hZ hown (host := "") (Or.inl (hw _ (List.mem_of_getElem? (i := 6) rfl))) Via.refl e49 (((own_staKeep ((own_staKeep P5 Kq44 all0).ext E45) Kq46 (allS (own_plainE A45) all0)).ext E47).wr W49) (g := (mkF m 112 #[.val (.int p1), .val (.int p2), .val (.int p3), .val (.int (0 : Int32)), .val (.int (1 : Int32)), .val (.int (1 : Int32)), .val (.ref b_44), .val .null, .val (.ref b45), .unset, .unset, .unset] [(.int (1 : Int32)), (.ref b47), (.ref b47)])) rfl (hb hby at_112)
        refine own_fw (A' := (T50.setTop (mkF m 115 #[.val (.int p1), .val (.int p2), .val (.int p3), .val (.int (0 : Int32)), .val (.int (1 : Int32)), .val (.int (1 : Int32)), .val (.ref b_44), .val .null, .val (.ref b45), .unset, .unset, .unset] [(.ref r_REMOVED), (.int (1 : Int32)), (.ref b47), (.ref b47)]))) (fun t k => st50 _ k) ?_
        obtain ⟨cl51, Ar51, q51, S51, M51, H51, G51⟩ := id V49
        have hin51 : ¬ ((1 : Int32) < 0 ∨ cl51.slots.size ≤ ((1 : Int32)).toNatClampNeg) := inb_of S51 ⟨by decide, by decide⟩
        obtain ⟨T51, h51, X51, e51, W51, st51⟩ := stR X50 hx hZ e50 Ar51 (j := (1 : Int32)) hin51 rfl (Sto.ofV Ar51 q51 O47 (Ins.self (((((P6.keep Kq44).ext E45).keep Kq46).ext E47).wr W49))) (g := (mkF m 115 #[.val (.int p1), .val (.int p2), .val (.int p3), .val (.int (0 : Int32)), .val (.int (1 : Int32)), .val (.int (1 : Int32)), .val (.ref b_44), .val .null, .val (.ref b45), .unset, .unset, .unset] [(.ref r_REMOVED), (.int (1 : Int32)), (.ref b47), (.ref b47)])) rfl rfl (hb hby at_115)
        have V51 : Arv Z h51 b47 k47 (.object "com/example/measured_cache/measuredcache/cache/Change") (8 : Int32) [(.ref r_NONE), (.ref r_REMOVED), .null, .null, .null, .null, .null, .null] .null := Arv.set Ar51 q51 S51 M51 H51 G51 rfl W51 1 rfl (Nat.le_of_ble_eq_true rfl)
        have Nf51 := Fr.snoc X51 Nf49 g_b47
        have K51 : Keep h0 h51 [] := K49.wr W51 (Or.inr sz_b47)
        have Z51 : n0 ≤ h51.size := Nat.le_trans Z49 (Keep.of_wr W51).1
        refine own_fw (A' := (T51.setTop (mkF m 116 #[.val (.int p1), .val (.int p2), .val (.int p3), .val (.int (0 : Int32)), .val (.int (1 : Int32)), .val (.int (1 : Int32)), .val (.ref b_44), .val .null, .val (.ref b45), .unset, .unset, .unset] [(.ref b47)]))) (fun t k => st51 _ k) ?_
        refine own_fw (A' := (T51.setTop (mkF m 117 #[.val (.int p1), .val (.int p2), .val (.int p3), .val (.int (0 : Int32)), .val (.int (1 : Int32)), .val (.int (1 : Int32)), .val (.ref b_44), .val .null, .val (.ref b45), .unset, .unset, .unset] [(.ref b47), (.ref b47)]))) (fun t k => XS.dup X51.here hx rfl (hb hby at_116) rfl rfl k) ?_
        refine own_fw (A' := (T51.setTop (mkF m 118 #[.val (.int p1), .val (.int p2), .val (.int p3), .val (.int (0 : Int32)), .val (.int (1 : Int32)), .val (.int (1 : Int32)), .val (.ref b_44), .val .null, .val (.ref b45), .unset, .unset, .unset] [(.int (2 : Int32)), (.ref b47), (.ref b47)]))) (fun t k => XS.iconst X51.here hx rfl (hb hby at_117) k) ?_
        obtain ⟨T52, X52, e52, st52⟩ := getS2 X51 hx hZ hown (host := "") (Or.inl (hw _ (List.mem_of_getElem? (i := 2) rfl))) Via.refl e51 ((((own_staKeep ((own_staKeep P3 Kq44 all0).ext E45) Kq46 (allS (own_plainE A45) all0)).ext E47).wr W49).wr W51) (g := (mkF m 118 #[.val (.int p1), .val (.int p2), .val (.int p3), .val (.int (0 : Int32)), .val (.int (1 : Int32)), .val (.int (1 : Int32)), .val (.ref b_44), .val .null, .val (.ref b45), .unset, .unset, .unset] [(.int (2 : Int32)), (.ref b47), (.ref b47)])) rfl (hb hby at_118)
        refine own_fw (A' := (T52.setTop (mkF m 121 #[.val (.int p1), .val (.int p2), .val (.int p3), .val (.int (0 : Int32)), .val (.int (1 : Int32)), .val (.int (1 : Int32)), .val (.ref b_44), .val .null, .val (.ref b45), .unset, .unset, .unset] [(.ref r_NONE), (.int (2 : Int32)), (.ref b47), (.ref b47)]))) (fun t k => st52 _ k) ?_
        obtain ⟨cl53, Ar53, q53, S53, M53, H53, G53⟩ := id V51
        have hin53 : ¬ ((2 : Int32) < 0 ∨ cl53.slots.size ≤ ((2 : Int32)).toNatClampNeg) := inb_of S53 ⟨by decide, by decide⟩
        obtain ⟨T53, h53, X53, e53, W53, st53⟩ := stR X52 hx hZ e52 Ar53 (j := (2 : Int32)) hin53 rfl (Sto.ofV Ar53 q53 O47 (Ins.self ((((((P4.keep Kq44).ext E45).keep Kq46).ext E47).wr W49).wr W51))) (g := (mkF m 121 #[.val (.int p1), .val (.int p2), .val (.int p3), .val (.int (0 : Int32)), .val (.int (1 : Int32)), .val (.int (1 : Int32)), .val (.ref b_44), .val .null, .val (.ref b45), .unset, .unset, .unset] [(.ref r_NONE), (.int (2 : Int32)), (.ref b47), (.ref b47)])) rfl rfl (hb hby at_121)
        have V53 : Arv Z h53 b47 k47 (.object "com/example/measured_cache/measuredcache/cache/Change") (8 : Int32) [(.ref r_NONE), (.ref r_REMOVED), (.ref r_NONE), .null, .null, .null, .null, .null] .null := Arv.set Ar53 q53 S53 M53 H53 G53 rfl W53 2 rfl (Nat.le_of_ble_eq_true rfl)
        have Nf53 := Fr.snoc X53 Nf51 g_b47
        have K53 : Keep h0 h53 [] := K51.wr W53 (Or.inr sz_b47)
        have Z53 : n0 ≤ h53.size := Nat.le_trans Z51 (Keep.of_wr W53).1
        refine own_fw (A' := (T53.setTop (mkF m 122 #[.val (.int p1), .val (.int p2), .val (.int p3), .val (.int (0 : Int32)), .val (.int (1 : Int32)), .val (.int (1 : Int32)), .val (.ref b_44), .val .null, .val (.ref b45), .unset, .unset, .unset] [(.ref b47)]))) (fun t k => st53 _ k) ?_
        refine own_fw (A' := (T53.setTop (mkF m 123 #[.val (.int p1), .val (.int p2), .val (.int p3), .val (.int (0 : Int32)), .val (.int (1 : Int32)), .val (.int (1 : Int32)), .val (.ref b_44), .val .null, .val (.ref b45), .unset, .unset, .unset] [(.ref b47), (.ref b47)]))) (fun t k => XS.dup X53.here hx rfl (hb hby at_122) rfl rfl k) ?_
        refine own_fw (A' := (T53.setTop (mkF m 124 #[.val (.int p1), .val (.int p2), .val (.int p3), .val (.int (0 : Int32)), .val (.int (1 : Int32)), .val (.int (1 : Int32)), .val (.ref b_44), .val .null, .val (.ref b45), .unset, .unset, .unset] [(.int (3 : Int32)), (.ref b47), (.ref b47)]))) (fun t k => XS.iconst X53.here hx rfl (hb hby at_123) k) ?_
        obtain ⟨T54, X54, e54, st54⟩ := getS2 X53 hx hZ hown (host := "") (Or.inl (hw _ (List.mem_of_getElem? (i := 8) rfl))) Via.refl e53 (((((own_staKeep ((own_staKeep P7 Kq44 all0).ext E45) Kq46 (allS (own_plainE A45) all0)).ext E47).wr W49).wr W51).wr W53) (g := (mkF m 124 #[.val (.int p1), .val (.int p2), .val (.int p3), .val (.int (0 : Int32)), .val (.int (1 : Int32)), .val (.int (1 : Int32)), .val (.ref b_44), .val .null, .val (.ref b45), .unset, .unset, .unset] [(.int (3 : Int32)), (.ref b47), (.ref b47)])) rfl (hb hby at_124)
        refine own_fw (A' := (T54.setTop (mkF m 127 #[.val (.int p1), .val (.int p2), .val (.int p3), .val (.int (0 : Int32)), .val (.int (1 : Int32)), .val (.int (1 : Int32)), .val (.ref b_44), .val .null, .val (.ref b45), .unset, .unset, .unset] [(.ref r_EXPIRED), (.int (3 : Int32)), (.ref b47), (.ref b47)]))) (fun t k => st54 _ k) ?_
        obtain ⟨cl55, Ar55, q55, S55, M55, H55, G55⟩ := id V53
        have hin55 : ¬ ((3 : Int32) < 0 ∨ cl55.slots.size ≤ ((3 : Int32)).toNatClampNeg) := inb_of S55 ⟨by decide, by decide⟩
        obtain ⟨T55, h55, X55, e55, W55, st55⟩ := stR X54 hx hZ e54 Ar55 (j := (3 : Int32)) hin55 rfl (Sto.ofV Ar55 q55 O47 (Ins.self (((((((P8.keep Kq44).ext E45).keep Kq46).ext E47).wr W49).wr W51).wr W53))) (g := (mkF m 127 #[.val (.int p1), .val (.int p2), .val (.int p3), .val (.int (0 : Int32)), .val (.int (1 : Int32)), .val (.int (1 : Int32)), .val (.ref b_44), .val .null, .val (.ref b45), .unset, .unset, .unset] [(.ref r_EXPIRED), (.int (3 : Int32)), (.ref b47), (.ref b47)])) rfl rfl (hb hby at_127)
        have V55 : Arv Z h55 b47 k47 (.object "com/example/measured_cache/measuredcache/cache/Change") (8 : Int32) [(.ref r_NONE), (.ref r_REMOVED), (.ref r_NONE), (.ref r_EXPIRED), .null, .null, .null, .null] .null := Arv.set Ar55 q55 S55 M55 H55 G55 rfl W55 3 rfl (Nat.le_of_ble_eq_true rfl)
        have Nf55 := Fr.snoc X55 Nf53 g_b47
        have K55 : Keep h0 h55 [] := K53.wr W55 (Or.inr sz_b47)
        have Z55 : n0 ≤ h55.size := Nat.le_trans Z53 (Keep.of_wr W55).1
        refine own_fw (A' := (T55.setTop (mkF m 128 #[.val (.int p1), .val (.int p2), .val (.int p3), .val (.int (0 : Int32)), .val (.int (1 : Int32)), .val (.int (1 : Int32)), .val (.ref b_44), .val .null, .val (.ref b45), .unset, .unset, .unset] [(.ref b47)]))) (fun t k => st55 _ k) ?_
        refine own_fw (A' := (T55.setTop (mkF m 129 #[.val (.int p1), .val (.int p2), .val (.int p3), .val (.int (0 : Int32)), .val (.int (1 : Int32)), .val (.int (1 : Int32)), .val (.ref b_44), .val .null, .val (.ref b45), .unset, .unset, .unset] [(.ref b47), (.ref b47)]))) (fun t k => XS.dup X55.here hx rfl (hb hby at_128) rfl rfl k) ?_
        refine own_fw (A' := (T55.setTop (mkF m 130 #[.val (.int p1), .val (.int p2), .val (.int p3), .val (.int (0 : Int32)), .val (.int (1 : Int32)), .val (.int (1 : Int32)), .val (.ref b_44), .val .null, .val (.ref b45), .unset, .unset, .unset] [(.int (4 : Int32)), (.ref b47), (.ref b47)]))) (fun t k => XS.iconst X55.here hx rfl (hb hby at_129) k) ?_
        obtain ⟨T56, X56, e56, st56⟩ := getS2 X55 hx hZ hown (host := "") (Or.inl (hw _ (List.mem_of_getElem? (i := 10) rfl))) Via.refl e55 ((((((own_staKeep ((own_staKeep P9 Kq44 all0).ext E45) Kq46 (allS (own_plainE A45) all0)).ext E47).wr W49).wr W51).wr W53).wr W55) (g := (mkF m 130 #[.val (.int p1), .val (.int p2), .val (.int p3), .val (.int (0 : Int32)), .val (.int (1 : Int32)), .val (.int (1 : Int32)), .val (.ref b_44), .val .null, .val (.ref b45), .unset, .unset, .unset] [(.int (4 : Int32)), (.ref b47), (.ref b47)])) rfl (hb hby at_130)
        refine own_fw (A' := (T56.setTop (mkF m 133 #[.val (.int p1), .val (.int p2), .val (.int p3), .val (.int (0 : Int32)), .val (.int (1 : Int32)), .val (.int (1 : Int32)), .val (.ref b_44), .val .null, .val (.ref b45), .unset, .unset, .unset] [(.ref r_CREATED), (.int (4 : Int32)), (.ref b47), (.ref b47)]))) (fun t k => st56 _ k) ?_
        obtain ⟨cl57, Ar57, q57, S57, M57, H57, G57⟩ := id V55
        have hin57 : ¬ ((4 : Int32) < 0 ∨ cl57.slots.size ≤ ((4 : Int32)).toNatClampNeg) := inb_of S57 ⟨by decide, by decide⟩
        obtain ⟨T57, h57, X57, e57, W57, st57⟩ := stR X56 hx hZ e56 Ar57 (j := (4 : Int32)) hin57 rfl (Sto.ofV Ar57 q57 O47 (Ins.self ((((((((P10.keep Kq44).ext E45).keep Kq46).ext E47).wr W49).wr W51).wr W53).wr W55))) (g := (mkF m 133 #[.val (.int p1), .val (.int p2), .val (.int p3), .val (.int (0 : Int32)), .val (.int (1 : Int32)), .val (.int (1 : Int32)), .val (.ref b_44), .val .null, .val (.ref b45), .unset, .unset, .unset] [(.ref r_CREATED), (.int (4 : Int32)), (.ref b47), (.ref b47)])) rfl rfl (hb hby at_133)
        have V57 : Arv Z h57 b47 k47 (.object "com/example/measured_cache/measuredcache/cache/Change") (8 : Int32) [(.ref r_NONE), (.ref r_REMOVED), (.ref r_NONE), (.ref r_EXPIRED), (.ref r_CREATED), .null, .null, .null] .null := Arv.set Ar57 q57 S57 M57 H57 G57 rfl W57 4 rfl (Nat.le_of_ble_eq_true rfl)
        have Nf57 := Fr.snoc X57 Nf55 g_b47
        have K57 : Keep h0 h57 [] := K55.wr W57 (Or.inr sz_b47)
        have Z57 : n0 ≤ h57.size := Nat.le_trans Z55 (Keep.of_wr W57).1
        refine own_fw (A' := (T57.setTop (mkF m 134 #[.val (.int p1), .val (.int p2), .val (.int p3), .val (.int (0 : Int32)), .val (.int (1 : Int32)), .val (.int (1 : Int32)), .val (.ref b_44), .val .null, .val (.ref b45), .unset, .unset, .unset] [(.ref b47)]))) (fun t k => st57 _ k) ?_
        refine own_fw (A' := (T57.setTop (mkF m 135 #[.val (.int p1), .val (.int p2), .val (.int p3), .val (.int (0 : Int32)), .val (.int (1 : Int32)), .val (.int (1 : Int32)), .val (.ref b_44), .val .null, .val (.ref b45), .unset, .unset, .unset] [(.ref b47), (.ref b47)]))) (fun t k => XS.dup X57.here hx rfl (hb hby at_134) rfl rfl k) ?_
        refine own_fw (A' := (T57.setTop (mkF m 136 #[.val (.int p1), .val (.int p2), .val (.int p3), .val (.int (0 : Int32)), .val (.int (1 : Int32)), .val (.int (1 : Int32)), .val (.ref b_44), .val .null, .val (.ref b45), .unset, .unset, .unset] [(.int (5 : Int32)), (.ref b47), (.ref b47)]))) (fun t k => XS.iconst X57.here hx rfl (hb hby at_135) k) ?_
        obtain ⟨T58, X58, e58, st58⟩ := getS2 X57 hx hZ hown (host := "") (Or.inl (hw _ (List.mem_of_getElem? (i := 12) rfl))) Via.refl e57 (((((((own_staKeep ((own_staKeep P11 Kq44 all0).ext E45) Kq46 (allS (own_plainE A45) all0)).ext E47).wr W49).wr W51).wr W53).wr W55).wr W57) (g := (mkF m 136 #[.val (.int p1), .val (.int p2), .val (.int p3), .val (.int (0 : Int32)), .val (.int (1 : Int32)), .val (.int (1 : Int32)), .val (.ref b_44), .val .null, .val (.ref b45), .unset, .unset, .unset] [(.int (5 : Int32)), (.ref b47), (.ref b47)])) rfl (hb hby at_136)
        refine own_fw (A' := (T58.setTop (mkF m 139 #[.val (.int p1), .val (.int p2), .val (.int p3), .val (.int (0 : Int32)), .val (.int (1 : Int32)), .val (.int (1 : Int32)), .val (.ref b_44), .val .null, .val (.ref b45), .unset, .unset, .unset] [(.ref r_UPDATED), (.int (5 : Int32)), (.ref b47), (.ref b47)]))) (fun t k => st58 _ k) ?_
        obtain ⟨cl59, Ar59, q59, S59, M59, H59, G59⟩ := id V57
        have hin59 : ¬ ((5 : Int32) < 0 ∨ cl59.slots.size ≤ ((5 : Int32)).toNatClampNeg) := inb_of S59 ⟨by decide, by decide⟩
        obtain ⟨T59, h59, X59, e59, W59, st59⟩ := stR X58 hx hZ e58 Ar59 (j := (5 : Int32)) hin59 rfl (Sto.ofV Ar59 q59 O47 (Ins.self (((((((((P12.keep Kq44).ext E45).keep Kq46).ext E47).wr W49).wr W51).wr W53).wr W55).wr W57))) (g := (mkF m 139 #[.val (.int p1), .val (.int p2), .val (.int p3), .val (.int (0 : Int32)), .val (.int (1 : Int32)), .val (.int (1 : Int32)), .val (.ref b_44), .val .null, .val (.ref b45), .unset, .unset, .unset] [(.ref r_UPDATED), (.int (5 : Int32)), (.ref b47), (.ref b47)])) rfl rfl (hb hby at_139)
        have V59 : Arv Z h59 b47 k47 (.object "com/example/measured_cache/measuredcache/cache/Change") (8 : Int32) [(.ref r_NONE), (.ref r_REMOVED), (.ref r_NONE), (.ref r_EXPIRED), (.ref r_CREATED), (.ref r_UPDATED), .null, .null] .null := Arv.set Ar59 q59 S59 M59 H59 G59 rfl W59 5 rfl (Nat.le_of_ble_eq_true rfl)
        have Nf59 := Fr.snoc X59 Nf57 g_b47
        have K59 : Keep h0 h59 [] := K57.wr W59 (Or.inr sz_b47)
        have Z59 : n0 ≤ h59.size := Nat.le_trans Z57 (Keep.of_wr W59).1
        refine own_fw (A' := (T59.setTop (mkF m 140 #[.val (.int p1), .val (.int p2), .val (.int p3), .val (.int (0 : Int32)), .val (.int (1 : Int32)), .val (.int (1 : Int32)), .val (.ref b_44), .val .null, .val (.ref b45), .unset, .unset, .unset] [(.ref b47)]))) (fun t k => st59 _ k) ?_
        refine own_fw (A' := (T59.setTop (mkF m 141 #[.val (.int p1), .val (.int p2), .val (.int p3), .val (.int (0 : Int32)), .val (.int (1 : Int32)), .val (.int (1 : Int32)), .val (.ref b_44), .val .null, .val (.ref b45), .unset, .unset, .unset] [(.ref b47), (.ref b47)]))) (fun t k => XS.dup X59.here hx rfl (hb hby at_140) rfl rfl k) ?_
        refine own_fw (A' := (T59.setTop (mkF m 143 #[.val (.int p1), .val (.int p2), .val (.int p3), .val (.int (0 : Int32)), .val (.int (1 : Int32)), .val (.int (1 : Int32)), .val (.ref b_44), .val .null, .val (.ref b45), .unset, .unset, .unset] [(.int (6 : Int32)), (.ref b47), (.ref b47)]))) (fun t k => XS.bipush X59.here hx rfl (hb hby at_141) k) ?_
        obtain ⟨T60, X60, e60, st60⟩ := getS2 X59 hx hZ hown (host := "") (Or.inl (hw _ (List.mem_of_getElem? (i := 10) rfl))) Via.refl e59 ((((((((own_staKeep ((own_staKeep P9 Kq44 all0).ext E45) Kq46 (allS (own_plainE A45) all0)).ext E47).wr W49).wr W51).wr W53).wr W55).wr W57).wr W59) (g := (mkF m 143 #[.val (.int p1), .val (.int p2), .val (.int p3), .val (.int (0 : Int32)), .val (.int (1 : Int32)), .val (.int (1 : Int32)), .val (.ref b_44), .val .null, .val (.ref b45), .unset, .unset, .unset] [(.int (6 : Int32)), (.ref b47), (.ref b47)])) rfl (hb hby at_143)
        refine own_fw (A' := (T60.setTop (mkF m 146 #[.val (.int p1), .val (.int p2), .val (.int p3), .val (.int (0 : Int32)), .val (.int (1 : Int32)), .val (.int (1 : Int32)), .val (.ref b_44), .val .null, .val (.ref b45), .unset, .unset, .unset] [(.ref r_CREATED), (.int (6 : Int32)), (.ref b47), (.ref b47)]))) (fun t k => st60 _ k) ?_
        obtain ⟨cl61, Ar61, q61, S61, M61, H61, G61⟩ := id V59
        have hin61 : ¬ ((6 : Int32) < 0 ∨ cl61.slots.size ≤ ((6 : Int32)).toNatClampNeg) := inb_of S61 ⟨by decide, by decide⟩
        obtain ⟨T61, h61, X61, e61, W61, st61⟩ := stR X60 hx hZ e60 Ar61 (j := (6 : Int32)) hin61 rfl (Sto.ofV Ar61 q61 O47 (Ins.self ((((((((((P10.keep Kq44).ext E45).keep Kq46).ext E47).wr W49).wr W51).wr W53).wr W55).wr W57).wr W59))) (g := (mkF m 146 #[.val (.int p1), .val (.int p2), .val (.int p3), .val (.int (0 : Int32)), .val (.int (1 : Int32)), .val (.int (1 : Int32)), .val (.ref b_44), .val .null, .val (.ref b45), .unset, .unset, .unset] [(.ref r_CREATED), (.int (6 : Int32)), (.ref b47), (.ref b47)])) rfl rfl (hb hby at_146)
        have V61 : Arv Z h61 b47 k47 (.object "com/example/measured_cache/measuredcache/cache/Change") (8 : Int32) [(.ref r_NONE), (.ref r_REMOVED), (.ref r_NONE), (.ref r_EXPIRED), (.ref r_CREATED), (.ref r_UPDATED), (.ref r_CREATED), .null] .null := Arv.set Ar61 q61 S61 M61 H61 G61 rfl W61 6 rfl (Nat.le_of_ble_eq_true rfl)
        have Nf61 := Fr.snoc X61 Nf59 g_b47
        have K61 : Keep h0 h61 [] := K59.wr W61 (Or.inr sz_b47)
        have Z61 : n0 ≤ h61.size := Nat.le_trans Z59 (Keep.of_wr W61).1
        refine own_fw (A' := (T61.setTop (mkF m 147 #[.val (.int p1), .val (.int p2), .val (.int p3), .val (.int (0 : Int32)), .val (.int (1 : Int32)), .val (.int (1 : Int32)), .val (.ref b_44), .val .null, .val (.ref b45), .unset, .unset, .unset] [(.ref b47)]))) (fun t k => st61 _ k) ?_
        refine own_fw (A' := (T61.setTop (mkF m 148 #[.val (.int p1), .val (.int p2), .val (.int p3), .val (.int (0 : Int32)), .val (.int (1 : Int32)), .val (.int (1 : Int32)), .val (.ref b_44), .val .null, .val (.ref b45), .unset, .unset, .unset] [(.ref b47), (.ref b47)]))) (fun t k => XS.dup X61.here hx rfl (hb hby at_147) rfl rfl k) ?_
        refine own_fw (A' := (T61.setTop (mkF m 150 #[.val (.int p1), .val (.int p2), .val (.int p3), .val (.int (0 : Int32)), .val (.int (1 : Int32)), .val (.int (1 : Int32)), .val (.ref b_44), .val .null, .val (.ref b45), .unset, .unset, .unset] [(.int (7 : Int32)), (.ref b47), (.ref b47)]))) (fun t k => XS.bipush X61.here hx rfl (hb hby at_148) k) ?_
        obtain ⟨T62, X62, e62, st62⟩ := getS2 X61 hx hZ hown (host := "") (Or.inl (hw _ (List.mem_of_getElem? (i := 12) rfl))) Via.refl e61 (((((((((own_staKeep ((own_staKeep P11 Kq44 all0).ext E45) Kq46 (allS (own_plainE A45) all0)).ext E47).wr W49).wr W51).wr W53).wr W55).wr W57).wr W59).wr W61) (g := (mkF m 150 #[.val (.int p1), .val (.int p2), .val (.int p3), .val (.int (0 : Int32)), .val (.int (1 : Int32)), .val (.int (1 : Int32)), .val (.ref b_44), .val .null, .val (.ref b45), .unset, .unset, .unset] [(.int (7 : Int32)), (.ref b47), (.ref b47)])) rfl (hb hby at_150)
        refine own_fw (A' := (T62.setTop (mkF m 153 #[.val (.int p1), .val (.int p2), .val (.int p3), .val (.int (0 : Int32)), .val (.int (1 : Int32)), .val (.int (1 : Int32)), .val (.ref b_44), .val .null, .val (.ref b45), .unset, .unset, .unset] [(.ref r_UPDATED), (.int (7 : Int32)), (.ref b47), (.ref b47)]))) (fun t k => st62 _ k) ?_
        obtain ⟨cl63, Ar63, q63, S63, M63, H63, G63⟩ := id V61
        have hin63 : ¬ ((7 : Int32) < 0 ∨ cl63.slots.size ≤ ((7 : Int32)).toNatClampNeg) := inb_of S63 ⟨by decide, by decide⟩
        obtain ⟨T63, h63, X63, e63, W63, st63⟩ := stR X62 hx hZ e62 Ar63 (j := (7 : Int32)) hin63 rfl (Sto.ofV Ar63 q63 O47 (Ins.self (((((((((((P12.keep Kq44).ext E45).keep Kq46).ext E47).wr W49).wr W51).wr W53).wr W55).wr W57).wr W59).wr W61))) (g := (mkF m 153 #[.val (.int p1), .val (.int p2), .val (.int p3), .val (.int (0 : Int32)), .val (.int (1 : Int32)), .val (.int (1 : Int32)), .val (.ref b_44), .val .null, .val (.ref b45), .unset, .unset, .unset] [(.ref r_UPDATED), (.int (7 : Int32)), (.ref b47), (.ref b47)])) rfl rfl (hb hby at_153)
        have V63 : Arv Z h63 b47 k47 (.object "com/example/measured_cache/measuredcache/cache/Change") (8 : Int32) [(.ref r_NONE), (.ref r_REMOVED), (.ref r_NONE), (.ref r_EXPIRED), (.ref r_CREATED), (.ref r_UPDATED), (.ref r_CREATED), (.ref r_UPDATED)] .null := Arv.set Ar63 q63 S63 M63 H63 G63 rfl W63 7 rfl (Nat.le_of_ble_eq_true rfl)
        have Nf63 := Fr.snoc X63 Nf61 g_b47
        have K63 : Keep h0 h63 [] := K61.wr W63 (Or.inr sz_b47)
        have Z63 : n0 ≤ h63.size := Nat.le_trans Z61 (Keep.of_wr W63).1
        refine own_fw (A' := (T63.setTop (mkF m 154 #[.val (.int p1), .val (.int p2), .val (.int p3), .val (.int (0 : Int32)), .val (.int (1 : Int32)), .val (.int (1 : Int32)), .val (.ref b_44), .val .null, .val (.ref b45), .unset, .unset, .unset] [(.ref b47)]))) (fun t k => st63 _ k) ?_
        refine own_fw (A' := (T63.setTop (mkF m 156 #[.val (.int p1), .val (.int p2), .val (.int p3), .val (.int (0 : Int32)), .val (.int (1 : Int32)), .val (.int (1 : Int32)), .val (.ref b_44), .val .null, .val (.ref b45), .val (.ref b47), .unset, .unset] []))) (fun t k => XS.astore X63.here hx rfl (hb hby at_154) rfl rfl (l' := #[.val (.int p1), .val (.int p2), .val (.int p3), .val (.int (0 : Int32)), .val (.int (1 : Int32)), .val (.int (1 : Int32)), .val (.ref b_44), .val .null, .val (.ref b45), .val (.ref b47), .unset, .unset]) rfl k) ?_
        refine own_fw (A' := (T63.setTop (mkF m 158 #[.val (.int p1), .val (.int p2), .val (.int p3), .val (.int (0 : Int32)), .val (.int (1 : Int32)), .val (.int (1 : Int32)), .val (.ref b_44), .val .null, .val (.ref b45), .val (.ref b47), .unset, .unset] [(.ref b47)]))) (fun t k => XS.aload X63.here hx rfl (hb hby at_156) rfl rfl k) ?_
        refine own_fw (A' := (T63.setTop (mkF m 159 #[.val (.int p1), .val (.int p2), .val (.int p3), .val (.int (0 : Int32)), .val (.int (1 : Int32)), .val (.int (1 : Int32)), .val (.ref b_44), .val .null, .val (.ref b45), .val (.ref b47), .unset, .unset] [(.int p1), (.ref b47)]))) (fun t k => XS.iloadN X63.here hx rfl (hb hby at_158) rfl k) ?_
        refine own_fw (A' := (T63.setTop (mkF m 161 #[.val (.int p1), .val (.int p2), .val (.int p3), .val (.int (0 : Int32)), .val (.int (1 : Int32)), .val (.int (1 : Int32)), .val (.ref b_44), .val .null, .val (.ref b45), .val (.ref b47), .unset, .unset] [(.int (7 : Int32)), (.int p1), (.ref b47)]))) (fun t k => XS.bipush X63.here hx rfl (hb hby at_159) k) ?_
        refine own_fw (A' := (T63.setTop (mkF m 162 #[.val (.int p1), .val (.int p2), .val (.int p3), .val (.int (0 : Int32)), .val (.int (1 : Int32)), .val (.int (1 : Int32)), .val (.ref b_44), .val .null, .val (.ref b45), .val (.ref b47), .unset, .unset] [(.int (p1 &&& (7 : Int32))), (.ref b47)]))) (fun t k => XS.iand X63.here hx rfl (hb hby at_161) rfl k) ?_
        rw [own_ix p1 (4 : Int32) true false true (decide_eq_true hc1) (decide_eq_false hc2) (decide_eq_true hc43) (by decide)]
        obtain ⟨cl64, Ar64, q64, S64, M64, H64, G64⟩ := id V63
        have hin64 : ¬ ((4 : Int32) < 0 ∨ cl64.slots.size ≤ ((4 : Int32)).toNatClampNeg) := inb_of S64 ⟨by decide, by decide⟩
        have hat64 : cl64.slots[((4 : Int32)).toNatClampNeg]? = some (.ref r_CREATED) := H64.at hin64 rfl
        refine own_fw (A' := (T63.setTop (mkF m 163 #[.val (.int p1), .val (.int p2), .val (.int p3), .val (.int (0 : Int32)), .val (.int (1 : Int32)), .val (.int (1 : Int32)), .val (.ref b_44), .val .null, .val (.ref b45), .val (.ref b47), .unset, .unset] [(.ref r_CREATED)]))) (fun t k => X63.aaload hx (j := (4 : Int32)) (v := (.ref r_CREATED)) (by rw [e63]; exact Ar64.1) (State.isArrayOf_alike hZ.alike Ar64.2.1) rfl Ar64.2.2 hin64 hat64 (g := (mkF m 162 #[.val (.int p1), .val (.int p2), .val (.int p3), .val (.int (0 : Int32)), .val (.int (1 : Int32)), .val (.int (1 : Int32)), .val (.ref b_44), .val .null, .val (.ref b45), .val (.ref b47), .unset, .unset] [(.int (4 : Int32)), (.ref b47)])) rfl rfl (hb hby at_162) _ k) ?_
        refine own_fw (A' := (T63.setTop (mkF m 165 #[.val (.int p1), .val (.int p2), .val (.int p3), .val (.int (0 : Int32)), .val (.int (1 : Int32)), .val (.int (1 : Int32)), .val (.ref b_44), .val .null, .val (.ref b45), .val (.ref b47), .val (.ref r_CREATED), .unset] []))) (fun t k => XS.astore X63.here hx rfl (hb hby at_163) rfl rfl (l' := #[.val (.int p1), .val (.int p2), .val (.int p3), .val (.int (0 : Int32)), .val (.int (1 : Int32)), .val (.int (1 : Int32)), .val (.ref b_44), .val .null, .val (.ref b45), .val (.ref b47), .val (.ref r_CREATED), .unset]) rfl k) ?_
        refine own_fw (A' := (T63.setTop (mkF m 167 #[.val (.int p1), .val (.int p2), .val (.int p3), .val (.int (0 : Int32)), .val (.int (1 : Int32)), .val (.int (1 : Int32)), .val (.ref b_44), .val .null, .val (.ref b45), .val (.ref b47), .val (.ref r_CREATED), .unset] [.null]))) (fun t k => XS.aload X63.here hx rfl (hb hby at_165) rfl rfl k) ?_
        refine own_fw (A' := (T63.setTop (mkF m 169 #[.val (.int p1), .val (.int p2), .val (.int p3), .val (.int (0 : Int32)), .val (.int (1 : Int32)), .val (.int (1 : Int32)), .val (.ref b_44), .val .null, .val (.ref b45), .val (.ref b47), .val (.ref r_CREATED), .unset] [(.ref b_44), .null]))) (fun t k => XS.aload X63.here hx rfl (hb hby at_167) rfl rfl k) ?_
        refine own_fw (A' := (T63.setTop (mkF m 171 #[.val (.int p1), .val (.int p2), .val (.int p3), .val (.int (0 : Int32)), .val (.int (1 : Int32)), .val (.int (1 : Int32)), .val (.ref b_44), .val .null, .val (.ref b45), .val (.ref b47), .val (.ref r_CREATED), .unset] [(.ref b45), (.ref b_44), .null]))) (fun t k => XS.aload X63.here hx rfl (hb hby at_169) rfl rfl k) ?_
        obtain ⟨_, _, ⟨T65, L65, k65, n65⟩, -, X65, ⟨Lc65, hQ65, l65, y65, z65⟩, st65⟩ := Jvm.LawKit.callS X63 hx (y := (⟨"com/example/measured_cache/measuredcache/cache/Change", "of", "(Lcom/example/measured_cache/measuredcache/cache/EntryVersion;Ljava/lang/Object;Lcom/example/measured_cache/measuredcache/cache/EntryVersion;)Lcom/example/measured_cache/measuredcache/cache/Change;"⟩ : MethodName)) hown (mvT hZ (hw _ (List.mem_of_getElem? (i := 14) rfl))) (mvT hZ (hw _ (List.mem_of_getElem? (i := 15) rfl))) (mvT hZ (hw _ (List.mem_of_getElem? (i := 3) rfl))) (mvT hZ (hw _ (List.mem_of_getElem? (i := 16) rfl))) (by decide) (backOf (W := 0) (rmOf100 l Z a0 hw [] b_44 b45 r_CREATED h63 n0 Z63 ((((((((((own_staKeep ((own_staKeep P9 Kq44 all0).ext E45) Kq46 (allS (own_plainE A45) all0)).ext E47).wr W49).wr W51).wr W53).wr W55).wr W57).wr W59).wr W61).wr W63)) hZ (hw _ (List.mem_of_getElem? (i := 16) rfl)) (hw _ (List.mem_of_getElem? (i := 3) rfl)) (by decide) (by decide)) (g := (mkF m 171 #[.val (.int p1), .val (.int p2), .val (.int p3), .val (.int (0 : Int32)), .val (.int (1 : Int32)), .val (.int (1 : Int32)), .val (.ref b_44), .val .null, .val (.ref b45), .val (.ref b47), .val (.ref r_CREATED), .unset] [(.ref b45), (.ref b_44), .null])) rfl (by rw [hml]; rfl) (argsL := [.null, (.ref b_44), (.ref b45)]) (rest := []) (lenOf pd__Lcom_example_measured_cache_measuredcache_cache_EntryVersion_Ljava_lang_Object_Lcom_example_measured_cache_measuredcache_cache_EntryVersion__Lcom_example_measured_cache_measuredcache_cache_Change_ rfl) rfl (by show 2 * 0 + _ ≤ _; exact Nat.le_of_eq rfl) (hb hby at_171) (fun _ _ => ⟨rfl, e63, (by decide : 3 + 0 ≤ _), (by decide : 10 + 0 ≤ _)⟩)
        dsimp only [Pt.U, Pt.locs, Pt.cells, Pt.slots] at X65 l65 y65 z65 st65 hQ65
        subst l65 y65 z65
        obtain ⟨rfl, Nq65, e65⟩ := hQ65
        have Nf65 := Fr.app Nf63 Nq65
        refine own_fw (A' := (T65.setTop (mkF m 174 #[.val (.int p1), .val (.int p2), .val (.int p3), .val (.int (0 : Int32)), .val (.int (1 : Int32)), .val (.int (1 : Int32)), .val (.ref b_44), .val .null, .val (.ref b45), .val (.ref b47), .val (.ref r_CREATED), .unset] [(.ref r_CREATED)]))) (fun t k => st65 _ k) ?_
        refine own_fw (A' := (T65.setTop (mkF m 176 #[.val (.int p1), .val (.int p2), .val (.int p3), .val (.int (0 : Int32)), .val (.int (1 : Int32)), .val (.int (1 : Int32)), .val (.ref b_44), .val .null, .val (.ref b45), .val (.ref b47), .val (.ref r_CREATED), .val (.ref r_CREATED)] []))) (fun t k => XS.astore X65.here hx rfl (hb hby at_174) rfl rfl (l' := #[.val (.int p1), .val (.int p2), .val (.int p3), .val (.int (0 : Int32)), .val (.int (1 : Int32)), .val (.int (1 : Int32)), .val (.ref b_44), .val .null, .val (.ref b45), .val (.ref b47), .val (.ref r_CREATED), .val (.ref r_CREATED)]) rfl k) ?_
        refine own_fw (A' := (T65.setTop (mkF m 178 #[.val (.int p1), .val (.int p2), .val (.int p3), .val (.int (0 : Int32)), .val (.int (1 : Int32)), .val (.int (1 : Int32)), .val (.ref b_44), .val .null, .val (.ref b45), .val (.ref b47), .val (.ref r_CREATED), .val (.ref r_CREATED)] [(.ref r_CREATED)]))) (fun t k => XS.aload X65.here hx rfl (hb hby at_176) rfl rfl k) ?_
        refine own_fw (A' := (T65.setTop (mkF m 180 #[.val (.int p1), .val (.int p2), .val (.int p3), .val (.int (0 : Int32)), .val (.int (1 : Int32)), .val (.int (1 : Int32)), .val (.ref b_44), .val .null, .val (.ref b45), .val (.ref b47), .val (.ref r_CREATED), .val (.ref r_CREATED)] [(.ref r_CREATED), (.ref r_CREATED)]))) (fun t k => XS.aload X65.here hx rfl (hb hby at_178) rfl rfl k) ?_
        refine own_fw (A' := (T65.setTop (mkF m 183 #[.val (.int p1), .val (.int p2), .val (.int p3), .val (.int (0 : Int32)), .val (.int (1 : Int32)), .val (.int (1 : Int32)), .val (.ref b_44), .val .null, .val (.ref b45), .val (.ref b47), .val (.ref r_CREATED), .val (.ref r_CREATED)] []))) (fun t k => Jvm.RoadKit.acmp (g := (mkF m 180 #[.val (.int p1), .val (.int p2), .val (.int p3), .val (.int (0 : Int32)), .val (.int (1 : Int32)), .val (.int (1 : Int32)), .val (.ref b_44), .val .null, .val (.ref b45), .val (.ref b47), .val (.ref r_CREATED), .val (.ref r_CREATED)] [(.ref r_CREATED), (.ref r_CREATED)])) X65 hx rfl rfl rfl (pc0 := 180) (pc' := 183) (same := true) rfl (hb hby at_180) rfl (decide_eq_true rfl) (by decide) (by decide) k) ?_
        refine own_fw (A' := (T65.setTop (mkF m 184 #[.val (.int p1), .val (.int p2), .val (.int p3), .val (.int (0 : Int32)), .val (.int (1 : Int32)), .val (.int (1 : Int32)), .val (.ref b_44), .val .null, .val (.ref b45), .val (.ref b47), .val (.ref r_CREATED), .val (.ref r_CREATED)] [(.int (1 : Int32))]))) (fun t k => XS.iconst X65.here hx rfl (hb hby at_183) k) ?_
        refine own_fw (A' := (T65.setTop (mkF m 188 #[.val (.int p1), .val (.int p2), .val (.int p3), .val (.int (0 : Int32)), .val (.int (1 : Int32)), .val (.int (1 : Int32)), .val (.ref b_44), .val .null, .val (.ref b45), .val (.ref b47), .val (.ref r_CREATED), .val (.ref r_CREATED)] [(.int (1 : Int32))]))) (fun t k => XS.goto X65.here hx rfl (pc0 := 184) (pc' := 188) rfl (hb hby at_184) (by decide) (by decide) k) ?_
        obtain ⟨fs, hr, hrun, hended, hW, hsame⟩ := X65.leave (v := some (.int (1 : Int32))) (fun h => by rw [Bd.returns] at h; cases h)
        refine ⟨_, _, ?_, hrun, hended, _, _, rfl, ?_, ⟨_, rfl⟩, hW, hsame.mono (by decide) (by decide)⟩
        · exact retOut X65 hx Bd.returns rfl (Or.inl ⟨rfl, by simp, _, rfl⟩) (hb hby at_188) hr
        · show Q_rm0 Z p1 p2 p3 ca r_NONE r_REMOVED r_EXPIRED r_CREATED r_UPDATED h0 n0 _ T65.heap _
          rw [e65]
          exact ⟨rfl, Nf65⟩
      · refine own_fw (A' := (s₁.setTop (mkF m 36 #[.val (.int p1), .val (.int p2), .val (.int p3), .val (.int (0 : Int32)), .val (.int (1 : Int32)), .unset, .unset, .unset, .unset, .unset, .unset, .unset] []))) (fun t k => XS.ifYes X0.here hx rfl (pc0 := 28) (pc' := 36) rfl (hb hby at_28) rfl (XT.i0_ne_t hc43) (by decide) (by decide) k) ?_
        refine own_fw (A' := (s₁.setTop (mkF m 37 #[.val (.int p1), .val (.int p2), .val (.int p3), .val (.int (0 : Int32)), .val (.int (1 : Int32)), .unset, .unset, .unset, .unset, .unset, .unset, .unset] [(.int (1 : Int32))]))) (fun t k => XS.iconst X0.here hx rfl (hb hby at_36) k) ?_
        refine own_fw (A' := (s₁.setTop (mkF m 41 #[.val (.int p1), .val (.int p2), .val (.int p3), .val (.int (0 : Int32)), .val (.int (1 : Int32)), .unset, .unset, .unset, .unset, .unset, .unset, .unset] [(.int (1 : Int32))]))) (fun t k => XS.goto X0.here hx rfl (pc0 := 37) (pc' := 41) rfl (hb hby at_37) (by decide) (by decide) k) ?_
        refine own_fw (A' := (s₁.setTop (mkF m 43 #[.val (.int p1), .val (.int p2), .val (.int p3), .val (.int (0 : Int32)), .val (.int (1 : Int32)), .val (.int (1 : Int32)), .unset, .unset, .unset, .unset, .unset, .unset] []))) (fun t k => XS.istore X0.here hx rfl (hb hby at_41) rfl (l' := #[.val (.int p1), .val (.int p2), .val (.int p3), .val (.int (0 : Int32)), .val (.int (1 : Int32)), .val (.int (1 : Int32)), .unset, .unset, .unset, .unset, .unset, .unset]) rfl k) ?_
        refine own_fw (A' := (s₁.setTop (mkF m 45 #[.val (.int p1), .val (.int p2), .val (.int p3), .val (.int (0 : Int32)), .val (.int (1 : Int32)), .val (.int (1 : Int32)), .unset, .unset, .unset, .unset, .unset, .unset] [(.int (1 : Int32))]))) (fun t k => XS.iload X0.here hx rfl (hb hby at_43) rfl k) ?_
        refine own_fw (A' := (s₁.setTop (mkF m 48 #[.val (.int p1), .val (.int p2), .val (.int p3), .val (.int (0 : Int32)), .val (.int (1 : Int32)), .val (.int (1 : Int32)), .unset, .unset, .unset, .unset, .unset, .unset] []))) (fun t k => XS.ifNo X0.here hx rfl (hb hby at_45) rfl (XT.i0_eq_f (by decide)) k) ?_
        refine own_fw (A' := (s₁.setTop (mkF m 49 #[.val (.int p1), .val (.int p2), .val (.int p3), .val (.int (0 : Int32)), .val (.int (1 : Int32)), .val (.int (1 : Int32)), .unset, .unset, .unset, .unset, .unset, .unset] [(.int p3)]))) (fun t k => XS.iloadN X0.here hx rfl (hb hby at_48) rfl k) ?_
        obtain ⟨_, _, ⟨T66, L66, k66, n66⟩, -, X66, ⟨Lc66, hQ66, l66, y66, z66⟩, st66⟩ := Jvm.LawKit.callS X0 hx (y := (⟨"java/lang/Integer", "valueOf", "(I)Ljava/lang/Integer;"⟩ : MethodName)) hown (mvT hZ (hw _ (List.mem_of_getElem? (i := 21) rfl))) (mvT hZ (hw _ (List.mem_of_getElem? (i := 22) rfl))) (mvT hZ (hw _ (List.mem_of_getElem? (i := 23) rfl))) (mvT hZ (hw _ (List.mem_of_getElem? (i := 24) rfl))) (by decide) (backOf (W := 0) (rmIntOf l Z a0 hw [] p3 ca h0 n0 Z0 P0 P1 P2) hZ (hw _ (List.mem_of_getElem? (i := 24) rfl)) (hw _ (List.mem_of_getElem? (i := 23) rfl)) (by decide) (by decide)) (g := (mkF m 49 #[.val (.int p1), .val (.int p2), .val (.int p3), .val (.int (0 : Int32)), .val (.int (1 : Int32)), .val (.int (1 : Int32)), .unset, .unset, .unset, .unset, .unset, .unset] [(.int p3)])) rfl (by rw [hml]; rfl) (argsL := [(.int p3)]) (rest := []) (lenOf pd__I_Ljava_lang_Integer_ rfl) rfl (by show 2 * 0 + _ ≤ _; exact Nat.le_of_eq rfl) (hb hby at_49) (fun _ _ => ⟨rfl, e0, (by decide : 0 + 1 ≤ _), (by decide : 0 + 1 ≤ _)⟩)
        dsimp only [Pt.U, Pt.locs, Pt.cells, Pt.slots] at X66 l66 y66 z66 st66 hQ66
        subst l66 y66 z66
        obtain ⟨b_66, rfl, Nq66, Kq66, Fq66_0⟩ := hQ66
        have Nf66 := Fr.app N0 Nq66
        have K66 : Keep h0 T66.heap [] := (Keep.refl h0 []).trans Kq66 all0
        have Z66 : n0 ≤ T66.heap.size := Nat.le_trans Z0 Kq66.1
        refine own_fw (A' := (T66.setTop (mkF m 52 #[.val (.int p1), .val (.int p2), .val (.int p3), .val (.int (0 : Int32)), .val (.int (1 : Int32)), .val (.int (1 : Int32)), .unset, .unset, .unset, .unset, .unset, .unset] [(.ref b_66)]))) (fun t k => st66 _ k) ?_
        refine own_fw (A' := (T66.setTop (mkF m 56 #[.val (.int p1), .val (.int p2), .val (.int p3), .val (.int (0 : Int32)), .val (.int (1 : Int32)), .val (.int (1 : Int32)), .unset, .unset, .unset, .unset, .unset, .unset] [(.ref b_66)]))) (fun t k => XS.goto X66.here hx rfl (pc0 := 52) (pc' := 56) rfl (hb hby at_52) (by decide) (by decide) k) ?_
        refine own_fw (A' := (T66.setTop (mkF m 58 #[.val (.int p1), .val (.int p2), .val (.int p3), .val (.int (0 : Int32)), .val (.int (1 : Int32)), .val (.int (1 : Int32)), .val (.ref b_66), .unset, .unset, .unset, .unset, .unset] []))) (fun t k => XS.astore X66.here hx rfl (hb hby at_56) rfl rfl (l' := #[.val (.int p1), .val (.int p2), .val (.int p3), .val (.int (0 : Int32)), .val (.int (1 : Int32)), .val (.int (1 : Int32)), .val (.ref b_66), .unset, .unset, .unset, .unset, .unset]) rfl k) ?_
        refine own_fw (A' := (T66.setTop (mkF m 59 #[.val (.int p1), .val (.int p2), .val (.int p3), .val (.int (0 : Int32)), .val (.int (1 : Int32)), .val (.int (1 : Int32)), .val (.ref b_66), .unset, .unset, .unset, .unset, .unset] [(.int (0 : Int32))]))) (fun t k => XS.iloadN X66.here hx rfl (hb hby at_58) rfl k) ?_
        refine own_fw (A' := (T66.setTop (mkF m 76 #[.val (.int p1), .val (.int p2), .val (.int p3), .val (.int (0 : Int32)), .val (.int (1 : Int32)), .val (.int (1 : Int32)), .val (.ref b_66), .unset, .unset, .unset, .unset, .unset] []))) (fun t k => XS.ifYes X66.here hx rfl (pc0 := 59) (pc' := 76) rfl (hb hby at_59) rfl (XT.i0_eq_t rfl) (by decide) (by decide) k) ?_
        refine own_fw (A' := (T66.setTop (mkF m 77 #[.val (.int p1), .val (.int p2), .val (.int p3), .val (.int (0 : Int32)), .val (.int (1 : Int32)), .val (.int (1 : Int32)), .val (.ref b_66), .unset, .unset, .unset, .unset, .unset] [.null]))) (fun t k => XS.aconstNull X66.here hx rfl (hb hby at_76) k) ?_
        refine own_fw (A' := (T66.setTop (mkF m 79 #[.val (.int p1), .val (.int p2), .val (.int p3), .val (.int (0 : Int32)), .val (.int (1 : Int32)), .val (.int (1 : Int32)), .val (.ref b_66), .val .null, .unset, .unset, .unset, .unset] []))) (fun t k => XS.astore X66.here hx rfl (hb hby at_77) rfl rfl (l' := #[.val (.int p1), .val (.int p2), .val (.int p3), .val (.int (0 : Int32)), .val (.int (1 : Int32)), .val (.int (1 : Int32)), .val (.ref b_66), .val .null, .unset, .unset, .unset, .unset]) rfl k) ?_
        refine own_fw (A' := (T66.setTop (mkF m 81 #[.val (.int p1), .val (.int p2), .val (.int p3), .val (.int (0 : Int32)), .val (.int (1 : Int32)), .val (.int (1 : Int32)), .val (.ref b_66), .val .null, .unset, .unset, .unset, .unset] [(.int (1 : Int32))]))) (fun t k => XS.iload X66.here hx rfl (hb hby at_79) rfl k) ?_
        refine own_fw (A' := (T66.setTop (mkF m 84 #[.val (.int p1), .val (.int p2), .val (.int p3), .val (.int (0 : Int32)), .val (.int (1 : Int32)), .val (.int (1 : Int32)), .val (.ref b_66), .val .null, .unset, .unset, .unset, .unset] []))) (fun t k => XS.ifNo X66.here hx rfl (hb hby at_81) rfl (XT.i0_eq_f (by decide)) k) ?_
        obtain ⟨T67, h67, X67, e67, E67, A67, D67, -, st67⟩ := newO X66 hx hZ hown (hw _ (List.mem_of_getElem? (i := 18) rfl)) (hw _ (List.mem_of_getElem? (i := 19) rfl)) (hw _ (List.mem_of_getElem? (i := 20) rfl)) rfl (g := (mkF m 84 #[.val (.int p1), .val (.int p2), .val (.int p3), .val (.int (0 : Int32)), .val (.int (1 : Int32)), .val (.int (1 : Int32)), .val (.ref b_66), .val .null, .unset, .unset, .unset, .unset] [])) rfl (hb hby at_84) (by decide) (by decide)
        obtain ⟨b67, gb67⟩ : ∃ z, z = T66.heap.size := ⟨_, rfl⟩
        have g_b67 : n0 ≤ b67 := Nat.le_trans Z66 (Nat.le_of_eq gb67.symm)
        have sz_b67 : h0.size ≤ b67 := Nat.le_trans K66.1 (Nat.le_of_eq gb67.symm)
        have ne_ca_b67 : ca ≠ b67 := Nat.ne_of_lt (Nat.lt_of_lt_of_le (own_cacheLt (own_cacheKeep P2 Kq66 nin0)) (Nat.le_of_eq gb67.symm))
        have ne_r_NONE_b67 : r_NONE ≠ b67 := Nat.ne_of_lt (Nat.lt_of_lt_of_le (P4.keep Kq66).lt (Nat.le_of_eq gb67.symm))
        have ne_r_REMOVED_b67 : r_REMOVED ≠ b67 := Nat.ne_of_lt (Nat.lt_of_lt_of_le (P6.keep Kq66).lt (Nat.le_of_eq gb67.symm))
        have ne_r_EXPIRED_b67 : r_EXPIRED ≠ b67 := Nat.ne_of_lt (Nat.lt_of_lt_of_le (P8.keep Kq66).lt (Nat.le_of_eq gb67.symm))
        have ne_r_CREATED_b67 : r_CREATED ≠ b67 := Nat.ne_of_lt (Nat.lt_of_lt_of_le (P10.keep Kq66).lt (Nat.le_of_eq gb67.symm))
        have ne_r_UPDATED_b67 : r_UPDATED ≠ b67 := Nat.ne_of_lt (Nat.lt_of_lt_of_le (P12.keep Kq66).lt (Nat.le_of_eq gb67.symm))
        have ne_b_66_b67 : b_66 ≠ b67 := Nat.ne_of_lt (Nat.lt_of_lt_of_le Fq66_0.lt (Nat.le_of_eq gb67.symm))
        rw [← gb67] at A67 D67 st67
        have F_content_b67 : Fld Z h67 b67 "com/example/measured_cache/measuredcache/cache/EntryVersion" "content" "Ljava/lang/Object;" .null := D67 (Or.inl (hw _ (List.mem_of_getElem? (i := 35) rfl))) (ty := (.object "java/lang/Object")) (by decide)
        have K67 : Keep h0 h67 [] := K66.ext E67
        have Z67 : n0 ≤ h67.size := Nat.le_trans Z66 E67.1
        refine own_fw (A' := (T67.setTop (mkF m 87 #[.val (.int p1), .val (.int p2), .val (.int p3), .val (.int (0 : Int32)), .val (.int (1 : Int32)), .val (.int (1 : Int32)), .val (.ref b_66), .val .null, .unset, .unset, .unset, .unset] [(.ref b67)]))) (fun t k => st67 _ k) ?_
        refine own_fw (A' := (T67.setTop (mkF m 88 #[.val (.int p1), .val (.int p2), .val (.int p3), .val (.int (0 : Int32)), .val (.int (1 : Int32)), .val (.int (1 : Int32)), .val (.ref b_66), .val .null, .unset, .unset, .unset, .unset] [(.ref b67), (.ref b67)]))) (fun t k => XS.dup X67.here hx rfl (hb hby at_87) rfl rfl k) ?_
        refine own_fw (A' := (T67.setTop (mkF m 90 #[.val (.int p1), .val (.int p2), .val (.int p3), .val (.int (0 : Int32)), .val (.int (1 : Int32)), .val (.int (1 : Int32)), .val (.ref b_66), .val .null, .unset, .unset, .unset, .unset] [(.ref b_66), (.ref b67), (.ref b67)]))) (fun t k => XS.aload X67.here hx rfl (hb hby at_88) rfl rfl k) ?_
        obtain ⟨_, _, ⟨T68, L68, k68, n68⟩, -, X68, ⟨Lc68, hQ68, l68, y68, z68⟩, st68⟩ := X67.specialBack hx (y := (⟨"com/example/measured_cache/measuredcache/cache/EntryVersion", "<init>", "(Ljava/lang/Object;)V"⟩ : MethodName)) rfl hown (mvT hZ (hw _ (List.mem_of_getElem? (i := 28) rfl))) (mvT hZ (hw _ (List.mem_of_getElem? (i := 29) rfl))) (mvT hZ (hw _ (List.mem_of_getElem? (i := 30) rfl))) (by decide) (backOf (W := 1) (rmEv l Z a0 hw [] b67 b_66 h67 n0 Z67 A67 F_content_b67 g_b67) hZ (hw _ (List.mem_of_getElem? (i := 30) rfl)) (hw _ (List.mem_of_getElem? (i := 20) rfl)) (by decide) (by decide)) (g := (mkF m 90 #[.val (.int p1), .val (.int p2), .val (.int p3), .val (.int (0 : Int32)), .val (.int (1 : Int32)), .val (.int (1 : Int32)), .val (.ref b_66), .val .null, .unset, .unset, .unset, .unset] [(.ref b_66), (.ref b67), (.ref b67)])) rfl (by rw [hml]; rfl) (Steps.refl _) (a := b67) (argsL := [(.ref b_66)]) (rest := [(.ref b67)]) (lenOf pd__Ljava_lang_Object__V rfl) rfl (by show 2 * 0 + _ ≤ _; exact Nat.le_of_eq rfl) (hb hby at_90) (fun _ _ => ⟨rfl, e67, (by decide : 2 + 0 ≤ _), (by decide : 2 + 0 ≤ _)⟩)
        dsimp only [Pt.U, Pt.locs, Pt.cells, Pt.slots] at X68 l68 y68 z68 st68 hQ68
        subst l68 y68 z68
        obtain ⟨rfl, Nq68, Kq68, Fq68_0⟩ := hQ68
        have Nf68 := Fr.app Nf66 Nq68
        have K68 : Keep h0 T68.heap [] := K67.trans Kq68 (allS (Or.inr sz_b67) all0)
        have Z68 : n0 ≤ T68.heap.size := Nat.le_trans Z67 Kq68.1
        refine own_fw (A' := (T68.setTop (mkF m 93 #[.val (.int p1), .val (.int p2), .val (.int p3), .val (.int (0 : Int32)), .val (.int (1 : Int32)), .val (.int (1 : Int32)), .val (.ref b_66), .val .null, .unset, .unset, .unset, .unset] [(.ref b67)]))) (fun t k => st68.trans k) ?_
        refine own_fw (A' := (T68.setTop (mkF m 97 #[.val (.int p1), .val (.int p2), .val (.int p3), .val (.int (0 : Int32)), .val (.int (1 : Int32)), .val (.int (1 : Int32)), .val (.ref b_66), .val .null, .unset, .unset, .unset, .unset] [(.ref b67)]))) (fun t k => XS.goto X68.here hx rfl (pc0 := 93) (pc' := 97) rfl (hb hby at_93) (by decide) (by decide) k) ?_
        refine own_fw (A' := (T68.setTop (mkF m 99 #[.val (.int p1), .val (.int p2), .val (.int p3), .val (.int (0 : Int32)), .val (.int (1 : Int32)), .val (.int (1 : Int32)), .val (.ref b_66), .val .null, .val (.ref b67), .unset, .unset, .unset] []))) (fun t k => XS.astore X68.here hx rfl (hb hby at_97) rfl rfl (l' := #[.val (.int p1), .val (.int p2), .val (.int p3), .val (.int (0 : Int32)), .val (.int (1 : Int32)), .val (.int (1 : Int32)), .val (.ref b_66), .val .null, .val (.ref b67), .unset, .unset, .unset]) rfl k) ?_
        refine own_fw (A' := (T68.setTop (mkF m 101 #[.val (.int p1), .val (.int p2), .val (.int p3), .val (.int (0 : Int32)), .val (.int (1 : Int32)), .val (.int (1 : Int32)), .val (.ref b_66), .val .null, .val (.ref b67), .unset, .unset, .unset] [(.int (8 : Int32))]))) (fun t k => XS.bipush X68.here hx rfl (hb hby at_99) k) ?_
        obtain ⟨T69, h69, k69, X69, e69, E69, A69, O69, st69⟩ := newR X68 hx hZ hown (hw _ (List.mem_of_getElem? (i := 0) rfl)) (hw _ (List.mem_of_getElem? (i := 1) rfl)) rfl (g := (mkF m 101 #[.val (.int p1), .val (.int p2), .val (.int p3), .val (.int (0 : Int32)), .val (.int (1 : Int32)), .val (.int (1 : Int32)), .val (.ref b_66), .val .null, .val (.ref b67), .unset, .unset, .unset] [(.int (8 : Int32))])) rfl (hb hby at_101) rfl (by decide) (cap := 8) (by decide) (by decide) (by decide) (by decide)
        obtain ⟨b69, gb69⟩ : ∃ z, z = T68.heap.size := ⟨_, rfl⟩
        have g_b69 : n0 ≤ b69 := Nat.le_trans Z68 (Nat.le_of_eq gb69.symm)
        have sz_b69 : h0.size ≤ b69 := Nat.le_trans K68.1 (Nat.le_of_eq gb69.symm)
        have ne_ca_b69 : ca ≠ b69 := Nat.ne_of_lt (Nat.lt_of_lt_of_le (own_cacheLt (own_cacheKeep (own_cacheExt (own_cacheKeep P2 Kq66 nin0) E67) Kq68 (ninS ne_ca_b67 nin0))) (Nat.le_of_eq gb69.symm))
        have ne_r_NONE_b69 : r_NONE ≠ b69 := Nat.ne_of_lt (Nat.lt_of_lt_of_le (((P4.keep Kq66).ext E67).keep Kq68).lt (Nat.le_of_eq gb69.symm))
        have ne_r_REMOVED_b69 : r_REMOVED ≠ b69 := Nat.ne_of_lt (Nat.lt_of_lt_of_le (((P6.keep Kq66).ext E67).keep Kq68).lt (Nat.le_of_eq gb69.symm))
        have ne_r_EXPIRED_b69 : r_EXPIRED ≠ b69 := Nat.ne_of_lt (Nat.lt_of_lt_of_le (((P8.keep Kq66).ext E67).keep Kq68).lt (Nat.le_of_eq gb69.symm))
        have ne_r_CREATED_b69 : r_CREATED ≠ b69 := Nat.ne_of_lt (Nat.lt_of_lt_of_le (((P10.keep Kq66).ext E67).keep Kq68).lt (Nat.le_of_eq gb69.symm))
        have ne_r_UPDATED_b69 : r_UPDATED ≠ b69 := Nat.ne_of_lt (Nat.lt_of_lt_of_le (((P12.keep Kq66).ext E67).keep Kq68).lt (Nat.le_of_eq gb69.symm))
        have ne_b_66_b69 : b_66 ≠ b69 := Nat.ne_of_lt (Nat.lt_of_lt_of_le ((Fq66_0.ext E67).keep Kq68).lt (Nat.le_of_eq gb69.symm))
        have ne_b67_b69 : b67 ≠ b69 := Nat.ne_of_lt (Nat.lt_of_lt_of_le Fq68_0.lt (Nat.le_of_eq gb69.symm))
        rw [← gb69] at A69 st69
        have V_b69 : Arv Z h69 b69 k69 (.object "com/example/measured_cache/measuredcache/cache/Change") (8 : Int32) [.null, .null, .null, .null, .null, .null, .null, .null] .null := (Arv.new A69 (by decide)).pad (pad_rep [] .null 8)
        have K69 : Keep h0 h69 [] := K68.ext E69
        have Z69 : n0 ≤ h69.size := Nat.le_trans Z68 E69.1
        refine own_fw (A' := (T69.setTop (mkF m 104 #[.val (.int p1), .val (.int p2), .val (.int p3), .val (.int (0 : Int32)), .val (.int (1 : Int32)), .val (.int (1 : Int32)), .val (.ref b_66), .val .null, .val (.ref b67), .unset, .unset, .unset] [(.ref b69)]))) (fun t k => st69 _ k) ?_
        refine own_fw (A' := (T69.setTop (mkF m 105 #[.val (.int p1), .val (.int p2), .val (.int p3), .val (.int (0 : Int32)), .val (.int (1 : Int32)), .val (.int (1 : Int32)), .val (.ref b_66), .val .null, .val (.ref b67), .unset, .unset, .unset] [(.ref b69), (.ref b69)]))) (fun t k => XS.dup X69.here hx rfl (hb hby at_104) rfl rfl k) ?_
        refine own_fw (A' := (T69.setTop (mkF m 106 #[.val (.int p1), .val (.int p2), .val (.int p3), .val (.int (0 : Int32)), .val (.int (1 : Int32)), .val (.int (1 : Int32)), .val (.ref b_66), .val .null, .val (.ref b67), .unset, .unset, .unset] [(.int (0 : Int32)), (.ref b69), (.ref b69)]))) (fun t k => XS.iconst X69.here hx rfl (hb hby at_105) k) ?_
        obtain ⟨T70, X70, e70, st70⟩ := getS2 X69 hx hZ hown (host := "") (Or.inl (hw _ (List.mem_of_getElem? (i := 2) rfl))) Via.refl e69 ((own_staKeep ((own_staKeep P3 Kq66 all0).ext E67) Kq68 (allS (own_plainE A67) all0)).ext E69) (g := (mkF m 106 #[.val (.int p1), .val (.int p2), .val (.int p3), .val (.int (0 : Int32)), .val (.int (1 : Int32)), .val (.int (1 : Int32)), .val (.ref b_66), .val .null, .val (.ref b67), .unset, .unset, .unset] [(.int (0 : Int32)), (.ref b69), (.ref b69)])) rfl (hb hby at_106)
        refine own_fw (A' := (T70.setTop (mkF m 109 #[.val (.int p1), .val (.int p2), .val (.int p3), .val (.int (0 : Int32)), .val (.int (1 : Int32)), .val (.int (1 : Int32)), .val (.ref b_66), .val .null, .val (.ref b67), .unset, .unset, .unset] [(.ref r_NONE), (.int (0 : Int32)), (.ref b69), (.ref b69)]))) (fun t k => st70 _ k) ?_
        obtain ⟨cl71, Ar71, q71, S71, M71, H71, G71⟩ := id V_b69
        have hin71 : ¬ ((0 : Int32) < 0 ∨ cl71.slots.size ≤ ((0 : Int32)).toNatClampNeg) := inb_of S71 ⟨by decide, by decide⟩
        obtain ⟨T71, h71, X71, e71, W71, st71⟩ := stR X70 hx hZ e70 Ar71 (j := (0 : Int32)) hin71 rfl (Sto.ofV Ar71 q71 O69 (Ins.self ((((P4.keep Kq66).ext E67).keep Kq68).ext E69))) (g := (mkF m 109 #[.val (.int p1), .val (.int p2), .val (.int p3), .val (.int (0 : Int32)), .val (.int (1 : Int32)), .val (.int (1 : Int32)), .val (.ref b_66), .val .null, .val (.ref b67), .unset, .unset, .unset] [(.ref r_NONE), (.int (0 : Int32)), (.ref b69), (.ref b69)])) rfl rfl (hb hby at_109)
        have V71 : Arv Z h71 b69 k69 (.object "com/example/measured_cache/measuredcache/cache/Change") (8 : Int32) [(.ref r_NONE), .null, .null, .null, .null, .null, .null, .null] .null := Arv.set Ar71 q71 S71 M71 H71 G71 rfl W71 0 rfl (Nat.le_of_ble_eq_true rfl)
        have Nf71 := Fr.snoc X71 Nf68 g_b69
        have K71 : Keep h0 h71 [] := K69.wr W71 (Or.inr sz_b69)
        have Z71 : n0 ≤ h71.size := Nat.le_trans Z69 (Keep.of_wr W71).1
        refine own_fw (A' := (T71.setTop (mkF m 110 #[.val (.int p1), .val (.int p2), .val (.int p3), .val (.int (0 : Int32)), .val (.int (1 : Int32)), .val (.int (1 : Int32)), .val (.ref b_66), .val .null, .val (.ref b67), .unset, .unset, .unset] [(.ref b69)]))) (fun t k => st71 _ k) ?_
        refine own_fw (A' := (T71.setTop (mkF m 111 #[.val (.int p1), .val (.int p2), .val (.int p3), .val (.int (0 : Int32)), .val (.int (1 : Int32)), .val (.int (1 : Int32)), .val (.ref b_66), .val .null, .val (.ref b67), .unset, .unset, .unset] [(.ref b69), (.ref b69)]))) (fun t k => XS.dup X71.here hx rfl (hb hby at_110) rfl rfl k) ?_
        refine own_fw (A' := (T71.setTop (mkF m 112 #[.val (.int p1), .val (.int p2), .val (.int p3), .val (.int (0 : Int32)), .val (.int (1 : Int32)), .val (.int (1 : Int32)), .val (.ref b_66), .val .null, .val (.ref b67), .unset, .unset, .unset] [(.int (1 : Int32)), (.ref b69), (.ref b69)]))) (fun t k => XS.iconst X71.here hx rfl (hb hby at_111) k) ?_
        obtain ⟨T72, X72, e72, st72⟩ := getS2 X71 hx hZ hown (host := "") (Or.inl (hw _ (List.mem_of_getElem? (i := 6) rfl))) Via.refl e71 (((own_staKeep ((own_staKeep P5 Kq66 all0).ext E67) Kq68 (allS (own_plainE A67) all0)).ext E69).wr W71) (g := (mkF m 112 #[.val (.int p1), .val (.int p2), .val (.int p3), .val (.int (0 : Int32)), .val (.int (1 : Int32)), .val (.int (1 : Int32)), .val (.ref b_66), .val .null, .val (.ref b67), .unset, .unset, .unset] [(.int (1 : Int32)), (.ref b69), (.ref b69)])) rfl (hb hby at_112)
        refine own_fw (A' := (T72.setTop (mkF m 115 #[.val (.int p1), .val (.int p2), .val (.int p3), .val (.int (0 : Int32)), .val (.int (1 : Int32)), .val (.int (1 : Int32)), .val (.ref b_66), .val .null, .val (.ref b67), .unset, .unset, .unset] [(.ref r_REMOVED), (.int (1 : Int32)), (.ref b69), (.ref b69)]))) (fun t k => st72 _ k) ?_
        obtain ⟨cl73, Ar73, q73, S73, M73, H73, G73⟩ := id V71
        have hin73 : ¬ ((1 : Int32) < 0 ∨ cl73.slots.size ≤ ((1 : Int32)).toNatClampNeg) := inb_of S73 ⟨by decide, by decide⟩
        obtain ⟨T73, h73, X73, e73, W73, st73⟩ := stR X72 hx hZ e72 Ar73 (j := (1 : Int32)) hin73 rfl (Sto.ofV Ar73 q73 O69 (Ins.self (((((P6.keep Kq66).ext E67).keep Kq68).ext E69).wr W71))) (g := (mkF m 115 #[.val (.int p1), .val (.int p2), .val (.int p3), .val (.int (0 : Int32)), .val (.int (1 : Int32)), .val (.int (1 : Int32)), .val (.ref b_66), .val .null, .val (.ref b67), .unset, .unset, .unset] [(.ref r_REMOVED), (.int (1 : Int32)), (.ref b69), (.ref b69)])) rfl rfl (hb hby at_115)
        have V73 : Arv Z h73 b69 k69 (.object "com/example/measured_cache/measuredcache/cache/Change") (8 : Int32) [(.ref r_NONE), (.ref r_REMOVED), .null, .null, .null, .null, .null, .null] .null := Arv.set Ar73 q73 S73 M73 H73 G73 rfl W73 1 rfl (Nat.le_of_ble_eq_true rfl)
        have Nf73 := Fr.snoc X73 Nf71 g_b69
        have K73 : Keep h0 h73 [] := K71.wr W73 (Or.inr sz_b69)
        have Z73 : n0 ≤ h73.size := Nat.le_trans Z71 (Keep.of_wr W73).1
        refine own_fw (A' := (T73.setTop (mkF m 116 #[.val (.int p1), .val (.int p2), .val (.int p3), .val (.int (0 : Int32)), .val (.int (1 : Int32)), .val (.int (1 : Int32)), .val (.ref b_66), .val .null, .val (.ref b67), .unset, .unset, .unset] [(.ref b69)]))) (fun t k => st73 _ k) ?_
        refine own_fw (A' := (T73.setTop (mkF m 117 #[.val (.int p1), .val (.int p2), .val (.int p3), .val (.int (0 : Int32)), .val (.int (1 : Int32)), .val (.int (1 : Int32)), .val (.ref b_66), .val .null, .val (.ref b67), .unset, .unset, .unset] [(.ref b69), (.ref b69)]))) (fun t k => XS.dup X73.here hx rfl (hb hby at_116) rfl rfl k) ?_
        refine own_fw (A' := (T73.setTop (mkF m 118 #[.val (.int p1), .val (.int p2), .val (.int p3), .val (.int (0 : Int32)), .val (.int (1 : Int32)), .val (.int (1 : Int32)), .val (.ref b_66), .val .null, .val (.ref b67), .unset, .unset, .unset] [(.int (2 : Int32)), (.ref b69), (.ref b69)]))) (fun t k => XS.iconst X73.here hx rfl (hb hby at_117) k) ?_
        obtain ⟨T74, X74, e74, st74⟩ := getS2 X73 hx hZ hown (host := "") (Or.inl (hw _ (List.mem_of_getElem? (i := 2) rfl))) Via.refl e73 ((((own_staKeep ((own_staKeep P3 Kq66 all0).ext E67) Kq68 (allS (own_plainE A67) all0)).ext E69).wr W71).wr W73) (g := (mkF m 118 #[.val (.int p1), .val (.int p2), .val (.int p3), .val (.int (0 : Int32)), .val (.int (1 : Int32)), .val (.int (1 : Int32)), .val (.ref b_66), .val .null, .val (.ref b67), .unset, .unset, .unset] [(.int (2 : Int32)), (.ref b69), (.ref b69)])) rfl (hb hby at_118)
        refine own_fw (A' := (T74.setTop (mkF m 121 #[.val (.int p1), .val (.int p2), .val (.int p3), .val (.int (0 : Int32)), .val (.int (1 : Int32)), .val (.int (1 : Int32)), .val (.ref b_66), .val .null, .val (.ref b67), .unset, .unset, .unset] [(.ref r_NONE), (.int (2 : Int32)), (.ref b69), (.ref b69)]))) (fun t k => st74 _ k) ?_
        obtain ⟨cl75, Ar75, q75, S75, M75, H75, G75⟩ := id V73
        have hin75 : ¬ ((2 : Int32) < 0 ∨ cl75.slots.size ≤ ((2 : Int32)).toNatClampNeg) := inb_of S75 ⟨by decide, by decide⟩
        obtain ⟨T75, h75, X75, e75, W75, st75⟩ := stR X74 hx hZ e74 Ar75 (j := (2 : Int32)) hin75 rfl (Sto.ofV Ar75 q75 O69 (Ins.self ((((((P4.keep Kq66).ext E67).keep Kq68).ext E69).wr W71).wr W73))) (g := (mkF m 121 #[.val (.int p1), .val (.int p2), .val (.int p3), .val (.int (0 : Int32)), .val (.int (1 : Int32)), .val (.int (1 : Int32)), .val (.ref b_66), .val .null, .val (.ref b67), .unset, .unset, .unset] [(.ref r_NONE), (.int (2 : Int32)), (.ref b69), (.ref b69)])) rfl rfl (hb hby at_121)
        have V75 : Arv Z h75 b69 k69 (.object "com/example/measured_cache/measuredcache/cache/Change") (8 : Int32) [(.ref r_NONE), (.ref r_REMOVED), (.ref r_NONE), .null, .null, .null, .null, .null] .null := Arv.set Ar75 q75 S75 M75 H75 G75 rfl W75 2 rfl (Nat.le_of_ble_eq_true rfl)
        have Nf75 := Fr.snoc X75 Nf73 g_b69
        have K75 : Keep h0 h75 [] := K73.wr W75 (Or.inr sz_b69)
        have Z75 : n0 ≤ h75.size := Nat.le_trans Z73 (Keep.of_wr W75).1
        refine own_fw (A' := (T75.setTop (mkF m 122 #[.val (.int p1), .val (.int p2), .val (.int p3), .val (.int (0 : Int32)), .val (.int (1 : Int32)), .val (.int (1 : Int32)), .val (.ref b_66), .val .null, .val (.ref b67), .unset, .unset, .unset] [(.ref b69)]))) (fun t k => st75 _ k) ?_
        refine own_fw (A' := (T75.setTop (mkF m 123 #[.val (.int p1), .val (.int p2), .val (.int p3), .val (.int (0 : Int32)), .val (.int (1 : Int32)), .val (.int (1 : Int32)), .val (.ref b_66), .val .null, .val (.ref b67), .unset, .unset, .unset] [(.ref b69), (.ref b69)]))) (fun t k => XS.dup X75.here hx rfl (hb hby at_122) rfl rfl k) ?_
        refine own_fw (A' := (T75.setTop (mkF m 124 #[.val (.int p1), .val (.int p2), .val (.int p3), .val (.int (0 : Int32)), .val (.int (1 : Int32)), .val (.int (1 : Int32)), .val (.ref b_66), .val .null, .val (.ref b67), .unset, .unset, .unset] [(.int (3 : Int32)), (.ref b69), (.ref b69)]))) (fun t k => XS.iconst X75.here hx rfl (hb hby at_123) k) ?_
        obtain ⟨T76, X76, e76, st76⟩ := getS2 X75 hx hZ hown (host := "") (Or.inl (hw _ (List.mem_of_getElem? (i := 8) rfl))) Via.refl e75 (((((own_staKeep ((own_staKeep P7 Kq66 all0).ext E67) Kq68 (allS (own_plainE A67) all0)).ext E69).wr W71).wr W73).wr W75) (g := (mkF m 124 #[.val (.int p1), .val (.int p2), .val (.int p3), .val (.int (0 : Int32)), .val (.int (1 : Int32)), .val (.int (1 : Int32)), .val (.ref b_66), .val .null, .val (.ref b67), .unset, .unset, .unset] [(.int (3 : Int32)), (.ref b69), (.ref b69)])) rfl (hb hby at_124)
        refine own_fw (A' := (T76.setTop (mkF m 127 #[.val (.int p1), .val (.int p2), .val (.int p3), .val (.int (0 : Int32)), .val (.int (1 : Int32)), .val (.int (1 : Int32)), .val (.ref b_66), .val .null, .val (.ref b67), .unset, .unset, .unset] [(.ref r_EXPIRED), (.int (3 : Int32)), (.ref b69), (.ref b69)]))) (fun t k => st76 _ k) ?_
        obtain ⟨cl77, Ar77, q77, S77, M77, H77, G77⟩ := id V75
        have hin77 : ¬ ((3 : Int32) < 0 ∨ cl77.slots.size ≤ ((3 : Int32)).toNatClampNeg) := inb_of S77 ⟨by decide, by decide⟩
        obtain ⟨T77, h77, X77, e77, W77, st77⟩ := stR X76 hx hZ e76 Ar77 (j := (3 : Int32)) hin77 rfl (Sto.ofV Ar77 q77 O69 (Ins.self (((((((P8.keep Kq66).ext E67).keep Kq68).ext E69).wr W71).wr W73).wr W75))) (g := (mkF m 127 #[.val (.int p1), .val (.int p2), .val (.int p3), .val (.int (0 : Int32)), .val (.int (1 : Int32)), .val (.int (1 : Int32)), .val (.ref b_66), .val .null, .val (.ref b67), .unset, .unset, .unset] [(.ref r_EXPIRED), (.int (3 : Int32)), (.ref b69), (.ref b69)])) rfl rfl (hb hby at_127)
        have V77 : Arv Z h77 b69 k69 (.object "com/example/measured_cache/measuredcache/cache/Change") (8 : Int32) [(.ref r_NONE), (.ref r_REMOVED), (.ref r_NONE), (.ref r_EXPIRED), .null, .null, .null, .null] .null := Arv.set Ar77 q77 S77 M77 H77 G77 rfl W77 3 rfl (Nat.le_of_ble_eq_true rfl)
        have Nf77 := Fr.snoc X77 Nf75 g_b69
        have K77 : Keep h0 h77 [] := K75.wr W77 (Or.inr sz_b69)
        have Z77 : n0 ≤ h77.size := Nat.le_trans Z75 (Keep.of_wr W77).1
        refine own_fw (A' := (T77.setTop (mkF m 128 #[.val (.int p1), .val (.int p2), .val (.int p3), .val (.int (0 : Int32)), .val (.int (1 : Int32)), .val (.int (1 : Int32)), .val (.ref b_66), .val .null, .val (.ref b67), .unset, .unset, .unset] [(.ref b69)]))) (fun t k => st77 _ k) ?_
        refine own_fw (A' := (T77.setTop (mkF m 129 #[.val (.int p1), .val (.int p2), .val (.int p3), .val (.int (0 : Int32)), .val (.int (1 : Int32)), .val (.int (1 : Int32)), .val (.ref b_66), .val .null, .val (.ref b67), .unset, .unset, .unset] [(.ref b69), (.ref b69)]))) (fun t k => XS.dup X77.here hx rfl (hb hby at_128) rfl rfl k) ?_
        refine own_fw (A' := (T77.setTop (mkF m 130 #[.val (.int p1), .val (.int p2), .val (.int p3), .val (.int (0 : Int32)), .val (.int (1 : Int32)), .val (.int (1 : Int32)), .val (.ref b_66), .val .null, .val (.ref b67), .unset, .unset, .unset] [(.int (4 : Int32)), (.ref b69), (.ref b69)]))) (fun t k => XS.iconst X77.here hx rfl (hb hby at_129) k) ?_
        obtain ⟨T78, X78, e78, st78⟩ := getS2 X77 hx hZ hown (host := "") (Or.inl (hw _ (List.mem_of_getElem? (i := 10) rfl))) Via.refl e77 ((((((own_staKeep ((own_staKeep P9 Kq66 all0).ext E67) Kq68 (allS (own_plainE A67) all0)).ext E69).wr W71).wr W73).wr W75).wr W77) (g := (mkF m 130 #[.val (.int p1), .val (.int p2), .val (.int p3), .val (.int (0 : Int32)), .val (.int (1 : Int32)), .val (.int (1 : Int32)), .val (.ref b_66), .val .null, .val (.ref b67), .unset, .unset, .unset] [(.int (4 : Int32)), (.ref b69), (.ref b69)])) rfl (hb hby at_130)
        refine own_fw (A' := (T78.setTop (mkF m 133 #[.val (.int p1), .val (.int p2), .val (.int p3), .val (.int (0 : Int32)), .val (.int (1 : Int32)), .val (.int (1 : Int32)), .val (.ref b_66), .val .null, .val (.ref b67), .unset, .unset, .unset] [(.ref r_CREATED), (.int (4 : Int32)), (.ref b69), (.ref b69)]))) (fun t k => st78 _ k) ?_
        obtain ⟨cl79, Ar79, q79, S79, M79, H79, G79⟩ := id V77
        have hin79 : ¬ ((4 : Int32) < 0 ∨ cl79.slots.size ≤ ((4 : Int32)).toNatClampNeg) := inb_of S79 ⟨by decide, by decide⟩
        obtain ⟨T79, h79, X79, e79, W79, st79⟩ := stR X78 hx hZ e78 Ar79 (j := (4 : Int32)) hin79 rfl (Sto.ofV Ar79 q79 O69 (Ins.self ((((((((P10.keep Kq66).ext E67).keep Kq68).ext E69).wr W71).wr W73).wr W75).wr W77))) (g := (mkF m 133 #[.val (.int p1), .val (.int p2), .val (.int p3), .val (.int (0 : Int32)), .val (.int (1 : Int32)), .val (.int (1 : Int32)), .val (.ref b_66), .val .null, .val (.ref b67), .unset, .unset, .unset] [(.ref r_CREATED), (.int (4 : Int32)), (.ref b69), (.ref b69)])) rfl rfl (hb hby at_133)
        have V79 : Arv Z h79 b69 k69 (.object "com/example/measured_cache/measuredcache/cache/Change") (8 : Int32) [(.ref r_NONE), (.ref r_REMOVED), (.ref r_NONE), (.ref r_EXPIRED), (.ref r_CREATED), .null, .null, .null] .null := Arv.set Ar79 q79 S79 M79 H79 G79 rfl W79 4 rfl (Nat.le_of_ble_eq_true rfl)
        have Nf79 := Fr.snoc X79 Nf77 g_b69
        have K79 : Keep h0 h79 [] := K77.wr W79 (Or.inr sz_b69)
        have Z79 : n0 ≤ h79.size := Nat.le_trans Z77 (Keep.of_wr W79).1
        refine own_fw (A' := (T79.setTop (mkF m 134 #[.val (.int p1), .val (.int p2), .val (.int p3), .val (.int (0 : Int32)), .val (.int (1 : Int32)), .val (.int (1 : Int32)), .val (.ref b_66), .val .null, .val (.ref b67), .unset, .unset, .unset] [(.ref b69)]))) (fun t k => st79 _ k) ?_
        refine own_fw (A' := (T79.setTop (mkF m 135 #[.val (.int p1), .val (.int p2), .val (.int p3), .val (.int (0 : Int32)), .val (.int (1 : Int32)), .val (.int (1 : Int32)), .val (.ref b_66), .val .null, .val (.ref b67), .unset, .unset, .unset] [(.ref b69), (.ref b69)]))) (fun t k => XS.dup X79.here hx rfl (hb hby at_134) rfl rfl k) ?_
        refine own_fw (A' := (T79.setTop (mkF m 136 #[.val (.int p1), .val (.int p2), .val (.int p3), .val (.int (0 : Int32)), .val (.int (1 : Int32)), .val (.int (1 : Int32)), .val (.ref b_66), .val .null, .val (.ref b67), .unset, .unset, .unset] [(.int (5 : Int32)), (.ref b69), (.ref b69)]))) (fun t k => XS.iconst X79.here hx rfl (hb hby at_135) k) ?_
        obtain ⟨T80, X80, e80, st80⟩ := getS2 X79 hx hZ hown (host := "") (Or.inl (hw _ (List.mem_of_getElem? (i := 12) rfl))) Via.refl e79 (((((((own_staKeep ((own_staKeep P11 Kq66 all0).ext E67) Kq68 (allS (own_plainE A67) all0)).ext E69).wr W71).wr W73).wr W75).wr W77).wr W79) (g := (mkF m 136 #[.val (.int p1), .val (.int p2), .val (.int p3), .val (.int (0 : Int32)), .val (.int (1 : Int32)), .val (.int (1 : Int32)), .val (.ref b_66), .val .null, .val (.ref b67), .unset, .unset, .unset] [(.int (5 : Int32)), (.ref b69), (.ref b69)])) rfl (hb hby at_136)
        refine own_fw (A' := (T80.setTop (mkF m 139 #[.val (.int p1), .val (.int p2), .val (.int p3), .val (.int (0 : Int32)), .val (.int (1 : Int32)), .val (.int (1 : Int32)), .val (.ref b_66), .val .null, .val (.ref b67), .unset, .unset, .unset] [(.ref r_UPDATED), (.int (5 : Int32)), (.ref b69), (.ref b69)]))) (fun t k => st80 _ k) ?_
        obtain ⟨cl81, Ar81, q81, S81, M81, H81, G81⟩ := id V79
        have hin81 : ¬ ((5 : Int32) < 0 ∨ cl81.slots.size ≤ ((5 : Int32)).toNatClampNeg) := inb_of S81 ⟨by decide, by decide⟩
        obtain ⟨T81, h81, X81, e81, W81, st81⟩ := stR X80 hx hZ e80 Ar81 (j := (5 : Int32)) hin81 rfl (Sto.ofV Ar81 q81 O69 (Ins.self (((((((((P12.keep Kq66).ext E67).keep Kq68).ext E69).wr W71).wr W73).wr W75).wr W77).wr W79))) (g := (mkF m 139 #[.val (.int p1), .val (.int p2), .val (.int p3), .val (.int (0 : Int32)), .val (.int (1 : Int32)), .val (.int (1 : Int32)), .val (.ref b_66), .val .null, .val (.ref b67), .unset, .unset, .unset] [(.ref r_UPDATED), (.int (5 : Int32)), (.ref b69), (.ref b69)])) rfl rfl (hb hby at_139)
        have V81 : Arv Z h81 b69 k69 (.object "com/example/measured_cache/measuredcache/cache/Change") (8 : Int32) [(.ref r_NONE), (.ref r_REMOVED), (.ref r_NONE), (.ref r_EXPIRED), (.ref r_CREATED), (.ref r_UPDATED), .null, .null] .null := Arv.set Ar81 q81 S81 M81 H81 G81 rfl W81 5 rfl (Nat.le_of_ble_eq_true rfl)
        have Nf81 := Fr.snoc X81 Nf79 g_b69
        have K81 : Keep h0 h81 [] := K79.wr W81 (Or.inr sz_b69)
        have Z81 : n0 ≤ h81.size := Nat.le_trans Z79 (Keep.of_wr W81).1
        refine own_fw (A' := (T81.setTop (mkF m 140 #[.val (.int p1), .val (.int p2), .val (.int p3), .val (.int (0 : Int32)), .val (.int (1 : Int32)), .val (.int (1 : Int32)), .val (.ref b_66), .val .null, .val (.ref b67), .unset, .unset, .unset] [(.ref b69)]))) (fun t k => st81 _ k) ?_
        refine own_fw (A' := (T81.setTop (mkF m 141 #[.val (.int p1), .val (.int p2), .val (.int p3), .val (.int (0 : Int32)), .val (.int (1 : Int32)), .val (.int (1 : Int32)), .val (.ref b_66), .val .null, .val (.ref b67), .unset, .unset, .unset] [(.ref b69), (.ref b69)]))) (fun t k => XS.dup X81.here hx rfl (hb hby at_140) rfl rfl k) ?_
        refine own_fw (A' := (T81.setTop (mkF m 143 #[.val (.int p1), .val (.int p2), .val (.int p3), .val (.int (0 : Int32)), .val (.int (1 : Int32)), .val (.int (1 : Int32)), .val (.ref b_66), .val .null, .val (.ref b67), .unset, .unset, .unset] [(.int (6 : Int32)), (.ref b69), (.ref b69)]))) (fun t k => XS.bipush X81.here hx rfl (hb hby at_141) k) ?_
        obtain ⟨T82, X82, e82, st82⟩ := getS2 X81 hx hZ hown (host := "") (Or.inl (hw _ (List.mem_of_getElem? (i := 10) rfl))) Via.refl e81 ((((((((own_staKeep ((own_staKeep P9 Kq66 all0).ext E67) Kq68 (allS (own_plainE A67) all0)).ext E69).wr W71).wr W73).wr W75).wr W77).wr W79).wr W81) (g := (mkF m 143 #[.val (.int p1), .val (.int p2), .val (.int p3), .val (.int (0 : Int32)), .val (.int (1 : Int32)), .val (.int (1 : Int32)), .val (.ref b_66), .val .null, .val (.ref b67), .unset, .unset, .unset] [(.int (6 : Int32)), (.ref b69), (.ref b69)])) rfl (hb hby at_143)
        refine own_fw (A' := (T82.setTop (mkF m 146 #[.val (.int p1), .val (.int p2), .val (.int p3), .val (.int (0 : Int32)), .val (.int (1 : Int32)), .val (.int (1 : Int32)), .val (.ref b_66), .val .null, .val (.ref b67), .unset, .unset, .unset] [(.ref r_CREATED), (.int (6 : Int32)), (.ref b69), (.ref b69)]))) (fun t k => st82 _ k) ?_
        obtain ⟨cl83, Ar83, q83, S83, M83, H83, G83⟩ := id V81
        have hin83 : ¬ ((6 : Int32) < 0 ∨ cl83.slots.size ≤ ((6 : Int32)).toNatClampNeg) := inb_of S83 ⟨by decide, by decide⟩
        obtain ⟨T83, h83, X83, e83, W83, st83⟩ := stR X82 hx hZ e82 Ar83 (j := (6 : Int32)) hin83 rfl (Sto.ofV Ar83 q83 O69 (Ins.self ((((((((((P10.keep Kq66).ext E67).keep Kq68).ext E69).wr W71).wr W73).wr W75).wr W77).wr W79).wr W81))) (g := (mkF m 146 #[.val (.int p1), .val (.int p2), .val (.int p3), .val (.int (0 : Int32)), .val (.int (1 : Int32)), .val (.int (1 : Int32)), .val (.ref b_66), .val .null, .val (.ref b67), .unset, .unset, .unset] [(.ref r_CREATED), (.int (6 : Int32)), (.ref b69), (.ref b69)])) rfl rfl (hb hby at_146)
        have V83 : Arv Z h83 b69 k69 (.object "com/example/measured_cache/measuredcache/cache/Change") (8 : Int32) [(.ref r_NONE), (.ref r_REMOVED), (.ref r_NONE), (.ref r_EXPIRED), (.ref r_CREATED), (.ref r_UPDATED), (.ref r_CREATED), .null] .null := Arv.set Ar83 q83 S83 M83 H83 G83 rfl W83 6 rfl (Nat.le_of_ble_eq_true rfl)
        have Nf83 := Fr.snoc X83 Nf81 g_b69
        have K83 : Keep h0 h83 [] := K81.wr W83 (Or.inr sz_b69)
        have Z83 : n0 ≤ h83.size := Nat.le_trans Z81 (Keep.of_wr W83).1
        refine own_fw (A' := (T83.setTop (mkF m 147 #[.val (.int p1), .val (.int p2), .val (.int p3), .val (.int (0 : Int32)), .val (.int (1 : Int32)), .val (.int (1 : Int32)), .val (.ref b_66), .val .null, .val (.ref b67), .unset, .unset, .unset] [(.ref b69)]))) (fun t k => st83 _ k) ?_
        refine own_fw (A' := (T83.setTop (mkF m 148 #[.val (.int p1), .val (.int p2), .val (.int p3), .val (.int (0 : Int32)), .val (.int (1 : Int32)), .val (.int (1 : Int32)), .val (.ref b_66), .val .null, .val (.ref b67), .unset, .unset, .unset] [(.ref b69), (.ref b69)]))) (fun t k => XS.dup X83.here hx rfl (hb hby at_147) rfl rfl k) ?_
        refine own_fw (A' := (T83.setTop (mkF m 150 #[.val (.int p1), .val (.int p2), .val (.int p3), .val (.int (0 : Int32)), .val (.int (1 : Int32)), .val (.int (1 : Int32)), .val (.ref b_66), .val .null, .val (.ref b67), .unset, .unset, .unset] [(.int (7 : Int32)), (.ref b69), (.ref b69)]))) (fun t k => XS.bipush X83.here hx rfl (hb hby at_148) k) ?_
        obtain ⟨T84, X84, e84, st84⟩ := getS2 X83 hx hZ hown (host := "") (Or.inl (hw _ (List.mem_of_getElem? (i := 12) rfl))) Via.refl e83 (((((((((own_staKeep ((own_staKeep P11 Kq66 all0).ext E67) Kq68 (allS (own_plainE A67) all0)).ext E69).wr W71).wr W73).wr W75).wr W77).wr W79).wr W81).wr W83) (g := (mkF m 150 #[.val (.int p1), .val (.int p2), .val (.int p3), .val (.int (0 : Int32)), .val (.int (1 : Int32)), .val (.int (1 : Int32)), .val (.ref b_66), .val .null, .val (.ref b67), .unset, .unset, .unset] [(.int (7 : Int32)), (.ref b69), (.ref b69)])) rfl (hb hby at_150)
        refine own_fw (A' := (T84.setTop (mkF m 153 #[.val (.int p1), .val (.int p2), .val (.int p3), .val (.int (0 : Int32)), .val (.int (1 : Int32)), .val (.int (1 : Int32)), .val (.ref b_66), .val .null, .val (.ref b67), .unset, .unset, .unset] [(.ref r_UPDATED), (.int (7 : Int32)), (.ref b69), (.ref b69)]))) (fun t k => st84 _ k) ?_
        obtain ⟨cl85, Ar85, q85, S85, M85, H85, G85⟩ := id V83
        have hin85 : ¬ ((7 : Int32) < 0 ∨ cl85.slots.size ≤ ((7 : Int32)).toNatClampNeg) := inb_of S85 ⟨by decide, by decide⟩
        obtain ⟨T85, h85, X85, e85, W85, st85⟩ := stR X84 hx hZ e84 Ar85 (j := (7 : Int32)) hin85 rfl (Sto.ofV Ar85 q85 O69 (Ins.self (((((((((((P12.keep Kq66).ext E67).keep Kq68).ext E69).wr W71).wr W73).wr W75).wr W77).wr W79).wr W81).wr W83))) (g := (mkF m 153 #[.val (.int p1), .val (.int p2), .val (.int p3), .val (.int (0 : Int32)), .val (.int (1 : Int32)), .val (.int (1 : Int32)), .val (.ref b_66), .val .null, .val (.ref b67), .unset, .unset, .unset] [(.ref r_UPDATED), (.int (7 : Int32)), (.ref b69), (.ref b69)])) rfl rfl (hb hby at_153)
        have V85 : Arv Z h85 b69 k69 (.object "com/example/measured_cache/measuredcache/cache/Change") (8 : Int32) [(.ref r_NONE), (.ref r_REMOVED), (.ref r_NONE), (.ref r_EXPIRED), (.ref r_CREATED), (.ref r_UPDATED), (.ref r_CREATED), (.ref r_UPDATED)] .null := Arv.set Ar85 q85 S85 M85 H85 G85 rfl W85 7 rfl (Nat.le_of_ble_eq_true rfl)
        have Nf85 := Fr.snoc X85 Nf83 g_b69
        have K85 : Keep h0 h85 [] := K83.wr W85 (Or.inr sz_b69)
        have Z85 : n0 ≤ h85.size := Nat.le_trans Z83 (Keep.of_wr W85).1
        refine own_fw (A' := (T85.setTop (mkF m 154 #[.val (.int p1), .val (.int p2), .val (.int p3), .val (.int (0 : Int32)), .val (.int (1 : Int32)), .val (.int (1 : Int32)), .val (.ref b_66), .val .null, .val (.ref b67), .unset, .unset, .unset] [(.ref b69)]))) (fun t k => st85 _ k) ?_
        refine own_fw (A' := (T85.setTop (mkF m 156 #[.val (.int p1), .val (.int p2), .val (.int p3), .val (.int (0 : Int32)), .val (.int (1 : Int32)), .val (.int (1 : Int32)), .val (.ref b_66), .val .null, .val (.ref b67), .val (.ref b69), .unset, .unset] []))) (fun t k => XS.astore X85.here hx rfl (hb hby at_154) rfl rfl (l' := #[.val (.int p1), .val (.int p2), .val (.int p3), .val (.int (0 : Int32)), .val (.int (1 : Int32)), .val (.int (1 : Int32)), .val (.ref b_66), .val .null, .val (.ref b67), .val (.ref b69), .unset, .unset]) rfl k) ?_
        refine own_fw (A' := (T85.setTop (mkF m 158 #[.val (.int p1), .val (.int p2), .val (.int p3), .val (.int (0 : Int32)), .val (.int (1 : Int32)), .val (.int (1 : Int32)), .val (.ref b_66), .val .null, .val (.ref b67), .val (.ref b69), .unset, .unset] [(.ref b69)]))) (fun t k => XS.aload X85.here hx rfl (hb hby at_156) rfl rfl k) ?_
        refine own_fw (A' := (T85.setTop (mkF m 159 #[.val (.int p1), .val (.int p2), .val (.int p3), .val (.int (0 : Int32)), .val (.int (1 : Int32)), .val (.int (1 : Int32)), .val (.ref b_66), .val .null, .val (.ref b67), .val (.ref b69), .unset, .unset] [(.int p1), (.ref b69)]))) (fun t k => XS.iloadN X85.here hx rfl (hb hby at_158) rfl k) ?_
        refine own_fw (A' := (T85.setTop (mkF m 161 #[.val (.int p1), .val (.int p2), .val (.int p3), .val (.int (0 : Int32)), .val (.int (1 : Int32)), .val (.int (1 : Int32)), .val (.ref b_66), .val .null, .val (.ref b67), .val (.ref b69), .unset, .unset] [(.int (7 : Int32)), (.int p1), (.ref b69)]))) (fun t k => XS.bipush X85.here hx rfl (hb hby at_159) k) ?_
        refine own_fw (A' := (T85.setTop (mkF m 162 #[.val (.int p1), .val (.int p2), .val (.int p3), .val (.int (0 : Int32)), .val (.int (1 : Int32)), .val (.int (1 : Int32)), .val (.ref b_66), .val .null, .val (.ref b67), .val (.ref b69), .unset, .unset] [(.int (p1 &&& (7 : Int32))), (.ref b69)]))) (fun t k => XS.iand X85.here hx rfl (hb hby at_161) rfl k) ?_
        rw [own_ix p1 (6 : Int32) true false false (decide_eq_true hc1) (decide_eq_false hc2) (decide_eq_false hc43) (by decide)]
        obtain ⟨cl86, Ar86, q86, S86, M86, H86, G86⟩ := id V85
        have hin86 : ¬ ((6 : Int32) < 0 ∨ cl86.slots.size ≤ ((6 : Int32)).toNatClampNeg) := inb_of S86 ⟨by decide, by decide⟩
        have hat86 : cl86.slots[((6 : Int32)).toNatClampNeg]? = some (.ref r_CREATED) := H86.at hin86 rfl
        refine own_fw (A' := (T85.setTop (mkF m 163 #[.val (.int p1), .val (.int p2), .val (.int p3), .val (.int (0 : Int32)), .val (.int (1 : Int32)), .val (.int (1 : Int32)), .val (.ref b_66), .val .null, .val (.ref b67), .val (.ref b69), .unset, .unset] [(.ref r_CREATED)]))) (fun t k => X85.aaload hx (j := (6 : Int32)) (v := (.ref r_CREATED)) (by rw [e85]; exact Ar86.1) (State.isArrayOf_alike hZ.alike Ar86.2.1) rfl Ar86.2.2 hin86 hat86 (g := (mkF m 162 #[.val (.int p1), .val (.int p2), .val (.int p3), .val (.int (0 : Int32)), .val (.int (1 : Int32)), .val (.int (1 : Int32)), .val (.ref b_66), .val .null, .val (.ref b67), .val (.ref b69), .unset, .unset] [(.int (6 : Int32)), (.ref b69)])) rfl rfl (hb hby at_162) _ k) ?_
        refine own_fw (A' := (T85.setTop (mkF m 165 #[.val (.int p1), .val (.int p2), .val (.int p3), .val (.int (0 : Int32)), .val (.int (1 : Int32)), .val (.int (1 : Int32)), .val (.ref b_66), .val .null, .val (.ref b67), .val (.ref b69), .val (.ref r_CREATED), .unset] []))) (fun t k => XS.astore X85.here hx rfl (hb hby at_163) rfl rfl (l' := #[.val (.int p1), .val (.int p2), .val (.int p3), .val (.int (0 : Int32)), .val (.int (1 : Int32)), .val (.int (1 : Int32)), .val (.ref b_66), .val .null, .val (.ref b67), .val (.ref b69), .val (.ref r_CREATED), .unset]) rfl k) ?_
        refine own_fw (A' := (T85.setTop (mkF m 167 #[.val (.int p1), .val (.int p2), .val (.int p3), .val (.int (0 : Int32)), .val (.int (1 : Int32)), .val (.int (1 : Int32)), .val (.ref b_66), .val .null, .val (.ref b67), .val (.ref b69), .val (.ref r_CREATED), .unset] [.null]))) (fun t k => XS.aload X85.here hx rfl (hb hby at_165) rfl rfl k) ?_
        refine own_fw (A' := (T85.setTop (mkF m 169 #[.val (.int p1), .val (.int p2), .val (.int p3), .val (.int (0 : Int32)), .val (.int (1 : Int32)), .val (.int (1 : Int32)), .val (.ref b_66), .val .null, .val (.ref b67), .val (.ref b69), .val (.ref r_CREATED), .unset] [(.ref b_66), .null]))) (fun t k => XS.aload X85.here hx rfl (hb hby at_167) rfl rfl k) ?_
        refine own_fw (A' := (T85.setTop (mkF m 171 #[.val (.int p1), .val (.int p2), .val (.int p3), .val (.int (0 : Int32)), .val (.int (1 : Int32)), .val (.int (1 : Int32)), .val (.ref b_66), .val .null, .val (.ref b67), .val (.ref b69), .val (.ref r_CREATED), .unset] [(.ref b67), (.ref b_66), .null]))) (fun t k => XS.aload X85.here hx rfl (hb hby at_169) rfl rfl k) ?_
        obtain ⟨_, _, ⟨T87, L87, k87, n87⟩, -, X87, ⟨Lc87, hQ87, l87, y87, z87⟩, st87⟩ := Jvm.LawKit.callS X85 hx (y := (⟨"com/example/measured_cache/measuredcache/cache/Change", "of", "(Lcom/example/measured_cache/measuredcache/cache/EntryVersion;Ljava/lang/Object;Lcom/example/measured_cache/measuredcache/cache/EntryVersion;)Lcom/example/measured_cache/measuredcache/cache/Change;"⟩ : MethodName)) hown (mvT hZ (hw _ (List.mem_of_getElem? (i := 14) rfl))) (mvT hZ (hw _ (List.mem_of_getElem? (i := 15) rfl))) (mvT hZ (hw _ (List.mem_of_getElem? (i := 3) rfl))) (mvT hZ (hw _ (List.mem_of_getElem? (i := 16) rfl))) (by decide) (backOf (W := 0) (rmOf100 l Z a0 hw [] b_66 b67 r_CREATED h85 n0 Z85 ((((((((((own_staKeep ((own_staKeep P9 Kq66 all0).ext E67) Kq68 (allS (own_plainE A67) all0)).ext E69).wr W71).wr W73).wr W75).wr W77).wr W79).wr W81).wr W83).wr W85)) hZ (hw _ (List.mem_of_getElem? (i := 16) rfl)) (hw _ (List.mem_of_getElem? (i := 3) rfl)) (by decide) (by decide)) (g := (mkF m 171 #[.val (.int p1), .val (.int p2), .val (.int p3), .val (.int (0 : Int32)), .val (.int (1 : Int32)), .val (.int (1 : Int32)), .val (.ref b_66), .val .null, .val (.ref b67), .val (.ref b69), .val (.ref r_CREATED), .unset] [(.ref b67), (.ref b_66), .null])) rfl (by rw [hml]; rfl) (argsL := [.null, (.ref b_66), (.ref b67)]) (rest := []) (lenOf pd__Lcom_example_measured_cache_measuredcache_cache_EntryVersion_Ljava_lang_Object_Lcom_example_measured_cache_measuredcache_cache_EntryVersion__Lcom_example_measured_cache_measuredcache_cache_Change_ rfl) rfl (by show 2 * 0 + _ ≤ _; exact Nat.le_of_eq rfl) (hb hby at_171) (fun _ _ => ⟨rfl, e85, (by decide : 3 + 0 ≤ _), (by decide : 10 + 0 ≤ _)⟩)
        dsimp only [Pt.U, Pt.locs, Pt.cells, Pt.slots] at X87 l87 y87 z87 st87 hQ87
        subst l87 y87 z87
        obtain ⟨rfl, Nq87, e87⟩ := hQ87
        have Nf87 := Fr.app Nf85 Nq87
        refine own_fw (A' := (T87.setTop (mkF m 174 #[.val (.int p1), .val (.int p2), .val (.int p3), .val (.int (0 : Int32)), .val (.int (1 : Int32)), .val (.int (1 : Int32)), .val (.ref b_66), .val .null, .val (.ref b67), .val (.ref b69), .val (.ref r_CREATED), .unset] [(.ref r_CREATED)]))) (fun t k => st87 _ k) ?_
        refine own_fw (A' := (T87.setTop (mkF m 176 #[.val (.int p1), .val (.int p2), .val (.int p3), .val (.int (0 : Int32)), .val (.int (1 : Int32)), .val (.int (1 : Int32)), .val (.ref b_66), .val .null, .val (.ref b67), .val (.ref b69), .val (.ref r_CREATED), .val (.ref r_CREATED)] []))) (fun t k => XS.astore X87.here hx rfl (hb hby at_174) rfl rfl (l' := #[.val (.int p1), .val (.int p2), .val (.int p3), .val (.int (0 : Int32)), .val (.int (1 : Int32)), .val (.int (1 : Int32)), .val (.ref b_66), .val .null, .val (.ref b67), .val (.ref b69), .val (.ref r_CREATED), .val (.ref r_CREATED)]) rfl k) ?_
        refine own_fw (A' := (T87.setTop (mkF m 178 #[.val (.int p1), .val (.int p2), .val (.int p3), .val (.int (0 : Int32)), .val (.int (1 : Int32)), .val (.int (1 : Int32)), .val (.ref b_66), .val .null, .val (.ref b67), .val (.ref b69), .val (.ref r_CREATED), .val (.ref r_CREATED)] [(.ref r_CREATED)]))) (fun t k => XS.aload X87.here hx rfl (hb hby at_176) rfl rfl k) ?_
        refine own_fw (A' := (T87.setTop (mkF m 180 #[.val (.int p1), .val (.int p2), .val (.int p3), .val (.int (0 : Int32)), .val (.int (1 : Int32)), .val (.int (1 : Int32)), .val (.ref b_66), .val .null, .val (.ref b67), .val (.ref b69), .val (.ref r_CREATED), .val (.ref r_CREATED)] [(.ref r_CREATED), (.ref r_CREATED)]))) (fun t k => XS.aload X87.here hx rfl (hb hby at_178) rfl rfl k) ?_
        refine own_fw (A' := (T87.setTop (mkF m 183 #[.val (.int p1), .val (.int p2), .val (.int p3), .val (.int (0 : Int32)), .val (.int (1 : Int32)), .val (.int (1 : Int32)), .val (.ref b_66), .val .null, .val (.ref b67), .val (.ref b69), .val (.ref r_CREATED), .val (.ref r_CREATED)] []))) (fun t k => Jvm.RoadKit.acmp (g := (mkF m 180 #[.val (.int p1), .val (.int p2), .val (.int p3), .val (.int (0 : Int32)), .val (.int (1 : Int32)), .val (.int (1 : Int32)), .val (.ref b_66), .val .null, .val (.ref b67), .val (.ref b69), .val (.ref r_CREATED), .val (.ref r_CREATED)] [(.ref r_CREATED), (.ref r_CREATED)])) X87 hx rfl rfl rfl (pc0 := 180) (pc' := 183) (same := true) rfl (hb hby at_180) rfl (decide_eq_true rfl) (by decide) (by decide) k) ?_
        refine own_fw (A' := (T87.setTop (mkF m 184 #[.val (.int p1), .val (.int p2), .val (.int p3), .val (.int (0 : Int32)), .val (.int (1 : Int32)), .val (.int (1 : Int32)), .val (.ref b_66), .val .null, .val (.ref b67), .val (.ref b69), .val (.ref r_CREATED), .val (.ref r_CREATED)] [(.int (1 : Int32))]))) (fun t k => XS.iconst X87.here hx rfl (hb hby at_183) k) ?_
        refine own_fw (A' := (T87.setTop (mkF m 188 #[.val (.int p1), .val (.int p2), .val (.int p3), .val (.int (0 : Int32)), .val (.int (1 : Int32)), .val (.int (1 : Int32)), .val (.ref b_66), .val .null, .val (.ref b67), .val (.ref b69), .val (.ref r_CREATED), .val (.ref r_CREATED)] [(.int (1 : Int32))]))) (fun t k => XS.goto X87.here hx rfl (pc0 := 184) (pc' := 188) rfl (hb hby at_184) (by decide) (by decide) k) ?_
        obtain ⟨fs, hr, hrun, hended, hW, hsame⟩ := X87.leave (v := some (.int (1 : Int32))) (fun h => by rw [Bd.returns] at h; cases h)
        refine ⟨_, _, ?_, hrun, hended, _, _, rfl, ?_, ⟨_, rfl⟩, hW, hsame.mono (by decide) (by decide)⟩
        · exact retOut X87 hx Bd.returns rfl (Or.inl ⟨rfl, by simp, _, rfl⟩) (hb hby at_188) hr
        · show Q_rm0 Z p1 p2 p3 ca r_NONE r_REMOVED r_EXPIRED r_CREATED r_UPDATED h0 n0 _ T87.heap _
          rw [e87]
          exact ⟨rfl, Nf87⟩
  · refine own_fw (A' := (s₁.setTop (mkF m 6 #[.val (.int p1), .val (.int p2), .val (.int p3), .unset, .unset, .unset, .unset, .unset, .unset, .unset, .unset, .unset] []))) (fun t k => XS.ifNo X0.here hx rfl (hb hby at_3) rfl (XT.i0_eq_f hc1) k) ?_
    refine own_fw (A' := (s₁.setTop (mkF m 7 #[.val (.int p1), .val (.int p2), .val (.int p3), .unset, .unset, .unset, .unset, .unset, .unset, .unset, .unset, .unset] [(.int (1 : Int32))]))) (fun t k => XS.iconst X0.here hx rfl (hb hby at_6) k) ?_
    refine own_fw (A' := (s₁.setTop (mkF m 11 #[.val (.int p1), .val (.int p2), .val (.int p3), .unset, .unset, .unset, .unset, .unset, .unset, .unset, .unset, .unset] [(.int (1 : Int32))]))) (fun t k => XS.goto X0.here hx rfl (pc0 := 7) (pc' := 11) rfl (hb hby at_7) (by decide) (by decide) k) ?_
    refine own_fw (A' := (s₁.setTop (mkF m 12 #[.val (.int p1), .val (.int p2), .val (.int p3), .val (.int (1 : Int32)), .unset, .unset, .unset, .unset, .unset, .unset, .unset, .unset] []))) (fun t k => XS.istoreN X0.here hx rfl (hb hby at_11) rfl (l' := #[.val (.int p1), .val (.int p2), .val (.int p3), .val (.int (1 : Int32)), .unset, .unset, .unset, .unset, .unset, .unset, .unset, .unset]) rfl k) ?_
    refine own_fw (A' := (s₁.setTop (mkF m 13 #[.val (.int p1), .val (.int p2), .val (.int p3), .val (.int (1 : Int32)), .unset, .unset, .unset, .unset, .unset, .unset, .unset, .unset] [(.int p1)]))) (fun t k => XS.iloadN X0.here hx rfl (hb hby at_12) rfl k) ?_
    refine own_fw (A' := (s₁.setTop (mkF m 14 #[.val (.int p1), .val (.int p2), .val (.int p3), .val (.int (1 : Int32)), .unset, .unset, .unset, .unset, .unset, .unset, .unset, .unset] [(.int (4 : Int32)), (.int p1)]))) (fun t k => XS.iconst X0.here hx rfl (hb hby at_13) k) ?_
    refine own_fw (A' := (s₁.setTop (mkF m 15 #[.val (.int p1), .val (.int p2), .val (.int p3), .val (.int (1 : Int32)), .unset, .unset, .unset, .unset, .unset, .unset, .unset, .unset] [(.int (p1 &&& (4 : Int32)))]))) (fun t k => XS.iand X0.here hx rfl (hb hby at_14) rfl k) ?_
    by_cases hc88 : (p1 &&& (4 : Int32)) = (0 : Int32)
    · refine own_fw (A' := (s₁.setTop (mkF m 22 #[.val (.int p1), .val (.int p2), .val (.int p3), .val (.int (1 : Int32)), .unset, .unset, .unset, .unset, .unset, .unset, .unset, .unset] []))) (fun t k => XS.ifYes X0.here hx rfl (pc0 := 15) (pc' := 22) rfl (hb hby at_15) rfl (XT.i0_eq_t hc88) (by decide) (by decide) k) ?_
      refine own_fw (A' := (s₁.setTop (mkF m 23 #[.val (.int p1), .val (.int p2), .val (.int p3), .val (.int (1 : Int32)), .unset, .unset, .unset, .unset, .unset, .unset, .unset, .unset] [(.int (0 : Int32))]))) (fun t k => XS.iconst X0.here hx rfl (hb hby at_22) k) ?_
      refine own_fw (A' := (s₁.setTop (mkF m 25 #[.val (.int p1), .val (.int p2), .val (.int p3), .val (.int (1 : Int32)), .val (.int (0 : Int32)), .unset, .unset, .unset, .unset, .unset, .unset, .unset] []))) (fun t k => XS.istore X0.here hx rfl (hb hby at_23) rfl (l' := #[.val (.int p1), .val (.int p2), .val (.int p3), .val (.int (1 : Int32)), .val (.int (0 : Int32)), .unset, .unset, .unset, .unset, .unset, .unset, .unset]) rfl k) ?_
      refine own_fw (A' := (s₁.setTop (mkF m 26 #[.val (.int p1), .val (.int p2), .val (.int p3), .val (.int (1 : Int32)), .val (.int (0 : Int32)), .unset, .unset, .unset, .unset, .unset, .unset, .unset] [(.int p1)]))) (fun t k => XS.iloadN X0.here hx rfl (hb hby at_25) rfl k) ?_
      refine own_fw (A' := (s₁.setTop (mkF m 27 #[.val (.int p1), .val (.int p2), .val (.int p3), .val (.int (1 : Int32)), .val (.int (0 : Int32)), .unset, .unset, .unset, .unset, .unset, .unset, .unset] [(.int (2 : Int32)), (.int p1)]))) (fun t k => XS.iconst X0.here hx rfl (hb hby at_26) k) ?_
      refine own_fw (A' := (s₁.setTop (mkF m 28 #[.val (.int p1), .val (.int p2), .val (.int p3), .val (.int (1 : Int32)), .val (.int (0 : Int32)), .unset, .unset, .unset, .unset, .unset, .unset, .unset] [(.int (p1 &&& (2 : Int32)))]))) (fun t k => XS.iand X0.here hx rfl (hb hby at_27) rfl k) ?_
      by_cases hc89 : (p1 &&& (2 : Int32)) = (0 : Int32)
      · refine own_fw (A' := (s₁.setTop (mkF m 31 #[.val (.int p1), .val (.int p2), .val (.int p3), .val (.int (1 : Int32)), .val (.int (0 : Int32)), .unset, .unset, .unset, .unset, .unset, .unset, .unset] []))) (fun t k => XS.ifNo X0.here hx rfl (hb hby at_28) rfl (XT.i0_ne_f hc89) k) ?_
        refine own_fw (A' := (s₁.setTop (mkF m 33 #[.val (.int p1), .val (.int p2), .val (.int p3), .val (.int (1 : Int32)), .val (.int (0 : Int32)), .unset, .unset, .unset, .unset, .unset, .unset, .unset] [(.int (0 : Int32))]))) (fun t k => XS.iload X0.here hx rfl (hb hby at_31) rfl k) ?_
        refine own_fw (A' := (s₁.setTop (mkF m 40 #[.val (.int p1), .val (.int p2), .val (.int p3), .val (.int (1 : Int32)), .val (.int (0 : Int32)), .unset, .unset, .unset, .unset, .unset, .unset, .unset] []))) (fun t k => XS.ifYes X0.here hx rfl (pc0 := 33) (pc' := 40) rfl (hb hby at_33) rfl (XT.i0_eq_t rfl) (by decide) (by decide) k) ?_
        refine own_fw (A' := (s₁.setTop (mkF m 41 #[.val (.int p1), .val (.int p2), .val (.int p3), .val (.int (1 : Int32)), .val (.int (0 : Int32)), .unset, .unset, .unset, .unset, .unset, .unset, .unset] [(.int (0 : Int32))]))) (fun t k => XS.iconst X0.here hx rfl (hb hby at_40) k) ?_
        refine own_fw (A' := (s₁.setTop (mkF m 43 #[.val (.int p1), .val (.int p2), .val (.int p3), .val (.int (1 : Int32)), .val (.int (0 : Int32)), .val (.int (0 : Int32)), .unset, .unset, .unset, .unset, .unset, .unset] []))) (fun t k => XS.istore X0.here hx rfl (hb hby at_41) rfl (l' := #[.val (.int p1), .val (.int p2), .val (.int p3), .val (.int (1 : Int32)), .val (.int (0 : Int32)), .val (.int (0 : Int32)), .unset, .unset, .unset, .unset, .unset, .unset]) rfl k) ?_
        refine own_fw (A' := (s₁.setTop (mkF m 45 #[.val (.int p1), .val (.int p2), .val (.int p3), .val (.int (1 : Int32)), .val (.int (0 : Int32)), .val (.int (0 : Int32)), .unset, .unset, .unset, .unset, .unset, .unset] [(.int (0 : Int32))]))) (fun t k => XS.iload X0.here hx rfl (hb hby at_43) rfl k) ?_
        refine own_fw (A' := (s₁.setTop (mkF m 55 #[.val (.int p1), .val (.int p2), .val (.int p3), .val (.int (1 : Int32)), .val (.int (0 : Int32)), .val (.int (0 : Int32)), .unset, .unset, .unset, .unset, .unset, .unset] []))) (fun t k => XS.ifYes X0.here hx rfl (pc0 := 45) (pc' := 55) rfl (hb hby at_45) rfl (XT.i0_eq_t rfl) (by decide) (by decide) k) ?_
        refine own_fw (A' := (s₁.setTop (mkF m 56 #[.val (.int p1), .val (.int p2), .val (.int p3), .val (.int (1 : Int32)), .val (.int (0 : Int32)), .val (.int (0 : Int32)), .unset, .unset, .unset, .unset, .unset, .unset] [.null]))) (fun t k => XS.aconstNull X0.here hx rfl (hb hby at_55) k) ?_
        refine own_fw (A' := (s₁.setTop (mkF m 58 #[.val (.int p1), .val (.int p2), .val (.int p3), .val (.int (1 : Int32)), .val (.int (0 : Int32)), .val (.int (0 : Int32)), .val .null, .unset, .unset, .unset, .unset, .unset] []))) (fun t k => XS.astore X0.here hx rfl (hb hby at_56) rfl rfl (l' := #[.val (.int p1), .val (.int p2), .val (.int p3), .val (.int (1 : Int32)), .val (.int (0 : Int32)), .val (.int (0 : Int32)), .val .null, .unset, .unset, .unset, .unset, .unset]) rfl k) ?_
        refine own_fw (A' := (s₁.setTop (mkF m 59 #[.val (.int p1), .val (.int p2), .val (.int p3), .val (.int (1 : Int32)), .val (.int (0 : Int32)), .val (.int (0 : Int32)), .val .null, .unset, .unset, .unset, .unset, .unset] [(.int (1 : Int32))]))) (fun t k => XS.iloadN X0.here hx rfl (hb hby at_58) rfl k) ?_
        refine own_fw (A' := (s₁.setTop (mkF m 62 #[.val (.int p1), .val (.int p2), .val (.int p3), .val (.int (1 : Int32)), .val (.int (0 : Int32)), .val (.int (0 : Int32)), .val .null, .unset, .unset, .unset, .unset, .unset] []))) (fun t k => XS.ifNo X0.here hx rfl (hb hby at_59) rfl (XT.i0_eq_f (by decide)) k) ?_
        obtain ⟨T90, h90, X90, e90, E90, A90, D90, -, st90⟩ := newO X0 hx hZ hown (hw _ (List.mem_of_getElem? (i := 18) rfl)) (hw _ (List.mem_of_getElem? (i := 19) rfl)) (hw _ (List.mem_of_getElem? (i := 20) rfl)) e0 (g := (mkF m 62 #[.val (.int p1), .val (.int p2), .val (.int p3), .val (.int (1 : Int32)), .val (.int (0 : Int32)), .val (.int (0 : Int32)), .val .null, .unset, .unset, .unset, .unset, .unset] [])) rfl (hb hby at_62) (by decide) (by decide)
        obtain ⟨b90, gb90⟩ : ∃ z, z = h0.size := ⟨_, rfl⟩
        have g_b90 : n0 ≤ b90 := Nat.le_trans Z0 (Nat.le_of_eq gb90.symm)
        have sz_b90 : h0.size ≤ b90 := Nat.le_trans (Keep.refl h0 []).1 (Nat.le_of_eq gb90.symm)
        have ne_ca_b90 : ca ≠ b90 := Nat.ne_of_lt (Nat.lt_of_lt_of_le (own_cacheLt P2) (Nat.le_of_eq gb90.symm))
        have ne_r_NONE_b90 : r_NONE ≠ b90 := Nat.ne_of_lt (Nat.lt_of_lt_of_le P4.lt (Nat.le_of_eq gb90.symm))
        have ne_r_REMOVED_b90 : r_REMOVED ≠ b90 := Nat.ne_of_lt (Nat.lt_of_lt_of_le P6.lt (Nat.le_of_eq gb90.symm))
        have ne_r_EXPIRED_b90 : r_EXPIRED ≠ b90 := Nat.ne_of_lt (Nat.lt_of_lt_of_le P8.lt (Nat.le_of_eq gb90.symm))
        have ne_r_CREATED_b90 : r_CREATED ≠ b90 := Nat.ne_of_lt (Nat.lt_of_lt_of_le P10.lt (Nat.le_of_eq gb90.symm))
        have ne_r_UPDATED_b90 : r_UPDATED ≠ b90 := Nat.ne_of_lt (Nat.lt_of_lt_of_le P12.lt (Nat.le_of_eq gb90.symm))
        rw [← gb90] at A90 D90 st90
        have F_content_b90 : Fld Z h90 b90 "com/example/measured_cache/measuredcache/cache/EntryVersion" "content" "Ljava/lang/Object;" .null := D90 (Or.inl (hw _ (List.mem_of_getElem? (i := 35) rfl))) (ty := (.object "java/lang/Object")) (by decide)
        have K90 : Keep h0 h90 [] := (Keep.refl h0 []).ext E90
        have Z90 : n0 ≤ h90.size := Nat.le_trans Z0 E90.1
        refine own_fw (A' := (T90.setTop (mkF m 65 #[.val (.int p1), .val (.int p2), .val (.int p3), .val (.int (1 : Int32)), .val (.int (0 : Int32)), .val (.int (0 : Int32)), .val .null, .unset, .unset, .unset, .unset, .unset] [(.ref b90)]))) (fun t k => st90 _ k) ?_
        refine own_fw (A' := (T90.setTop (mkF m 66 #[.val (.int p1), .val (.int p2), .val (.int p3), .val (.int (1 : Int32)), .val (.int (0 : Int32)), .val (.int (0 : Int32)), .val .null, .unset, .unset, .unset, .unset, .unset] [(.ref b90), (.ref b90)]))) (fun t k => XS.dup X90.here hx rfl (hb hby at_65) rfl rfl k) ?_
        refine own_fw (A' := (T90.setTop (mkF m 67 #[.val (.int p1), .val (.int p2), .val (.int p3), .val (.int (1 : Int32)), .val (.int (0 : Int32)), .val (.int (0 : Int32)), .val .null, .unset, .unset, .unset, .unset, .unset] [(.int p2), (.ref b90), (.ref b90)]))) (fun t k => XS.iloadN X90.here hx rfl (hb hby at_66) rfl k) ?_
        obtain ⟨_, _, ⟨T91, L91, k91, n91⟩, -, X91, ⟨Lc91, hQ91, l91, y91, z91⟩, st91⟩ := Jvm.LawKit.callS X90 hx (y := (⟨"java/lang/Integer", "valueOf", "(I)Ljava/lang/Integer;"⟩ : MethodName)) hown (mvT hZ (hw _ (List.mem_of_getElem? (i := 21) rfl))) (mvT hZ (hw _ (List.mem_of_getElem? (i := 22) rfl))) (mvT hZ (hw _ (List.mem_of_getElem? (i := 23) rfl))) (mvT hZ (hw _ (List.mem_of_getElem? (i := 24) rfl))) (by decide) (backOf (W := 2) (rmIntOf l Z a0 hw [] p2 ca h90 n0 Z90 (P0.ext E90) (P1.ext E90) (own_cacheExt P2 E90)) hZ (hw _ (List.mem_of_getElem? (i := 24) rfl)) (hw _ (List.mem_of_getElem? (i := 23) rfl)) (by decide) (by decide)) (g := (mkF m 67 #[.val (.int p1), .val (.int p2), .val (.int p3), .val (.int (1 : Int32)), .val (.int (0 : Int32)), .val (.int (0 : Int32)), .val .null, .unset, .unset, .unset, .unset, .unset] [(.int p2), (.ref b90), (.ref b90)])) rfl (by rw [hml]; rfl) (argsL := [(.int p2)]) (rest := [(.ref b90), (.ref b90)]) (lenOf pd__I_Ljava_lang_Integer_ rfl) rfl (by show 2 * 0 + _ ≤ _; exact Nat.le_of_eq rfl) (hb hby at_67) (fun _ _ => ⟨rfl, e90, (by decide : 1 + 1 ≤ _), (by decide : 1 + 1 ≤ _)⟩)
        dsimp only [Pt.U, Pt.locs, Pt.cells, Pt.slots] at X91 l91 y91 z91 st91 hQ91
        subst l91 y91 z91
        obtain ⟨b_91, rfl, Nq91, Kq91, Fq91_0⟩ := hQ91
        have Nf91 := Fr.app N0 Nq91
        have K91 : Keep h0 T91.heap [] := K90.trans Kq91 all0
        have Z91 : n0 ≤ T91.heap.size := Nat.le_trans Z90 Kq91.1
        refine own_fw (A' := (T91.setTop (mkF m 70 #[.val (.int p1), .val (.int p2), .val (.int p3), .val (.int (1 : Int32)), .val (.int (0 : Int32)), .val (.int (0 : Int32)), .val .null, .unset, .unset, .unset, .unset, .unset] [(.ref b_91), (.ref b90), (.ref b90)]))) (fun t k => st91 _ k) ?_
        obtain ⟨_, _, ⟨T92, L92, k92, n92⟩, -, X92, ⟨Lc92, hQ92, l92, y92, z92⟩, st92⟩ := X91.specialBack hx (y := (⟨"com/example/measured_cache/measuredcache/cache/EntryVersion", "<init>", "(Ljava/lang/Object;)V"⟩ : MethodName)) rfl hown (mvT hZ (hw _ (List.mem_of_getElem? (i := 28) rfl))) (mvT hZ (hw _ (List.mem_of_getElem? (i := 29) rfl))) (mvT hZ (hw _ (List.mem_of_getElem? (i := 30) rfl))) (by decide) (backOf (W := 1) (rmEv l Z a0 hw [] b90 b_91 T91.heap n0 Z91 (A90.keep Kq91) (F_content_b90.keep Kq91 nin0) g_b90) hZ (hw _ (List.mem_of_getElem? (i := 30) rfl)) (hw _ (List.mem_of_getElem? (i := 20) rfl)) (by decide) (by decide)) (g := (mkF m 70 #[.val (.int p1), .val (.int p2), .val (.int p3), .val (.int (1 : Int32)), .val (.int (0 : Int32)), .val (.int (0 : Int32)), .val .null, .unset, .unset, .unset, .unset, .unset] [(.ref b_91), (.ref b90), (.ref b90)])) rfl (by rw [hml]; rfl) (Steps.refl _) (a := b90) (argsL := [(.ref b_91)]) (rest := [(.ref b90)]) (lenOf pd__Ljava_lang_Object__V rfl) rfl (by show 2 * 0 + _ ≤ _; exact Nat.le_of_eq rfl) (hb hby at_70) (fun _ _ => ⟨rfl, rfl, (by decide : 2 + 0 ≤ _), (by decide : 2 + 0 ≤ _)⟩)
        dsimp only [Pt.U, Pt.locs, Pt.cells, Pt.slots] at X92 l92 y92 z92 st92 hQ92
        subst l92 y92 z92
        obtain ⟨rfl, Nq92, Kq92, Fq92_0⟩ := hQ92
        have Nf92 := Fr.app Nf91 Nq92
        have K92 : Keep h0 T92.heap [] := K91.trans Kq92 (allS (Or.inr sz_b90) all0)
        have Z92 : n0 ≤ T92.heap.size := Nat.le_trans Z91 Kq92.1
        refine own_fw (A' := (T92.setTop (mkF m 73 #[.val (.int p1), .val (.int p2), .val (.int p3), .val (.int (1 : Int32)), .val (.int (0 : Int32)), .val (.int (0 : Int32)), .val .null, .unset, .unset, .unset, .unset, .unset] [(.ref b90)]))) (fun t k => st92.trans k) ?_
        refine own_fw (A' := (T92.setTop (mkF m 77 #[.val (.int p1), .val (.int p2), .val (.int p3), .val (.int (1 : Int32)), .val (.int (0 : Int32)), .val (.int (0 : Int32)), .val .null, .unset, .unset, .unset, .unset, .unset] [(.ref b90)]))) (fun t k => XS.goto X92.here hx rfl (pc0 := 73) (pc' := 77) rfl (hb hby at_73) (by decide) (by decide) k) ?_
        refine own_fw (A' := (T92.setTop (mkF m 79 #[.val (.int p1), .val (.int p2), .val (.int p3), .val (.int (1 : Int32)), .val (.int (0 : Int32)), .val (.int (0 : Int32)), .val .null, .val (.ref b90), .unset, .unset, .unset, .unset] []))) (fun t k => XS.astore X92.here hx rfl (hb hby at_77) rfl rfl (l' := #[.val (.int p1), .val (.int p2), .val (.int p3), .val (.int (1 : Int32)), .val (.int (0 : Int32)), .val (.int (0 : Int32)), .val .null, .val (.ref b90), .unset, .unset, .unset, .unset]) rfl k) ?_
        refine own_fw (A' := (T92.setTop (mkF m 81 #[.val (.int p1), .val (.int p2), .val (.int p3), .val (.int (1 : Int32)), .val (.int (0 : Int32)), .val (.int (0 : Int32)), .val .null, .val (.ref b90), .unset, .unset, .unset, .unset] [(.int (0 : Int32))]))) (fun t k => XS.iload X92.here hx rfl (hb hby at_79) rfl k) ?_
        refine own_fw (A' := (T92.setTop (mkF m 96 #[.val (.int p1), .val (.int p2), .val (.int p3), .val (.int (1 : Int32)), .val (.int (0 : Int32)), .val (.int (0 : Int32)), .val .null, .val (.ref b90), .unset, .unset, .unset, .unset] []))) (fun t k => XS.ifYes X92.here hx rfl (pc0 := 81) (pc' := 96) rfl (hb hby at_81) rfl (XT.i0_eq_t rfl) (by decide) (by decide) k) ?_
        refine own_fw (A' := (T92.setTop (mkF m 97 #[.val (.int p1), .val (.int p2), .val (.int p3), .val (.int (1 : Int32)), .val (.int (0 : Int32)), .val (.int (0 : Int32)), .val .null, .val (.ref b90), .unset, .unset, .unset, .unset] [.null]))) (fun t k => XS.aconstNull X92.here hx rfl (hb hby at_96) k) ?_
        refine own_fw (A' := (T92.setTop (mkF m 99 #[.val (.int p1), .val (.int p2), .val (.int p3), .val (.int (1 : Int32)), .val (.int (0 : Int32)), .val (.int (0 : Int32)), .val .null, .val (.ref b90), .val .null, .unset, .unset, .unset] []))) (fun t k => XS.astore X92.here hx rfl (hb hby at_97) rfl rfl (l' := #[.val (.int p1), .val (.int p2), .val (.int p3), .val (.int (1 : Int32)), .val (.int (0 : Int32)), .val (.int (0 : Int32)), .val .null, .val (.ref b90), .val .null, .unset, .unset, .unset]) rfl k) ?_
        refine own_fw (A' := (T92.setTop (mkF m 101 #[.val (.int p1), .val (.int p2), .val (.int p3), .val (.int (1 : Int32)), .val (.int (0 : Int32)), .val (.int (0 : Int32)), .val .null, .val (.ref b90), .val .null, .unset, .unset, .unset] [(.int (8 : Int32))]))) (fun t k => XS.bipush X92.here hx rfl (hb hby at_99) k) ?_
        obtain ⟨T93, h93, k93, X93, e93, E93, A93, O93, st93⟩ := newR X92 hx hZ hown (hw _ (List.mem_of_getElem? (i := 0) rfl)) (hw _ (List.mem_of_getElem? (i := 1) rfl)) rfl (g := (mkF m 101 #[.val (.int p1), .val (.int p2), .val (.int p3), .val (.int (1 : Int32)), .val (.int (0 : Int32)), .val (.int (0 : Int32)), .val .null, .val (.ref b90), .val .null, .unset, .unset, .unset] [(.int (8 : Int32))])) rfl (hb hby at_101) rfl (by decide) (cap := 8) (by decide) (by decide) (by decide) (by decide)
        obtain ⟨b93, gb93⟩ : ∃ z, z = T92.heap.size := ⟨_, rfl⟩
        have g_b93 : n0 ≤ b93 := Nat.le_trans Z92 (Nat.le_of_eq gb93.symm)
        have sz_b93 : h0.size ≤ b93 := Nat.le_trans K92.1 (Nat.le_of_eq gb93.symm)
        have ne_ca_b93 : ca ≠ b93 := Nat.ne_of_lt (Nat.lt_of_lt_of_le (own_cacheLt (own_cacheKeep (own_cacheKeep (own_cacheExt P2 E90) Kq91 nin0) Kq92 (ninS ne_ca_b90 nin0))) (Nat.le_of_eq gb93.symm))
        have ne_r_NONE_b93 : r_NONE ≠ b93 := Nat.ne_of_lt (Nat.lt_of_lt_of_le (((P4.ext E90).keep Kq91).keep Kq92).lt (Nat.le_of_eq gb93.symm))
        have ne_r_REMOVED_b93 : r_REMOVED ≠ b93 := Nat.ne_of_lt (Nat.lt_of_lt_of_le (((P6.ext E90).keep Kq91).keep Kq92).lt (Nat.le_of_eq gb93.symm))
        have ne_r_EXPIRED_b93 : r_EXPIRED ≠ b93 := Nat.ne_of_lt (Nat.lt_of_lt_of_le (((P8.ext E90).keep Kq91).keep Kq92).lt (Nat.le_of_eq gb93.symm))
        have ne_r_CREATED_b93 : r_CREATED ≠ b93 := Nat.ne_of_lt (Nat.lt_of_lt_of_le (((P10.ext E90).keep Kq91).keep Kq92).lt (Nat.le_of_eq gb93.symm))
        have ne_r_UPDATED_b93 : r_UPDATED ≠ b93 := Nat.ne_of_lt (Nat.lt_of_lt_of_le (((P12.ext E90).keep Kq91).keep Kq92).lt (Nat.le_of_eq gb93.symm))
        have ne_b90_b93 : b90 ≠ b93 := Nat.ne_of_lt (Nat.lt_of_lt_of_le Fq92_0.lt (Nat.le_of_eq gb93.symm))
        have ne_b_91_b93 : b_91 ≠ b93 := Nat.ne_of_lt (Nat.lt_of_lt_of_le (Fq91_0.keep Kq92).lt (Nat.le_of_eq gb93.symm))
        rw [← gb93] at A93 st93
        have V_b93 : Arv Z h93 b93 k93 (.object "com/example/measured_cache/measuredcache/cache/Change") (8 : Int32) [.null, .null, .null, .null, .null, .null, .null, .null] .null := (Arv.new A93 (by decide)).pad (pad_rep [] .null 8)
        have K93 : Keep h0 h93 [] := K92.ext E93
        have Z93 : n0 ≤ h93.size := Nat.le_trans Z92 E93.1
        refine own_fw (A' := (T93.setTop (mkF m 104 #[.val (.int p1), .val (.int p2), .val (.int p3), .val (.int (1 : Int32)), .val (.int (0 : Int32)), .val (.int (0 : Int32)), .val .null, .val (.ref b90), .val .null, .unset, .unset, .unset] [(.ref b93)]))) (fun t k => st93 _ k) ?_
        refine own_fw (A' := (T93.setTop (mkF m 105 #[.val (.int p1), .val (.int p2), .val (.int p3), .val (.int (1 : Int32)), .val (.int (0 : Int32)), .val (.int (0 : Int32)), .val .null, .val (.ref b90), .val .null, .unset, .unset, .unset] [(.ref b93), (.ref b93)]))) (fun t k => XS.dup X93.here hx rfl (hb hby at_104) rfl rfl k) ?_
        refine own_fw (A' := (T93.setTop (mkF m 106 #[.val (.int p1), .val (.int p2), .val (.int p3), .val (.int (1 : Int32)), .val (.int (0 : Int32)), .val (.int (0 : Int32)), .val .null, .val (.ref b90), .val .null, .unset, .unset, .unset] [(.int (0 : Int32)), (.ref b93), (.ref b93)]))) (fun t k => XS.iconst X93.here hx rfl (hb hby at_105) k) ?_
        obtain ⟨T94, X94, e94, st94⟩ := getS2 X93 hx hZ hown (host := "") (Or.inl (hw _ (List.mem_of_getElem? (i := 2) rfl))) Via.refl e93 ((own_staKeep (own_staKeep (P3.ext E90) Kq91 all0) Kq92 (allS (own_plainE (A90.keep Kq91)) all0)).ext E93) (g := (mkF m 106 #[.val (.int p1), .val (.int p2), .val (.int p3), .val (.int (1 : Int32)), .val (.int (0 : Int32)), .val (.int (0 : Int32)), .val .null, .val (.ref b90), .val .null, .unset, .unset, .unset] [(.int (0 : Int32)), (.ref b93), (.ref b93)])) rfl (hb hby at_106)
        refine own_fw (A' := (T94.setTop (mkF m 109 #[.val (.int p1), .val (.int p2), .val (.int p3), .val (.int (1 : Int32)), .val (.int (0 : Int32)), .val (.int (0 : Int32)), .val .null, .val (.ref b90), .val .null, .unset, .unset, .unset] [(.ref r_NONE), (.int (0 : Int32)), (.ref b93), (.ref b93)]))) (fun t k => st94 _ k) ?_
        obtain ⟨cl95, Ar95, q95, S95, M95, H95, G95⟩ := id V_b93
        have hin95 : ¬ ((0 : Int32) < 0 ∨ cl95.slots.size ≤ ((0 : Int32)).toNatClampNeg) := inb_of S95 ⟨by decide, by decide⟩
        obtain ⟨T95, h95, X95, e95, W95, st95⟩ := stR X94 hx hZ e94 Ar95 (j := (0 : Int32)) hin95 rfl (Sto.ofV Ar95 q95 O93 (Ins.self ((((P4.ext E90).keep Kq91).keep Kq92).ext E93))) (g := (mkF m 109 #[.val (.int p1), .val (.int p2), .val (.int p3), .val (.int (1 : Int32)), .val (.int (0 : Int32)), .val (.int (0 : Int32)), .val .null, .val (.ref b90), .val .null, .unset, .unset, .unset] [(.ref r_NONE), (.int (0 : Int32)), (.ref b93), (.ref b93)])) rfl rfl (hb hby at_109)
        have V95 : Arv Z h95 b93 k93 (.object "com/example/measured_cache/measuredcache/cache/Change") (8 : Int32) [(.ref r_NONE), .null, .null, .null, .null, .null, .null, .null] .null := Arv.set Ar95 q95 S95 M95 H95 G95 rfl W95 0 rfl (Nat.le_of_ble_eq_true rfl)
        have Nf95 := Fr.snoc X95 Nf92 g_b93
        have K95 : Keep h0 h95 [] := K93.wr W95 (Or.inr sz_b93)
        have Z95 : n0 ≤ h95.size := Nat.le_trans Z93 (Keep.of_wr W95).1
        refine own_fw (A' := (T95.setTop (mkF m 110 #[.val (.int p1), .val (.int p2), .val (.int p3), .val (.int (1 : Int32)), .val (.int (0 : Int32)), .val (.int (0 : Int32)), .val .null, .val (.ref b90), .val .null, .unset, .unset, .unset] [(.ref b93)]))) (fun t k => st95 _ k) ?_
        refine own_fw (A' := (T95.setTop (mkF m 111 #[.val (.int p1), .val (.int p2), .val (.int p3), .val (.int (1 : Int32)), .val (.int (0 : Int32)), .val (.int (0 : Int32)), .val .null, .val (.ref b90), .val .null, .unset, .unset, .unset] [(.ref b93), (.ref b93)]))) (fun t k => XS.dup X95.here hx rfl (hb hby at_110) rfl rfl k) ?_
        refine own_fw (A' := (T95.setTop (mkF m 112 #[.val (.int p1), .val (.int p2), .val (.int p3), .val (.int (1 : Int32)), .val (.int (0 : Int32)), .val (.int (0 : Int32)), .val .null, .val (.ref b90), .val .null, .unset, .unset, .unset] [(.int (1 : Int32)), (.ref b93), (.ref b93)]))) (fun t k => XS.iconst X95.here hx rfl (hb hby at_111) k) ?_
        obtain ⟨T96, X96, e96, st96⟩ := getS2 X95 hx hZ hown (host := "") (Or.inl (hw _ (List.mem_of_getElem? (i := 6) rfl))) Via.refl e95 (((own_staKeep (own_staKeep (P5.ext E90) Kq91 all0) Kq92 (allS (own_plainE (A90.keep Kq91)) all0)).ext E93).wr W95) (g := (mkF m 112 #[.val (.int p1), .val (.int p2), .val (.int p3), .val (.int (1 : Int32)), .val (.int (0 : Int32)), .val (.int (0 : Int32)), .val .null, .val (.ref b90), .val .null, .unset, .unset, .unset] [(.int (1 : Int32)), (.ref b93), (.ref b93)])) rfl (hb hby at_112)
        refine own_fw (A' := (T96.setTop (mkF m 115 #[.val (.int p1), .val (.int p2), .val (.int p3), .val (.int (1 : Int32)), .val (.int (0 : Int32)), .val (.int (0 : Int32)), .val .null, .val (.ref b90), .val .null, .unset, .unset, .unset] [(.ref r_REMOVED), (.int (1 : Int32)), (.ref b93), (.ref b93)]))) (fun t k => st96 _ k) ?_
        obtain ⟨cl97, Ar97, q97, S97, M97, H97, G97⟩ := id V95
        have hin97 : ¬ ((1 : Int32) < 0 ∨ cl97.slots.size ≤ ((1 : Int32)).toNatClampNeg) := inb_of S97 ⟨by decide, by decide⟩
        obtain ⟨T97, h97, X97, e97, W97, st97⟩ := stR X96 hx hZ e96 Ar97 (j := (1 : Int32)) hin97 rfl (Sto.ofV Ar97 q97 O93 (Ins.self (((((P6.ext E90).keep Kq91).keep Kq92).ext E93).wr W95))) (g := (mkF m 115 #[.val (.int p1), .val (.int p2), .val (.int p3), .val (.int (1 : Int32)), .val (.int (0 : Int32)), .val (.int (0 : Int32)), .val .null, .val (.ref b90), .val .null, .unset, .unset, .unset] [(.ref r_REMOVED), (.int (1 : Int32)), (.ref b93), (.ref b93)])) rfl rfl (hb hby at_115)
        have V97 : Arv Z h97 b93 k93 (.object "com/example/measured_cache/measuredcache/cache/Change") (8 : Int32) [(.ref r_NONE), (.ref r_REMOVED), .null, .null, .null, .null, .null, .null] .null := Arv.set Ar97 q97 S97 M97 H97 G97 rfl W97 1 rfl (Nat.le_of_ble_eq_true rfl)
        have Nf97 := Fr.snoc X97 Nf95 g_b93
        have K97 : Keep h0 h97 [] := K95.wr W97 (Or.inr sz_b93)
        have Z97 : n0 ≤ h97.size := Nat.le_trans Z95 (Keep.of_wr W97).1
        refine own_fw (A' := (T97.setTop (mkF m 116 #[.val (.int p1), .val (.int p2), .val (.int p3), .val (.int (1 : Int32)), .val (.int (0 : Int32)), .val (.int (0 : Int32)), .val .null, .val (.ref b90), .val .null, .unset, .unset, .unset] [(.ref b93)]))) (fun t k => st97 _ k) ?_
        refine own_fw (A' := (T97.setTop (mkF m 117 #[.val (.int p1), .val (.int p2), .val (.int p3), .val (.int (1 : Int32)), .val (.int (0 : Int32)), .val (.int (0 : Int32)), .val .null, .val (.ref b90), .val .null, .unset, .unset, .unset] [(.ref b93), (.ref b93)]))) (fun t k => XS.dup X97.here hx rfl (hb hby at_116) rfl rfl k) ?_
        refine own_fw (A' := (T97.setTop (mkF m 118 #[.val (.int p1), .val (.int p2), .val (.int p3), .val (.int (1 : Int32)), .val (.int (0 : Int32)), .val (.int (0 : Int32)), .val .null, .val (.ref b90), .val .null, .unset, .unset, .unset] [(.int (2 : Int32)), (.ref b93), (.ref b93)]))) (fun t k => XS.iconst X97.here hx rfl (hb hby at_117) k) ?_
        obtain ⟨T98, X98, e98, st98⟩ := getS2 X97 hx hZ hown (host := "") (Or.inl (hw _ (List.mem_of_getElem? (i := 2) rfl))) Via.refl e97 ((((own_staKeep (own_staKeep (P3.ext E90) Kq91 all0) Kq92 (allS (own_plainE (A90.keep Kq91)) all0)).ext E93).wr W95).wr W97) (g := (mkF m 118 #[.val (.int p1), .val (.int p2), .val (.int p3), .val (.int (1 : Int32)), .val (.int (0 : Int32)), .val (.int (0 : Int32)), .val .null, .val (.ref b90), .val .null, .unset, .unset, .unset] [(.int (2 : Int32)), (.ref b93), (.ref b93)])) rfl (hb hby at_118)
        refine own_fw (A' := (T98.setTop (mkF m 121 #[.val (.int p1), .val (.int p2), .val (.int p3), .val (.int (1 : Int32)), .val (.int (0 : Int32)), .val (.int (0 : Int32)), .val .null, .val (.ref b90), .val .null, .unset, .unset, .unset] [(.ref r_NONE), (.int (2 : Int32)), (.ref b93), (.ref b93)]))) (fun t k => st98 _ k) ?_
        obtain ⟨cl99, Ar99, q99, S99, M99, H99, G99⟩ := id V97
        have hin99 : ¬ ((2 : Int32) < 0 ∨ cl99.slots.size ≤ ((2 : Int32)).toNatClampNeg) := inb_of S99 ⟨by decide, by decide⟩
        obtain ⟨T99, h99, X99, e99, W99, st99⟩ := stR X98 hx hZ e98 Ar99 (j := (2 : Int32)) hin99 rfl (Sto.ofV Ar99 q99 O93 (Ins.self ((((((P4.ext E90).keep Kq91).keep Kq92).ext E93).wr W95).wr W97))) (g := (mkF m 121 #[.val (.int p1), .val (.int p2), .val (.int p3), .val (.int (1 : Int32)), .val (.int (0 : Int32)), .val (.int (0 : Int32)), .val .null, .val (.ref b90), .val .null, .unset, .unset, .unset] [(.ref r_NONE), (.int (2 : Int32)), (.ref b93), (.ref b93)])) rfl rfl (hb hby at_121)
        have V99 : Arv Z h99 b93 k93 (.object "com/example/measured_cache/measuredcache/cache/Change") (8 : Int32) [(.ref r_NONE), (.ref r_REMOVED), (.ref r_NONE), .null, .null, .null, .null, .null] .null := Arv.set Ar99 q99 S99 M99 H99 G99 rfl W99 2 rfl (Nat.le_of_ble_eq_true rfl)
        have Nf99 := Fr.snoc X99 Nf97 g_b93
        have K99 : Keep h0 h99 [] := K97.wr W99 (Or.inr sz_b93)
        have Z99 : n0 ≤ h99.size := Nat.le_trans Z97 (Keep.of_wr W99).1
        refine own_fw (A' := (T99.setTop (mkF m 122 #[.val (.int p1), .val (.int p2), .val (.int p3), .val (.int (1 : Int32)), .val (.int (0 : Int32)), .val (.int (0 : Int32)), .val .null, .val (.ref b90), .val .null, .unset, .unset, .unset] [(.ref b93)]))) (fun t k => st99 _ k) ?_
        refine own_fw (A' := (T99.setTop (mkF m 123 #[.val (.int p1), .val (.int p2), .val (.int p3), .val (.int (1 : Int32)), .val (.int (0 : Int32)), .val (.int (0 : Int32)), .val .null, .val (.ref b90), .val .null, .unset, .unset, .unset] [(.ref b93), (.ref b93)]))) (fun t k => XS.dup X99.here hx rfl (hb hby at_122) rfl rfl k) ?_
        refine own_fw (A' := (T99.setTop (mkF m 124 #[.val (.int p1), .val (.int p2), .val (.int p3), .val (.int (1 : Int32)), .val (.int (0 : Int32)), .val (.int (0 : Int32)), .val .null, .val (.ref b90), .val .null, .unset, .unset, .unset] [(.int (3 : Int32)), (.ref b93), (.ref b93)]))) (fun t k => XS.iconst X99.here hx rfl (hb hby at_123) k) ?_
        obtain ⟨T100, X100, e100, st100⟩ := getS2 X99 hx hZ hown (host := "") (Or.inl (hw _ (List.mem_of_getElem? (i := 8) rfl))) Via.refl e99 (((((own_staKeep (own_staKeep (P7.ext E90) Kq91 all0) Kq92 (allS (own_plainE (A90.keep Kq91)) all0)).ext E93).wr W95).wr W97).wr W99) (g := (mkF m 124 #[.val (.int p1), .val (.int p2), .val (.int p3), .val (.int (1 : Int32)), .val (.int (0 : Int32)), .val (.int (0 : Int32)), .val .null, .val (.ref b90), .val .null, .unset, .unset, .unset] [(.int (3 : Int32)), (.ref b93), (.ref b93)])) rfl (hb hby at_124)
        refine own_fw (A' := (T100.setTop (mkF m 127 #[.val (.int p1), .val (.int p2), .val (.int p3), .val (.int (1 : Int32)), .val (.int (0 : Int32)), .val (.int (0 : Int32)), .val .null, .val (.ref b90), .val .null, .unset, .unset, .unset] [(.ref r_EXPIRED), (.int (3 : Int32)), (.ref b93), (.ref b93)]))) (fun t k => st100 _ k) ?_
        obtain ⟨cl101, Ar101, q101, S101, M101, H101, G101⟩ := id V99
        have hin101 : ¬ ((3 : Int32) < 0 ∨ cl101.slots.size ≤ ((3 : Int32)).toNatClampNeg) := inb_of S101 ⟨by decide, by decide⟩
        obtain ⟨T101, h101, X101, e101, W101, st101⟩ := stR X100 hx hZ e100 Ar101 (j := (3 : Int32)) hin101 rfl (Sto.ofV Ar101 q101 O93 (Ins.self (((((((P8.ext E90).keep Kq91).keep Kq92).ext E93).wr W95).wr W97).wr W99))) (g := (mkF m 127 #[.val (.int p1), .val (.int p2), .val (.int p3), .val (.int (1 : Int32)), .val (.int (0 : Int32)), .val (.int (0 : Int32)), .val .null, .val (.ref b90), .val .null, .unset, .unset, .unset] [(.ref r_EXPIRED), (.int (3 : Int32)), (.ref b93), (.ref b93)])) rfl rfl (hb hby at_127)
        have V101 : Arv Z h101 b93 k93 (.object "com/example/measured_cache/measuredcache/cache/Change") (8 : Int32) [(.ref r_NONE), (.ref r_REMOVED), (.ref r_NONE), (.ref r_EXPIRED), .null, .null, .null, .null] .null := Arv.set Ar101 q101 S101 M101 H101 G101 rfl W101 3 rfl (Nat.le_of_ble_eq_true rfl)
        have Nf101 := Fr.snoc X101 Nf99 g_b93
        have K101 : Keep h0 h101 [] := K99.wr W101 (Or.inr sz_b93)
        have Z101 : n0 ≤ h101.size := Nat.le_trans Z99 (Keep.of_wr W101).1
        refine own_fw (A' := (T101.setTop (mkF m 128 #[.val (.int p1), .val (.int p2), .val (.int p3), .val (.int (1 : Int32)), .val (.int (0 : Int32)), .val (.int (0 : Int32)), .val .null, .val (.ref b90), .val .null, .unset, .unset, .unset] [(.ref b93)]))) (fun t k => st101 _ k) ?_
        refine own_fw (A' := (T101.setTop (mkF m 129 #[.val (.int p1), .val (.int p2), .val (.int p3), .val (.int (1 : Int32)), .val (.int (0 : Int32)), .val (.int (0 : Int32)), .val .null, .val (.ref b90), .val .null, .unset, .unset, .unset] [(.ref b93), (.ref b93)]))) (fun t k => XS.dup X101.here hx rfl (hb hby at_128) rfl rfl k) ?_
        refine own_fw (A' := (T101.setTop (mkF m 130 #[.val (.int p1), .val (.int p2), .val (.int p3), .val (.int (1 : Int32)), .val (.int (0 : Int32)), .val (.int (0 : Int32)), .val .null, .val (.ref b90), .val .null, .unset, .unset, .unset] [(.int (4 : Int32)), (.ref b93), (.ref b93)]))) (fun t k => XS.iconst X101.here hx rfl (hb hby at_129) k) ?_
        obtain ⟨T102, X102, e102, st102⟩ := getS2 X101 hx hZ hown (host := "") (Or.inl (hw _ (List.mem_of_getElem? (i := 10) rfl))) Via.refl e101 ((((((own_staKeep (own_staKeep (P9.ext E90) Kq91 all0) Kq92 (allS (own_plainE (A90.keep Kq91)) all0)).ext E93).wr W95).wr W97).wr W99).wr W101) (g := (mkF m 130 #[.val (.int p1), .val (.int p2), .val (.int p3), .val (.int (1 : Int32)), .val (.int (0 : Int32)), .val (.int (0 : Int32)), .val .null, .val (.ref b90), .val .null, .unset, .unset, .unset] [(.int (4 : Int32)), (.ref b93), (.ref b93)])) rfl (hb hby at_130)
        refine own_fw (A' := (T102.setTop (mkF m 133 #[.val (.int p1), .val (.int p2), .val (.int p3), .val (.int (1 : Int32)), .val (.int (0 : Int32)), .val (.int (0 : Int32)), .val .null, .val (.ref b90), .val .null, .unset, .unset, .unset] [(.ref r_CREATED), (.int (4 : Int32)), (.ref b93), (.ref b93)]))) (fun t k => st102 _ k) ?_
        obtain ⟨cl103, Ar103, q103, S103, M103, H103, G103⟩ := id V101
        have hin103 : ¬ ((4 : Int32) < 0 ∨ cl103.slots.size ≤ ((4 : Int32)).toNatClampNeg) := inb_of S103 ⟨by decide, by decide⟩
        obtain ⟨T103, h103, X103, e103, W103, st103⟩ := stR X102 hx hZ e102 Ar103 (j := (4 : Int32)) hin103 rfl (Sto.ofV Ar103 q103 O93 (Ins.self ((((((((P10.ext E90).keep Kq91).keep Kq92).ext E93).wr W95).wr W97).wr W99).wr W101))) (g := (mkF m 133 #[.val (.int p1), .val (.int p2), .val (.int p3), .val (.int (1 : Int32)), .val (.int (0 : Int32)), .val (.int (0 : Int32)), .val .null, .val (.ref b90), .val .null, .unset, .unset, .unset] [(.ref r_CREATED), (.int (4 : Int32)), (.ref b93), (.ref b93)])) rfl rfl (hb hby at_133)
        have V103 : Arv Z h103 b93 k93 (.object "com/example/measured_cache/measuredcache/cache/Change") (8 : Int32) [(.ref r_NONE), (.ref r_REMOVED), (.ref r_NONE), (.ref r_EXPIRED), (.ref r_CREATED), .null, .null, .null] .null := Arv.set Ar103 q103 S103 M103 H103 G103 rfl W103 4 rfl (Nat.le_of_ble_eq_true rfl)
        have Nf103 := Fr.snoc X103 Nf101 g_b93
        have K103 : Keep h0 h103 [] := K101.wr W103 (Or.inr sz_b93)
        have Z103 : n0 ≤ h103.size := Nat.le_trans Z101 (Keep.of_wr W103).1
        refine own_fw (A' := (T103.setTop (mkF m 134 #[.val (.int p1), .val (.int p2), .val (.int p3), .val (.int (1 : Int32)), .val (.int (0 : Int32)), .val (.int (0 : Int32)), .val .null, .val (.ref b90), .val .null, .unset, .unset, .unset] [(.ref b93)]))) (fun t k => st103 _ k) ?_
        refine own_fw (A' := (T103.setTop (mkF m 135 #[.val (.int p1), .val (.int p2), .val (.int p3), .val (.int (1 : Int32)), .val (.int (0 : Int32)), .val (.int (0 : Int32)), .val .null, .val (.ref b90), .val .null, .unset, .unset, .unset] [(.ref b93), (.ref b93)]))) (fun t k => XS.dup X103.here hx rfl (hb hby at_134) rfl rfl k) ?_
        refine own_fw (A' := (T103.setTop (mkF m 136 #[.val (.int p1), .val (.int p2), .val (.int p3), .val (.int (1 : Int32)), .val (.int (0 : Int32)), .val (.int (0 : Int32)), .val .null, .val (.ref b90), .val .null, .unset, .unset, .unset] [(.int (5 : Int32)), (.ref b93), (.ref b93)]))) (fun t k => XS.iconst X103.here hx rfl (hb hby at_135) k) ?_
        obtain ⟨T104, X104, e104, st104⟩ := getS2 X103 hx hZ hown (host := "") (Or.inl (hw _ (List.mem_of_getElem? (i := 12) rfl))) Via.refl e103 (((((((own_staKeep (own_staKeep (P11.ext E90) Kq91 all0) Kq92 (allS (own_plainE (A90.keep Kq91)) all0)).ext E93).wr W95).wr W97).wr W99).wr W101).wr W103) (g := (mkF m 136 #[.val (.int p1), .val (.int p2), .val (.int p3), .val (.int (1 : Int32)), .val (.int (0 : Int32)), .val (.int (0 : Int32)), .val .null, .val (.ref b90), .val .null, .unset, .unset, .unset] [(.int (5 : Int32)), (.ref b93), (.ref b93)])) rfl (hb hby at_136)
        refine own_fw (A' := (T104.setTop (mkF m 139 #[.val (.int p1), .val (.int p2), .val (.int p3), .val (.int (1 : Int32)), .val (.int (0 : Int32)), .val (.int (0 : Int32)), .val .null, .val (.ref b90), .val .null, .unset, .unset, .unset] [(.ref r_UPDATED), (.int (5 : Int32)), (.ref b93), (.ref b93)]))) (fun t k => st104 _ k) ?_
        obtain ⟨cl105, Ar105, q105, S105, M105, H105, G105⟩ := id V103
        have hin105 : ¬ ((5 : Int32) < 0 ∨ cl105.slots.size ≤ ((5 : Int32)).toNatClampNeg) := inb_of S105 ⟨by decide, by decide⟩
        obtain ⟨T105, h105, X105, e105, W105, st105⟩ := stR X104 hx hZ e104 Ar105 (j := (5 : Int32)) hin105 rfl (Sto.ofV Ar105 q105 O93 (Ins.self (((((((((P12.ext E90).keep Kq91).keep Kq92).ext E93).wr W95).wr W97).wr W99).wr W101).wr W103))) (g := (mkF m 139 #[.val (.int p1), .val (.int p2), .val (.int p3), .val (.int (1 : Int32)), .val (.int (0 : Int32)), .val (.int (0 : Int32)), .val .null, .val (.ref b90), .val .null, .unset, .unset, .unset] [(.ref r_UPDATED), (.int (5 : Int32)), (.ref b93), (.ref b93)])) rfl rfl (hb hby at_139)
        have V105 : Arv Z h105 b93 k93 (.object "com/example/measured_cache/measuredcache/cache/Change") (8 : Int32) [(.ref r_NONE), (.ref r_REMOVED), (.ref r_NONE), (.ref r_EXPIRED), (.ref r_CREATED), (.ref r_UPDATED), .null, .null] .null := Arv.set Ar105 q105 S105 M105 H105 G105 rfl W105 5 rfl (Nat.le_of_ble_eq_true rfl)
        have Nf105 := Fr.snoc X105 Nf103 g_b93
        have K105 : Keep h0 h105 [] := K103.wr W105 (Or.inr sz_b93)
        have Z105 : n0 ≤ h105.size := Nat.le_trans Z103 (Keep.of_wr W105).1
        refine own_fw (A' := (T105.setTop (mkF m 140 #[.val (.int p1), .val (.int p2), .val (.int p3), .val (.int (1 : Int32)), .val (.int (0 : Int32)), .val (.int (0 : Int32)), .val .null, .val (.ref b90), .val .null, .unset, .unset, .unset] [(.ref b93)]))) (fun t k => st105 _ k) ?_
        refine own_fw (A' := (T105.setTop (mkF m 141 #[.val (.int p1), .val (.int p2), .val (.int p3), .val (.int (1 : Int32)), .val (.int (0 : Int32)), .val (.int (0 : Int32)), .val .null, .val (.ref b90), .val .null, .unset, .unset, .unset] [(.ref b93), (.ref b93)]))) (fun t k => XS.dup X105.here hx rfl (hb hby at_140) rfl rfl k) ?_
        refine own_fw (A' := (T105.setTop (mkF m 143 #[.val (.int p1), .val (.int p2), .val (.int p3), .val (.int (1 : Int32)), .val (.int (0 : Int32)), .val (.int (0 : Int32)), .val .null, .val (.ref b90), .val .null, .unset, .unset, .unset] [(.int (6 : Int32)), (.ref b93), (.ref b93)]))) (fun t k => XS.bipush X105.here hx rfl (hb hby at_141) k) ?_
        obtain ⟨T106, X106, e106, st106⟩ := getS2 X105 hx hZ hown (host := "") (Or.inl (hw _ (List.mem_of_getElem? (i := 10) rfl))) Via.refl e105 ((((((((own_staKeep (own_staKeep (P9.ext E90) Kq91 all0) Kq92 (allS (own_plainE (A90.keep Kq91)) all0)).ext E93).wr W95).wr W97).wr W99).wr W101).wr W103).wr W105) (g := (mkF m 143 #[.val (.int p1), .val (.int p2), .val (.int p3), .val (.int (1 : Int32)), .val (.int (0 : Int32)), .val (.int (0 : Int32)), .val .null, .val (.ref b90), .val .null, .unset, .unset, .unset] [(.int (6 : Int32)), (.ref b93), (.ref b93)])) rfl (hb hby at_143)
        refine own_fw (A' := (T106.setTop (mkF m 146 #[.val (.int p1), .val (.int p2), .val (.int p3), .val (.int (1 : Int32)), .val (.int (0 : Int32)), .val (.int (0 : Int32)), .val .null, .val (.ref b90), .val .null, .unset, .unset, .unset] [(.ref r_CREATED), (.int (6 : Int32)), (.ref b93), (.ref b93)]))) (fun t k => st106 _ k) ?_
        obtain ⟨cl107, Ar107, q107, S107, M107, H107, G107⟩ := id V105
        have hin107 : ¬ ((6 : Int32) < 0 ∨ cl107.slots.size ≤ ((6 : Int32)).toNatClampNeg) := inb_of S107 ⟨by decide, by decide⟩
        obtain ⟨T107, h107, X107, e107, W107, st107⟩ := stR X106 hx hZ e106 Ar107 (j := (6 : Int32)) hin107 rfl (Sto.ofV Ar107 q107 O93 (Ins.self ((((((((((P10.ext E90).keep Kq91).keep Kq92).ext E93).wr W95).wr W97).wr W99).wr W101).wr W103).wr W105))) (g := (mkF m 146 #[.val (.int p1), .val (.int p2), .val (.int p3), .val (.int (1 : Int32)), .val (.int (0 : Int32)), .val (.int (0 : Int32)), .val .null, .val (.ref b90), .val .null, .unset, .unset, .unset] [(.ref r_CREATED), (.int (6 : Int32)), (.ref b93), (.ref b93)])) rfl rfl (hb hby at_146)
        have V107 : Arv Z h107 b93 k93 (.object "com/example/measured_cache/measuredcache/cache/Change") (8 : Int32) [(.ref r_NONE), (.ref r_REMOVED), (.ref r_NONE), (.ref r_EXPIRED), (.ref r_CREATED), (.ref r_UPDATED), (.ref r_CREATED), .null] .null := Arv.set Ar107 q107 S107 M107 H107 G107 rfl W107 6 rfl (Nat.le_of_ble_eq_true rfl)
        have Nf107 := Fr.snoc X107 Nf105 g_b93
        have K107 : Keep h0 h107 [] := K105.wr W107 (Or.inr sz_b93)
        have Z107 : n0 ≤ h107.size := Nat.le_trans Z105 (Keep.of_wr W107).1
        refine own_fw (A' := (T107.setTop (mkF m 147 #[.val (.int p1), .val (.int p2), .val (.int p3), .val (.int (1 : Int32)), .val (.int (0 : Int32)), .val (.int (0 : Int32)), .val .null, .val (.ref b90), .val .null, .unset, .unset, .unset] [(.ref b93)]))) (fun t k => st107 _ k) ?_
        refine own_fw (A' := (T107.setTop (mkF m 148 #[.val (.int p1), .val (.int p2), .val (.int p3), .val (.int (1 : Int32)), .val (.int (0 : Int32)), .val (.int (0 : Int32)), .val .null, .val (.ref b90), .val .null, .unset, .unset, .unset] [(.ref b93), (.ref b93)]))) (fun t k => XS.dup X107.here hx rfl (hb hby at_147) rfl rfl k) ?_
        refine own_fw (A' := (T107.setTop (mkF m 150 #[.val (.int p1), .val (.int p2), .val (.int p3), .val (.int (1 : Int32)), .val (.int (0 : Int32)), .val (.int (0 : Int32)), .val .null, .val (.ref b90), .val .null, .unset, .unset, .unset] [(.int (7 : Int32)), (.ref b93), (.ref b93)]))) (fun t k => XS.bipush X107.here hx rfl (hb hby at_148) k) ?_
        obtain ⟨T108, X108, e108, st108⟩ := getS2 X107 hx hZ hown (host := "") (Or.inl (hw _ (List.mem_of_getElem? (i := 12) rfl))) Via.refl e107 (((((((((own_staKeep (own_staKeep (P11.ext E90) Kq91 all0) Kq92 (allS (own_plainE (A90.keep Kq91)) all0)).ext E93).wr W95).wr W97).wr W99).wr W101).wr W103).wr W105).wr W107) (g := (mkF m 150 #[.val (.int p1), .val (.int p2), .val (.int p3), .val (.int (1 : Int32)), .val (.int (0 : Int32)), .val (.int (0 : Int32)), .val .null, .val (.ref b90), .val .null, .unset, .unset, .unset] [(.int (7 : Int32)), (.ref b93), (.ref b93)])) rfl (hb hby at_150)
        refine own_fw (A' := (T108.setTop (mkF m 153 #[.val (.int p1), .val (.int p2), .val (.int p3), .val (.int (1 : Int32)), .val (.int (0 : Int32)), .val (.int (0 : Int32)), .val .null, .val (.ref b90), .val .null, .unset, .unset, .unset] [(.ref r_UPDATED), (.int (7 : Int32)), (.ref b93), (.ref b93)]))) (fun t k => st108 _ k) ?_
        obtain ⟨cl109, Ar109, q109, S109, M109, H109, G109⟩ := id V107
        have hin109 : ¬ ((7 : Int32) < 0 ∨ cl109.slots.size ≤ ((7 : Int32)).toNatClampNeg) := inb_of S109 ⟨by decide, by decide⟩
        obtain ⟨T109, h109, X109, e109, W109, st109⟩ := stR X108 hx hZ e108 Ar109 (j := (7 : Int32)) hin109 rfl (Sto.ofV Ar109 q109 O93 (Ins.self (((((((((((P12.ext E90).keep Kq91).keep Kq92).ext E93).wr W95).wr W97).wr W99).wr W101).wr W103).wr W105).wr W107))) (g := (mkF m 153 #[.val (.int p1), .val (.int p2), .val (.int p3), .val (.int (1 : Int32)), .val (.int (0 : Int32)), .val (.int (0 : Int32)), .val .null, .val (.ref b90), .val .null, .unset, .unset, .unset] [(.ref r_UPDATED), (.int (7 : Int32)), (.ref b93), (.ref b93)])) rfl rfl (hb hby at_153)
        have V109 : Arv Z h109 b93 k93 (.object "com/example/measured_cache/measuredcache/cache/Change") (8 : Int32) [(.ref r_NONE), (.ref r_REMOVED), (.ref r_NONE), (.ref r_EXPIRED), (.ref r_CREATED), (.ref r_UPDATED), (.ref r_CREATED), (.ref r_UPDATED)] .null := Arv.set Ar109 q109 S109 M109 H109 G109 rfl W109 7 rfl (Nat.le_of_ble_eq_true rfl)
        have Nf109 := Fr.snoc X109 Nf107 g_b93
        have K109 : Keep h0 h109 [] := K107.wr W109 (Or.inr sz_b93)
        have Z109 : n0 ≤ h109.size := Nat.le_trans Z107 (Keep.of_wr W109).1
        refine own_fw (A' := (T109.setTop (mkF m 154 #[.val (.int p1), .val (.int p2), .val (.int p3), .val (.int (1 : Int32)), .val (.int (0 : Int32)), .val (.int (0 : Int32)), .val .null, .val (.ref b90), .val .null, .unset, .unset, .unset] [(.ref b93)]))) (fun t k => st109 _ k) ?_
        refine own_fw (A' := (T109.setTop (mkF m 156 #[.val (.int p1), .val (.int p2), .val (.int p3), .val (.int (1 : Int32)), .val (.int (0 : Int32)), .val (.int (0 : Int32)), .val .null, .val (.ref b90), .val .null, .val (.ref b93), .unset, .unset] []))) (fun t k => XS.astore X109.here hx rfl (hb hby at_154) rfl rfl (l' := #[.val (.int p1), .val (.int p2), .val (.int p3), .val (.int (1 : Int32)), .val (.int (0 : Int32)), .val (.int (0 : Int32)), .val .null, .val (.ref b90), .val .null, .val (.ref b93), .unset, .unset]) rfl k) ?_
        refine own_fw (A' := (T109.setTop (mkF m 158 #[.val (.int p1), .val (.int p2), .val (.int p3), .val (.int (1 : Int32)), .val (.int (0 : Int32)), .val (.int (0 : Int32)), .val .null, .val (.ref b90), .val .null, .val (.ref b93), .unset, .unset] [(.ref b93)]))) (fun t k => XS.aload X109.here hx rfl (hb hby at_156) rfl rfl k) ?_
        refine own_fw (A' := (T109.setTop (mkF m 159 #[.val (.int p1), .val (.int p2), .val (.int p3), .val (.int (1 : Int32)), .val (.int (0 : Int32)), .val (.int (0 : Int32)), .val .null, .val (.ref b90), .val .null, .val (.ref b93), .unset, .unset] [(.int p1), (.ref b93)]))) (fun t k => XS.iloadN X109.here hx rfl (hb hby at_158) rfl k) ?_
        refine own_fw (A' := (T109.setTop (mkF m 161 #[.val (.int p1), .val (.int p2), .val (.int p3), .val (.int (1 : Int32)), .val (.int (0 : Int32)), .val (.int (0 : Int32)), .val .null, .val (.ref b90), .val .null, .val (.ref b93), .unset, .unset] [(.int (7 : Int32)), (.int p1), (.ref b93)]))) (fun t k => XS.bipush X109.here hx rfl (hb hby at_159) k) ?_
        refine own_fw (A' := (T109.setTop (mkF m 162 #[.val (.int p1), .val (.int p2), .val (.int p3), .val (.int (1 : Int32)), .val (.int (0 : Int32)), .val (.int (0 : Int32)), .val .null, .val (.ref b90), .val .null, .val (.ref b93), .unset, .unset] [(.int (p1 &&& (7 : Int32))), (.ref b93)]))) (fun t k => XS.iand X109.here hx rfl (hb hby at_161) rfl k) ?_
        rw [own_ix p1 (1 : Int32) false true true (decide_eq_false hc1) (decide_eq_true hc88) (decide_eq_true hc89) (by decide)]
        obtain ⟨cl110, Ar110, q110, S110, M110, H110, G110⟩ := id V109
        have hin110 : ¬ ((1 : Int32) < 0 ∨ cl110.slots.size ≤ ((1 : Int32)).toNatClampNeg) := inb_of S110 ⟨by decide, by decide⟩
        have hat110 : cl110.slots[((1 : Int32)).toNatClampNeg]? = some (.ref r_REMOVED) := H110.at hin110 rfl
        refine own_fw (A' := (T109.setTop (mkF m 163 #[.val (.int p1), .val (.int p2), .val (.int p3), .val (.int (1 : Int32)), .val (.int (0 : Int32)), .val (.int (0 : Int32)), .val .null, .val (.ref b90), .val .null, .val (.ref b93), .unset, .unset] [(.ref r_REMOVED)]))) (fun t k => X109.aaload hx (j := (1 : Int32)) (v := (.ref r_REMOVED)) (by rw [e109]; exact Ar110.1) (State.isArrayOf_alike hZ.alike Ar110.2.1) rfl Ar110.2.2 hin110 hat110 (g := (mkF m 162 #[.val (.int p1), .val (.int p2), .val (.int p3), .val (.int (1 : Int32)), .val (.int (0 : Int32)), .val (.int (0 : Int32)), .val .null, .val (.ref b90), .val .null, .val (.ref b93), .unset, .unset] [(.int (1 : Int32)), (.ref b93)])) rfl rfl (hb hby at_162) _ k) ?_
        refine own_fw (A' := (T109.setTop (mkF m 165 #[.val (.int p1), .val (.int p2), .val (.int p3), .val (.int (1 : Int32)), .val (.int (0 : Int32)), .val (.int (0 : Int32)), .val .null, .val (.ref b90), .val .null, .val (.ref b93), .val (.ref r_REMOVED), .unset] []))) (fun t k => XS.astore X109.here hx rfl (hb hby at_163) rfl rfl (l' := #[.val (.int p1), .val (.int p2), .val (.int p3), .val (.int (1 : Int32)), .val (.int (0 : Int32)), .val (.int (0 : Int32)), .val .null, .val (.ref b90), .val .null, .val (.ref b93), .val (.ref r_REMOVED), .unset]) rfl k) ?_
        refine own_fw (A' := (T109.setTop (mkF m 167 #[.val (.int p1), .val (.int p2), .val (.int p3), .val (.int (1 : Int32)), .val (.int (0 : Int32)), .val (.int (0 : Int32)), .val .null, .val (.ref b90), .val .null, .val (.ref b93), .val (.ref r_REMOVED), .unset] [(.ref b90)]))) (fun t k => XS.aload X109.here hx rfl (hb hby at_165) rfl rfl k) ?_
        refine own_fw (A' := (T109.setTop (mkF m 169 #[.val (.int p1), .val (.int p2), .val (.int p3), .val (.int (1 : Int32)), .val (.int (0 : Int32)), .val (.int (0 : Int32)), .val .null, .val (.ref b90), .val .null, .val (.ref b93), .val (.ref r_REMOVED), .unset] [.null, (.ref b90)]))) (fun t k => XS.aload X109.here hx rfl (hb hby at_167) rfl rfl k) ?_
        refine own_fw (A' := (T109.setTop (mkF m 171 #[.val (.int p1), .val (.int p2), .val (.int p3), .val (.int (1 : Int32)), .val (.int (0 : Int32)), .val (.int (0 : Int32)), .val .null, .val (.ref b90), .val .null, .val (.ref b93), .val (.ref r_REMOVED), .unset] [.null, .null, (.ref b90)]))) (fun t k => XS.aload X109.here hx rfl (hb hby at_169) rfl rfl k) ?_
        obtain ⟨_, _, ⟨T111, L111, k111, n111⟩, -, X111, ⟨Lc111, hQ111, l111, y111, z111⟩, st111⟩ := Jvm.LawKit.callS X109 hx (y := (⟨"com/example/measured_cache/measuredcache/cache/Change", "of", "(Lcom/example/measured_cache/measuredcache/cache/EntryVersion;Ljava/lang/Object;Lcom/example/measured_cache/measuredcache/cache/EntryVersion;)Lcom/example/measured_cache/measuredcache/cache/Change;"⟩ : MethodName)) hown (mvT hZ (hw _ (List.mem_of_getElem? (i := 14) rfl))) (mvT hZ (hw _ (List.mem_of_getElem? (i := 15) rfl))) (mvT hZ (hw _ (List.mem_of_getElem? (i := 3) rfl))) (mvT hZ (hw _ (List.mem_of_getElem? (i := 16) rfl))) (by decide) (backOf (W := 0) (rmOf011 l Z a0 hw [] b90 r_REMOVED h109 n0 Z109 ((((((((((own_staKeep (own_staKeep (P5.ext E90) Kq91 all0) Kq92 (allS (own_plainE (A90.keep Kq91)) all0)).ext E93).wr W95).wr W97).wr W99).wr W101).wr W103).wr W105).wr W107).wr W109)) hZ (hw _ (List.mem_of_getElem? (i := 16) rfl)) (hw _ (List.mem_of_getElem? (i := 3) rfl)) (by decide) (by decide)) (g := (mkF m 171 #[.val (.int p1), .val (.int p2), .val (.int p3), .val (.int (1 : Int32)), .val (.int (0 : Int32)), .val (.int (0 : Int32)), .val .null, .val (.ref b90), .val .null, .val (.ref b93), .val (.ref r_REMOVED), .unset] [.null, .null, (.ref b90)])) rfl (by rw [hml]; rfl) (argsL := [(.ref b90), .null, .null]) (rest := []) (lenOf pd__Lcom_example_measured_cache_measuredcache_cache_EntryVersion_Ljava_lang_Object_Lcom_example_measured_cache_measuredcache_cache_EntryVersion__Lcom_example_measured_cache_measuredcache_cache_Change_ rfl) rfl (by show 2 * 0 + _ ≤ _; exact Nat.le_of_eq rfl) (hb hby at_171) (fun _ _ => ⟨rfl, e109, (by decide : 3 + 0 ≤ _), (by decide : 10 + 0 ≤ _)⟩)
        dsimp only [Pt.U, Pt.locs, Pt.cells, Pt.slots] at X111 l111 y111 z111 st111 hQ111
        subst l111 y111 z111
        obtain ⟨rfl, Nq111, e111⟩ := hQ111
        have Nf111 := Fr.app Nf109 Nq111
        refine own_fw (A' := (T111.setTop (mkF m 174 #[.val (.int p1), .val (.int p2), .val (.int p3), .val (.int (1 : Int32)), .val (.int (0 : Int32)), .val (.int (0 : Int32)), .val .null, .val (.ref b90), .val .null, .val (.ref b93), .val (.ref r_REMOVED), .unset] [(.ref r_REMOVED)]))) (fun t k => st111 _ k) ?_
        refine own_fw (A' := (T111.setTop (mkF m 176 #[.val (.int p1), .val (.int p2), .val (.int p3), .val (.int (1 : Int32)), .val (.int (0 : Int32)), .val (.int (0 : Int32)), .val .null, .val (.ref b90), .val .null, .val (.ref b93), .val (.ref r_REMOVED), .val (.ref r_REMOVED)] []))) (fun t k => XS.astore X111.here hx rfl (hb hby at_174) rfl rfl (l' := #[.val (.int p1), .val (.int p2), .val (.int p3), .val (.int (1 : Int32)), .val (.int (0 : Int32)), .val (.int (0 : Int32)), .val .null, .val (.ref b90), .val .null, .val (.ref b93), .val (.ref r_REMOVED), .val (.ref r_REMOVED)]) rfl k) ?_
        refine own_fw (A' := (T111.setTop (mkF m 178 #[.val (.int p1), .val (.int p2), .val (.int p3), .val (.int (1 : Int32)), .val (.int (0 : Int32)), .val (.int (0 : Int32)), .val .null, .val (.ref b90), .val .null, .val (.ref b93), .val (.ref r_REMOVED), .val (.ref r_REMOVED)] [(.ref r_REMOVED)]))) (fun t k => XS.aload X111.here hx rfl (hb hby at_176) rfl rfl k) ?_
        refine own_fw (A' := (T111.setTop (mkF m 180 #[.val (.int p1), .val (.int p2), .val (.int p3), .val (.int (1 : Int32)), .val (.int (0 : Int32)), .val (.int (0 : Int32)), .val .null, .val (.ref b90), .val .null, .val (.ref b93), .val (.ref r_REMOVED), .val (.ref r_REMOVED)] [(.ref r_REMOVED), (.ref r_REMOVED)]))) (fun t k => XS.aload X111.here hx rfl (hb hby at_178) rfl rfl k) ?_
        refine own_fw (A' := (T111.setTop (mkF m 183 #[.val (.int p1), .val (.int p2), .val (.int p3), .val (.int (1 : Int32)), .val (.int (0 : Int32)), .val (.int (0 : Int32)), .val .null, .val (.ref b90), .val .null, .val (.ref b93), .val (.ref r_REMOVED), .val (.ref r_REMOVED)] []))) (fun t k => Jvm.RoadKit.acmp (g := (mkF m 180 #[.val (.int p1), .val (.int p2), .val (.int p3), .val (.int (1 : Int32)), .val (.int (0 : Int32)), .val (.int (0 : Int32)), .val .null, .val (.ref b90), .val .null, .val (.ref b93), .val (.ref r_REMOVED), .val (.ref r_REMOVED)] [(.ref r_REMOVED), (.ref r_REMOVED)])) X111 hx rfl rfl rfl (pc0 := 180) (pc' := 183) (same := true) rfl (hb hby at_180) rfl (decide_eq_true rfl) (by decide) (by decide) k) ?_
        refine own_fw (A' := (T111.setTop (mkF m 184 #[.val (.int p1), .val (.int p2), .val (.int p3), .val (.int (1 : Int32)), .val (.int (0 : Int32)), .val (.int (0 : Int32)), .val .null, .val (.ref b90), .val .null, .val (.ref b93), .val (.ref r_REMOVED), .val (.ref r_REMOVED)] [(.int (1 : Int32))]))) (fun t k => XS.iconst X111.here hx rfl (hb hby at_183) k) ?_
        refine own_fw (A' := (T111.setTop (mkF m 188 #[.val (.int p1), .val (.int p2), .val (.int p3), .val (.int (1 : Int32)), .val (.int (0 : Int32)), .val (.int (0 : Int32)), .val .null, .val (.ref b90), .val .null, .val (.ref b93), .val (.ref r_REMOVED), .val (.ref r_REMOVED)] [(.int (1 : Int32))]))) (fun t k => XS.goto X111.here hx rfl (pc0 := 184) (pc' := 188) rfl (hb hby at_184) (by decide) (by decide) k) ?_
        obtain ⟨fs, hr, hrun, hended, hW, hsame⟩ := X111.leave (v := some (.int (1 : Int32))) (fun h => by rw [Bd.returns] at h; cases h)
        refine ⟨_, _, ?_, hrun, hended, _, _, rfl, ?_, ⟨_, rfl⟩, hW, hsame.mono (by decide) (by decide)⟩
        · exact retOut X111 hx Bd.returns rfl (Or.inl ⟨rfl, by simp, _, rfl⟩) (hb hby at_188) hr
        · show Q_rm0 Z p1 p2 p3 ca r_NONE r_REMOVED r_EXPIRED r_CREATED r_UPDATED h0 n0 _ T111.heap _
          rw [e111]
          exact ⟨rfl, Nf111⟩
      · refine own_fw (A' := (s₁.setTop (mkF m 36 #[.val (.int p1), .val (.int p2), .val (.int p3), .val (.int (1 : Int32)), .val (.int (0 : Int32)), .unset, .unset, .unset, .unset, .unset, .unset, .unset] []))) (fun t k => XS.ifYes X0.here hx rfl (pc0 := 28) (pc' := 36) rfl (hb hby at_28) rfl (XT.i0_ne_t hc89) (by decide) (by decide) k) ?_
        refine own_fw (A' := (s₁.setTop (mkF m 37 #[.val (.int p1), .val (.int p2), .val (.int p3), .val (.int (1 : Int32)), .val (.int (0 : Int32)), .unset, .unset, .unset, .unset, .unset, .unset, .unset] [(.int (1 : Int32))]))) (fun t k => XS.iconst X0.here hx rfl (hb hby at_36) k) ?_
        refine own_fw (A' := (s₁.setTop (mkF m 41 #[.val (.int p1), .val (.int p2), .val (.int p3), .val (.int (1 : Int32)), .val (.int (0 : Int32)), .unset, .unset, .unset, .unset, .unset, .unset, .unset] [(.int (1 : Int32))]))) (fun t k => XS.goto X0.here hx rfl (pc0 := 37) (pc' := 41) rfl (hb hby at_37) (by decide) (by decide) k) ?_
        refine own_fw (A' := (s₁.setTop (mkF m 43 #[.val (.int p1), .val (.int p2), .val (.int p3), .val (.int (1 : Int32)), .val (.int (0 : Int32)), .val (.int (1 : Int32)), .unset, .unset, .unset, .unset, .unset, .unset] []))) (fun t k => XS.istore X0.here hx rfl (hb hby at_41) rfl (l' := #[.val (.int p1), .val (.int p2), .val (.int p3), .val (.int (1 : Int32)), .val (.int (0 : Int32)), .val (.int (1 : Int32)), .unset, .unset, .unset, .unset, .unset, .unset]) rfl k) ?_
        refine own_fw (A' := (s₁.setTop (mkF m 45 #[.val (.int p1), .val (.int p2), .val (.int p3), .val (.int (1 : Int32)), .val (.int (0 : Int32)), .val (.int (1 : Int32)), .unset, .unset, .unset, .unset, .unset, .unset] [(.int (1 : Int32))]))) (fun t k => XS.iload X0.here hx rfl (hb hby at_43) rfl k) ?_
        refine own_fw (A' := (s₁.setTop (mkF m 48 #[.val (.int p1), .val (.int p2), .val (.int p3), .val (.int (1 : Int32)), .val (.int (0 : Int32)), .val (.int (1 : Int32)), .unset, .unset, .unset, .unset, .unset, .unset] []))) (fun t k => XS.ifNo X0.here hx rfl (hb hby at_45) rfl (XT.i0_eq_f (by decide)) k) ?_
        refine own_fw (A' := (s₁.setTop (mkF m 49 #[.val (.int p1), .val (.int p2), .val (.int p3), .val (.int (1 : Int32)), .val (.int (0 : Int32)), .val (.int (1 : Int32)), .unset, .unset, .unset, .unset, .unset, .unset] [(.int p3)]))) (fun t k => XS.iloadN X0.here hx rfl (hb hby at_48) rfl k) ?_
        obtain ⟨_, _, ⟨T112, L112, k112, n112⟩, -, X112, ⟨Lc112, hQ112, l112, y112, z112⟩, st112⟩ := Jvm.LawKit.callS X0 hx (y := (⟨"java/lang/Integer", "valueOf", "(I)Ljava/lang/Integer;"⟩ : MethodName)) hown (mvT hZ (hw _ (List.mem_of_getElem? (i := 21) rfl))) (mvT hZ (hw _ (List.mem_of_getElem? (i := 22) rfl))) (mvT hZ (hw _ (List.mem_of_getElem? (i := 23) rfl))) (mvT hZ (hw _ (List.mem_of_getElem? (i := 24) rfl))) (by decide) (backOf (W := 0) (rmIntOf l Z a0 hw [] p3 ca h0 n0 Z0 P0 P1 P2) hZ (hw _ (List.mem_of_getElem? (i := 24) rfl)) (hw _ (List.mem_of_getElem? (i := 23) rfl)) (by decide) (by decide)) (g := (mkF m 49 #[.val (.int p1), .val (.int p2), .val (.int p3), .val (.int (1 : Int32)), .val (.int (0 : Int32)), .val (.int (1 : Int32)), .unset, .unset, .unset, .unset, .unset, .unset] [(.int p3)])) rfl (by rw [hml]; rfl) (argsL := [(.int p3)]) (rest := []) (lenOf pd__I_Ljava_lang_Integer_ rfl) rfl (by show 2 * 0 + _ ≤ _; exact Nat.le_of_eq rfl) (hb hby at_49) (fun _ _ => ⟨rfl, e0, (by decide : 0 + 1 ≤ _), (by decide : 0 + 1 ≤ _)⟩)
        dsimp only [Pt.U, Pt.locs, Pt.cells, Pt.slots] at X112 l112 y112 z112 st112 hQ112
        subst l112 y112 z112
        obtain ⟨b_112, rfl, Nq112, Kq112, Fq112_0⟩ := hQ112
        have Nf112 := Fr.app N0 Nq112
        have K112 : Keep h0 T112.heap [] := (Keep.refl h0 []).trans Kq112 all0
        have Z112 : n0 ≤ T112.heap.size := Nat.le_trans Z0 Kq112.1
        refine own_fw (A' := (T112.setTop (mkF m 52 #[.val (.int p1), .val (.int p2), .val (.int p3), .val (.int (1 : Int32)), .val (.int (0 : Int32)), .val (.int (1 : Int32)), .unset, .unset, .unset, .unset, .unset, .unset] [(.ref b_112)]))) (fun t k => st112 _ k) ?_
        refine own_fw (A' := (T112.setTop (mkF m 56 #[.val (.int p1), .val (.int p2), .val (.int p3), .val (.int (1 : Int32)), .val (.int (0 : Int32)), .val (.int (1 : Int32)), .unset, .unset, .unset, .unset, .unset, .unset] [(.ref b_112)]))) (fun t k => XS.goto X112.here hx rfl (pc0 := 52) (pc' := 56) rfl (hb hby at_52) (by decide) (by decide) k) ?_
        refine own_fw (A' := (T112.setTop (mkF m 58 #[.val (.int p1), .val (.int p2), .val (.int p3), .val (.int (1 : Int32)), .val (.int (0 : Int32)), .val (.int (1 : Int32)), .val (.ref b_112), .unset, .unset, .unset, .unset, .unset] []))) (fun t k => XS.astore X112.here hx rfl (hb hby at_56) rfl rfl (l' := #[.val (.int p1), .val (.int p2), .val (.int p3), .val (.int (1 : Int32)), .val (.int (0 : Int32)), .val (.int (1 : Int32)), .val (.ref b_112), .unset, .unset, .unset, .unset, .unset]) rfl k) ?_
        refine own_fw (A' := (T112.setTop (mkF m 59 #[.val (.int p1), .val (.int p2), .val (.int p3), .val (.int (1 : Int32)), .val (.int (0 : Int32)), .val (.int (1 : Int32)), .val (.ref b_112), .unset, .unset, .unset, .unset, .unset] [(.int (1 : Int32))]))) (fun t k => XS.iloadN X112.here hx rfl (hb hby at_58) rfl k) ?_
        refine own_fw (A' := (T112.setTop (mkF m 62 #[.val (.int p1), .val (.int p2), .val (.int p3), .val (.int (1 : Int32)), .val (.int (0 : Int32)), .val (.int (1 : Int32)), .val (.ref b_112), .unset, .unset, .unset, .unset, .unset] []))) (fun t k => XS.ifNo X112.here hx rfl (hb hby at_59) rfl (XT.i0_eq_f (by decide)) k) ?_
        obtain ⟨T113, h113, X113, e113, E113, A113, D113, -, st113⟩ := newO X112 hx hZ hown (hw _ (List.mem_of_getElem? (i := 18) rfl)) (hw _ (List.mem_of_getElem? (i := 19) rfl)) (hw _ (List.mem_of_getElem? (i := 20) rfl)) rfl (g := (mkF m 62 #[.val (.int p1), .val (.int p2), .val (.int p3), .val (.int (1 : Int32)), .val (.int (0 : Int32)), .val (.int (1 : Int32)), .val (.ref b_112), .unset, .unset, .unset, .unset, .unset] [])) rfl (hb hby at_62) (by decide) (by decide)
        obtain ⟨b113, gb113⟩ : ∃ z, z = T112.heap.size := ⟨_, rfl⟩
        have g_b113 : n0 ≤ b113 := Nat.le_trans Z112 (Nat.le_of_eq gb113.symm)
        have sz_b113 : h0.size ≤ b113 := Nat.le_trans K112.1 (Nat.le_of_eq gb113.symm)
        have ne_ca_b113 : ca ≠ b113 := Nat.ne_of_lt (Nat.lt_of_lt_of_le (own_cacheLt (own_cacheKeep P2 Kq112 nin0)) (Nat.le_of_eq gb113.symm))
        have ne_r_NONE_b113 : r_NONE ≠ b113 := Nat.ne_of_lt (Nat.lt_of_lt_of_le (P4.keep Kq112).lt (Nat.le_of_eq gb113.symm))
        have ne_r_REMOVED_b113 : r_REMOVED ≠ b113 := Nat.ne_of_lt (Nat.lt_of_lt_of_le (P6.keep Kq112).lt (Nat.le_of_eq gb113.symm))
        have ne_r_EXPIRED_b113 : r_EXPIRED ≠ b113 := Nat.ne_of_lt (Nat.lt_of_lt_of_le (P8.keep Kq112).lt (Nat.le_of_eq gb113.symm))
        have ne_r_CREATED_b113 : r_CREATED ≠ b113 := Nat.ne_of_lt (Nat.lt_of_lt_of_le (P10.keep Kq112).lt (Nat.le_of_eq gb113.symm))
        have ne_r_UPDATED_b113 : r_UPDATED ≠ b113 := Nat.ne_of_lt (Nat.lt_of_lt_of_le (P12.keep Kq112).lt (Nat.le_of_eq gb113.symm))
        have ne_b_112_b113 : b_112 ≠ b113 := Nat.ne_of_lt (Nat.lt_of_lt_of_le Fq112_0.lt (Nat.le_of_eq gb113.symm))
        rw [← gb113] at A113 D113 st113
        have F_content_b113 : Fld Z h113 b113 "com/example/measured_cache/measuredcache/cache/EntryVersion" "content" "Ljava/lang/Object;" .null := D113 (Or.inl (hw _ (List.mem_of_getElem? (i := 35) rfl))) (ty := (.object "java/lang/Object")) (by decide)
        have K113 : Keep h0 h113 [] := K112.ext E113
        have Z113 : n0 ≤ h113.size := Nat.le_trans Z112 E113.1
        refine own_fw (A' := (T113.setTop (mkF m 65 #[.val (.int p1), .val (.int p2), .val (.int p3), .val (.int (1 : Int32)), .val (.int (0 : Int32)), .val (.int (1 : Int32)), .val (.ref b_112), .unset, .unset, .unset, .unset, .unset] [(.ref b113)]))) (fun t k => st113 _ k) ?_
        refine own_fw (A' := (T113.setTop (mkF m 66 #[.val (.int p1), .val (.int p2), .val (.int p3), .val (.int (1 : Int32)), .val (.int (0 : Int32)), .val (.int (1 : Int32)), .val (.ref b_112), .unset, .unset, .unset, .unset, .unset] [(.ref b113), (.ref b113)]))) (fun t k => XS.dup X113.here hx rfl (hb hby at_65) rfl rfl k) ?_
        refine own_fw (A' := (T113.setTop (mkF m 67 #[.val (.int p1), .val (.int p2), .val (.int p3), .val (.int (1 : Int32)), .val (.int (0 : Int32)), .val (.int (1 : Int32)), .val (.ref b_112), .unset, .unset, .unset, .unset, .unset] [(.int p2), (.ref b113), (.ref b113)]))) (fun t k => XS.iloadN X113.here hx rfl (hb hby at_66) rfl k) ?_
        obtain ⟨_, _, ⟨T114, L114, k114, n114⟩, -, X114, ⟨Lc114, hQ114, l114, y114, z114⟩, st114⟩ := Jvm.LawKit.callS X113 hx (y := (⟨"java/lang/Integer", "valueOf", "(I)Ljava/lang/Integer;"⟩ : MethodName)) hown (mvT hZ (hw _ (List.mem_of_getElem? (i := 21) rfl))) (mvT hZ (hw _ (List.mem_of_getElem? (i := 22) rfl))) (mvT hZ (hw _ (List.mem_of_getElem? (i := 23) rfl))) (mvT hZ (hw _ (List.mem_of_getElem? (i := 24) rfl))) (by decide) (backOf (W := 2) (rmIntOf l Z a0 hw [] p2 ca h113 n0 Z113 ((own_staKeep P0 Kq112 all0).ext E113) ((own_staKeep P1 Kq112 all0).ext E113) (own_cacheExt (own_cacheKeep P2 Kq112 nin0) E113)) hZ (hw _ (List.mem_of_getElem? (i := 24) rfl)) (hw _ (List.mem_of_getElem? (i := 23) rfl)) (by decide) (by decide)) (g := (mkF m 67 #[.val (.int p1), .val (.int p2), .val (.int p3), .val (.int (1 : Int32)), .val (.int (0 : Int32)), .val (.int (1 : Int32)), .val (.ref b_112), .unset, .unset, .unset, .unset, .unset] [(.int p2), (.ref b113), (.ref b113)])) rfl (by rw [hml]; rfl) (argsL := [(.int p2)]) (rest := [(.ref b113), (.ref b113)]) (lenOf pd__I_Ljava_lang_Integer_ rfl) rfl (by show 2 * 0 + _ ≤ _; exact Nat.le_of_eq rfl) (hb hby at_67) (fun _ _ => ⟨rfl, e113, (by decide : 2 + 1 ≤ _), (by decide : 2 + 1 ≤ _)⟩)
        dsimp only [Pt.U, Pt.locs, Pt.cells, Pt.slots] at X114 l114 y114 z114 st114 hQ114
        subst l114 y114 z114
        obtain ⟨b_114, rfl, Nq114, Kq114, Fq114_0⟩ := hQ114
        have Nf114 := Fr.app Nf112 Nq114
        have K114 : Keep h0 T114.heap [] := K113.trans Kq114 all0
        have Z114 : n0 ≤ T114.heap.size := Nat.le_trans Z113 Kq114.1
        refine own_fw (A' := (T114.setTop (mkF m 70 #[.val (.int p1), .val (.int p2), .val (.int p3), .val (.int (1 : Int32)), .val (.int (0 : Int32)), .val (.int (1 : Int32)), .val (.ref b_112), .unset, .unset, .unset, .unset, .unset] [(.ref b_114), (.ref b113), (.ref b113)]))) (fun t k => st114 _ k) ?_
        obtain ⟨_, _, ⟨T115, L115, k115, n115⟩, -, X115, ⟨Lc115, hQ115, l115, y115, z115⟩, st115⟩ := X114.specialBack hx (y := (⟨"com/example/measured_cache/measuredcache/cache/EntryVersion", "<init>", "(Ljava/lang/Object;)V"⟩ : MethodName)) rfl hown (mvT hZ (hw _ (List.mem_of_getElem? (i := 28) rfl))) (mvT hZ (hw _ (List.mem_of_getElem? (i := 29) rfl))) (mvT hZ (hw _ (List.mem_of_getElem? (i := 30) rfl))) (by decide) (backOf (W := 1) (rmEv l Z a0 hw [] b113 b_114 T114.heap n0 Z114 (A113.keep Kq114) (F_content_b113.keep Kq114 nin0) g_b113) hZ (hw _ (List.mem_of_getElem? (i := 30) rfl)) (hw _ (List.mem_of_getElem? (i := 20) rfl)) (by decide) (by decide)) (g := (mkF m 70 #[.val (.int p1), .val (.int p2), .val (.int p3), .val (.int (1 : Int32)), .val (.int (0 : Int32)), .val (.int (1 : Int32)), .val (.ref b_112), .unset, .unset, .unset, .unset, .unset] [(.ref b_114), (.ref b113), (.ref b113)])) rfl (by rw [hml]; rfl) (Steps.refl _) (a := b113) (argsL := [(.ref b_114)]) (rest := [(.ref b113)]) (lenOf pd__Ljava_lang_Object__V rfl) rfl (by show 2 * 0 + _ ≤ _; exact Nat.le_of_eq rfl) (hb hby at_70) (fun _ _ => ⟨rfl, rfl, (by decide : 3 + 0 ≤ _), (by decide : 3 + 0 ≤ _)⟩)
        dsimp only [Pt.U, Pt.locs, Pt.cells, Pt.slots] at X115 l115 y115 z115 st115 hQ115
        subst l115 y115 z115
        obtain ⟨rfl, Nq115, Kq115, Fq115_0⟩ := hQ115
        have Nf115 := Fr.app Nf114 Nq115
        have K115 : Keep h0 T115.heap [] := K114.trans Kq115 (allS (Or.inr sz_b113) all0)
        have Z115 : n0 ≤ T115.heap.size := Nat.le_trans Z114 Kq115.1
        refine own_fw (A' := (T115.setTop (mkF m 73 #[.val (.int p1), .val (.int p2), .val (.int p3), .val (.int (1 : Int32)), .val (.int (0 : Int32)), .val (.int (1 : Int32)), .val (.ref b_112), .unset, .unset, .unset, .unset, .unset] [(.ref b113)]))) (fun t k => st115.trans k) ?_
        refine own_fw (A' := (T115.setTop (mkF m 77 #[.val (.int p1), .val (.int p2), .val (.int p3), .val (.int (1 : Int32)), .val (.int (0 : Int32)), .val (.int (1 : Int32)), .val (.ref b_112), .unset, .unset, .unset, .unset, .unset] [(.ref b113)]))) (fun t k => XS.goto X115.here hx rfl (pc0 := 73) (pc' := 77) rfl (hb hby at_73) (by decide) (by decide) k) ?_
        refine own_fw (A' := (T115.setTop (mkF m 79 #[.val (.int p1), .val (.int p2), .val (.int p3), .val (.int (1 : Int32)), .val (.int (0 : Int32)), .val (.int (1 : Int32)), .val (.ref b_112), .val (.ref b113), .unset, .unset, .unset, .unset] []))) (fun t k => XS.astore X115.here hx rfl (hb hby at_77) rfl rfl (l' := #[.val (.int p1), .val (.int p2), .val (.int p3), .val (.int (1 : Int32)), .val (.int (0 : Int32)), .val (.int (1 : Int32)), .val (.ref b_112), .val (.ref b113), .unset, .unset, .unset, .unset]) rfl k) ?_
        refine own_fw (A' := (T115.setTop (mkF m 81 #[.val (.int p1), .val (.int p2), .val (.int p3), .val (.int (1 : Int32)), .val (.int (0 : Int32)), .val (.int (1 : Int32)), .val (.ref b_112), .val (.ref b113), .unset, .unset, .unset, .unset] [(.int (0 : Int32))]))) (fun t k => XS.iload X115.here hx rfl (hb hby at_79) rfl k) ?_
        refine own_fw (A' := (T115.setTop (mkF m 96 #[.val (.int p1), .val (.int p2), .val (.int p3), .val (.int (1 : Int32)), .val (.int (0 : Int32)), .val (.int (1 : Int32)), .val (.ref b_112), .val (.ref b113), .unset, .unset, .unset, .unset] []))) (fun t k => XS.ifYes X115.here hx rfl (pc0 := 81) (pc' := 96) rfl (hb hby at_81) rfl (XT.i0_eq_t rfl) (by decide) (by decide) k) ?_
        refine own_fw (A' := (T115.setTop (mkF m 97 #[.val (.int p1), .val (.int p2), .val (.int p3), .val (.int (1 : Int32)), .val (.int (0 : Int32)), .val (.int (1 : Int32)), .val (.ref b_112), .val (.ref b113), .unset, .unset, .unset, .unset] [.null]))) (fun t k => XS.aconstNull X115.here hx rfl (hb hby at_96) k) ?_
        refine own_fw (A' := (T115.setTop (mkF m 99 #[.val (.int p1), .val (.int p2), .val (.int p3), .val (.int (1 : Int32)), .val (.int (0 : Int32)), .val (.int (1 : Int32)), .val (.ref b_112), .val (.ref b113), .val .null, .unset, .unset, .unset] []))) (fun t k => XS.astore X115.here hx rfl (hb hby at_97) rfl rfl (l' := #[.val (.int p1), .val (.int p2), .val (.int p3), .val (.int (1 : Int32)), .val (.int (0 : Int32)), .val (.int (1 : Int32)), .val (.ref b_112), .val (.ref b113), .val .null, .unset, .unset, .unset]) rfl k) ?_
        refine own_fw (A' := (T115.setTop (mkF m 101 #[.val (.int p1), .val (.int p2), .val (.int p3), .val (.int (1 : Int32)), .val (.int (0 : Int32)), .val (.int (1 : Int32)), .val (.ref b_112), .val (.ref b113), .val .null, .unset, .unset, .unset] [(.int (8 : Int32))]))) (fun t k => XS.bipush X115.here hx rfl (hb hby at_99) k) ?_
        obtain ⟨T116, h116, k116, X116, e116, E116, A116, O116, st116⟩ := newR X115 hx hZ hown (hw _ (List.mem_of_getElem? (i := 0) rfl)) (hw _ (List.mem_of_getElem? (i := 1) rfl)) rfl (g := (mkF m 101 #[.val (.int p1), .val (.int p2), .val (.int p3), .val (.int (1 : Int32)), .val (.int (0 : Int32)), .val (.int (1 : Int32)), .val (.ref b_112), .val (.ref b113), .val .null, .unset, .unset, .unset] [(.int (8 : Int32))])) rfl (hb hby at_101) rfl (by decide) (cap := 8) (by decide) (by decide) (by decide) (by decide)
        obtain ⟨b116, gb116⟩ : ∃ z, z = T115.heap.size := ⟨_, rfl⟩
        have g_b116 : n0 ≤ b116 := Nat.le_trans Z115 (Nat.le_of_eq gb116.symm)
        have sz_b116 : h0.size ≤ b116 := Nat.le_trans K115.1 (Nat.le_of_eq gb116.symm)
        have ne_ca_b116 : ca ≠ b116 := Nat.ne_of_lt (Nat.lt_of_lt_of_le (own_cacheLt (own_cacheKeep (own_cacheKeep (own_cacheExt (own_cacheKeep P2 Kq112 nin0) E113) Kq114 nin0) Kq115 (ninS ne_ca_b113 nin0))) (Nat.le_of_eq gb116.symm))
        have ne_r_NONE_b116 : r_NONE ≠ b116 := Nat.ne_of_lt (Nat.lt_of_lt_of_le ((((P4.keep Kq112).ext E113).keep Kq114).keep Kq115).lt (Nat.le_of_eq gb116.symm))
        have ne_r_REMOVED_b116 : r_REMOVED ≠ b116 := Nat.ne_of_lt (Nat.lt_of_lt_of_le ((((P6.keep Kq112).ext E113).keep Kq114).keep Kq115).lt (Nat.le_of_eq gb116.symm))
        have ne_r_EXPIRED_b116 : r_EXPIRED ≠ b116 := Nat.ne_of_lt (Nat.lt_of_lt_of_le ((((P8.keep Kq112).ext E113).keep Kq114).keep Kq115).lt (Nat.le_of_eq gb116.symm))
        have ne_r_CREATED_b116 : r_CREATED ≠ b116 := Nat.ne_of_lt (Nat.lt_of_lt_of_le ((((P10.keep Kq112).ext E113).keep Kq114).keep Kq115).lt (Nat.le_of_eq gb116.symm))
        have ne_r_UPDATED_b116 : r_UPDATED ≠ b116 := Nat.ne_of_lt (Nat.lt_of_lt_of_le ((((P12.keep Kq112).ext E113).keep Kq114).keep Kq115).lt (Nat.le_of_eq gb116.symm))
        have ne_b_112_b116 : b_112 ≠ b116 := Nat.ne_of_lt (Nat.lt_of_lt_of_le (((Fq112_0.ext E113).keep Kq114).keep Kq115).lt (Nat.le_of_eq gb116.symm))
        have ne_b113_b116 : b113 ≠ b116 := Nat.ne_of_lt (Nat.lt_of_lt_of_le Fq115_0.lt (Nat.le_of_eq gb116.symm))
        have ne_b_114_b116 : b_114 ≠ b116 := Nat.ne_of_lt (Nat.lt_of_lt_of_le (Fq114_0.keep Kq115).lt (Nat.le_of_eq gb116.symm))
        rw [← gb116] at A116 st116
        have V_b116 : Arv Z h116 b116 k116 (.object "com/example/measured_cache/measuredcache/cache/Change") (8 : Int32) [.null, .null, .null, .null, .null, .null, .null, .null] .null := (Arv.new A116 (by decide)).pad (pad_rep [] .null 8)
        have K116 : Keep h0 h116 [] := K115.ext E116
        have Z116 : n0 ≤ h116.size := Nat.le_trans Z115 E116.1
        refine own_fw (A' := (T116.setTop (mkF m 104 #[.val (.int p1), .val (.int p2), .val (.int p3), .val (.int (1 : Int32)), .val (.int (0 : Int32)), .val (.int (1 : Int32)), .val (.ref b_112), .val (.ref b113), .val .null, .unset, .unset, .unset] [(.ref b116)]))) (fun t k => st116 _ k) ?_
        refine own_fw (A' := (T116.setTop (mkF m 105 #[.val (.int p1), .val (.int p2), .val (.int p3), .val (.int (1 : Int32)), .val (.int (0 : Int32)), .val (.int (1 : Int32)), .val (.ref b_112), .val (.ref b113), .val .null, .unset, .unset, .unset] [(.ref b116), (.ref b116)]))) (fun t k => XS.dup X116.here hx rfl (hb hby at_104) rfl rfl k) ?_
        refine own_fw (A' := (T116.setTop (mkF m 106 #[.val (.int p1), .val (.int p2), .val (.int p3), .val (.int (1 : Int32)), .val (.int (0 : Int32)), .val (.int (1 : Int32)), .val (.ref b_112), .val (.ref b113), .val .null, .unset, .unset, .unset] [(.int (0 : Int32)), (.ref b116), (.ref b116)]))) (fun t k => XS.iconst X116.here hx rfl (hb hby at_105) k) ?_
        obtain ⟨T117, X117, e117, st117⟩ := getS2 X116 hx hZ hown (host := "") (Or.inl (hw _ (List.mem_of_getElem? (i := 2) rfl))) Via.refl e116 ((own_staKeep (own_staKeep ((own_staKeep P3 Kq112 all0).ext E113) Kq114 all0) Kq115 (allS (own_plainE (A113.keep Kq114)) all0)).ext E116) (g := (mkF m 106 #[.val (.int p1), .val (.int p2), .val (.int p3), .val (.int (1 : Int32)), .val (.int (0 : Int32)), .val (.int (1 : Int32)), .val (.ref b_112), .val (.ref b113), .val .null, .unset, .unset, .unset] [(.int (0 : Int32)), (.ref b116), (.ref b116)])) rfl (hb hby at_106)
        refine own_fw (A' := (T117.setTop (mkF m 109 #[.val (.int p1), .val (.int p2), .val (.int p3), .val (.int (1 : Int32)), .val (.int (0 : Int32)), .val (.int (1 : Int32)), .val (.ref b_112), .val (.ref b113), .val .null, .unset, .unset, .unset] [(.ref r_NONE), (.int (0 : Int32)), (.ref b116), (.ref b116)]))) (fun t k => st117 _ k) ?_
        obtain ⟨cl118, Ar118, q118, S118, M118, H118, G118⟩ := id V_b116
        have hin118 : ¬ ((0 : Int32) < 0 ∨ cl118.slots.size ≤ ((0 : Int32)).toNatClampNeg) := inb_of S118 ⟨by decide, by decide⟩
        obtain ⟨T118, h118, X118, e118, W118, st118⟩ := stR X117 hx hZ e117 Ar118 (j := (0 : Int32)) hin118 rfl (Sto.ofV Ar118 q118 O116 (Ins.self (((((P4.keep Kq112).ext E113).keep Kq114).keep Kq115).ext E116))) (g := (mkF m 109 #[.val (.int p1), .val (.int p2), .val (.int p3), .val (.int (1 : Int32)), .val (.int (0 : Int32)), .val (.int (1 : Int32)), .val (.ref b_112), .val (.ref b113), .val .null, .unset, .unset, .unset] [(.ref r_NONE), (.int (0 : Int32)), (.ref b116), (.ref b116)])) rfl rfl (hb hby at_109)
        have V118 : Arv Z h118 b116 k116 (.object "com/example/measured_cache/measuredcache/cache/Change") (8 : Int32) [(.ref r_NONE), .null, .null, .null, .null, .null, .null, .null] .null := Arv.set Ar118 q118 S118 M118 H118 G118 rfl W118 0 rfl (Nat.le_of_ble_eq_true rfl)
        have Nf118 := Fr.snoc X118 Nf115 g_b116
        have K118 : Keep h0 h118 [] := K116.wr W118 (Or.inr sz_b116)
        have Z118 : n0 ≤ h118.size := Nat.le_trans Z116 (Keep.of_wr W118).1
        refine own_fw (A' := (T118.setTop (mkF m 110 #[.val (.int p1), .val (.int p2), .val (.int p3), .val (.int (1 : Int32)), .val (.int (0 : Int32)), .val (.int (1 : Int32)), .val (.ref b_112), .val (.ref b113), .val .null, .unset, .unset, .unset] [(.ref b116)]))) (fun t k => st118 _ k) ?_
        refine own_fw (A' := (T118.setTop (mkF m 111 #[.val (.int p1), .val (.int p2), .val (.int p3), .val (.int (1 : Int32)), .val (.int (0 : Int32)), .val (.int (1 : Int32)), .val (.ref b_112), .val (.ref b113), .val .null, .unset, .unset, .unset] [(.ref b116), (.ref b116)]))) (fun t k => XS.dup X118.here hx rfl (hb hby at_110) rfl rfl k) ?_
        refine own_fw (A' := (T118.setTop (mkF m 112 #[.val (.int p1), .val (.int p2), .val (.int p3), .val (.int (1 : Int32)), .val (.int (0 : Int32)), .val (.int (1 : Int32)), .val (.ref b_112), .val (.ref b113), .val .null, .unset, .unset, .unset] [(.int (1 : Int32)), (.ref b116), (.ref b116)]))) (fun t k => XS.iconst X118.here hx rfl (hb hby at_111) k) ?_
        obtain ⟨T119, X119, e119, st119⟩ := getS2 X118 hx hZ hown (host := "") (Or.inl (hw _ (List.mem_of_getElem? (i := 6) rfl))) Via.refl e118 (((own_staKeep (own_staKeep ((own_staKeep P5 Kq112 all0).ext E113) Kq114 all0) Kq115 (allS (own_plainE (A113.keep Kq114)) all0)).ext E116).wr W118) (g := (mkF m 112 #[.val (.int p1), .val (.int p2), .val (.int p3), .val (.int (1 : Int32)), .val (.int (0 : Int32)), .val (.int (1 : Int32)), .val (.ref b_112), .val (.ref b113), .val .null, .unset, .unset, .unset] [(.int (1 : Int32)), (.ref b116), (.ref b116)])) rfl (hb hby at_112)
        refine own_fw (A' := (T119.setTop (mkF m 115 #[.val (.int p1), .val (.int p2), .val (.int p3), .val (.int (1 : Int32)), .val (.int (0 : Int32)), .val (.int (1 : Int32)), .val (.ref b_112), .val (.ref b113), .val .null, .unset, .unset, .unset] [(.ref r_REMOVED), (.int (1 : Int32)), (.ref b116), (.ref b116)]))) (fun t k => st119 _ k) ?_
        obtain ⟨cl120, Ar120, q120, S120, M120, H120, G120⟩ := id V118
        have hin120 : ¬ ((1 : Int32) < 0 ∨ cl120.slots.size ≤ ((1 : Int32)).toNatClampNeg) := inb_of S120 ⟨by decide, by decide⟩
        obtain ⟨T120, h120, X120, e120, W120, st120⟩ := stR X119 hx hZ e119 Ar120 (j := (1 : Int32)) hin120 rfl (Sto.ofV Ar120 q120 O116 (Ins.self ((((((P6.keep Kq112).ext E113).keep Kq114).keep Kq115).ext E116).wr W118))) (g := (mkF m 115 #[.val (.int p1), .val (.int p2), .val (.int p3), .val (.int (1 : Int32)), .val (.int (0 : Int32)), .val (.int (1 : Int32)), .val (.ref b_112), .val (.ref b113), .val .null, .unset, .unset, .unset] [(.ref r_REMOVED), (.int (1 : Int32)), (.ref b116), (.ref b116)])) rfl rfl (hb hby at_115)
        have V120 : Arv Z h120 b116 k116 (.object "com/example/measured_cache/measuredcache/cache/Change") (8 : Int32) [(.ref r_NONE), (.ref r_REMOVED), .null, .null, .null, .null, .null, .null] .null := Arv.set Ar120 q120 S120 M120 H120 G120 rfl W120 1 rfl (Nat.le_of_ble_eq_true rfl)
        have Nf120 := Fr.snoc X120 Nf118 g_b116
        have K120 : Keep h0 h120 [] := K118.wr W120 (Or.inr sz_b116)
        have Z120 : n0 ≤ h120.size := Nat.le_trans Z118 (Keep.of_wr W120).1
        refine own_fw (A' := (T120.setTop (mkF m 116 #[.val (.int p1), .val (.int p2), .val (.int p3), .val (.int (1 : Int32)), .val (.int (0 : Int32)), .val (.int (1 : Int32)), .val (.ref b_112), .val (.ref b113), .val .null, .unset, .unset, .unset] [(.ref b116)]))) (fun t k => st120 _ k) ?_
        refine own_fw (A' := (T120.setTop (mkF m 117 #[.val (.int p1), .val (.int p2), .val (.int p3), .val (.int (1 : Int32)), .val (.int (0 : Int32)), .val (.int (1 : Int32)), .val (.ref b_112), .val (.ref b113), .val .null, .unset, .unset, .unset] [(.ref b116), (.ref b116)]))) (fun t k => XS.dup X120.here hx rfl (hb hby at_116) rfl rfl k) ?_
        refine own_fw (A' := (T120.setTop (mkF m 118 #[.val (.int p1), .val (.int p2), .val (.int p3), .val (.int (1 : Int32)), .val (.int (0 : Int32)), .val (.int (1 : Int32)), .val (.ref b_112), .val (.ref b113), .val .null, .unset, .unset, .unset] [(.int (2 : Int32)), (.ref b116), (.ref b116)]))) (fun t k => XS.iconst X120.here hx rfl (hb hby at_117) k) ?_
        obtain ⟨T121, X121, e121, st121⟩ := getS2 X120 hx hZ hown (host := "") (Or.inl (hw _ (List.mem_of_getElem? (i := 2) rfl))) Via.refl e120 ((((own_staKeep (own_staKeep ((own_staKeep P3 Kq112 all0).ext E113) Kq114 all0) Kq115 (allS (own_plainE (A113.keep Kq114)) all0)).ext E116).wr W118).wr W120) (g := (mkF m 118 #[.val (.int p1), .val (.int p2), .val (.int p3), .val (.int (1 : Int32)), .val (.int (0 : Int32)), .val (.int (1 : Int32)), .val (.ref b_112), .val (.ref b113), .val .null, .unset, .unset, .unset] [(.int (2 : Int32)), (.ref b116), (.ref b116)])) rfl (hb hby at_118)
        refine own_fw (A' := (T121.setTop (mkF m 121 #[.val (.int p1), .val (.int p2), .val (.int p3), .val (.int (1 : Int32)), .val (.int (0 : Int32)), .val (.int (1 : Int32)), .val (.ref b_112), .val (.ref b113), .val .null, .unset, .unset, .unset] [(.ref r_NONE), (.int (2 : Int32)), (.ref b116), (.ref b116)]))) (fun t k => st121 _ k) ?_
        obtain ⟨cl122, Ar122, q122, S122, M122, H122, G122⟩ := id V120
        have hin122 : ¬ ((2 : Int32) < 0 ∨ cl122.slots.size ≤ ((2 : Int32)).toNatClampNeg) := inb_of S122 ⟨by decide, by decide⟩
        obtain ⟨T122, h122, X122, e122, W122, st122⟩ := stR X121 hx hZ e121 Ar122 (j := (2 : Int32)) hin122 rfl (Sto.ofV Ar122 q122 O116 (Ins.self (((((((P4.keep Kq112).ext E113).keep Kq114).keep Kq115).ext E116).wr W118).wr W120))) (g := (mkF m 121 #[.val (.int p1), .val (.int p2), .val (.int p3), .val (.int (1 : Int32)), .val (.int (0 : Int32)), .val (.int (1 : Int32)), .val (.ref b_112), .val (.ref b113), .val .null, .unset, .unset, .unset] [(.ref r_NONE), (.int (2 : Int32)), (.ref b116), (.ref b116)])) rfl rfl (hb hby at_121)
        have V122 : Arv Z h122 b116 k116 (.object "com/example/measured_cache/measuredcache/cache/Change") (8 : Int32) [(.ref r_NONE), (.ref r_REMOVED), (.ref r_NONE), .null, .null, .null, .null, .null] .null := Arv.set Ar122 q122 S122 M122 H122 G122 rfl W122 2 rfl (Nat.le_of_ble_eq_true rfl)
        have Nf122 := Fr.snoc X122 Nf120 g_b116
        have K122 : Keep h0 h122 [] := K120.wr W122 (Or.inr sz_b116)
        have Z122 : n0 ≤ h122.size := Nat.le_trans Z120 (Keep.of_wr W122).1
        refine own_fw (A' := (T122.setTop (mkF m 122 #[.val (.int p1), .val (.int p2), .val (.int p3), .val (.int (1 : Int32)), .val (.int (0 : Int32)), .val (.int (1 : Int32)), .val (.ref b_112), .val (.ref b113), .val .null, .unset, .unset, .unset] [(.ref b116)]))) (fun t k => st122 _ k) ?_
        refine own_fw (A' := (T122.setTop (mkF m 123 #[.val (.int p1), .val (.int p2), .val (.int p3), .val (.int (1 : Int32)), .val (.int (0 : Int32)), .val (.int (1 : Int32)), .val (.ref b_112), .val (.ref b113), .val .null, .unset, .unset, .unset] [(.ref b116), (.ref b116)]))) (fun t k => XS.dup X122.here hx rfl (hb hby at_122) rfl rfl k) ?_
        refine own_fw (A' := (T122.setTop (mkF m 124 #[.val (.int p1), .val (.int p2), .val (.int p3), .val (.int (1 : Int32)), .val (.int (0 : Int32)), .val (.int (1 : Int32)), .val (.ref b_112), .val (.ref b113), .val .null, .unset, .unset, .unset] [(.int (3 : Int32)), (.ref b116), (.ref b116)]))) (fun t k => XS.iconst X122.here hx rfl (hb hby at_123) k) ?_
        obtain ⟨T123, X123, e123, st123⟩ := getS2 X122 hx hZ hown (host := "") (Or.inl (hw _ (List.mem_of_getElem? (i := 8) rfl))) Via.refl e122 (((((own_staKeep (own_staKeep ((own_staKeep P7 Kq112 all0).ext E113) Kq114 all0) Kq115 (allS (own_plainE (A113.keep Kq114)) all0)).ext E116).wr W118).wr W120).wr W122) (g := (mkF m 124 #[.val (.int p1), .val (.int p2), .val (.int p3), .val (.int (1 : Int32)), .val (.int (0 : Int32)), .val (.int (1 : Int32)), .val (.ref b_112), .val (.ref b113), .val .null, .unset, .unset, .unset] [(.int (3 : Int32)), (.ref b116), (.ref b116)])) rfl (hb hby at_124)
        refine own_fw (A' := (T123.setTop (mkF m 127 #[.val (.int p1), .val (.int p2), .val (.int p3), .val (.int (1 : Int32)), .val (.int (0 : Int32)), .val (.int (1 : Int32)), .val (.ref b_112), .val (.ref b113), .val .null, .unset, .unset, .unset] [(.ref r_EXPIRED), (.int (3 : Int32)), (.ref b116), (.ref b116)]))) (fun t k => st123 _ k) ?_
        obtain ⟨cl124, Ar124, q124, S124, M124, H124, G124⟩ := id V122
        have hin124 : ¬ ((3 : Int32) < 0 ∨ cl124.slots.size ≤ ((3 : Int32)).toNatClampNeg) := inb_of S124 ⟨by decide, by decide⟩
        obtain ⟨T124, h124, X124, e124, W124, st124⟩ := stR X123 hx hZ e123 Ar124 (j := (3 : Int32)) hin124 rfl (Sto.ofV Ar124 q124 O116 (Ins.self ((((((((P8.keep Kq112).ext E113).keep Kq114).keep Kq115).ext E116).wr W118).wr W120).wr W122))) (g := (mkF m 127 #[.val (.int p1), .val (.int p2), .val (.int p3), .val (.int (1 : Int32)), .val (.int (0 : Int32)), .val (.int (1 : Int32)), .val (.ref b_112), .val (.ref b113), .val .null, .unset, .unset, .unset] [(.ref r_EXPIRED), (.int (3 : Int32)), (.ref b116), (.ref b116)])) rfl rfl (hb hby at_127)
        have V124 : Arv Z h124 b116 k116 (.object "com/example/measured_cache/measuredcache/cache/Change") (8 : Int32) [(.ref r_NONE), (.ref r_REMOVED), (.ref r_NONE), (.ref r_EXPIRED), .null, .null, .null, .null] .null := Arv.set Ar124 q124 S124 M124 H124 G124 rfl W124 3 rfl (Nat.le_of_ble_eq_true rfl)
        have Nf124 := Fr.snoc X124 Nf122 g_b116
        have K124 : Keep h0 h124 [] := K122.wr W124 (Or.inr sz_b116)
        have Z124 : n0 ≤ h124.size := Nat.le_trans Z122 (Keep.of_wr W124).1
        refine own_fw (A' := (T124.setTop (mkF m 128 #[.val (.int p1), .val (.int p2), .val (.int p3), .val (.int (1 : Int32)), .val (.int (0 : Int32)), .val (.int (1 : Int32)), .val (.ref b_112), .val (.ref b113), .val .null, .unset, .unset, .unset] [(.ref b116)]))) (fun t k => st124 _ k) ?_
        refine own_fw (A' := (T124.setTop (mkF m 129 #[.val (.int p1), .val (.int p2), .val (.int p3), .val (.int (1 : Int32)), .val (.int (0 : Int32)), .val (.int (1 : Int32)), .val (.ref b_112), .val (.ref b113), .val .null, .unset, .unset, .unset] [(.ref b116), (.ref b116)]))) (fun t k => XS.dup X124.here hx rfl (hb hby at_128) rfl rfl k) ?_
        refine own_fw (A' := (T124.setTop (mkF m 130 #[.val (.int p1), .val (.int p2), .val (.int p3), .val (.int (1 : Int32)), .val (.int (0 : Int32)), .val (.int (1 : Int32)), .val (.ref b_112), .val (.ref b113), .val .null, .unset, .unset, .unset] [(.int (4 : Int32)), (.ref b116), (.ref b116)]))) (fun t k => XS.iconst X124.here hx rfl (hb hby at_129) k) ?_
        obtain ⟨T125, X125, e125, st125⟩ := getS2 X124 hx hZ hown (host := "") (Or.inl (hw _ (List.mem_of_getElem? (i := 10) rfl))) Via.refl e124 ((((((own_staKeep (own_staKeep ((own_staKeep P9 Kq112 all0).ext E113) Kq114 all0) Kq115 (allS (own_plainE (A113.keep Kq114)) all0)).ext E116).wr W118).wr W120).wr W122).wr W124) (g := (mkF m 130 #[.val (.int p1), .val (.int p2), .val (.int p3), .val (.int (1 : Int32)), .val (.int (0 : Int32)), .val (.int (1 : Int32)), .val (.ref b_112), .val (.ref b113), .val .null, .unset, .unset, .unset] [(.int (4 : Int32)), (.ref b116), (.ref b116)])) rfl (hb hby at_130)
        refine own_fw (A' := (T125.setTop (mkF m 133 #[.val (.int p1), .val (.int p2), .val (.int p3), .val (.int (1 : Int32)), .val (.int (0 : Int32)), .val (.int (1 : Int32)), .val (.ref b_112), .val (.ref b113), .val .null, .unset, .unset, .unset] [(.ref r_CREATED), (.int (4 : Int32)), (.ref b116), (.ref b116)]))) (fun t k => st125 _ k) ?_
        obtain ⟨cl126, Ar126, q126, S126, M126, H126, G126⟩ := id V124
        have hin126 : ¬ ((4 : Int32) < 0 ∨ cl126.slots.size ≤ ((4 : Int32)).toNatClampNeg) := inb_of S126 ⟨by decide, by decide⟩
        obtain ⟨T126, h126, X126, e126, W126, st126⟩ := stR X125 hx hZ e125 Ar126 (j := (4 : Int32)) hin126 rfl (Sto.ofV Ar126 q126 O116 (Ins.self (((((((((P10.keep Kq112).ext E113).keep Kq114).keep Kq115).ext E116).wr W118).wr W120).wr W122).wr W124))) (g := (mkF m 133 #[.val (.int p1), .val (.int p2), .val (.int p3), .val (.int (1 : Int32)), .val (.int (0 : Int32)), .val (.int (1 : Int32)), .val (.ref b_112), .val (.ref b113), .val .null, .unset, .unset, .unset] [(.ref r_CREATED), (.int (4 : Int32)), (.ref b116), (.ref b116)])) rfl rfl (hb hby at_133)
        have V126 : Arv Z h126 b116 k116 (.object "com/example/measured_cache/measuredcache/cache/Change") (8 : Int32) [(.ref r_NONE), (.ref r_REMOVED), (.ref r_NONE), (.ref r_EXPIRED), (.ref r_CREATED), .null, .null, .null] .null := Arv.set Ar126 q126 S126 M126 H126 G126 rfl W126 4 rfl (Nat.le_of_ble_eq_true rfl)
        have Nf126 := Fr.snoc X126 Nf124 g_b116
        have K126 : Keep h0 h126 [] := K124.wr W126 (Or.inr sz_b116)
        have Z126 : n0 ≤ h126.size := Nat.le_trans Z124 (Keep.of_wr W126).1
        refine own_fw (A' := (T126.setTop (mkF m 134 #[.val (.int p1), .val (.int p2), .val (.int p3), .val (.int (1 : Int32)), .val (.int (0 : Int32)), .val (.int (1 : Int32)), .val (.ref b_112), .val (.ref b113), .val .null, .unset, .unset, .unset] [(.ref b116)]))) (fun t k => st126 _ k) ?_
        refine own_fw (A' := (T126.setTop (mkF m 135 #[.val (.int p1), .val (.int p2), .val (.int p3), .val (.int (1 : Int32)), .val (.int (0 : Int32)), .val (.int (1 : Int32)), .val (.ref b_112), .val (.ref b113), .val .null, .unset, .unset, .unset] [(.ref b116), (.ref b116)]))) (fun t k => XS.dup X126.here hx rfl (hb hby at_134) rfl rfl k) ?_
        refine own_fw (A' := (T126.setTop (mkF m 136 #[.val (.int p1), .val (.int p2), .val (.int p3), .val (.int (1 : Int32)), .val (.int (0 : Int32)), .val (.int (1 : Int32)), .val (.ref b_112), .val (.ref b113), .val .null, .unset, .unset, .unset] [(.int (5 : Int32)), (.ref b116), (.ref b116)]))) (fun t k => XS.iconst X126.here hx rfl (hb hby at_135) k) ?_
        obtain ⟨T127, X127, e127, st127⟩ := getS2 X126 hx hZ hown (host := "") (Or.inl (hw _ (List.mem_of_getElem? (i := 12) rfl))) Via.refl e126 (((((((own_staKeep (own_staKeep ((own_staKeep P11 Kq112 all0).ext E113) Kq114 all0) Kq115 (allS (own_plainE (A113.keep Kq114)) all0)).ext E116).wr W118).wr W120).wr W122).wr W124).wr W126) (g := (mkF m 136 #[.val (.int p1), .val (.int p2), .val (.int p3), .val (.int (1 : Int32)), .val (.int (0 : Int32)), .val (.int (1 : Int32)), .val (.ref b_112), .val (.ref b113), .val .null, .unset, .unset, .unset] [(.int (5 : Int32)), (.ref b116), (.ref b116)])) rfl (hb hby at_136)
        refine own_fw (A' := (T127.setTop (mkF m 139 #[.val (.int p1), .val (.int p2), .val (.int p3), .val (.int (1 : Int32)), .val (.int (0 : Int32)), .val (.int (1 : Int32)), .val (.ref b_112), .val (.ref b113), .val .null, .unset, .unset, .unset] [(.ref r_UPDATED), (.int (5 : Int32)), (.ref b116), (.ref b116)]))) (fun t k => st127 _ k) ?_
        obtain ⟨cl128, Ar128, q128, S128, M128, H128, G128⟩ := id V126
        have hin128 : ¬ ((5 : Int32) < 0 ∨ cl128.slots.size ≤ ((5 : Int32)).toNatClampNeg) := inb_of S128 ⟨by decide, by decide⟩
        obtain ⟨T128, h128, X128, e128, W128, st128⟩ := stR X127 hx hZ e127 Ar128 (j := (5 : Int32)) hin128 rfl (Sto.ofV Ar128 q128 O116 (Ins.self ((((((((((P12.keep Kq112).ext E113).keep Kq114).keep Kq115).ext E116).wr W118).wr W120).wr W122).wr W124).wr W126))) (g := (mkF m 139 #[.val (.int p1), .val (.int p2), .val (.int p3), .val (.int (1 : Int32)), .val (.int (0 : Int32)), .val (.int (1 : Int32)), .val (.ref b_112), .val (.ref b113), .val .null, .unset, .unset, .unset] [(.ref r_UPDATED), (.int (5 : Int32)), (.ref b116), (.ref b116)])) rfl rfl (hb hby at_139)
        have V128 : Arv Z h128 b116 k116 (.object "com/example/measured_cache/measuredcache/cache/Change") (8 : Int32) [(.ref r_NONE), (.ref r_REMOVED), (.ref r_NONE), (.ref r_EXPIRED), (.ref r_CREATED), (.ref r_UPDATED), .null, .null] .null := Arv.set Ar128 q128 S128 M128 H128 G128 rfl W128 5 rfl (Nat.le_of_ble_eq_true rfl)
        have Nf128 := Fr.snoc X128 Nf126 g_b116
        have K128 : Keep h0 h128 [] := K126.wr W128 (Or.inr sz_b116)
        have Z128 : n0 ≤ h128.size := Nat.le_trans Z126 (Keep.of_wr W128).1
        refine own_fw (A' := (T128.setTop (mkF m 140 #[.val (.int p1), .val (.int p2), .val (.int p3), .val (.int (1 : Int32)), .val (.int (0 : Int32)), .val (.int (1 : Int32)), .val (.ref b_112), .val (.ref b113), .val .null, .unset, .unset, .unset] [(.ref b116)]))) (fun t k => st128 _ k) ?_
        refine own_fw (A' := (T128.setTop (mkF m 141 #[.val (.int p1), .val (.int p2), .val (.int p3), .val (.int (1 : Int32)), .val (.int (0 : Int32)), .val (.int (1 : Int32)), .val (.ref b_112), .val (.ref b113), .val .null, .unset, .unset, .unset] [(.ref b116), (.ref b116)]))) (fun t k => XS.dup X128.here hx rfl (hb hby at_140) rfl rfl k) ?_
        refine own_fw (A' := (T128.setTop (mkF m 143 #[.val (.int p1), .val (.int p2), .val (.int p3), .val (.int (1 : Int32)), .val (.int (0 : Int32)), .val (.int (1 : Int32)), .val (.ref b_112), .val (.ref b113), .val .null, .unset, .unset, .unset] [(.int (6 : Int32)), (.ref b116), (.ref b116)]))) (fun t k => XS.bipush X128.here hx rfl (hb hby at_141) k) ?_
        obtain ⟨T129, X129, e129, st129⟩ := getS2 X128 hx hZ hown (host := "") (Or.inl (hw _ (List.mem_of_getElem? (i := 10) rfl))) Via.refl e128 ((((((((own_staKeep (own_staKeep ((own_staKeep P9 Kq112 all0).ext E113) Kq114 all0) Kq115 (allS (own_plainE (A113.keep Kq114)) all0)).ext E116).wr W118).wr W120).wr W122).wr W124).wr W126).wr W128) (g := (mkF m 143 #[.val (.int p1), .val (.int p2), .val (.int p3), .val (.int (1 : Int32)), .val (.int (0 : Int32)), .val (.int (1 : Int32)), .val (.ref b_112), .val (.ref b113), .val .null, .unset, .unset, .unset] [(.int (6 : Int32)), (.ref b116), (.ref b116)])) rfl (hb hby at_143)
        refine own_fw (A' := (T129.setTop (mkF m 146 #[.val (.int p1), .val (.int p2), .val (.int p3), .val (.int (1 : Int32)), .val (.int (0 : Int32)), .val (.int (1 : Int32)), .val (.ref b_112), .val (.ref b113), .val .null, .unset, .unset, .unset] [(.ref r_CREATED), (.int (6 : Int32)), (.ref b116), (.ref b116)]))) (fun t k => st129 _ k) ?_
        obtain ⟨cl130, Ar130, q130, S130, M130, H130, G130⟩ := id V128
        have hin130 : ¬ ((6 : Int32) < 0 ∨ cl130.slots.size ≤ ((6 : Int32)).toNatClampNeg) := inb_of S130 ⟨by decide, by decide⟩
        obtain ⟨T130, h130, X130, e130, W130, st130⟩ := stR X129 hx hZ e129 Ar130 (j := (6 : Int32)) hin130 rfl (Sto.ofV Ar130 q130 O116 (Ins.self (((((((((((P10.keep Kq112).ext E113).keep Kq114).keep Kq115).ext E116).wr W118).wr W120).wr W122).wr W124).wr W126).wr W128))) (g := (mkF m 146 #[.val (.int p1), .val (.int p2), .val (.int p3), .val (.int (1 : Int32)), .val (.int (0 : Int32)), .val (.int (1 : Int32)), .val (.ref b_112), .val (.ref b113), .val .null, .unset, .unset, .unset] [(.ref r_CREATED), (.int (6 : Int32)), (.ref b116), (.ref b116)])) rfl rfl (hb hby at_146)
        have V130 : Arv Z h130 b116 k116 (.object "com/example/measured_cache/measuredcache/cache/Change") (8 : Int32) [(.ref r_NONE), (.ref r_REMOVED), (.ref r_NONE), (.ref r_EXPIRED), (.ref r_CREATED), (.ref r_UPDATED), (.ref r_CREATED), .null] .null := Arv.set Ar130 q130 S130 M130 H130 G130 rfl W130 6 rfl (Nat.le_of_ble_eq_true rfl)
        have Nf130 := Fr.snoc X130 Nf128 g_b116
        have K130 : Keep h0 h130 [] := K128.wr W130 (Or.inr sz_b116)
        have Z130 : n0 ≤ h130.size := Nat.le_trans Z128 (Keep.of_wr W130).1
        refine own_fw (A' := (T130.setTop (mkF m 147 #[.val (.int p1), .val (.int p2), .val (.int p3), .val (.int (1 : Int32)), .val (.int (0 : Int32)), .val (.int (1 : Int32)), .val (.ref b_112), .val (.ref b113), .val .null, .unset, .unset, .unset] [(.ref b116)]))) (fun t k => st130 _ k) ?_
        refine own_fw (A' := (T130.setTop (mkF m 148 #[.val (.int p1), .val (.int p2), .val (.int p3), .val (.int (1 : Int32)), .val (.int (0 : Int32)), .val (.int (1 : Int32)), .val (.ref b_112), .val (.ref b113), .val .null, .unset, .unset, .unset] [(.ref b116), (.ref b116)]))) (fun t k => XS.dup X130.here hx rfl (hb hby at_147) rfl rfl k) ?_
        refine own_fw (A' := (T130.setTop (mkF m 150 #[.val (.int p1), .val (.int p2), .val (.int p3), .val (.int (1 : Int32)), .val (.int (0 : Int32)), .val (.int (1 : Int32)), .val (.ref b_112), .val (.ref b113), .val .null, .unset, .unset, .unset] [(.int (7 : Int32)), (.ref b116), (.ref b116)]))) (fun t k => XS.bipush X130.here hx rfl (hb hby at_148) k) ?_
        obtain ⟨T131, X131, e131, st131⟩ := getS2 X130 hx hZ hown (host := "") (Or.inl (hw _ (List.mem_of_getElem? (i := 12) rfl))) Via.refl e130 (((((((((own_staKeep (own_staKeep ((own_staKeep P11 Kq112 all0).ext E113) Kq114 all0) Kq115 (allS (own_plainE (A113.keep Kq114)) all0)).ext E116).wr W118).wr W120).wr W122).wr W124).wr W126).wr W128).wr W130) (g := (mkF m 150 #[.val (.int p1), .val (.int p2), .val (.int p3), .val (.int (1 : Int32)), .val (.int (0 : Int32)), .val (.int (1 : Int32)), .val (.ref b_112), .val (.ref b113), .val .null, .unset, .unset, .unset] [(.int (7 : Int32)), (.ref b116), (.ref b116)])) rfl (hb hby at_150)
        refine own_fw (A' := (T131.setTop (mkF m 153 #[.val (.int p1), .val (.int p2), .val (.int p3), .val (.int (1 : Int32)), .val (.int (0 : Int32)), .val (.int (1 : Int32)), .val (.ref b_112), .val (.ref b113), .val .null, .unset, .unset, .unset] [(.ref r_UPDATED), (.int (7 : Int32)), (.ref b116), (.ref b116)]))) (fun t k => st131 _ k) ?_
        obtain ⟨cl132, Ar132, q132, S132, M132, H132, G132⟩ := id V130
        have hin132 : ¬ ((7 : Int32) < 0 ∨ cl132.slots.size ≤ ((7 : Int32)).toNatClampNeg) := inb_of S132 ⟨by decide, by decide⟩
        obtain ⟨T132, h132, X132, e132, W132, st132⟩ := stR X131 hx hZ e131 Ar132 (j := (7 : Int32)) hin132 rfl (Sto.ofV Ar132 q132 O116 (Ins.self ((((((((((((P12.keep Kq112).ext E113).keep Kq114).keep Kq115).ext E116).wr W118).wr W120).wr W122).wr W124).wr W126).wr W128).wr W130))) (g := (mkF m 153 #[.val (.int p1), .val (.int p2), .val (.int p3), .val (.int (1 : Int32)), .val (.int (0 : Int32)), .val (.int (1 : Int32)), .val (.ref b_112), .val (.ref b113), .val .null, .unset, .unset, .unset] [(.ref r_UPDATED), (.int (7 : Int32)), (.ref b116), (.ref b116)])) rfl rfl (hb hby at_153)
        have V132 : Arv Z h132 b116 k116 (.object "com/example/measured_cache/measuredcache/cache/Change") (8 : Int32) [(.ref r_NONE), (.ref r_REMOVED), (.ref r_NONE), (.ref r_EXPIRED), (.ref r_CREATED), (.ref r_UPDATED), (.ref r_CREATED), (.ref r_UPDATED)] .null := Arv.set Ar132 q132 S132 M132 H132 G132 rfl W132 7 rfl (Nat.le_of_ble_eq_true rfl)
        have Nf132 := Fr.snoc X132 Nf130 g_b116
        have K132 : Keep h0 h132 [] := K130.wr W132 (Or.inr sz_b116)
        have Z132 : n0 ≤ h132.size := Nat.le_trans Z130 (Keep.of_wr W132).1
        refine own_fw (A' := (T132.setTop (mkF m 154 #[.val (.int p1), .val (.int p2), .val (.int p3), .val (.int (1 : Int32)), .val (.int (0 : Int32)), .val (.int (1 : Int32)), .val (.ref b_112), .val (.ref b113), .val .null, .unset, .unset, .unset] [(.ref b116)]))) (fun t k => st132 _ k) ?_
        refine own_fw (A' := (T132.setTop (mkF m 156 #[.val (.int p1), .val (.int p2), .val (.int p3), .val (.int (1 : Int32)), .val (.int (0 : Int32)), .val (.int (1 : Int32)), .val (.ref b_112), .val (.ref b113), .val .null, .val (.ref b116), .unset, .unset] []))) (fun t k => XS.astore X132.here hx rfl (hb hby at_154) rfl rfl (l' := #[.val (.int p1), .val (.int p2), .val (.int p3), .val (.int (1 : Int32)), .val (.int (0 : Int32)), .val (.int (1 : Int32)), .val (.ref b_112), .val (.ref b113), .val .null, .val (.ref b116), .unset, .unset]) rfl k) ?_
        refine own_fw (A' := (T132.setTop (mkF m 158 #[.val (.int p1), .val (.int p2), .val (.int p3), .val (.int (1 : Int32)), .val (.int (0 : Int32)), .val (.int (1 : Int32)), .val (.ref b_112), .val (.ref b113), .val .null, .val (.ref b116), .unset, .unset] [(.ref b116)]))) (fun t k => XS.aload X132.here hx rfl (hb hby at_156) rfl rfl k) ?_
        refine own_fw (A' := (T132.setTop (mkF m 159 #[.val (.int p1), .val (.int p2), .val (.int p3), .val (.int (1 : Int32)), .val (.int (0 : Int32)), .val (.int (1 : Int32)), .val (.ref b_112), .val (.ref b113), .val .null, .val (.ref b116), .unset, .unset] [(.int p1), (.ref b116)]))) (fun t k => XS.iloadN X132.here hx rfl (hb hby at_158) rfl k) ?_
        refine own_fw (A' := (T132.setTop (mkF m 161 #[.val (.int p1), .val (.int p2), .val (.int p3), .val (.int (1 : Int32)), .val (.int (0 : Int32)), .val (.int (1 : Int32)), .val (.ref b_112), .val (.ref b113), .val .null, .val (.ref b116), .unset, .unset] [(.int (7 : Int32)), (.int p1), (.ref b116)]))) (fun t k => XS.bipush X132.here hx rfl (hb hby at_159) k) ?_
        refine own_fw (A' := (T132.setTop (mkF m 162 #[.val (.int p1), .val (.int p2), .val (.int p3), .val (.int (1 : Int32)), .val (.int (0 : Int32)), .val (.int (1 : Int32)), .val (.ref b_112), .val (.ref b113), .val .null, .val (.ref b116), .unset, .unset] [(.int (p1 &&& (7 : Int32))), (.ref b116)]))) (fun t k => XS.iand X132.here hx rfl (hb hby at_161) rfl k) ?_
        rw [own_ix p1 (3 : Int32) false true false (decide_eq_false hc1) (decide_eq_true hc88) (decide_eq_false hc89) (by decide)]
        obtain ⟨cl133, Ar133, q133, S133, M133, H133, G133⟩ := id V132
        have hin133 : ¬ ((3 : Int32) < 0 ∨ cl133.slots.size ≤ ((3 : Int32)).toNatClampNeg) := inb_of S133 ⟨by decide, by decide⟩
        have hat133 : cl133.slots[((3 : Int32)).toNatClampNeg]? = some (.ref r_EXPIRED) := H133.at hin133 rfl
        refine own_fw (A' := (T132.setTop (mkF m 163 #[.val (.int p1), .val (.int p2), .val (.int p3), .val (.int (1 : Int32)), .val (.int (0 : Int32)), .val (.int (1 : Int32)), .val (.ref b_112), .val (.ref b113), .val .null, .val (.ref b116), .unset, .unset] [(.ref r_EXPIRED)]))) (fun t k => X132.aaload hx (j := (3 : Int32)) (v := (.ref r_EXPIRED)) (by rw [e132]; exact Ar133.1) (State.isArrayOf_alike hZ.alike Ar133.2.1) rfl Ar133.2.2 hin133 hat133 (g := (mkF m 162 #[.val (.int p1), .val (.int p2), .val (.int p3), .val (.int (1 : Int32)), .val (.int (0 : Int32)), .val (.int (1 : Int32)), .val (.ref b_112), .val (.ref b113), .val .null, .val (.ref b116), .unset, .unset] [(.int (3 : Int32)), (.ref b116)])) rfl rfl (hb hby at_162) _ k) ?_
        refine own_fw (A' := (T132.setTop (mkF m 165 #[.val (.int p1), .val (.int p2), .val (.int p3), .val (.int (1 : Int32)), .val (.int (0 : Int32)), .val (.int (1 : Int32)), .val (.ref b_112), .val (.ref b113), .val .null, .val (.ref b116), .val (.ref r_EXPIRED), .unset] []))) (fun t k => XS.astore X132.here hx rfl (hb hby at_163) rfl rfl (l' := #[.val (.int p1), .val (.int p2), .val (.int p3), .val (.int (1 : Int32)), .val (.int (0 : Int32)), .val (.int (1 : Int32)), .val (.ref b_112), .val (.ref b113), .val .null, .val (.ref b116), .val (.ref r_EXPIRED), .unset]) rfl k) ?_
        refine own_fw (A' := (T132.setTop (mkF m 167 #[.val (.int p1), .val (.int p2), .val (.int p3), .val (.int (1 : Int32)), .val (.int (0 : Int32)), .val (.int (1 : Int32)), .val (.ref b_112), .val (.ref b113), .val .null, .val (.ref b116), .val (.ref r_EXPIRED), .unset] [(.ref b113)]))) (fun t k => XS.aload X132.here hx rfl (hb hby at_165) rfl rfl k) ?_
        refine own_fw (A' := (T132.setTop (mkF m 169 #[.val (.int p1), .val (.int p2), .val (.int p3), .val (.int (1 : Int32)), .val (.int (0 : Int32)), .val (.int (1 : Int32)), .val (.ref b_112), .val (.ref b113), .val .null, .val (.ref b116), .val (.ref r_EXPIRED), .unset] [(.ref b_112), (.ref b113)]))) (fun t k => XS.aload X132.here hx rfl (hb hby at_167) rfl rfl k) ?_
        refine own_fw (A' := (T132.setTop (mkF m 171 #[.val (.int p1), .val (.int p2), .val (.int p3), .val (.int (1 : Int32)), .val (.int (0 : Int32)), .val (.int (1 : Int32)), .val (.ref b_112), .val (.ref b113), .val .null, .val (.ref b116), .val (.ref r_EXPIRED), .unset] [.null, (.ref b_112), (.ref b113)]))) (fun t k => XS.aload X132.here hx rfl (hb hby at_169) rfl rfl k) ?_
        obtain ⟨_, _, ⟨T134, L134, k134, n134⟩, -, X134, ⟨Lc134, hQ134, l134, y134, z134⟩, st134⟩ := Jvm.LawKit.callS X132 hx (y := (⟨"com/example/measured_cache/measuredcache/cache/Change", "of", "(Lcom/example/measured_cache/measuredcache/cache/EntryVersion;Ljava/lang/Object;Lcom/example/measured_cache/measuredcache/cache/EntryVersion;)Lcom/example/measured_cache/measuredcache/cache/Change;"⟩ : MethodName)) hown (mvT hZ (hw _ (List.mem_of_getElem? (i := 14) rfl))) (mvT hZ (hw _ (List.mem_of_getElem? (i := 15) rfl))) (mvT hZ (hw _ (List.mem_of_getElem? (i := 3) rfl))) (mvT hZ (hw _ (List.mem_of_getElem? (i := 16) rfl))) (by decide) (backOf (W := 0) (rmOf001 l Z a0 hw [] b113 b_112 r_EXPIRED h132 n0 Z132 ((((((((((own_staKeep (own_staKeep ((own_staKeep P7 Kq112 all0).ext E113) Kq114 all0) Kq115 (allS (own_plainE (A113.keep Kq114)) all0)).ext E116).wr W118).wr W120).wr W122).wr W124).wr W126).wr W128).wr W130).wr W132)) hZ (hw _ (List.mem_of_getElem? (i := 16) rfl)) (hw _ (List.mem_of_getElem? (i := 3) rfl)) (by decide) (by decide)) (g := (mkF m 171 #[.val (.int p1), .val (.int p2), .val (.int p3), .val (.int (1 : Int32)), .val (.int (0 : Int32)), .val (.int (1 : Int32)), .val (.ref b_112), .val (.ref b113), .val .null, .val (.ref b116), .val (.ref r_EXPIRED), .unset] [.null, (.ref b_112), (.ref b113)])) rfl (by rw [hml]; rfl) (argsL := [(.ref b113), (.ref b_112), .null]) (rest := []) (lenOf pd__Lcom_example_measured_cache_measuredcache_cache_EntryVersion_Ljava_lang_Object_Lcom_example_measured_cache_measuredcache_cache_EntryVersion__Lcom_example_measured_cache_measuredcache_cache_Change_ rfl) rfl (by show 2 * 0 + _ ≤ _; exact Nat.le_of_eq rfl) (hb hby at_171) (fun _ _ => ⟨rfl, e132, (by decide : 4 + 0 ≤ _), (by decide : 11 + 0 ≤ _)⟩)
        dsimp only [Pt.U, Pt.locs, Pt.cells, Pt.slots] at X134 l134 y134 z134 st134 hQ134
        subst l134 y134 z134
        obtain ⟨rfl, Nq134, e134⟩ := hQ134
        have Nf134 := Fr.app Nf132 Nq134
        refine own_fw (A' := (T134.setTop (mkF m 174 #[.val (.int p1), .val (.int p2), .val (.int p3), .val (.int (1 : Int32)), .val (.int (0 : Int32)), .val (.int (1 : Int32)), .val (.ref b_112), .val (.ref b113), .val .null, .val (.ref b116), .val (.ref r_EXPIRED), .unset] [(.ref r_EXPIRED)]))) (fun t k => st134 _ k) ?_
        refine own_fw (A' := (T134.setTop (mkF m 176 #[.val (.int p1), .val (.int p2), .val (.int p3), .val (.int (1 : Int32)), .val (.int (0 : Int32)), .val (.int (1 : Int32)), .val (.ref b_112), .val (.ref b113), .val .null, .val (.ref b116), .val (.ref r_EXPIRED), .val (.ref r_EXPIRED)] []))) (fun t k => XS.astore X134.here hx rfl (hb hby at_174) rfl rfl (l' := #[.val (.int p1), .val (.int p2), .val (.int p3), .val (.int (1 : Int32)), .val (.int (0 : Int32)), .val (.int (1 : Int32)), .val (.ref b_112), .val (.ref b113), .val .null, .val (.ref b116), .val (.ref r_EXPIRED), .val (.ref r_EXPIRED)]) rfl k) ?_
        refine own_fw (A' := (T134.setTop (mkF m 178 #[.val (.int p1), .val (.int p2), .val (.int p3), .val (.int (1 : Int32)), .val (.int (0 : Int32)), .val (.int (1 : Int32)), .val (.ref b_112), .val (.ref b113), .val .null, .val (.ref b116), .val (.ref r_EXPIRED), .val (.ref r_EXPIRED)] [(.ref r_EXPIRED)]))) (fun t k => XS.aload X134.here hx rfl (hb hby at_176) rfl rfl k) ?_
        refine own_fw (A' := (T134.setTop (mkF m 180 #[.val (.int p1), .val (.int p2), .val (.int p3), .val (.int (1 : Int32)), .val (.int (0 : Int32)), .val (.int (1 : Int32)), .val (.ref b_112), .val (.ref b113), .val .null, .val (.ref b116), .val (.ref r_EXPIRED), .val (.ref r_EXPIRED)] [(.ref r_EXPIRED), (.ref r_EXPIRED)]))) (fun t k => XS.aload X134.here hx rfl (hb hby at_178) rfl rfl k) ?_
        refine own_fw (A' := (T134.setTop (mkF m 183 #[.val (.int p1), .val (.int p2), .val (.int p3), .val (.int (1 : Int32)), .val (.int (0 : Int32)), .val (.int (1 : Int32)), .val (.ref b_112), .val (.ref b113), .val .null, .val (.ref b116), .val (.ref r_EXPIRED), .val (.ref r_EXPIRED)] []))) (fun t k => Jvm.RoadKit.acmp (g := (mkF m 180 #[.val (.int p1), .val (.int p2), .val (.int p3), .val (.int (1 : Int32)), .val (.int (0 : Int32)), .val (.int (1 : Int32)), .val (.ref b_112), .val (.ref b113), .val .null, .val (.ref b116), .val (.ref r_EXPIRED), .val (.ref r_EXPIRED)] [(.ref r_EXPIRED), (.ref r_EXPIRED)])) X134 hx rfl rfl rfl (pc0 := 180) (pc' := 183) (same := true) rfl (hb hby at_180) rfl (decide_eq_true rfl) (by decide) (by decide) k) ?_
        refine own_fw (A' := (T134.setTop (mkF m 184 #[.val (.int p1), .val (.int p2), .val (.int p3), .val (.int (1 : Int32)), .val (.int (0 : Int32)), .val (.int (1 : Int32)), .val (.ref b_112), .val (.ref b113), .val .null, .val (.ref b116), .val (.ref r_EXPIRED), .val (.ref r_EXPIRED)] [(.int (1 : Int32))]))) (fun t k => XS.iconst X134.here hx rfl (hb hby at_183) k) ?_
        refine own_fw (A' := (T134.setTop (mkF m 188 #[.val (.int p1), .val (.int p2), .val (.int p3), .val (.int (1 : Int32)), .val (.int (0 : Int32)), .val (.int (1 : Int32)), .val (.ref b_112), .val (.ref b113), .val .null, .val (.ref b116), .val (.ref r_EXPIRED), .val (.ref r_EXPIRED)] [(.int (1 : Int32))]))) (fun t k => XS.goto X134.here hx rfl (pc0 := 184) (pc' := 188) rfl (hb hby at_184) (by decide) (by decide) k) ?_
        obtain ⟨fs, hr, hrun, hended, hW, hsame⟩ := X134.leave (v := some (.int (1 : Int32))) (fun h => by rw [Bd.returns] at h; cases h)
        refine ⟨_, _, ?_, hrun, hended, _, _, rfl, ?_, ⟨_, rfl⟩, hW, hsame.mono (by decide) (by decide)⟩
        · exact retOut X134 hx Bd.returns rfl (Or.inl ⟨rfl, by simp, _, rfl⟩) (hb hby at_188) hr
        · show Q_rm0 Z p1 p2 p3 ca r_NONE r_REMOVED r_EXPIRED r_CREATED r_UPDATED h0 n0 _ T134.heap _
          rw [e134]
          exact ⟨rfl, Nf134⟩
    · refine own_fw (A' := (s₁.setTop (mkF m 18 #[.val (.int p1), .val (.int p2), .val (.int p3), .val (.int (1 : Int32)), .unset, .unset, .unset, .unset, .unset, .unset, .unset, .unset] []))) (fun t k => XS.ifNo X0.here hx rfl (hb hby at_15) rfl (XT.i0_eq_f hc88) k) ?_
      refine own_fw (A' := (s₁.setTop (mkF m 19 #[.val (.int p1), .val (.int p2), .val (.int p3), .val (.int (1 : Int32)), .unset, .unset, .unset, .unset, .unset, .unset, .unset, .unset] [(.int (1 : Int32))]))) (fun t k => XS.iconst X0.here hx rfl (hb hby at_18) k) ?_
      refine own_fw (A' := (s₁.setTop (mkF m 23 #[.val (.int p1), .val (.int p2), .val (.int p3), .val (.int (1 : Int32)), .unset, .unset, .unset, .unset, .unset, .unset, .unset, .unset] [(.int (1 : Int32))]))) (fun t k => XS.goto X0.here hx rfl (pc0 := 19) (pc' := 23) rfl (hb hby at_19) (by decide) (by decide) k) ?_
      refine own_fw (A' := (s₁.setTop (mkF m 25 #[.val (.int p1), .val (.int p2), .val (.int p3), .val (.int (1 : Int32)), .val (.int (1 : Int32)), .unset, .unset, .unset, .unset, .unset, .unset, .unset] []))) (fun t k => XS.istore X0.here hx rfl (hb hby at_23) rfl (l' := #[.val (.int p1), .val (.int p2), .val (.int p3), .val (.int (1 : Int32)), .val (.int (1 : Int32)), .unset, .unset, .unset, .unset, .unset, .unset, .unset]) rfl k) ?_
      refine own_fw (A' := (s₁.setTop (mkF m 26 #[.val (.int p1), .val (.int p2), .val (.int p3), .val (.int (1 : Int32)), .val (.int (1 : Int32)), .unset, .unset, .unset, .unset, .unset, .unset, .unset] [(.int p1)]))) (fun t k => XS.iloadN X0.here hx rfl (hb hby at_25) rfl k) ?_
      refine own_fw (A' := (s₁.setTop (mkF m 27 #[.val (.int p1), .val (.int p2), .val (.int p3), .val (.int (1 : Int32)), .val (.int (1 : Int32)), .unset, .unset, .unset, .unset, .unset, .unset, .unset] [(.int (2 : Int32)), (.int p1)]))) (fun t k => XS.iconst X0.here hx rfl (hb hby at_26) k) ?_
      refine own_fw (A' := (s₁.setTop (mkF m 28 #[.val (.int p1), .val (.int p2), .val (.int p3), .val (.int (1 : Int32)), .val (.int (1 : Int32)), .unset, .unset, .unset, .unset, .unset, .unset, .unset] [(.int (p1 &&& (2 : Int32)))]))) (fun t k => XS.iand X0.here hx rfl (hb hby at_27) rfl k) ?_
      by_cases hc135 : (p1 &&& (2 : Int32)) = (0 : Int32)
      · refine own_fw (A' := (s₁.setTop (mkF m 31 #[.val (.int p1), .val (.int p2), .val (.int p3), .val (.int (1 : Int32)), .val (.int (1 : Int32)), .unset, .unset, .unset, .unset, .unset, .unset, .unset] []))) (fun t k => XS.ifNo X0.here hx rfl (hb hby at_28) rfl (XT.i0_ne_f hc135) k) ?_
        refine own_fw (A' := (s₁.setTop (mkF m 33 #[.val (.int p1), .val (.int p2), .val (.int p3), .val (.int (1 : Int32)), .val (.int (1 : Int32)), .unset, .unset, .unset, .unset, .unset, .unset, .unset] [(.int (1 : Int32))]))) (fun t k => XS.iload X0.here hx rfl (hb hby at_31) rfl k) ?_
        refine own_fw (A' := (s₁.setTop (mkF m 36 #[.val (.int p1), .val (.int p2), .val (.int p3), .val (.int (1 : Int32)), .val (.int (1 : Int32)), .unset, .unset, .unset, .unset, .unset, .unset, .unset] []))) (fun t k => XS.ifNo X0.here hx rfl (hb hby at_33) rfl (XT.i0_eq_f (by decide)) k) ?_
        refine own_fw (A' := (s₁.setTop (mkF m 37 #[.val (.int p1), .val (.int p2), .val (.int p3), .val (.int (1 : Int32)), .val (.int (1 : Int32)), .unset, .unset, .unset, .unset, .unset, .unset, .unset] [(.int (1 : Int32))]))) (fun t k => XS.iconst X0.here hx rfl (hb hby at_36) k) ?_
        refine own_fw (A' := (s₁.setTop (mkF m 41 #[.val (.int p1), .val (.int p2), .val (.int p3), .val (.int (1 : Int32)), .val (.int (1 : Int32)), .unset, .unset, .unset, .unset, .unset, .unset, .unset] [(.int (1 : Int32))]))) (fun t k => XS.goto X0.here hx rfl (pc0 := 37) (pc' := 41) rfl (hb hby at_37) (by decide) (by decide) k) ?_
        refine own_fw (A' := (s₁.setTop (mkF m 43 #[.val (.int p1), .val (.int p2), .val (.int p3), .val (.int (1 : Int32)), .val (.int (1 : Int32)), .val (.int (1 : Int32)), .unset, .unset, .unset, .unset, .unset, .unset] []))) (fun t k => XS.istore X0.here hx rfl (hb hby at_41) rfl (l' := #[.val (.int p1), .val (.int p2), .val (.int p3), .val (.int (1 : Int32)), .val (.int (1 : Int32)), .val (.int (1 : Int32)), .unset, .unset, .unset, .unset, .unset, .unset]) rfl k) ?_
        refine own_fw (A' := (s₁.setTop (mkF m 45 #[.val (.int p1), .val (.int p2), .val (.int p3), .val (.int (1 : Int32)), .val (.int (1 : Int32)), .val (.int (1 : Int32)), .unset, .unset, .unset, .unset, .unset, .unset] [(.int (1 : Int32))]))) (fun t k => XS.iload X0.here hx rfl (hb hby at_43) rfl k) ?_
        refine own_fw (A' := (s₁.setTop (mkF m 48 #[.val (.int p1), .val (.int p2), .val (.int p3), .val (.int (1 : Int32)), .val (.int (1 : Int32)), .val (.int (1 : Int32)), .unset, .unset, .unset, .unset, .unset, .unset] []))) (fun t k => XS.ifNo X0.here hx rfl (hb hby at_45) rfl (XT.i0_eq_f (by decide)) k) ?_
        refine own_fw (A' := (s₁.setTop (mkF m 49 #[.val (.int p1), .val (.int p2), .val (.int p3), .val (.int (1 : Int32)), .val (.int (1 : Int32)), .val (.int (1 : Int32)), .unset, .unset, .unset, .unset, .unset, .unset] [(.int p3)]))) (fun t k => XS.iloadN X0.here hx rfl (hb hby at_48) rfl k) ?_
        obtain ⟨_, _, ⟨T136, L136, k136, n136⟩, -, X136, ⟨Lc136, hQ136, l136, y136, z136⟩, st136⟩ := Jvm.LawKit.callS X0 hx (y := (⟨"java/lang/Integer", "valueOf", "(I)Ljava/lang/Integer;"⟩ : MethodName)) hown (mvT hZ (hw _ (List.mem_of_getElem? (i := 21) rfl))) (mvT hZ (hw _ (List.mem_of_getElem? (i := 22) rfl))) (mvT hZ (hw _ (List.mem_of_getElem? (i := 23) rfl))) (mvT hZ (hw _ (List.mem_of_getElem? (i := 24) rfl))) (by decide) (backOf (W := 0) (rmIntOf l Z a0 hw [] p3 ca h0 n0 Z0 P0 P1 P2) hZ (hw _ (List.mem_of_getElem? (i := 24) rfl)) (hw _ (List.mem_of_getElem? (i := 23) rfl)) (by decide) (by decide)) (g := (mkF m 49 #[.val (.int p1), .val (.int p2), .val (.int p3), .val (.int (1 : Int32)), .val (.int (1 : Int32)), .val (.int (1 : Int32)), .unset, .unset, .unset, .unset, .unset, .unset] [(.int p3)])) rfl (by rw [hml]; rfl) (argsL := [(.int p3)]) (rest := []) (lenOf pd__I_Ljava_lang_Integer_ rfl) rfl (by show 2 * 0 + _ ≤ _; exact Nat.le_of_eq rfl) (hb hby at_49) (fun _ _ => ⟨rfl, e0, (by decide : 0 + 1 ≤ _), (by decide : 0 + 1 ≤ _)⟩)
        dsimp only [Pt.U, Pt.locs, Pt.cells, Pt.slots] at X136 l136 y136 z136 st136 hQ136
        subst l136 y136 z136
        obtain ⟨b_136, rfl, Nq136, Kq136, Fq136_0⟩ := hQ136
        have Nf136 := Fr.app N0 Nq136
        have K136 : Keep h0 T136.heap [] := (Keep.refl h0 []).trans Kq136 all0
        have Z136 : n0 ≤ T136.heap.size := Nat.le_trans Z0 Kq136.1
        refine own_fw (A' := (T136.setTop (mkF m 52 #[.val (.int p1), .val (.int p2), .val (.int p3), .val (.int (1 : Int32)), .val (.int (1 : Int32)), .val (.int (1 : Int32)), .unset, .unset, .unset, .unset, .unset, .unset] [(.ref b_136)]))) (fun t k => st136 _ k) ?_
        refine own_fw (A' := (T136.setTop (mkF m 56 #[.val (.int p1), .val (.int p2), .val (.int p3), .val (.int (1 : Int32)), .val (.int (1 : Int32)), .val (.int (1 : Int32)), .unset, .unset, .unset, .unset, .unset, .unset] [(.ref b_136)]))) (fun t k => XS.goto X136.here hx rfl (pc0 := 52) (pc' := 56) rfl (hb hby at_52) (by decide) (by decide) k) ?_
        refine own_fw (A' := (T136.setTop (mkF m 58 #[.val (.int p1), .val (.int p2), .val (.int p3), .val (.int (1 : Int32)), .val (.int (1 : Int32)), .val (.int (1 : Int32)), .val (.ref b_136), .unset, .unset, .unset, .unset, .unset] []))) (fun t k => XS.astore X136.here hx rfl (hb hby at_56) rfl rfl (l' := #[.val (.int p1), .val (.int p2), .val (.int p3), .val (.int (1 : Int32)), .val (.int (1 : Int32)), .val (.int (1 : Int32)), .val (.ref b_136), .unset, .unset, .unset, .unset, .unset]) rfl k) ?_
        refine own_fw (A' := (T136.setTop (mkF m 59 #[.val (.int p1), .val (.int p2), .val (.int p3), .val (.int (1 : Int32)), .val (.int (1 : Int32)), .val (.int (1 : Int32)), .val (.ref b_136), .unset, .unset, .unset, .unset, .unset] [(.int (1 : Int32))]))) (fun t k => XS.iloadN X136.here hx rfl (hb hby at_58) rfl k) ?_
        refine own_fw (A' := (T136.setTop (mkF m 62 #[.val (.int p1), .val (.int p2), .val (.int p3), .val (.int (1 : Int32)), .val (.int (1 : Int32)), .val (.int (1 : Int32)), .val (.ref b_136), .unset, .unset, .unset, .unset, .unset] []))) (fun t k => XS.ifNo X136.here hx rfl (hb hby at_59) rfl (XT.i0_eq_f (by decide)) k) ?_
        obtain ⟨T137, h137, X137, e137, E137, A137, D137, -, st137⟩ := newO X136 hx hZ hown (hw _ (List.mem_of_getElem? (i := 18) rfl)) (hw _ (List.mem_of_getElem? (i := 19) rfl)) (hw _ (List.mem_of_getElem? (i := 20) rfl)) rfl (g := (mkF m 62 #[.val (.int p1), .val (.int p2), .val (.int p3), .val (.int (1 : Int32)), .val (.int (1 : Int32)), .val (.int (1 : Int32)), .val (.ref b_136), .unset, .unset, .unset, .unset, .unset] [])) rfl (hb hby at_62) (by decide) (by decide)
        obtain ⟨b137, gb137⟩ : ∃ z, z = T136.heap.size := ⟨_, rfl⟩
        have g_b137 : n0 ≤ b137 := Nat.le_trans Z136 (Nat.le_of_eq gb137.symm)
        have sz_b137 : h0.size ≤ b137 := Nat.le_trans K136.1 (Nat.le_of_eq gb137.symm)
        have ne_ca_b137 : ca ≠ b137 := Nat.ne_of_lt (Nat.lt_of_lt_of_le (own_cacheLt (own_cacheKeep P2 Kq136 nin0)) (Nat.le_of_eq gb137.symm))
        have ne_r_NONE_b137 : r_NONE ≠ b137 := Nat.ne_of_lt (Nat.lt_of_lt_of_le (P4.keep Kq136).lt (Nat.le_of_eq gb137.symm))
        have ne_r_REMOVED_b137 : r_REMOVED ≠ b137 := Nat.ne_of_lt (Nat.lt_of_lt_of_le (P6.keep Kq136).lt (Nat.le_of_eq gb137.symm))
        have ne_r_EXPIRED_b137 : r_EXPIRED ≠ b137 := Nat.ne_of_lt (Nat.lt_of_lt_of_le (P8.keep Kq136).lt (Nat.le_of_eq gb137.symm))
        have ne_r_CREATED_b137 : r_CREATED ≠ b137 := Nat.ne_of_lt (Nat.lt_of_lt_of_le (P10.keep Kq136).lt (Nat.le_of_eq gb137.symm))
        have ne_r_UPDATED_b137 : r_UPDATED ≠ b137 := Nat.ne_of_lt (Nat.lt_of_lt_of_le (P12.keep Kq136).lt (Nat.le_of_eq gb137.symm))
        have ne_b_136_b137 : b_136 ≠ b137 := Nat.ne_of_lt (Nat.lt_of_lt_of_le Fq136_0.lt (Nat.le_of_eq gb137.symm))
        rw [← gb137] at A137 D137 st137
        have F_content_b137 : Fld Z h137 b137 "com/example/measured_cache/measuredcache/cache/EntryVersion" "content" "Ljava/lang/Object;" .null := D137 (Or.inl (hw _ (List.mem_of_getElem? (i := 35) rfl))) (ty := (.object "java/lang/Object")) (by decide)
        have K137 : Keep h0 h137 [] := K136.ext E137
        have Z137 : n0 ≤ h137.size := Nat.le_trans Z136 E137.1
        refine own_fw (A' := (T137.setTop (mkF m 65 #[.val (.int p1), .val (.int p2), .val (.int p3), .val (.int (1 : Int32)), .val (.int (1 : Int32)), .val (.int (1 : Int32)), .val (.ref b_136), .unset, .unset, .unset, .unset, .unset] [(.ref b137)]))) (fun t k => st137 _ k) ?_
        refine own_fw (A' := (T137.setTop (mkF m 66 #[.val (.int p1), .val (.int p2), .val (.int p3), .val (.int (1 : Int32)), .val (.int (1 : Int32)), .val (.int (1 : Int32)), .val (.ref b_136), .unset, .unset, .unset, .unset, .unset] [(.ref b137), (.ref b137)]))) (fun t k => XS.dup X137.here hx rfl (hb hby at_65) rfl rfl k) ?_
        refine own_fw (A' := (T137.setTop (mkF m 67 #[.val (.int p1), .val (.int p2), .val (.int p3), .val (.int (1 : Int32)), .val (.int (1 : Int32)), .val (.int (1 : Int32)), .val (.ref b_136), .unset, .unset, .unset, .unset, .unset] [(.int p2), (.ref b137), (.ref b137)]))) (fun t k => XS.iloadN X137.here hx rfl (hb hby at_66) rfl k) ?_
        obtain ⟨_, _, ⟨T138, L138, k138, n138⟩, -, X138, ⟨Lc138, hQ138, l138, y138, z138⟩, st138⟩ := Jvm.LawKit.callS X137 hx (y := (⟨"java/lang/Integer", "valueOf", "(I)Ljava/lang/Integer;"⟩ : MethodName)) hown (mvT hZ (hw _ (List.mem_of_getElem? (i := 21) rfl))) (mvT hZ (hw _ (List.mem_of_getElem? (i := 22) rfl))) (mvT hZ (hw _ (List.mem_of_getElem? (i := 23) rfl))) (mvT hZ (hw _ (List.mem_of_getElem? (i := 24) rfl))) (by decide) (backOf (W := 2) (rmIntOf l Z a0 hw [] p2 ca h137 n0 Z137 ((own_staKeep P0 Kq136 all0).ext E137) ((own_staKeep P1 Kq136 all0).ext E137) (own_cacheExt (own_cacheKeep P2 Kq136 nin0) E137)) hZ (hw _ (List.mem_of_getElem? (i := 24) rfl)) (hw _ (List.mem_of_getElem? (i := 23) rfl)) (by decide) (by decide)) (g := (mkF m 67 #[.val (.int p1), .val (.int p2), .val (.int p3), .val (.int (1 : Int32)), .val (.int (1 : Int32)), .val (.int (1 : Int32)), .val (.ref b_136), .unset, .unset, .unset, .unset, .unset] [(.int p2), (.ref b137), (.ref b137)])) rfl (by rw [hml]; rfl) (argsL := [(.int p2)]) (rest := [(.ref b137), (.ref b137)]) (lenOf pd__I_Ljava_lang_Integer_ rfl) rfl (by show 2 * 0 + _ ≤ _; exact Nat.le_of_eq rfl) (hb hby at_67) (fun _ _ => ⟨rfl, e137, (by decide : 2 + 1 ≤ _), (by decide : 2 + 1 ≤ _)⟩)
        dsimp only [Pt.U, Pt.locs, Pt.cells, Pt.slots] at X138 l138 y138 z138 st138 hQ138
        subst l138 y138 z138
        obtain ⟨b_138, rfl, Nq138, Kq138, Fq138_0⟩ := hQ138
        have Nf138 := Fr.app Nf136 Nq138
        have K138 : Keep h0 T138.heap [] := K137.trans Kq138 all0
        have Z138 : n0 ≤ T138.heap.size := Nat.le_trans Z137 Kq138.1
        refine own_fw (A' := (T138.setTop (mkF m 70 #[.val (.int p1), .val (.int p2), .val (.int p3), .val (.int (1 : Int32)), .val (.int (1 : Int32)), .val (.int (1 : Int32)), .val (.ref b_136), .unset, .unset, .unset, .unset, .unset] [(.ref b_138), (.ref b137), (.ref b137)]))) (fun t k => st138 _ k) ?_
        obtain ⟨_, _, ⟨T139, L139, k139, n139⟩, -, X139, ⟨Lc139, hQ139, l139, y139, z139⟩, st139⟩ := X138.specialBack hx (y := (⟨"com/example/measured_cache/measuredcache/cache/EntryVersion", "<init>", "(Ljava/lang/Object;)V"⟩ : MethodName)) rfl hown (mvT hZ (hw _ (List.mem_of_getElem? (i := 28) rfl))) (mvT hZ (hw _ (List.mem_of_getElem? (i := 29) rfl))) (mvT hZ (hw _ (List.mem_of_getElem? (i := 30) rfl))) (by decide) (backOf (W := 1) (rmEv l Z a0 hw [] b137 b_138 T138.heap n0 Z138 (A137.keep Kq138) (F_content_b137.keep Kq138 nin0) g_b137) hZ (hw _ (List.mem_of_getElem? (i := 30) rfl)) (hw _ (List.mem_of_getElem? (i := 20) rfl)) (by decide) (by decide)) (g := (mkF m 70 #[.val (.int p1), .val (.int p2), .val (.int p3), .val (.int (1 : Int32)), .val (.int (1 : Int32)), .val (.int (1 : Int32)), .val (.ref b_136), .unset, .unset, .unset, .unset, .unset] [(.ref b_138), (.ref b137), (.ref b137)])) rfl (by rw [hml]; rfl) (Steps.refl _) (a := b137) (argsL := [(.ref b_138)]) (rest := [(.ref b137)]) (lenOf pd__Ljava_lang_Object__V rfl) rfl (by show 2 * 0 + _ ≤ _; exact Nat.le_of_eq rfl) (hb hby at_70) (fun _ _ => ⟨rfl, rfl, (by decide : 3 + 0 ≤ _), (by decide : 3 + 0 ≤ _)⟩)
        dsimp only [Pt.U, Pt.locs, Pt.cells, Pt.slots] at X139 l139 y139 z139 st139 hQ139
        subst l139 y139 z139
        obtain ⟨rfl, Nq139, Kq139, Fq139_0⟩ := hQ139
        have Nf139 := Fr.app Nf138 Nq139
        have K139 : Keep h0 T139.heap [] := K138.trans Kq139 (allS (Or.inr sz_b137) all0)
        have Z139 : n0 ≤ T139.heap.size := Nat.le_trans Z138 Kq139.1
        refine own_fw (A' := (T139.setTop (mkF m 73 #[.val (.int p1), .val (.int p2), .val (.int p3), .val (.int (1 : Int32)), .val (.int (1 : Int32)), .val (.int (1 : Int32)), .val (.ref b_136), .unset, .unset, .unset, .unset, .unset] [(.ref b137)]))) (fun t k => st139.trans k) ?_
        refine own_fw (A' := (T139.setTop (mkF m 77 #[.val (.int p1), .val (.int p2), .val (.int p3), .val (.int (1 : Int32)), .val (.int (1 : Int32)), .val (.int (1 : Int32)), .val (.ref b_136), .unset, .unset, .unset, .unset, .unset] [(.ref b137)]))) (fun t k => XS.goto X139.here hx rfl (pc0 := 73) (pc' := 77) rfl (hb hby at_73) (by decide) (by decide) k) ?_
        refine own_fw (A' := (T139.setTop (mkF m 79 #[.val (.int p1), .val (.int p2), .val (.int p3), .val (.int (1 : Int32)), .val (.int (1 : Int32)), .val (.int (1 : Int32)), .val (.ref b_136), .val (.ref b137), .unset, .unset, .unset, .unset] []))) (fun t k => XS.astore X139.here hx rfl (hb hby at_77) rfl rfl (l' := #[.val (.int p1), .val (.int p2), .val (.int p3), .val (.int (1 : Int32)), .val (.int (1 : Int32)), .val (.int (1 : Int32)), .val (.ref b_136), .val (.ref b137), .unset, .unset, .unset, .unset]) rfl k) ?_
        refine own_fw (A' := (T139.setTop (mkF m 81 #[.val (.int p1), .val (.int p2), .val (.int p3), .val (.int (1 : Int32)), .val (.int (1 : Int32)), .val (.int (1 : Int32)), .val (.ref b_136), .val (.ref b137), .unset, .unset, .unset, .unset] [(.int (1 : Int32))]))) (fun t k => XS.iload X139.here hx rfl (hb hby at_79) rfl k) ?_
        refine own_fw (A' := (T139.setTop (mkF m 84 #[.val (.int p1), .val (.int p2), .val (.int p3), .val (.int (1 : Int32)), .val (.int (1 : Int32)), .val (.int (1 : Int32)), .val (.ref b_136), .val (.ref b137), .unset, .unset, .unset, .unset] []))) (fun t k => XS.ifNo X139.here hx rfl (hb hby at_81) rfl (XT.i0_eq_f (by decide)) k) ?_
        obtain ⟨T140, h140, X140, e140, E140, A140, D140, -, st140⟩ := newO X139 hx hZ hown (hw _ (List.mem_of_getElem? (i := 18) rfl)) (hw _ (List.mem_of_getElem? (i := 19) rfl)) (hw _ (List.mem_of_getElem? (i := 20) rfl)) rfl (g := (mkF m 84 #[.val (.int p1), .val (.int p2), .val (.int p3), .val (.int (1 : Int32)), .val (.int (1 : Int32)), .val (.int (1 : Int32)), .val (.ref b_136), .val (.ref b137), .unset, .unset, .unset, .unset] [])) rfl (hb hby at_84) (by decide) (by decide)
        obtain ⟨b140, gb140⟩ : ∃ z, z = T139.heap.size := ⟨_, rfl⟩
        have g_b140 : n0 ≤ b140 := Nat.le_trans Z139 (Nat.le_of_eq gb140.symm)
        have sz_b140 : h0.size ≤ b140 := Nat.le_trans K139.1 (Nat.le_of_eq gb140.symm)
        have ne_ca_b140 : ca ≠ b140 := Nat.ne_of_lt (Nat.lt_of_lt_of_le (own_cacheLt (own_cacheKeep (own_cacheKeep (own_cacheExt (own_cacheKeep P2 Kq136 nin0) E137) Kq138 nin0) Kq139 (ninS ne_ca_b137 nin0))) (Nat.le_of_eq gb140.symm))
        have ne_r_NONE_b140 : r_NONE ≠ b140 := Nat.ne_of_lt (Nat.lt_of_lt_of_le ((((P4.keep Kq136).ext E137).keep Kq138).keep Kq139).lt (Nat.le_of_eq gb140.symm))
        have ne_r_REMOVED_b140 : r_REMOVED ≠ b140 := Nat.ne_of_lt (Nat.lt_of_lt_of_le ((((P6.keep Kq136).ext E137).keep Kq138).keep Kq139).lt (Nat.le_of_eq gb140.symm))
        have ne_r_EXPIRED_b140 : r_EXPIRED ≠ b140 := Nat.ne_of_lt (Nat.lt_of_lt_of_le ((((P8.keep Kq136).ext E137).keep Kq138).keep Kq139).lt (Nat.le_of_eq gb140.symm))
        have ne_r_CREATED_b140 : r_CREATED ≠ b140 := Nat.ne_of_lt (Nat.lt_of_lt_of_le ((((P10.keep Kq136).ext E137).keep Kq138).keep Kq139).lt (Nat.le_of_eq gb140.symm))
        have ne_r_UPDATED_b140 : r_UPDATED ≠ b140 := Nat.ne_of_lt (Nat.lt_of_lt_of_le ((((P12.keep Kq136).ext E137).keep Kq138).keep Kq139).lt (Nat.le_of_eq gb140.symm))
        have ne_b_136_b140 : b_136 ≠ b140 := Nat.ne_of_lt (Nat.lt_of_lt_of_le (((Fq136_0.ext E137).keep Kq138).keep Kq139).lt (Nat.le_of_eq gb140.symm))
        have ne_b137_b140 : b137 ≠ b140 := Nat.ne_of_lt (Nat.lt_of_lt_of_le Fq139_0.lt (Nat.le_of_eq gb140.symm))
        have ne_b_138_b140 : b_138 ≠ b140 := Nat.ne_of_lt (Nat.lt_of_lt_of_le (Fq138_0.keep Kq139).lt (Nat.le_of_eq gb140.symm))
        rw [← gb140] at A140 D140 st140
        have F_content_b140 : Fld Z h140 b140 "com/example/measured_cache/measuredcache/cache/EntryVersion" "content" "Ljava/lang/Object;" .null := D140 (Or.inl (hw _ (List.mem_of_getElem? (i := 35) rfl))) (ty := (.object "java/lang/Object")) (by decide)
        have K140 : Keep h0 h140 [] := K139.ext E140
        have Z140 : n0 ≤ h140.size := Nat.le_trans Z139 E140.1
        refine own_fw (A' := (T140.setTop (mkF m 87 #[.val (.int p1), .val (.int p2), .val (.int p3), .val (.int (1 : Int32)), .val (.int (1 : Int32)), .val (.int (1 : Int32)), .val (.ref b_136), .val (.ref b137), .unset, .unset, .unset, .unset] [(.ref b140)]))) (fun t k => st140 _ k) ?_
        refine own_fw (A' := (T140.setTop (mkF m 88 #[.val (.int p1), .val (.int p2), .val (.int p3), .val (.int (1 : Int32)), .val (.int (1 : Int32)), .val (.int (1 : Int32)), .val (.ref b_136), .val (.ref b137), .unset, .unset, .unset, .unset] [(.ref b140), (.ref b140)]))) (fun t k => XS.dup X140.here hx rfl (hb hby at_87) rfl rfl k) ?_
        refine own_fw (A' := (T140.setTop (mkF m 90 #[.val (.int p1), .val (.int p2), .val (.int p3), .val (.int (1 : Int32)), .val (.int (1 : Int32)), .val (.int (1 : Int32)), .val (.ref b_136), .val (.ref b137), .unset, .unset, .unset, .unset] [(.ref b_136), (.ref b140), (.ref b140)]))) (fun t k => XS.aload X140.here hx rfl (hb hby at_88) rfl rfl k) ?_
        obtain ⟨_, _, ⟨T141, L141, k141, n141⟩, -, X141, ⟨Lc141, hQ141, l141, y141, z141⟩, st141⟩ := X140.specialBack hx (y := (⟨"com/example/measured_cache/measuredcache/cache/EntryVersion", "<init>", "(Ljava/lang/Object;)V"⟩ : MethodName)) rfl hown (mvT hZ (hw _ (List.mem_of_getElem? (i := 28) rfl))) (mvT hZ (hw _ (List.mem_of_getElem? (i := 29) rfl))) (mvT hZ (hw _ (List.mem_of_getElem? (i := 30) rfl))) (by decide) (backOf (W := 1) (rmEv l Z a0 hw [] b140 b_136 h140 n0 Z140 A140 F_content_b140 g_b140) hZ (hw _ (List.mem_of_getElem? (i := 30) rfl)) (hw _ (List.mem_of_getElem? (i := 20) rfl)) (by decide) (by decide)) (g := (mkF m 90 #[.val (.int p1), .val (.int p2), .val (.int p3), .val (.int (1 : Int32)), .val (.int (1 : Int32)), .val (.int (1 : Int32)), .val (.ref b_136), .val (.ref b137), .unset, .unset, .unset, .unset] [(.ref b_136), (.ref b140), (.ref b140)])) rfl (by rw [hml]; rfl) (Steps.refl _) (a := b140) (argsL := [(.ref b_136)]) (rest := [(.ref b140)]) (lenOf pd__Ljava_lang_Object__V rfl) rfl (by show 2 * 0 + _ ≤ _; exact Nat.le_of_eq rfl) (hb hby at_90) (fun _ _ => ⟨rfl, e140, (by decide : 4 + 0 ≤ _), (by decide : 4 + 0 ≤ _)⟩)
        dsimp only [Pt.U, Pt.locs, Pt.cells, Pt.slots] at X141 l141 y141 z141 st141 hQ141
        subst l141 y141 z141
        obtain ⟨rfl, Nq141, Kq141, Fq141_0⟩ := hQ141
        have Nf141 := Fr.app Nf139 Nq141
        have K141 : Keep h0 T141.heap [] := K140.trans Kq141 (allS (Or.inr sz_b140) all0)
        have Z141 : n0 ≤ T141.heap.size := Nat.le_trans Z140 Kq141.1
        refine own_fw (A' := (T141.setTop (mkF m 93 #[.val (.int p1), .val (.int p2), .val (.int p3), .val (.int (1 : Int32)), .val (.int (1 : Int32)), .val (.int (1 : Int32)), .val (.ref b_136), .val (.ref b137), .unset, .unset, .unset, .unset] [(.ref b140)]))) (fun t k => st141.trans k) ?_
        refine own_fw (A' := (T141.setTop (mkF m 97 #[.val (.int p1), .val (.int p2), .val (.int p3), .val (.int (1 : Int32)), .val (.int (1 : Int32)), .val (.int (1 : Int32)), .val (.ref b_136), .val (.ref b137), .unset, .unset, .unset, .unset] [(.ref b140)]))) (fun t k => XS.goto X141.here hx rfl (pc0 := 93) (pc' := 97) rfl (hb hby at_93) (by decide) (by decide) k) ?_
        refine own_fw (A' := (T141.setTop (mkF m 99 #[.val (.int p1), .val (.int p2), .val (.int p3), .val (.int (1 : Int32)), .val (.int (1 : Int32)), .val (.int (1 : Int32)), .val (.ref b_136), .val (.ref b137), .val (.ref b140), .unset, .unset, .unset] []))) (fun t k => XS.astore X141.here hx rfl (hb hby at_97) rfl rfl (l' := #[.val (.int p1), .val (.int p2), .val (.int p3), .val (.int (1 : Int32)), .val (.int (1 : Int32)), .val (.int (1 : Int32)), .val (.ref b_136), .val (.ref b137), .val (.ref b140), .unset, .unset, .unset]) rfl k) ?_
        refine own_fw (A' := (T141.setTop (mkF m 101 #[.val (.int p1), .val (.int p2), .val (.int p3), .val (.int (1 : Int32)), .val (.int (1 : Int32)), .val (.int (1 : Int32)), .val (.ref b_136), .val (.ref b137), .val (.ref b140), .unset, .unset, .unset] [(.int (8 : Int32))]))) (fun t k => XS.bipush X141.here hx rfl (hb hby at_99) k) ?_
        obtain ⟨T142, h142, k142, X142, e142, E142, A142, O142, st142⟩ := newR X141 hx hZ hown (hw _ (List.mem_of_getElem? (i := 0) rfl)) (hw _ (List.mem_of_getElem? (i := 1) rfl)) rfl (g := (mkF m 101 #[.val (.int p1), .val (.int p2), .val (.int p3), .val (.int (1 : Int32)), .val (.int (1 : Int32)), .val (.int (1 : Int32)), .val (.ref b_136), .val (.ref b137), .val (.ref b140), .unset, .unset, .unset] [(.int (8 : Int32))])) rfl (hb hby at_101) rfl (by decide) (cap := 8) (by decide) (by decide) (by decide) (by decide)
        obtain ⟨b142, gb142⟩ : ∃ z, z = T141.heap.size := ⟨_, rfl⟩
        have g_b142 : n0 ≤ b142 := Nat.le_trans Z141 (Nat.le_of_eq gb142.symm)
        have sz_b142 : h0.size ≤ b142 := Nat.le_trans K141.1 (Nat.le_of_eq gb142.symm)
        have ne_ca_b142 : ca ≠ b142 := Nat.ne_of_lt (Nat.lt_of_lt_of_le (own_cacheLt (own_cacheKeep (own_cacheExt (own_cacheKeep (own_cacheKeep (own_cacheExt (own_cacheKeep P2 Kq136 nin0) E137) Kq138 nin0) Kq139 (ninS ne_ca_b137 nin0)) E140) Kq141 (ninS ne_ca_b140 nin0))) (Nat.le_of_eq gb142.symm))
        have ne_r_NONE_b142 : r_NONE ≠ b142 := Nat.ne_of_lt (Nat.lt_of_lt_of_le ((((((P4.keep Kq136).ext E137).keep Kq138).keep Kq139).ext E140).keep Kq141).lt (Nat.le_of_eq gb142.symm))
        have ne_r_REMOVED_b142 : r_REMOVED ≠ b142 := Nat.ne_of_lt (Nat.lt_of_lt_of_le ((((((P6.keep Kq136).ext E137).keep Kq138).keep Kq139).ext E140).keep Kq141).lt (Nat.le_of_eq gb142.symm))
        have ne_r_EXPIRED_b142 : r_EXPIRED ≠ b142 := Nat.ne_of_lt (Nat.lt_of_lt_of_le ((((((P8.keep Kq136).ext E137).keep Kq138).keep Kq139).ext E140).keep Kq141).lt (Nat.le_of_eq gb142.symm))
        have ne_r_CREATED_b142 : r_CREATED ≠ b142 := Nat.ne_of_lt (Nat.lt_of_lt_of_le ((((((P10.keep Kq136).ext E137).keep Kq138).keep Kq139).ext E140).keep Kq141).lt (Nat.le_of_eq gb142.symm))
        have ne_r_UPDATED_b142 : r_UPDATED ≠ b142 := Nat.ne_of_lt (Nat.lt_of_lt_of_le ((((((P12.keep Kq136).ext E137).keep Kq138).keep Kq139).ext E140).keep Kq141).lt (Nat.le_of_eq gb142.symm))
        have ne_b_136_b142 : b_136 ≠ b142 := Nat.ne_of_lt (Nat.lt_of_lt_of_le (((((Fq136_0.ext E137).keep Kq138).keep Kq139).ext E140).keep Kq141).lt (Nat.le_of_eq gb142.symm))
        have ne_b137_b142 : b137 ≠ b142 := Nat.ne_of_lt (Nat.lt_of_lt_of_le ((Fq139_0.ext E140).keep Kq141).lt (Nat.le_of_eq gb142.symm))
        have ne_b_138_b142 : b_138 ≠ b142 := Nat.ne_of_lt (Nat.lt_of_lt_of_le (((Fq138_0.keep Kq139).ext E140).keep Kq141).lt (Nat.le_of_eq gb142.symm))
        have ne_b140_b142 : b140 ≠ b142 := Nat.ne_of_lt (Nat.lt_of_lt_of_le Fq141_0.lt (Nat.le_of_eq gb142.symm))
        rw [← gb142] at A142 st142
        have V_b142 : Arv Z h142 b142 k142 (.object "com/example/measured_cache/measuredcache/cache/Change") (8 : Int32) [.null, .null, .null, .null, .null, .null, .null, .null] .null := (Arv.new A142 (by decide)).pad (pad_rep [] .null 8)
        have K142 : Keep h0 h142 [] := K141.ext E142
        have Z142 : n0 ≤ h142.size := Nat.le_trans Z141 E142.1
        refine own_fw (A' := (T142.setTop (mkF m 104 #[.val (.int p1), .val (.int p2), .val (.int p3), .val (.int (1 : Int32)), .val (.int (1 : Int32)), .val (.int (1 : Int32)), .val (.ref b_136), .val (.ref b137), .val (.ref b140), .unset, .unset, .unset] [(.ref b142)]))) (fun t k => st142 _ k) ?_
        refine own_fw (A' := (T142.setTop (mkF m 105 #[.val (.int p1), .val (.int p2), .val (.int p3), .val (.int (1 : Int32)), .val (.int (1 : Int32)), .val (.int (1 : Int32)), .val (.ref b_136), .val (.ref b137), .val (.ref b140), .unset, .unset, .unset] [(.ref b142), (.ref b142)]))) (fun t k => XS.dup X142.here hx rfl (hb hby at_104) rfl rfl k) ?_
        refine own_fw (A' := (T142.setTop (mkF m 106 #[.val (.int p1), .val (.int p2), .val (.int p3), .val (.int (1 : Int32)), .val (.int (1 : Int32)), .val (.int (1 : Int32)), .val (.ref b_136), .val (.ref b137), .val (.ref b140), .unset, .unset, .unset] [(.int (0 : Int32)), (.ref b142), (.ref b142)]))) (fun t k => XS.iconst X142.here hx rfl (hb hby at_105) k) ?_
        obtain ⟨T143, X143, e143, st143⟩ := getS2 X142 hx hZ hown (host := "") (Or.inl (hw _ (List.mem_of_getElem? (i := 2) rfl))) Via.refl e142 ((own_staKeep ((own_staKeep (own_staKeep ((own_staKeep P3 Kq136 all0).ext E137) Kq138 all0) Kq139 (allS (own_plainE (A137.keep Kq138)) all0)).ext E140) Kq141 (allS (own_plainE A140) all0)).ext E142) (g := (mkF m 106 #[.val (.int p1), .val (.int p2), .val (.int p3), .val (.int (1 : Int32)), .val (.int (1 : Int32)), .val (.int (1 : Int32)), .val (.ref b_136), .val (.ref b137), .val (.ref b140), .unset, .unset, .unset] [(.int (0 : Int32)), (.ref b142), (.ref b142)])) rfl (hb hby at_106)
        refine own_fw (A' := (T143.setTop (mkF m 109 #[.val (.int p1), .val (.int p2), .val (.int p3), .val (.int (1 : Int32)), .val (.int (1 : Int32)), .val (.int (1 : Int32)), .val (.ref b_136), .val (.ref b137), .val (.ref b140), .unset, .unset, .unset] [(.ref r_NONE), (.int (0 : Int32)), (.ref b142), (.ref b142)]))) (fun t k => st143 _ k) ?_
        obtain ⟨cl144, Ar144, q144, S144, M144, H144, G144⟩ := id V_b142
        have hin144 : ¬ ((0 : Int32) < 0 ∨ cl144.slots.size ≤ ((0 : Int32)).toNatClampNeg) := inb_of S144 ⟨by decide, by decide⟩
        obtain ⟨T144, h144, X144, e144, W144, st144⟩ := stR X143 hx hZ e143 Ar144 (j := (0 : Int32)) hin144 rfl (Sto.ofV Ar144 q144 O142 (Ins.self (((((((P4.keep Kq136).ext E137).keep Kq138).keep Kq139).ext E140).keep Kq141).ext E142))) (g := (mkF m 109 #[.val (.int p1), .val (.int p2), .val (.int p3), .val (.int (1 : Int32)), .val (.int (1 : Int32)), .val (.int (1 : Int32)), .val (.ref b_136), .val (.ref b137), .val (.ref b140), .unset, .unset, .unset] [(.ref r_NONE), (.int (0 : Int32)), (.ref b142), (.ref b142)])) rfl rfl (hb hby at_109)
        have V144 : Arv Z h144 b142 k142 (.object "com/example/measured_cache/measuredcache/cache/Change") (8 : Int32) [(.ref r_NONE), .null, .null, .null, .null, .null, .null, .null] .null := Arv.set Ar144 q144 S144 M144 H144 G144 rfl W144 0 rfl (Nat.le_of_ble_eq_true rfl)
        have Nf144 := Fr.snoc X144 Nf141 g_b142
        have K144 : Keep h0 h144 [] := K142.wr W144 (Or.inr sz_b142)
        have Z144 : n0 ≤ h144.size := Nat.le_trans Z142 (Keep.of_wr W144).1
        refine own_fw (A' := (T144.setTop (mkF m 110 #[.val (.int p1), .val (.int p2), .val (.int p3), .val (.int (1 : Int32)), .val (.int (1 : Int32)), .val (.int (1 : Int32)), .val (.ref b_136), .val (.ref b137), .val (.ref b140), .unset, .unset, .unset] [(.ref b142)]))) (fun t k => st144 _ k) ?_
        refine own_fw (A' := (T144.setTop (mkF m 111 #[.val (.int p1), .val (.int p2), .val (.int p3), .val (.int (1 : Int32)), .val (.int (1 : Int32)), .val (.int (1 : Int32)), .val (.ref b_136), .val (.ref b137), .val (.ref b140), .unset, .unset, .unset] [(.ref b142), (.ref b142)]))) (fun t k => XS.dup X144.here hx rfl (hb hby at_110) rfl rfl k) ?_
        refine own_fw (A' := (T144.setTop (mkF m 112 #[.val (.int p1), .val (.int p2), .val (.int p3), .val (.int (1 : Int32)), .val (.int (1 : Int32)), .val (.int (1 : Int32)), .val (.ref b_136), .val (.ref b137), .val (.ref b140), .unset, .unset, .unset] [(.int (1 : Int32)), (.ref b142), (.ref b142)]))) (fun t k => XS.iconst X144.here hx rfl (hb hby at_111) k) ?_
        obtain ⟨T145, X145, e145, st145⟩ := getS2 X144 hx hZ hown (host := "") (Or.inl (hw _ (List.mem_of_getElem? (i := 6) rfl))) Via.refl e144 (((own_staKeep ((own_staKeep (own_staKeep ((own_staKeep P5 Kq136 all0).ext E137) Kq138 all0) Kq139 (allS (own_plainE (A137.keep Kq138)) all0)).ext E140) Kq141 (allS (own_plainE A140) all0)).ext E142).wr W144) (g := (mkF m 112 #[.val (.int p1), .val (.int p2), .val (.int p3), .val (.int (1 : Int32)), .val (.int (1 : Int32)), .val (.int (1 : Int32)), .val (.ref b_136), .val (.ref b137), .val (.ref b140), .unset, .unset, .unset] [(.int (1 : Int32)), (.ref b142), (.ref b142)])) rfl (hb hby at_112)
        refine own_fw (A' := (T145.setTop (mkF m 115 #[.val (.int p1), .val (.int p2), .val (.int p3), .val (.int (1 : Int32)), .val (.int (1 : Int32)), .val (.int (1 : Int32)), .val (.ref b_136), .val (.ref b137), .val (.ref b140), .unset, .unset, .unset] [(.ref r_REMOVED), (.int (1 : Int32)), (.ref b142), (.ref b142)]))) (fun t k => st145 _ k) ?_
        obtain ⟨cl146, Ar146, q146, S146, M146, H146, G146⟩ := id V144
        have hin146 : ¬ ((1 : Int32) < 0 ∨ cl146.slots.size ≤ ((1 : Int32)).toNatClampNeg) := inb_of S146 ⟨by decide, by decide⟩
        obtain ⟨T146, h146, X146, e146, W146, st146⟩ := stR X145 hx hZ e145 Ar146 (j := (1 : Int32)) hin146 rfl (Sto.ofV Ar146 q146 O142 (Ins.self ((((((((P6.keep Kq136).ext E137).keep Kq138).keep Kq139).ext E140).keep Kq141).ext E142).wr W144))) (g := (mkF m 115 #[.val (.int p1), .val (.int p2), .val (.int p3), .val (.int (1 : Int32)), .val (.int (1 : Int32)), .val (.int (1 : Int32)), .val (.ref b_136), .val (.ref b137), .val (.ref b140), .unset, .unset, .unset] [(.ref r_REMOVED), (.int (1 : Int32)), (.ref b142), (.ref b142)])) rfl rfl (hb hby at_115)
        have V146 : Arv Z h146 b142 k142 (.object "com/example/measured_cache/measuredcache/cache/Change") (8 : Int32) [(.ref r_NONE), (.ref r_REMOVED), .null, .null, .null, .null, .null, .null] .null := Arv.set Ar146 q146 S146 M146 H146 G146 rfl W146 1 rfl (Nat.le_of_ble_eq_true rfl)
        have Nf146 := Fr.snoc X146 Nf144 g_b142
        have K146 : Keep h0 h146 [] := K144.wr W146 (Or.inr sz_b142)
        have Z146 : n0 ≤ h146.size := Nat.le_trans Z144 (Keep.of_wr W146).1
        refine own_fw (A' := (T146.setTop (mkF m 116 #[.val (.int p1), .val (.int p2), .val (.int p3), .val (.int (1 : Int32)), .val (.int (1 : Int32)), .val (.int (1 : Int32)), .val (.ref b_136), .val (.ref b137), .val (.ref b140), .unset, .unset, .unset] [(.ref b142)]))) (fun t k => st146 _ k) ?_
        refine own_fw (A' := (T146.setTop (mkF m 117 #[.val (.int p1), .val (.int p2), .val (.int p3), .val (.int (1 : Int32)), .val (.int (1 : Int32)), .val (.int (1 : Int32)), .val (.ref b_136), .val (.ref b137), .val (.ref b140), .unset, .unset, .unset] [(.ref b142), (.ref b142)]))) (fun t k => XS.dup X146.here hx rfl (hb hby at_116) rfl rfl k) ?_
        refine own_fw (A' := (T146.setTop (mkF m 118 #[.val (.int p1), .val (.int p2), .val (.int p3), .val (.int (1 : Int32)), .val (.int (1 : Int32)), .val (.int (1 : Int32)), .val (.ref b_136), .val (.ref b137), .val (.ref b140), .unset, .unset, .unset] [(.int (2 : Int32)), (.ref b142), (.ref b142)]))) (fun t k => XS.iconst X146.here hx rfl (hb hby at_117) k) ?_
        obtain ⟨T147, X147, e147, st147⟩ := getS2 X146 hx hZ hown (host := "") (Or.inl (hw _ (List.mem_of_getElem? (i := 2) rfl))) Via.refl e146 ((((own_staKeep ((own_staKeep (own_staKeep ((own_staKeep P3 Kq136 all0).ext E137) Kq138 all0) Kq139 (allS (own_plainE (A137.keep Kq138)) all0)).ext E140) Kq141 (allS (own_plainE A140) all0)).ext E142).wr W144).wr W146) (g := (mkF m 118 #[.val (.int p1), .val (.int p2), .val (.int p3), .val (.int (1 : Int32)), .val (.int (1 : Int32)), .val (.int (1 : Int32)), .val (.ref b_136), .val (.ref b137), .val (.ref b140), .unset, .unset, .unset] [(.int (2 : Int32)), (.ref b142), (.ref b142)])) rfl (hb hby at_118)
        refine own_fw (A' := (T147.setTop (mkF m 121 #[.val (.int p1), .val (.int p2), .val (.int p3), .val (.int (1 : Int32)), .val (.int (1 : Int32)), .val (.int (1 : Int32)), .val (.ref b_136), .val (.ref b137), .val (.ref b140), .unset, .unset, .unset] [(.ref r_NONE), (.int (2 : Int32)), (.ref b142), (.ref b142)]))) (fun t k => st147 _ k) ?_
        obtain ⟨cl148, Ar148, q148, S148, M148, H148, G148⟩ := id V146
        have hin148 : ¬ ((2 : Int32) < 0 ∨ cl148.slots.size ≤ ((2 : Int32)).toNatClampNeg) := inb_of S148 ⟨by decide, by decide⟩
        obtain ⟨T148, h148, X148, e148, W148, st148⟩ := stR X147 hx hZ e147 Ar148 (j := (2 : Int32)) hin148 rfl (Sto.ofV Ar148 q148 O142 (Ins.self (((((((((P4.keep Kq136).ext E137).keep Kq138).keep Kq139).ext E140).keep Kq141).ext E142).wr W144).wr W146))) (g := (mkF m 121 #[.val (.int p1), .val (.int p2), .val (.int p3), .val (.int (1 : Int32)), .val (.int (1 : Int32)), .val (.int (1 : Int32)), .val (.ref b_136), .val (.ref b137), .val (.ref b140), .unset, .unset, .unset] [(.ref r_NONE), (.int (2 : Int32)), (.ref b142), (.ref b142)])) rfl rfl (hb hby at_121)
        have V148 : Arv Z h148 b142 k142 (.object "com/example/measured_cache/measuredcache/cache/Change") (8 : Int32) [(.ref r_NONE), (.ref r_REMOVED), (.ref r_NONE), .null, .null, .null, .null, .null] .null := Arv.set Ar148 q148 S148 M148 H148 G148 rfl W148 2 rfl (Nat.le_of_ble_eq_true rfl)
        have Nf148 := Fr.snoc X148 Nf146 g_b142
        have K148 : Keep h0 h148 [] := K146.wr W148 (Or.inr sz_b142)
        have Z148 : n0 ≤ h148.size := Nat.le_trans Z146 (Keep.of_wr W148).1
        refine own_fw (A' := (T148.setTop (mkF m 122 #[.val (.int p1), .val (.int p2), .val (.int p3), .val (.int (1 : Int32)), .val (.int (1 : Int32)), .val (.int (1 : Int32)), .val (.ref b_136), .val (.ref b137), .val (.ref b140), .unset, .unset, .unset] [(.ref b142)]))) (fun t k => st148 _ k) ?_
        refine own_fw (A' := (T148.setTop (mkF m 123 #[.val (.int p1), .val (.int p2), .val (.int p3), .val (.int (1 : Int32)), .val (.int (1 : Int32)), .val (.int (1 : Int32)), .val (.ref b_136), .val (.ref b137), .val (.ref b140), .unset, .unset, .unset] [(.ref b142), (.ref b142)]))) (fun t k => XS.dup X148.here hx rfl (hb hby at_122) rfl rfl k) ?_
        refine own_fw (A' := (T148.setTop (mkF m 124 #[.val (.int p1), .val (.int p2), .val (.int p3), .val (.int (1 : Int32)), .val (.int (1 : Int32)), .val (.int (1 : Int32)), .val (.ref b_136), .val (.ref b137), .val (.ref b140), .unset, .unset, .unset] [(.int (3 : Int32)), (.ref b142), (.ref b142)]))) (fun t k => XS.iconst X148.here hx rfl (hb hby at_123) k) ?_
        obtain ⟨T149, X149, e149, st149⟩ := getS2 X148 hx hZ hown (host := "") (Or.inl (hw _ (List.mem_of_getElem? (i := 8) rfl))) Via.refl e148 (((((own_staKeep ((own_staKeep (own_staKeep ((own_staKeep P7 Kq136 all0).ext E137) Kq138 all0) Kq139 (allS (own_plainE (A137.keep Kq138)) all0)).ext E140) Kq141 (allS (own_plainE A140) all0)).ext E142).wr W144).wr W146).wr W148) (g := (mkF m 124 #[.val (.int p1), .val (.int p2), .val (.int p3), .val (.int (1 : Int32)), .val (.int (1 : Int32)), .val (.int (1 : Int32)), .val (.ref b_136), .val (.ref b137), .val (.ref b140), .unset, .unset, .unset] [(.int (3 : Int32)), (.ref b142), (.ref b142)])) rfl (hb hby at_124)
        refine own_fw (A' := (T149.setTop (mkF m 127 #[.val (.int p1), .val (.int p2), .val (.int p3), .val (.int (1 : Int32)), .val (.int (1 : Int32)), .val (.int (1 : Int32)), .val (.ref b_136), .val (.ref b137), .val (.ref b140), .unset, .unset, .unset] [(.ref r_EXPIRED), (.int (3 : Int32)), (.ref b142), (.ref b142)]))) (fun t k => st149 _ k) ?_
        obtain ⟨cl150, Ar150, q150, S150, M150, H150, G150⟩ := id V148
        have hin150 : ¬ ((3 : Int32) < 0 ∨ cl150.slots.size ≤ ((3 : Int32)).toNatClampNeg) := inb_of S150 ⟨by decide, by decide⟩
        obtain ⟨T150, h150, X150, e150, W150, st150⟩ := stR X149 hx hZ e149 Ar150 (j := (3 : Int32)) hin150 rfl (Sto.ofV Ar150 q150 O142 (Ins.self ((((((((((P8.keep Kq136).ext E137).keep Kq138).keep Kq139).ext E140).keep Kq141).ext E142).wr W144).wr W146).wr W148))) (g := (mkF m 127 #[.val (.int p1), .val (.int p2), .val (.int p3), .val (.int (1 : Int32)), .val (.int (1 : Int32)), .val (.int (1 : Int32)), .val (.ref b_136), .val (.ref b137), .val (.ref b140), .unset, .unset, .unset] [(.ref r_EXPIRED), (.int (3 : Int32)), (.ref b142), (.ref b142)])) rfl rfl (hb hby at_127)
        have V150 : Arv Z h150 b142 k142 (.object "com/example/measured_cache/measuredcache/cache/Change") (8 : Int32) [(.ref r_NONE), (.ref r_REMOVED), (.ref r_NONE), (.ref r_EXPIRED), .null, .null, .null, .null] .null := Arv.set Ar150 q150 S150 M150 H150 G150 rfl W150 3 rfl (Nat.le_of_ble_eq_true rfl)
        have Nf150 := Fr.snoc X150 Nf148 g_b142
        have K150 : Keep h0 h150 [] := K148.wr W150 (Or.inr sz_b142)
        have Z150 : n0 ≤ h150.size := Nat.le_trans Z148 (Keep.of_wr W150).1
        refine own_fw (A' := (T150.setTop (mkF m 128 #[.val (.int p1), .val (.int p2), .val (.int p3), .val (.int (1 : Int32)), .val (.int (1 : Int32)), .val (.int (1 : Int32)), .val (.ref b_136), .val (.ref b137), .val (.ref b140), .unset, .unset, .unset] [(.ref b142)]))) (fun t k => st150 _ k) ?_
        refine own_fw (A' := (T150.setTop (mkF m 129 #[.val (.int p1), .val (.int p2), .val (.int p3), .val (.int (1 : Int32)), .val (.int (1 : Int32)), .val (.int (1 : Int32)), .val (.ref b_136), .val (.ref b137), .val (.ref b140), .unset, .unset, .unset] [(.ref b142), (.ref b142)]))) (fun t k => XS.dup X150.here hx rfl (hb hby at_128) rfl rfl k) ?_
        refine own_fw (A' := (T150.setTop (mkF m 130 #[.val (.int p1), .val (.int p2), .val (.int p3), .val (.int (1 : Int32)), .val (.int (1 : Int32)), .val (.int (1 : Int32)), .val (.ref b_136), .val (.ref b137), .val (.ref b140), .unset, .unset, .unset] [(.int (4 : Int32)), (.ref b142), (.ref b142)]))) (fun t k => XS.iconst X150.here hx rfl (hb hby at_129) k) ?_
        obtain ⟨T151, X151, e151, st151⟩ := getS2 X150 hx hZ hown (host := "") (Or.inl (hw _ (List.mem_of_getElem? (i := 10) rfl))) Via.refl e150 ((((((own_staKeep ((own_staKeep (own_staKeep ((own_staKeep P9 Kq136 all0).ext E137) Kq138 all0) Kq139 (allS (own_plainE (A137.keep Kq138)) all0)).ext E140) Kq141 (allS (own_plainE A140) all0)).ext E142).wr W144).wr W146).wr W148).wr W150) (g := (mkF m 130 #[.val (.int p1), .val (.int p2), .val (.int p3), .val (.int (1 : Int32)), .val (.int (1 : Int32)), .val (.int (1 : Int32)), .val (.ref b_136), .val (.ref b137), .val (.ref b140), .unset, .unset, .unset] [(.int (4 : Int32)), (.ref b142), (.ref b142)])) rfl (hb hby at_130)
        refine own_fw (A' := (T151.setTop (mkF m 133 #[.val (.int p1), .val (.int p2), .val (.int p3), .val (.int (1 : Int32)), .val (.int (1 : Int32)), .val (.int (1 : Int32)), .val (.ref b_136), .val (.ref b137), .val (.ref b140), .unset, .unset, .unset] [(.ref r_CREATED), (.int (4 : Int32)), (.ref b142), (.ref b142)]))) (fun t k => st151 _ k) ?_
        obtain ⟨cl152, Ar152, q152, S152, M152, H152, G152⟩ := id V150
        have hin152 : ¬ ((4 : Int32) < 0 ∨ cl152.slots.size ≤ ((4 : Int32)).toNatClampNeg) := inb_of S152 ⟨by decide, by decide⟩
        obtain ⟨T152, h152, X152, e152, W152, st152⟩ := stR X151 hx hZ e151 Ar152 (j := (4 : Int32)) hin152 rfl (Sto.ofV Ar152 q152 O142 (Ins.self (((((((((((P10.keep Kq136).ext E137).keep Kq138).keep Kq139).ext E140).keep Kq141).ext E142).wr W144).wr W146).wr W148).wr W150))) (g := (mkF m 133 #[.val (.int p1), .val (.int p2), .val (.int p3), .val (.int (1 : Int32)), .val (.int (1 : Int32)), .val (.int (1 : Int32)), .val (.ref b_136), .val (.ref b137), .val (.ref b140), .unset, .unset, .unset] [(.ref r_CREATED), (.int (4 : Int32)), (.ref b142), (.ref b142)])) rfl rfl (hb hby at_133)
        have V152 : Arv Z h152 b142 k142 (.object "com/example/measured_cache/measuredcache/cache/Change") (8 : Int32) [(.ref r_NONE), (.ref r_REMOVED), (.ref r_NONE), (.ref r_EXPIRED), (.ref r_CREATED), .null, .null, .null] .null := Arv.set Ar152 q152 S152 M152 H152 G152 rfl W152 4 rfl (Nat.le_of_ble_eq_true rfl)
        have Nf152 := Fr.snoc X152 Nf150 g_b142
        have K152 : Keep h0 h152 [] := K150.wr W152 (Or.inr sz_b142)
        have Z152 : n0 ≤ h152.size := Nat.le_trans Z150 (Keep.of_wr W152).1
        refine own_fw (A' := (T152.setTop (mkF m 134 #[.val (.int p1), .val (.int p2), .val (.int p3), .val (.int (1 : Int32)), .val (.int (1 : Int32)), .val (.int (1 : Int32)), .val (.ref b_136), .val (.ref b137), .val (.ref b140), .unset, .unset, .unset] [(.ref b142)]))) (fun t k => st152 _ k) ?_
        refine own_fw (A' := (T152.setTop (mkF m 135 #[.val (.int p1), .val (.int p2), .val (.int p3), .val (.int (1 : Int32)), .val (.int (1 : Int32)), .val (.int (1 : Int32)), .val (.ref b_136), .val (.ref b137), .val (.ref b140), .unset, .unset, .unset] [(.ref b142), (.ref b142)]))) (fun t k => XS.dup X152.here hx rfl (hb hby at_134) rfl rfl k) ?_
        refine own_fw (A' := (T152.setTop (mkF m 136 #[.val (.int p1), .val (.int p2), .val (.int p3), .val (.int (1 : Int32)), .val (.int (1 : Int32)), .val (.int (1 : Int32)), .val (.ref b_136), .val (.ref b137), .val (.ref b140), .unset, .unset, .unset] [(.int (5 : Int32)), (.ref b142), (.ref b142)]))) (fun t k => XS.iconst X152.here hx rfl (hb hby at_135) k) ?_
        obtain ⟨T153, X153, e153, st153⟩ := getS2 X152 hx hZ hown (host := "") (Or.inl (hw _ (List.mem_of_getElem? (i := 12) rfl))) Via.refl e152 (((((((own_staKeep ((own_staKeep (own_staKeep ((own_staKeep P11 Kq136 all0).ext E137) Kq138 all0) Kq139 (allS (own_plainE (A137.keep Kq138)) all0)).ext E140) Kq141 (allS (own_plainE A140) all0)).ext E142).wr W144).wr W146).wr W148).wr W150).wr W152) (g := (mkF m 136 #[.val (.int p1), .val (.int p2), .val (.int p3), .val (.int (1 : Int32)), .val (.int (1 : Int32)), .val (.int (1 : Int32)), .val (.ref b_136), .val (.ref b137), .val (.ref b140), .unset, .unset, .unset] [(.int (5 : Int32)), (.ref b142), (.ref b142)])) rfl (hb hby at_136)
        refine own_fw (A' := (T153.setTop (mkF m 139 #[.val (.int p1), .val (.int p2), .val (.int p3), .val (.int (1 : Int32)), .val (.int (1 : Int32)), .val (.int (1 : Int32)), .val (.ref b_136), .val (.ref b137), .val (.ref b140), .unset, .unset, .unset] [(.ref r_UPDATED), (.int (5 : Int32)), (.ref b142), (.ref b142)]))) (fun t k => st153 _ k) ?_
        obtain ⟨cl154, Ar154, q154, S154, M154, H154, G154⟩ := id V152
        have hin154 : ¬ ((5 : Int32) < 0 ∨ cl154.slots.size ≤ ((5 : Int32)).toNatClampNeg) := inb_of S154 ⟨by decide, by decide⟩
        obtain ⟨T154, h154, X154, e154, W154, st154⟩ := stR X153 hx hZ e153 Ar154 (j := (5 : Int32)) hin154 rfl (Sto.ofV Ar154 q154 O142 (Ins.self ((((((((((((P12.keep Kq136).ext E137).keep Kq138).keep Kq139).ext E140).keep Kq141).ext E142).wr W144).wr W146).wr W148).wr W150).wr W152))) (g := (mkF m 139 #[.val (.int p1), .val (.int p2), .val (.int p3), .val (.int (1 : Int32)), .val (.int (1 : Int32)), .val (.int (1 : Int32)), .val (.ref b_136), .val (.ref b137), .val (.ref b140), .unset, .unset, .unset] [(.ref r_UPDATED), (.int (5 : Int32)), (.ref b142), (.ref b142)])) rfl rfl (hb hby at_139)
        have V154 : Arv Z h154 b142 k142 (.object "com/example/measured_cache/measuredcache/cache/Change") (8 : Int32) [(.ref r_NONE), (.ref r_REMOVED), (.ref r_NONE), (.ref r_EXPIRED), (.ref r_CREATED), (.ref r_UPDATED), .null, .null] .null := Arv.set Ar154 q154 S154 M154 H154 G154 rfl W154 5 rfl (Nat.le_of_ble_eq_true rfl)
        have Nf154 := Fr.snoc X154 Nf152 g_b142
        have K154 : Keep h0 h154 [] := K152.wr W154 (Or.inr sz_b142)
        have Z154 : n0 ≤ h154.size := Nat.le_trans Z152 (Keep.of_wr W154).1
        refine own_fw (A' := (T154.setTop (mkF m 140 #[.val (.int p1), .val (.int p2), .val (.int p3), .val (.int (1 : Int32)), .val (.int (1 : Int32)), .val (.int (1 : Int32)), .val (.ref b_136), .val (.ref b137), .val (.ref b140), .unset, .unset, .unset] [(.ref b142)]))) (fun t k => st154 _ k) ?_
        refine own_fw (A' := (T154.setTop (mkF m 141 #[.val (.int p1), .val (.int p2), .val (.int p3), .val (.int (1 : Int32)), .val (.int (1 : Int32)), .val (.int (1 : Int32)), .val (.ref b_136), .val (.ref b137), .val (.ref b140), .unset, .unset, .unset] [(.ref b142), (.ref b142)]))) (fun t k => XS.dup X154.here hx rfl (hb hby at_140) rfl rfl k) ?_
        refine own_fw (A' := (T154.setTop (mkF m 143 #[.val (.int p1), .val (.int p2), .val (.int p3), .val (.int (1 : Int32)), .val (.int (1 : Int32)), .val (.int (1 : Int32)), .val (.ref b_136), .val (.ref b137), .val (.ref b140), .unset, .unset, .unset] [(.int (6 : Int32)), (.ref b142), (.ref b142)]))) (fun t k => XS.bipush X154.here hx rfl (hb hby at_141) k) ?_
        obtain ⟨T155, X155, e155, st155⟩ := getS2 X154 hx hZ hown (host := "") (Or.inl (hw _ (List.mem_of_getElem? (i := 10) rfl))) Via.refl e154 ((((((((own_staKeep ((own_staKeep (own_staKeep ((own_staKeep P9 Kq136 all0).ext E137) Kq138 all0) Kq139 (allS (own_plainE (A137.keep Kq138)) all0)).ext E140) Kq141 (allS (own_plainE A140) all0)).ext E142).wr W144).wr W146).wr W148).wr W150).wr W152).wr W154) (g := (mkF m 143 #[.val (.int p1), .val (.int p2), .val (.int p3), .val (.int (1 : Int32)), .val (.int (1 : Int32)), .val (.int (1 : Int32)), .val (.ref b_136), .val (.ref b137), .val (.ref b140), .unset, .unset, .unset] [(.int (6 : Int32)), (.ref b142), (.ref b142)])) rfl (hb hby at_143)
        refine own_fw (A' := (T155.setTop (mkF m 146 #[.val (.int p1), .val (.int p2), .val (.int p3), .val (.int (1 : Int32)), .val (.int (1 : Int32)), .val (.int (1 : Int32)), .val (.ref b_136), .val (.ref b137), .val (.ref b140), .unset, .unset, .unset] [(.ref r_CREATED), (.int (6 : Int32)), (.ref b142), (.ref b142)]))) (fun t k => st155 _ k) ?_
        obtain ⟨cl156, Ar156, q156, S156, M156, H156, G156⟩ := id V154
        have hin156 : ¬ ((6 : Int32) < 0 ∨ cl156.slots.size ≤ ((6 : Int32)).toNatClampNeg) := inb_of S156 ⟨by decide, by decide⟩
        obtain ⟨T156, h156, X156, e156, W156, st156⟩ := stR X155 hx hZ e155 Ar156 (j := (6 : Int32)) hin156 rfl (Sto.ofV Ar156 q156 O142 (Ins.self (((((((((((((P10.keep Kq136).ext E137).keep Kq138).keep Kq139).ext E140).keep Kq141).ext E142).wr W144).wr W146).wr W148).wr W150).wr W152).wr W154))) (g := (mkF m 146 #[.val (.int p1), .val (.int p2), .val (.int p3), .val (.int (1 : Int32)), .val (.int (1 : Int32)), .val (.int (1 : Int32)), .val (.ref b_136), .val (.ref b137), .val (.ref b140), .unset, .unset, .unset] [(.ref r_CREATED), (.int (6 : Int32)), (.ref b142), (.ref b142)])) rfl rfl (hb hby at_146)
        have V156 : Arv Z h156 b142 k142 (.object "com/example/measured_cache/measuredcache/cache/Change") (8 : Int32) [(.ref r_NONE), (.ref r_REMOVED), (.ref r_NONE), (.ref r_EXPIRED), (.ref r_CREATED), (.ref r_UPDATED), (.ref r_CREATED), .null] .null := Arv.set Ar156 q156 S156 M156 H156 G156 rfl W156 6 rfl (Nat.le_of_ble_eq_true rfl)
        have F157 : own_Cache Z h156 ca "java/lang/Integer" := (own_cacheWr (own_cacheWr (own_cacheWr (own_cacheWr (own_cacheWr (own_cacheWr (own_cacheWr (own_cacheExt (own_cacheKeep (own_cacheExt (own_cacheKeep (own_cacheKeep (own_cacheExt (own_cacheKeep P2 Kq136 nin0) E137) Kq138 nin0) Kq139 (ninS ne_ca_b137 nin0)) E140) Kq141 (ninS ne_ca_b140 nin0)) E142) W144 ne_ca_b142) W146 ne_ca_b142) W148 ne_ca_b142) W150 ne_ca_b142) W152 ne_ca_b142) W154 ne_ca_b142) W156 ne_ca_b142)
        have Nf156 := Fr.snoc X156 Nf154 g_b142
        have K156 : Keep h0 h156 [] := K154.wr W156 (Or.inr sz_b142)
        have Z156 : n0 ≤ h156.size := Nat.le_trans Z154 (Keep.of_wr W156).1
        refine own_fw (A' := (T156.setTop (mkF m 147 #[.val (.int p1), .val (.int p2), .val (.int p3), .val (.int (1 : Int32)), .val (.int (1 : Int32)), .val (.int (1 : Int32)), .val (.ref b_136), .val (.ref b137), .val (.ref b140), .unset, .unset, .unset] [(.ref b142)]))) (fun t k => st156 _ k) ?_
        refine own_fw (A' := (T156.setTop (mkF m 148 #[.val (.int p1), .val (.int p2), .val (.int p3), .val (.int (1 : Int32)), .val (.int (1 : Int32)), .val (.int (1 : Int32)), .val (.ref b_136), .val (.ref b137), .val (.ref b140), .unset, .unset, .unset] [(.ref b142), (.ref b142)]))) (fun t k => XS.dup X156.here hx rfl (hb hby at_147) rfl rfl k) ?_
        refine own_fw (A' := (T156.setTop (mkF m 150 #[.val (.int p1), .val (.int p2), .val (.int p3), .val (.int (1 : Int32)), .val (.int (1 : Int32)), .val (.int (1 : Int32)), .val (.ref b_136), .val (.ref b137), .val (.ref b140), .unset, .unset, .unset] [(.int (7 : Int32)), (.ref b142), (.ref b142)]))) (fun t k => XS.bipush X156.here hx rfl (hb hby at_148) k) ?_
        obtain ⟨T158, X158, e158, st158⟩ := getS2 X156 hx hZ hown (host := "") (Or.inl (hw _ (List.mem_of_getElem? (i := 12) rfl))) Via.refl e156 (((((((((own_staKeep ((own_staKeep (own_staKeep ((own_staKeep P11 Kq136 all0).ext E137) Kq138 all0) Kq139 (allS (own_plainE (A137.keep Kq138)) all0)).ext E140) Kq141 (allS (own_plainE A140) all0)).ext E142).wr W144).wr W146).wr W148).wr W150).wr W152).wr W154).wr W156) (g := (mkF m 150 #[.val (.int p1), .val (.int p2), .val (.int p3), .val (.int (1 : Int32)), .val (.int (1 : Int32)), .val (.int (1 : Int32)), .val (.ref b_136), .val (.ref b137), .val (.ref b140), .unset, .unset, .unset] [(.int (7 : Int32)), (.ref b142), (.ref b142)])) rfl (hb hby at_150)
        refine own_fw (A' := (T158.setTop (mkF m 153 #[.val (.int p1), .val (.int p2), .val (.int p3), .val (.int (1 : Int32)), .val (.int (1 : Int32)), .val (.int (1 : Int32)), .val (.ref b_136), .val (.ref b137), .val (.ref b140), .unset, .unset, .unset] [(.ref r_UPDATED), (.int (7 : Int32)), (.ref b142), (.ref b142)]))) (fun t k => st158 _ k) ?_
        obtain ⟨cl159, Ar159, q159, S159, M159, H159, G159⟩ := id V156
        have hin159 : ¬ ((7 : Int32) < 0 ∨ cl159.slots.size ≤ ((7 : Int32)).toNatClampNeg) := inb_of S159 ⟨by decide, by decide⟩
        obtain ⟨T159, h159, X159, e159, W159, st159⟩ := stR X158 hx hZ e158 Ar159 (j := (7 : Int32)) hin159 rfl (Sto.ofV Ar159 q159 O142 (Ins.self ((((((((((((((P12.keep Kq136).ext E137).keep Kq138).keep Kq139).ext E140).keep Kq141).ext E142).wr W144).wr W146).wr W148).wr W150).wr W152).wr W154).wr W156))) (g := (mkF m 153 #[.val (.int p1), .val (.int p2), .val (.int p3), .val (.int (1 : Int32)), .val (.int (1 : Int32)), .val (.int (1 : Int32)), .val (.ref b_136), .val (.ref b137), .val (.ref b140), .unset, .unset, .unset] [(.ref r_UPDATED), (.int (7 : Int32)), (.ref b142), (.ref b142)])) rfl rfl (hb hby at_153)
        have V159 : Arv Z h159 b142 k142 (.object "com/example/measured_cache/measuredcache/cache/Change") (8 : Int32) [(.ref r_NONE), (.ref r_REMOVED), (.ref r_NONE), (.ref r_EXPIRED), (.ref r_CREATED), (.ref r_UPDATED), (.ref r_CREATED), (.ref r_UPDATED)] .null := Arv.set Ar159 q159 S159 M159 H159 G159 rfl W159 7 rfl (Nat.le_of_ble_eq_true rfl)
        have Nf159 := Fr.snoc X159 Nf156 g_b142
        have K159 : Keep h0 h159 [] := K156.wr W159 (Or.inr sz_b142)
        have Z159 : n0 ≤ h159.size := Nat.le_trans Z156 (Keep.of_wr W159).1
        refine own_fw (A' := (T159.setTop (mkF m 154 #[.val (.int p1), .val (.int p2), .val (.int p3), .val (.int (1 : Int32)), .val (.int (1 : Int32)), .val (.int (1 : Int32)), .val (.ref b_136), .val (.ref b137), .val (.ref b140), .unset, .unset, .unset] [(.ref b142)]))) (fun t k => st159 _ k) ?_
        refine own_fw (A' := (T159.setTop (mkF m 156 #[.val (.int p1), .val (.int p2), .val (.int p3), .val (.int (1 : Int32)), .val (.int (1 : Int32)), .val (.int (1 : Int32)), .val (.ref b_136), .val (.ref b137), .val (.ref b140), .val (.ref b142), .unset, .unset] []))) (fun t k => XS.astore X159.here hx rfl (hb hby at_154) rfl rfl (l' := #[.val (.int p1), .val (.int p2), .val (.int p3), .val (.int (1 : Int32)), .val (.int (1 : Int32)), .val (.int (1 : Int32)), .val (.ref b_136), .val (.ref b137), .val (.ref b140), .val (.ref b142), .unset, .unset]) rfl k) ?_
        refine own_fw (A' := (T159.setTop (mkF m 158 #[.val (.int p1), .val (.int p2), .val (.int p3), .val (.int (1 : Int32)), .val (.int (1 : Int32)), .val (.int (1 : Int32)), .val (.ref b_136), .val (.ref b137), .val (.ref b140), .val (.ref b142), .unset, .unset] [(.ref b142)]))) (fun t k => XS.aload X159.here hx rfl (hb hby at_156) rfl rfl k) ?_
        refine own_fw (A' := (T159.setTop (mkF m 159 #[.val (.int p1), .val (.int p2), .val (.int p3), .val (.int (1 : Int32)), .val (.int (1 : Int32)), .val (.int (1 : Int32)), .val (.ref b_136), .val (.ref b137), .val (.ref b140), .val (.ref b142), .unset, .unset] [(.int p1), (.ref b142)]))) (fun t k => XS.iloadN X159.here hx rfl (hb hby at_158) rfl k) ?_
        refine own_fw (A' := (T159.setTop (mkF m 161 #[.val (.int p1), .val (.int p2), .val (.int p3), .val (.int (1 : Int32)), .val (.int (1 : Int32)), .val (.int (1 : Int32)), .val (.ref b_136), .val (.ref b137), .val (.ref b140), .val (.ref b142), .unset, .unset] [(.int (7 : Int32)), (.int p1), (.ref b142)]))) (fun t k => XS.bipush X159.here hx rfl (hb hby at_159) k) ?_
        refine own_fw (A' := (T159.setTop (mkF m 162 #[.val (.int p1), .val (.int p2), .val (.int p3), .val (.int (1 : Int32)), .val (.int (1 : Int32)), .val (.int (1 : Int32)), .val (.ref b_136), .val (.ref b137), .val (.ref b140), .val (.ref b142), .unset, .unset] [(.int (p1 &&& (7 : Int32))), (.ref b142)]))) (fun t k => XS.iand X159.here hx rfl (hb hby at_161) rfl k) ?_
        rw [own_ix p1 (5 : Int32) false false true (decide_eq_false hc1) (decide_eq_false hc88) (decide_eq_true hc135) (by decide)]
        obtain ⟨cl160, Ar160, q160, S160, M160, H160, G160⟩ := id V159
        have hin160 : ¬ ((5 : Int32) < 0 ∨ cl160.slots.size ≤ ((5 : Int32)).toNatClampNeg) := inb_of S160 ⟨by decide, by decide⟩
        have hat160 : cl160.slots[((5 : Int32)).toNatClampNeg]? = some (.ref r_UPDATED) := H160.at hin160 rfl
        refine own_fw (A' := (T159.setTop (mkF m 163 #[.val (.int p1), .val (.int p2), .val (.int p3), .val (.int (1 : Int32)), .val (.int (1 : Int32)), .val (.int (1 : Int32)), .val (.ref b_136), .val (.ref b137), .val (.ref b140), .val (.ref b142), .unset, .unset] [(.ref r_UPDATED)]))) (fun t k => X159.aaload hx (j := (5 : Int32)) (v := (.ref r_UPDATED)) (by rw [e159]; exact Ar160.1) (State.isArrayOf_alike hZ.alike Ar160.2.1) rfl Ar160.2.2 hin160 hat160 (g := (mkF m 162 #[.val (.int p1), .val (.int p2), .val (.int p3), .val (.int (1 : Int32)), .val (.int (1 : Int32)), .val (.int (1 : Int32)), .val (.ref b_136), .val (.ref b137), .val (.ref b140), .val (.ref b142), .unset, .unset] [(.int (5 : Int32)), (.ref b142)])) rfl rfl (hb hby at_162) _ k) ?_
        refine own_fw (A' := (T159.setTop (mkF m 165 #[.val (.int p1), .val (.int p2), .val (.int p3), .val (.int (1 : Int32)), .val (.int (1 : Int32)), .val (.int (1 : Int32)), .val (.ref b_136), .val (.ref b137), .val (.ref b140), .val (.ref b142), .val (.ref r_UPDATED), .unset] []))) (fun t k => XS.astore X159.here hx rfl (hb hby at_163) rfl rfl (l' := #[.val (.int p1), .val (.int p2), .val (.int p3), .val (.int (1 : Int32)), .val (.int (1 : Int32)), .val (.int (1 : Int32)), .val (.ref b_136), .val (.ref b137), .val (.ref b140), .val (.ref b142), .val (.ref r_UPDATED), .unset]) rfl k) ?_
        refine own_fw (A' := (T159.setTop (mkF m 167 #[.val (.int p1), .val (.int p2), .val (.int p3), .val (.int (1 : Int32)), .val (.int (1 : Int32)), .val (.int (1 : Int32)), .val (.ref b_136), .val (.ref b137), .val (.ref b140), .val (.ref b142), .val (.ref r_UPDATED), .unset] [(.ref b137)]))) (fun t k => XS.aload X159.here hx rfl (hb hby at_165) rfl rfl k) ?_
        refine own_fw (A' := (T159.setTop (mkF m 169 #[.val (.int p1), .val (.int p2), .val (.int p3), .val (.int (1 : Int32)), .val (.int (1 : Int32)), .val (.int (1 : Int32)), .val (.ref b_136), .val (.ref b137), .val (.ref b140), .val (.ref b142), .val (.ref r_UPDATED), .unset] [(.ref b_136), (.ref b137)]))) (fun t k => XS.aload X159.here hx rfl (hb hby at_167) rfl rfl k) ?_
        refine own_fw (A' := (T159.setTop (mkF m 171 #[.val (.int p1), .val (.int p2), .val (.int p3), .val (.int (1 : Int32)), .val (.int (1 : Int32)), .val (.int (1 : Int32)), .val (.ref b_136), .val (.ref b137), .val (.ref b140), .val (.ref b142), .val (.ref r_UPDATED), .unset] [(.ref b140), (.ref b_136), (.ref b137)]))) (fun t k => XS.aload X159.here hx rfl (hb hby at_169) rfl rfl k) ?_
        obtain ⟨_, _, ⟨T161, L161, k161, n161⟩, -, X161, ⟨Lc161, hQ161, l161, y161, z161⟩, st161⟩ := Jvm.LawKit.callS X159 hx (y := (⟨"com/example/measured_cache/measuredcache/cache/Change", "of", "(Lcom/example/measured_cache/measuredcache/cache/EntryVersion;Ljava/lang/Object;Lcom/example/measured_cache/measuredcache/cache/EntryVersion;)Lcom/example/measured_cache/measuredcache/cache/Change;"⟩ : MethodName)) hown (mvT hZ (hw _ (List.mem_of_getElem? (i := 14) rfl))) (mvT hZ (hw _ (List.mem_of_getElem? (i := 15) rfl))) (mvT hZ (hw _ (List.mem_of_getElem? (i := 3) rfl))) (mvT hZ (hw _ (List.mem_of_getElem? (i := 16) rfl))) (by decide) (backOf (W := 0) (rmOf000 l Z a0 hw [] b137 b_136 b140 r_UPDATED h159 n0 Z159 ((((((((((own_staKeep ((own_staKeep (own_staKeep ((own_staKeep P11 Kq136 all0).ext E137) Kq138 all0) Kq139 (allS (own_plainE (A137.keep Kq138)) all0)).ext E140) Kq141 (allS (own_plainE A140) all0)).ext E142).wr W144).wr W146).wr W148).wr W150).wr W152).wr W154).wr W156).wr W159)) hZ (hw _ (List.mem_of_getElem? (i := 16) rfl)) (hw _ (List.mem_of_getElem? (i := 3) rfl)) (by decide) (by decide)) (g := (mkF m 171 #[.val (.int p1), .val (.int p2), .val (.int p3), .val (.int (1 : Int32)), .val (.int (1 : Int32)), .val (.int (1 : Int32)), .val (.ref b_136), .val (.ref b137), .val (.ref b140), .val (.ref b142), .val (.ref r_UPDATED), .unset] [(.ref b140), (.ref b_136), (.ref b137)])) rfl (by rw [hml]; rfl) (argsL := [(.ref b137), (.ref b_136), (.ref b140)]) (rest := []) (lenOf pd__Lcom_example_measured_cache_measuredcache_cache_EntryVersion_Ljava_lang_Object_Lcom_example_measured_cache_measuredcache_cache_EntryVersion__Lcom_example_measured_cache_measuredcache_cache_Change_ rfl) rfl (by show 2 * 0 + _ ≤ _; exact Nat.le_of_eq rfl) (hb hby at_171) (fun _ _ => ⟨rfl, e159, (by decide : 5 + 0 ≤ _), (by decide : 12 + 0 ≤ _)⟩)
        dsimp only [Pt.U, Pt.locs, Pt.cells, Pt.slots] at X161 l161 y161 z161 st161 hQ161
        subst l161 y161 z161
        obtain ⟨rfl, Nq161, e161⟩ := hQ161
        have Nf161 := Fr.app Nf159 Nq161
        refine own_fw (A' := (T161.setTop (mkF m 174 #[.val (.int p1), .val (.int p2), .val (.int p3), .val (.int (1 : Int32)), .val (.int (1 : Int32)), .val (.int (1 : Int32)), .val (.ref b_136), .val (.ref b137), .val (.ref b140), .val (.ref b142), .val (.ref r_UPDATED), .unset] [(.ref r_UPDATED)]))) (fun t k => st161 _ k) ?_
        refine own_fw (A' := (T161.setTop (mkF m 176 #[.val (.int p1), .val (.int p2), .val (.int p3), .val (.int (1 : Int32)), .val (.int (1 : Int32)), .val (.int (1 : Int32)), .val (.ref b_136), .val (.ref b137), .val (.ref b140), .val (.ref b142), .val (.ref r_UPDATED), .val (.ref r_UPDATED)] []))) (fun t k => XS.astore X161.here hx rfl (hb hby at_174) rfl rfl (l' := #[.val (.int p1), .val (.int p2), .val (.int p3), .val (.int (1 : Int32)), .val (.int (1 : Int32)), .val (.int (1 : Int32)), .val (.ref b_136), .val (.ref b137), .val (.ref b140), .val (.ref b142), .val (.ref r_UPDATED), .val (.ref r_UPDATED)]) rfl k) ?_
        refine own_fw (A' := (T161.setTop (mkF m 178 #[.val (.int p1), .val (.int p2), .val (.int p3), .val (.int (1 : Int32)), .val (.int (1 : Int32)), .val (.int (1 : Int32)), .val (.ref b_136), .val (.ref b137), .val (.ref b140), .val (.ref b142), .val (.ref r_UPDATED), .val (.ref r_UPDATED)] [(.ref r_UPDATED)]))) (fun t k => XS.aload X161.here hx rfl (hb hby at_176) rfl rfl k) ?_
        refine own_fw (A' := (T161.setTop (mkF m 180 #[.val (.int p1), .val (.int p2), .val (.int p3), .val (.int (1 : Int32)), .val (.int (1 : Int32)), .val (.int (1 : Int32)), .val (.ref b_136), .val (.ref b137), .val (.ref b140), .val (.ref b142), .val (.ref r_UPDATED), .val (.ref r_UPDATED)] [(.ref r_UPDATED), (.ref r_UPDATED)]))) (fun t k => XS.aload X161.here hx rfl (hb hby at_178) rfl rfl k) ?_
        refine own_fw (A' := (T161.setTop (mkF m 183 #[.val (.int p1), .val (.int p2), .val (.int p3), .val (.int (1 : Int32)), .val (.int (1 : Int32)), .val (.int (1 : Int32)), .val (.ref b_136), .val (.ref b137), .val (.ref b140), .val (.ref b142), .val (.ref r_UPDATED), .val (.ref r_UPDATED)] []))) (fun t k => Jvm.RoadKit.acmp (g := (mkF m 180 #[.val (.int p1), .val (.int p2), .val (.int p3), .val (.int (1 : Int32)), .val (.int (1 : Int32)), .val (.int (1 : Int32)), .val (.ref b_136), .val (.ref b137), .val (.ref b140), .val (.ref b142), .val (.ref r_UPDATED), .val (.ref r_UPDATED)] [(.ref r_UPDATED), (.ref r_UPDATED)])) X161 hx rfl rfl rfl (pc0 := 180) (pc' := 183) (same := true) rfl (hb hby at_180) rfl (decide_eq_true rfl) (by decide) (by decide) k) ?_
        refine own_fw (A' := (T161.setTop (mkF m 184 #[.val (.int p1), .val (.int p2), .val (.int p3), .val (.int (1 : Int32)), .val (.int (1 : Int32)), .val (.int (1 : Int32)), .val (.ref b_136), .val (.ref b137), .val (.ref b140), .val (.ref b142), .val (.ref r_UPDATED), .val (.ref r_UPDATED)] [(.int (1 : Int32))]))) (fun t k => XS.iconst X161.here hx rfl (hb hby at_183) k) ?_
        refine own_fw (A' := (T161.setTop (mkF m 188 #[.val (.int p1), .val (.int p2), .val (.int p3), .val (.int (1 : Int32)), .val (.int (1 : Int32)), .val (.int (1 : Int32)), .val (.ref b_136), .val (.ref b137), .val (.ref b140), .val (.ref b142), .val (.ref r_UPDATED), .val (.ref r_UPDATED)] [(.int (1 : Int32))]))) (fun t k => XS.goto X161.here hx rfl (pc0 := 184) (pc' := 188) rfl (hb hby at_184) (by decide) (by decide) k) ?_
        obtain ⟨fs, hr, hrun, hended, hW, hsame⟩ := X161.leave (v := some (.int (1 : Int32))) (fun h => by rw [Bd.returns] at h; cases h)
        refine ⟨_, _, ?_, hrun, hended, _, _, rfl, ?_, ⟨_, rfl⟩, hW, hsame.mono (by decide) (by decide)⟩
        · exact retOut X161 hx Bd.returns rfl (Or.inl ⟨rfl, by simp, _, rfl⟩) (hb hby at_188) hr
        · show Q_rm0 Z p1 p2 p3 ca r_NONE r_REMOVED r_EXPIRED r_CREATED r_UPDATED h0 n0 _ T161.heap _
          rw [e161]
          exact ⟨rfl, Nf161⟩
      · refine own_fw (A' := (s₁.setTop (mkF m 36 #[.val (.int p1), .val (.int p2), .val (.int p3), .val (.int (1 : Int32)), .val (.int (1 : Int32)), .unset, .unset, .unset, .unset, .unset, .unset, .unset] []))) (fun t k => XS.ifYes X0.here hx rfl (pc0 := 28) (pc' := 36) rfl (hb hby at_28) rfl (XT.i0_ne_t hc135) (by decide) (by decide) k) ?_
        refine own_fw (A' := (s₁.setTop (mkF m 37 #[.val (.int p1), .val (.int p2), .val (.int p3), .val (.int (1 : Int32)), .val (.int (1 : Int32)), .unset, .unset, .unset, .unset, .unset, .unset, .unset] [(.int (1 : Int32))]))) (fun t k => XS.iconst X0.here hx rfl (hb hby at_36) k) ?_
        refine own_fw (A' := (s₁.setTop (mkF m 41 #[.val (.int p1), .val (.int p2), .val (.int p3), .val (.int (1 : Int32)), .val (.int (1 : Int32)), .unset, .unset, .unset, .unset, .unset, .unset, .unset] [(.int (1 : Int32))]))) (fun t k => XS.goto X0.here hx rfl (pc0 := 37) (pc' := 41) rfl (hb hby at_37) (by decide) (by decide) k) ?_
        refine own_fw (A' := (s₁.setTop (mkF m 43 #[.val (.int p1), .val (.int p2), .val (.int p3), .val (.int (1 : Int32)), .val (.int (1 : Int32)), .val (.int (1 : Int32)), .unset, .unset, .unset, .unset, .unset, .unset] []))) (fun t k => XS.istore X0.here hx rfl (hb hby at_41) rfl (l' := #[.val (.int p1), .val (.int p2), .val (.int p3), .val (.int (1 : Int32)), .val (.int (1 : Int32)), .val (.int (1 : Int32)), .unset, .unset, .unset, .unset, .unset, .unset]) rfl k) ?_
        refine own_fw (A' := (s₁.setTop (mkF m 45 #[.val (.int p1), .val (.int p2), .val (.int p3), .val (.int (1 : Int32)), .val (.int (1 : Int32)), .val (.int (1 : Int32)), .unset, .unset, .unset, .unset, .unset, .unset] [(.int (1 : Int32))]))) (fun t k => XS.iload X0.here hx rfl (hb hby at_43) rfl k) ?_
        refine own_fw (A' := (s₁.setTop (mkF m 48 #[.val (.int p1), .val (.int p2), .val (.int p3), .val (.int (1 : Int32)), .val (.int (1 : Int32)), .val (.int (1 : Int32)), .unset, .unset, .unset, .unset, .unset, .unset] []))) (fun t k => XS.ifNo X0.here hx rfl (hb hby at_45) rfl (XT.i0_eq_f (by decide)) k) ?_
        refine own_fw (A' := (s₁.setTop (mkF m 49 #[.val (.int p1), .val (.int p2), .val (.int p3), .val (.int (1 : Int32)), .val (.int (1 : Int32)), .val (.int (1 : Int32)), .unset, .unset, .unset, .unset, .unset, .unset] [(.int p3)]))) (fun t k => XS.iloadN X0.here hx rfl (hb hby at_48) rfl k) ?_
        obtain ⟨_, _, ⟨T162, L162, k162, n162⟩, -, X162, ⟨Lc162, hQ162, l162, y162, z162⟩, st162⟩ := Jvm.LawKit.callS X0 hx (y := (⟨"java/lang/Integer", "valueOf", "(I)Ljava/lang/Integer;"⟩ : MethodName)) hown (mvT hZ (hw _ (List.mem_of_getElem? (i := 21) rfl))) (mvT hZ (hw _ (List.mem_of_getElem? (i := 22) rfl))) (mvT hZ (hw _ (List.mem_of_getElem? (i := 23) rfl))) (mvT hZ (hw _ (List.mem_of_getElem? (i := 24) rfl))) (by decide) (backOf (W := 0) (rmIntOf l Z a0 hw [] p3 ca h0 n0 Z0 P0 P1 P2) hZ (hw _ (List.mem_of_getElem? (i := 24) rfl)) (hw _ (List.mem_of_getElem? (i := 23) rfl)) (by decide) (by decide)) (g := (mkF m 49 #[.val (.int p1), .val (.int p2), .val (.int p3), .val (.int (1 : Int32)), .val (.int (1 : Int32)), .val (.int (1 : Int32)), .unset, .unset, .unset, .unset, .unset, .unset] [(.int p3)])) rfl (by rw [hml]; rfl) (argsL := [(.int p3)]) (rest := []) (lenOf pd__I_Ljava_lang_Integer_ rfl) rfl (by show 2 * 0 + _ ≤ _; exact Nat.le_of_eq rfl) (hb hby at_49) (fun _ _ => ⟨rfl, e0, (by decide : 0 + 1 ≤ _), (by decide : 0 + 1 ≤ _)⟩)
        dsimp only [Pt.U, Pt.locs, Pt.cells, Pt.slots] at X162 l162 y162 z162 st162 hQ162
        subst l162 y162 z162
        obtain ⟨b_162, rfl, Nq162, Kq162, Fq162_0⟩ := hQ162
        have Nf162 := Fr.app N0 Nq162
        have K162 : Keep h0 T162.heap [] := (Keep.refl h0 []).trans Kq162 all0
        have Z162 : n0 ≤ T162.heap.size := Nat.le_trans Z0 Kq162.1
        refine own_fw (A' := (T162.setTop (mkF m 52 #[.val (.int p1), .val (.int p2), .val (.int p3), .val (.int (1 : Int32)), .val (.int (1 : Int32)), .val (.int (1 : Int32)), .unset, .unset, .unset, .unset, .unset, .unset] [(.ref b_162)]))) (fun t k => st162 _ k) ?_
        refine own_fw (A' := (T162.setTop (mkF m 56 #[.val (.int p1), .val (.int p2), .val (.int p3), .val (.int (1 : Int32)), .val (.int (1 : Int32)), .val (.int (1 : Int32)), .unset, .unset, .unset, .unset, .unset, .unset] [(.ref b_162)]))) (fun t k => XS.goto X162.here hx rfl (pc0 := 52) (pc' := 56) rfl (hb hby at_52) (by decide) (by decide) k) ?_
        refine own_fw (A' := (T162.setTop (mkF m 58 #[.val (.int p1), .val (.int p2), .val (.int p3), .val (.int (1 : Int32)), .val (.int (1 : Int32)), .val (.int (1 : Int32)), .val (.ref b_162), .unset, .unset, .unset, .unset, .unset] []))) (fun t k => XS.astore X162.here hx rfl (hb hby at_56) rfl rfl (l' := #[.val (.int p1), .val (.int p2), .val (.int p3), .val (.int (1 : Int32)), .val (.int (1 : Int32)), .val (.int (1 : Int32)), .val (.ref b_162), .unset, .unset, .unset, .unset, .unset]) rfl k) ?_
        refine own_fw (A' := (T162.setTop (mkF m 59 #[.val (.int p1), .val (.int p2), .val (.int p3), .val (.int (1 : Int32)), .val (.int (1 : Int32)), .val (.int (1 : Int32)), .val (.ref b_162), .unset, .unset, .unset, .unset, .unset] [(.int (1 : Int32))]))) (fun t k => XS.iloadN X162.here hx rfl (hb hby at_58) rfl k) ?_
        refine own_fw (A' := (T162.setTop (mkF m 62 #[.val (.int p1), .val (.int p2), .val (.int p3), .val (.int (1 : Int32)), .val (.int (1 : Int32)), .val (.int (1 : Int32)), .val (.ref b_162), .unset, .unset, .unset, .unset, .unset] []))) (fun t k => XS.ifNo X162.here hx rfl (hb hby at_59) rfl (XT.i0_eq_f (by decide)) k) ?_
        obtain ⟨T163, h163, X163, e163, E163, A163, D163, -, st163⟩ := newO X162 hx hZ hown (hw _ (List.mem_of_getElem? (i := 18) rfl)) (hw _ (List.mem_of_getElem? (i := 19) rfl)) (hw _ (List.mem_of_getElem? (i := 20) rfl)) rfl (g := (mkF m 62 #[.val (.int p1), .val (.int p2), .val (.int p3), .val (.int (1 : Int32)), .val (.int (1 : Int32)), .val (.int (1 : Int32)), .val (.ref b_162), .unset, .unset, .unset, .unset, .unset] [])) rfl (hb hby at_62) (by decide) (by decide)
        obtain ⟨b163, gb163⟩ : ∃ z, z = T162.heap.size := ⟨_, rfl⟩
        have g_b163 : n0 ≤ b163 := Nat.le_trans Z162 (Nat.le_of_eq gb163.symm)
        have sz_b163 : h0.size ≤ b163 := Nat.le_trans K162.1 (Nat.le_of_eq gb163.symm)
        have ne_ca_b163 : ca ≠ b163 := Nat.ne_of_lt (Nat.lt_of_lt_of_le (own_cacheLt (own_cacheKeep P2 Kq162 nin0)) (Nat.le_of_eq gb163.symm))
        have ne_r_NONE_b163 : r_NONE ≠ b163 := Nat.ne_of_lt (Nat.lt_of_lt_of_le (P4.keep Kq162).lt (Nat.le_of_eq gb163.symm))
        have ne_r_REMOVED_b163 : r_REMOVED ≠ b163 := Nat.ne_of_lt (Nat.lt_of_lt_of_le (P6.keep Kq162).lt (Nat.le_of_eq gb163.symm))
        have ne_r_EXPIRED_b163 : r_EXPIRED ≠ b163 := Nat.ne_of_lt (Nat.lt_of_lt_of_le (P8.keep Kq162).lt (Nat.le_of_eq gb163.symm))
        have ne_r_CREATED_b163 : r_CREATED ≠ b163 := Nat.ne_of_lt (Nat.lt_of_lt_of_le (P10.keep Kq162).lt (Nat.le_of_eq gb163.symm))
        have ne_r_UPDATED_b163 : r_UPDATED ≠ b163 := Nat.ne_of_lt (Nat.lt_of_lt_of_le (P12.keep Kq162).lt (Nat.le_of_eq gb163.symm))
        have ne_b_162_b163 : b_162 ≠ b163 := Nat.ne_of_lt (Nat.lt_of_lt_of_le Fq162_0.lt (Nat.le_of_eq gb163.symm))
        rw [← gb163] at A163 D163 st163
        have F_content_b163 : Fld Z h163 b163 "com/example/measured_cache/measuredcache/cache/EntryVersion" "content" "Ljava/lang/Object;" .null := D163 (Or.inl (hw _ (List.mem_of_getElem? (i := 35) rfl))) (ty := (.object "java/lang/Object")) (by decide)
        have K163 : Keep h0 h163 [] := K162.ext E163
        have Z163 : n0 ≤ h163.size := Nat.le_trans Z162 E163.1
        refine own_fw (A' := (T163.setTop (mkF m 65 #[.val (.int p1), .val (.int p2), .val (.int p3), .val (.int (1 : Int32)), .val (.int (1 : Int32)), .val (.int (1 : Int32)), .val (.ref b_162), .unset, .unset, .unset, .unset, .unset] [(.ref b163)]))) (fun t k => st163 _ k) ?_
        refine own_fw (A' := (T163.setTop (mkF m 66 #[.val (.int p1), .val (.int p2), .val (.int p3), .val (.int (1 : Int32)), .val (.int (1 : Int32)), .val (.int (1 : Int32)), .val (.ref b_162), .unset, .unset, .unset, .unset, .unset] [(.ref b163), (.ref b163)]))) (fun t k => XS.dup X163.here hx rfl (hb hby at_65) rfl rfl k) ?_
        refine own_fw (A' := (T163.setTop (mkF m 67 #[.val (.int p1), .val (.int p2), .val (.int p3), .val (.int (1 : Int32)), .val (.int (1 : Int32)), .val (.int (1 : Int32)), .val (.ref b_162), .unset, .unset, .unset, .unset, .unset] [(.int p2), (.ref b163), (.ref b163)]))) (fun t k => XS.iloadN X163.here hx rfl (hb hby at_66) rfl k) ?_
        obtain ⟨_, _, ⟨T164, L164, k164, n164⟩, -, X164, ⟨Lc164, hQ164, l164, y164, z164⟩, st164⟩ := Jvm.LawKit.callS X163 hx (y := (⟨"java/lang/Integer", "valueOf", "(I)Ljava/lang/Integer;"⟩ : MethodName)) hown (mvT hZ (hw _ (List.mem_of_getElem? (i := 21) rfl))) (mvT hZ (hw _ (List.mem_of_getElem? (i := 22) rfl))) (mvT hZ (hw _ (List.mem_of_getElem? (i := 23) rfl))) (mvT hZ (hw _ (List.mem_of_getElem? (i := 24) rfl))) (by decide) (backOf (W := 2) (rmIntOf l Z a0 hw [] p2 ca h163 n0 Z163 ((own_staKeep P0 Kq162 all0).ext E163) ((own_staKeep P1 Kq162 all0).ext E163) (own_cacheExt (own_cacheKeep P2 Kq162 nin0) E163)) hZ (hw _ (List.mem_of_getElem? (i := 24) rfl)) (hw _ (List.mem_of_getElem? (i := 23) rfl)) (by decide) (by decide)) (g := (mkF m 67 #[.val (.int p1), .val (.int p2), .val (.int p3), .val (.int (1 : Int32)), .val (.int (1 : Int32)), .val (.int (1 : Int32)), .val (.ref b_162), .unset, .unset, .unset, .unset, .unset] [(.int p2), (.ref b163), (.ref b163)])) rfl (by rw [hml]; rfl) (argsL := [(.int p2)]) (rest := [(.ref b163), (.ref b163)]) (lenOf pd__I_Ljava_lang_Integer_ rfl) rfl (by show 2 * 0 + _ ≤ _; exact Nat.le_of_eq rfl) (hb hby at_67) (fun _ _ => ⟨rfl, e163, (by decide : 2 + 1 ≤ _), (by decide : 2 + 1 ≤ _)⟩)
        dsimp only [Pt.U, Pt.locs, Pt.cells, Pt.slots] at X164 l164 y164 z164 st164 hQ164
        subst l164 y164 z164
        obtain ⟨b_164, rfl, Nq164, Kq164, Fq164_0⟩ := hQ164
        have Nf164 := Fr.app Nf162 Nq164
        have K164 : Keep h0 T164.heap [] := K163.trans Kq164 all0
        have Z164 : n0 ≤ T164.heap.size := Nat.le_trans Z163 Kq164.1
        refine own_fw (A' := (T164.setTop (mkF m 70 #[.val (.int p1), .val (.int p2), .val (.int p3), .val (.int (1 : Int32)), .val (.int (1 : Int32)), .val (.int (1 : Int32)), .val (.ref b_162), .unset, .unset, .unset, .unset, .unset] [(.ref b_164), (.ref b163), (.ref b163)]))) (fun t k => st164 _ k) ?_
        obtain ⟨_, _, ⟨T165, L165, k165, n165⟩, -, X165, ⟨Lc165, hQ165, l165, y165, z165⟩, st165⟩ := X164.specialBack hx (y := (⟨"com/example/measured_cache/measuredcache/cache/EntryVersion", "<init>", "(Ljava/lang/Object;)V"⟩ : MethodName)) rfl hown (mvT hZ (hw _ (List.mem_of_getElem? (i := 28) rfl))) (mvT hZ (hw _ (List.mem_of_getElem? (i := 29) rfl))) (mvT hZ (hw _ (List.mem_of_getElem? (i := 30) rfl))) (by decide) (backOf (W := 1) (rmEv l Z a0 hw [] b163 b_164 T164.heap n0 Z164 (A163.keep Kq164) (F_content_b163.keep Kq164 nin0) g_b163) hZ (hw _ (List.mem_of_getElem? (i := 30) rfl)) (hw _ (List.mem_of_getElem? (i := 20) rfl)) (by decide) (by decide)) (g := (mkF m 70 #[.val (.int p1), .val (.int p2), .val (.int p3), .val (.int (1 : Int32)), .val (.int (1 : Int32)), .val (.int (1 : Int32)), .val (.ref b_162), .unset, .unset, .unset, .unset, .unset] [(.ref b_164), (.ref b163), (.ref b163)])) rfl (by rw [hml]; rfl) (Steps.refl _) (a := b163) (argsL := [(.ref b_164)]) (rest := [(.ref b163)]) (lenOf pd__Ljava_lang_Object__V rfl) rfl (by show 2 * 0 + _ ≤ _; exact Nat.le_of_eq rfl) (hb hby at_70) (fun _ _ => ⟨rfl, rfl, (by decide : 3 + 0 ≤ _), (by decide : 3 + 0 ≤ _)⟩)
        dsimp only [Pt.U, Pt.locs, Pt.cells, Pt.slots] at X165 l165 y165 z165 st165 hQ165
        subst l165 y165 z165
        obtain ⟨rfl, Nq165, Kq165, Fq165_0⟩ := hQ165
        have Nf165 := Fr.app Nf164 Nq165
        have K165 : Keep h0 T165.heap [] := K164.trans Kq165 (allS (Or.inr sz_b163) all0)
        have Z165 : n0 ≤ T165.heap.size := Nat.le_trans Z164 Kq165.1
        refine own_fw (A' := (T165.setTop (mkF m 73 #[.val (.int p1), .val (.int p2), .val (.int p3), .val (.int (1 : Int32)), .val (.int (1 : Int32)), .val (.int (1 : Int32)), .val (.ref b_162), .unset, .unset, .unset, .unset, .unset] [(.ref b163)]))) (fun t k => st165.trans k) ?_
        refine own_fw (A' := (T165.setTop (mkF m 77 #[.val (.int p1), .val (.int p2), .val (.int p3), .val (.int (1 : Int32)), .val (.int (1 : Int32)), .val (.int (1 : Int32)), .val (.ref b_162), .unset, .unset, .unset, .unset, .unset] [(.ref b163)]))) (fun t k => XS.goto X165.here hx rfl (pc0 := 73) (pc' := 77) rfl (hb hby at_73) (by decide) (by decide) k) ?_
        refine own_fw (A' := (T165.setTop (mkF m 79 #[.val (.int p1), .val (.int p2), .val (.int p3), .val (.int (1 : Int32)), .val (.int (1 : Int32)), .val (.int (1 : Int32)), .val (.ref b_162), .val (.ref b163), .unset, .unset, .unset, .unset] []))) (fun t k => XS.astore X165.here hx rfl (hb hby at_77) rfl rfl (l' := #[.val (.int p1), .val (.int p2), .val (.int p3), .val (.int (1 : Int32)), .val (.int (1 : Int32)), .val (.int (1 : Int32)), .val (.ref b_162), .val (.ref b163), .unset, .unset, .unset, .unset]) rfl k) ?_
        refine own_fw (A' := (T165.setTop (mkF m 81 #[.val (.int p1), .val (.int p2), .val (.int p3), .val (.int (1 : Int32)), .val (.int (1 : Int32)), .val (.int (1 : Int32)), .val (.ref b_162), .val (.ref b163), .unset, .unset, .unset, .unset] [(.int (1 : Int32))]))) (fun t k => XS.iload X165.here hx rfl (hb hby at_79) rfl k) ?_
        refine own_fw (A' := (T165.setTop (mkF m 84 #[.val (.int p1), .val (.int p2), .val (.int p3), .val (.int (1 : Int32)), .val (.int (1 : Int32)), .val (.int (1 : Int32)), .val (.ref b_162), .val (.ref b163), .unset, .unset, .unset, .unset] []))) (fun t k => XS.ifNo X165.here hx rfl (hb hby at_81) rfl (XT.i0_eq_f (by decide)) k) ?_
        obtain ⟨T166, h166, X166, e166, E166, A166, D166, -, st166⟩ := newO X165 hx hZ hown (hw _ (List.mem_of_getElem? (i := 18) rfl)) (hw _ (List.mem_of_getElem? (i := 19) rfl)) (hw _ (List.mem_of_getElem? (i := 20) rfl)) rfl (g := (mkF m 84 #[.val (.int p1), .val (.int p2), .val (.int p3), .val (.int (1 : Int32)), .val (.int (1 : Int32)), .val (.int (1 : Int32)), .val (.ref b_162), .val (.ref b163), .unset, .unset, .unset, .unset] [])) rfl (hb hby at_84) (by decide) (by decide)
        obtain ⟨b166, gb166⟩ : ∃ z, z = T165.heap.size := ⟨_, rfl⟩
        have g_b166 : n0 ≤ b166 := Nat.le_trans Z165 (Nat.le_of_eq gb166.symm)
        have sz_b166 : h0.size ≤ b166 := Nat.le_trans K165.1 (Nat.le_of_eq gb166.symm)
        have ne_ca_b166 : ca ≠ b166 := Nat.ne_of_lt (Nat.lt_of_lt_of_le (own_cacheLt (own_cacheKeep (own_cacheKeep (own_cacheExt (own_cacheKeep P2 Kq162 nin0) E163) Kq164 nin0) Kq165 (ninS ne_ca_b163 nin0))) (Nat.le_of_eq gb166.symm))
        have ne_r_NONE_b166 : r_NONE ≠ b166 := Nat.ne_of_lt (Nat.lt_of_lt_of_le ((((P4.keep Kq162).ext E163).keep Kq164).keep Kq165).lt (Nat.le_of_eq gb166.symm))
        have ne_r_REMOVED_b166 : r_REMOVED ≠ b166 := Nat.ne_of_lt (Nat.lt_of_lt_of_le ((((P6.keep Kq162).ext E163).keep Kq164).keep Kq165).lt (Nat.le_of_eq gb166.symm))
        have ne_r_EXPIRED_b166 : r_EXPIRED ≠ b166 := Nat.ne_of_lt (Nat.lt_of_lt_of_le ((((P8.keep Kq162).ext E163).keep Kq164).keep Kq165).lt (Nat.le_of_eq gb166.symm))
        have ne_r_CREATED_b166 : r_CREATED ≠ b166 := Nat.ne_of_lt (Nat.lt_of_lt_of_le ((((P10.keep Kq162).ext E163).keep Kq164).keep Kq165).lt (Nat.le_of_eq gb166.symm))
        have ne_r_UPDATED_b166 : r_UPDATED ≠ b166 := Nat.ne_of_lt (Nat.lt_of_lt_of_le ((((P12.keep Kq162).ext E163).keep Kq164).keep Kq165).lt (Nat.le_of_eq gb166.symm))
        have ne_b_162_b166 : b_162 ≠ b166 := Nat.ne_of_lt (Nat.lt_of_lt_of_le (((Fq162_0.ext E163).keep Kq164).keep Kq165).lt (Nat.le_of_eq gb166.symm))
        have ne_b163_b166 : b163 ≠ b166 := Nat.ne_of_lt (Nat.lt_of_lt_of_le Fq165_0.lt (Nat.le_of_eq gb166.symm))
        have ne_b_164_b166 : b_164 ≠ b166 := Nat.ne_of_lt (Nat.lt_of_lt_of_le (Fq164_0.keep Kq165).lt (Nat.le_of_eq gb166.symm))
        rw [← gb166] at A166 D166 st166
        have F_content_b166 : Fld Z h166 b166 "com/example/measured_cache/measuredcache/cache/EntryVersion" "content" "Ljava/lang/Object;" .null := D166 (Or.inl (hw _ (List.mem_of_getElem? (i := 35) rfl))) (ty := (.object "java/lang/Object")) (by decide)
        have K166 : Keep h0 h166 [] := K165.ext E166
        have Z166 : n0 ≤ h166.size := Nat.le_trans Z165 E166.1
        refine own_fw (A' := (T166.setTop (mkF m 87 #[.val (.int p1), .val (.int p2), .val (.int p3), .val (.int (1 : Int32)), .val (.int (1 : Int32)), .val (.int (1 : Int32)), .val (.ref b_162), .val (.ref b163), .unset, .unset, .unset, .unset] [(.ref b166)]))) (fun t k => st166 _ k) ?_
        refine own_fw (A' := (T166.setTop (mkF m 88 #[.val (.int p1), .val (.int p2), .val (.int p3), .val (.int (1 : Int32)), .val (.int (1 : Int32)), .val (.int (1 : Int32)), .val (.ref b_162), .val (.ref b163), .unset, .unset, .unset, .unset] [(.ref b166), (.ref b166)]))) (fun t k => XS.dup X166.here hx rfl (hb hby at_87) rfl rfl k) ?_
        refine own_fw (A' := (T166.setTop (mkF m 90 #[.val (.int p1), .val (.int p2), .val (.int p3), .val (.int (1 : Int32)), .val (.int (1 : Int32)), .val (.int (1 : Int32)), .val (.ref b_162), .val (.ref b163), .unset, .unset, .unset, .unset] [(.ref b_162), (.ref b166), (.ref b166)]))) (fun t k => XS.aload X166.here hx rfl (hb hby at_88) rfl rfl k) ?_
        obtain ⟨_, _, ⟨T167, L167, k167, n167⟩, -, X167, ⟨Lc167, hQ167, l167, y167, z167⟩, st167⟩ := X166.specialBack hx (y := (⟨"com/example/measured_cache/measuredcache/cache/EntryVersion", "<init>", "(Ljava/lang/Object;)V"⟩ : MethodName)) rfl hown (mvT hZ (hw _ (List.mem_of_getElem? (i := 28) rfl))) (mvT hZ (hw _ (List.mem_of_getElem? (i := 29) rfl))) (mvT hZ (hw _ (List.mem_of_getElem? (i := 30) rfl))) (by decide) (backOf (W := 1) (rmEv l Z a0 hw [] b166 b_162 h166 n0 Z166 A166 F_content_b166 g_b166) hZ (hw _ (List.mem_of_getElem? (i := 30) rfl)) (hw _ (List.mem_of_getElem? (i := 20) rfl)) (by decide) (by decide)) (g := (mkF m 90 #[.val (.int p1), .val (.int p2), .val (.int p3), .val (.int (1 : Int32)), .val (.int (1 : Int32)), .val (.int (1 : Int32)), .val (.ref b_162), .val (.ref b163), .unset, .unset, .unset, .unset] [(.ref b_162), (.ref b166), (.ref b166)])) rfl (by rw [hml]; rfl) (Steps.refl _) (a := b166) (argsL := [(.ref b_162)]) (rest := [(.ref b166)]) (lenOf pd__Ljava_lang_Object__V rfl) rfl (by show 2 * 0 + _ ≤ _; exact Nat.le_of_eq rfl) (hb hby at_90) (fun _ _ => ⟨rfl, e166, (by decide : 4 + 0 ≤ _), (by decide : 4 + 0 ≤ _)⟩)
        dsimp only [Pt.U, Pt.locs, Pt.cells, Pt.slots] at X167 l167 y167 z167 st167 hQ167
        subst l167 y167 z167
        obtain ⟨rfl, Nq167, Kq167, Fq167_0⟩ := hQ167
        have Nf167 := Fr.app Nf165 Nq167
        have K167 : Keep h0 T167.heap [] := K166.trans Kq167 (allS (Or.inr sz_b166) all0)
        have Z167 : n0 ≤ T167.heap.size := Nat.le_trans Z166 Kq167.1
        refine own_fw (A' := (T167.setTop (mkF m 93 #[.val (.int p1), .val (.int p2), .val (.int p3), .val (.int (1 : Int32)), .val (.int (1 : Int32)), .val (.int (1 : Int32)), .val (.ref b_162), .val (.ref b163), .unset, .unset, .unset, .unset] [(.ref b166)]))) (fun t k => st167.trans k) ?_
        refine own_fw (A' := (T167.setTop (mkF m 97 #[.val (.int p1), .val (.int p2), .val (.int p3), .val (.int (1 : Int32)), .val (.int (1 : Int32)), .val (.int (1 : Int32)), .val (.ref b_162), .val (.ref b163), .unset, .unset, .unset, .unset] [(.ref b166)]))) (fun t k => XS.goto X167.here hx rfl (pc0 := 93) (pc' := 97) rfl (hb hby at_93) (by decide) (by decide) k) ?_
        refine own_fw (A' := (T167.setTop (mkF m 99 #[.val (.int p1), .val (.int p2), .val (.int p3), .val (.int (1 : Int32)), .val (.int (1 : Int32)), .val (.int (1 : Int32)), .val (.ref b_162), .val (.ref b163), .val (.ref b166), .unset, .unset, .unset] []))) (fun t k => XS.astore X167.here hx rfl (hb hby at_97) rfl rfl (l' := #[.val (.int p1), .val (.int p2), .val (.int p3), .val (.int (1 : Int32)), .val (.int (1 : Int32)), .val (.int (1 : Int32)), .val (.ref b_162), .val (.ref b163), .val (.ref b166), .unset, .unset, .unset]) rfl k) ?_
        refine own_fw (A' := (T167.setTop (mkF m 101 #[.val (.int p1), .val (.int p2), .val (.int p3), .val (.int (1 : Int32)), .val (.int (1 : Int32)), .val (.int (1 : Int32)), .val (.ref b_162), .val (.ref b163), .val (.ref b166), .unset, .unset, .unset] [(.int (8 : Int32))]))) (fun t k => XS.bipush X167.here hx rfl (hb hby at_99) k) ?_
        obtain ⟨T168, h168, k168, X168, e168, E168, A168, O168, st168⟩ := newR X167 hx hZ hown (hw _ (List.mem_of_getElem? (i := 0) rfl)) (hw _ (List.mem_of_getElem? (i := 1) rfl)) rfl (g := (mkF m 101 #[.val (.int p1), .val (.int p2), .val (.int p3), .val (.int (1 : Int32)), .val (.int (1 : Int32)), .val (.int (1 : Int32)), .val (.ref b_162), .val (.ref b163), .val (.ref b166), .unset, .unset, .unset] [(.int (8 : Int32))])) rfl (hb hby at_101) rfl (by decide) (cap := 8) (by decide) (by decide) (by decide) (by decide)
        obtain ⟨b168, gb168⟩ : ∃ z, z = T167.heap.size := ⟨_, rfl⟩
        have g_b168 : n0 ≤ b168 := Nat.le_trans Z167 (Nat.le_of_eq gb168.symm)
        have sz_b168 : h0.size ≤ b168 := Nat.le_trans K167.1 (Nat.le_of_eq gb168.symm)
        have ne_ca_b168 : ca ≠ b168 := Nat.ne_of_lt (Nat.lt_of_lt_of_le (own_cacheLt (own_cacheKeep (own_cacheExt (own_cacheKeep (own_cacheKeep (own_cacheExt (own_cacheKeep P2 Kq162 nin0) E163) Kq164 nin0) Kq165 (ninS ne_ca_b163 nin0)) E166) Kq167 (ninS ne_ca_b166 nin0))) (Nat.le_of_eq gb168.symm))
        have ne_r_NONE_b168 : r_NONE ≠ b168 := Nat.ne_of_lt (Nat.lt_of_lt_of_le ((((((P4.keep Kq162).ext E163).keep Kq164).keep Kq165).ext E166).keep Kq167).lt (Nat.le_of_eq gb168.symm))
        have ne_r_REMOVED_b168 : r_REMOVED ≠ b168 := Nat.ne_of_lt (Nat.lt_of_lt_of_le ((((((P6.keep Kq162).ext E163).keep Kq164).keep Kq165).ext E166).keep Kq167).lt (Nat.le_of_eq gb168.symm))
        have ne_r_EXPIRED_b168 : r_EXPIRED ≠ b168 := Nat.ne_of_lt (Nat.lt_of_lt_of_le ((((((P8.keep Kq162).ext E163).keep Kq164).keep Kq165).ext E166).keep Kq167).lt (Nat.le_of_eq gb168.symm))
        have ne_r_CREATED_b168 : r_CREATED ≠ b168 := Nat.ne_of_lt (Nat.lt_of_lt_of_le ((((((P10.keep Kq162).ext E163).keep Kq164).keep Kq165).ext E166).keep Kq167).lt (Nat.le_of_eq gb168.symm))
        have ne_r_UPDATED_b168 : r_UPDATED ≠ b168 := Nat.ne_of_lt (Nat.lt_of_lt_of_le ((((((P12.keep Kq162).ext E163).keep Kq164).keep Kq165).ext E166).keep Kq167).lt (Nat.le_of_eq gb168.symm))
        have ne_b_162_b168 : b_162 ≠ b168 := Nat.ne_of_lt (Nat.lt_of_lt_of_le (((((Fq162_0.ext E163).keep Kq164).keep Kq165).ext E166).keep Kq167).lt (Nat.le_of_eq gb168.symm))
        have ne_b163_b168 : b163 ≠ b168 := Nat.ne_of_lt (Nat.lt_of_lt_of_le ((Fq165_0.ext E166).keep Kq167).lt (Nat.le_of_eq gb168.symm))
        have ne_b_164_b168 : b_164 ≠ b168 := Nat.ne_of_lt (Nat.lt_of_lt_of_le (((Fq164_0.keep Kq165).ext E166).keep Kq167).lt (Nat.le_of_eq gb168.symm))
        have ne_b166_b168 : b166 ≠ b168 := Nat.ne_of_lt (Nat.lt_of_lt_of_le Fq167_0.lt (Nat.le_of_eq gb168.symm))
        rw [← gb168] at A168 st168
        have V_b168 : Arv Z h168 b168 k168 (.object "com/example/measured_cache/measuredcache/cache/Change") (8 : Int32) [.null, .null, .null, .null, .null, .null, .null, .null] .null := (Arv.new A168 (by decide)).pad (pad_rep [] .null 8)
        have K168 : Keep h0 h168 [] := K167.ext E168
        have Z168 : n0 ≤ h168.size := Nat.le_trans Z167 E168.1
        refine own_fw (A' := (T168.setTop (mkF m 104 #[.val (.int p1), .val (.int p2), .val (.int p3), .val (.int (1 : Int32)), .val (.int (1 : Int32)), .val (.int (1 : Int32)), .val (.ref b_162), .val (.ref b163), .val (.ref b166), .unset, .unset, .unset] [(.ref b168)]))) (fun t k => st168 _ k) ?_
        refine own_fw (A' := (T168.setTop (mkF m 105 #[.val (.int p1), .val (.int p2), .val (.int p3), .val (.int (1 : Int32)), .val (.int (1 : Int32)), .val (.int (1 : Int32)), .val (.ref b_162), .val (.ref b163), .val (.ref b166), .unset, .unset, .unset] [(.ref b168), (.ref b168)]))) (fun t k => XS.dup X168.here hx rfl (hb hby at_104) rfl rfl k) ?_
        refine own_fw (A' := (T168.setTop (mkF m 106 #[.val (.int p1), .val (.int p2), .val (.int p3), .val (.int (1 : Int32)), .val (.int (1 : Int32)), .val (.int (1 : Int32)), .val (.ref b_162), .val (.ref b163), .val (.ref b166), .unset, .unset, .unset] [(.int (0 : Int32)), (.ref b168), (.ref b168)]))) (fun t k => XS.iconst X168.here hx rfl (hb hby at_105) k) ?_
        obtain ⟨T169, X169, e169, st169⟩ := getS2 X168 hx hZ hown (host := "") (Or.inl (hw _ (List.mem_of_getElem? (i := 2) rfl))) Via.refl e168 ((own_staKeep ((own_staKeep (own_staKeep ((own_staKeep P3 Kq162 all0).ext E163) Kq164 all0) Kq165 (allS (own_plainE (A163.keep Kq164)) all0)).ext E166) Kq167 (allS (own_plainE A166) all0)).ext E168) (g := (mkF m 106 #[.val (.int p1), .val (.int p2), .val (.int p3), .val (.int (1 : Int32)), .val (.int (1 : Int32)), .val (.int (1 : Int32)), .val (.ref b_162), .val (.ref b163), .val (.ref b166), .unset, .unset, .unset] [(.int (0 : Int32)), (.ref b168), (.ref b168)])) rfl (hb hby at_106)
        refine own_fw (A' := (T169.setTop (mkF m 109 #[.val (.int p1), .val (.int p2), .val (.int p3), .val (.int (1 : Int32)), .val (.int (1 : Int32)), .val (.int (1 : Int32)), .val (.ref b_162), .val (.ref b163), .val (.ref b166), .unset, .unset, .unset] [(.ref r_NONE), (.int (0 : Int32)), (.ref b168), (.ref b168)]))) (fun t k => st169 _ k) ?_
        obtain ⟨cl170, Ar170, q170, S170, M170, H170, G170⟩ := id V_b168
        have hin170 : ¬ ((0 : Int32) < 0 ∨ cl170.slots.size ≤ ((0 : Int32)).toNatClampNeg) := inb_of S170 ⟨by decide, by decide⟩
        obtain ⟨T170, h170, X170, e170, W170, st170⟩ := stR X169 hx hZ e169 Ar170 (j := (0 : Int32)) hin170 rfl (Sto.ofV Ar170 q170 O168 (Ins.self (((((((P4.keep Kq162).ext E163).keep Kq164).keep Kq165).ext E166).keep Kq167).ext E168))) (g := (mkF m 109 #[.val (.int p1), .val (.int p2), .val (.int p3), .val (.int (1 : Int32)), .val (.int (1 : Int32)), .val (.int (1 : Int32)), .val (.ref b_162), .val (.ref b163), .val (.ref b166), .unset, .unset, .unset] [(.ref r_NONE), (.int (0 : Int32)), (.ref b168), (.ref b168)])) rfl rfl (hb hby at_109)
        have V170 : Arv Z h170 b168 k168 (.object "com/example/measured_cache/measuredcache/cache/Change") (8 : Int32) [(.ref r_NONE), .null, .null, .null, .null, .null, .null, .null] .null := Arv.set Ar170 q170 S170 M170 H170 G170 rfl W170 0 rfl (Nat.le_of_ble_eq_true rfl)
        have Nf170 := Fr.snoc X170 Nf167 g_b168
        have K170 : Keep h0 h170 [] := K168.wr W170 (Or.inr sz_b168)
        have Z170 : n0 ≤ h170.size := Nat.le_trans Z168 (Keep.of_wr W170).1
        refine own_fw (A' := (T170.setTop (mkF m 110 #[.val (.int p1), .val (.int p2), .val (.int p3), .val (.int (1 : Int32)), .val (.int (1 : Int32)), .val (.int (1 : Int32)), .val (.ref b_162), .val (.ref b163), .val (.ref b166), .unset, .unset, .unset] [(.ref b168)]))) (fun t k => st170 _ k) ?_
        refine own_fw (A' := (T170.setTop (mkF m 111 #[.val (.int p1), .val (.int p2), .val (.int p3), .val (.int (1 : Int32)), .val (.int (1 : Int32)), .val (.int (1 : Int32)), .val (.ref b_162), .val (.ref b163), .val (.ref b166), .unset, .unset, .unset] [(.ref b168), (.ref b168)]))) (fun t k => XS.dup X170.here hx rfl (hb hby at_110) rfl rfl k) ?_
        refine own_fw (A' := (T170.setTop (mkF m 112 #[.val (.int p1), .val (.int p2), .val (.int p3), .val (.int (1 : Int32)), .val (.int (1 : Int32)), .val (.int (1 : Int32)), .val (.ref b_162), .val (.ref b163), .val (.ref b166), .unset, .unset, .unset] [(.int (1 : Int32)), (.ref b168), (.ref b168)]))) (fun t k => XS.iconst X170.here hx rfl (hb hby at_111) k) ?_
        obtain ⟨T171, X171, e171, st171⟩ := getS2 X170 hx hZ hown (host := "") (Or.inl (hw _ (List.mem_of_getElem? (i := 6) rfl))) Via.refl e170 (((own_staKeep ((own_staKeep (own_staKeep ((own_staKeep P5 Kq162 all0).ext E163) Kq164 all0) Kq165 (allS (own_plainE (A163.keep Kq164)) all0)).ext E166) Kq167 (allS (own_plainE A166) all0)).ext E168).wr W170) (g := (mkF m 112 #[.val (.int p1), .val (.int p2), .val (.int p3), .val (.int (1 : Int32)), .val (.int (1 : Int32)), .val (.int (1 : Int32)), .val (.ref b_162), .val (.ref b163), .val (.ref b166), .unset, .unset, .unset] [(.int (1 : Int32)), (.ref b168), (.ref b168)])) rfl (hb hby at_112)
        refine own_fw (A' := (T171.setTop (mkF m 115 #[.val (.int p1), .val (.int p2), .val (.int p3), .val (.int (1 : Int32)), .val (.int (1 : Int32)), .val (.int (1 : Int32)), .val (.ref b_162), .val (.ref b163), .val (.ref b166), .unset, .unset, .unset] [(.ref r_REMOVED), (.int (1 : Int32)), (.ref b168), (.ref b168)]))) (fun t k => st171 _ k) ?_
        obtain ⟨cl172, Ar172, q172, S172, M172, H172, G172⟩ := id V170
        have hin172 : ¬ ((1 : Int32) < 0 ∨ cl172.slots.size ≤ ((1 : Int32)).toNatClampNeg) := inb_of S172 ⟨by decide, by decide⟩
        obtain ⟨T172, h172, X172, e172, W172, st172⟩ := stR X171 hx hZ e171 Ar172 (j := (1 : Int32)) hin172 rfl (Sto.ofV Ar172 q172 O168 (Ins.self ((((((((P6.keep Kq162).ext E163).keep Kq164).keep Kq165).ext E166).keep Kq167).ext E168).wr W170))) (g := (mkF m 115 #[.val (.int p1), .val (.int p2), .val (.int p3), .val (.int (1 : Int32)), .val (.int (1 : Int32)), .val (.int (1 : Int32)), .val (.ref b_162), .val (.ref b163), .val (.ref b166), .unset, .unset, .unset] [(.ref r_REMOVED), (.int (1 : Int32)), (.ref b168), (.ref b168)])) rfl rfl (hb hby at_115)
        have V172 : Arv Z h172 b168 k168 (.object "com/example/measured_cache/measuredcache/cache/Change") (8 : Int32) [(.ref r_NONE), (.ref r_REMOVED), .null, .null, .null, .null, .null, .null] .null := Arv.set Ar172 q172 S172 M172 H172 G172 rfl W172 1 rfl (Nat.le_of_ble_eq_true rfl)
        have Nf172 := Fr.snoc X172 Nf170 g_b168
        have K172 : Keep h0 h172 [] := K170.wr W172 (Or.inr sz_b168)
        have Z172 : n0 ≤ h172.size := Nat.le_trans Z170 (Keep.of_wr W172).1
        refine own_fw (A' := (T172.setTop (mkF m 116 #[.val (.int p1), .val (.int p2), .val (.int p3), .val (.int (1 : Int32)), .val (.int (1 : Int32)), .val (.int (1 : Int32)), .val (.ref b_162), .val (.ref b163), .val (.ref b166), .unset, .unset, .unset] [(.ref b168)]))) (fun t k => st172 _ k) ?_
        refine own_fw (A' := (T172.setTop (mkF m 117 #[.val (.int p1), .val (.int p2), .val (.int p3), .val (.int (1 : Int32)), .val (.int (1 : Int32)), .val (.int (1 : Int32)), .val (.ref b_162), .val (.ref b163), .val (.ref b166), .unset, .unset, .unset] [(.ref b168), (.ref b168)]))) (fun t k => XS.dup X172.here hx rfl (hb hby at_116) rfl rfl k) ?_
        refine own_fw (A' := (T172.setTop (mkF m 118 #[.val (.int p1), .val (.int p2), .val (.int p3), .val (.int (1 : Int32)), .val (.int (1 : Int32)), .val (.int (1 : Int32)), .val (.ref b_162), .val (.ref b163), .val (.ref b166), .unset, .unset, .unset] [(.int (2 : Int32)), (.ref b168), (.ref b168)]))) (fun t k => XS.iconst X172.here hx rfl (hb hby at_117) k) ?_
        obtain ⟨T173, X173, e173, st173⟩ := getS2 X172 hx hZ hown (host := "") (Or.inl (hw _ (List.mem_of_getElem? (i := 2) rfl))) Via.refl e172 ((((own_staKeep ((own_staKeep (own_staKeep ((own_staKeep P3 Kq162 all0).ext E163) Kq164 all0) Kq165 (allS (own_plainE (A163.keep Kq164)) all0)).ext E166) Kq167 (allS (own_plainE A166) all0)).ext E168).wr W170).wr W172) (g := (mkF m 118 #[.val (.int p1), .val (.int p2), .val (.int p3), .val (.int (1 : Int32)), .val (.int (1 : Int32)), .val (.int (1 : Int32)), .val (.ref b_162), .val (.ref b163), .val (.ref b166), .unset, .unset, .unset] [(.int (2 : Int32)), (.ref b168), (.ref b168)])) rfl (hb hby at_118)
        refine own_fw (A' := (T173.setTop (mkF m 121 #[.val (.int p1), .val (.int p2), .val (.int p3), .val (.int (1 : Int32)), .val (.int (1 : Int32)), .val (.int (1 : Int32)), .val (.ref b_162), .val (.ref b163), .val (.ref b166), .unset, .unset, .unset] [(.ref r_NONE), (.int (2 : Int32)), (.ref b168), (.ref b168)]))) (fun t k => st173 _ k) ?_
        obtain ⟨cl174, Ar174, q174, S174, M174, H174, G174⟩ := id V172
        have hin174 : ¬ ((2 : Int32) < 0 ∨ cl174.slots.size ≤ ((2 : Int32)).toNatClampNeg) := inb_of S174 ⟨by decide, by decide⟩
        obtain ⟨T174, h174, X174, e174, W174, st174⟩ := stR X173 hx hZ e173 Ar174 (j := (2 : Int32)) hin174 rfl (Sto.ofV Ar174 q174 O168 (Ins.self (((((((((P4.keep Kq162).ext E163).keep Kq164).keep Kq165).ext E166).keep Kq167).ext E168).wr W170).wr W172))) (g := (mkF m 121 #[.val (.int p1), .val (.int p2), .val (.int p3), .val (.int (1 : Int32)), .val (.int (1 : Int32)), .val (.int (1 : Int32)), .val (.ref b_162), .val (.ref b163), .val (.ref b166), .unset, .unset, .unset] [(.ref r_NONE), (.int (2 : Int32)), (.ref b168), (.ref b168)])) rfl rfl (hb hby at_121)
        have V174 : Arv Z h174 b168 k168 (.object "com/example/measured_cache/measuredcache/cache/Change") (8 : Int32) [(.ref r_NONE), (.ref r_REMOVED), (.ref r_NONE), .null, .null, .null, .null, .null] .null := Arv.set Ar174 q174 S174 M174 H174 G174 rfl W174 2 rfl (Nat.le_of_ble_eq_true rfl)
        have Nf174 := Fr.snoc X174 Nf172 g_b168
        have K174 : Keep h0 h174 [] := K172.wr W174 (Or.inr sz_b168)
        have Z174 : n0 ≤ h174.size := Nat.le_trans Z172 (Keep.of_wr W174).1
        refine own_fw (A' := (T174.setTop (mkF m 122 #[.val (.int p1), .val (.int p2), .val (.int p3), .val (.int (1 : Int32)), .val (.int (1 : Int32)), .val (.int (1 : Int32)), .val (.ref b_162), .val (.ref b163), .val (.ref b166), .unset, .unset, .unset] [(.ref b168)]))) (fun t k => st174 _ k) ?_
        refine own_fw (A' := (T174.setTop (mkF m 123 #[.val (.int p1), .val (.int p2), .val (.int p3), .val (.int (1 : Int32)), .val (.int (1 : Int32)), .val (.int (1 : Int32)), .val (.ref b_162), .val (.ref b163), .val (.ref b166), .unset, .unset, .unset] [(.ref b168), (.ref b168)]))) (fun t k => XS.dup X174.here hx rfl (hb hby at_122) rfl rfl k) ?_
        refine own_fw (A' := (T174.setTop (mkF m 124 #[.val (.int p1), .val (.int p2), .val (.int p3), .val (.int (1 : Int32)), .val (.int (1 : Int32)), .val (.int (1 : Int32)), .val (.ref b_162), .val (.ref b163), .val (.ref b166), .unset, .unset, .unset] [(.int (3 : Int32)), (.ref b168), (.ref b168)]))) (fun t k => XS.iconst X174.here hx rfl (hb hby at_123) k) ?_
        obtain ⟨T175, X175, e175, st175⟩ := getS2 X174 hx hZ hown (host := "") (Or.inl (hw _ (List.mem_of_getElem? (i := 8) rfl))) Via.refl e174 (((((own_staKeep ((own_staKeep (own_staKeep ((own_staKeep P7 Kq162 all0).ext E163) Kq164 all0) Kq165 (allS (own_plainE (A163.keep Kq164)) all0)).ext E166) Kq167 (allS (own_plainE A166) all0)).ext E168).wr W170).wr W172).wr W174) (g := (mkF m 124 #[.val (.int p1), .val (.int p2), .val (.int p3), .val (.int (1 : Int32)), .val (.int (1 : Int32)), .val (.int (1 : Int32)), .val (.ref b_162), .val (.ref b163), .val (.ref b166), .unset, .unset, .unset] [(.int (3 : Int32)), (.ref b168), (.ref b168)])) rfl (hb hby at_124)
        refine own_fw (A' := (T175.setTop (mkF m 127 #[.val (.int p1), .val (.int p2), .val (.int p3), .val (.int (1 : Int32)), .val (.int (1 : Int32)), .val (.int (1 : Int32)), .val (.ref b_162), .val (.ref b163), .val (.ref b166), .unset, .unset, .unset] [(.ref r_EXPIRED), (.int (3 : Int32)), (.ref b168), (.ref b168)]))) (fun t k => st175 _ k) ?_
        obtain ⟨cl176, Ar176, q176, S176, M176, H176, G176⟩ := id V174
        have hin176 : ¬ ((3 : Int32) < 0 ∨ cl176.slots.size ≤ ((3 : Int32)).toNatClampNeg) := inb_of S176 ⟨by decide, by decide⟩
        obtain ⟨T176, h176, X176, e176, W176, st176⟩ := stR X175 hx hZ e175 Ar176 (j := (3 : Int32)) hin176 rfl (Sto.ofV Ar176 q176 O168 (Ins.self ((((((((((P8.keep Kq162).ext E163).keep Kq164).keep Kq165).ext E166).keep Kq167).ext E168).wr W170).wr W172).wr W174))) (g := (mkF m 127 #[.val (.int p1), .val (.int p2), .val (.int p3), .val (.int (1 : Int32)), .val (.int (1 : Int32)), .val (.int (1 : Int32)), .val (.ref b_162), .val (.ref b163), .val (.ref b166), .unset, .unset, .unset] [(.ref r_EXPIRED), (.int (3 : Int32)), (.ref b168), (.ref b168)])) rfl rfl (hb hby at_127)
        have V176 : Arv Z h176 b168 k168 (.object "com/example/measured_cache/measuredcache/cache/Change") (8 : Int32) [(.ref r_NONE), (.ref r_REMOVED), (.ref r_NONE), (.ref r_EXPIRED), .null, .null, .null, .null] .null := Arv.set Ar176 q176 S176 M176 H176 G176 rfl W176 3 rfl (Nat.le_of_ble_eq_true rfl)
        have Nf176 := Fr.snoc X176 Nf174 g_b168
        have K176 : Keep h0 h176 [] := K174.wr W176 (Or.inr sz_b168)
        have Z176 : n0 ≤ h176.size := Nat.le_trans Z174 (Keep.of_wr W176).1
        refine own_fw (A' := (T176.setTop (mkF m 128 #[.val (.int p1), .val (.int p2), .val (.int p3), .val (.int (1 : Int32)), .val (.int (1 : Int32)), .val (.int (1 : Int32)), .val (.ref b_162), .val (.ref b163), .val (.ref b166), .unset, .unset, .unset] [(.ref b168)]))) (fun t k => st176 _ k) ?_
        refine own_fw (A' := (T176.setTop (mkF m 129 #[.val (.int p1), .val (.int p2), .val (.int p3), .val (.int (1 : Int32)), .val (.int (1 : Int32)), .val (.int (1 : Int32)), .val (.ref b_162), .val (.ref b163), .val (.ref b166), .unset, .unset, .unset] [(.ref b168), (.ref b168)]))) (fun t k => XS.dup X176.here hx rfl (hb hby at_128) rfl rfl k) ?_
        refine own_fw (A' := (T176.setTop (mkF m 130 #[.val (.int p1), .val (.int p2), .val (.int p3), .val (.int (1 : Int32)), .val (.int (1 : Int32)), .val (.int (1 : Int32)), .val (.ref b_162), .val (.ref b163), .val (.ref b166), .unset, .unset, .unset] [(.int (4 : Int32)), (.ref b168), (.ref b168)]))) (fun t k => XS.iconst X176.here hx rfl (hb hby at_129) k) ?_
        obtain ⟨T177, X177, e177, st177⟩ := getS2 X176 hx hZ hown (host := "") (Or.inl (hw _ (List.mem_of_getElem? (i := 10) rfl))) Via.refl e176 ((((((own_staKeep ((own_staKeep (own_staKeep ((own_staKeep P9 Kq162 all0).ext E163) Kq164 all0) Kq165 (allS (own_plainE (A163.keep Kq164)) all0)).ext E166) Kq167 (allS (own_plainE A166) all0)).ext E168).wr W170).wr W172).wr W174).wr W176) (g := (mkF m 130 #[.val (.int p1), .val (.int p2), .val (.int p3), .val (.int (1 : Int32)), .val (.int (1 : Int32)), .val (.int (1 : Int32)), .val (.ref b_162), .val (.ref b163), .val (.ref b166), .unset, .unset, .unset] [(.int (4 : Int32)), (.ref b168), (.ref b168)])) rfl (hb hby at_130)
        refine own_fw (A' := (T177.setTop (mkF m 133 #[.val (.int p1), .val (.int p2), .val (.int p3), .val (.int (1 : Int32)), .val (.int (1 : Int32)), .val (.int (1 : Int32)), .val (.ref b_162), .val (.ref b163), .val (.ref b166), .unset, .unset, .unset] [(.ref r_CREATED), (.int (4 : Int32)), (.ref b168), (.ref b168)]))) (fun t k => st177 _ k) ?_
        obtain ⟨cl178, Ar178, q178, S178, M178, H178, G178⟩ := id V176
        have hin178 : ¬ ((4 : Int32) < 0 ∨ cl178.slots.size ≤ ((4 : Int32)).toNatClampNeg) := inb_of S178 ⟨by decide, by decide⟩
        obtain ⟨T178, h178, X178, e178, W178, st178⟩ := stR X177 hx hZ e177 Ar178 (j := (4 : Int32)) hin178 rfl (Sto.ofV Ar178 q178 O168 (Ins.self (((((((((((P10.keep Kq162).ext E163).keep Kq164).keep Kq165).ext E166).keep Kq167).ext E168).wr W170).wr W172).wr W174).wr W176))) (g := (mkF m 133 #[.val (.int p1), .val (.int p2), .val (.int p3), .val (.int (1 : Int32)), .val (.int (1 : Int32)), .val (.int (1 : Int32)), .val (.ref b_162), .val (.ref b163), .val (.ref b166), .unset, .unset, .unset] [(.ref r_CREATED), (.int (4 : Int32)), (.ref b168), (.ref b168)])) rfl rfl (hb hby at_133)
        have V178 : Arv Z h178 b168 k168 (.object "com/example/measured_cache/measuredcache/cache/Change") (8 : Int32) [(.ref r_NONE), (.ref r_REMOVED), (.ref r_NONE), (.ref r_EXPIRED), (.ref r_CREATED), .null, .null, .null] .null := Arv.set Ar178 q178 S178 M178 H178 G178 rfl W178 4 rfl (Nat.le_of_ble_eq_true rfl)
        have Nf178 := Fr.snoc X178 Nf176 g_b168
        have K178 : Keep h0 h178 [] := K176.wr W178 (Or.inr sz_b168)
        have Z178 : n0 ≤ h178.size := Nat.le_trans Z176 (Keep.of_wr W178).1
        refine own_fw (A' := (T178.setTop (mkF m 134 #[.val (.int p1), .val (.int p2), .val (.int p3), .val (.int (1 : Int32)), .val (.int (1 : Int32)), .val (.int (1 : Int32)), .val (.ref b_162), .val (.ref b163), .val (.ref b166), .unset, .unset, .unset] [(.ref b168)]))) (fun t k => st178 _ k) ?_
        refine own_fw (A' := (T178.setTop (mkF m 135 #[.val (.int p1), .val (.int p2), .val (.int p3), .val (.int (1 : Int32)), .val (.int (1 : Int32)), .val (.int (1 : Int32)), .val (.ref b_162), .val (.ref b163), .val (.ref b166), .unset, .unset, .unset] [(.ref b168), (.ref b168)]))) (fun t k => XS.dup X178.here hx rfl (hb hby at_134) rfl rfl k) ?_
        refine own_fw (A' := (T178.setTop (mkF m 136 #[.val (.int p1), .val (.int p2), .val (.int p3), .val (.int (1 : Int32)), .val (.int (1 : Int32)), .val (.int (1 : Int32)), .val (.ref b_162), .val (.ref b163), .val (.ref b166), .unset, .unset, .unset] [(.int (5 : Int32)), (.ref b168), (.ref b168)]))) (fun t k => XS.iconst X178.here hx rfl (hb hby at_135) k) ?_
        obtain ⟨T179, X179, e179, st179⟩ := getS2 X178 hx hZ hown (host := "") (Or.inl (hw _ (List.mem_of_getElem? (i := 12) rfl))) Via.refl e178 (((((((own_staKeep ((own_staKeep (own_staKeep ((own_staKeep P11 Kq162 all0).ext E163) Kq164 all0) Kq165 (allS (own_plainE (A163.keep Kq164)) all0)).ext E166) Kq167 (allS (own_plainE A166) all0)).ext E168).wr W170).wr W172).wr W174).wr W176).wr W178) (g := (mkF m 136 #[.val (.int p1), .val (.int p2), .val (.int p3), .val (.int (1 : Int32)), .val (.int (1 : Int32)), .val (.int (1 : Int32)), .val (.ref b_162), .val (.ref b163), .val (.ref b166), .unset, .unset, .unset] [(.int (5 : Int32)), (.ref b168), (.ref b168)])) rfl (hb hby at_136)
        refine own_fw (A' := (T179.setTop (mkF m 139 #[.val (.int p1), .val (.int p2), .val (.int p3), .val (.int (1 : Int32)), .val (.int (1 : Int32)), .val (.int (1 : Int32)), .val (.ref b_162), .val (.ref b163), .val (.ref b166), .unset, .unset, .unset] [(.ref r_UPDATED), (.int (5 : Int32)), (.ref b168), (.ref b168)]))) (fun t k => st179 _ k) ?_
        obtain ⟨cl180, Ar180, q180, S180, M180, H180, G180⟩ := id V178
        have hin180 : ¬ ((5 : Int32) < 0 ∨ cl180.slots.size ≤ ((5 : Int32)).toNatClampNeg) := inb_of S180 ⟨by decide, by decide⟩
        obtain ⟨T180, h180, X180, e180, W180, st180⟩ := stR X179 hx hZ e179 Ar180 (j := (5 : Int32)) hin180 rfl (Sto.ofV Ar180 q180 O168 (Ins.self ((((((((((((P12.keep Kq162).ext E163).keep Kq164).keep Kq165).ext E166).keep Kq167).ext E168).wr W170).wr W172).wr W174).wr W176).wr W178))) (g := (mkF m 139 #[.val (.int p1), .val (.int p2), .val (.int p3), .val (.int (1 : Int32)), .val (.int (1 : Int32)), .val (.int (1 : Int32)), .val (.ref b_162), .val (.ref b163), .val (.ref b166), .unset, .unset, .unset] [(.ref r_UPDATED), (.int (5 : Int32)), (.ref b168), (.ref b168)])) rfl rfl (hb hby at_139)
        have V180 : Arv Z h180 b168 k168 (.object "com/example/measured_cache/measuredcache/cache/Change") (8 : Int32) [(.ref r_NONE), (.ref r_REMOVED), (.ref r_NONE), (.ref r_EXPIRED), (.ref r_CREATED), (.ref r_UPDATED), .null, .null] .null := Arv.set Ar180 q180 S180 M180 H180 G180 rfl W180 5 rfl (Nat.le_of_ble_eq_true rfl)
        have Nf180 := Fr.snoc X180 Nf178 g_b168
        have K180 : Keep h0 h180 [] := K178.wr W180 (Or.inr sz_b168)
        have Z180 : n0 ≤ h180.size := Nat.le_trans Z178 (Keep.of_wr W180).1
        refine own_fw (A' := (T180.setTop (mkF m 140 #[.val (.int p1), .val (.int p2), .val (.int p3), .val (.int (1 : Int32)), .val (.int (1 : Int32)), .val (.int (1 : Int32)), .val (.ref b_162), .val (.ref b163), .val (.ref b166), .unset, .unset, .unset] [(.ref b168)]))) (fun t k => st180 _ k) ?_
        refine own_fw (A' := (T180.setTop (mkF m 141 #[.val (.int p1), .val (.int p2), .val (.int p3), .val (.int (1 : Int32)), .val (.int (1 : Int32)), .val (.int (1 : Int32)), .val (.ref b_162), .val (.ref b163), .val (.ref b166), .unset, .unset, .unset] [(.ref b168), (.ref b168)]))) (fun t k => XS.dup X180.here hx rfl (hb hby at_140) rfl rfl k) ?_
        refine own_fw (A' := (T180.setTop (mkF m 143 #[.val (.int p1), .val (.int p2), .val (.int p3), .val (.int (1 : Int32)), .val (.int (1 : Int32)), .val (.int (1 : Int32)), .val (.ref b_162), .val (.ref b163), .val (.ref b166), .unset, .unset, .unset] [(.int (6 : Int32)), (.ref b168), (.ref b168)]))) (fun t k => XS.bipush X180.here hx rfl (hb hby at_141) k) ?_
        obtain ⟨T181, X181, e181, st181⟩ := getS2 X180 hx hZ hown (host := "") (Or.inl (hw _ (List.mem_of_getElem? (i := 10) rfl))) Via.refl e180 ((((((((own_staKeep ((own_staKeep (own_staKeep ((own_staKeep P9 Kq162 all0).ext E163) Kq164 all0) Kq165 (allS (own_plainE (A163.keep Kq164)) all0)).ext E166) Kq167 (allS (own_plainE A166) all0)).ext E168).wr W170).wr W172).wr W174).wr W176).wr W178).wr W180) (g := (mkF m 143 #[.val (.int p1), .val (.int p2), .val (.int p3), .val (.int (1 : Int32)), .val (.int (1 : Int32)), .val (.int (1 : Int32)), .val (.ref b_162), .val (.ref b163), .val (.ref b166), .unset, .unset, .unset] [(.int (6 : Int32)), (.ref b168), (.ref b168)])) rfl (hb hby at_143)
        refine own_fw (A' := (T181.setTop (mkF m 146 #[.val (.int p1), .val (.int p2), .val (.int p3), .val (.int (1 : Int32)), .val (.int (1 : Int32)), .val (.int (1 : Int32)), .val (.ref b_162), .val (.ref b163), .val (.ref b166), .unset, .unset, .unset] [(.ref r_CREATED), (.int (6 : Int32)), (.ref b168), (.ref b168)]))) (fun t k => st181 _ k) ?_
        obtain ⟨cl182, Ar182, q182, S182, M182, H182, G182⟩ := id V180
        have hin182 : ¬ ((6 : Int32) < 0 ∨ cl182.slots.size ≤ ((6 : Int32)).toNatClampNeg) := inb_of S182 ⟨by decide, by decide⟩
        obtain ⟨T182, h182, X182, e182, W182, st182⟩ := stR X181 hx hZ e181 Ar182 (j := (6 : Int32)) hin182 rfl (Sto.ofV Ar182 q182 O168 (Ins.self (((((((((((((P10.keep Kq162).ext E163).keep Kq164).keep Kq165).ext E166).keep Kq167).ext E168).wr W170).wr W172).wr W174).wr W176).wr W178).wr W180))) (g := (mkF m 146 #[.val (.int p1), .val (.int p2), .val (.int p3), .val (.int (1 : Int32)), .val (.int (1 : Int32)), .val (.int (1 : Int32)), .val (.ref b_162), .val (.ref b163), .val (.ref b166), .unset, .unset, .unset] [(.ref r_CREATED), (.int (6 : Int32)), (.ref b168), (.ref b168)])) rfl rfl (hb hby at_146)
        have V182 : Arv Z h182 b168 k168 (.object "com/example/measured_cache/measuredcache/cache/Change") (8 : Int32) [(.ref r_NONE), (.ref r_REMOVED), (.ref r_NONE), (.ref r_EXPIRED), (.ref r_CREATED), (.ref r_UPDATED), (.ref r_CREATED), .null] .null := Arv.set Ar182 q182 S182 M182 H182 G182 rfl W182 6 rfl (Nat.le_of_ble_eq_true rfl)
        have F183 : own_Cache Z h182 ca "java/lang/Integer" := (own_cacheWr (own_cacheWr (own_cacheWr (own_cacheWr (own_cacheWr (own_cacheWr (own_cacheWr (own_cacheExt (own_cacheKeep (own_cacheExt (own_cacheKeep (own_cacheKeep (own_cacheExt (own_cacheKeep P2 Kq162 nin0) E163) Kq164 nin0) Kq165 (ninS ne_ca_b163 nin0)) E166) Kq167 (ninS ne_ca_b166 nin0)) E168) W170 ne_ca_b168) W172 ne_ca_b168) W174 ne_ca_b168) W176 ne_ca_b168) W178 ne_ca_b168) W180 ne_ca_b168) W182 ne_ca_b168)
        have Nf182 := Fr.snoc X182 Nf180 g_b168
        have K182 : Keep h0 h182 [] := K180.wr W182 (Or.inr sz_b168)
        have Z182 : n0 ≤ h182.size := Nat.le_trans Z180 (Keep.of_wr W182).1
        refine own_fw (A' := (T182.setTop (mkF m 147 #[.val (.int p1), .val (.int p2), .val (.int p3), .val (.int (1 : Int32)), .val (.int (1 : Int32)), .val (.int (1 : Int32)), .val (.ref b_162), .val (.ref b163), .val (.ref b166), .unset, .unset, .unset] [(.ref b168)]))) (fun t k => st182 _ k) ?_
        refine own_fw (A' := (T182.setTop (mkF m 148 #[.val (.int p1), .val (.int p2), .val (.int p3), .val (.int (1 : Int32)), .val (.int (1 : Int32)), .val (.int (1 : Int32)), .val (.ref b_162), .val (.ref b163), .val (.ref b166), .unset, .unset, .unset] [(.ref b168), (.ref b168)]))) (fun t k => XS.dup X182.here hx rfl (hb hby at_147) rfl rfl k) ?_
        refine own_fw (A' := (T182.setTop (mkF m 150 #[.val (.int p1), .val (.int p2), .val (.int p3), .val (.int (1 : Int32)), .val (.int (1 : Int32)), .val (.int (1 : Int32)), .val (.ref b_162), .val (.ref b163), .val (.ref b166), .unset, .unset, .unset] [(.int (7 : Int32)), (.ref b168), (.ref b168)]))) (fun t k => XS.bipush X182.here hx rfl (hb hby at_148) k) ?_
        obtain ⟨T184, X184, e184, st184⟩ := getS2 X182 hx hZ hown (host := "") (Or.inl (hw _ (List.mem_of_getElem? (i := 12) rfl))) Via.refl e182 (((((((((own_staKeep ((own_staKeep (own_staKeep ((own_staKeep P11 Kq162 all0).ext E163) Kq164 all0) Kq165 (allS (own_plainE (A163.keep Kq164)) all0)).ext E166) Kq167 (allS (own_plainE A166) all0)).ext E168).wr W170).wr W172).wr W174).wr W176).wr W178).wr W180).wr W182) (g := (mkF m 150 #[.val (.int p1), .val (.int p2), .val (.int p3), .val (.int (1 : Int32)), .val (.int (1 : Int32)), .val (.int (1 : Int32)), .val (.ref b_162), .val (.ref b163), .val (.ref b166), .unset, .unset, .unset] [(.int (7 : Int32)), (.ref b168), (.ref b168)])) rfl (hb hby at_150)
        refine own_fw (A' := (T184.setTop (mkF m 153 #[.val (.int p1), .val (.int p2), .val (.int p3), .val (.int (1 : Int32)), .val (.int (1 : Int32)), .val (.int (1 : Int32)), .val (.ref b_162), .val (.ref b163), .val (.ref b166), .unset, .unset, .unset] [(.ref r_UPDATED), (.int (7 : Int32)), (.ref b168), (.ref b168)]))) (fun t k => st184 _ k) ?_
        obtain ⟨cl185, Ar185, q185, S185, M185, H185, G185⟩ := id V182
        have hin185 : ¬ ((7 : Int32) < 0 ∨ cl185.slots.size ≤ ((7 : Int32)).toNatClampNeg) := inb_of S185 ⟨by decide, by decide⟩
        obtain ⟨T185, h185, X185, e185, W185, st185⟩ := stR X184 hx hZ e184 Ar185 (j := (7 : Int32)) hin185 rfl (Sto.ofV Ar185 q185 O168 (Ins.self ((((((((((((((P12.keep Kq162).ext E163).keep Kq164).keep Kq165).ext E166).keep Kq167).ext E168).wr W170).wr W172).wr W174).wr W176).wr W178).wr W180).wr W182))) (g := (mkF m 153 #[.val (.int p1), .val (.int p2), .val (.int p3), .val (.int (1 : Int32)), .val (.int (1 : Int32)), .val (.int (1 : Int32)), .val (.ref b_162), .val (.ref b163), .val (.ref b166), .unset, .unset, .unset] [(.ref r_UPDATED), (.int (7 : Int32)), (.ref b168), (.ref b168)])) rfl rfl (hb hby at_153)
        have V185 : Arv Z h185 b168 k168 (.object "com/example/measured_cache/measuredcache/cache/Change") (8 : Int32) [(.ref r_NONE), (.ref r_REMOVED), (.ref r_NONE), (.ref r_EXPIRED), (.ref r_CREATED), (.ref r_UPDATED), (.ref r_CREATED), (.ref r_UPDATED)] .null := Arv.set Ar185 q185 S185 M185 H185 G185 rfl W185 7 rfl (Nat.le_of_ble_eq_true rfl)
        have Nf185 := Fr.snoc X185 Nf182 g_b168
        have K185 : Keep h0 h185 [] := K182.wr W185 (Or.inr sz_b168)
        have Z185 : n0 ≤ h185.size := Nat.le_trans Z182 (Keep.of_wr W185).1
        refine own_fw (A' := (T185.setTop (mkF m 154 #[.val (.int p1), .val (.int p2), .val (.int p3), .val (.int (1 : Int32)), .val (.int (1 : Int32)), .val (.int (1 : Int32)), .val (.ref b_162), .val (.ref b163), .val (.ref b166), .unset, .unset, .unset] [(.ref b168)]))) (fun t k => st185 _ k) ?_
        refine own_fw (A' := (T185.setTop (mkF m 156 #[.val (.int p1), .val (.int p2), .val (.int p3), .val (.int (1 : Int32)), .val (.int (1 : Int32)), .val (.int (1 : Int32)), .val (.ref b_162), .val (.ref b163), .val (.ref b166), .val (.ref b168), .unset, .unset] []))) (fun t k => XS.astore X185.here hx rfl (hb hby at_154) rfl rfl (l' := #[.val (.int p1), .val (.int p2), .val (.int p3), .val (.int (1 : Int32)), .val (.int (1 : Int32)), .val (.int (1 : Int32)), .val (.ref b_162), .val (.ref b163), .val (.ref b166), .val (.ref b168), .unset, .unset]) rfl k) ?_
        refine own_fw (A' := (T185.setTop (mkF m 158 #[.val (.int p1), .val (.int p2), .val (.int p3), .val (.int (1 : Int32)), .val (.int (1 : Int32)), .val (.int (1 : Int32)), .val (.ref b_162), .val (.ref b163), .val (.ref b166), .val (.ref b168), .unset, .unset] [(.ref b168)]))) (fun t k => XS.aload X185.here hx rfl (hb hby at_156) rfl rfl k) ?_
        refine own_fw (A' := (T185.setTop (mkF m 159 #[.val (.int p1), .val (.int p2), .val (.int p3), .val (.int (1 : Int32)), .val (.int (1 : Int32)), .val (.int (1 : Int32)), .val (.ref b_162), .val (.ref b163), .val (.ref b166), .val (.ref b168), .unset, .unset] [(.int p1), (.ref b168)]))) (fun t k => XS.iloadN X185.here hx rfl (hb hby at_158) rfl k) ?_
        refine own_fw (A' := (T185.setTop (mkF m 161 #[.val (.int p1), .val (.int p2), .val (.int p3), .val (.int (1 : Int32)), .val (.int (1 : Int32)), .val (.int (1 : Int32)), .val (.ref b_162), .val (.ref b163), .val (.ref b166), .val (.ref b168), .unset, .unset] [(.int (7 : Int32)), (.int p1), (.ref b168)]))) (fun t k => XS.bipush X185.here hx rfl (hb hby at_159) k) ?_
        refine own_fw (A' := (T185.setTop (mkF m 162 #[.val (.int p1), .val (.int p2), .val (.int p3), .val (.int (1 : Int32)), .val (.int (1 : Int32)), .val (.int (1 : Int32)), .val (.ref b_162), .val (.ref b163), .val (.ref b166), .val (.ref b168), .unset, .unset] [(.int (p1 &&& (7 : Int32))), (.ref b168)]))) (fun t k => XS.iand X185.here hx rfl (hb hby at_161) rfl k) ?_
        rw [own_ix p1 (7 : Int32) false false false (decide_eq_false hc1) (decide_eq_false hc88) (decide_eq_false hc135) (by decide)]
        obtain ⟨cl186, Ar186, q186, S186, M186, H186, G186⟩ := id V185
        have hin186 : ¬ ((7 : Int32) < 0 ∨ cl186.slots.size ≤ ((7 : Int32)).toNatClampNeg) := inb_of S186 ⟨by decide, by decide⟩
        have hat186 : cl186.slots[((7 : Int32)).toNatClampNeg]? = some (.ref r_UPDATED) := H186.at hin186 rfl
        refine own_fw (A' := (T185.setTop (mkF m 163 #[.val (.int p1), .val (.int p2), .val (.int p3), .val (.int (1 : Int32)), .val (.int (1 : Int32)), .val (.int (1 : Int32)), .val (.ref b_162), .val (.ref b163), .val (.ref b166), .val (.ref b168), .unset, .unset] [(.ref r_UPDATED)]))) (fun t k => X185.aaload hx (j := (7 : Int32)) (v := (.ref r_UPDATED)) (by rw [e185]; exact Ar186.1) (State.isArrayOf_alike hZ.alike Ar186.2.1) rfl Ar186.2.2 hin186 hat186 (g := (mkF m 162 #[.val (.int p1), .val (.int p2), .val (.int p3), .val (.int (1 : Int32)), .val (.int (1 : Int32)), .val (.int (1 : Int32)), .val (.ref b_162), .val (.ref b163), .val (.ref b166), .val (.ref b168), .unset, .unset] [(.int (7 : Int32)), (.ref b168)])) rfl rfl (hb hby at_162) _ k) ?_
        refine own_fw (A' := (T185.setTop (mkF m 165 #[.val (.int p1), .val (.int p2), .val (.int p3), .val (.int (1 : Int32)), .val (.int (1 : Int32)), .val (.int (1 : Int32)), .val (.ref b_162), .val (.ref b163), .val (.ref b166), .val (.ref b168), .val (.ref r_UPDATED), .unset] []))) (fun t k => XS.astore X185.here hx rfl (hb hby at_163) rfl rfl (l' := #[.val (.int p1), .val (.int p2), .val (.int p3), .val (.int (1 : Int32)), .val (.int (1 : Int32)), .val (.int (1 : Int32)), .val (.ref b_162), .val (.ref b163), .val (.ref b166), .val (.ref b168), .val (.ref r_UPDATED), .unset]) rfl k) ?_
        refine own_fw (A' := (T185.setTop (mkF m 167 #[.val (.int p1), .val (.int p2), .val (.int p3), .val (.int (1 : Int32)), .val (.int (1 : Int32)), .val (.int (1 : Int32)), .val (.ref b_162), .val (.ref b163), .val (.ref b166), .val (.ref b168), .val (.ref r_UPDATED), .unset] [(.ref b163)]))) (fun t k => XS.aload X185.here hx rfl (hb hby at_165) rfl rfl k) ?_
        refine own_fw (A' := (T185.setTop (mkF m 169 #[.val (.int p1), .val (.int p2), .val (.int p3), .val (.int (1 : Int32)), .val (.int (1 : Int32)), .val (.int (1 : Int32)), .val (.ref b_162), .val (.ref b163), .val (.ref b166), .val (.ref b168), .val (.ref r_UPDATED), .unset] [(.ref b_162), (.ref b163)]))) (fun t k => XS.aload X185.here hx rfl (hb hby at_167) rfl rfl k) ?_
        refine own_fw (A' := (T185.setTop (mkF m 171 #[.val (.int p1), .val (.int p2), .val (.int p3), .val (.int (1 : Int32)), .val (.int (1 : Int32)), .val (.int (1 : Int32)), .val (.ref b_162), .val (.ref b163), .val (.ref b166), .val (.ref b168), .val (.ref r_UPDATED), .unset] [(.ref b166), (.ref b_162), (.ref b163)]))) (fun t k => XS.aload X185.here hx rfl (hb hby at_169) rfl rfl k) ?_
        obtain ⟨_, _, ⟨T187, L187, k187, n187⟩, -, X187, ⟨Lc187, hQ187, l187, y187, z187⟩, st187⟩ := Jvm.LawKit.callS X185 hx (y := (⟨"com/example/measured_cache/measuredcache/cache/Change", "of", "(Lcom/example/measured_cache/measuredcache/cache/EntryVersion;Ljava/lang/Object;Lcom/example/measured_cache/measuredcache/cache/EntryVersion;)Lcom/example/measured_cache/measuredcache/cache/Change;"⟩ : MethodName)) hown (mvT hZ (hw _ (List.mem_of_getElem? (i := 14) rfl))) (mvT hZ (hw _ (List.mem_of_getElem? (i := 15) rfl))) (mvT hZ (hw _ (List.mem_of_getElem? (i := 3) rfl))) (mvT hZ (hw _ (List.mem_of_getElem? (i := 16) rfl))) (by decide) (backOf (W := 0) (rmOf000 l Z a0 hw [] b163 b_162 b166 r_UPDATED h185 n0 Z185 ((((((((((own_staKeep ((own_staKeep (own_staKeep ((own_staKeep P11 Kq162 all0).ext E163) Kq164 all0) Kq165 (allS (own_plainE (A163.keep Kq164)) all0)).ext E166) Kq167 (allS (own_plainE A166) all0)).ext E168).wr W170).wr W172).wr W174).wr W176).wr W178).wr W180).wr W182).wr W185)) hZ (hw _ (List.mem_of_getElem? (i := 16) rfl)) (hw _ (List.mem_of_getElem? (i := 3) rfl)) (by decide) (by decide)) (g := (mkF m 171 #[.val (.int p1), .val (.int p2), .val (.int p3), .val (.int (1 : Int32)), .val (.int (1 : Int32)), .val (.int (1 : Int32)), .val (.ref b_162), .val (.ref b163), .val (.ref b166), .val (.ref b168), .val (.ref r_UPDATED), .unset] [(.ref b166), (.ref b_162), (.ref b163)])) rfl (by rw [hml]; rfl) (argsL := [(.ref b163), (.ref b_162), (.ref b166)]) (rest := []) (lenOf pd__Lcom_example_measured_cache_measuredcache_cache_EntryVersion_Ljava_lang_Object_Lcom_example_measured_cache_measuredcache_cache_EntryVersion__Lcom_example_measured_cache_measuredcache_cache_Change_ rfl) rfl (by show 2 * 0 + _ ≤ _; exact Nat.le_of_eq rfl) (hb hby at_171) (fun _ _ => ⟨rfl, e185, (by decide : 5 + 0 ≤ _), (by decide : 12 + 0 ≤ _)⟩)
        dsimp only [Pt.U, Pt.locs, Pt.cells, Pt.slots] at X187 l187 y187 z187 st187 hQ187
        subst l187 y187 z187
        obtain ⟨rfl, Nq187, e187⟩ := hQ187
        have Nf187 := Fr.app Nf185 Nq187
        refine own_fw (A' := (T187.setTop (mkF m 174 #[.val (.int p1), .val (.int p2), .val (.int p3), .val (.int (1 : Int32)), .val (.int (1 : Int32)), .val (.int (1 : Int32)), .val (.ref b_162), .val (.ref b163), .val (.ref b166), .val (.ref b168), .val (.ref r_UPDATED), .unset] [(.ref r_UPDATED)]))) (fun t k => st187 _ k) ?_
        refine own_fw (A' := (T187.setTop (mkF m 176 #[.val (.int p1), .val (.int p2), .val (.int p3), .val (.int (1 : Int32)), .val (.int (1 : Int32)), .val (.int (1 : Int32)), .val (.ref b_162), .val (.ref b163), .val (.ref b166), .val (.ref b168), .val (.ref r_UPDATED), .val (.ref r_UPDATED)] []))) (fun t k => XS.astore X187.here hx rfl (hb hby at_174) rfl rfl (l' := #[.val (.int p1), .val (.int p2), .val (.int p3), .val (.int (1 : Int32)), .val (.int (1 : Int32)), .val (.int (1 : Int32)), .val (.ref b_162), .val (.ref b163), .val (.ref b166), .val (.ref b168), .val (.ref r_UPDATED), .val (.ref r_UPDATED)]) rfl k) ?_
        refine own_fw (A' := (T187.setTop (mkF m 178 #[.val (.int p1), .val (.int p2), .val (.int p3), .val (.int (1 : Int32)), .val (.int (1 : Int32)), .val (.int (1 : Int32)), .val (.ref b_162), .val (.ref b163), .val (.ref b166), .val (.ref b168), .val (.ref r_UPDATED), .val (.ref r_UPDATED)] [(.ref r_UPDATED)]))) (fun t k => XS.aload X187.here hx rfl (hb hby at_176) rfl rfl k) ?_
        refine own_fw (A' := (T187.setTop (mkF m 180 #[.val (.int p1), .val (.int p2), .val (.int p3), .val (.int (1 : Int32)), .val (.int (1 : Int32)), .val (.int (1 : Int32)), .val (.ref b_162), .val (.ref b163), .val (.ref b166), .val (.ref b168), .val (.ref r_UPDATED), .val (.ref r_UPDATED)] [(.ref r_UPDATED), (.ref r_UPDATED)]))) (fun t k => XS.aload X187.here hx rfl (hb hby at_178) rfl rfl k) ?_
        refine own_fw (A' := (T187.setTop (mkF m 183 #[.val (.int p1), .val (.int p2), .val (.int p3), .val (.int (1 : Int32)), .val (.int (1 : Int32)), .val (.int (1 : Int32)), .val (.ref b_162), .val (.ref b163), .val (.ref b166), .val (.ref b168), .val (.ref r_UPDATED), .val (.ref r_UPDATED)] []))) (fun t k => Jvm.RoadKit.acmp (g := (mkF m 180 #[.val (.int p1), .val (.int p2), .val (.int p3), .val (.int (1 : Int32)), .val (.int (1 : Int32)), .val (.int (1 : Int32)), .val (.ref b_162), .val (.ref b163), .val (.ref b166), .val (.ref b168), .val (.ref r_UPDATED), .val (.ref r_UPDATED)] [(.ref r_UPDATED), (.ref r_UPDATED)])) X187 hx rfl rfl rfl (pc0 := 180) (pc' := 183) (same := true) rfl (hb hby at_180) rfl (decide_eq_true rfl) (by decide) (by decide) k) ?_
        refine own_fw (A' := (T187.setTop (mkF m 184 #[.val (.int p1), .val (.int p2), .val (.int p3), .val (.int (1 : Int32)), .val (.int (1 : Int32)), .val (.int (1 : Int32)), .val (.ref b_162), .val (.ref b163), .val (.ref b166), .val (.ref b168), .val (.ref r_UPDATED), .val (.ref r_UPDATED)] [(.int (1 : Int32))]))) (fun t k => XS.iconst X187.here hx rfl (hb hby at_183) k) ?_
        refine own_fw (A' := (T187.setTop (mkF m 188 #[.val (.int p1), .val (.int p2), .val (.int p3), .val (.int (1 : Int32)), .val (.int (1 : Int32)), .val (.int (1 : Int32)), .val (.ref b_162), .val (.ref b163), .val (.ref b166), .val (.ref b168), .val (.ref r_UPDATED), .val (.ref r_UPDATED)] [(.int (1 : Int32))]))) (fun t k => XS.goto X187.here hx rfl (pc0 := 184) (pc' := 188) rfl (hb hby at_184) (by decide) (by decide) k) ?_
        obtain ⟨fs, hr, hrun, hended, hW, hsame⟩ := X187.leave (v := some (.int (1 : Int32))) (fun h => by rw [Bd.returns] at h; cases h)
        refine ⟨_, _, ?_, hrun, hended, _, _, rfl, ?_, ⟨_, rfl⟩, hW, hsame.mono (by decide) (by decide)⟩
        · exact retOut X187 hx Bd.returns rfl (Or.inl ⟨rfl, by simp, _, rfl⟩) (hb hby at_188) hr
        · show Q_rm0 Z p1 p2 p3 ca r_NONE r_REMOVED r_EXPIRED r_CREATED r_UPDATED h0 n0 _ T187.heap _
          rw [e187]
          exact ⟨rfl, Nf187⟩
set_option maxRecDepth 65536 in
set_option maxHeartbeats 40000000 in
theorem comes_1 {Post : Tables → Env → Array Value → State → Outcome → State → Prop} (hpost : ∀ tb e args s v u, (limb_1_1.after args s (.returned v) u = true ∧ limb_1_2.after args s (.returned v) u = true ∧ True) → FrameEnd s (.returned v) u (Jvm.fieldLocs frame_1_writes args s ++ Jvm.arrayLocs frame_1_arrays args s ++ Jvm.staticLocs frame_1_statics s) 24 128 → Post tb e args s (.returned v) u) :
    ArmFor flags0 classFile x code maxLocals ret World_1 tables_1 room_1 Calls_1 rest_1 Pre_1 Post := by
  intro l hfl _ _ p e ha hc hk s m args below hf hA hF happ hP
  obtain ⟨hcalls, hrest, hpre⟩ := hP
  obtain ⟨-, -, -, hnamed, -, -, -, hat⟩ := (Spec.applies_iff hf).mp happ
  obtain ⟨hg, hn⟩ := and_e (Cond.before_iff.mp (show (Jvm.Cond.and given_1 narrow_1).before args s = true from hpre))
  obtain ⟨hcount, hg0⟩ := and_e hg
  obtain ⟨hv0, hg1⟩ := and_e hg0
  obtain ⟨hv1, hg2⟩ := and_e hg1
  have hv2 := hg2
  obtain ⟨w0, w1, w2, rfl⟩ : ∃ w0 w1 w2 : Value, args = #[w0, w1, w2] := by
    have hs : args.size = 3 := by simpa [Cond.value, given_1] using hcount
    obtain ⟨L⟩ := args
    match L, hs with
    | [w0, w1, w2], _ => exact ⟨w0, w1, w2, rfl⟩
  have hw := fun d (hd : d ∈ tables_1) => atoms_spec (ws := Jvm.Cond.code x code maxLocals ret :: tables_1) hat d (List.mem_cons_of_mem _ hd)
  have hfit : Fit s := fun {y c} hc i hi => by
    obtain ⟨ha, rfl⟩ := Array.getElem?_eq_some_iff.mp hc
    have q := List.all_eq_true.mp ((Array.all_eq_true_iff_forall_mem.mp hF) _ (Array.getElem_mem ha)) i (List.mem_range.mpr hi)
    simpa [Array.getElem?_eq_getElem hi] using q
  obtain ⟨hsets, hown0⟩ := atoms_of _ (rest_1_c_eq ▸ (show rest_1_c.before _ s = true from hrest))
  obtain ⟨i0, ei0⟩ := is_v hv0
  obtain rfl : w0 = (.int i0) := Option.some.inj ei0
  obtain ⟨i1, ei1⟩ := is_v hv1
  obtain rfl : w1 = (.int i1) := Option.some.inj ei1
  obtain ⟨i2, ei2⟩ := is_v hv2
  obtain rfl : w2 = (.int i2) := Option.some.inj ei2
  obtain ⟨hn0, hm0⟩ := and_e hn
  obtain ⟨hn1, hm1⟩ := and_e hm0
  obtain ⟨hn2, hm2⟩ := and_e hm1
  obtain ⟨hn3, hm3⟩ := and_e hm2
  have hn4 := hm3
  obtain ⟨r_NONE, ev_NONE⟩ := exa_v hn0
  have E_NONE := Exa.start ev_NONE hn0
  have S_NONE := Sta.start ev_NONE (Or.inr ⟨(hw _ (List.mem_of_getElem? (i := 3) rfl)), (hw _ (List.mem_of_getElem? (i := 4) rfl))⟩)
  obtain ⟨r_REMOVED, ev_REMOVED⟩ := exa_v hn1
  have E_REMOVED := Exa.start ev_REMOVED hn1
  have S_REMOVED := Sta.start ev_REMOVED (Or.inr ⟨(hw _ (List.mem_of_getElem? (i := 3) rfl)), (hw _ (List.mem_of_getElem? (i := 7) rfl))⟩)
  obtain ⟨r_EXPIRED, ev_EXPIRED⟩ := exa_v hn2
  have E_EXPIRED := Exa.start ev_EXPIRED hn2
  have S_EXPIRED := Sta.start ev_EXPIRED (Or.inr ⟨(hw _ (List.mem_of_getElem? (i := 3) rfl)), (hw _ (List.mem_of_getElem? (i := 9) rfl))⟩)
  obtain ⟨r_CREATED, ev_CREATED⟩ := exa_v hn3
  have E_CREATED := Exa.start ev_CREATED hn3
  have S_CREATED := Sta.start ev_CREATED (Or.inr ⟨(hw _ (List.mem_of_getElem? (i := 3) rfl)), (hw _ (List.mem_of_getElem? (i := 11) rfl))⟩)
  obtain ⟨r_UPDATED, ev_UPDATED⟩ := exa_v hn4
  have E_UPDATED := Exa.start ev_UPDATED hn4
  have S_UPDATED := Sta.start ev_UPDATED (Or.inr ⟨(hw _ (List.mem_of_getElem? (i := 3) rfl)), (hw _ (List.mem_of_getElem? (i := 13) rfl))⟩)
  have ev_high := own_evI (Cond.before_iff.mp (hsets _ (List.mem_of_getElem? (i := 3) rfl)))
  have S_high := Sta.start ev_high (Or.inl (hsets _ (List.mem_of_getElem? (i := 1) rfl)))
  have av_L := Cond.before_iff.mp (hsets _ (List.mem_of_getElem? (i := 4) rfl))
  obtain ⟨ca_L, ev_L⟩ := arr_v av_L
  have S_L := Sta.start ev_L (Or.inr ⟨(hw _ (List.mem_of_getElem? (i := 26) rfl)), (hsets _ (List.mem_of_getElem? (i := 2) rfl))⟩)
  have X_L := own_cacheStart ev_L av_L (Cond.before_iff.mp (hsets _ (List.mem_of_getElem? (i := 6) rfl))) (Cond.before_iff.mp (hsets _ (List.mem_of_getElem? (i := 7) rfl)))
  obtain ⟨n, o, h1, h2, h3, _, L, rfl, ⟨rfl, N⟩, hq⟩ := rm0 l s _ hw tables_1 i0 i1 i2 ca_L r_NONE r_REMOVED r_EXPIRED r_CREATED r_UPDATED s.heap s.heap.size (Nat.le_refl _) S_high S_L X_L S_NONE E_NONE S_REMOVED E_REMOVED S_EXPIRED E_EXPIRED S_CREATED E_CREATED S_UPDATED E_UPDATED p e ha hc hk s m _ below hf ((Spec.applies_iff_loose hf).mp happ).1 ⟨rfl, State.Warmed39.refl s, rfl⟩ trivial
  refine ⟨n, _, h1, h2, h3, hpost _ _ _ _ _ _ ⟨Cond.after_iff.mpr rfl, Cond.after_iff.mpr (eq_i res_at (Term.int_eval (1)) rfl), trivial⟩ ⟨hq.1, hq.2.1, (hq.2.2.sift fun y hy => Or.inr (N y hy)).mono (by decide) (by decide)⟩⟩
theorem main_1_1 : Claimed_1_1 := comes_1 fun _ _ _ _ _ _ h hF => ⟨h.1, hF⟩
theorem main_1_2 : Claimed_1_2 := comes_1 fun _ _ _ _ _ _ h hF => ⟨h.2.1, hF⟩
end Jvm.Pilot.@@N@@
namespace Jvm.Pilot.@@N@@
open Jvm Jvm.ClassFile Sem Op Lib Jvm.Free Jvm.Stand Jvm.Pilot.@@N@@.Jvm.D
/-! MADE BY PROGRAM (witnessworld.py) out of the Statement's table words and the real class files: 19 classes; the members and pool entries that the words name. The judged class is class 1, her method 1. -/
namespace start1
open Jvm.ClassFile
def u (s : String) : CpInfo := .utf8 (stringToUtf16 s)
/-- a pool by its gaps: so many unusable entries, then the entry; so many at the end -/
def gap : Nat → List CpInfo → List CpInfo
  | 0, r => r
  | n + 1, r => .unusable :: gap n r
def poolList (es : List (Nat × CpInfo)) (last : Nat) : List CpInfo := es.foldr (fun e r => gap e.1 (e.2 :: r)) (gap last [])
def pool (es : List (Nat × CpInfo)) (last : Nat) : Array CpInfo := ⟨poolList es last⟩
def fileOf (pool : Array CpInfo) (this : Nat) (attrs : Array Attribute := #[]) (ms : Array MethodInfo := #[]) (fl : Nat := 33) (sup : Nat := 0) (ifs : Array Nat := #[]) (fds : Array FieldInfo := #[]) : ClassFile where
  minorVersion := 0
  majorVersion := 65
  constantPool := pool
  accessFlags := fl
  thisClass := this
  superClass := sup
  interfaces := ifs
  fields := fds
  methods := ms
  attributes := attrs
def plain (name : String) (sup : Option ClassId) : Class where
  name := name
  kind := .ordinary
  loader := none
  accessFlags := 33
  super := sup
  interfaces := #[]
  cf := none
  fields := #[]
  methods := #[]
  instanceTypes := #[]
  staticTypes := #[]
  resolved := #[]
  callSites := []
  init := .initialized
  statics := none
  mirror := none

def pool0 : Array CpInfo := pool [(5, u "<init>"), (0, u "()V"), (1, .class_ 10), (1, u "java/lang/Object")] 113

def k0c0 : Code := { maxStack := 0, maxLocals := 1, code := object_method_1_code, exceptionTable := #[], attributes := #[] }
def k0m0 : Method := { name := "<init>", desc := "()V", sig := { parameters := [], returnType := none }, accessFlags := 1, code := some k0c0 }
/-- java/lang/Object -/
def k0 : Class := { plain "java/lang/Object" none with
  accessFlags := 33
  interfaces := #[]
  cf := some (fileOf pool0 8 #[] #[{ accessFlags := 1, nameIndex := 5, descriptorIndex := 6, attributes := #[] }] 33 0 #[] #[])
  fields := #[]
  methods := #[k0m0]
  instanceTypes := #[]
  staticTypes := #[]
  resolved := Array.replicate 124 none
  statics := none }

def pool1 : Array CpInfo := pool [(2, .class_ 4), (1, u "java/lang/Object"), (0, u "<init>"), (0, u "()V"), (0, .methodref 8 9), (0, .class_ 10), (0, .nameAndType 11 12), (0, u "java/lang/Integer"), (0, u "valueOf"), (0, u "(I)Ljava/lang/Integer;"), (0, .class_ 14), (0, u "com/example/measured_cache/measuredcache/cache/EntryVersion"), (0, .methodref 13 16), (0, .nameAndType 5 17), (0, u "(Ljava/lang/Object;)V"), (0, .class_ 19), (0, u "com/example/measured_cache/measuredcache/cache/Change"), (0, .fieldref 18 21), (0, .nameAndType 22 23), (0, u "NONE"), (0, u "Lcom/example/measured_cache/measuredcache/cache/Change;"), (0, .fieldref 18 25), (0, .nameAndType 26 23), (0, u "REMOVED"), (0, .fieldref 18 28), (0, .nameAndType 29 23), (0, u "EXPIRED"), (0, .fieldref 18 31), (0, .nameAndType 32 23), (0, u "CREATED"), (0, .fieldref 18 34), (0, .nameAndType 35 23), (0, u "UPDATED"), (0, .methodref 18 37), (0, .nameAndType 38 39), (0, u "of"), (0, u "(Lcom/example/measured_cache/measuredcache/cache/EntryVersion;Ljava/lang/Object;Lcom/example/measured_cache/measuredcache/cache/EntryVersion;)Lcom/example/measured_cache/measuredcache/cache/Change;"), (0, .class_ 41), (0, u "com/example/measured_cache/measuredcache/cache/ChangeOfPinLaw"), (2, u "law"), (0, u "(III)Z")] 5

def k1m0 : Method := { name := "<init>", desc := "()V", sig := { parameters := [], returnType := none }, accessFlags := 1, code := none }
def k1c1 : Code := { maxStack := 4, maxLocals := 12, code := code, exceptionTable := #[], attributes := #[] }
def k1m1 : Method := { name := "law", desc := "(III)Z", sig := { parameters := [.int, .int, .int], returnType := some .boolean }, accessFlags := 9, code := some k1c1 }
/-- com/example/measured_cache/measuredcache/cache/ChangeOfPinLaw -/
def k1 : Class := { plain "com/example/measured_cache/measuredcache/cache/ChangeOfPinLaw" (some 0) with
  accessFlags := 49
  interfaces := #[]
  cf := some (fileOf pool1 40 #[] #[{ accessFlags := 1, nameIndex := 5, descriptorIndex := 6, attributes := #[] }, { accessFlags := 9, nameIndex := 44, descriptorIndex := 45, attributes := #[] }] 49 2 #[] #[])
  fields := #[]
  methods := #[k1m0, k1m1]
  instanceTypes := #[]
  staticTypes := #[]
  resolved := Array.replicate 51 none
  statics := none }

def pool2 : Array CpInfo := pool [(1, .class_ 2), (0, u "java/lang/constant/Constable"), (0, .class_ 4), (0, u "java/lang/Object")] 6

/-- java/lang/constant/Constable -/
def k2 : Class := { plain "java/lang/constant/Constable" (some 0) with
  accessFlags := 1537
  interfaces := #[]
  cf := some (fileOf pool2 1 #[] #[] 1537 3 #[] #[])
  fields := #[]
  methods := #[]
  instanceTypes := #[]
  staticTypes := #[]
  resolved := Array.replicate 11 none
  statics := none }

def pool3 : Array CpInfo := pool [(1, .class_ 2), (0, u "java/lang/Comparable"), (0, .class_ 4), (0, u "java/lang/Object")] 7

/-- java/lang/Comparable -/
def k3 : Class := { plain "java/lang/Comparable" (some 0) with
  accessFlags := 1537
  interfaces := #[]
  cf := some (fileOf pool3 1 #[] #[] 1537 3 #[] #[])
  fields := #[]
  methods := #[]
  instanceTypes := #[]
  staticTypes := #[]
  resolved := Array.replicate 12 none
  statics := none }

def pool4 : Array CpInfo := pool [(1, .class_ 2), (0, u "java/io/Serializable"), (0, .class_ 4), (0, u "java/lang/Object")] 2

/-- java/io/Serializable -/
def k4 : Class := { plain "java/io/Serializable" (some 0) with
  accessFlags := 1537
  interfaces := #[]
  cf := some (fileOf pool4 1 #[] #[] 1537 3 #[] #[])
  fields := #[]
  methods := #[]
  instanceTypes := #[]
  staticTypes := #[]
  resolved := Array.replicate 7 none
  statics := none }

def pool5 : Array CpInfo := pool [(2, .class_ 4), (1, u "java/lang/Enum"), (0, u "name"), (0, u "Ljava/lang/String;"), (2, u "ordinal"), (0, u "I"), (1, .class_ 14), (1, u "java/lang/Object"), (4, u "hash"), (86, .class_ 108), (1, u "java/lang/Enum$EnumDesc"), (2, .class_ 112), (0, u "java/lang/constant/Constable"), (0, .class_ 114), (0, u "java/lang/Comparable"), (0, .class_ 116), (0, u "java/io/Serializable")] 87

/-- java/lang/Enum -/
def k5 : Class := { plain "java/lang/Enum" (some 0) with
  accessFlags := 1057
  interfaces := #[2, 3, 4]
  cf := some (fileOf pool5 2 #[.nestMembers #[106]] #[] 1057 12 #[111, 113, 115] #[{ accessFlags := 18, nameIndex := 5, descriptorIndex := 6, attributes := #[] }, { accessFlags := 18, nameIndex := 9, descriptorIndex := 10, attributes := #[] }, { accessFlags := 2, nameIndex := 19, descriptorIndex := 10, attributes := #[] }])
  fields := #[{ name := "name", type := (.object "java/lang/String"), accessFlags := 18, slot := 0, constantValue := 0 }, { name := "ordinal", type := .int, accessFlags := 18, slot := 1, constantValue := 0 }, { name := "hash", type := .int, accessFlags := 2, slot := 2, constantValue := 0 }]
  methods := #[]
  instanceTypes := #[(.object "java/lang/String"), .int, .int]
  staticTypes := #[]
  resolved := Array.replicate 204 none
  statics := none }

def pool6 : Array CpInfo := pool [(1, .class_ 2), (0, u "com/example/measured_cache/measuredcache/cache/Change"), (0, .fieldref 1 4), (0, .nameAndType 5 6), (0, u "CREATED"), (0, u "Lcom/example/measured_cache/measuredcache/cache/Change;"), (0, .fieldref 1 8), (0, .nameAndType 9 6), (0, u "UPDATED"), (0, .fieldref 1 11), (0, .nameAndType 12 6), (0, u "REMOVED"), (0, .fieldref 1 14), (0, .nameAndType 15 6), (0, u "EXPIRED"), (0, .fieldref 1 17), (0, .nameAndType 18 6), (0, u "NONE"), (2, u "$VALUES"), (0, u "[Lcom/example/measured_cache/measuredcache/cache/Change;"), (6, .class_ 31), (1, u "java/lang/Enum"), (23, u "of"), (0, u "(Lcom/example/measured_cache/measuredcache/cache/EntryVersion;Ljava/lang/Object;Lcom/example/measured_cache/measuredcache/cache/EntryVersion;)Lcom/example/measured_cache/measuredcache/cache/Change;")] 6

def k6c0 : Code := { maxStack := 1, maxLocals := 3, code := prog_5_method_4_code, exceptionTable := #[], attributes := #[] }
def k6m0 : Method := { name := "of", desc := "(Lcom/example/measured_cache/measuredcache/cache/EntryVersion;Ljava/lang/Object;Lcom/example/measured_cache/measuredcache/cache/EntryVersion;)Lcom/example/measured_cache/measuredcache/cache/Change;", sig := { parameters := [(.object "com/example/measured_cache/measuredcache/cache/EntryVersion"), (.object "java/lang/Object"), (.object "com/example/measured_cache/measuredcache/cache/EntryVersion")], returnType := some (.object "com/example/measured_cache/measuredcache/cache/Change") }, accessFlags := 8, code := some k6c0 }
/-- com/example/measured_cache/measuredcache/cache/Change -/
def k6 : Class := { plain "com/example/measured_cache/measuredcache/cache/Change" (some 5) with
  accessFlags := 16432
  interfaces := #[]
  cf := some (fileOf pool6 1 #[] #[{ accessFlags := 8, nameIndex := 55, descriptorIndex := 56, attributes := #[] }] 16432 29 #[] #[{ accessFlags := 16409, nameIndex := 5, descriptorIndex := 6, attributes := #[] }, { accessFlags := 16409, nameIndex := 9, descriptorIndex := 6, attributes := #[] }, { accessFlags := 16409, nameIndex := 12, descriptorIndex := 6, attributes := #[] }, { accessFlags := 16409, nameIndex := 15, descriptorIndex := 6, attributes := #[] }, { accessFlags := 16409, nameIndex := 18, descriptorIndex := 6, attributes := #[] }, { accessFlags := 4122, nameIndex := 21, descriptorIndex := 22, attributes := #[] }])
  fields := #[{ name := "CREATED", type := (.object "com/example/measured_cache/measuredcache/cache/Change"), accessFlags := 16409, slot := 0, constantValue := 0 }, { name := "UPDATED", type := (.object "com/example/measured_cache/measuredcache/cache/Change"), accessFlags := 16409, slot := 1, constantValue := 0 }, { name := "REMOVED", type := (.object "com/example/measured_cache/measuredcache/cache/Change"), accessFlags := 16409, slot := 2, constantValue := 0 }, { name := "EXPIRED", type := (.object "com/example/measured_cache/measuredcache/cache/Change"), accessFlags := 16409, slot := 3, constantValue := 0 }, { name := "NONE", type := (.object "com/example/measured_cache/measuredcache/cache/Change"), accessFlags := 16409, slot := 4, constantValue := 0 }, { name := "$VALUES", type := (.array (.object "com/example/measured_cache/measuredcache/cache/Change")), accessFlags := 4122, slot := 5, constantValue := 0 }]
  methods := #[k6m0]
  instanceTypes := #[(.object "java/lang/String"), .int, .int]
  staticTypes := #[(.object "com/example/measured_cache/measuredcache/cache/Change"), (.object "com/example/measured_cache/measuredcache/cache/Change"), (.object "com/example/measured_cache/measuredcache/cache/Change"), (.object "com/example/measured_cache/measuredcache/cache/Change"), (.object "com/example/measured_cache/measuredcache/cache/Change"), (.array (.object "com/example/measured_cache/measuredcache/cache/Change"))]
  resolved := Array.replicate 63 none
  statics := some 0 }

def pool7 : Array CpInfo := pool [(1, .methodref 2 3), (0, .class_ 4), (0, .nameAndType 5 6), (0, u "java/lang/Object"), (0, u "<init>"), (0, u "()V"), (0, .fieldref 8 9), (0, .class_ 10), (0, .nameAndType 11 12), (0, u "com/example/measured_cache/measuredcache/cache/EntryVersion"), (0, u "content"), (0, u "Ljava/lang/Object;"), (2, u "CONTENT"), (0, u "Ljava/lang/invoke/VarHandle;"), (36, u "(Ljava/lang/Object;)V")] 24

def k7c0 : Code := { maxStack := 2, maxLocals := 2, code := prog_7_method_1_code, exceptionTable := #[], attributes := #[] }
def k7m0 : Method := { name := "<init>", desc := "(Ljava/lang/Object;)V", sig := { parameters := [(.object "java/lang/Object")], returnType := none }, accessFlags := 0, code := some k7c0 }
/-- com/example/measured_cache/measuredcache/cache/EntryVersion -/
def k7 : Class := { plain "com/example/measured_cache/measuredcache/cache/EntryVersion" (some 0) with
  accessFlags := 32
  interfaces := #[]
  cf := some (fileOf pool7 8 #[] #[{ accessFlags := 0, nameIndex := 5, descriptorIndex := 53, attributes := #[] }] 32 2 #[] #[{ accessFlags := 26, nameIndex := 15, descriptorIndex := 16, attributes := #[] }, { accessFlags := 2, nameIndex := 11, descriptorIndex := 12, attributes := #[] }])
  fields := #[{ name := "CONTENT", type := (.object "java/lang/invoke/VarHandle"), accessFlags := 26, slot := 0, constantValue := 0 }, { name := "content", type := (.object "java/lang/Object"), accessFlags := 2, slot := 0, constantValue := 0 }]
  methods := #[k7m0]
  instanceTypes := #[(.object "java/lang/Object")]
  staticTypes := #[(.object "java/lang/invoke/VarHandle")]
  resolved := Array.replicate 78 none
  statics := none }

def pool8 : Array CpInfo := pool [(1, .methodref 2 3), (0, .class_ 4), (0, .nameAndType 5 6), (0, u "java/lang/Object"), (0, u "<init>"), (0, u "()V"), (1, .class_ 10), (1, u "java/lang/Number"), (2, .class_ 14), (0, u "java/io/Serializable"), (0, u "serialVersionUID"), (0, u "J")] 20

def k8c0 : Code := { maxStack := 1, maxLocals := 1, code := jdk_18_method_1_code, exceptionTable := #[], attributes := #[] }
def k8m0 : Method := { name := "<init>", desc := "()V", sig := { parameters := [], returnType := none }, accessFlags := 1, code := some k8c0 }
/-- java/lang/Number -/
def k8 : Class := { plain "java/lang/Number" (some 0) with
  accessFlags := 1057
  interfaces := #[4]
  cf := some (fileOf pool8 8 #[] #[{ accessFlags := 1, nameIndex := 5, descriptorIndex := 6, attributes := #[] }] 1057 2 #[13] #[{ accessFlags := 26, nameIndex := 15, descriptorIndex := 16, attributes := #[] }])
  fields := #[{ name := "serialVersionUID", type := .long, accessFlags := 26, slot := 0, constantValue := 0 }]
  methods := #[k8m0]
  instanceTypes := #[]
  staticTypes := #[.long]
  resolved := Array.replicate 37 none
  statics := none }

def pool9 : Array CpInfo := pool [(1, .class_ 2), (0, u "java/lang/constant/ConstantDesc"), (0, .class_ 4), (0, u "java/lang/Object")] 32

/-- java/lang/constant/ConstantDesc -/
def k9 : Class := { plain "java/lang/constant/ConstantDesc" (some 0) with
  accessFlags := 1537
  interfaces := #[]
  cf := some (fileOf pool9 1 #[] #[] 1537 3 #[] #[])
  fields := #[]
  methods := #[]
  instanceTypes := #[]
  staticTypes := #[]
  resolved := Array.replicate 37 none
  statics := none }

def pool10 : Array CpInfo := pool [(1, .class_ 2), (0, u "java/lang/Integer"), (16, u "digits"), (0, u "[C"), (46, u "<init>"), (17, u "DigitOnes"), (0, u "[B"), (2, u "DigitTens"), (10, .nameAndType 67 101), (0, u "()V"), (85, u "valueOf"), (0, u "(I)Ljava/lang/Integer;"), (0, .class_ 190), (0, u "java/lang/Integer$IntegerCache"), (0, .fieldref 189 192), (0, .nameAndType 193 194), (0, u "high"), (0, u "I"), (0, .fieldref 189 196), (0, .nameAndType 197 198), (0, u "cache"), (0, u "[Ljava/lang/Integer;"), (0, .methodref 1 200), (0, .nameAndType 67 201), (0, u "(I)V"), (0, .methodref 203 100), (0, .class_ 204), (0, u "java/lang/Number"), (0, .fieldref 1 206), (0, .nameAndType 207 194), (0, u "value"), (94, u "TYPE"), (0, u "Ljava/lang/Class;"), (0, .class_ 305), (0, u "java/lang/Comparable"), (0, .class_ 307), (0, u "java/lang/constant/Constable"), (0, .class_ 309), (0, u "java/lang/constant/ConstantDesc"), (0, u "MIN_VALUE"), (1, u "MAX_VALUE"), (3, u "SIZE"), (1, u "BYTES"), (1, u "serialVersionUID"), (0, u "J")] 131

def k10c0 : Code := { maxStack := 3, maxLocals := 1, code := jdk_33_method_22_code, exceptionTable := #[], attributes := #[] }
def k10m0 : Method := { name := "valueOf", desc := "(I)Ljava/lang/Integer;", sig := { parameters := [.int], returnType := some (.object "java/lang/Integer") }, accessFlags := 9, code := some k10c0 }
def k10c1 : Code := { maxStack := 2, maxLocals := 2, code := jdk_33_method_23_code, exceptionTable := #[], attributes := #[] }
def k10m1 : Method := { name := "<init>", desc := "(I)V", sig := { parameters := [.int], returnType := none }, accessFlags := 1, code := some k10c1 }
/-- java/lang/Integer -/
def k10 : Class := { plain "java/lang/Integer" (some 8) with
  accessFlags := 49
  interfaces := #[3, 2, 9]
  cf := some (fileOf pool10 1 #[.nestMembers #[189]] #[{ accessFlags := 9, nameIndex := 187, descriptorIndex := 188, attributes := #[] }, { accessFlags := 1, nameIndex := 67, descriptorIndex := 201, attributes := #[] }] 49 203 #[304, 306, 308] #[{ accessFlags := 25, nameIndex := 310, descriptorIndex := 194, attributes := #[] }, { accessFlags := 25, nameIndex := 312, descriptorIndex := 194, attributes := #[] }, { accessFlags := 25, nameIndex := 302, descriptorIndex := 303, attributes := #[] }, { accessFlags := 24, nameIndex := 19, descriptorIndex := 20, attributes := #[] }, { accessFlags := 24, nameIndex := 89, descriptorIndex := 86, attributes := #[] }, { accessFlags := 24, nameIndex := 85, descriptorIndex := 86, attributes := #[] }, { accessFlags := 18, nameIndex := 207, descriptorIndex := 194, attributes := #[] }, { accessFlags := 25, nameIndex := 316, descriptorIndex := 194, attributes := #[] }, { accessFlags := 25, nameIndex := 318, descriptorIndex := 194, attributes := #[] }, { accessFlags := 26, nameIndex := 320, descriptorIndex := 321, attributes := #[] }])
  fields := #[{ name := "MIN_VALUE", type := .int, accessFlags := 25, slot := 0, constantValue := 0 }, { name := "MAX_VALUE", type := .int, accessFlags := 25, slot := 1, constantValue := 0 }, { name := "TYPE", type := (.object "java/lang/Class"), accessFlags := 25, slot := 2, constantValue := 0 }, { name := "digits", type := (.array .char), accessFlags := 24, slot := 3, constantValue := 0 }, { name := "DigitTens", type := (.array .byte), accessFlags := 24, slot := 4, constantValue := 0 }, { name := "DigitOnes", type := (.array .byte), accessFlags := 24, slot := 5, constantValue := 0 }, { name := "value", type := .int, accessFlags := 18, slot := 0, constantValue := 0 }, { name := "SIZE", type := .int, accessFlags := 25, slot := 6, constantValue := 0 }, { name := "BYTES", type := .int, accessFlags := 25, slot := 7, constantValue := 0 }, { name := "serialVersionUID", type := .long, accessFlags := 26, slot := 8, constantValue := 0 }]
  methods := #[k10m0, k10m1]
  instanceTypes := #[.int]
  staticTypes := #[.int, .int, (.object "java/lang/Class"), (.array .char), (.array .byte), (.array .byte), .int, .int, .long]
  resolved := Array.replicate 453 none
  statics := none }

def pool11 : Array CpInfo := pool [(2, .class_ 4), (1, u "java/lang/Object"), (0, u "<init>"), (0, u "()V"), (0, .class_ 8), (0, u "java/lang/Integer"), (7, .class_ 18), (1, u "java/lang/Integer$IntegerCache"), (0, u "$assertionsDisabled"), (0, u "Z"), (26, u "high"), (0, u "I"), (8, u "archivedCache"), (0, u "[Ljava/lang/Integer;"), (12, u "cache"), (0, u "low")] 27

def k11m0 : Method := { name := "<init>", desc := "()V", sig := { parameters := [], returnType := none }, accessFlags := 2, code := none }
/-- java/lang/Integer$IntegerCache -/
def k11 : Class := { plain "java/lang/Integer$IntegerCache" (some 0) with
  accessFlags := 48
  interfaces := #[]
  cf := some (fileOf pool11 16 #[.nestHost 7] #[{ accessFlags := 2, nameIndex := 5, descriptorIndex := 6, attributes := #[] }] 48 2 #[] #[{ accessFlags := 24, nameIndex := 72, descriptorIndex := 48, attributes := #[] }, { accessFlags := 24, nameIndex := 47, descriptorIndex := 48, attributes := #[] }, { accessFlags := 24, nameIndex := 71, descriptorIndex := 58, attributes := #[] }, { accessFlags := 8, nameIndex := 57, descriptorIndex := 58, attributes := #[] }, { accessFlags := 4120, nameIndex := 19, descriptorIndex := 20, attributes := #[] }])
  fields := #[{ name := "low", type := .int, accessFlags := 24, slot := 0, constantValue := 0 }, { name := "high", type := .int, accessFlags := 24, slot := 1, constantValue := 0 }, { name := "cache", type := (.array (.object "java/lang/Integer")), accessFlags := 24, slot := 2, constantValue := 0 }, { name := "archivedCache", type := (.array (.object "java/lang/Integer")), accessFlags := 8, slot := 3, constantValue := 0 }, { name := "$assertionsDisabled", type := .boolean, accessFlags := 4120, slot := 4, constantValue := 0 }]
  methods := #[k11m0]
  instanceTypes := #[]
  staticTypes := #[.int, .int, (.array (.object "java/lang/Integer")), (.array (.object "java/lang/Integer")), .boolean]
  resolved := Array.replicate 100 none
  statics := some 1 }

def pool12 : Array CpInfo := pool [(1, u "java/lang/Cloneable"), (0, .class_ 1), (0, u "java/lang/Object"), (0, .class_ 3)] 3

/-- java/lang/Cloneable -/
def k12 : Class := { plain "java/lang/Cloneable" (some 0) with
  accessFlags := 1537
  interfaces := #[]
  cf := some (fileOf pool12 2 #[] #[] 1537 4 #[] #[])
  fields := #[]
  methods := #[]
  instanceTypes := #[]
  staticTypes := #[]
  resolved := Array.replicate 8 none
  statics := none }

/-- the primitive byte -/
def k13 : Class := { plain "byte" none with kind := .primitive 'B', accessFlags := 0x411 }
/-- [B -/
def k14 : Class := { plain "[B" (some 0) with kind := .array 13 .byte, interfaces := #[12, 4], accessFlags := 1041 }

/-- the primitive int -/
def k15 : Class := { plain "int" none with kind := .primitive 'I', accessFlags := 0x411 }
/-- [I -/
def k16 : Class := { plain "[I" (some 0) with kind := .array 15 .int, interfaces := #[12, 4], accessFlags := 1041 }

/-- [Lcom/example/measured_cache/measuredcache/cache/Change; -/
def k17 : Class := { plain "[Lcom/example/measured_cache/measuredcache/cache/Change;" (some 0) with kind := .array 6 (.object "com/example/measured_cache/measuredcache/cache/Change"), interfaces := #[12, 4], accessFlags := 1041 }

/-- [Ljava/lang/Integer; -/
def k18 : Class := { plain "[Ljava/lang/Integer;" (some 0) with kind := .array 10 (.object "java/lang/Integer"), interfaces := #[12, 4], accessFlags := 1041 }

def heap : Heap := #[{ cls := 6, slots := #[.ref 262, .ref 263, .ref 260, .ref 261, .ref 259, .null], vm := .statics 6 },
  { cls := 11, slots := #[.int 0, .int 127, .ref 2, .null, .int 0], vm := .statics 11 },
  { cls := 18, slots := #[.ref 3, .ref 4, .ref 5, .ref 6, .ref 7, .ref 8, .ref 9, .ref 10, .ref 11, .ref 12, .ref 13, .ref 14, .ref 15, .ref 16, .ref 17, .ref 18, .ref 19, .ref 20, .ref 21, .ref 22, .ref 23, .ref 24, .ref 25, .ref 26, .ref 27, .ref 28, .ref 29, .ref 30, .ref 31, .ref 32, .ref 33, .ref 34, .ref 35, .ref 36, .ref 37, .ref 38, .ref 39, .ref 40, .ref 41, .ref 42, .ref 43, .ref 44, .ref 45, .ref 46, .ref 47, .ref 48, .ref 49, .ref 50, .ref 51, .ref 52, .ref 53, .ref 54, .ref 55, .ref 56, .ref 57, .ref 58, .ref 59, .ref 60, .ref 61, .ref 62, .ref 63, .ref 64, .ref 65, .ref 66, .ref 67, .ref 68, .ref 69, .ref 70, .ref 71, .ref 72, .ref 73, .ref 74, .ref 75, .ref 76, .ref 77, .ref 78, .ref 79, .ref 80, .ref 81, .ref 82, .ref 83, .ref 84, .ref 85, .ref 86, .ref 87, .ref 88, .ref 89, .ref 90, .ref 91, .ref 92, .ref 93, .ref 94, .ref 95, .ref 96, .ref 97, .ref 98, .ref 99, .ref 100, .ref 101, .ref 102, .ref 103, .ref 104, .ref 105, .ref 106, .ref 107, .ref 108, .ref 109, .ref 110, .ref 111, .ref 112, .ref 113, .ref 114, .ref 115, .ref 116, .ref 117, .ref 118, .ref 119, .ref 120, .ref 121, .ref 122, .ref 123, .ref 124, .ref 125, .ref 126, .ref 127, .ref 128, .ref 129, .ref 130, .ref 131, .ref 132, .ref 133, .ref 134, .ref 135, .ref 136, .ref 137, .ref 138, .ref 139, .ref 140, .ref 141, .ref 142, .ref 143, .ref 144, .ref 145, .ref 146, .ref 147, .ref 148, .ref 149, .ref 150, .ref 151, .ref 152, .ref 153, .ref 154, .ref 155, .ref 156, .ref 157, .ref 158, .ref 159, .ref 160, .ref 161, .ref 162, .ref 163, .ref 164, .ref 165, .ref 166, .ref 167, .ref 168, .ref 169, .ref 170, .ref 171, .ref 172, .ref 173, .ref 174, .ref 175, .ref 176, .ref 177, .ref 178, .ref 179, .ref 180, .ref 181, .ref 182, .ref 183, .ref 184, .ref 185, .ref 186, .ref 187, .ref 188, .ref 189, .ref 190, .ref 191, .ref 192, .ref 193, .ref 194, .ref 195, .ref 196, .ref 197, .ref 198, .ref 199, .ref 200, .ref 201, .ref 202, .ref 203, .ref 204, .ref 205, .ref 206, .ref 207, .ref 208, .ref 209, .ref 210, .ref 211, .ref 212, .ref 213, .ref 214, .ref 215, .ref 216, .ref 217, .ref 218, .ref 219, .ref 220, .ref 221, .ref 222, .ref 223, .ref 224, .ref 225, .ref 226, .ref 227, .ref 228, .ref 229, .ref 230, .ref 231, .ref 232, .ref 233, .ref 234, .ref 235, .ref 236, .ref 237, .ref 238, .ref 239, .ref 240, .ref 241, .ref 242, .ref 243, .ref 244, .ref 245, .ref 246, .ref 247, .ref 248, .ref 249, .ref 250, .ref 251, .ref 252, .ref 253, .ref 254, .ref 255, .ref 256, .ref 257, .ref 258], vm := .none },
  { cls := 10, slots := #[.int (-128)], vm := .none },
  { cls := 10, slots := #[.int (-127)], vm := .none },
  { cls := 10, slots := #[.int (-126)], vm := .none },
  { cls := 10, slots := #[.int (-125)], vm := .none },
  { cls := 10, slots := #[.int (-124)], vm := .none },
  { cls := 10, slots := #[.int (-123)], vm := .none },
  { cls := 10, slots := #[.int (-122)], vm := .none },
  { cls := 10, slots := #[.int (-121)], vm := .none },
  { cls := 10, slots := #[.int (-120)], vm := .none },
  { cls := 10, slots := #[.int (-119)], vm := .none },
  { cls := 10, slots := #[.int (-118)], vm := .none },
  { cls := 10, slots := #[.int (-117)], vm := .none },
  { cls := 10, slots := #[.int (-116)], vm := .none },
  { cls := 10, slots := #[.int (-115)], vm := .none },
  { cls := 10, slots := #[.int (-114)], vm := .none },
  { cls := 10, slots := #[.int (-113)], vm := .none },
  { cls := 10, slots := #[.int (-112)], vm := .none },
  { cls := 10, slots := #[.int (-111)], vm := .none },
  { cls := 10, slots := #[.int (-110)], vm := .none },
  { cls := 10, slots := #[.int (-109)], vm := .none },
  { cls := 10, slots := #[.int (-108)], vm := .none },
  { cls := 10, slots := #[.int (-107)], vm := .none },
  { cls := 10, slots := #[.int (-106)], vm := .none },
  { cls := 10, slots := #[.int (-105)], vm := .none },
  { cls := 10, slots := #[.int (-104)], vm := .none },
  { cls := 10, slots := #[.int (-103)], vm := .none },
  { cls := 10, slots := #[.int (-102)], vm := .none },
  { cls := 10, slots := #[.int (-101)], vm := .none },
  { cls := 10, slots := #[.int (-100)], vm := .none },
  { cls := 10, slots := #[.int (-99)], vm := .none },
  { cls := 10, slots := #[.int (-98)], vm := .none },
  { cls := 10, slots := #[.int (-97)], vm := .none },
  { cls := 10, slots := #[.int (-96)], vm := .none },
  { cls := 10, slots := #[.int (-95)], vm := .none },
  { cls := 10, slots := #[.int (-94)], vm := .none },
  { cls := 10, slots := #[.int (-93)], vm := .none },
  { cls := 10, slots := #[.int (-92)], vm := .none },
  { cls := 10, slots := #[.int (-91)], vm := .none },
  { cls := 10, slots := #[.int (-90)], vm := .none },
  { cls := 10, slots := #[.int (-89)], vm := .none },
  { cls := 10, slots := #[.int (-88)], vm := .none },
  { cls := 10, slots := #[.int (-87)], vm := .none },
  { cls := 10, slots := #[.int (-86)], vm := .none },
  { cls := 10, slots := #[.int (-85)], vm := .none },
  { cls := 10, slots := #[.int (-84)], vm := .none },
  { cls := 10, slots := #[.int (-83)], vm := .none },
  { cls := 10, slots := #[.int (-82)], vm := .none },
  { cls := 10, slots := #[.int (-81)], vm := .none },
  { cls := 10, slots := #[.int (-80)], vm := .none },
  { cls := 10, slots := #[.int (-79)], vm := .none },
  { cls := 10, slots := #[.int (-78)], vm := .none },
  { cls := 10, slots := #[.int (-77)], vm := .none },
  { cls := 10, slots := #[.int (-76)], vm := .none },
  { cls := 10, slots := #[.int (-75)], vm := .none },
  { cls := 10, slots := #[.int (-74)], vm := .none },
  { cls := 10, slots := #[.int (-73)], vm := .none },
  { cls := 10, slots := #[.int (-72)], vm := .none },
  { cls := 10, slots := #[.int (-71)], vm := .none },
  { cls := 10, slots := #[.int (-70)], vm := .none },
  { cls := 10, slots := #[.int (-69)], vm := .none },
  { cls := 10, slots := #[.int (-68)], vm := .none },
  { cls := 10, slots := #[.int (-67)], vm := .none },
  { cls := 10, slots := #[.int (-66)], vm := .none },
  { cls := 10, slots := #[.int (-65)], vm := .none },
  { cls := 10, slots := #[.int (-64)], vm := .none },
  { cls := 10, slots := #[.int (-63)], vm := .none },
  { cls := 10, slots := #[.int (-62)], vm := .none },
  { cls := 10, slots := #[.int (-61)], vm := .none },
  { cls := 10, slots := #[.int (-60)], vm := .none },
  { cls := 10, slots := #[.int (-59)], vm := .none },
  { cls := 10, slots := #[.int (-58)], vm := .none },
  { cls := 10, slots := #[.int (-57)], vm := .none },
  { cls := 10, slots := #[.int (-56)], vm := .none },
  { cls := 10, slots := #[.int (-55)], vm := .none },
  { cls := 10, slots := #[.int (-54)], vm := .none },
  { cls := 10, slots := #[.int (-53)], vm := .none },
  { cls := 10, slots := #[.int (-52)], vm := .none },
  { cls := 10, slots := #[.int (-51)], vm := .none },
  { cls := 10, slots := #[.int (-50)], vm := .none },
  { cls := 10, slots := #[.int (-49)], vm := .none },
  { cls := 10, slots := #[.int (-48)], vm := .none },
  { cls := 10, slots := #[.int (-47)], vm := .none },
  { cls := 10, slots := #[.int (-46)], vm := .none },
  { cls := 10, slots := #[.int (-45)], vm := .none },
  { cls := 10, slots := #[.int (-44)], vm := .none },
  { cls := 10, slots := #[.int (-43)], vm := .none },
  { cls := 10, slots := #[.int (-42)], vm := .none },
  { cls := 10, slots := #[.int (-41)], vm := .none },
  { cls := 10, slots := #[.int (-40)], vm := .none },
  { cls := 10, slots := #[.int (-39)], vm := .none },
  { cls := 10, slots := #[.int (-38)], vm := .none },
  { cls := 10, slots := #[.int (-37)], vm := .none },
  { cls := 10, slots := #[.int (-36)], vm := .none },
  { cls := 10, slots := #[.int (-35)], vm := .none },
  { cls := 10, slots := #[.int (-34)], vm := .none },
  { cls := 10, slots := #[.int (-33)], vm := .none },
  { cls := 10, slots := #[.int (-32)], vm := .none },
  { cls := 10, slots := #[.int (-31)], vm := .none },
  { cls := 10, slots := #[.int (-30)], vm := .none },
  { cls := 10, slots := #[.int (-29)], vm := .none },
  { cls := 10, slots := #[.int (-28)], vm := .none },
  { cls := 10, slots := #[.int (-27)], vm := .none },
  { cls := 10, slots := #[.int (-26)], vm := .none },
  { cls := 10, slots := #[.int (-25)], vm := .none },
  { cls := 10, slots := #[.int (-24)], vm := .none },
  { cls := 10, slots := #[.int (-23)], vm := .none },
  { cls := 10, slots := #[.int (-22)], vm := .none },
  { cls := 10, slots := #[.int (-21)], vm := .none },
  { cls := 10, slots := #[.int (-20)], vm := .none },
  { cls := 10, slots := #[.int (-19)], vm := .none },
  { cls := 10, slots := #[.int (-18)], vm := .none },
  { cls := 10, slots := #[.int (-17)], vm := .none },
  { cls := 10, slots := #[.int (-16)], vm := .none },
  { cls := 10, slots := #[.int (-15)], vm := .none },
  { cls := 10, slots := #[.int (-14)], vm := .none },
  { cls := 10, slots := #[.int (-13)], vm := .none },
  { cls := 10, slots := #[.int (-12)], vm := .none },
  { cls := 10, slots := #[.int (-11)], vm := .none },
  { cls := 10, slots := #[.int (-10)], vm := .none },
  { cls := 10, slots := #[.int (-9)], vm := .none },
  { cls := 10, slots := #[.int (-8)], vm := .none },
  { cls := 10, slots := #[.int (-7)], vm := .none },
  { cls := 10, slots := #[.int (-6)], vm := .none },
  { cls := 10, slots := #[.int (-5)], vm := .none },
  { cls := 10, slots := #[.int (-4)], vm := .none },
  { cls := 10, slots := #[.int (-3)], vm := .none },
  { cls := 10, slots := #[.int (-2)], vm := .none },
  { cls := 10, slots := #[.int (-1)], vm := .none },
  { cls := 10, slots := #[.int (0)], vm := .none },
  { cls := 10, slots := #[.int (1)], vm := .none },
  { cls := 10, slots := #[.int (2)], vm := .none },
  { cls := 10, slots := #[.int (3)], vm := .none },
  { cls := 10, slots := #[.int (4)], vm := .none },
  { cls := 10, slots := #[.int (5)], vm := .none },
  { cls := 10, slots := #[.int (6)], vm := .none },
  { cls := 10, slots := #[.int (7)], vm := .none },
  { cls := 10, slots := #[.int (8)], vm := .none },
  { cls := 10, slots := #[.int (9)], vm := .none },
  { cls := 10, slots := #[.int (10)], vm := .none },
  { cls := 10, slots := #[.int (11)], vm := .none },
  { cls := 10, slots := #[.int (12)], vm := .none },
  { cls := 10, slots := #[.int (13)], vm := .none },
  { cls := 10, slots := #[.int (14)], vm := .none },
  { cls := 10, slots := #[.int (15)], vm := .none },
  { cls := 10, slots := #[.int (16)], vm := .none },
  { cls := 10, slots := #[.int (17)], vm := .none },
  { cls := 10, slots := #[.int (18)], vm := .none },
  { cls := 10, slots := #[.int (19)], vm := .none },
  { cls := 10, slots := #[.int (20)], vm := .none },
  { cls := 10, slots := #[.int (21)], vm := .none },
  { cls := 10, slots := #[.int (22)], vm := .none },
  { cls := 10, slots := #[.int (23)], vm := .none },
  { cls := 10, slots := #[.int (24)], vm := .none },
  { cls := 10, slots := #[.int (25)], vm := .none },
  { cls := 10, slots := #[.int (26)], vm := .none },
  { cls := 10, slots := #[.int (27)], vm := .none },
  { cls := 10, slots := #[.int (28)], vm := .none },
  { cls := 10, slots := #[.int (29)], vm := .none },
  { cls := 10, slots := #[.int (30)], vm := .none },
  { cls := 10, slots := #[.int (31)], vm := .none },
  { cls := 10, slots := #[.int (32)], vm := .none },
  { cls := 10, slots := #[.int (33)], vm := .none },
  { cls := 10, slots := #[.int (34)], vm := .none },
  { cls := 10, slots := #[.int (35)], vm := .none },
  { cls := 10, slots := #[.int (36)], vm := .none },
  { cls := 10, slots := #[.int (37)], vm := .none },
  { cls := 10, slots := #[.int (38)], vm := .none },
  { cls := 10, slots := #[.int (39)], vm := .none },
  { cls := 10, slots := #[.int (40)], vm := .none },
  { cls := 10, slots := #[.int (41)], vm := .none },
  { cls := 10, slots := #[.int (42)], vm := .none },
  { cls := 10, slots := #[.int (43)], vm := .none },
  { cls := 10, slots := #[.int (44)], vm := .none },
  { cls := 10, slots := #[.int (45)], vm := .none },
  { cls := 10, slots := #[.int (46)], vm := .none },
  { cls := 10, slots := #[.int (47)], vm := .none },
  { cls := 10, slots := #[.int (48)], vm := .none },
  { cls := 10, slots := #[.int (49)], vm := .none },
  { cls := 10, slots := #[.int (50)], vm := .none },
  { cls := 10, slots := #[.int (51)], vm := .none },
  { cls := 10, slots := #[.int (52)], vm := .none },
  { cls := 10, slots := #[.int (53)], vm := .none },
  { cls := 10, slots := #[.int (54)], vm := .none },
  { cls := 10, slots := #[.int (55)], vm := .none },
  { cls := 10, slots := #[.int (56)], vm := .none },
  { cls := 10, slots := #[.int (57)], vm := .none },
  { cls := 10, slots := #[.int (58)], vm := .none },
  { cls := 10, slots := #[.int (59)], vm := .none },
  { cls := 10, slots := #[.int (60)], vm := .none },
  { cls := 10, slots := #[.int (61)], vm := .none },
  { cls := 10, slots := #[.int (62)], vm := .none },
  { cls := 10, slots := #[.int (63)], vm := .none },
  { cls := 10, slots := #[.int (64)], vm := .none },
  { cls := 10, slots := #[.int (65)], vm := .none },
  { cls := 10, slots := #[.int (66)], vm := .none },
  { cls := 10, slots := #[.int (67)], vm := .none },
  { cls := 10, slots := #[.int (68)], vm := .none },
  { cls := 10, slots := #[.int (69)], vm := .none },
  { cls := 10, slots := #[.int (70)], vm := .none },
  { cls := 10, slots := #[.int (71)], vm := .none },
  { cls := 10, slots := #[.int (72)], vm := .none },
  { cls := 10, slots := #[.int (73)], vm := .none },
  { cls := 10, slots := #[.int (74)], vm := .none },
  { cls := 10, slots := #[.int (75)], vm := .none },
  { cls := 10, slots := #[.int (76)], vm := .none },
  { cls := 10, slots := #[.int (77)], vm := .none },
  { cls := 10, slots := #[.int (78)], vm := .none },
  { cls := 10, slots := #[.int (79)], vm := .none },
  { cls := 10, slots := #[.int (80)], vm := .none },
  { cls := 10, slots := #[.int (81)], vm := .none },
  { cls := 10, slots := #[.int (82)], vm := .none },
  { cls := 10, slots := #[.int (83)], vm := .none },
  { cls := 10, slots := #[.int (84)], vm := .none },
  { cls := 10, slots := #[.int (85)], vm := .none },
  { cls := 10, slots := #[.int (86)], vm := .none },
  { cls := 10, slots := #[.int (87)], vm := .none },
  { cls := 10, slots := #[.int (88)], vm := .none },
  { cls := 10, slots := #[.int (89)], vm := .none },
  { cls := 10, slots := #[.int (90)], vm := .none },
  { cls := 10, slots := #[.int (91)], vm := .none },
  { cls := 10, slots := #[.int (92)], vm := .none },
  { cls := 10, slots := #[.int (93)], vm := .none },
  { cls := 10, slots := #[.int (94)], vm := .none },
  { cls := 10, slots := #[.int (95)], vm := .none },
  { cls := 10, slots := #[.int (96)], vm := .none },
  { cls := 10, slots := #[.int (97)], vm := .none },
  { cls := 10, slots := #[.int (98)], vm := .none },
  { cls := 10, slots := #[.int (99)], vm := .none },
  { cls := 10, slots := #[.int (100)], vm := .none },
  { cls := 10, slots := #[.int (101)], vm := .none },
  { cls := 10, slots := #[.int (102)], vm := .none },
  { cls := 10, slots := #[.int (103)], vm := .none },
  { cls := 10, slots := #[.int (104)], vm := .none },
  { cls := 10, slots := #[.int (105)], vm := .none },
  { cls := 10, slots := #[.int (106)], vm := .none },
  { cls := 10, slots := #[.int (107)], vm := .none },
  { cls := 10, slots := #[.int (108)], vm := .none },
  { cls := 10, slots := #[.int (109)], vm := .none },
  { cls := 10, slots := #[.int (110)], vm := .none },
  { cls := 10, slots := #[.int (111)], vm := .none },
  { cls := 10, slots := #[.int (112)], vm := .none },
  { cls := 10, slots := #[.int (113)], vm := .none },
  { cls := 10, slots := #[.int (114)], vm := .none },
  { cls := 10, slots := #[.int (115)], vm := .none },
  { cls := 10, slots := #[.int (116)], vm := .none },
  { cls := 10, slots := #[.int (117)], vm := .none },
  { cls := 10, slots := #[.int (118)], vm := .none },
  { cls := 10, slots := #[.int (119)], vm := .none },
  { cls := 10, slots := #[.int (120)], vm := .none },
  { cls := 10, slots := #[.int (121)], vm := .none },
  { cls := 10, slots := #[.int (122)], vm := .none },
  { cls := 10, slots := #[.int (123)], vm := .none },
  { cls := 10, slots := #[.int (124)], vm := .none },
  { cls := 10, slots := #[.int (125)], vm := .none },
  { cls := 10, slots := #[.int (126)], vm := .none },
  { cls := 10, slots := #[.int (127)], vm := .none },
  { cls := 6, slots := #[.null, .int 0, .int 0], vm := .none },
  { cls := 6, slots := #[.null, .int 1, .int 0], vm := .none },
  { cls := 6, slots := #[.null, .int 2, .int 0], vm := .none },
  { cls := 6, slots := #[.null, .int 3, .int 0], vm := .none },
  { cls := 6, slots := #[.null, .int 4, .int 0], vm := .none }]
def classes : Array Class := #[k0, k1, k2, k3, k4, k5, k6, k7, k8, k9, k10, k11, k12, k13, k14, k15, k16, k17, k18]
def interned : List (Array UInt16 × Addr) := []
def slotsUsed : Nat := 538
def theMethod : MethodId := ⟨1, 1⟩
def args0 : Array Value := #[.int 5, .int 3, .int 2]
def aboutOver (below : List Frame) : State where
  vm := { classes := classes, interned := interned.toArray }
  heap := heap
  slotsUsed := slotsUsed
  threads := #[{ frames := .invoking theMethod args0 :: below }]
def below0 : List Frame := [.native { method := ⟨0, 0⟩, args := #[] }]
def about1 : State := aboutOver below0
def p0 : Program := .bare "" "" ""
def e0 : Env := launch0.env 0 0 0
theorem w_frames : about1.frames = Frame.invoking theMethod args0 :: below0 := rfl
set_option maxRecDepth 65536 in
theorem w_args : argsFit about1.vm theMethod args0 = true := by decide +kernel
set_option maxRecDepth 65536 in
theorem w_heap : heapFits about1 = true := by decide +kernel
set_option maxRecDepth 65536 in
theorem w_runnable : about1.curStatus? = some .runnable := by decide +kernel
set_option maxRecDepth 65536 in
theorem w_alone : about1.alone = true := by decide +kernel
set_option maxRecDepth 65536 in
theorem w_named : about1.methodNamed? x = some theMethod := by decide +kernel
set_option maxRecDepth 65536 in
theorem w_hears : about1.hears theMethod below0 = true := by decide +kernel
set_option maxRecDepth 65536 in
theorem w_ripe : about1.ripe theMethod args0 below0 = true := by decide +kernel
theorem w_running : about1.status = .running := rfl
set_option maxRecDepth 65536 in
theorem w_room : about1.hasRoom e0.platform room_1 = true :=
  launch0.hasRoom_least _ room_1 (by decide +kernel) (by decide +kernel) (by decide +kernel) (by decide +kernel) (by decide +kernel) (by decide +kernel)
theorem allAtoms_all (ts : List Jvm.Cond) (a : Array Jvm.Value) (st : Jvm.State) : (allAtoms ts).before a st = ts.all (fun c => c.before a st) := by
  induction ts with
  | nil => rfl
  | cons c t ih =>
    show (Jvm.Cond.and c (allAtoms t)).before a st = _
    rw [Jvm.Cond.before_and, ih, List.all_cons]
def words1 : List Jvm.Cond := Jvm.Cond.code x code maxLocals ret :: tables_1
/-- a 'code' word, met by the world's own term for the bytes: nothing is compared byte by byte -/
theorem code_word {y : MethodName} {bytes : ByteArray} {mx : Nat} {rt : Option FieldType} {a : Array Value} {s : State} {m : MethodId} {meth : Method} {c : Code} (h1 : s.methodNamed? y = some m) (h2 : s.vm.method? m = some meth) (h3 : meth.code = some c) (h4 : c.code = bytes)
    (h5 : (c.maxLocals == mx && c.exceptionTable.isEmpty && decide (c.maxStack ≤ mostOperands) && decide (meth.sig.returnType = rt) && !meth.locks && decide (parseMethodDescriptor y.desc = some meth.sig)) = true) : (Jvm.Cond.code y bytes mx rt).before a s = true := by
  simp only [Bool.and_eq_true, beq_iff_eq, Bool.not_eq_true', decide_eq_true_eq] at h5
  obtain ⟨⟨⟨⟨⟨g1, g2⟩, g3⟩, g4⟩, g5⟩, g6⟩ := h5
  simp [Cond.before, Cond.holds, Cond.value, h1, h2, h3, h4, g1, g2, g3, g4, g5, g6]
def isCode : Jvm.Cond → Bool
  | .code _ _ _ _ => true
  | _ => false
theorem all_split {L : List Jvm.Cond} {P : Jvm.Cond → Bool} (h1 : L.all (fun c => isCode c || P c) = true) (h2 : ∀ c ∈ L.filter isCode, P c = true) : L.all P = true := by
  refine List.all_eq_true.mpr fun c hc => ?_
  have h := List.all_eq_true.mp h1 c hc
  rcases Bool.eq_false_or_eq_true (isCode c) with hi | hi
  · exact h2 c (List.mem_filter.mpr ⟨hc, hi⟩)
  · simpa [hi] using h
set_option maxRecDepth 65536 in
theorem w_c0 : (Jvm.Cond.code x code maxLocals ret).before args0 about1 = true := code_word (m := ⟨1, 1⟩) (meth := k1m1) (c := k1c1) (by decide +kernel) rfl rfl rfl (by decide +kernel)
set_option maxRecDepth 65536 in
theorem w_c1 : (Jvm.Cond.code ({ cls := "com/example/measured_cache/measuredcache/cache/Change", name := "of", desc := "(Lcom/example/measured_cache/measuredcache/cache/EntryVersion;Ljava/lang/Object;Lcom/example/measured_cache/measuredcache/cache/EntryVersion;)Lcom/example/measured_cache/measuredcache/cache/Change;" } : Jvm.MethodName) prog_5_method_4_code (3 : Nat) (Option.some (Jvm.ClassFile.FieldType.object "com/example/measured_cache/measuredcache/cache/Change"))).before args0 about1 = true := code_word (m := ⟨6, 0⟩) (meth := k6m0) (c := k6c0) (by decide +kernel) rfl rfl rfl (by decide +kernel)
set_option maxRecDepth 65536 in
theorem w_c2 : (Jvm.Cond.code ({ cls := "java/lang/Integer", name := "valueOf", desc := "(I)Ljava/lang/Integer;" } : Jvm.MethodName) jdk_33_method_22_code (1 : Nat) (Option.some (Jvm.ClassFile.FieldType.object "java/lang/Integer"))).before args0 about1 = true := code_word (m := ⟨10, 0⟩) (meth := k10m0) (c := k10c0) (by decide +kernel) rfl rfl rfl (by decide +kernel)
set_option maxRecDepth 65536 in
theorem w_c3 : (Jvm.Cond.code ({ cls := "com/example/measured_cache/measuredcache/cache/EntryVersion", name := "<init>", desc := "(Ljava/lang/Object;)V" } : Jvm.MethodName) prog_7_method_1_code (2 : Nat) (Option.none : Option Jvm.ClassFile.FieldType)).before args0 about1 = true := code_word (m := ⟨7, 0⟩) (meth := k7m0) (c := k7c0) (by decide +kernel) rfl rfl rfl (by decide +kernel)
set_option maxRecDepth 65536 in
theorem w_c4 : (Jvm.Cond.code ({ cls := "java/lang/Object", name := "<init>", desc := "()V" } : Jvm.MethodName) object_method_1_code (1 : Nat) (Option.none : Option Jvm.ClassFile.FieldType)).before args0 about1 = true := code_word (m := ⟨0, 0⟩) (meth := k0m0) (c := k0c0) (by decide +kernel) rfl rfl rfl (by decide +kernel)
set_option maxRecDepth 65536 in
theorem w_c5 : (Jvm.Cond.code ({ cls := "java/lang/Integer", name := "<init>", desc := "(I)V" } : Jvm.MethodName) jdk_33_method_23_code (2 : Nat) (Option.none : Option Jvm.ClassFile.FieldType)).before args0 about1 = true := code_word (m := ⟨10, 1⟩) (meth := k10m1) (c := k10c1) (by decide +kernel) rfl rfl rfl (by decide +kernel)
set_option maxRecDepth 65536 in
theorem w_c6 : (Jvm.Cond.code ({ cls := "java/lang/Number", name := "<init>", desc := "()V" } : Jvm.MethodName) jdk_18_method_1_code (1 : Nat) (Option.none : Option Jvm.ClassFile.FieldType)).before args0 about1 = true := code_word (m := ⟨8, 0⟩) (meth := k8m0) (c := k8c0) (by decide +kernel) rfl rfl rfl (by decide +kernel)
def codes1 : List Jvm.Cond := [Jvm.Cond.code x code maxLocals ret, Jvm.Cond.code ({ cls := "com/example/measured_cache/measuredcache/cache/Change", name := "of", desc := "(Lcom/example/measured_cache/measuredcache/cache/EntryVersion;Ljava/lang/Object;Lcom/example/measured_cache/measuredcache/cache/EntryVersion;)Lcom/example/measured_cache/measuredcache/cache/Change;" } : Jvm.MethodName) prog_5_method_4_code (3 : Nat) (Option.some (Jvm.ClassFile.FieldType.object "com/example/measured_cache/measuredcache/cache/Change")), Jvm.Cond.code ({ cls := "java/lang/Integer", name := "valueOf", desc := "(I)Ljava/lang/Integer;" } : Jvm.MethodName) jdk_33_method_22_code (1 : Nat) (Option.some (Jvm.ClassFile.FieldType.object "java/lang/Integer")), Jvm.Cond.code ({ cls := "com/example/measured_cache/measuredcache/cache/EntryVersion", name := "<init>", desc := "(Ljava/lang/Object;)V" } : Jvm.MethodName) prog_7_method_1_code (2 : Nat) (Option.none : Option Jvm.ClassFile.FieldType), Jvm.Cond.code ({ cls := "java/lang/Object", name := "<init>", desc := "()V" } : Jvm.MethodName) object_method_1_code (1 : Nat) (Option.none : Option Jvm.ClassFile.FieldType), Jvm.Cond.code ({ cls := "java/lang/Integer", name := "<init>", desc := "(I)V" } : Jvm.MethodName) jdk_33_method_23_code (2 : Nat) (Option.none : Option Jvm.ClassFile.FieldType), Jvm.Cond.code ({ cls := "java/lang/Number", name := "<init>", desc := "()V" } : Jvm.MethodName) jdk_18_method_1_code (1 : Nat) (Option.none : Option Jvm.ClassFile.FieldType)]
set_option maxRecDepth 65536 in
theorem codes_eq : words1.filter isCode = codes1 := rfl
theorem w_codes : ∀ c ∈ words1.filter isCode, c.before args0 about1 = true := by
  rw [codes_eq]
  intro c hc
  simp only [codes1, List.mem_cons, List.not_mem_nil, or_false] at hc
  rcases hc with rfl | rfl | rfl | rfl | rfl | rfl | rfl
  · exact w_c0
  · exact w_c1
  · exact w_c2
  · exact w_c3
  · exact w_c4
  · exact w_c5
  · exact w_c6
set_option maxRecDepth 65536 in
theorem w_t1 : (words1.take 24).all (fun c => isCode c || c.before args0 about1) = true := by decide +kernel
set_option maxRecDepth 65536 in
theorem w_t2 : ((words1.drop 24).take 24).all (fun c => isCode c || c.before args0 about1) = true := by decide +kernel
set_option maxRecDepth 65536 in
theorem w_t3 : ((words1.drop 24).drop 24).all (fun c => isCode c || c.before args0 about1) = true := by decide +kernel
theorem w_tables : (allAtoms (Jvm.Cond.code x code maxLocals ret :: tables_1)).before args0 about1 = true := by
  rw [allAtoms_all]
  show words1.all (fun c => c.before args0 about1) = true
  refine all_split ?_ w_codes
  rw [← List.take_append_drop 24 words1, List.all_append, w_t1, ← List.take_append_drop 24 (words1.drop 24), List.all_append, w_t2, w_t3]
  rfl
set_option maxRecDepth 65536 in
theorem w_rest : rest_1_c.before args0 about1 = true := by decide +kernel
set_option maxRecDepth 65536 in
theorem w_case : (Jvm.Cond.and given_1 narrow_1).before args0 about1 = true := by decide +kernel
theorem w_applies : (headSpec (Jvm.Cond.code x code maxLocals ret :: tables_1) room_1).applies x e0.platform about1 = true :=
  (Spec.applies_iff w_frames).mpr ⟨w_running, w_runnable, w_alone, w_named, w_hears, w_ripe, w_room, w_tables⟩
theorem atStart : AtStart classFile x code maxLocals ret World_1 tables_1 room_1 Calls_1 rest_1 Pre_1 launch0 p0 e0 about1 theMethod args0 below0 :=
  ⟨lists_1, trivial, launch0.admits_env _ _ _, launch0.least_env, fairChoices_fair.cas, fairChoices_fair.clock, w_frames, w_args, w_heap, w_applies, trivial, w_rest, w_case⟩
end start1
theorem witness_1 : WitnessClaimed_1 := ⟨start1.p0, start1.e0, start1.about1, start1.theMethod, start1.args0, start1.below0, start1.atStart⟩
end Jvm.Pilot.@@N@@
