import JvmDerived
import JvmDerived.Pilot.@@N@@Statement
import JvmDerived.Pilot.@@N@@Code
set_option linter.unusedVariables false
set_option linter.unusedSimpArgs false
namespace Jvm.Pilot.@@N@@
open Jvm Jvm.ClassFile Sem Op Lib Jvm.Free Jvm.Stand Jvm.LawKit Jvm.RoadKit Bundle Jvm.Pilot.@@N@@.Jvm.D
/-! steps, taken forward -/
theorem own_fw {tb : Tables} {e : Env} {below : List Frame} {A A' : State} {P : State → Outcome → Prop} (h : ∀ t, Steps tb e below A' t → Steps tb e below A t) (g : ∃ U o, Steps tb e below A' U ∧ P U o) : ∃ U o, Steps tb e below A U ∧ P U o := by
  obtain ⟨U, o, s, r⟩ := g
  exact ⟨U, o, h U s, r⟩
theorem own_st {tb : Tables} {e : Env} {below : List Frame} {A A' t : State} (h : ∀ t, Steps tb e below A' t → Steps tb e below A t) (g : Steps tb e below A' t) : Steps tb e below A t := h t g
theorem own_plainE {Z : State} {h : Heap} {a : Addr} {C : String} (F : Exa Z h a C) : ∀ cell : Cell, h[a]? = some cell → cell.vm.isStatics = false := fun cell hc => by
  obtain ⟨c1, k1, h1, -, -, h4, -⟩ := F
  cases h1.symm.trans hc
  exact h4
theorem own_plainV {Z : State} {h : Heap} {a : Addr} {k : ClassId} {ty : FieldType} {z : Int32} {vs : List Value} {dv : Value} (F : Arv Z h a k ty z vs dv) : ∀ cell : Cell, h[a]? = some cell → cell.vm.isStatics = false := fun cell hc => by
  obtain ⟨c1, A, -⟩ := F
  cases A.1.symm.trans hc
  exact A.plain
theorem own_staKeep {Z : State} {h h' : Heap} {C n d : String} {v : Value} {ws : List Addr} (F : Sta Z h C n d v) (K : Keep h h' ws) (q : ∀ x ∈ ws, ∀ cell : Cell, h[x]? = some cell → cell.vm.isStatics = false) : Sta Z h' C n d v := by
  obtain ⟨cf, i, k, f, st, cell, h1, h2, h3, h4, h5, h6, h7⟩ := F
  exact ⟨cf, i, k, f, st, cell, h1, h2, h3, h4, K.2.1 st cell h5 (fun m => by rw [q st m cell h5] at h6; cases h6), h6, h7⟩
theorem own_insLt {Z : State} {h : Heap} {a : Addr} {C : String} {bo : Bool} (F : Ins Z h a C bo) : a < h.size := by
  obtain ⟨cell, cT, h1, -⟩ := F
  exact (Array.getElem?_eq_some_iff.mp h1).1
theorem own_insKeep {Z : State} {h h' : Heap} {a : Addr} {C : String} {bo : Bool} {ws : List Addr} (F : Ins Z h a C bo) (K : Keep h h' ws) : Ins Z h' a C bo := by
  obtain ⟨cell, cT, h1, h2, h3⟩ := F
  obtain ⟨c', e1, e2, e3, -⟩ := K.2.2 a cell h1
  exact ⟨c', cT, e1, h2, by rw [e2, e3]; exact h3⟩


def own_kind (p : Int32) (r0 r1 r2 : Addr) : Addr := if p = (0 : Int32) then r0 else if p = (1 : Int32) then r1 else r2
def own_peq (k1 k2 : Addr) (a b c a' b' c' : Int64) : Int32 := if ((.ref k1) : Value) = (.ref k2) then (if a = a' then (if b = b' then (if c = c' then (1 : Int32) else (0 : Int32)) else (0 : Int32)) else (0 : Int32)) else (0 : Int32)
theorem own_self (k : Addr) (a b c : Int64) : ¬ own_peq k k a b c a b c = (0 : Int32) := by
  simp [own_peq]
theorem own_m3 (x y : Int32) (h : y = ((x &&& (2147483647 : Int32)) % (3 : Int32))) : y = 0 ∨ y = 1 ∨ y = 2 := by
  have m := c_mask x 2147483647 31 (by decide) (by decide)
  have r := (c_irem (x &&& (2147483647 : Int32)) 3 3 (by decide)).1 (by omega)
  rw [← h] at r
  have e0 : (0 : Int32).toInt = 0 := by decide
  have e1 : (1 : Int32).toInt = 1 := by decide
  have e2 : (2 : Int32).toInt = 2 := by decide
  simp only [← Int32.toInt_inj, e0, e1, e2]
  omega
theorem own_kb (x mo ka kb : Int32) (ha : ka = 0 ∨ ka = 1 ∨ ka = 2) (h : kb = (if (mo &&& (8 : Int32)) = (0 : Int32) then ((((x.toUInt32 >>> ((8 : Int32) &&& 31).toUInt32).toInt32) &&& (2147483647 : Int32)) % (3 : Int32)) else ka)) : kb = 0 ∨ kb = 1 ∨ kb = 2 := by
  by_cases q : (mo &&& (8 : Int32)) = (0 : Int32)
  · rw [if_pos q] at h
    exact own_m3 _ _ h
  · rw [if_neg q] at h
    rw [h]
    exact ha
theorem own_k {ka kb : Int32} {r0 r1 r2 b1 b2 : Addr} (h1 : b1 = own_kind ka r0 r1 r2) (h2 : b2 = own_kind kb r0 r1 r2) (n01 : r0 ≠ r1) (n02 : r0 ≠ r2) (n12 : r1 ≠ r2) (ha : ka = 0 ∨ ka = 1 ∨ ka = 2) (hb : kb = 0 ∨ kb = 1 ∨ kb = 2) : ((.ref b1 : Value) = .ref b2) ↔ ka = kb := by
  have k0 : own_kind 0 r0 r1 r2 = r0 := by simp [own_kind]
  have k1 : own_kind 1 r0 r1 r2 = r1 := by simp [own_kind]
  have k2 : own_kind 2 r0 r1 r2 = r2 := by simp [own_kind]
  have d01 : ¬ (0 : Int32) = 1 := by decide
  have d02 : ¬ (0 : Int32) = 2 := by decide
  have d12 : ¬ (1 : Int32) = 2 := by decide
  have d10 : ¬ (1 : Int32) = 0 := by decide
  have d20 : ¬ (2 : Int32) = 0 := by decide
  have d21 : ¬ (2 : Int32) = 1 := by decide
  rcases ha with rfl | rfl | rfl <;> rcases hb with rfl | rfl | rfl <;> simp only [k0, k1, k2] at h1 h2 <;> subst h1 h2 <;> simp [n01, n02, n12, n01.symm, n02.symm, n12.symm, d01, d02, d12, d10, d20, d21]


theorem own_widen {s t : State} {o : Outcome} {L : List Loc} {k n k' n' : Nat} (h : ReturnedEndW s o t L k n) (hk : k ≤ k') (hn : n ≤ n') : ReturnedEndW s o t L k' n' := ⟨h.1, h.2.1, h.2.2.1, h.2.2.2.mono hk hn⟩
theorem own_wS {a0 : Array Value} {Z : State} (hw : ∀ d ∈ tables_1, d.before a0 Z = true) : ∀ a ∈ Bundle.stringAtoms, a.before a0 Z = true := by
  intro a ha
  simp only [Bundle.stringAtoms, List.mem_cons, List.not_mem_nil, or_false] at ha
  rcases ha with rfl | rfl | rfl | rfl | rfl | rfl | rfl
  · exact (hw _ (List.mem_of_getElem? (i := 18) rfl))
  · exact (hw _ (List.mem_of_getElem? (i := 19) rfl))
  · exact (hw _ (List.mem_of_getElem? (i := 20) rfl))
  · exact (hw _ (List.mem_of_getElem? (i := 21) rfl))
  · exact (hw _ (List.mem_of_getElem? (i := 22) rfl))
  · exact (hw _ (List.mem_of_getElem? (i := 23) rfl))
  · exact (hw _ (List.mem_of_getElem? (i := 24) rfl))


theorem own_len {args : Array Value} {s : State} {t : Term} {a : Addr} {z : Int32} {cl : Cell} (h : (Jvm.Cond.eq (.length t) (.int z)).value args s none s [] = some true) (ht : t.eval args s none [] s = some (.ref a)) (ha : s.arrayAt? a = some cl) : cl.slots.size < 2 ^ 31 ∧ cl.slots.size.toInt32 = z := by
  obtain ⟨x, y, ex, ey, -, -⟩ := cmp_v (Or.inl h)
  have hy : y = .int z := by simpa [Term.eval] using ey.symm
  subst hy
  by_cases hl : cl.slots.size < 2 ^ 31
  · have e := len_f ht ha hl
    exact ⟨hl, by simpa [Cond.value, e, ey] using h⟩
  · exfalso
    simp [Term.eval, ht, ha, hl] at ex

def own_Cache (Z : State) (h : Heap) (ca : Addr) (C : String) : Prop := ∃ cl : Cell, Arr Z h ca cl (.object C) ∧ cl.slots.size = 256 ∧ ∀ i, i < 256 → ∃ b, cl.slots[i]? = some (.ref b) ∧ Exa Z h b C
theorem own_cacheLt {Z : State} {h : Heap} {ca : Addr} {C : String} (F : own_Cache Z h ca C) : ca < h.size := by
  obtain ⟨cl, A, -⟩ := F
  exact A.lt
theorem own_cacheExt {Z : State} {h h' : Heap} {ca : Addr} {C : String} (F : own_Cache Z h ca C) (E : Ext h h') : own_Cache Z h' ca C := by
  obtain ⟨cl, A, s, q⟩ := F
  exact ⟨cl, A.ext E, s, fun i hi => by obtain ⟨b, h1, h2⟩ := q i hi; exact ⟨b, h1, h2.ext E⟩⟩
theorem own_cacheWr {Z : State} {h h' : Heap} {ca a : Addr} {C : String} {sl : Nat} {v : Value} (F : own_Cache Z h ca C) (W : Wr h h' a sl v) (ne : ca ≠ a) : own_Cache Z h' ca C := by
  obtain ⟨cl, A, s, q⟩ := F
  exact ⟨cl, A.other W ne, s, fun i hi => by obtain ⟨b, h1, h2⟩ := q i hi; exact ⟨b, h1, h2.wr W⟩⟩
theorem own_cacheKeep {Z : State} {h h' : Heap} {ca : Addr} {C : String} {ws : List Addr} (F : own_Cache Z h ca C) (K : Keep h h' ws) (ne : ca ∉ ws) : own_Cache Z h' ca C := by
  obtain ⟨cl, A, s, q⟩ := F
  exact ⟨cl, ⟨K.2.1 ca cl A.1 ne, A.2⟩, s, fun i hi => by obtain ⟨b, h1, h2⟩ := q i hi; exact ⟨b, h1, h2.keep K⟩⟩
theorem own_cacheStart {args : Array Value} {s : State} {C0 f d C : String} {Y : Jvm.Cond} {ca : Addr} (ev : (Term.static C0 f d).eval args s none [] s = some (.ref ca)) (h2 : (Jvm.Cond.arrayOf (Term.static C0 f d) (.object C)).value args s none s [] = some true)
    (h4 : (Jvm.Cond.eq (.length (Term.static C0 f d)) (.int 256)).value args s none s [] = some true) (h5 : (Jvm.Cond.all (Term.static C0 f d) (.and (.exactly (.elem (Term.static C0 f d) (.index 0)) C) Y)).value args s none s [] = some true) : own_Cache s s.heap ca C := by
  obtain ⟨cl, A⟩ := Arr.start ev h2
  have ha := A.fin (Vm.Alike.refl _)
  have hs : cl.slots.size = 256 := by
    obtain ⟨hl, q⟩ := own_len h4 ev ha
    have q2 := congrArg Int32.toInt q
    rw [len_toInt hl] at q2
    have e3 : (256 : Int32).toInt = 256 := by decide
    omega
  refine ⟨cl, A, hs, fun i hi => ?_⟩
  have q := (and_e (Cond.all_elim ev ha h5 i (by omega))).1
  obtain ⟨b, c', cell, k, e1, e2, e3, e4, e5, e6, e7⟩ := Cond.exactly_spec (beq_iff_eq.mpr q : (Jvm.Cond.exactly (.elem (Term.static C0 f d) (.index 0)) C).holds args s none s [i] = true)
  have evi : (Term.static C0 f d).eval args s none [i] s = some (.ref ca) := by simpa [Term.eval] using ev
  have evj : (Term.index 0).eval args s none [i] s = some (.int i.toInt32) := by simp [Term.eval]
  obtain ⟨-, g⟩ := elem_in e1 evi evj A.1
  have ti : i.toInt32.toNatClampNeg = i := by
    have t := len_toInt (n := i) (by omega)
    simp [Int32.toNatClampNeg, t]
  rw [ti] at g
  subst e6
  exact ⟨b, g, cell, k, e3, e2, e4, e5, e7⟩


theorem own_nsRoot {Z : State} {a0 : Array Value} {O K : String} {n : Nat} (w : (Jvm.Cond.noSuperclass O).before a0 Z = true) (wk : (Jvm.Cond.instantiable K n).before a0 Z = true) (hn : O ≠ K) : NS Z O K := by
  obtain ⟨c, k, h1, h2, h3, -, -⟩ := Cond.noSuperclass_spec w
  obtain ⟨t, kt, g1, -⟩ := Cond.instantiable_spec wk
  have ne := ids_ne h1 g1 hn
  refine ⟨c, t, h1, g1, fun fuel => ?_⟩
  cases fuel with
  | zero => rfl
  | succ f => simp [Vm.isSubclassAux, ne, h2, h3]
theorem own_nsNo {Z : State} {a0 : Array Value} {C S K : String} {n : Nat} (w : (Jvm.Cond.superclass C S).before a0 Z = true) (wk : (Jvm.Cond.instantiable K n).before a0 Z = true) (ns : NS Z C K) (hn : C ≠ K) : ∃ c t, Z.vm.findClass C = some c ∧ Z.vm.findClass K = some t ∧ Z.vm.assignable c t = false := by
  obtain ⟨c, t, h0, g0, n3⟩ := ns
  obtain ⟨p, k, kp, h1, h2, h3, h4, h5, -, h7⟩ := Cond.superclass_spec h0 w
  obtain ⟨t', k', g1, g2, g5, g6, -⟩ := Cond.instantiable_spec wk
  cases g0.symm.trans g1
  have ne := ids_ne h0 g0 hn
  have g7 : k'.isInterface = false := by
    cases hi : k'.isInterface
    · rfl
    · rw [hi] at g6; simp at g6
  refine ⟨c, t, h0, g0, ?_⟩
  show Z.vm.assignableAux (255 + 1) c t = false
  simp [Vm.assignableAux, ne, h2, g2, h5, g5, g7, Vm.isSubclass, n3]


theorem own_fldI {args : Array Value} {s : State} {t : Term} {C n d : String} {z : Int32} {r : Addr} (ht : t.eval args s none [] s = some (.ref r)) (h : (Jvm.Cond.eq (.field t C n d) (.int z)).value args s none s [] = some true) : Fld s s.heap r C n d (.int z) := by
  obtain ⟨x, y, ex, ey, k1, k2⟩ := cmp_v (Or.inl h)
  have hy : y = .int z := by simpa [Term.eval] using ey.symm
  subst hy
  obtain ⟨w, rfl⟩ : ∃ w, x = .int w := k2
  have e : w = z := by simpa [Cond.value, ex, ey] using h
  subst e
  exact Fld.start (by rw [← fld_at (C := C) (n := n) (dd := d) ht]; exact ex)
theorem own_fldJ {args : Array Value} {s : State} {t : Term} {C n d : String} {z : Int64} {r : Addr} (ht : t.eval args s none [] s = some (.ref r)) (h : (Jvm.Cond.eq (.field t C n d) (.long z)).value args s none s [] = some true) : Fld s s.heap r C n d (.long z) := by
  obtain ⟨x, y, ex, ey, k1, k2⟩ := cmp_v (Or.inl h)
  have hy : y = .long z := by simpa [Term.eval] using ey.symm
  subst hy
  obtain ⟨w, rfl⟩ : ∃ w, x = .long w := k2
  have e : w = z := by simpa [Cond.value, ex, ey] using h
  subst e
  exact Fld.start (by rw [← fld_at (C := C) (n := n) (dd := d) ht]; exact ex)

theorem pn_java_lang_Number : plainName "java/lang/Number" = true := by first | (simp [plainName, overriddenIn]; done) | decide +kernel
theorem d_jdk_18_method_1_code_0 : decode jdk_18_method_1_code 0 = .ok (.aload_n 0, 1) := by decide +kernel
theorem d_jdk_18_method_1_code_1 : decode jdk_18_method_1_code 1 = .ok (.invokespecial 1, 3) := by decide +kernel
theorem d_jdk_18_method_1_code_4 : decode jdk_18_method_1_code 4 = .ok (.return_, 1) := by decide +kernel
theorem ef_rmNumber (m : MethodId) (a1 : Addr) : entryFrame m #[(.ref a1)] 1 = mkF m 0 #[.val (.ref a1)] [] := by first | (simp [entryFrame, mkF, argsToLocals, Value.category]; done) | rfl
def Q_rmNumber (Z : State) (a1 : Addr) (h0 : Heap) (n0 : Nat) (v : Option Value) (h : Heap) (L : List Loc) : Prop := v = none ∧ Fr n0 L ∧ h = h0
set_option maxRecDepth 65536 in
set_option maxHeartbeats 40000000 in
theorem rmNumber (l : Launch) (Z : State) (a0 : Array Value) (hw : ∀ d ∈ tables_1, d.before a0 Z = true) (ws : List Jvm.Cond) (a1 : Addr) (h0 : Heap) (n0 : Nat) (Z0 : n0 ≤ h0.size)  :
    MetFree l (⟨"java/lang/Number", "<init>", "()V"⟩ : MethodName) (head1 (Jvm.Cond.code (⟨"java/lang/Number", "<init>", "()V"⟩ : MethodName) jdk_18_method_1_code 1 none :: ws) ({ frames := 1, cells := 0, slots := 0, locals := 12 } : Room)) (fun a U => a = #[(.ref a1)] ∧ Z.Warmed39 U.vm ∧ U.heap = h0) (fun _ _ _ _ _ => True) (fun _ U o U' => ∃ v L, o = .returned v ∧ Q_rmNumber Z a1 h0 n0 v U'.heap L ∧ FrameEnd U o U' L ({ frames := 1, cells := 0, slots := 0, locals := 12 } : Room).cells ({ frames := 1, cells := 0, slots := 0, locals := 12 } : Room).slots) := by
  refine MetFree.of_bodySF (plainFor_of_name pn_java_lang_Number) hisR ?_
  intro p e s m args below meth c s₁ Bd hml0 hP hK
  obtain ⟨rfl, hZ, hh⟩ := hP
  have hx := Bd.exec
  have hby := Bd.bytes
  have hml : c.maxLocals = 1 := hml0
  have hown : s.vm.findClass "java/lang/Number" = some m.cls := findClass_of_methodNamed Bd.named
  have hnm := (name_of_methodNamed Bd.named Bd.method).1
  have X0 : Stand p l e ({ frames := 1, cells := 0, slots := 0, locals := 12 } : Room) s m #[(.ref a1)] below meth c s₁ [] 0 0 := Stand.of_body Bd
  have e0 : s₁.heap = h0 := by rw [← hh, Bd.state]; rfl
  have N0 := Fr.nil n0
  refine own_fw (A' := (s₁.setTop (mkF m 0 #[.val (.ref a1)] []))) (fun t k => castTop (ef_rmNumber m a1) k) ?_
  refine own_fw (A' := (s₁.setTop (mkF m 1 #[.val (.ref a1)] [(.ref a1)]))) (fun t k => XS.aloadN X0.here hx rfl (hb hby d_jdk_18_method_1_code_0) rfl rfl k) ?_
  obtain ⟨T1, X1, e1, st1⟩ := initO X0 hx hZ hown (hw _ (List.mem_of_getElem? (i := 73) rfl)) (hw _ (List.mem_of_getElem? (i := 15) rfl)) (hw _ (List.mem_of_getElem? (i := 16) rfl)) e0 (g := (mkF m 1 #[.val (.ref a1)] [(.ref a1)])) rfl (by rw [hml]; rfl) rfl (hb hby d_jdk_18_method_1_code_1) (by decide) (W := 0) (by show 2 * 0 + _ ≤ _; exact Nat.le_of_eq rfl) (by decide)
  refine own_fw (A' := (T1.setTop (mkF m 4 #[.val (.ref a1)] []))) (fun t k => st1 _ k) ?_
  obtain ⟨fs, hr, hrun, hended, hW, hsame⟩ := X1.leave (v := none) (fun _ => rfl)
  refine ⟨_, _, ?_, hrun, hended, _, _, rfl, ?_, ⟨_, rfl⟩, hW, hsame.mono (by decide) (by decide)⟩
  · exact X1.returnOut hx Bd.returns (hb hby d_jdk_18_method_1_code_4) hr
  · show Q_rmNumber Z a1 h0 n0 _ T1.heap _
    rw [e1]
    exact ⟨rfl, N0, rfl⟩
theorem pn_java_lang_Long : plainName "java/lang/Long" = true := by first | (simp [plainName, overriddenIn]; done) | decide +kernel
theorem d_jdk_35_method_26_code_0 : decode jdk_35_method_26_code 0 = .ok (.aload_n 0, 1) := by decide +kernel
theorem d_jdk_35_method_26_code_1 : decode jdk_35_method_26_code 1 = .ok (.invokespecial 270, 3) := by decide +kernel
theorem pd___V : parseMethodDescriptor "()V" = some ⟨[], none⟩ := by decide +kernel
theorem d_jdk_35_method_26_code_4 : decode jdk_35_method_26_code 4 = .ok (.aload_n 0, 1) := by decide +kernel
theorem d_jdk_35_method_26_code_5 : decode jdk_35_method_26_code 5 = .ok (.lload_n 1, 1) := by decide +kernel
theorem d_jdk_35_method_26_code_6 : decode jdk_35_method_26_code 6 = .ok (.putfield 273, 3) := by decide +kernel
theorem d_jdk_35_method_26_code_9 : decode jdk_35_method_26_code 9 = .ok (.return_, 1) := by decide +kernel
theorem ef_rmLongInit (m : MethodId) (a1 : Addr) (q2 : Int64) : entryFrame m #[(.ref a1), (.long q2)] 3 = mkF m 0 #[.val (.ref a1), .val (.long q2), .second] [] := by first | (simp [entryFrame, mkF, argsToLocals, Value.category]; done) | rfl
def Q_rmLongInit (Z : State) (a1 : Addr) (q2 : Int64) (h0 : Heap) (n0 : Nat) (v : Option Value) (h : Heap) (L : List Loc) : Prop := v = none ∧ Fr n0 L ∧ Keep h0 h [a1] ∧ Exa Z h a1 "java/lang/Long"
set_option maxRecDepth 65536 in
set_option maxHeartbeats 40000000 in
theorem rmLongInit (l : Launch) (Z : State) (a0 : Array Value) (hw : ∀ d ∈ tables_1, d.before a0 Z = true) (ws : List Jvm.Cond) (a1 : Addr) (q2 : Int64) (h0 : Heap) (n0 : Nat) (Z0 : n0 ≤ h0.size) (P0 : Exa Z h0 a1 "java/lang/Long") (P1 : Fld Z h0 a1 "java/lang/Long" "value" "J" (.long (0 : Int64))) (g_a1 : n0 ≤ a1) :
    MetFree l (⟨"java/lang/Long", "<init>", "(J)V"⟩ : MethodName) (head1 (Jvm.Cond.code (⟨"java/lang/Long", "<init>", "(J)V"⟩ : MethodName) jdk_35_method_26_code 3 none :: ws) ({ frames := 2, cells := 0, slots := 0, locals := 24 } : Room)) (fun a U => a = #[(.ref a1), (.long q2)] ∧ Z.Warmed39 U.vm ∧ U.heap = h0) (fun _ _ _ _ _ => True) (fun _ U o U' => ∃ v L, o = .returned v ∧ Q_rmLongInit Z a1 q2 h0 n0 v U'.heap L ∧ FrameEnd U o U' L ({ frames := 2, cells := 0, slots := 0, locals := 24 } : Room).cells ({ frames := 2, cells := 0, slots := 0, locals := 24 } : Room).slots) := by
  refine MetFree.of_bodySF (plainFor_of_name pn_java_lang_Long) hisR ?_
  intro p e s m args below meth c s₁ Bd hml0 hP hK
  obtain ⟨rfl, hZ, hh⟩ := hP
  have hx := Bd.exec
  have hby := Bd.bytes
  have hml : c.maxLocals = 3 := hml0
  have hown : s.vm.findClass "java/lang/Long" = some m.cls := findClass_of_methodNamed Bd.named
  have hnm := (name_of_methodNamed Bd.named Bd.method).1
  have X0 : Stand p l e ({ frames := 2, cells := 0, slots := 0, locals := 24 } : Room) s m #[(.ref a1), (.long q2)] below meth c s₁ [] 0 0 := Stand.of_body Bd
  have e0 : s₁.heap = h0 := by rw [← hh, Bd.state]; rfl
  have N0 := Fr.nil n0
  refine own_fw (A' := (s₁.setTop (mkF m 0 #[.val (.ref a1), .val (.long q2), .second] []))) (fun t k => castTop (ef_rmLongInit m a1 q2) k) ?_
  refine own_fw (A' := (s₁.setTop (mkF m 1 #[.val (.ref a1), .val (.long q2), .second] [(.ref a1)]))) (fun t k => XS.aloadN X0.here hx rfl (hb hby d_jdk_35_method_26_code_0) rfl rfl k) ?_
  obtain ⟨_, _, ⟨T1, L1, k1, n1⟩, -, X1, ⟨Lc1, hQ1, l1, y1, z1⟩, st1⟩ := X0.specialBack hx (y := (⟨"java/lang/Number", "<init>", "()V"⟩ : MethodName)) rfl hown (mvT hZ (hw _ (List.mem_of_getElem? (i := 67) rfl))) (mvT hZ (hw _ (List.mem_of_getElem? (i := 68) rfl))) (mvT hZ (hw _ (List.mem_of_getElem? (i := 72) rfl))) (by decide) (backOf (W := 0) (rmNumber l Z a0 hw [] a1 h0 n0 Z0 ) hZ (hw _ (List.mem_of_getElem? (i := 72) rfl)) (hw _ (List.mem_of_getElem? (i := 71) rfl)) (by decide) (by decide)) (g := (mkF m 1 #[.val (.ref a1), .val (.long q2), .second] [(.ref a1)])) rfl (by rw [hml]; rfl) (Steps.refl _) (a := a1) (argsL := []) (rest := []) (lenOf pd___V rfl) rfl (by show 2 * 0 + _ ≤ _; exact Nat.le_of_eq rfl) (hb hby d_jdk_35_method_26_code_1) (fun _ _ => ⟨rfl, e0, (by decide : 0 + 0 ≤ _), (by decide : 0 + 0 ≤ _)⟩)
  dsimp only [Pt.U, Pt.locs, Pt.cells, Pt.slots] at X1 l1 y1 z1 st1 hQ1
  subst l1 y1 z1
  obtain ⟨rfl, Nq1, e1⟩ := hQ1
  have Nf1 := Fr.app N0 Nq1
  refine own_fw (A' := (T1.setTop (mkF m 4 #[.val (.ref a1), .val (.long q2), .second] []))) (fun t k => st1.trans k) ?_
  refine own_fw (A' := (T1.setTop (mkF m 5 #[.val (.ref a1), .val (.long q2), .second] [(.ref a1)]))) (fun t k => XS.aloadN X1.here hx rfl (hb hby d_jdk_35_method_26_code_4) rfl rfl k) ?_
  refine own_fw (A' := (T1.setTop (mkF m 6 #[.val (.ref a1), .val (.long q2), .second] [(.long q2), (.ref a1)]))) (fun t k => XS.lloadN X1.here hx rfl (hb hby d_jdk_35_method_26_code_5) rfl k) ?_
  obtain ⟨T2, h2, X2, e2, W2, st2⟩ := putF X1 hx hZ hown (host := "") (Or.inl (hw _ (List.mem_of_getElem? (i := 74) rfl))) Via.refl e1 P1 P0 (Or.inr ⟨(hw _ (List.mem_of_getElem? (i := 75) rfl)), rfl, hnm⟩) (hw _ (List.mem_of_getElem? (i := 62) rfl)) (ty := .long) (by decide) rfl rfl (g := (mkF m 6 #[.val (.ref a1), .val (.long q2), .second] [(.long q2), (.ref a1)])) rfl rfl (hb hby d_jdk_35_method_26_code_6)
  have Fw2 : Fld Z h2 a1 "java/lang/Long" "value" "J" (.long q2) := P1.same W2
  have Nf2 := Fr.snoc X2 Nf1 g_a1
  have K2 : Keep h0 h2 [a1] := (Keep.refl h0 [a1]).wr W2 (Or.inl (List.mem_of_getElem? (i := 0) rfl))
  have Z2 : n0 ≤ h2.size := Nat.le_trans Z0 (Keep.of_wr W2).1
  refine own_fw (A' := (T2.setTop (mkF m 9 #[.val (.ref a1), .val (.long q2), .second] []))) (fun t k => st2 _ k) ?_
  obtain ⟨fs, hr, hrun, hended, hW, hsame⟩ := X2.leave (v := none) (fun _ => rfl)
  refine ⟨_, _, ?_, hrun, hended, _, _, rfl, ?_, ⟨_, rfl⟩, hW, hsame.mono (by decide) (by decide)⟩
  · exact X2.returnOut hx Bd.returns (hb hby d_jdk_35_method_26_code_9) hr
  · show Q_rmLongInit Z a1 q2 h0 n0 _ T2.heap _
    rw [e2]
    exact ⟨rfl, Nf2, K2, (P0.wr W2)⟩
theorem d_jdk_35_method_24_code_0 : decode jdk_35_method_24_code 0 = .ok (.sipush 128, 3) := by decide +kernel
theorem d_jdk_35_method_24_code_3 : decode jdk_35_method_24_code 3 = .ok (.istore_n 2, 1) := by decide +kernel
theorem d_jdk_35_method_24_code_4 : decode jdk_35_method_24_code 4 = .ok (.lload_n 0, 1) := by decide +kernel
theorem d_jdk_35_method_24_code_5 : decode jdk_35_method_24_code 5 = .ok (.ldc2_w 230, 3) := by decide +kernel
theorem d_jdk_35_method_24_code_8 : decode jdk_35_method_24_code 8 = .ok (.lcmp, 1) := by decide +kernel
theorem d_jdk_35_method_24_code_9 : decode jdk_35_method_24_code 9 = .ok (.ifCond .lt 22, 3) := by decide +kernel
theorem d_jdk_35_method_24_code_31 : decode jdk_35_method_24_code 31 = .ok (.new 1, 3) := by decide +kernel
theorem d_jdk_35_method_24_code_34 : decode jdk_35_method_24_code 34 = .ok (.dup, 1) := by decide +kernel
theorem d_jdk_35_method_24_code_35 : decode jdk_35_method_24_code 35 = .ok (.lload_n 0, 1) := by decide +kernel
theorem d_jdk_35_method_24_code_36 : decode jdk_35_method_24_code 36 = .ok (.invokespecial 240, 3) := by decide +kernel
theorem pd__J_V : parseMethodDescriptor "(J)V" = some ⟨[.long], none⟩ := by decide +kernel
theorem d_jdk_35_method_24_code_39 : decode jdk_35_method_24_code 39 = .ok (.areturn, 1) := by decide +kernel
theorem d_jdk_35_method_24_code_12 : decode jdk_35_method_24_code 12 = .ok (.lload_n 0, 1) := by decide +kernel
theorem d_jdk_35_method_24_code_13 : decode jdk_35_method_24_code 13 = .ok (.ldc2_w 232, 3) := by decide +kernel
theorem d_jdk_35_method_24_code_16 : decode jdk_35_method_24_code 16 = .ok (.lcmp, 1) := by decide +kernel
theorem d_jdk_35_method_24_code_17 : decode jdk_35_method_24_code 17 = .ok (.ifCond .gt 14, 3) := by decide +kernel
theorem d_jdk_35_method_24_code_20 : decode jdk_35_method_24_code 20 = .ok (.getstatic 234, 3) := by decide +kernel
theorem d_jdk_35_method_24_code_23 : decode jdk_35_method_24_code 23 = .ok (.lload_n 0, 1) := by decide +kernel
theorem d_jdk_35_method_24_code_24 : decode jdk_35_method_24_code 24 = .ok (.l2i, 1) := by decide +kernel
theorem d_jdk_35_method_24_code_25 : decode jdk_35_method_24_code 25 = .ok (.sipush 128, 3) := by decide +kernel
theorem d_jdk_35_method_24_code_28 : decode jdk_35_method_24_code 28 = .ok (.iadd, 1) := by decide +kernel
theorem d_jdk_35_method_24_code_29 : decode jdk_35_method_24_code 29 = .ok (.aaload, 1) := by decide +kernel
theorem d_jdk_35_method_24_code_30 : decode jdk_35_method_24_code 30 = .ok (.areturn, 1) := by decide +kernel
theorem ef_rmLongOf (m : MethodId) (q1 : Int64) : entryFrame m #[(.long q1)] 3 = mkF m 0 #[.val (.long q1), .second, .unset] [] := by first | (simp [entryFrame, mkF, argsToLocals, Value.category]; done) | rfl
def Q_rmLongOf (Z : State) (q1 : Int64) (ca : Addr) (h0 : Heap) (n0 : Nat) (v : Option Value) (h : Heap) (L : List Loc) : Prop := ∃ b : Addr, v = some (.ref b) ∧ Fr n0 L ∧ Keep h0 h [] ∧ Exa Z h b "java/lang/Long"
set_option maxRecDepth 65536 in
set_option maxHeartbeats 40000000 in
theorem rmLongOf (l : Launch) (Z : State) (a0 : Array Value) (hw : ∀ d ∈ tables_1, d.before a0 Z = true) (ws : List Jvm.Cond) (q1 : Int64) (ca : Addr) (h0 : Heap) (n0 : Nat) (Z0 : n0 ≤ h0.size) (P0 : Sta Z h0 "java/lang/Long$LongCache" "cache" "[Ljava/lang/Long;" (.ref ca)) (P1 : own_Cache Z h0 ca "java/lang/Long") :
    MetFree l (⟨"java/lang/Long", "valueOf", "(J)Ljava/lang/Long;"⟩ : MethodName) (head1 (Jvm.Cond.code (⟨"java/lang/Long", "valueOf", "(J)Ljava/lang/Long;"⟩ : MethodName) jdk_35_method_24_code 3 (some (.object "java/lang/Long")) :: ws) ({ frames := 3, cells := 1, slots := 1, locals := 39 } : Room)) (fun a U => a = #[(.long q1)] ∧ Z.Warmed39 U.vm ∧ U.heap = h0) (fun _ _ _ _ _ => True) (fun _ U o U' => ∃ v L, o = .returned v ∧ Q_rmLongOf Z q1 ca h0 n0 v U'.heap L ∧ FrameEnd U o U' L ({ frames := 3, cells := 1, slots := 1, locals := 39 } : Room).cells ({ frames := 3, cells := 1, slots := 1, locals := 39 } : Room).slots) := by
  refine MetFree.of_bodySF (plainFor_of_name pn_java_lang_Long) hisR ?_
  intro p e s m args below meth c s₁ Bd hml0 hP hK
  obtain ⟨rfl, hZ, hh⟩ := hP
  have hx := Bd.exec
  have hby := Bd.bytes
  have hml : c.maxLocals = 3 := hml0
  have hown : s.vm.findClass "java/lang/Long" = some m.cls := findClass_of_methodNamed Bd.named
  have hnm := (name_of_methodNamed Bd.named Bd.method).1
  have X0 : Stand p l e ({ frames := 3, cells := 1, slots := 1, locals := 39 } : Room) s m #[(.long q1)] below meth c s₁ [] 0 0 := Stand.of_body Bd
  have e0 : s₁.heap = h0 := by rw [← hh, Bd.state]; rfl
  have N0 := Fr.nil n0
  refine own_fw (A' := (s₁.setTop (mkF m 0 #[.val (.long q1), .second, .unset] []))) (fun t k => castTop (ef_rmLongOf m q1) k) ?_
  refine own_fw (A' := (s₁.setTop (mkF m 3 #[.val (.long q1), .second, .unset] [(.int (128 : Int32))]))) (fun t k => XS.sipush X0.here hx rfl (hb hby d_jdk_35_method_24_code_0) k) ?_
  refine own_fw (A' := (s₁.setTop (mkF m 4 #[.val (.long q1), .second, .val (.int (128 : Int32))] []))) (fun t k => XS.istoreN X0.here hx rfl (hb hby d_jdk_35_method_24_code_3) rfl (l' := #[.val (.long q1), .second, .val (.int (128 : Int32))]) rfl k) ?_
  refine own_fw (A' := (s₁.setTop (mkF m 5 #[.val (.long q1), .second, .val (.int (128 : Int32))] [(.long q1)]))) (fun t k => XS.lloadN X0.here hx rfl (hb hby d_jdk_35_method_24_code_4) rfl k) ?_
  refine own_fw (A' := (s₁.setTop (mkF m 8 #[.val (.long q1), .second, .val (.int (128 : Int32))] [(.long (-128 : Int64)), (.long q1)]))) (fun t k => X0.ldc2Long hx hown (mvT hZ (hw _ (List.mem_of_getElem? (i := 54) rfl))) (g := (mkF m 5 #[.val (.long q1), .second, .val (.int (128 : Int32))] [(.long q1)])) rfl (hb hby d_jdk_35_method_24_code_5) _ k) ?_
  refine own_fw (A' := (s₁.setTop (mkF m 9 #[.val (.long q1), .second, .val (.int (128 : Int32))] [(.int (XT.cmpL q1 (-128 : Int64)))]))) (fun t k => XT.lcmp X0.here hx rfl (hb hby d_jdk_35_method_24_code_8) rfl k) ?_
  by_cases hlo : q1 < (-128 : Int64)
  · refine own_fw (A' := (s₁.setTop (mkF m 31 #[.val (.long q1), .second, .val (.int (128 : Int32))] []))) (fun t k => XS.ifYes X0.here hx rfl (pc0 := 9) (pc' := 31) rfl (hb hby d_jdk_35_method_24_code_9) rfl (XT.ll_lt_t hlo) (by decide) (by decide) k) ?_
    obtain ⟨T1, h1, X1, e1, E1, A1, D1, -, st1⟩ := newO X0 hx hZ hown (hw _ (List.mem_of_getElem? (i := 61) rfl)) (hw _ (List.mem_of_getElem? (i := 62) rfl)) (hw _ (List.mem_of_getElem? (i := 52) rfl)) e0 (g := (mkF m 31 #[.val (.long q1), .second, .val (.int (128 : Int32))] [])) rfl (hb hby d_jdk_35_method_24_code_31) (by decide) (by decide)
    obtain ⟨b1, gb1⟩ : ∃ z, z = h0.size := ⟨_, rfl⟩
    have g_b1 : n0 ≤ b1 := Nat.le_trans Z0 (Nat.le_of_eq gb1.symm)
    have sz_b1 : h0.size ≤ b1 := Nat.le_trans (Keep.refl h0 []).1 (Nat.le_of_eq gb1.symm)
    have ne_ca_b1 : ca ≠ b1 := Nat.ne_of_lt (Nat.lt_of_lt_of_le (own_cacheLt P1) (Nat.le_of_eq gb1.symm))
    rw [← gb1] at A1 D1 st1
    have F_value_b1 : Fld Z h1 b1 "java/lang/Long" "value" "J" (.long (0 : Int64)) := D1 (Or.inr (hw _ (List.mem_of_getElem? (i := 75) rfl))) (ty := .long) (by decide)
    have K1 : Keep h0 h1 [] := (Keep.refl h0 []).ext E1
    have Z1 : n0 ≤ h1.size := Nat.le_trans Z0 E1.1
    refine own_fw (A' := (T1.setTop (mkF m 34 #[.val (.long q1), .second, .val (.int (128 : Int32))] [(.ref b1)]))) (fun t k => st1 _ k) ?_
    refine own_fw (A' := (T1.setTop (mkF m 35 #[.val (.long q1), .second, .val (.int (128 : Int32))] [(.ref b1), (.ref b1)]))) (fun t k => XS.dup X1.here hx rfl (hb hby d_jdk_35_method_24_code_34) rfl rfl k) ?_
    refine own_fw (A' := (T1.setTop (mkF m 36 #[.val (.long q1), .second, .val (.int (128 : Int32))] [(.long q1), (.ref b1), (.ref b1)]))) (fun t k => XS.lloadN X1.here hx rfl (hb hby d_jdk_35_method_24_code_35) rfl k) ?_
    obtain ⟨_, _, ⟨T2, L2, k2, n2⟩, -, X2, ⟨Lc2, hQ2, l2, y2, z2⟩, st2⟩ := X1.specialBack hx (y := (⟨"java/lang/Long", "<init>", "(J)V"⟩ : MethodName)) rfl hown (mvT hZ (hw _ (List.mem_of_getElem? (i := 63) rfl))) (mvT hZ (hw _ (List.mem_of_getElem? (i := 64) rfl))) (mvT hZ (hw _ (List.mem_of_getElem? (i := 66) rfl))) (by decide) (backOf (W := 1) (rmLongInit l Z a0 hw [] b1 q1 h1 n0 Z1 A1 F_value_b1 g_b1) hZ (hw _ (List.mem_of_getElem? (i := 66) rfl)) (hw _ (List.mem_of_getElem? (i := 52) rfl)) (by decide) (by decide)) (g := (mkF m 36 #[.val (.long q1), .second, .val (.int (128 : Int32))] [(.long q1), (.ref b1), (.ref b1)])) rfl (by rw [hml]; rfl) (Steps.refl _) (a := b1) (argsL := [(.long q1)]) (rest := [(.ref b1)]) (lenOf pd__J_V rfl) rfl (by show 2 * 0 + _ ≤ _; exact Nat.le_of_eq rfl) (hb hby d_jdk_35_method_24_code_36) (fun _ _ => ⟨rfl, e1, (by decide : 1 + 0 ≤ _), (by decide : 1 + 0 ≤ _)⟩)
    dsimp only [Pt.U, Pt.locs, Pt.cells, Pt.slots] at X2 l2 y2 z2 st2 hQ2
    subst l2 y2 z2
    obtain ⟨rfl, Nq2, Kq2, Fq2_0⟩ := hQ2
    have Nf2 := Fr.app N0 Nq2
    have K2 : Keep h0 T2.heap [] := K1.trans Kq2 (allS (Or.inr sz_b1) all0)
    have Z2 : n0 ≤ T2.heap.size := Nat.le_trans Z1 Kq2.1
    refine own_fw (A' := (T2.setTop (mkF m 39 #[.val (.long q1), .second, .val (.int (128 : Int32))] [(.ref b1)]))) (fun t k => st2.trans k) ?_
    obtain ⟨fs, hr, hrun, hended, hW, hsame⟩ := X2.leave (v := some (.ref b1)) (fun h => by rw [Bd.returns] at h; cases h)
    refine ⟨_, _, ?_, hrun, hended, _, _, rfl, ?_, ⟨_, rfl⟩, hW, hsame.mono (by decide) (by decide)⟩
    · exact retOut X2 hx Bd.returns rfl (Or.inr (Or.inr (Or.inr (Or.inr ⟨rfl, rfl, rfl⟩)))) (hb hby d_jdk_35_method_24_code_39) hr
    · show Q_rmLongOf Z q1 ca h0 n0 _ T2.heap _
      exact ⟨b1, rfl, Nf2, K2, Fq2_0⟩
  · refine own_fw (A' := (s₁.setTop (mkF m 12 #[.val (.long q1), .second, .val (.int (128 : Int32))] []))) (fun t k => XS.ifNo X0.here hx rfl (hb hby d_jdk_35_method_24_code_9) rfl (XT.ll_lt_f hlo) k) ?_
    refine own_fw (A' := (s₁.setTop (mkF m 13 #[.val (.long q1), .second, .val (.int (128 : Int32))] [(.long q1)]))) (fun t k => XS.lloadN X0.here hx rfl (hb hby d_jdk_35_method_24_code_12) rfl k) ?_
    refine own_fw (A' := (s₁.setTop (mkF m 16 #[.val (.long q1), .second, .val (.int (128 : Int32))] [(.long (127 : Int64)), (.long q1)]))) (fun t k => X0.ldc2Long hx hown (mvT hZ (hw _ (List.mem_of_getElem? (i := 55) rfl))) (g := (mkF m 13 #[.val (.long q1), .second, .val (.int (128 : Int32))] [(.long q1)])) rfl (hb hby d_jdk_35_method_24_code_13) _ k) ?_
    refine own_fw (A' := (s₁.setTop (mkF m 17 #[.val (.long q1), .second, .val (.int (128 : Int32))] [(.int (XT.cmpL q1 (127 : Int64)))]))) (fun t k => XT.lcmp X0.here hx rfl (hb hby d_jdk_35_method_24_code_16) rfl k) ?_
    by_cases hhi : (127 : Int64) < q1
    · refine own_fw (A' := (s₁.setTop (mkF m 31 #[.val (.long q1), .second, .val (.int (128 : Int32))] []))) (fun t k => XS.ifYes X0.here hx rfl (pc0 := 17) (pc' := 31) rfl (hb hby d_jdk_35_method_24_code_17) rfl (XT.ll_gt_t hhi) (by decide) (by decide) k) ?_
      obtain ⟨T3, h3, X3, e3, E3, A3, D3, -, st3⟩ := newO X0 hx hZ hown (hw _ (List.mem_of_getElem? (i := 61) rfl)) (hw _ (List.mem_of_getElem? (i := 62) rfl)) (hw _ (List.mem_of_getElem? (i := 52) rfl)) e0 (g := (mkF m 31 #[.val (.long q1), .second, .val (.int (128 : Int32))] [])) rfl (hb hby d_jdk_35_method_24_code_31) (by decide) (by decide)
      obtain ⟨b3, gb3⟩ : ∃ z, z = h0.size := ⟨_, rfl⟩
      have g_b3 : n0 ≤ b3 := Nat.le_trans Z0 (Nat.le_of_eq gb3.symm)
      have sz_b3 : h0.size ≤ b3 := Nat.le_trans (Keep.refl h0 []).1 (Nat.le_of_eq gb3.symm)
      have ne_ca_b3 : ca ≠ b3 := Nat.ne_of_lt (Nat.lt_of_lt_of_le (own_cacheLt P1) (Nat.le_of_eq gb3.symm))
      rw [← gb3] at A3 D3 st3
      have F_value_b3 : Fld Z h3 b3 "java/lang/Long" "value" "J" (.long (0 : Int64)) := D3 (Or.inr (hw _ (List.mem_of_getElem? (i := 75) rfl))) (ty := .long) (by decide)
      have K3 : Keep h0 h3 [] := (Keep.refl h0 []).ext E3
      have Z3 : n0 ≤ h3.size := Nat.le_trans Z0 E3.1
      refine own_fw (A' := (T3.setTop (mkF m 34 #[.val (.long q1), .second, .val (.int (128 : Int32))] [(.ref b3)]))) (fun t k => st3 _ k) ?_
      refine own_fw (A' := (T3.setTop (mkF m 35 #[.val (.long q1), .second, .val (.int (128 : Int32))] [(.ref b3), (.ref b3)]))) (fun t k => XS.dup X3.here hx rfl (hb hby d_jdk_35_method_24_code_34) rfl rfl k) ?_
      refine own_fw (A' := (T3.setTop (mkF m 36 #[.val (.long q1), .second, .val (.int (128 : Int32))] [(.long q1), (.ref b3), (.ref b3)]))) (fun t k => XS.lloadN X3.here hx rfl (hb hby d_jdk_35_method_24_code_35) rfl k) ?_
      obtain ⟨_, _, ⟨T4, L4, k4, n4⟩, -, X4, ⟨Lc4, hQ4, l4, y4, z4⟩, st4⟩ := X3.specialBack hx (y := (⟨"java/lang/Long", "<init>", "(J)V"⟩ : MethodName)) rfl hown (mvT hZ (hw _ (List.mem_of_getElem? (i := 63) rfl))) (mvT hZ (hw _ (List.mem_of_getElem? (i := 64) rfl))) (mvT hZ (hw _ (List.mem_of_getElem? (i := 66) rfl))) (by decide) (backOf (W := 1) (rmLongInit l Z a0 hw [] b3 q1 h3 n0 Z3 A3 F_value_b3 g_b3) hZ (hw _ (List.mem_of_getElem? (i := 66) rfl)) (hw _ (List.mem_of_getElem? (i := 52) rfl)) (by decide) (by decide)) (g := (mkF m 36 #[.val (.long q1), .second, .val (.int (128 : Int32))] [(.long q1), (.ref b3), (.ref b3)])) rfl (by rw [hml]; rfl) (Steps.refl _) (a := b3) (argsL := [(.long q1)]) (rest := [(.ref b3)]) (lenOf pd__J_V rfl) rfl (by show 2 * 0 + _ ≤ _; exact Nat.le_of_eq rfl) (hb hby d_jdk_35_method_24_code_36) (fun _ _ => ⟨rfl, e3, (by decide : 1 + 0 ≤ _), (by decide : 1 + 0 ≤ _)⟩)
      dsimp only [Pt.U, Pt.locs, Pt.cells, Pt.slots] at X4 l4 y4 z4 st4 hQ4
      subst l4 y4 z4
      obtain ⟨rfl, Nq4, Kq4, Fq4_0⟩ := hQ4
      have Nf4 := Fr.app N0 Nq4
      have K4 : Keep h0 T4.heap [] := K3.trans Kq4 (allS (Or.inr sz_b3) all0)
      have Z4 : n0 ≤ T4.heap.size := Nat.le_trans Z3 Kq4.1
      refine own_fw (A' := (T4.setTop (mkF m 39 #[.val (.long q1), .second, .val (.int (128 : Int32))] [(.ref b3)]))) (fun t k => st4.trans k) ?_
      obtain ⟨fs, hr, hrun, hended, hW, hsame⟩ := X4.leave (v := some (.ref b3)) (fun h => by rw [Bd.returns] at h; cases h)
      refine ⟨_, _, ?_, hrun, hended, _, _, rfl, ?_, ⟨_, rfl⟩, hW, hsame.mono (by decide) (by decide)⟩
      · exact retOut X4 hx Bd.returns rfl (Or.inr (Or.inr (Or.inr (Or.inr ⟨rfl, rfl, rfl⟩)))) (hb hby d_jdk_35_method_24_code_39) hr
      · show Q_rmLongOf Z q1 ca h0 n0 _ T4.heap _
        exact ⟨b3, rfl, Nf4, K4, Fq4_0⟩
    · refine own_fw (A' := (s₁.setTop (mkF m 20 #[.val (.long q1), .second, .val (.int (128 : Int32))] []))) (fun t k => XS.ifNo X0.here hx rfl (hb hby d_jdk_35_method_24_code_17) rfl (XT.ll_gt_f hhi) k) ?_
      obtain ⟨T5, X5, e5, st5⟩ := getS2 X0 hx hZ hown (host := "") (Or.inl (hw _ (List.mem_of_getElem? (i := 56) rfl))) Via.refl e0 P0 (g := (mkF m 20 #[.val (.long q1), .second, .val (.int (128 : Int32))] [])) rfl (hb hby d_jdk_35_method_24_code_20)
      refine own_fw (A' := (T5.setTop (mkF m 23 #[.val (.long q1), .second, .val (.int (128 : Int32))] [(.ref ca)]))) (fun t k => st5 _ k) ?_
      refine own_fw (A' := (T5.setTop (mkF m 24 #[.val (.long q1), .second, .val (.int (128 : Int32))] [(.long q1), (.ref ca)]))) (fun t k => XS.lloadN X5.here hx rfl (hb hby d_jdk_35_method_24_code_23) rfl k) ?_
      refine own_fw (A' := (T5.setTop (mkF m 25 #[.val (.long q1), .second, .val (.int (128 : Int32))] [(.int (q1.toInt32)), (.ref ca)]))) (fun t k => XS.l2i X5.here hx rfl (hb hby d_jdk_35_method_24_code_24) rfl k) ?_
      refine own_fw (A' := (T5.setTop (mkF m 28 #[.val (.long q1), .second, .val (.int (128 : Int32))] [(.int (128 : Int32)), (.int (q1.toInt32)), (.ref ca)]))) (fun t k => XS.sipush X5.here hx rfl (hb hby d_jdk_35_method_24_code_25) k) ?_
      refine own_fw (A' := (T5.setTop (mkF m 29 #[.val (.long q1), .second, .val (.int (128 : Int32))] [(.int ((q1.toInt32) + (128 : Int32))), (.ref ca)]))) (fun t k => XS.iadd X5.here hx rfl (hb hby d_jdk_35_method_24_code_28) rfl k) ?_
      obtain ⟨cl6, Ar6, S6, El6⟩ := id P1
      have hin6 : ¬ (((q1.toInt32) + (128 : Int32)) < 0 ∨ cl6.slots.size ≤ (((q1.toInt32) + (128 : Int32))).toNatClampNeg) := by rw [S6]; exact (Jvm.Free.LongBox.place_okL q1 hlo hhi).1
      obtain ⟨bx6, hat6, Eb6⟩ := El6 ((((q1.toInt32) + (128 : Int32))).toNatClampNeg) (Jvm.Free.LongBox.place_okL q1 hlo hhi).2
      refine own_fw (A' := (T5.setTop (mkF m 30 #[.val (.long q1), .second, .val (.int (128 : Int32))] [(.ref bx6)]))) (fun t k => X5.aaload hx (j := ((q1.toInt32) + (128 : Int32))) (v := (.ref bx6)) (by rw [e5]; exact Ar6.1) (State.isArrayOf_alike hZ.alike Ar6.2.1) rfl Ar6.2.2 hin6 hat6 (g := (mkF m 29 #[.val (.long q1), .second, .val (.int (128 : Int32))] [(.int ((q1.toInt32) + (128 : Int32))), (.ref ca)])) rfl rfl (hb hby d_jdk_35_method_24_code_29) _ k) ?_
      obtain ⟨fs, hr, hrun, hended, hW, hsame⟩ := X5.leave (v := some (.ref bx6)) (fun h => by rw [Bd.returns] at h; cases h)
      refine ⟨_, _, ?_, hrun, hended, _, _, rfl, ?_, ⟨_, rfl⟩, hW, hsame.mono (by decide) (by decide)⟩
      · exact retOut X5 hx Bd.returns rfl (Or.inr (Or.inr (Or.inr (Or.inr ⟨rfl, rfl, rfl⟩)))) (hb hby d_jdk_35_method_24_code_30) hr
      · show Q_rmLongOf Z q1 ca h0 n0 _ T5.heap _
        rw [e5]
        exact ⟨bx6, rfl, N0, (Keep.refl h0 []), Eb6⟩
theorem pn_com_example_spanwise_spanwise_PurchaseEqualsPinLaw : plainName "com/example/spanwise/spanwise/PurchaseEqualsPinLaw" = true := by first | (simp [plainName, overriddenIn]; done) | decide +kernel
theorem d_method_2_code_0 : decode method_2_code 0 = .ok (.iload_n 0, 1) := by decide +kernel
theorem d_method_2_code_1 : decode method_2_code 1 = .ok (.ifCond .ne 7, 3) := by decide +kernel
theorem d_method_2_code_4 : decode method_2_code 4 = .ok (.getstatic 7, 3) := by decide +kernel
theorem d_method_2_code_7 : decode method_2_code 7 = .ok (.areturn, 1) := by decide +kernel
theorem d_method_2_code_8 : decode method_2_code 8 = .ok (.iload_n 0, 1) := by decide +kernel
theorem d_method_2_code_9 : decode method_2_code 9 = .ok (.iconst 1, 1) := by decide +kernel
theorem d_method_2_code_10 : decode method_2_code 10 = .ok (.if_icmp .ne 7, 3) := by decide +kernel
theorem d_method_2_code_13 : decode method_2_code 13 = .ok (.getstatic 13, 3) := by decide +kernel
theorem d_method_2_code_16 : decode method_2_code 16 = .ok (.areturn, 1) := by decide +kernel
theorem d_method_2_code_17 : decode method_2_code 17 = .ok (.getstatic 16, 3) := by decide +kernel
theorem d_method_2_code_20 : decode method_2_code 20 = .ok (.areturn, 1) := by decide +kernel
theorem ef_rmKind (m : MethodId) (p1 : Int32) : entryFrame m #[(.int p1)] 1 = mkF m 0 #[.val (.int p1)] [] := by first | (simp [entryFrame, mkF, argsToLocals, Value.category]; done) | rfl
def Q_rmKind (Z : State) (p1 : Int32) (r0 : Addr) (r1 : Addr) (r2 : Addr) (h0 : Heap) (n0 : Nat) (v : Option Value) (h : Heap) (L : List Loc) : Prop := ∃ b : Addr, v = some (.ref b) ∧ Fr n0 L ∧ Keep h0 h [] ∧ Exa Z h b "com/example/spanwise/spanwise/ReadingLogPlan$Kind" ∧ (b = own_kind p1 r0 r1 r2)
set_option maxRecDepth 65536 in
set_option maxHeartbeats 40000000 in
theorem rmKind (l : Launch) (Z : State) (a0 : Array Value) (hw : ∀ d ∈ tables_1, d.before a0 Z = true) (ws : List Jvm.Cond) (p1 : Int32) (r0 : Addr) (r1 : Addr) (r2 : Addr) (h0 : Heap) (n0 : Nat) (Z0 : n0 ≤ h0.size) (P0 : Sta Z h0 "com/example/spanwise/spanwise/ReadingLogPlan$Kind" "SINGLE" "Lcom/example/spanwise/spanwise/ReadingLogPlan$Kind;" (.ref r0)) (P1 : Exa Z h0 r0 "com/example/spanwise/spanwise/ReadingLogPlan$Kind") (P2 : Sta Z h0 "com/example/spanwise/spanwise/ReadingLogPlan$Kind" "BUNDLE" "Lcom/example/spanwise/spanwise/ReadingLogPlan$Kind;" (.ref r1)) (P3 : Exa Z h0 r1 "com/example/spanwise/spanwise/ReadingLogPlan$Kind") (P4 : Sta Z h0 "com/example/spanwise/spanwise/ReadingLogPlan$Kind" "PASS" "Lcom/example/spanwise/spanwise/ReadingLogPlan$Kind;" (.ref r2)) (P5 : Exa Z h0 r2 "com/example/spanwise/spanwise/ReadingLogPlan$Kind") :
    MetFree l (⟨"com/example/spanwise/spanwise/PurchaseEqualsPinLaw", "kind", "(I)Lcom/example/spanwise/spanwise/ReadingLogPlan$Kind;"⟩ : MethodName) (head1 (Jvm.Cond.code (⟨"com/example/spanwise/spanwise/PurchaseEqualsPinLaw", "kind", "(I)Lcom/example/spanwise/spanwise/ReadingLogPlan$Kind;"⟩ : MethodName) method_2_code 1 (some (.object "com/example/spanwise/spanwise/ReadingLogPlan$Kind")) :: ws) ({ frames := 0, cells := 0, slots := 0, locals := 0 } : Room)) (fun a U => a = #[(.int p1)] ∧ Z.Warmed39 U.vm ∧ U.heap = h0) (fun _ _ _ _ _ => True) (fun _ U o U' => ∃ v L, o = .returned v ∧ Q_rmKind Z p1 r0 r1 r2 h0 n0 v U'.heap L ∧ FrameEnd U o U' L ({ frames := 0, cells := 0, slots := 0, locals := 0 } : Room).cells ({ frames := 0, cells := 0, slots := 0, locals := 0 } : Room).slots) := by
  refine MetFree.of_bodySF (plainFor_of_name pn_com_example_spanwise_spanwise_PurchaseEqualsPinLaw) hisR ?_
  intro p e s m args below meth c s₁ Bd hml0 hP hK
  obtain ⟨rfl, hZ, hh⟩ := hP
  have hx := Bd.exec
  have hby := Bd.bytes
  have hml : c.maxLocals = 1 := hml0
  have hown : s.vm.findClass "com/example/spanwise/spanwise/PurchaseEqualsPinLaw" = some m.cls := findClass_of_methodNamed Bd.named
  have hnm := (name_of_methodNamed Bd.named Bd.method).1
  have X0 : Stand p l e ({ frames := 0, cells := 0, slots := 0, locals := 0 } : Room) s m #[(.int p1)] below meth c s₁ [] 0 0 := Stand.of_body Bd
  have e0 : s₁.heap = h0 := by rw [← hh, Bd.state]; rfl
  have N0 := Fr.nil n0
  refine own_fw (A' := (s₁.setTop (mkF m 0 #[.val (.int p1)] []))) (fun t k => castTop (ef_rmKind m p1) k) ?_
  refine own_fw (A' := (s₁.setTop (mkF m 1 #[.val (.int p1)] [(.int p1)]))) (fun t k => XS.iloadN X0.here hx rfl (hb hby d_method_2_code_0) rfl k) ?_
  by_cases hc1 : p1 = (0 : Int32)
  · refine own_fw (A' := (s₁.setTop (mkF m 4 #[.val (.int p1)] []))) (fun t k => XS.ifNo X0.here hx rfl (hb hby d_method_2_code_1) rfl (XT.i0_ne_f hc1) k) ?_
    obtain ⟨T2, X2, e2, st2⟩ := getS2 X0 hx hZ hown (host := "") (Or.inl (hw _ (List.mem_of_getElem? (i := 8) rfl))) Via.refl e0 P0 (g := (mkF m 4 #[.val (.int p1)] [])) rfl (hb hby d_method_2_code_4)
    refine own_fw (A' := (T2.setTop (mkF m 7 #[.val (.int p1)] [(.ref r0)]))) (fun t k => st2 _ k) ?_
    obtain ⟨fs, hr, hrun, hended, hW, hsame⟩ := X2.leave (v := some (.ref r0)) (fun h => by rw [Bd.returns] at h; cases h)
    refine ⟨_, _, ?_, hrun, hended, _, _, rfl, ?_, ⟨_, rfl⟩, hW, hsame.mono (by decide) (by decide)⟩
    · exact retOut X2 hx Bd.returns rfl (Or.inr (Or.inr (Or.inr (Or.inr ⟨rfl, rfl, rfl⟩)))) (hb hby d_method_2_code_7) hr
    · show Q_rmKind Z p1 r0 r1 r2 h0 n0 _ T2.heap _
      rw [e2]
      exact ⟨r0, rfl, N0, (Keep.refl h0 []), P1, (by simp only [own_kind, if_pos hc1])⟩
  · refine own_fw (A' := (s₁.setTop (mkF m 8 #[.val (.int p1)] []))) (fun t k => XS.ifYes X0.here hx rfl (pc0 := 1) (pc' := 8) rfl (hb hby d_method_2_code_1) rfl (XT.i0_ne_t hc1) (by decide) (by decide) k) ?_
    refine own_fw (A' := (s₁.setTop (mkF m 9 #[.val (.int p1)] [(.int p1)]))) (fun t k => XS.iloadN X0.here hx rfl (hb hby d_method_2_code_8) rfl k) ?_
    refine own_fw (A' := (s₁.setTop (mkF m 10 #[.val (.int p1)] [(.int (1 : Int32)), (.int p1)]))) (fun t k => XS.iconst X0.here hx rfl (hb hby d_method_2_code_9) k) ?_
    by_cases hc3 : p1 = (1 : Int32)
    · refine own_fw (A' := (s₁.setTop (mkF m 13 #[.val (.int p1)] []))) (fun t k => XS.icmpNo X0.here hx rfl (hb hby d_method_2_code_10) rfl (XT.ii_ne_f hc3) k) ?_
      obtain ⟨T4, X4, e4, st4⟩ := getS2 X0 hx hZ hown (host := "") (Or.inl (hw _ (List.mem_of_getElem? (i := 48) rfl))) Via.refl e0 P2 (g := (mkF m 13 #[.val (.int p1)] [])) rfl (hb hby d_method_2_code_13)
      refine own_fw (A' := (T4.setTop (mkF m 16 #[.val (.int p1)] [(.ref r1)]))) (fun t k => st4 _ k) ?_
      obtain ⟨fs, hr, hrun, hended, hW, hsame⟩ := X4.leave (v := some (.ref r1)) (fun h => by rw [Bd.returns] at h; cases h)
      refine ⟨_, _, ?_, hrun, hended, _, _, rfl, ?_, ⟨_, rfl⟩, hW, hsame.mono (by decide) (by decide)⟩
      · exact retOut X4 hx Bd.returns rfl (Or.inr (Or.inr (Or.inr (Or.inr ⟨rfl, rfl, rfl⟩)))) (hb hby d_method_2_code_16) hr
      · show Q_rmKind Z p1 r0 r1 r2 h0 n0 _ T4.heap _
        rw [e4]
        exact ⟨r1, rfl, N0, (Keep.refl h0 []), P3, (by simp only [own_kind, if_neg hc1, if_pos hc3])⟩
    · refine own_fw (A' := (s₁.setTop (mkF m 17 #[.val (.int p1)] []))) (fun t k => XS.icmpYes X0.here hx rfl (pc0 := 10) (pc' := 17) rfl (hb hby d_method_2_code_10) rfl (XT.ii_ne_t hc3) (by decide) (by decide) k) ?_
      obtain ⟨T5, X5, e5, st5⟩ := getS2 X0 hx hZ hown (host := "") (Or.inl (hw _ (List.mem_of_getElem? (i := 46) rfl))) Via.refl e0 P4 (g := (mkF m 17 #[.val (.int p1)] [])) rfl (hb hby d_method_2_code_17)
      refine own_fw (A' := (T5.setTop (mkF m 20 #[.val (.int p1)] [(.ref r2)]))) (fun t k => st5 _ k) ?_
      obtain ⟨fs, hr, hrun, hended, hW, hsame⟩ := X5.leave (v := some (.ref r2)) (fun h => by rw [Bd.returns] at h; cases h)
      refine ⟨_, _, ?_, hrun, hended, _, _, rfl, ?_, ⟨_, rfl⟩, hW, hsame.mono (by decide) (by decide)⟩
      · exact retOut X5 hx Bd.returns rfl (Or.inr (Or.inr (Or.inr (Or.inr ⟨rfl, rfl, rfl⟩)))) (hb hby d_method_2_code_20) hr
      · show Q_rmKind Z p1 r0 r1 r2 h0 n0 _ T5.heap _
        rw [e5]
        exact ⟨r2, rfl, N0, (Keep.refl h0 []), P5, (by simp only [own_kind, if_neg hc1, if_neg hc3])⟩
theorem pn_java_util_Objects : plainName "java/util/Objects" = true := by first | (simp [plainName, overriddenIn]; done) | decide +kernel
theorem d_jdk_31_method_11_code_0 : decode jdk_31_method_11_code 0 = .ok (.aload_n 0, 1) := by decide +kernel
theorem d_jdk_31_method_11_code_1 : decode jdk_31_method_11_code 1 = .ok (.ifnonnull 12, 3) := by decide +kernel
theorem d_jdk_31_method_11_code_13 : decode jdk_31_method_11_code 13 = .ok (.aload_n 0, 1) := by decide +kernel
theorem d_jdk_31_method_11_code_14 : decode jdk_31_method_11_code 14 = .ok (.areturn, 1) := by decide +kernel
theorem ef_rmNonNull (m : MethodId) (a1 : Addr) (a2 : Addr) : entryFrame m #[(.ref a1), (.ref a2)] 2 = mkF m 0 #[.val (.ref a1), .val (.ref a2)] [] := by first | (simp [entryFrame, mkF, argsToLocals, Value.category]; done) | rfl
def Q_rmNonNull (Z : State) (a1 : Addr) (a2 : Addr) (h0 : Heap) (n0 : Nat) (v : Option Value) (h : Heap) (L : List Loc) : Prop := v = some (.ref a1) ∧ Fr n0 L ∧ h = h0
set_option maxRecDepth 65536 in
set_option maxHeartbeats 40000000 in
theorem rmNonNull (l : Launch) (Z : State) (a0 : Array Value) (hw : ∀ d ∈ tables_1, d.before a0 Z = true) (ws : List Jvm.Cond) (a1 : Addr) (a2 : Addr) (h0 : Heap) (n0 : Nat) (Z0 : n0 ≤ h0.size)  :
    MetFree l (⟨"java/util/Objects", "requireNonNull", "(Ljava/lang/Object;Ljava/lang/String;)Ljava/lang/Object;"⟩ : MethodName) (head1 (Jvm.Cond.code (⟨"java/util/Objects", "requireNonNull", "(Ljava/lang/Object;Ljava/lang/String;)Ljava/lang/Object;"⟩ : MethodName) jdk_31_method_11_code 2 (some (.object "java/lang/Object")) :: ws) ({ frames := 0, cells := 0, slots := 0, locals := 0 } : Room)) (fun a U => a = #[(.ref a1), (.ref a2)] ∧ Z.Warmed39 U.vm ∧ U.heap = h0) (fun _ _ _ _ _ => True) (fun _ U o U' => ∃ v L, o = .returned v ∧ Q_rmNonNull Z a1 a2 h0 n0 v U'.heap L ∧ FrameEnd U o U' L ({ frames := 0, cells := 0, slots := 0, locals := 0 } : Room).cells ({ frames := 0, cells := 0, slots := 0, locals := 0 } : Room).slots) := by
  refine MetFree.of_bodySF (plainFor_of_name pn_java_util_Objects) hisR ?_
  intro p e s m args below meth c s₁ Bd hml0 hP hK
  obtain ⟨rfl, hZ, hh⟩ := hP
  have hx := Bd.exec
  have hby := Bd.bytes
  have hml : c.maxLocals = 2 := hml0
  have hown : s.vm.findClass "java/util/Objects" = some m.cls := findClass_of_methodNamed Bd.named
  have hnm := (name_of_methodNamed Bd.named Bd.method).1
  have X0 : Stand p l e ({ frames := 0, cells := 0, slots := 0, locals := 0 } : Room) s m #[(.ref a1), (.ref a2)] below meth c s₁ [] 0 0 := Stand.of_body Bd
  have e0 : s₁.heap = h0 := by rw [← hh, Bd.state]; rfl
  have N0 := Fr.nil n0
  refine own_fw (A' := (s₁.setTop (mkF m 0 #[.val (.ref a1), .val (.ref a2)] []))) (fun t k => castTop (ef_rmNonNull m a1 a2) k) ?_
  refine own_fw (A' := (s₁.setTop (mkF m 1 #[.val (.ref a1), .val (.ref a2)] [(.ref a1)]))) (fun t k => XS.aloadN X0.here hx rfl (hb hby d_jdk_31_method_11_code_0) rfl rfl k) ?_
  refine own_fw (A' := (s₁.setTop (mkF m 13 #[.val (.ref a1), .val (.ref a2)] []))) (fun t k => XS.ifnonnullYes X0.here hx rfl (pc0 := 1) (pc' := 13) rfl (hb hby d_jdk_31_method_11_code_1) rfl (by decide) (by decide) k) ?_
  refine own_fw (A' := (s₁.setTop (mkF m 14 #[.val (.ref a1), .val (.ref a2)] [(.ref a1)]))) (fun t k => XS.aloadN X0.here hx rfl (hb hby d_jdk_31_method_11_code_13) rfl rfl k) ?_
  obtain ⟨fs, hr, hrun, hended, hW, hsame⟩ := X0.leave (v := some (.ref a1)) (fun h => by rw [Bd.returns] at h; cases h)
  refine ⟨_, _, ?_, hrun, hended, _, _, rfl, ?_, ⟨_, rfl⟩, hW, hsame.mono (by decide) (by decide)⟩
  · exact retOut X0 hx Bd.returns rfl (Or.inr (Or.inr (Or.inr (Or.inr ⟨rfl, rfl, rfl⟩)))) (hb hby d_jdk_31_method_11_code_14) hr
  · show Q_rmNonNull Z a1 a2 h0 n0 _ s₁.heap _
    rw [e0]
    exact ⟨rfl, N0, rfl⟩
theorem pn_com_example_spanwise_spanwise_ReadingLogPlan_Purchase : plainName "com/example/spanwise/spanwise/ReadingLogPlan$Purchase" = true := by first | (simp [plainName, overriddenIn]; done) | decide +kernel
theorem d_prog_10_method_1_code_0 : decode prog_10_method_1_code 0 = .ok (.aload_n 0, 1) := by decide +kernel
theorem d_prog_10_method_1_code_1 : decode prog_10_method_1_code 1 = .ok (.invokespecial 1, 3) := by decide +kernel
theorem d_prog_10_method_1_code_4 : decode prog_10_method_1_code 4 = .ok (.aload_n 0, 1) := by decide +kernel
theorem d_prog_10_method_1_code_5 : decode prog_10_method_1_code 5 = .ok (.aload_n 1, 1) := by decide +kernel
theorem d_prog_10_method_1_code_6 : decode prog_10_method_1_code 6 = .ok (.ldc 7, 2) := by decide +kernel
theorem d_prog_10_method_1_code_8 : decode prog_10_method_1_code 8 = .ok (.invokestatic 9, 3) := by decide +kernel
theorem pd__Ljava_lang_Object_Ljava_lang_String__Ljava_lang_Object_ : parseMethodDescriptor "(Ljava/lang/Object;Ljava/lang/String;)Ljava/lang/Object;" = some ⟨[(.object "java/lang/Object"), (.object "java/lang/String")], some (.object "java/lang/Object")⟩ := by decide +kernel
theorem d_prog_10_method_1_code_11 : decode prog_10_method_1_code 11 = .ok (.checkcast 15, 3) := by decide +kernel
theorem d_prog_10_method_1_code_14 : decode prog_10_method_1_code 14 = .ok (.putfield 17, 3) := by decide +kernel
theorem d_prog_10_method_1_code_17 : decode prog_10_method_1_code 17 = .ok (.aload_n 0, 1) := by decide +kernel
theorem d_prog_10_method_1_code_18 : decode prog_10_method_1_code 18 = .ok (.lload_n 2, 1) := by decide +kernel
theorem d_prog_10_method_1_code_19 : decode prog_10_method_1_code 19 = .ok (.putfield 22, 3) := by decide +kernel
theorem d_prog_10_method_1_code_22 : decode prog_10_method_1_code 22 = .ok (.aload_n 0, 1) := by decide +kernel
theorem d_prog_10_method_1_code_23 : decode prog_10_method_1_code 23 = .ok (.lload 4, 2) := by decide +kernel
theorem d_prog_10_method_1_code_25 : decode prog_10_method_1_code 25 = .ok (.putfield 26, 3) := by decide +kernel
theorem d_prog_10_method_1_code_28 : decode prog_10_method_1_code 28 = .ok (.aload_n 0, 1) := by decide +kernel
theorem d_prog_10_method_1_code_29 : decode prog_10_method_1_code 29 = .ok (.lload 6, 2) := by decide +kernel
theorem d_prog_10_method_1_code_31 : decode prog_10_method_1_code 31 = .ok (.putfield 29, 3) := by decide +kernel
theorem d_prog_10_method_1_code_34 : decode prog_10_method_1_code 34 = .ok (.return_, 1) := by decide +kernel
theorem ef_rmInit (m : MethodId) (a1 : Addr) (a2 : Addr) (q3 : Int64) (q4 : Int64) (q5 : Int64) : entryFrame m #[(.ref a1), (.ref a2), (.long q3), (.long q4), (.long q5)] 8 = mkF m 0 #[.val (.ref a1), .val (.ref a2), .val (.long q3), .second, .val (.long q4), .second, .val (.long q5), .second] [] := by first | (simp [entryFrame, mkF, argsToLocals, Value.category]; done) | rfl
def Q_rmInit (Z : State) (a1 : Addr) (a2 : Addr) (q3 : Int64) (q4 : Int64) (q5 : Int64) (h0 : Heap) (n0 : Nat) (v : Option Value) (h : Heap) (L : List Loc) : Prop := v = none ∧ Fr n0 L ∧ Keep h0 h [a1] ∧ Exa Z h a1 "com/example/spanwise/spanwise/ReadingLogPlan$Purchase" ∧ Fld Z h a1 "com/example/spanwise/spanwise/ReadingLogPlan$Purchase" "kind" "Lcom/example/spanwise/spanwise/ReadingLogPlan$Kind;" (.ref a2) ∧ Fld Z h a1 "com/example/spanwise/spanwise/ReadingLogPlan$Purchase" "first" "J" (.long q3) ∧ Fld Z h a1 "com/example/spanwise/spanwise/ReadingLogPlan$Purchase" "last" "J" (.long q4) ∧ Fld Z h a1 "com/example/spanwise/spanwise/ReadingLogPlan$Purchase" "price" "J" (.long q5)
set_option maxRecDepth 65536 in
set_option maxHeartbeats 40000000 in
theorem rmInit (l : Launch) (Z : State) (a0 : Array Value) (hw : ∀ d ∈ tables_1, d.before a0 Z = true) (ws : List Jvm.Cond) (a1 : Addr) (a2 : Addr) (q3 : Int64) (q4 : Int64) (q5 : Int64) (h0 : Heap) (n0 : Nat) (Z0 : n0 ≤ h0.size) (P0 : Exa Z h0 a1 "com/example/spanwise/spanwise/ReadingLogPlan$Purchase") (P1 : Exa Z h0 a2 "com/example/spanwise/spanwise/ReadingLogPlan$Kind") (P2 : Fld Z h0 a1 "com/example/spanwise/spanwise/ReadingLogPlan$Purchase" "kind" "Lcom/example/spanwise/spanwise/ReadingLogPlan$Kind;" .null) (P3 : Fld Z h0 a1 "com/example/spanwise/spanwise/ReadingLogPlan$Purchase" "first" "J" (.long (0 : Int64))) (P4 : Fld Z h0 a1 "com/example/spanwise/spanwise/ReadingLogPlan$Purchase" "last" "J" (.long (0 : Int64))) (P5 : Fld Z h0 a1 "com/example/spanwise/spanwise/ReadingLogPlan$Purchase" "price" "J" (.long (0 : Int64))) (g_a1 : n0 ≤ a1) :
    MetFree l (⟨"com/example/spanwise/spanwise/ReadingLogPlan$Purchase", "<init>", "(Lcom/example/spanwise/spanwise/ReadingLogPlan$Kind;JJJ)V"⟩ : MethodName) (head1 (Jvm.Cond.code (⟨"com/example/spanwise/spanwise/ReadingLogPlan$Purchase", "<init>", "(Lcom/example/spanwise/spanwise/ReadingLogPlan$Kind;JJJ)V"⟩ : MethodName) prog_10_method_1_code 8 none :: ws) ({ frames := 1, cells := 2, slots := 20, locals := 14 } : Room)) (fun a U => a = #[(.ref a1), (.ref a2), (.long q3), (.long q4), (.long q5)] ∧ Z.Warmed39 U.vm ∧ U.heap = h0) (fun _ _ _ _ _ => True) (fun _ U o U' => ∃ v L, o = .returned v ∧ Q_rmInit Z a1 a2 q3 q4 q5 h0 n0 v U'.heap L ∧ ReturnedEndW U o U' L ({ frames := 1, cells := 2, slots := 20, locals := 14 } : Room).cells ({ frames := 1, cells := 2, slots := 20, locals := 14 } : Room).slots) := by
  refine MetFree.of_bodySF (plainFor_of_name pn_com_example_spanwise_spanwise_ReadingLogPlan_Purchase) hisR ?_
  intro p e s m args below meth c s₁ Bd hml0 hP hK
  obtain ⟨rfl, hZ, hh⟩ := hP
  have hx := Bd.exec
  have hby := Bd.bytes
  have hml : c.maxLocals = 8 := hml0
  have hown : s.vm.findClass "com/example/spanwise/spanwise/ReadingLogPlan$Purchase" = some m.cls := findClass_of_methodNamed Bd.named
  have hnm := (name_of_methodNamed Bd.named Bd.method).1
  have X0 : Stand p l e ({ frames := 1, cells := 2, slots := 20, locals := 14 } : Room) (s.setVm s.vm) m #[(.ref a1), (.ref a2), (.long q3), (.long q4), (.long q5)] below meth c s₁ [] 0 0 := Stand.of_body Bd
  have e0 : s₁.heap = h0 := by rw [← hh, Bd.state]; rfl
  have N0 := Fr.nil n0
  refine own_fw (A' := (s₁.setTop (mkF m 0 #[.val (.ref a1), .val (.ref a2), .val (.long q3), .second, .val (.long q4), .second, .val (.long q5), .second] []))) (fun t k => castTop (ef_rmInit m a1 a2 q3 q4 q5) k) ?_
  have hS : s.Since s.vm h0.size := (State.WarmedH.refl s).since _
  have hk : h0.size ≤ h0.size := Nat.le_refl _
  refine own_fw (A' := (s₁.setTop (mkF m 1 #[.val (.ref a1), .val (.ref a2), .val (.long q3), .second, .val (.long q4), .second, .val (.long q5), .second] [(.ref a1)]))) (fun t k => XS.aloadN X0.here hx rfl (hb hby d_prog_10_method_1_code_0) rfl rfl k) ?_
  obtain ⟨T1, X1, e1, st1⟩ := initO X0 hx hZ hown (hw _ (List.mem_of_getElem? (i := 14) rfl)) (hw _ (List.mem_of_getElem? (i := 15) rfl)) (hw _ (List.mem_of_getElem? (i := 16) rfl)) e0 (g := (mkF m 1 #[.val (.ref a1), .val (.ref a2), .val (.long q3), .second, .val (.long q4), .second, .val (.long q5), .second] [(.ref a1)])) rfl (by rw [hml]; rfl) rfl (hb hby d_prog_10_method_1_code_1) (by decide) (W := 0) (by show 2 * 0 + _ ≤ _; exact Nat.le_of_eq rfl) (by decide)
  refine own_fw (A' := (T1.setTop (mkF m 4 #[.val (.ref a1), .val (.ref a2), .val (.long q3), .second, .val (.long q4), .second, .val (.long q5), .second] []))) (fun t k => st1 _ k) ?_
  refine own_fw (A' := (T1.setTop (mkF m 5 #[.val (.ref a1), .val (.ref a2), .val (.long q3), .second, .val (.long q4), .second, .val (.long q5), .second] [(.ref a1)]))) (fun t k => XS.aloadN X1.here hx rfl (hb hby d_prog_10_method_1_code_4) rfl rfl k) ?_
  refine own_fw (A' := (T1.setTop (mkF m 6 #[.val (.ref a1), .val (.ref a2), .val (.long q3), .second, .val (.long q4), .second, .val (.long q5), .second] [(.ref a2), (.ref a1)]))) (fun t k => XS.aloadN X1.here hx rfl (hb hby d_prog_10_method_1_code_5) rfl rfl k) ?_
  obtain ⟨sa2, T2, h2, k2, X2, e2, E2, hS, hk, hZ, hown, st2⟩ := ldcS X1 hx hZ hown (hw _ (List.mem_of_getElem? (i := 17) rfl)) (own_wS hw) e1 hS hk (g := (mkF m 6 #[.val (.ref a1), .val (.ref a2), .val (.long q3), .second, .val (.long q4), .second, .val (.long q5), .second] [(.ref a2), (.ref a1)])) rfl (hb hby d_prog_10_method_1_code_6) (n := 16) (by decide) (by decide) (by decide) (by decide)
  have K2 : Keep h0 h2 [a1] := (Keep.refl h0 [a1]).ext E2
  have Z2 : n0 ≤ h2.size := Nat.le_trans Z0 E2.1
  refine own_fw (A' := (T2.setTop (mkF m 8 #[.val (.ref a1), .val (.ref a2), .val (.long q3), .second, .val (.long q4), .second, .val (.long q5), .second] [(.ref sa2), (.ref a2), (.ref a1)]))) (fun t k => st2 _ k) ?_
  obtain ⟨_, _, ⟨T3, L3, k3, n3⟩, -, X3, ⟨Lc3, hQ3, l3, y3, z3⟩, st3⟩ := Jvm.LawKit.callS X2 hx (y := (⟨"java/util/Objects", "requireNonNull", "(Ljava/lang/Object;Ljava/lang/String;)Ljava/lang/Object;"⟩ : MethodName)) hown (mvT hZ (hw _ (List.mem_of_getElem? (i := 25) rfl))) (mvT hZ (hw _ (List.mem_of_getElem? (i := 26) rfl))) (mvT hZ (hw _ (List.mem_of_getElem? (i := 27) rfl))) (mvT hZ (hw _ (List.mem_of_getElem? (i := 28) rfl))) (by decide) (backOf (W := 1) (rmNonNull l Z a0 hw [] a2 sa2 h2 n0 Z2 ) hZ (hw _ (List.mem_of_getElem? (i := 28) rfl)) (hw _ (List.mem_of_getElem? (i := 27) rfl)) (by decide) (by decide)) (g := (mkF m 8 #[.val (.ref a1), .val (.ref a2), .val (.long q3), .second, .val (.long q4), .second, .val (.long q5), .second] [(.ref sa2), (.ref a2), (.ref a1)])) rfl (by rw [hml]; rfl) (argsL := [(.ref a2), (.ref sa2)]) (rest := [(.ref a1)]) (lenOf pd__Ljava_lang_Object_Ljava_lang_String__Ljava_lang_Object_ rfl) rfl (by show 2 * 0 + _ ≤ _; exact Nat.le_of_eq rfl) (hb hby d_prog_10_method_1_code_8) (fun _ _ => ⟨rfl, e2, (by decide : 2 + 0 ≤ _), (by decide : 20 + 0 ≤ _)⟩)
  dsimp only [Pt.U, Pt.locs, Pt.cells, Pt.slots] at X3 l3 y3 z3 st3 hQ3
  subst l3 y3 z3
  obtain ⟨rfl, Nq3, e3⟩ := hQ3
  have Nf3 := Fr.app N0 Nq3
  refine own_fw (A' := (T3.setTop (mkF m 11 #[.val (.ref a1), .val (.ref a2), .val (.long q3), .second, .val (.long q4), .second, .val (.long q5), .second] [(.ref a2), (.ref a1)]))) (fun t k => st3 _ k) ?_
  obtain ⟨T4, X4, e4, st4⟩ := castY X3 hx hZ hown (hw _ (List.mem_of_getElem? (i := 29) rfl)) e3 (Ins.self (P1.ext E2)) (g := (mkF m 11 #[.val (.ref a1), .val (.ref a2), .val (.long q3), .second, .val (.long q4), .second, .val (.long q5), .second] [(.ref a2), (.ref a1)])) rfl rfl (hb hby d_prog_10_method_1_code_11)
  refine own_fw (A' := (T4.setTop (mkF m 14 #[.val (.ref a1), .val (.ref a2), .val (.long q3), .second, .val (.long q4), .second, .val (.long q5), .second] [(.ref a2), (.ref a1)]))) (fun t k => st4 _ k) ?_
  obtain ⟨T5, h5, X5, e5, W5, st5⟩ := putF X4 hx hZ hown (host := "") (Or.inl (hw _ (List.mem_of_getElem? (i := 31) rfl))) Via.refl e4 (P2.ext E2) (P0.ext E2) (Or.inr ⟨(hw _ (List.mem_of_getElem? (i := 32) rfl)), rfl, hnm⟩) (hw _ (List.mem_of_getElem? (i := 2) rfl)) (ty := (.object "com/example/spanwise/spanwise/ReadingLogPlan$Kind")) (by decide) rfl rfl (g := (mkF m 14 #[.val (.ref a1), .val (.ref a2), .val (.long q3), .second, .val (.long q4), .second, .val (.long q5), .second] [(.ref a2), (.ref a1)])) rfl rfl (hb hby d_prog_10_method_1_code_14)
  have Fw5 : Fld Z h5 a1 "com/example/spanwise/spanwise/ReadingLogPlan$Purchase" "kind" "Lcom/example/spanwise/spanwise/ReadingLogPlan$Kind;" (.ref a2) := (P2.ext E2).same W5
  have Nf5 := Fr.snoc X5 Nf3 g_a1
  have K5 : Keep h0 h5 [a1] := K2.wr W5 (Or.inl (List.mem_of_getElem? (i := 0) rfl))
  have Z5 : n0 ≤ h5.size := Nat.le_trans Z2 (Keep.of_wr W5).1
  have hk := Nat.le_trans hk (Keep.of_wr W5).1
  refine own_fw (A' := (T5.setTop (mkF m 17 #[.val (.ref a1), .val (.ref a2), .val (.long q3), .second, .val (.long q4), .second, .val (.long q5), .second] []))) (fun t k => st5 _ k) ?_
  refine own_fw (A' := (T5.setTop (mkF m 18 #[.val (.ref a1), .val (.ref a2), .val (.long q3), .second, .val (.long q4), .second, .val (.long q5), .second] [(.ref a1)]))) (fun t k => XS.aloadN X5.here hx rfl (hb hby d_prog_10_method_1_code_17) rfl rfl k) ?_
  refine own_fw (A' := (T5.setTop (mkF m 19 #[.val (.ref a1), .val (.ref a2), .val (.long q3), .second, .val (.long q4), .second, .val (.long q5), .second] [(.long q3), (.ref a1)]))) (fun t k => XS.lloadN X5.here hx rfl (hb hby d_prog_10_method_1_code_18) rfl k) ?_
  obtain ⟨T6, h6, X6, e6, W6, st6⟩ := putF X5 hx hZ hown (host := "") (Or.inl (hw _ (List.mem_of_getElem? (i := 33) rfl))) Via.refl e5 ((P3.ext E2).other W5 (Or.inr (slot_ne (Or.inr (hw _ (List.mem_of_getElem? (i := 34) rfl))) (Or.inr (hw _ (List.mem_of_getElem? (i := 32) rfl))) (by decide) (t := .long) (t' := (.object "com/example/spanwise/spanwise/ReadingLogPlan$Kind")) (by decide) (by decide)))) ((P0.ext E2).wr W5) (Or.inr ⟨(hw _ (List.mem_of_getElem? (i := 34) rfl)), rfl, hnm⟩) (hw _ (List.mem_of_getElem? (i := 2) rfl)) (ty := .long) (by decide) rfl rfl (g := (mkF m 19 #[.val (.ref a1), .val (.ref a2), .val (.long q3), .second, .val (.long q4), .second, .val (.long q5), .second] [(.long q3), (.ref a1)])) rfl rfl (hb hby d_prog_10_method_1_code_19)
  have Fw6 : Fld Z h6 a1 "com/example/spanwise/spanwise/ReadingLogPlan$Purchase" "first" "J" (.long q3) := ((P3.ext E2).other W5 (Or.inr (slot_ne (Or.inr (hw _ (List.mem_of_getElem? (i := 34) rfl))) (Or.inr (hw _ (List.mem_of_getElem? (i := 32) rfl))) (by decide) (t := .long) (t' := (.object "com/example/spanwise/spanwise/ReadingLogPlan$Kind")) (by decide) (by decide)))).same W6
  have F7 : Fld Z h6 a1 "com/example/spanwise/spanwise/ReadingLogPlan$Purchase" "last" "J" (.long (0 : Int64)) := (((P4.ext E2).other W5 (Or.inr (slot_ne (Or.inr (hw _ (List.mem_of_getElem? (i := 36) rfl))) (Or.inr (hw _ (List.mem_of_getElem? (i := 32) rfl))) (by decide) (t := .long) (t' := (.object "com/example/spanwise/spanwise/ReadingLogPlan$Kind")) (by decide) (by decide)))).other W6 (Or.inr (slot_ne (Or.inr (hw _ (List.mem_of_getElem? (i := 36) rfl))) (Or.inr (hw _ (List.mem_of_getElem? (i := 34) rfl))) (by decide) (t := .long) (t' := .long) (by decide) (by decide))))
  have F8 : Fld Z h6 a1 "com/example/spanwise/spanwise/ReadingLogPlan$Purchase" "price" "J" (.long (0 : Int64)) := (((P5.ext E2).other W5 (Or.inr (slot_ne (Or.inr (hw _ (List.mem_of_getElem? (i := 38) rfl))) (Or.inr (hw _ (List.mem_of_getElem? (i := 32) rfl))) (by decide) (t := .long) (t' := (.object "com/example/spanwise/spanwise/ReadingLogPlan$Kind")) (by decide) (by decide)))).other W6 (Or.inr (slot_ne (Or.inr (hw _ (List.mem_of_getElem? (i := 38) rfl))) (Or.inr (hw _ (List.mem_of_getElem? (i := 34) rfl))) (by decide) (t := .long) (t' := .long) (by decide) (by decide))))
  have Nf6 := Fr.snoc X6 Nf5 g_a1
  have K6 : Keep h0 h6 [a1] := K5.wr W6 (Or.inl (List.mem_of_getElem? (i := 0) rfl))
  have Z6 : n0 ≤ h6.size := Nat.le_trans Z5 (Keep.of_wr W6).1
  have hk := Nat.le_trans hk (Keep.of_wr W6).1
  refine own_fw (A' := (T6.setTop (mkF m 22 #[.val (.ref a1), .val (.ref a2), .val (.long q3), .second, .val (.long q4), .second, .val (.long q5), .second] []))) (fun t k => st6 _ k) ?_
  refine own_fw (A' := (T6.setTop (mkF m 23 #[.val (.ref a1), .val (.ref a2), .val (.long q3), .second, .val (.long q4), .second, .val (.long q5), .second] [(.ref a1)]))) (fun t k => XS.aloadN X6.here hx rfl (hb hby d_prog_10_method_1_code_22) rfl rfl k) ?_
  refine own_fw (A' := (T6.setTop (mkF m 25 #[.val (.ref a1), .val (.ref a2), .val (.long q3), .second, .val (.long q4), .second, .val (.long q5), .second] [(.long q4), (.ref a1)]))) (fun t k => XS.lload X6.here hx rfl (hb hby d_prog_10_method_1_code_23) rfl k) ?_
  obtain ⟨T9, h9, X9, e9, W9, st9⟩ := putF X6 hx hZ hown (host := "") (Or.inl (hw _ (List.mem_of_getElem? (i := 35) rfl))) Via.refl e6 F7 (((P0.ext E2).wr W5).wr W6) (Or.inr ⟨(hw _ (List.mem_of_getElem? (i := 36) rfl)), rfl, hnm⟩) (hw _ (List.mem_of_getElem? (i := 2) rfl)) (ty := .long) (by decide) rfl rfl (g := (mkF m 25 #[.val (.ref a1), .val (.ref a2), .val (.long q3), .second, .val (.long q4), .second, .val (.long q5), .second] [(.long q4), (.ref a1)])) rfl rfl (hb hby d_prog_10_method_1_code_25)
  have Fw9 : Fld Z h9 a1 "com/example/spanwise/spanwise/ReadingLogPlan$Purchase" "last" "J" (.long q4) := F7.same W9
  have F10 : Fld Z h9 a1 "com/example/spanwise/spanwise/ReadingLogPlan$Purchase" "kind" "Lcom/example/spanwise/spanwise/ReadingLogPlan$Kind;" (.ref a2) := ((Fw5.other W6 (Or.inr (slot_ne (Or.inr (hw _ (List.mem_of_getElem? (i := 32) rfl))) (Or.inr (hw _ (List.mem_of_getElem? (i := 34) rfl))) (by decide) (t := (.object "com/example/spanwise/spanwise/ReadingLogPlan$Kind")) (t' := .long) (by decide) (by decide)))).other W9 (Or.inr (slot_ne (Or.inr (hw _ (List.mem_of_getElem? (i := 32) rfl))) (Or.inr (hw _ (List.mem_of_getElem? (i := 36) rfl))) (by decide) (t := (.object "com/example/spanwise/spanwise/ReadingLogPlan$Kind")) (t' := .long) (by decide) (by decide))))
  have Nf9 := Fr.snoc X9 Nf6 g_a1
  have K9 : Keep h0 h9 [a1] := K6.wr W9 (Or.inl (List.mem_of_getElem? (i := 0) rfl))
  have Z9 : n0 ≤ h9.size := Nat.le_trans Z6 (Keep.of_wr W9).1
  have hk := Nat.le_trans hk (Keep.of_wr W9).1
  refine own_fw (A' := (T9.setTop (mkF m 28 #[.val (.ref a1), .val (.ref a2), .val (.long q3), .second, .val (.long q4), .second, .val (.long q5), .second] []))) (fun t k => st9 _ k) ?_
  refine own_fw (A' := (T9.setTop (mkF m 29 #[.val (.ref a1), .val (.ref a2), .val (.long q3), .second, .val (.long q4), .second, .val (.long q5), .second] [(.ref a1)]))) (fun t k => XS.aloadN X9.here hx rfl (hb hby d_prog_10_method_1_code_28) rfl rfl k) ?_
  refine own_fw (A' := (T9.setTop (mkF m 31 #[.val (.ref a1), .val (.ref a2), .val (.long q3), .second, .val (.long q4), .second, .val (.long q5), .second] [(.long q5), (.ref a1)]))) (fun t k => XS.lload X9.here hx rfl (hb hby d_prog_10_method_1_code_29) rfl k) ?_
  obtain ⟨T11, h11, X11, e11, W11, st11⟩ := putF X9 hx hZ hown (host := "") (Or.inl (hw _ (List.mem_of_getElem? (i := 37) rfl))) Via.refl e9 (F8.other W9 (Or.inr (slot_ne (Or.inr (hw _ (List.mem_of_getElem? (i := 38) rfl))) (Or.inr (hw _ (List.mem_of_getElem? (i := 36) rfl))) (by decide) (t := .long) (t' := .long) (by decide) (by decide)))) ((((P0.ext E2).wr W5).wr W6).wr W9) (Or.inr ⟨(hw _ (List.mem_of_getElem? (i := 38) rfl)), rfl, hnm⟩) (hw _ (List.mem_of_getElem? (i := 2) rfl)) (ty := .long) (by decide) rfl rfl (g := (mkF m 31 #[.val (.ref a1), .val (.ref a2), .val (.long q3), .second, .val (.long q4), .second, .val (.long q5), .second] [(.long q5), (.ref a1)])) rfl rfl (hb hby d_prog_10_method_1_code_31)
  have Fw11 : Fld Z h11 a1 "com/example/spanwise/spanwise/ReadingLogPlan$Purchase" "price" "J" (.long q5) := (F8.other W9 (Or.inr (slot_ne (Or.inr (hw _ (List.mem_of_getElem? (i := 38) rfl))) (Or.inr (hw _ (List.mem_of_getElem? (i := 36) rfl))) (by decide) (t := .long) (t' := .long) (by decide) (by decide)))).same W11
  have F12 : Fld Z h11 a1 "com/example/spanwise/spanwise/ReadingLogPlan$Purchase" "first" "J" (.long q3) := ((Fw6.other W9 (Or.inr (slot_ne (Or.inr (hw _ (List.mem_of_getElem? (i := 34) rfl))) (Or.inr (hw _ (List.mem_of_getElem? (i := 36) rfl))) (by decide) (t := .long) (t' := .long) (by decide) (by decide)))).other W11 (Or.inr (slot_ne (Or.inr (hw _ (List.mem_of_getElem? (i := 34) rfl))) (Or.inr (hw _ (List.mem_of_getElem? (i := 38) rfl))) (by decide) (t := .long) (t' := .long) (by decide) (by decide))))
  have Nf11 := Fr.snoc X11 Nf9 g_a1
  have K11 : Keep h0 h11 [a1] := K9.wr W11 (Or.inl (List.mem_of_getElem? (i := 0) rfl))
  have Z11 : n0 ≤ h11.size := Nat.le_trans Z9 (Keep.of_wr W11).1
  have hk := Nat.le_trans hk (Keep.of_wr W11).1
  refine own_fw (A' := (T11.setTop (mkF m 34 #[.val (.ref a1), .val (.ref a2), .val (.long q3), .second, .val (.long q4), .second, .val (.long q5), .second] []))) (fun t k => st11 _ k) ?_
  obtain ⟨fs, hr, hrun, hended, hWE⟩ := X11.leaveW hS (by rw [e11]; exact hk : _ ≤ T11.heap.size) (v := none) (fun _ => rfl)
  refine ⟨_, _, ?_, hrun, hended, _, _, rfl, ?_, own_widen hWE (by decide) (by decide)⟩
  · exact X11.returnOut hx Bd.returns (hb hby d_prog_10_method_1_code_34) hr
  · show Q_rmInit Z a1 a2 q3 q4 q5 h0 n0 _ T11.heap _
    rw [e11]
    exact ⟨rfl, Nf11, K11, (((((P0.ext E2).wr W5).wr W6).wr W9).wr W11), (F10.other W11 (Or.inr (slot_ne (Or.inr (hw _ (List.mem_of_getElem? (i := 32) rfl))) (Or.inr (hw _ (List.mem_of_getElem? (i := 38) rfl))) (by decide) (t := (.object "com/example/spanwise/spanwise/ReadingLogPlan$Kind")) (t' := .long) (by decide) (by decide)))), F12, (Fw9.other W11 (Or.inr (slot_ne (Or.inr (hw _ (List.mem_of_getElem? (i := 36) rfl))) (Or.inr (hw _ (List.mem_of_getElem? (i := 38) rfl))) (by decide) (t := .long) (t' := .long) (by decide) (by decide)))), Fw11⟩
theorem d_prog_10_method_6_code_0 : decode prog_10_method_6_code 0 = .ok (.aload_n 1, 1) := by decide +kernel
theorem d_prog_10_method_6_code_1 : decode prog_10_method_6_code 1 = .ok (.instanceof 18, 3) := by decide +kernel
theorem d_prog_10_method_6_code_4 : decode prog_10_method_6_code 4 = .ok (.ifCond .eq 59, 3) := by decide +kernel
theorem d_prog_10_method_6_code_63 : decode prog_10_method_6_code 63 = .ok (.iconst 0, 1) := by decide +kernel
theorem d_prog_10_method_6_code_64 : decode prog_10_method_6_code 64 = .ok (.ireturn, 1) := by decide +kernel
theorem ef_rmEqNull (m : MethodId) (a1 : Addr) : entryFrame m #[(.ref a1), .null] 3 = mkF m 0 #[.val (.ref a1), .val .null, .unset] [] := by first | (simp [entryFrame, mkF, argsToLocals, Value.category]; done) | rfl
def Q_rmEqNull (Z : State) (a1 : Addr) (h0 : Heap) (n0 : Nat) (v : Option Value) (h : Heap) (L : List Loc) : Prop := v = some (.int (0 : Int32)) ∧ Fr n0 L ∧ h = h0
set_option maxRecDepth 65536 in
set_option maxHeartbeats 40000000 in
theorem rmEqNull (l : Launch) (Z : State) (a0 : Array Value) (hw : ∀ d ∈ tables_1, d.before a0 Z = true) (ws : List Jvm.Cond) (a1 : Addr) (h0 : Heap) (n0 : Nat) (Z0 : n0 ≤ h0.size)  :
    MetFree l (⟨"com/example/spanwise/spanwise/ReadingLogPlan$Purchase", "equals", "(Ljava/lang/Object;)Z"⟩ : MethodName) (head1 (Jvm.Cond.code (⟨"com/example/spanwise/spanwise/ReadingLogPlan$Purchase", "equals", "(Ljava/lang/Object;)Z"⟩ : MethodName) prog_10_method_6_code 3 (some .boolean) :: ws) ({ frames := 0, cells := 0, slots := 0, locals := 0 } : Room)) (fun a U => a = #[(.ref a1), .null] ∧ Z.Warmed39 U.vm ∧ U.heap = h0) (fun _ _ _ _ _ => True) (fun _ U o U' => ∃ v L, o = .returned v ∧ Q_rmEqNull Z a1 h0 n0 v U'.heap L ∧ FrameEnd U o U' L ({ frames := 0, cells := 0, slots := 0, locals := 0 } : Room).cells ({ frames := 0, cells := 0, slots := 0, locals := 0 } : Room).slots) := by
  refine MetFree.of_bodySF (plainFor_of_name pn_com_example_spanwise_spanwise_ReadingLogPlan_Purchase) hisR ?_
  intro p e s m args below meth c s₁ Bd hml0 hP hK
  obtain ⟨rfl, hZ, hh⟩ := hP
  have hx := Bd.exec
  have hby := Bd.bytes
  have hml : c.maxLocals = 3 := hml0
  have hown : s.vm.findClass "com/example/spanwise/spanwise/ReadingLogPlan$Purchase" = some m.cls := findClass_of_methodNamed Bd.named
  have hnm := (name_of_methodNamed Bd.named Bd.method).1
  have X0 : Stand p l e ({ frames := 0, cells := 0, slots := 0, locals := 0 } : Room) s m #[(.ref a1), .null] below meth c s₁ [] 0 0 := Stand.of_body Bd
  have e0 : s₁.heap = h0 := by rw [← hh, Bd.state]; rfl
  have N0 := Fr.nil n0
  refine own_fw (A' := (s₁.setTop (mkF m 0 #[.val (.ref a1), .val .null, .unset] []))) (fun t k => castTop (ef_rmEqNull m a1) k) ?_
  refine own_fw (A' := (s₁.setTop (mkF m 1 #[.val (.ref a1), .val .null, .unset] [.null]))) (fun t k => XS.aloadN X0.here hx rfl (hb hby d_prog_10_method_6_code_0) rfl rfl k) ?_
  refine own_fw (A' := (s₁.setTop (mkF m 4 #[.val (.ref a1), .val .null, .unset] [(.int (0 : Int32))]))) (fun t k => X0.instanceofNull hx (g := (mkF m 1 #[.val (.ref a1), .val .null, .unset] [.null])) rfl rfl (hb hby d_prog_10_method_6_code_1) _ k) ?_
  refine own_fw (A' := (s₁.setTop (mkF m 63 #[.val (.ref a1), .val .null, .unset] []))) (fun t k => XS.ifYes X0.here hx rfl (pc0 := 4) (pc' := 63) rfl (hb hby d_prog_10_method_6_code_4) rfl (XT.i0_eq_t rfl) (by decide) (by decide) k) ?_
  refine own_fw (A' := (s₁.setTop (mkF m 64 #[.val (.ref a1), .val .null, .unset] [(.int (0 : Int32))]))) (fun t k => XS.iconst X0.here hx rfl (hb hby d_prog_10_method_6_code_63) k) ?_
  obtain ⟨fs, hr, hrun, hended, hW, hsame⟩ := X0.leave (v := some (.int (0 : Int32))) (fun h => by rw [Bd.returns] at h; cases h)
  refine ⟨_, _, ?_, hrun, hended, _, _, rfl, ?_, ⟨_, rfl⟩, hW, hsame.mono (by decide) (by decide)⟩
  · exact retOut X0 hx Bd.returns rfl (Or.inl ⟨rfl, by simp, _, rfl⟩) (hb hby d_prog_10_method_6_code_64) hr
  · show Q_rmEqNull Z a1 h0 n0 _ s₁.heap _
    rw [e0]
    exact ⟨rfl, N0, rfl⟩
theorem ef_rmEqLong (m : MethodId) (a1 : Addr) (a2 : Addr) : entryFrame m #[(.ref a1), (.ref a2)] 3 = mkF m 0 #[.val (.ref a1), .val (.ref a2), .unset] [] := by first | (simp [entryFrame, mkF, argsToLocals, Value.category]; done) | rfl
def Q_rmEqLong (Z : State) (a1 : Addr) (a2 : Addr) (h0 : Heap) (n0 : Nat) (v : Option Value) (h : Heap) (L : List Loc) : Prop := v = some (.int (0 : Int32)) ∧ Fr n0 L ∧ h = h0
set_option maxRecDepth 65536 in
set_option maxHeartbeats 40000000 in
theorem rmEqLong (l : Launch) (Z : State) (a0 : Array Value) (hw : ∀ d ∈ tables_1, d.before a0 Z = true) (ws : List Jvm.Cond) (a1 : Addr) (a2 : Addr) (h0 : Heap) (n0 : Nat) (Z0 : n0 ≤ h0.size) (P0 : Exa Z h0 a2 "java/lang/Long") :
    MetFree l (⟨"com/example/spanwise/spanwise/ReadingLogPlan$Purchase", "equals", "(Ljava/lang/Object;)Z"⟩ : MethodName) (head1 (Jvm.Cond.code (⟨"com/example/spanwise/spanwise/ReadingLogPlan$Purchase", "equals", "(Ljava/lang/Object;)Z"⟩ : MethodName) prog_10_method_6_code 3 (some .boolean) :: ws) ({ frames := 0, cells := 0, slots := 0, locals := 0 } : Room)) (fun a U => a = #[(.ref a1), (.ref a2)] ∧ Z.Warmed39 U.vm ∧ U.heap = h0) (fun _ _ _ _ _ => True) (fun _ U o U' => ∃ v L, o = .returned v ∧ Q_rmEqLong Z a1 a2 h0 n0 v U'.heap L ∧ FrameEnd U o U' L ({ frames := 0, cells := 0, slots := 0, locals := 0 } : Room).cells ({ frames := 0, cells := 0, slots := 0, locals := 0 } : Room).slots) := by
  refine MetFree.of_bodySF (plainFor_of_name pn_com_example_spanwise_spanwise_ReadingLogPlan_Purchase) hisR ?_
  intro p e s m args below meth c s₁ Bd hml0 hP hK
  obtain ⟨rfl, hZ, hh⟩ := hP
  have hx := Bd.exec
  have hby := Bd.bytes
  have hml : c.maxLocals = 3 := hml0
  have hown : s.vm.findClass "com/example/spanwise/spanwise/ReadingLogPlan$Purchase" = some m.cls := findClass_of_methodNamed Bd.named
  have hnm := (name_of_methodNamed Bd.named Bd.method).1
  have X0 : Stand p l e ({ frames := 0, cells := 0, slots := 0, locals := 0 } : Room) s m #[(.ref a1), (.ref a2)] below meth c s₁ [] 0 0 := Stand.of_body Bd
  have e0 : s₁.heap = h0 := by rw [← hh, Bd.state]; rfl
  have N0 := Fr.nil n0
  refine own_fw (A' := (s₁.setTop (mkF m 0 #[.val (.ref a1), .val (.ref a2), .unset] []))) (fun t k => castTop (ef_rmEqLong m a1 a2) k) ?_
  refine own_fw (A' := (s₁.setTop (mkF m 1 #[.val (.ref a1), .val (.ref a2), .unset] [(.ref a2)]))) (fun t k => XS.aloadN X0.here hx rfl (hb hby d_prog_10_method_6_code_0) rfl rfl k) ?_
  obtain ⟨T1, X1, e1, st1⟩ := instNo X0 hx hZ hown (hw _ (List.mem_of_getElem? (i := 44) rfl)) e0 P0 (own_nsNo (hw _ (List.mem_of_getElem? (i := 58) rfl)) (hw _ (List.mem_of_getElem? (i := 2) rfl)) (NS.step (hw _ (List.mem_of_getElem? (i := 58) rfl)) (NS.step (hw _ (List.mem_of_getElem? (i := 59) rfl)) (own_nsRoot (hw _ (List.mem_of_getElem? (i := 60) rfl)) (hw _ (List.mem_of_getElem? (i := 2) rfl)) (by decide)) (by decide)) (by decide)) (by decide)) (g := (mkF m 1 #[.val (.ref a1), .val (.ref a2), .unset] [(.ref a2)])) rfl rfl (hb hby d_prog_10_method_6_code_1)
  refine own_fw (A' := (T1.setTop (mkF m 4 #[.val (.ref a1), .val (.ref a2), .unset] [(.int (0 : Int32))]))) (fun t k => st1 _ k) ?_
  refine own_fw (A' := (T1.setTop (mkF m 63 #[.val (.ref a1), .val (.ref a2), .unset] []))) (fun t k => XS.ifYes X1.here hx rfl (pc0 := 4) (pc' := 63) rfl (hb hby d_prog_10_method_6_code_4) rfl (XT.i0_eq_t rfl) (by decide) (by decide) k) ?_
  refine own_fw (A' := (T1.setTop (mkF m 64 #[.val (.ref a1), .val (.ref a2), .unset] [(.int (0 : Int32))]))) (fun t k => XS.iconst X1.here hx rfl (hb hby d_prog_10_method_6_code_63) k) ?_
  obtain ⟨fs, hr, hrun, hended, hW, hsame⟩ := X1.leave (v := some (.int (0 : Int32))) (fun h => by rw [Bd.returns] at h; cases h)
  refine ⟨_, _, ?_, hrun, hended, _, _, rfl, ?_, ⟨_, rfl⟩, hW, hsame.mono (by decide) (by decide)⟩
  · exact retOut X1 hx Bd.returns rfl (Or.inl ⟨rfl, by simp, _, rfl⟩) (hb hby d_prog_10_method_6_code_64) hr
  · show Q_rmEqLong Z a1 a2 h0 n0 _ T1.heap _
    rw [e1]
    exact ⟨rfl, N0, rfl⟩
theorem d_prog_10_method_6_code_7 : decode prog_10_method_6_code 7 = .ok (.aload_n 1, 1) := by decide +kernel
theorem d_prog_10_method_6_code_8 : decode prog_10_method_6_code 8 = .ok (.checkcast 18, 3) := by decide +kernel
theorem d_prog_10_method_6_code_11 : decode prog_10_method_6_code 11 = .ok (.astore_n 2, 1) := by decide +kernel
theorem d_prog_10_method_6_code_12 : decode prog_10_method_6_code 12 = .ok (.aload_n 0, 1) := by decide +kernel
theorem d_prog_10_method_6_code_13 : decode prog_10_method_6_code 13 = .ok (.getfield 17, 3) := by decide +kernel
theorem d_prog_10_method_6_code_16 : decode prog_10_method_6_code 16 = .ok (.aload_n 2, 1) := by decide +kernel
theorem d_prog_10_method_6_code_17 : decode prog_10_method_6_code 17 = .ok (.getfield 17, 3) := by decide +kernel
theorem d_prog_10_method_6_code_20 : decode prog_10_method_6_code 20 = .ok (.if_acmp .ne 43, 3) := by decide +kernel
theorem d_prog_10_method_6_code_23 : decode prog_10_method_6_code 23 = .ok (.aload_n 0, 1) := by decide +kernel
theorem d_prog_10_method_6_code_24 : decode prog_10_method_6_code 24 = .ok (.getfield 22, 3) := by decide +kernel
theorem d_prog_10_method_6_code_27 : decode prog_10_method_6_code 27 = .ok (.aload_n 2, 1) := by decide +kernel
theorem d_prog_10_method_6_code_28 : decode prog_10_method_6_code 28 = .ok (.getfield 22, 3) := by decide +kernel
theorem d_prog_10_method_6_code_31 : decode prog_10_method_6_code 31 = .ok (.lcmp, 1) := by decide +kernel
theorem d_prog_10_method_6_code_32 : decode prog_10_method_6_code 32 = .ok (.ifCond .ne 31, 3) := by decide +kernel
theorem d_prog_10_method_6_code_35 : decode prog_10_method_6_code 35 = .ok (.aload_n 0, 1) := by decide +kernel
theorem d_prog_10_method_6_code_36 : decode prog_10_method_6_code 36 = .ok (.getfield 26, 3) := by decide +kernel
theorem d_prog_10_method_6_code_39 : decode prog_10_method_6_code 39 = .ok (.aload_n 2, 1) := by decide +kernel
theorem d_prog_10_method_6_code_40 : decode prog_10_method_6_code 40 = .ok (.getfield 26, 3) := by decide +kernel
theorem d_prog_10_method_6_code_43 : decode prog_10_method_6_code 43 = .ok (.lcmp, 1) := by decide +kernel
theorem d_prog_10_method_6_code_44 : decode prog_10_method_6_code 44 = .ok (.ifCond .ne 19, 3) := by decide +kernel
theorem d_prog_10_method_6_code_47 : decode prog_10_method_6_code 47 = .ok (.aload_n 0, 1) := by decide +kernel
theorem d_prog_10_method_6_code_48 : decode prog_10_method_6_code 48 = .ok (.getfield 29, 3) := by decide +kernel
theorem d_prog_10_method_6_code_51 : decode prog_10_method_6_code 51 = .ok (.aload_n 2, 1) := by decide +kernel
theorem d_prog_10_method_6_code_52 : decode prog_10_method_6_code 52 = .ok (.getfield 29, 3) := by decide +kernel
theorem d_prog_10_method_6_code_55 : decode prog_10_method_6_code 55 = .ok (.lcmp, 1) := by decide +kernel
theorem d_prog_10_method_6_code_56 : decode prog_10_method_6_code 56 = .ok (.ifCond .ne 7, 3) := by decide +kernel
theorem d_prog_10_method_6_code_59 : decode prog_10_method_6_code 59 = .ok (.iconst 1, 1) := by decide +kernel
theorem d_prog_10_method_6_code_60 : decode prog_10_method_6_code 60 = .ok (.goto 4, 3) := by decide +kernel
theorem ef_rmEqObj (m : MethodId) (a1 : Addr) (a2 : Addr) : entryFrame m #[(.ref a1), (.ref a2)] 3 = mkF m 0 #[.val (.ref a1), .val (.ref a2), .unset] [] := by first | (simp [entryFrame, mkF, argsToLocals, Value.category]; done) | rfl
def Q_rmEqObj (Z : State) (a1 : Addr) (a2 : Addr) (k1 : Addr) (k2 : Addr) (q3 : Int64) (q4 : Int64) (q5 : Int64) (q6 : Int64) (q7 : Int64) (q8 : Int64) (h0 : Heap) (n0 : Nat) (v : Option Value) (h : Heap) (L : List Loc) : Prop := v = some (.int (own_peq k1 k2 q3 q4 q5 q6 q7 q8)) ∧ Fr n0 L ∧ h = h0
set_option maxRecDepth 65536 in
set_option maxHeartbeats 40000000 in
theorem rmEqObj (l : Launch) (Z : State) (a0 : Array Value) (hw : ∀ d ∈ tables_1, d.before a0 Z = true) (ws : List Jvm.Cond) (a1 : Addr) (a2 : Addr) (k1 : Addr) (k2 : Addr) (q3 : Int64) (q4 : Int64) (q5 : Int64) (q6 : Int64) (q7 : Int64) (q8 : Int64) (h0 : Heap) (n0 : Nat) (Z0 : n0 ≤ h0.size) (P0 : Exa Z h0 a2 "com/example/spanwise/spanwise/ReadingLogPlan$Purchase") (P1 : Fld Z h0 a1 "com/example/spanwise/spanwise/ReadingLogPlan$Purchase" "kind" "Lcom/example/spanwise/spanwise/ReadingLogPlan$Kind;" (.ref k1)) (P2 : Fld Z h0 a1 "com/example/spanwise/spanwise/ReadingLogPlan$Purchase" "first" "J" (.long q3)) (P3 : Fld Z h0 a1 "com/example/spanwise/spanwise/ReadingLogPlan$Purchase" "last" "J" (.long q4)) (P4 : Fld Z h0 a1 "com/example/spanwise/spanwise/ReadingLogPlan$Purchase" "price" "J" (.long q5)) (P5 : Fld Z h0 a2 "com/example/spanwise/spanwise/ReadingLogPlan$Purchase" "kind" "Lcom/example/spanwise/spanwise/ReadingLogPlan$Kind;" (.ref k2)) (P6 : Fld Z h0 a2 "com/example/spanwise/spanwise/ReadingLogPlan$Purchase" "first" "J" (.long q6)) (P7 : Fld Z h0 a2 "com/example/spanwise/spanwise/ReadingLogPlan$Purchase" "last" "J" (.long q7)) (P8 : Fld Z h0 a2 "com/example/spanwise/spanwise/ReadingLogPlan$Purchase" "price" "J" (.long q8)) :
    MetFree l (⟨"com/example/spanwise/spanwise/ReadingLogPlan$Purchase", "equals", "(Ljava/lang/Object;)Z"⟩ : MethodName) (head1 (Jvm.Cond.code (⟨"com/example/spanwise/spanwise/ReadingLogPlan$Purchase", "equals", "(Ljava/lang/Object;)Z"⟩ : MethodName) prog_10_method_6_code 3 (some .boolean) :: ws) ({ frames := 0, cells := 0, slots := 0, locals := 0 } : Room)) (fun a U => a = #[(.ref a1), (.ref a2)] ∧ Z.Warmed39 U.vm ∧ U.heap = h0) (fun _ _ _ _ _ => True) (fun _ U o U' => ∃ v L, o = .returned v ∧ Q_rmEqObj Z a1 a2 k1 k2 q3 q4 q5 q6 q7 q8 h0 n0 v U'.heap L ∧ FrameEnd U o U' L ({ frames := 0, cells := 0, slots := 0, locals := 0 } : Room).cells ({ frames := 0, cells := 0, slots := 0, locals := 0 } : Room).slots) := by
  refine MetFree.of_bodySF (plainFor_of_name pn_com_example_spanwise_spanwise_ReadingLogPlan_Purchase) hisR ?_
  intro p e s m args below meth c s₁ Bd hml0 hP hK
  obtain ⟨rfl, hZ, hh⟩ := hP
  have hx := Bd.exec
  have hby := Bd.bytes
  have hml : c.maxLocals = 3 := hml0
  have hown : s.vm.findClass "com/example/spanwise/spanwise/ReadingLogPlan$Purchase" = some m.cls := findClass_of_methodNamed Bd.named
  have hnm := (name_of_methodNamed Bd.named Bd.method).1
  have X0 : Stand p l e ({ frames := 0, cells := 0, slots := 0, locals := 0 } : Room) s m #[(.ref a1), (.ref a2)] below meth c s₁ [] 0 0 := Stand.of_body Bd
  have e0 : s₁.heap = h0 := by rw [← hh, Bd.state]; rfl
  have N0 := Fr.nil n0
  refine own_fw (A' := (s₁.setTop (mkF m 0 #[.val (.ref a1), .val (.ref a2), .unset] []))) (fun t k => castTop (ef_rmEqObj m a1 a2) k) ?_
  refine own_fw (A' := (s₁.setTop (mkF m 1 #[.val (.ref a1), .val (.ref a2), .unset] [(.ref a2)]))) (fun t k => XS.aloadN X0.here hx rfl (hb hby d_prog_10_method_6_code_0) rfl rfl k) ?_
  obtain ⟨T1, X1, e1, st1⟩ := instY X0 hx hZ hown (hw _ (List.mem_of_getElem? (i := 44) rfl)) e0 (Ins.self P0) (g := (mkF m 1 #[.val (.ref a1), .val (.ref a2), .unset] [(.ref a2)])) rfl rfl (hb hby d_prog_10_method_6_code_1)
  refine own_fw (A' := (T1.setTop (mkF m 4 #[.val (.ref a1), .val (.ref a2), .unset] [(.int (1 : Int32))]))) (fun t k => st1 _ k) ?_
  refine own_fw (A' := (T1.setTop (mkF m 7 #[.val (.ref a1), .val (.ref a2), .unset] []))) (fun t k => XS.ifNo X1.here hx rfl (hb hby d_prog_10_method_6_code_4) rfl (XT.i0_eq_f (by decide)) k) ?_
  refine own_fw (A' := (T1.setTop (mkF m 8 #[.val (.ref a1), .val (.ref a2), .unset] [(.ref a2)]))) (fun t k => XS.aloadN X1.here hx rfl (hb hby d_prog_10_method_6_code_7) rfl rfl k) ?_
  obtain ⟨T2, X2, e2, st2⟩ := castY X1 hx hZ hown (hw _ (List.mem_of_getElem? (i := 44) rfl)) e1 (Ins.self P0) (g := (mkF m 8 #[.val (.ref a1), .val (.ref a2), .unset] [(.ref a2)])) rfl rfl (hb hby d_prog_10_method_6_code_8)
  refine own_fw (A' := (T2.setTop (mkF m 11 #[.val (.ref a1), .val (.ref a2), .unset] [(.ref a2)]))) (fun t k => st2 _ k) ?_
  refine own_fw (A' := (T2.setTop (mkF m 12 #[.val (.ref a1), .val (.ref a2), .val (.ref a2)] []))) (fun t k => XS.astoreN X2.here hx rfl (hb hby d_prog_10_method_6_code_11) rfl rfl (l' := #[.val (.ref a1), .val (.ref a2), .val (.ref a2)]) rfl k) ?_
  refine own_fw (A' := (T2.setTop (mkF m 13 #[.val (.ref a1), .val (.ref a2), .val (.ref a2)] [(.ref a1)]))) (fun t k => XS.aloadN X2.here hx rfl (hb hby d_prog_10_method_6_code_12) rfl rfl k) ?_
  obtain ⟨T3, X3, e3, st3⟩ := getF X2 hx hZ hown (host := "") (Or.inl (hw _ (List.mem_of_getElem? (i := 31) rfl))) Via.refl e2 P1 (g := (mkF m 13 #[.val (.ref a1), .val (.ref a2), .val (.ref a2)] [(.ref a1)])) rfl rfl (hb hby d_prog_10_method_6_code_13)
  refine own_fw (A' := (T3.setTop (mkF m 16 #[.val (.ref a1), .val (.ref a2), .val (.ref a2)] [(.ref k1)]))) (fun t k => st3 _ k) ?_
  refine own_fw (A' := (T3.setTop (mkF m 17 #[.val (.ref a1), .val (.ref a2), .val (.ref a2)] [(.ref a2), (.ref k1)]))) (fun t k => XS.aloadN X3.here hx rfl (hb hby d_prog_10_method_6_code_16) rfl rfl k) ?_
  obtain ⟨T4, X4, e4, st4⟩ := getF X3 hx hZ hown (host := "") (Or.inl (hw _ (List.mem_of_getElem? (i := 31) rfl))) Via.refl e3 P5 (g := (mkF m 17 #[.val (.ref a1), .val (.ref a2), .val (.ref a2)] [(.ref a2), (.ref k1)])) rfl rfl (hb hby d_prog_10_method_6_code_17)
  refine own_fw (A' := (T4.setTop (mkF m 20 #[.val (.ref a1), .val (.ref a2), .val (.ref a2)] [(.ref k2), (.ref k1)]))) (fun t k => st4 _ k) ?_
  by_cases hc5 : ((.ref k1) : Value) = (.ref k2)
  · refine own_fw (A' := (T4.setTop (mkF m 23 #[.val (.ref a1), .val (.ref a2), .val (.ref a2)] []))) (fun t k => Jvm.RoadKit.acmp (g := (mkF m 20 #[.val (.ref a1), .val (.ref a2), .val (.ref a2)] [(.ref k2), (.ref k1)])) X4 hx rfl rfl rfl (pc0 := 20) (pc' := 23) (same := true) rfl (hb hby d_prog_10_method_6_code_20) rfl (decide_eq_true hc5) (by decide) (by decide) k) ?_
    refine own_fw (A' := (T4.setTop (mkF m 24 #[.val (.ref a1), .val (.ref a2), .val (.ref a2)] [(.ref a1)]))) (fun t k => XS.aloadN X4.here hx rfl (hb hby d_prog_10_method_6_code_23) rfl rfl k) ?_
    obtain ⟨T6, X6, e6, st6⟩ := getF X4 hx hZ hown (host := "") (Or.inl (hw _ (List.mem_of_getElem? (i := 33) rfl))) Via.refl e4 P2 (g := (mkF m 24 #[.val (.ref a1), .val (.ref a2), .val (.ref a2)] [(.ref a1)])) rfl rfl (hb hby d_prog_10_method_6_code_24)
    refine own_fw (A' := (T6.setTop (mkF m 27 #[.val (.ref a1), .val (.ref a2), .val (.ref a2)] [(.long q3)]))) (fun t k => st6 _ k) ?_
    refine own_fw (A' := (T6.setTop (mkF m 28 #[.val (.ref a1), .val (.ref a2), .val (.ref a2)] [(.ref a2), (.long q3)]))) (fun t k => XS.aloadN X6.here hx rfl (hb hby d_prog_10_method_6_code_27) rfl rfl k) ?_
    obtain ⟨T7, X7, e7, st7⟩ := getF X6 hx hZ hown (host := "") (Or.inl (hw _ (List.mem_of_getElem? (i := 33) rfl))) Via.refl e6 P6 (g := (mkF m 28 #[.val (.ref a1), .val (.ref a2), .val (.ref a2)] [(.ref a2), (.long q3)])) rfl rfl (hb hby d_prog_10_method_6_code_28)
    refine own_fw (A' := (T7.setTop (mkF m 31 #[.val (.ref a1), .val (.ref a2), .val (.ref a2)] [(.long q6), (.long q3)]))) (fun t k => st7 _ k) ?_
    refine own_fw (A' := (T7.setTop (mkF m 32 #[.val (.ref a1), .val (.ref a2), .val (.ref a2)] [(.int (XT.cmpL q3 q6))]))) (fun t k => XT.lcmp X7.here hx rfl (hb hby d_prog_10_method_6_code_31) rfl k) ?_
    by_cases hc8 : q3 = q6
    · refine own_fw (A' := (T7.setTop (mkF m 35 #[.val (.ref a1), .val (.ref a2), .val (.ref a2)] []))) (fun t k => XS.ifNo X7.here hx rfl (hb hby d_prog_10_method_6_code_32) rfl (XT.ll_ne_f hc8) k) ?_
      refine own_fw (A' := (T7.setTop (mkF m 36 #[.val (.ref a1), .val (.ref a2), .val (.ref a2)] [(.ref a1)]))) (fun t k => XS.aloadN X7.here hx rfl (hb hby d_prog_10_method_6_code_35) rfl rfl k) ?_
      obtain ⟨T9, X9, e9, st9⟩ := getF X7 hx hZ hown (host := "") (Or.inl (hw _ (List.mem_of_getElem? (i := 35) rfl))) Via.refl e7 P3 (g := (mkF m 36 #[.val (.ref a1), .val (.ref a2), .val (.ref a2)] [(.ref a1)])) rfl rfl (hb hby d_prog_10_method_6_code_36)
      refine own_fw (A' := (T9.setTop (mkF m 39 #[.val (.ref a1), .val (.ref a2), .val (.ref a2)] [(.long q4)]))) (fun t k => st9 _ k) ?_
      refine own_fw (A' := (T9.setTop (mkF m 40 #[.val (.ref a1), .val (.ref a2), .val (.ref a2)] [(.ref a2), (.long q4)]))) (fun t k => XS.aloadN X9.here hx rfl (hb hby d_prog_10_method_6_code_39) rfl rfl k) ?_
      obtain ⟨T10, X10, e10, st10⟩ := getF X9 hx hZ hown (host := "") (Or.inl (hw _ (List.mem_of_getElem? (i := 35) rfl))) Via.refl e9 P7 (g := (mkF m 40 #[.val (.ref a1), .val (.ref a2), .val (.ref a2)] [(.ref a2), (.long q4)])) rfl rfl (hb hby d_prog_10_method_6_code_40)
      refine own_fw (A' := (T10.setTop (mkF m 43 #[.val (.ref a1), .val (.ref a2), .val (.ref a2)] [(.long q7), (.long q4)]))) (fun t k => st10 _ k) ?_
      refine own_fw (A' := (T10.setTop (mkF m 44 #[.val (.ref a1), .val (.ref a2), .val (.ref a2)] [(.int (XT.cmpL q4 q7))]))) (fun t k => XT.lcmp X10.here hx rfl (hb hby d_prog_10_method_6_code_43) rfl k) ?_
      by_cases hc11 : q4 = q7
      · refine own_fw (A' := (T10.setTop (mkF m 47 #[.val (.ref a1), .val (.ref a2), .val (.ref a2)] []))) (fun t k => XS.ifNo X10.here hx rfl (hb hby d_prog_10_method_6_code_44) rfl (XT.ll_ne_f hc11) k) ?_
        refine own_fw (A' := (T10.setTop (mkF m 48 #[.val (.ref a1), .val (.ref a2), .val (.ref a2)] [(.ref a1)]))) (fun t k => XS.aloadN X10.here hx rfl (hb hby d_prog_10_method_6_code_47) rfl rfl k) ?_
        obtain ⟨T12, X12, e12, st12⟩ := getF X10 hx hZ hown (host := "") (Or.inl (hw _ (List.mem_of_getElem? (i := 37) rfl))) Via.refl e10 P4 (g := (mkF m 48 #[.val (.ref a1), .val (.ref a2), .val (.ref a2)] [(.ref a1)])) rfl rfl (hb hby d_prog_10_method_6_code_48)
        refine own_fw (A' := (T12.setTop (mkF m 51 #[.val (.ref a1), .val (.ref a2), .val (.ref a2)] [(.long q5)]))) (fun t k => st12 _ k) ?_
        refine own_fw (A' := (T12.setTop (mkF m 52 #[.val (.ref a1), .val (.ref a2), .val (.ref a2)] [(.ref a2), (.long q5)]))) (fun t k => XS.aloadN X12.here hx rfl (hb hby d_prog_10_method_6_code_51) rfl rfl k) ?_
        obtain ⟨T13, X13, e13, st13⟩ := getF X12 hx hZ hown (host := "") (Or.inl (hw _ (List.mem_of_getElem? (i := 37) rfl))) Via.refl e12 P8 (g := (mkF m 52 #[.val (.ref a1), .val (.ref a2), .val (.ref a2)] [(.ref a2), (.long q5)])) rfl rfl (hb hby d_prog_10_method_6_code_52)
        refine own_fw (A' := (T13.setTop (mkF m 55 #[.val (.ref a1), .val (.ref a2), .val (.ref a2)] [(.long q8), (.long q5)]))) (fun t k => st13 _ k) ?_
        refine own_fw (A' := (T13.setTop (mkF m 56 #[.val (.ref a1), .val (.ref a2), .val (.ref a2)] [(.int (XT.cmpL q5 q8))]))) (fun t k => XT.lcmp X13.here hx rfl (hb hby d_prog_10_method_6_code_55) rfl k) ?_
        by_cases hc14 : q5 = q8
        · refine own_fw (A' := (T13.setTop (mkF m 59 #[.val (.ref a1), .val (.ref a2), .val (.ref a2)] []))) (fun t k => XS.ifNo X13.here hx rfl (hb hby d_prog_10_method_6_code_56) rfl (XT.ll_ne_f hc14) k) ?_
          refine own_fw (A' := (T13.setTop (mkF m 60 #[.val (.ref a1), .val (.ref a2), .val (.ref a2)] [(.int (1 : Int32))]))) (fun t k => XS.iconst X13.here hx rfl (hb hby d_prog_10_method_6_code_59) k) ?_
          refine own_fw (A' := (T13.setTop (mkF m 64 #[.val (.ref a1), .val (.ref a2), .val (.ref a2)] [(.int (1 : Int32))]))) (fun t k => XS.goto X13.here hx rfl (pc0 := 60) (pc' := 64) rfl (hb hby d_prog_10_method_6_code_60) (by decide) (by decide) k) ?_
          obtain ⟨fs, hr, hrun, hended, hW, hsame⟩ := X13.leave (v := some (.int (1 : Int32))) (fun h => by rw [Bd.returns] at h; cases h)
          refine ⟨_, _, ?_, hrun, hended, _, _, rfl, ?_, ⟨_, rfl⟩, hW, hsame.mono (by decide) (by decide)⟩
          · exact retOut X13 hx Bd.returns rfl (Or.inl ⟨rfl, by simp, _, rfl⟩) (hb hby d_prog_10_method_6_code_64) hr
          · show Q_rmEqObj Z a1 a2 k1 k2 q3 q4 q5 q6 q7 q8 h0 n0 _ T13.heap _
            rw [e13]
            exact ⟨(by simp only [own_peq, if_pos hc5, if_pos hc8, if_pos hc11, if_pos hc14]), N0, rfl⟩
        · refine own_fw (A' := (T13.setTop (mkF m 63 #[.val (.ref a1), .val (.ref a2), .val (.ref a2)] []))) (fun t k => XS.ifYes X13.here hx rfl (pc0 := 56) (pc' := 63) rfl (hb hby d_prog_10_method_6_code_56) rfl (XT.ll_ne_t hc14) (by decide) (by decide) k) ?_
          refine own_fw (A' := (T13.setTop (mkF m 64 #[.val (.ref a1), .val (.ref a2), .val (.ref a2)] [(.int (0 : Int32))]))) (fun t k => XS.iconst X13.here hx rfl (hb hby d_prog_10_method_6_code_63) k) ?_
          obtain ⟨fs, hr, hrun, hended, hW, hsame⟩ := X13.leave (v := some (.int (0 : Int32))) (fun h => by rw [Bd.returns] at h; cases h)
          refine ⟨_, _, ?_, hrun, hended, _, _, rfl, ?_, ⟨_, rfl⟩, hW, hsame.mono (by decide) (by decide)⟩
          · exact retOut X13 hx Bd.returns rfl (Or.inl ⟨rfl, by simp, _, rfl⟩) (hb hby d_prog_10_method_6_code_64) hr
          · show Q_rmEqObj Z a1 a2 k1 k2 q3 q4 q5 q6 q7 q8 h0 n0 _ T13.heap _
            rw [e13]
            exact ⟨(by simp only [own_peq, if_pos hc5, if_pos hc8, if_pos hc11, if_neg hc14]), N0, rfl⟩
      · refine own_fw (A' := (T10.setTop (mkF m 63 #[.val (.ref a1), .val (.ref a2), .val (.ref a2)] []))) (fun t k => XS.ifYes X10.here hx rfl (pc0 := 44) (pc' := 63) rfl (hb hby d_prog_10_method_6_code_44) rfl (XT.ll_ne_t hc11) (by decide) (by decide) k) ?_
        refine own_fw (A' := (T10.setTop (mkF m 64 #[.val (.ref a1), .val (.ref a2), .val (.ref a2)] [(.int (0 : Int32))]))) (fun t k => XS.iconst X10.here hx rfl (hb hby d_prog_10_method_6_code_63) k) ?_
        obtain ⟨fs, hr, hrun, hended, hW, hsame⟩ := X10.leave (v := some (.int (0 : Int32))) (fun h => by rw [Bd.returns] at h; cases h)
        refine ⟨_, _, ?_, hrun, hended, _, _, rfl, ?_, ⟨_, rfl⟩, hW, hsame.mono (by decide) (by decide)⟩
        · exact retOut X10 hx Bd.returns rfl (Or.inl ⟨rfl, by simp, _, rfl⟩) (hb hby d_prog_10_method_6_code_64) hr
        · show Q_rmEqObj Z a1 a2 k1 k2 q3 q4 q5 q6 q7 q8 h0 n0 _ T10.heap _
          rw [e10]
          exact ⟨(by simp only [own_peq, if_pos hc5, if_pos hc8, if_neg hc11]), N0, rfl⟩
    · refine own_fw (A' := (T7.setTop (mkF m 63 #[.val (.ref a1), .val (.ref a2), .val (.ref a2)] []))) (fun t k => XS.ifYes X7.here hx rfl (pc0 := 32) (pc' := 63) rfl (hb hby d_prog_10_method_6_code_32) rfl (XT.ll_ne_t hc8) (by decide) (by decide) k) ?_
      refine own_fw (A' := (T7.setTop (mkF m 64 #[.val (.ref a1), .val (.ref a2), .val (.ref a2)] [(.int (0 : Int32))]))) (fun t k => XS.iconst X7.here hx rfl (hb hby d_prog_10_method_6_code_63) k) ?_
      obtain ⟨fs, hr, hrun, hended, hW, hsame⟩ := X7.leave (v := some (.int (0 : Int32))) (fun h => by rw [Bd.returns] at h; cases h)
      refine ⟨_, _, ?_, hrun, hended, _, _, rfl, ?_, ⟨_, rfl⟩, hW, hsame.mono (by decide) (by decide)⟩
      · exact retOut X7 hx Bd.returns rfl (Or.inl ⟨rfl, by simp, _, rfl⟩) (hb hby d_prog_10_method_6_code_64) hr
      · show Q_rmEqObj Z a1 a2 k1 k2 q3 q4 q5 q6 q7 q8 h0 n0 _ T7.heap _
        rw [e7]
        exact ⟨(by simp only [own_peq, if_pos hc5, if_neg hc8]), N0, rfl⟩
  · refine own_fw (A' := (T4.setTop (mkF m 63 #[.val (.ref a1), .val (.ref a2), .val (.ref a2)] []))) (fun t k => Jvm.RoadKit.acmp (g := (mkF m 20 #[.val (.ref a1), .val (.ref a2), .val (.ref a2)] [(.ref k2), (.ref k1)])) X4 hx rfl rfl rfl (pc0 := 20) (pc' := 63) (same := false) rfl (hb hby d_prog_10_method_6_code_20) rfl (decide_eq_false hc5) (by decide) (by decide) k) ?_
    refine own_fw (A' := (T4.setTop (mkF m 64 #[.val (.ref a1), .val (.ref a2), .val (.ref a2)] [(.int (0 : Int32))]))) (fun t k => XS.iconst X4.here hx rfl (hb hby d_prog_10_method_6_code_63) k) ?_
    obtain ⟨fs, hr, hrun, hended, hW, hsame⟩ := X4.leave (v := some (.int (0 : Int32))) (fun h => by rw [Bd.returns] at h; cases h)
    refine ⟨_, _, ?_, hrun, hended, _, _, rfl, ?_, ⟨_, rfl⟩, hW, hsame.mono (by decide) (by decide)⟩
    · exact retOut X4 hx Bd.returns rfl (Or.inl ⟨rfl, by simp, _, rfl⟩) (hb hby d_prog_10_method_6_code_64) hr
    · show Q_rmEqObj Z a1 a2 k1 k2 q3 q4 q5 q6 q7 q8 h0 n0 _ T4.heap _
      rw [e4]
      exact ⟨(by simp only [own_peq, if_neg hc5]), N0, rfl⟩
theorem pd__I_Lcom_example_spanwise_spanwise_ReadingLogPlan_Kind_ : parseMethodDescriptor "(I)Lcom/example/spanwise/spanwise/ReadingLogPlan$Kind;" = some ⟨[.int], some (.object "com/example/spanwise/spanwise/ReadingLogPlan$Kind")⟩ := by decide +kernel
theorem pd__Lcom_example_spanwise_spanwise_ReadingLogPlan_Kind_JJJ_V : parseMethodDescriptor "(Lcom/example/spanwise/spanwise/ReadingLogPlan$Kind;JJJ)V" = some ⟨[(.object "com/example/spanwise/spanwise/ReadingLogPlan$Kind"), .long, .long, .long], none⟩ := by decide +kernel
theorem pd__Ljava_lang_Object__Z : parseMethodDescriptor "(Ljava/lang/Object;)Z" = some ⟨[(.object "java/lang/Object")], some .boolean⟩ := by decide +kernel
theorem pd__J_Ljava_lang_Long_ : parseMethodDescriptor "(J)Ljava/lang/Long;" = some ⟨[.long], some (.object "java/lang/Long")⟩ := by decide +kernel
theorem ef_rm0 (m : MethodId) (p1 : Int32) (q2 : Int64) (q3 : Int64) (q4 : Int64) (q5 : Int64) (p6 : Int32) : entryFrame m #[(.int p1), (.long q2), (.long q3), (.long q4), (.long q5), (.int p6)] maxLocals = mkF m 0 #[.val (.int p1), .val (.long q2), .second, .val (.long q3), .second, .val (.long q4), .second, .val (.long q5), .second, .val (.int p6), .unset, .unset, .unset, .unset, .unset, .unset, .unset, .unset, .unset, .unset, .unset, .unset] [] := by first | (simp [entryFrame, mkF, argsToLocals, Value.category, maxLocals]; done) | rfl
def Q_rm0 (Z : State) (p1 : Int32) (q2 : Int64) (q3 : Int64) (q4 : Int64) (q5 : Int64) (p6 : Int32) (ca : Addr) (r0 : Addr) (r1 : Addr) (r2 : Addr) (h0 : Heap) (n0 : Nat) (v : Option Value) (h : Heap) (L : List Loc) : Prop := v = some (.int (1 : Int32)) ∧ Fr n0 L
set_option maxRecDepth 65536 in
set_option maxHeartbeats 40000000 in
theorem rm0 (l : Launch) (Z : State) (a0 : Array Value) (hw : ∀ d ∈ tables_1, d.before a0 Z = true) (ws : List Jvm.Cond) (p1 : Int32) (q2 : Int64) (q3 : Int64) (q4 : Int64) (q5 : Int64) (p6 : Int32) (ca : Addr) (r0 : Addr) (r1 : Addr) (r2 : Addr) (h0 : Heap) (n0 : Nat) (Z0 : n0 ≤ h0.size) (P0 : Sta Z h0 "java/lang/Long$LongCache" "cache" "[Ljava/lang/Long;" (.ref ca)) (P1 : own_Cache Z h0 ca "java/lang/Long") (P2 : Sta Z h0 "com/example/spanwise/spanwise/ReadingLogPlan$Kind" "SINGLE" "Lcom/example/spanwise/spanwise/ReadingLogPlan$Kind;" (.ref r0)) (P3 : Exa Z h0 r0 "com/example/spanwise/spanwise/ReadingLogPlan$Kind") (P4 : Sta Z h0 "com/example/spanwise/spanwise/ReadingLogPlan$Kind" "BUNDLE" "Lcom/example/spanwise/spanwise/ReadingLogPlan$Kind;" (.ref r1)) (P5 : Exa Z h0 r1 "com/example/spanwise/spanwise/ReadingLogPlan$Kind") (P6 : Sta Z h0 "com/example/spanwise/spanwise/ReadingLogPlan$Kind" "PASS" "Lcom/example/spanwise/spanwise/ReadingLogPlan$Kind;" (.ref r2)) (P7 : Exa Z h0 r2 "com/example/spanwise/spanwise/ReadingLogPlan$Kind") (n01 : r0 ≠ r1) (n02 : r0 ≠ r2) (n12 : r1 ≠ r2) :
    MetFree l x (head1 (Jvm.Cond.code x code maxLocals ret :: ws) room_1) (fun a U => a = #[(.int p1), (.long q2), (.long q3), (.long q4), (.long q5), (.int p6)] ∧ Z.Warmed39 U.vm ∧ U.heap = h0) (fun _ _ _ _ _ => True) (fun _ U o U' => ∃ v L, o = .returned v ∧ Q_rm0 Z p1 q2 q3 q4 q5 p6 ca r0 r1 r2 h0 n0 v U'.heap L ∧ ReturnedEndW U o U' L room_1.cells room_1.slots) := by
  refine MetFree.of_bodySF (plainFor_of_name pn_com_example_spanwise_spanwise_PurchaseEqualsPinLaw) hisR ?_
  intro p e s m args below meth c s₁ Bd hml0 hP hK
  obtain ⟨rfl, hZ, hh⟩ := hP
  have hx := Bd.exec
  have hby := Bd.bytes
  have hml : c.maxLocals = 22 := hml0
  have hown : s.vm.findClass "com/example/spanwise/spanwise/PurchaseEqualsPinLaw" = some m.cls := findClass_of_methodNamed Bd.named
  have hnm := (name_of_methodNamed Bd.named Bd.method).1
  have X0 : Stand p l e room_1 (s.setVm s.vm) m #[(.int p1), (.long q2), (.long q3), (.long q4), (.long q5), (.int p6)] below meth c s₁ [] 0 0 := Stand.of_body Bd
  have e0 : s₁.heap = h0 := by rw [← hh, Bd.state]; rfl
  have N0 := Fr.nil n0
  refine own_fw (A' := (s₁.setTop (mkF m 0 #[.val (.int p1), .val (.long q2), .second, .val (.long q3), .second, .val (.long q4), .second, .val (.long q5), .second, .val (.int p6), .unset, .unset, .unset, .unset, .unset, .unset, .unset, .unset, .unset, .unset, .unset, .unset] []))) (fun t k => castTop (ef_rm0 m p1 q2 q3 q4 q5 p6) k) ?_
  have hS : s.Since s.vm h0.size := (State.WarmedH.refl s).since _
  have hk : h0.size ≤ h0.size := Nat.le_refl _
  refine own_fw (A' := (s₁.setTop (mkF m 1 #[.val (.int p1), .val (.long q2), .second, .val (.long q3), .second, .val (.long q4), .second, .val (.long q5), .second, .val (.int p6), .unset, .unset, .unset, .unset, .unset, .unset, .unset, .unset, .unset, .unset, .unset, .unset] [(.int p1)]))) (fun t k => XS.iloadN X0.here hx rfl (hb hby at_0) rfl k) ?_
  refine own_fw (A' := (s₁.setTop (mkF m 3 #[.val (.int p1), .val (.long q2), .second, .val (.long q3), .second, .val (.long q4), .second, .val (.long q5), .second, .val (.int p6), .unset, .unset, .unset, .unset, .unset, .unset, .unset, .unset, .unset, .unset, .unset, .unset] [(.int (2147483647 : Int32)), (.int p1)]))) (fun t k => X0.ldcInt hx hown (mvT hZ (hw _ (List.mem_of_getElem? (i := 0) rfl))) (g := (mkF m 1 #[.val (.int p1), .val (.long q2), .second, .val (.long q3), .second, .val (.long q4), .second, .val (.long q5), .second, .val (.int p6), .unset, .unset, .unset, .unset, .unset, .unset, .unset, .unset, .unset, .unset, .unset, .unset] [(.int p1)])) rfl (hb hby at_1) _ k) ?_
  refine own_fw (A' := (s₁.setTop (mkF m 4 #[.val (.int p1), .val (.long q2), .second, .val (.long q3), .second, .val (.long q4), .second, .val (.long q5), .second, .val (.int p6), .unset, .unset, .unset, .unset, .unset, .unset, .unset, .unset, .unset, .unset, .unset, .unset] [(.int (p1 &&& (2147483647 : Int32)))]))) (fun t k => XS.iand X0.here hx rfl (hb hby at_3) rfl k) ?_
  refine own_fw (A' := (s₁.setTop (mkF m 5 #[.val (.int p1), .val (.long q2), .second, .val (.long q3), .second, .val (.long q4), .second, .val (.long q5), .second, .val (.int p6), .unset, .unset, .unset, .unset, .unset, .unset, .unset, .unset, .unset, .unset, .unset, .unset] [(.int (3 : Int32)), (.int (p1 &&& (2147483647 : Int32)))]))) (fun t k => XS.iconst X0.here hx rfl (hb hby at_4) k) ?_
  refine own_fw (A' := (s₁.setTop (mkF m 6 #[.val (.int p1), .val (.long q2), .second, .val (.long q3), .second, .val (.long q4), .second, .val (.long q5), .second, .val (.int p6), .unset, .unset, .unset, .unset, .unset, .unset, .unset, .unset, .unset, .unset, .unset, .unset] [(.int ((p1 &&& (2147483647 : Int32)) % (3 : Int32)))]))) (fun t k => iremM X0 hx rfl (hb hby at_5) rfl (by decide) k) ?_
  refine own_fw (A' := (s₁.setTop (mkF m 8 #[.val (.int p1), .val (.long q2), .second, .val (.long q3), .second, .val (.long q4), .second, .val (.long q5), .second, .val (.int p6), .val (.int ((p1 &&& (2147483647 : Int32)) % (3 : Int32))), .unset, .unset, .unset, .unset, .unset, .unset, .unset, .unset, .unset, .unset, .unset] []))) (fun t k => XS.istore X0.here hx rfl (hb hby at_6) rfl (l' := #[.val (.int p1), .val (.long q2), .second, .val (.long q3), .second, .val (.long q4), .second, .val (.long q5), .second, .val (.int p6), .val (.int ((p1 &&& (2147483647 : Int32)) % (3 : Int32))), .unset, .unset, .unset, .unset, .unset, .unset, .unset, .unset, .unset, .unset, .unset]) rfl k) ?_
  obtain ⟨ka, h_ka⟩ : ∃ z : Int32, z = ((p1 &&& (2147483647 : Int32)) % (3 : Int32)) := ⟨_, rfl⟩
  rw [← h_ka]
  have hka := own_m3 _ _ h_ka
  refine own_fw (A' := (s₁.setTop (mkF m 10 #[.val (.int p1), .val (.long q2), .second, .val (.long q3), .second, .val (.long q4), .second, .val (.long q5), .second, .val (.int p6), .val (.int ka), .unset, .unset, .unset, .unset, .unset, .unset, .unset, .unset, .unset, .unset, .unset] [(.int p6)]))) (fun t k => XS.iload X0.here hx rfl (hb hby at_8) rfl k) ?_
  refine own_fw (A' := (s₁.setTop (mkF m 12 #[.val (.int p1), .val (.long q2), .second, .val (.long q3), .second, .val (.long q4), .second, .val (.long q5), .second, .val (.int p6), .val (.int ka), .unset, .unset, .unset, .unset, .unset, .unset, .unset, .unset, .unset, .unset, .unset] [(.int (8 : Int32)), (.int p6)]))) (fun t k => XS.bipush X0.here hx rfl (hb hby at_10) k) ?_
  refine own_fw (A' := (s₁.setTop (mkF m 13 #[.val (.int p1), .val (.long q2), .second, .val (.long q3), .second, .val (.long q4), .second, .val (.long q5), .second, .val (.int p6), .val (.int ka), .unset, .unset, .unset, .unset, .unset, .unset, .unset, .unset, .unset, .unset, .unset] [(.int (p6 &&& (8 : Int32)))]))) (fun t k => XS.iand X0.here hx rfl (hb hby at_12) rfl k) ?_
  refine own_fw (A' := (s₁.setTop (mkF m 30 #[.val (.int p1), .val (.long q2), .second, .val (.long q3), .second, .val (.long q4), .second, .val (.long q5), .second, .val (.int p6), .val (.int ka), .unset, .unset, .unset, .unset, .unset, .unset, .unset, .unset, .unset, .unset, .unset] [(.int (if (p6 &&& (8 : Int32)) = (0 : Int32) then ((((p1.toUInt32 >>> ((8 : Int32) &&& 31).toUInt32).toInt32) &&& (2147483647 : Int32)) % (3 : Int32)) else ka))]))) (fun t k => ?_) ?_
  · by_cases hj1 : (p6 &&& (8 : Int32)) = (0 : Int32)
    · try simp only [if_pos hj1] at k
      refine own_st (A' := (s₁.setTop (mkF m 21 #[.val (.int p1), .val (.long q2), .second, .val (.long q3), .second, .val (.long q4), .second, .val (.long q5), .second, .val (.int p6), .val (.int ka), .unset, .unset, .unset, .unset, .unset, .unset, .unset, .unset, .unset, .unset, .unset] []))) (fun t k => XS.ifYes X0.here hx rfl (pc0 := 13) (pc' := 21) rfl (hb hby at_13) rfl (XT.i0_eq_t hj1) (by decide) (by decide) k) ?_
      refine own_st (A' := (s₁.setTop (mkF m 22 #[.val (.int p1), .val (.long q2), .second, .val (.long q3), .second, .val (.long q4), .second, .val (.long q5), .second, .val (.int p6), .val (.int ka), .unset, .unset, .unset, .unset, .unset, .unset, .unset, .unset, .unset, .unset, .unset] [(.int p1)]))) (fun t k => XS.iloadN X0.here hx rfl (hb hby at_21) rfl k) ?_
      refine own_st (A' := (s₁.setTop (mkF m 24 #[.val (.int p1), .val (.long q2), .second, .val (.long q3), .second, .val (.long q4), .second, .val (.long q5), .second, .val (.int p6), .val (.int ka), .unset, .unset, .unset, .unset, .unset, .unset, .unset, .unset, .unset, .unset, .unset] [(.int (8 : Int32)), (.int p1)]))) (fun t k => XS.bipush X0.here hx rfl (hb hby at_22) k) ?_
      refine own_st (A' := (s₁.setTop (mkF m 25 #[.val (.int p1), .val (.long q2), .second, .val (.long q3), .second, .val (.long q4), .second, .val (.long q5), .second, .val (.int p6), .val (.int ka), .unset, .unset, .unset, .unset, .unset, .unset, .unset, .unset, .unset, .unset, .unset] [(.int ((p1.toUInt32 >>> ((8 : Int32) &&& 31).toUInt32).toInt32))]))) (fun t k => XS.iushr X0.here hx rfl (hb hby at_24) rfl k) ?_
      refine own_st (A' := (s₁.setTop (mkF m 27 #[.val (.int p1), .val (.long q2), .second, .val (.long q3), .second, .val (.long q4), .second, .val (.long q5), .second, .val (.int p6), .val (.int ka), .unset, .unset, .unset, .unset, .unset, .unset, .unset, .unset, .unset, .unset, .unset] [(.int (2147483647 : Int32)), (.int ((p1.toUInt32 >>> ((8 : Int32) &&& 31).toUInt32).toInt32))]))) (fun t k => X0.ldcInt hx hown (mvT hZ (hw _ (List.mem_of_getElem? (i := 0) rfl))) (g := (mkF m 25 #[.val (.int p1), .val (.long q2), .second, .val (.long q3), .second, .val (.long q4), .second, .val (.long q5), .second, .val (.int p6), .val (.int ka), .unset, .unset, .unset, .unset, .unset, .unset, .unset, .unset, .unset, .unset, .unset] [(.int ((p1.toUInt32 >>> ((8 : Int32) &&& 31).toUInt32).toInt32))])) rfl (hb hby at_25) _ k) ?_
      refine own_st (A' := (s₁.setTop (mkF m 28 #[.val (.int p1), .val (.long q2), .second, .val (.long q3), .second, .val (.long q4), .second, .val (.long q5), .second, .val (.int p6), .val (.int ka), .unset, .unset, .unset, .unset, .unset, .unset, .unset, .unset, .unset, .unset, .unset] [(.int (((p1.toUInt32 >>> ((8 : Int32) &&& 31).toUInt32).toInt32) &&& (2147483647 : Int32)))]))) (fun t k => XS.iand X0.here hx rfl (hb hby at_27) rfl k) ?_
      refine own_st (A' := (s₁.setTop (mkF m 29 #[.val (.int p1), .val (.long q2), .second, .val (.long q3), .second, .val (.long q4), .second, .val (.long q5), .second, .val (.int p6), .val (.int ka), .unset, .unset, .unset, .unset, .unset, .unset, .unset, .unset, .unset, .unset, .unset] [(.int (3 : Int32)), (.int (((p1.toUInt32 >>> ((8 : Int32) &&& 31).toUInt32).toInt32) &&& (2147483647 : Int32)))]))) (fun t k => XS.iconst X0.here hx rfl (hb hby at_28) k) ?_
      refine own_st (A' := (s₁.setTop (mkF m 30 #[.val (.int p1), .val (.long q2), .second, .val (.long q3), .second, .val (.long q4), .second, .val (.long q5), .second, .val (.int p6), .val (.int ka), .unset, .unset, .unset, .unset, .unset, .unset, .unset, .unset, .unset, .unset, .unset] [(.int ((((p1.toUInt32 >>> ((8 : Int32) &&& 31).toUInt32).toInt32) &&& (2147483647 : Int32)) % (3 : Int32)))]))) (fun t k => iremM X0 hx rfl (hb hby at_29) rfl (by decide) k) ?_
      exact k
    · try simp only [if_neg hj1] at k
      refine own_st (A' := (s₁.setTop (mkF m 16 #[.val (.int p1), .val (.long q2), .second, .val (.long q3), .second, .val (.long q4), .second, .val (.long q5), .second, .val (.int p6), .val (.int ka), .unset, .unset, .unset, .unset, .unset, .unset, .unset, .unset, .unset, .unset, .unset] []))) (fun t k => XS.ifNo X0.here hx rfl (hb hby at_13) rfl (XT.i0_eq_f hj1) k) ?_
      refine own_st (A' := (s₁.setTop (mkF m 18 #[.val (.int p1), .val (.long q2), .second, .val (.long q3), .second, .val (.long q4), .second, .val (.long q5), .second, .val (.int p6), .val (.int ka), .unset, .unset, .unset, .unset, .unset, .unset, .unset, .unset, .unset, .unset, .unset] [(.int ka)]))) (fun t k => XS.iload X0.here hx rfl (hb hby at_16) rfl k) ?_
      refine own_st (A' := (s₁.setTop (mkF m 30 #[.val (.int p1), .val (.long q2), .second, .val (.long q3), .second, .val (.long q4), .second, .val (.long q5), .second, .val (.int p6), .val (.int ka), .unset, .unset, .unset, .unset, .unset, .unset, .unset, .unset, .unset, .unset, .unset] [(.int ka)]))) (fun t k => XS.goto X0.here hx rfl (pc0 := 18) (pc' := 30) rfl (hb hby at_18) (by decide) (by decide) k) ?_
      exact k
  obtain ⟨kb, h_kb⟩ : ∃ z : Int32, z = (if (p6 &&& (8 : Int32)) = (0 : Int32) then ((((p1.toUInt32 >>> ((8 : Int32) &&& 31).toUInt32).toInt32) &&& (2147483647 : Int32)) % (3 : Int32)) else ka) := ⟨_, rfl⟩
  rw [← h_kb]
  refine own_fw (A' := (s₁.setTop (mkF m 32 #[.val (.int p1), .val (.long q2), .second, .val (.long q3), .second, .val (.long q4), .second, .val (.long q5), .second, .val (.int p6), .val (.int ka), .val (.int kb), .unset, .unset, .unset, .unset, .unset, .unset, .unset, .unset, .unset, .unset] []))) (fun t k => XS.istore X0.here hx rfl (hb hby at_30) rfl (l' := #[.val (.int p1), .val (.long q2), .second, .val (.long q3), .second, .val (.long q4), .second, .val (.long q5), .second, .val (.int p6), .val (.int ka), .val (.int kb), .unset, .unset, .unset, .unset, .unset, .unset, .unset, .unset, .unset, .unset]) rfl k) ?_
  have hkb := own_kb _ _ _ _ hka h_kb
  refine own_fw (A' := (s₁.setTop (mkF m 34 #[.val (.int p1), .val (.long q2), .second, .val (.long q3), .second, .val (.long q4), .second, .val (.long q5), .second, .val (.int p6), .val (.int ka), .val (.int kb), .unset, .unset, .unset, .unset, .unset, .unset, .unset, .unset, .unset, .unset] [(.int p6)]))) (fun t k => XS.iload X0.here hx rfl (hb hby at_32) rfl k) ?_
  refine own_fw (A' := (s₁.setTop (mkF m 35 #[.val (.int p1), .val (.long q2), .second, .val (.long q3), .second, .val (.long q4), .second, .val (.long q5), .second, .val (.int p6), .val (.int ka), .val (.int kb), .unset, .unset, .unset, .unset, .unset, .unset, .unset, .unset, .unset, .unset] [(.int (1 : Int32)), (.int p6)]))) (fun t k => XS.iconst X0.here hx rfl (hb hby at_34) k) ?_
  refine own_fw (A' := (s₁.setTop (mkF m 36 #[.val (.int p1), .val (.long q2), .second, .val (.long q3), .second, .val (.long q4), .second, .val (.long q5), .second, .val (.int p6), .val (.int ka), .val (.int kb), .unset, .unset, .unset, .unset, .unset, .unset, .unset, .unset, .unset, .unset] [(.int (p6 &&& (1 : Int32)))]))) (fun t k => XS.iand X0.here hx rfl (hb hby at_35) rfl k) ?_
  refine own_fw (A' := (s₁.setTop (mkF m 47 #[.val (.int p1), .val (.long q2), .second, .val (.long q3), .second, .val (.long q4), .second, .val (.long q5), .second, .val (.int p6), .val (.int ka), .val (.int kb), .unset, .unset, .unset, .unset, .unset, .unset, .unset, .unset, .unset, .unset] [(.long (if (p6 &&& (1 : Int32)) = (0 : Int32) then q2 else (q2 + q5)))]))) (fun t k => ?_) ?_
  · by_cases hj2 : (p6 &&& (1 : Int32)) = (0 : Int32)
    · try simp only [if_pos hj2] at k
      refine own_st (A' := (s₁.setTop (mkF m 46 #[.val (.int p1), .val (.long q2), .second, .val (.long q3), .second, .val (.long q4), .second, .val (.long q5), .second, .val (.int p6), .val (.int ka), .val (.int kb), .unset, .unset, .unset, .unset, .unset, .unset, .unset, .unset, .unset, .unset] []))) (fun t k => XS.ifYes X0.here hx rfl (pc0 := 36) (pc' := 46) rfl (hb hby at_36) rfl (XT.i0_eq_t hj2) (by decide) (by decide) k) ?_
      refine own_st (A' := (s₁.setTop (mkF m 47 #[.val (.int p1), .val (.long q2), .second, .val (.long q3), .second, .val (.long q4), .second, .val (.long q5), .second, .val (.int p6), .val (.int ka), .val (.int kb), .unset, .unset, .unset, .unset, .unset, .unset, .unset, .unset, .unset, .unset] [(.long q2)]))) (fun t k => XS.lloadN X0.here hx rfl (hb hby at_46) rfl k) ?_
      exact k
    · try simp only [if_neg hj2] at k
      refine own_st (A' := (s₁.setTop (mkF m 39 #[.val (.int p1), .val (.long q2), .second, .val (.long q3), .second, .val (.long q4), .second, .val (.long q5), .second, .val (.int p6), .val (.int ka), .val (.int kb), .unset, .unset, .unset, .unset, .unset, .unset, .unset, .unset, .unset, .unset] []))) (fun t k => XS.ifNo X0.here hx rfl (hb hby at_36) rfl (XT.i0_eq_f hj2) k) ?_
      refine own_st (A' := (s₁.setTop (mkF m 40 #[.val (.int p1), .val (.long q2), .second, .val (.long q3), .second, .val (.long q4), .second, .val (.long q5), .second, .val (.int p6), .val (.int ka), .val (.int kb), .unset, .unset, .unset, .unset, .unset, .unset, .unset, .unset, .unset, .unset] [(.long q2)]))) (fun t k => XS.lloadN X0.here hx rfl (hb hby at_39) rfl k) ?_
      refine own_st (A' := (s₁.setTop (mkF m 42 #[.val (.int p1), .val (.long q2), .second, .val (.long q3), .second, .val (.long q4), .second, .val (.long q5), .second, .val (.int p6), .val (.int ka), .val (.int kb), .unset, .unset, .unset, .unset, .unset, .unset, .unset, .unset, .unset, .unset] [(.long q5), (.long q2)]))) (fun t k => XS.lload X0.here hx rfl (hb hby at_40) rfl k) ?_
      refine own_st (A' := (s₁.setTop (mkF m 43 #[.val (.int p1), .val (.long q2), .second, .val (.long q3), .second, .val (.long q4), .second, .val (.long q5), .second, .val (.int p6), .val (.int ka), .val (.int kb), .unset, .unset, .unset, .unset, .unset, .unset, .unset, .unset, .unset, .unset] [(.long (q2 + q5))]))) (fun t k => XS.ladd X0.here hx rfl (hb hby at_42) rfl k) ?_
      refine own_st (A' := (s₁.setTop (mkF m 47 #[.val (.int p1), .val (.long q2), .second, .val (.long q3), .second, .val (.long q4), .second, .val (.long q5), .second, .val (.int p6), .val (.int ka), .val (.int kb), .unset, .unset, .unset, .unset, .unset, .unset, .unset, .unset, .unset, .unset] [(.long (q2 + q5))]))) (fun t k => XS.goto X0.here hx rfl (pc0 := 43) (pc' := 47) rfl (hb hby at_43) (by decide) (by decide) k) ?_
      exact k
  obtain ⟨fb, h_fb⟩ : ∃ z : Int64, z = (if (p6 &&& (1 : Int32)) = (0 : Int32) then q2 else (q2 + q5)) := ⟨_, rfl⟩
  rw [← h_fb]
  refine own_fw (A' := (s₁.setTop (mkF m 49 #[.val (.int p1), .val (.long q2), .second, .val (.long q3), .second, .val (.long q4), .second, .val (.long q5), .second, .val (.int p6), .val (.int ka), .val (.int kb), .val (.long fb), .second, .unset, .unset, .unset, .unset, .unset, .unset, .unset, .unset] []))) (fun t k => XS.lstore X0.here hx rfl (hb hby at_47) rfl (l' := #[.val (.int p1), .val (.long q2), .second, .val (.long q3), .second, .val (.long q4), .second, .val (.long q5), .second, .val (.int p6), .val (.int ka), .val (.int kb), .val (.long fb), .second, .unset, .unset, .unset, .unset, .unset, .unset, .unset, .unset]) rfl k) ?_
  refine own_fw (A' := (s₁.setTop (mkF m 51 #[.val (.int p1), .val (.long q2), .second, .val (.long q3), .second, .val (.long q4), .second, .val (.long q5), .second, .val (.int p6), .val (.int ka), .val (.int kb), .val (.long fb), .second, .unset, .unset, .unset, .unset, .unset, .unset, .unset, .unset] [(.int p6)]))) (fun t k => XS.iload X0.here hx rfl (hb hby at_49) rfl k) ?_
  refine own_fw (A' := (s₁.setTop (mkF m 52 #[.val (.int p1), .val (.long q2), .second, .val (.long q3), .second, .val (.long q4), .second, .val (.long q5), .second, .val (.int p6), .val (.int ka), .val (.int kb), .val (.long fb), .second, .unset, .unset, .unset, .unset, .unset, .unset, .unset, .unset] [(.int (2 : Int32)), (.int p6)]))) (fun t k => XS.iconst X0.here hx rfl (hb hby at_51) k) ?_
  refine own_fw (A' := (s₁.setTop (mkF m 53 #[.val (.int p1), .val (.long q2), .second, .val (.long q3), .second, .val (.long q4), .second, .val (.long q5), .second, .val (.int p6), .val (.int ka), .val (.int kb), .val (.long fb), .second, .unset, .unset, .unset, .unset, .unset, .unset, .unset, .unset] [(.int (p6 &&& (2 : Int32)))]))) (fun t k => XS.iand X0.here hx rfl (hb hby at_52) rfl k) ?_
  refine own_fw (A' := (s₁.setTop (mkF m 64 #[.val (.int p1), .val (.long q2), .second, .val (.long q3), .second, .val (.long q4), .second, .val (.long q5), .second, .val (.int p6), .val (.int ka), .val (.int kb), .val (.long fb), .second, .unset, .unset, .unset, .unset, .unset, .unset, .unset, .unset] [(.long (if (p6 &&& (2 : Int32)) = (0 : Int32) then q3 else (q3 + q5)))]))) (fun t k => ?_) ?_
  · by_cases hj3 : (p6 &&& (2 : Int32)) = (0 : Int32)
    · try simp only [if_pos hj3] at k
      refine own_st (A' := (s₁.setTop (mkF m 63 #[.val (.int p1), .val (.long q2), .second, .val (.long q3), .second, .val (.long q4), .second, .val (.long q5), .second, .val (.int p6), .val (.int ka), .val (.int kb), .val (.long fb), .second, .unset, .unset, .unset, .unset, .unset, .unset, .unset, .unset] []))) (fun t k => XS.ifYes X0.here hx rfl (pc0 := 53) (pc' := 63) rfl (hb hby at_53) rfl (XT.i0_eq_t hj3) (by decide) (by decide) k) ?_
      refine own_st (A' := (s₁.setTop (mkF m 64 #[.val (.int p1), .val (.long q2), .second, .val (.long q3), .second, .val (.long q4), .second, .val (.long q5), .second, .val (.int p6), .val (.int ka), .val (.int kb), .val (.long fb), .second, .unset, .unset, .unset, .unset, .unset, .unset, .unset, .unset] [(.long q3)]))) (fun t k => XS.lloadN X0.here hx rfl (hb hby at_63) rfl k) ?_
      exact k
    · try simp only [if_neg hj3] at k
      refine own_st (A' := (s₁.setTop (mkF m 56 #[.val (.int p1), .val (.long q2), .second, .val (.long q3), .second, .val (.long q4), .second, .val (.long q5), .second, .val (.int p6), .val (.int ka), .val (.int kb), .val (.long fb), .second, .unset, .unset, .unset, .unset, .unset, .unset, .unset, .unset] []))) (fun t k => XS.ifNo X0.here hx rfl (hb hby at_53) rfl (XT.i0_eq_f hj3) k) ?_
      refine own_st (A' := (s₁.setTop (mkF m 57 #[.val (.int p1), .val (.long q2), .second, .val (.long q3), .second, .val (.long q4), .second, .val (.long q5), .second, .val (.int p6), .val (.int ka), .val (.int kb), .val (.long fb), .second, .unset, .unset, .unset, .unset, .unset, .unset, .unset, .unset] [(.long q3)]))) (fun t k => XS.lloadN X0.here hx rfl (hb hby at_56) rfl k) ?_
      refine own_st (A' := (s₁.setTop (mkF m 59 #[.val (.int p1), .val (.long q2), .second, .val (.long q3), .second, .val (.long q4), .second, .val (.long q5), .second, .val (.int p6), .val (.int ka), .val (.int kb), .val (.long fb), .second, .unset, .unset, .unset, .unset, .unset, .unset, .unset, .unset] [(.long q5), (.long q3)]))) (fun t k => XS.lload X0.here hx rfl (hb hby at_57) rfl k) ?_
      refine own_st (A' := (s₁.setTop (mkF m 60 #[.val (.int p1), .val (.long q2), .second, .val (.long q3), .second, .val (.long q4), .second, .val (.long q5), .second, .val (.int p6), .val (.int ka), .val (.int kb), .val (.long fb), .second, .unset, .unset, .unset, .unset, .unset, .unset, .unset, .unset] [(.long (q3 + q5))]))) (fun t k => XS.ladd X0.here hx rfl (hb hby at_59) rfl k) ?_
      refine own_st (A' := (s₁.setTop (mkF m 64 #[.val (.int p1), .val (.long q2), .second, .val (.long q3), .second, .val (.long q4), .second, .val (.long q5), .second, .val (.int p6), .val (.int ka), .val (.int kb), .val (.long fb), .second, .unset, .unset, .unset, .unset, .unset, .unset, .unset, .unset] [(.long (q3 + q5))]))) (fun t k => XS.goto X0.here hx rfl (pc0 := 60) (pc' := 64) rfl (hb hby at_60) (by decide) (by decide) k) ?_
      exact k
  obtain ⟨lb, h_lb⟩ : ∃ z : Int64, z = (if (p6 &&& (2 : Int32)) = (0 : Int32) then q3 else (q3 + q5)) := ⟨_, rfl⟩
  rw [← h_lb]
  refine own_fw (A' := (s₁.setTop (mkF m 66 #[.val (.int p1), .val (.long q2), .second, .val (.long q3), .second, .val (.long q4), .second, .val (.long q5), .second, .val (.int p6), .val (.int ka), .val (.int kb), .val (.long fb), .second, .val (.long lb), .second, .unset, .unset, .unset, .unset, .unset, .unset] []))) (fun t k => XS.lstore X0.here hx rfl (hb hby at_64) rfl (l' := #[.val (.int p1), .val (.long q2), .second, .val (.long q3), .second, .val (.long q4), .second, .val (.long q5), .second, .val (.int p6), .val (.int ka), .val (.int kb), .val (.long fb), .second, .val (.long lb), .second, .unset, .unset, .unset, .unset, .unset, .unset]) rfl k) ?_
  refine own_fw (A' := (s₁.setTop (mkF m 68 #[.val (.int p1), .val (.long q2), .second, .val (.long q3), .second, .val (.long q4), .second, .val (.long q5), .second, .val (.int p6), .val (.int ka), .val (.int kb), .val (.long fb), .second, .val (.long lb), .second, .unset, .unset, .unset, .unset, .unset, .unset] [(.int p6)]))) (fun t k => XS.iload X0.here hx rfl (hb hby at_66) rfl k) ?_
  refine own_fw (A' := (s₁.setTop (mkF m 69 #[.val (.int p1), .val (.long q2), .second, .val (.long q3), .second, .val (.long q4), .second, .val (.long q5), .second, .val (.int p6), .val (.int ka), .val (.int kb), .val (.long fb), .second, .val (.long lb), .second, .unset, .unset, .unset, .unset, .unset, .unset] [(.int (4 : Int32)), (.int p6)]))) (fun t k => XS.iconst X0.here hx rfl (hb hby at_68) k) ?_
  refine own_fw (A' := (s₁.setTop (mkF m 70 #[.val (.int p1), .val (.long q2), .second, .val (.long q3), .second, .val (.long q4), .second, .val (.long q5), .second, .val (.int p6), .val (.int ka), .val (.int kb), .val (.long fb), .second, .val (.long lb), .second, .unset, .unset, .unset, .unset, .unset, .unset] [(.int (p6 &&& (4 : Int32)))]))) (fun t k => XS.iand X0.here hx rfl (hb hby at_69) rfl k) ?_
  refine own_fw (A' := (s₁.setTop (mkF m 83 #[.val (.int p1), .val (.long q2), .second, .val (.long q3), .second, .val (.long q4), .second, .val (.long q5), .second, .val (.int p6), .val (.int ka), .val (.int kb), .val (.long fb), .second, .val (.long lb), .second, .unset, .unset, .unset, .unset, .unset, .unset] [(.long (if (p6 &&& (4 : Int32)) = (0 : Int32) then q4 else (q4 + q5)))]))) (fun t k => ?_) ?_
  · by_cases hj4 : (p6 &&& (4 : Int32)) = (0 : Int32)
    · try simp only [if_pos hj4] at k
      refine own_st (A' := (s₁.setTop (mkF m 81 #[.val (.int p1), .val (.long q2), .second, .val (.long q3), .second, .val (.long q4), .second, .val (.long q5), .second, .val (.int p6), .val (.int ka), .val (.int kb), .val (.long fb), .second, .val (.long lb), .second, .unset, .unset, .unset, .unset, .unset, .unset] []))) (fun t k => XS.ifYes X0.here hx rfl (pc0 := 70) (pc' := 81) rfl (hb hby at_70) rfl (XT.i0_eq_t hj4) (by decide) (by decide) k) ?_
      refine own_st (A' := (s₁.setTop (mkF m 83 #[.val (.int p1), .val (.long q2), .second, .val (.long q3), .second, .val (.long q4), .second, .val (.long q5), .second, .val (.int p6), .val (.int ka), .val (.int kb), .val (.long fb), .second, .val (.long lb), .second, .unset, .unset, .unset, .unset, .unset, .unset] [(.long q4)]))) (fun t k => XS.lload X0.here hx rfl (hb hby at_81) rfl k) ?_
      exact k
    · try simp only [if_neg hj4] at k
      refine own_st (A' := (s₁.setTop (mkF m 73 #[.val (.int p1), .val (.long q2), .second, .val (.long q3), .second, .val (.long q4), .second, .val (.long q5), .second, .val (.int p6), .val (.int ka), .val (.int kb), .val (.long fb), .second, .val (.long lb), .second, .unset, .unset, .unset, .unset, .unset, .unset] []))) (fun t k => XS.ifNo X0.here hx rfl (hb hby at_70) rfl (XT.i0_eq_f hj4) k) ?_
      refine own_st (A' := (s₁.setTop (mkF m 75 #[.val (.int p1), .val (.long q2), .second, .val (.long q3), .second, .val (.long q4), .second, .val (.long q5), .second, .val (.int p6), .val (.int ka), .val (.int kb), .val (.long fb), .second, .val (.long lb), .second, .unset, .unset, .unset, .unset, .unset, .unset] [(.long q4)]))) (fun t k => XS.lload X0.here hx rfl (hb hby at_73) rfl k) ?_
      refine own_st (A' := (s₁.setTop (mkF m 77 #[.val (.int p1), .val (.long q2), .second, .val (.long q3), .second, .val (.long q4), .second, .val (.long q5), .second, .val (.int p6), .val (.int ka), .val (.int kb), .val (.long fb), .second, .val (.long lb), .second, .unset, .unset, .unset, .unset, .unset, .unset] [(.long q5), (.long q4)]))) (fun t k => XS.lload X0.here hx rfl (hb hby at_75) rfl k) ?_
      refine own_st (A' := (s₁.setTop (mkF m 78 #[.val (.int p1), .val (.long q2), .second, .val (.long q3), .second, .val (.long q4), .second, .val (.long q5), .second, .val (.int p6), .val (.int ka), .val (.int kb), .val (.long fb), .second, .val (.long lb), .second, .unset, .unset, .unset, .unset, .unset, .unset] [(.long (q4 + q5))]))) (fun t k => XS.ladd X0.here hx rfl (hb hby at_77) rfl k) ?_
      refine own_st (A' := (s₁.setTop (mkF m 83 #[.val (.int p1), .val (.long q2), .second, .val (.long q3), .second, .val (.long q4), .second, .val (.long q5), .second, .val (.int p6), .val (.int ka), .val (.int kb), .val (.long fb), .second, .val (.long lb), .second, .unset, .unset, .unset, .unset, .unset, .unset] [(.long (q4 + q5))]))) (fun t k => XS.goto X0.here hx rfl (pc0 := 78) (pc' := 83) rfl (hb hby at_78) (by decide) (by decide) k) ?_
      exact k
  obtain ⟨pb, h_pb⟩ : ∃ z : Int64, z = (if (p6 &&& (4 : Int32)) = (0 : Int32) then q4 else (q4 + q5)) := ⟨_, rfl⟩
  rw [← h_pb]
  refine own_fw (A' := (s₁.setTop (mkF m 85 #[.val (.int p1), .val (.long q2), .second, .val (.long q3), .second, .val (.long q4), .second, .val (.long q5), .second, .val (.int p6), .val (.int ka), .val (.int kb), .val (.long fb), .second, .val (.long lb), .second, .val (.long pb), .second, .unset, .unset, .unset, .unset] []))) (fun t k => XS.lstore X0.here hx rfl (hb hby at_83) rfl (l' := #[.val (.int p1), .val (.long q2), .second, .val (.long q3), .second, .val (.long q4), .second, .val (.long q5), .second, .val (.int p6), .val (.int ka), .val (.int kb), .val (.long fb), .second, .val (.long lb), .second, .val (.long pb), .second, .unset, .unset, .unset, .unset]) rfl k) ?_
  obtain ⟨T5, h5, X5, e5, E5, A5, D5, -, st5⟩ := newO X0 hx hZ hown (hw _ (List.mem_of_getElem? (i := 1) rfl)) (hw _ (List.mem_of_getElem? (i := 2) rfl)) (hw _ (List.mem_of_getElem? (i := 3) rfl)) e0 (g := (mkF m 85 #[.val (.int p1), .val (.long q2), .second, .val (.long q3), .second, .val (.long q4), .second, .val (.long q5), .second, .val (.int p6), .val (.int ka), .val (.int kb), .val (.long fb), .second, .val (.long lb), .second, .val (.long pb), .second, .unset, .unset, .unset, .unset] [])) rfl (hb hby at_85) (by decide) (by decide)
  obtain ⟨b5, gb5⟩ : ∃ z, z = h0.size := ⟨_, rfl⟩
  have g_b5 : n0 ≤ b5 := Nat.le_trans Z0 (Nat.le_of_eq gb5.symm)
  have sz_b5 : h0.size ≤ b5 := Nat.le_trans (Keep.refl h0 []).1 (Nat.le_of_eq gb5.symm)
  have ne_ca_b5 : ca ≠ b5 := Nat.ne_of_lt (Nat.lt_of_lt_of_le (own_cacheLt P1) (Nat.le_of_eq gb5.symm))
  have ne_r0_b5 : r0 ≠ b5 := Nat.ne_of_lt (Nat.lt_of_lt_of_le P3.lt (Nat.le_of_eq gb5.symm))
  have ne_r1_b5 : r1 ≠ b5 := Nat.ne_of_lt (Nat.lt_of_lt_of_le P5.lt (Nat.le_of_eq gb5.symm))
  have ne_r2_b5 : r2 ≠ b5 := Nat.ne_of_lt (Nat.lt_of_lt_of_le P7.lt (Nat.le_of_eq gb5.symm))
  rw [← gb5] at A5 D5 st5
  have F_kind_b5 : Fld Z h5 b5 "com/example/spanwise/spanwise/ReadingLogPlan$Purchase" "kind" "Lcom/example/spanwise/spanwise/ReadingLogPlan$Kind;" .null := D5 (Or.inr (hw _ (List.mem_of_getElem? (i := 32) rfl))) (ty := (.object "com/example/spanwise/spanwise/ReadingLogPlan$Kind")) (by decide)
  have F_first_b5 : Fld Z h5 b5 "com/example/spanwise/spanwise/ReadingLogPlan$Purchase" "first" "J" (.long (0 : Int64)) := D5 (Or.inr (hw _ (List.mem_of_getElem? (i := 34) rfl))) (ty := .long) (by decide)
  have F_last_b5 : Fld Z h5 b5 "com/example/spanwise/spanwise/ReadingLogPlan$Purchase" "last" "J" (.long (0 : Int64)) := D5 (Or.inr (hw _ (List.mem_of_getElem? (i := 36) rfl))) (ty := .long) (by decide)
  have F_price_b5 : Fld Z h5 b5 "com/example/spanwise/spanwise/ReadingLogPlan$Purchase" "price" "J" (.long (0 : Int64)) := D5 (Or.inr (hw _ (List.mem_of_getElem? (i := 38) rfl))) (ty := .long) (by decide)
  have K5 : Keep h0 h5 [] := (Keep.refl h0 []).ext E5
  have Z5 : n0 ≤ h5.size := Nat.le_trans Z0 E5.1
  have hk := Nat.le_trans hk E5.1
  refine own_fw (A' := (T5.setTop (mkF m 88 #[.val (.int p1), .val (.long q2), .second, .val (.long q3), .second, .val (.long q4), .second, .val (.long q5), .second, .val (.int p6), .val (.int ka), .val (.int kb), .val (.long fb), .second, .val (.long lb), .second, .val (.long pb), .second, .unset, .unset, .unset, .unset] [(.ref b5)]))) (fun t k => st5 _ k) ?_
  refine own_fw (A' := (T5.setTop (mkF m 89 #[.val (.int p1), .val (.long q2), .second, .val (.long q3), .second, .val (.long q4), .second, .val (.long q5), .second, .val (.int p6), .val (.int ka), .val (.int kb), .val (.long fb), .second, .val (.long lb), .second, .val (.long pb), .second, .unset, .unset, .unset, .unset] [(.ref b5), (.ref b5)]))) (fun t k => XS.dup X5.here hx rfl (hb hby at_88) rfl rfl k) ?_
  refine own_fw (A' := (T5.setTop (mkF m 91 #[.val (.int p1), .val (.long q2), .second, .val (.long q3), .second, .val (.long q4), .second, .val (.long q5), .second, .val (.int p6), .val (.int ka), .val (.int kb), .val (.long fb), .second, .val (.long lb), .second, .val (.long pb), .second, .unset, .unset, .unset, .unset] [(.int ka), (.ref b5), (.ref b5)]))) (fun t k => XS.iload X5.here hx rfl (hb hby at_89) rfl k) ?_
  obtain ⟨_, _, ⟨T6, L6, k6, n6⟩, -, X6, ⟨Lc6, hQ6, l6, y6, z6⟩, st6⟩ := Jvm.LawKit.callS X5 hx (y := (⟨"com/example/spanwise/spanwise/PurchaseEqualsPinLaw", "kind", "(I)Lcom/example/spanwise/spanwise/ReadingLogPlan$Kind;"⟩ : MethodName)) hown (mvT hZ (hw _ (List.mem_of_getElem? (i := 4) rfl))) (mvT hZ (hw _ (List.mem_of_getElem? (i := 5) rfl))) (mvT hZ (hw _ (List.mem_of_getElem? (i := 6) rfl))) (mvT hZ (hw _ (List.mem_of_getElem? (i := 7) rfl))) (by decide) (backOf (W := 2) (rmKind l Z a0 hw [] ka r0 r1 r2 h5 n0 Z5 (P2.ext E5) (P3.ext E5) (P4.ext E5) (P5.ext E5) (P6.ext E5) (P7.ext E5)) hZ (hw _ (List.mem_of_getElem? (i := 7) rfl)) (hw _ (List.mem_of_getElem? (i := 6) rfl)) (by decide) (by decide)) (g := (mkF m 91 #[.val (.int p1), .val (.long q2), .second, .val (.long q3), .second, .val (.long q4), .second, .val (.long q5), .second, .val (.int p6), .val (.int ka), .val (.int kb), .val (.long fb), .second, .val (.long lb), .second, .val (.long pb), .second, .unset, .unset, .unset, .unset] [(.int ka), (.ref b5), (.ref b5)])) rfl (by rw [hml]; rfl) (argsL := [(.int ka)]) (rest := [(.ref b5), (.ref b5)]) (lenOf pd__I_Lcom_example_spanwise_spanwise_ReadingLogPlan_Kind_ rfl) rfl (by show 2 * 0 + _ ≤ _; exact Nat.le_of_eq rfl) (hb hby at_91) (fun _ _ => ⟨rfl, e5, (by decide : 1 + 0 ≤ _), (by decide : 4 + 0 ≤ _)⟩)
  dsimp only [Pt.U, Pt.locs, Pt.cells, Pt.slots] at X6 l6 y6 z6 st6 hQ6
  subst l6 y6 z6
  obtain ⟨b_6, rfl, Nq6, Kq6, Fq6_0, hb_6⟩ := hQ6
  have Nf6 := Fr.app N0 Nq6
  have hk := Nat.le_trans hk Kq6.1
  have K6 : Keep h0 T6.heap [] := K5.trans Kq6 all0
  have Z6 : n0 ≤ T6.heap.size := Nat.le_trans Z5 Kq6.1
  refine own_fw (A' := (T6.setTop (mkF m 94 #[.val (.int p1), .val (.long q2), .second, .val (.long q3), .second, .val (.long q4), .second, .val (.long q5), .second, .val (.int p6), .val (.int ka), .val (.int kb), .val (.long fb), .second, .val (.long lb), .second, .val (.long pb), .second, .unset, .unset, .unset, .unset] [(.ref b_6), (.ref b5), (.ref b5)]))) (fun t k => st6 _ k) ?_
  refine own_fw (A' := (T6.setTop (mkF m 95 #[.val (.int p1), .val (.long q2), .second, .val (.long q3), .second, .val (.long q4), .second, .val (.long q5), .second, .val (.int p6), .val (.int ka), .val (.int kb), .val (.long fb), .second, .val (.long lb), .second, .val (.long pb), .second, .unset, .unset, .unset, .unset] [(.long q2), (.ref b_6), (.ref b5), (.ref b5)]))) (fun t k => XS.lloadN X6.here hx rfl (hb hby at_94) rfl k) ?_
  refine own_fw (A' := (T6.setTop (mkF m 96 #[.val (.int p1), .val (.long q2), .second, .val (.long q3), .second, .val (.long q4), .second, .val (.long q5), .second, .val (.int p6), .val (.int ka), .val (.int kb), .val (.long fb), .second, .val (.long lb), .second, .val (.long pb), .second, .unset, .unset, .unset, .unset] [(.long q3), (.long q2), (.ref b_6), (.ref b5), (.ref b5)]))) (fun t k => XS.lloadN X6.here hx rfl (hb hby at_95) rfl k) ?_
  refine own_fw (A' := (T6.setTop (mkF m 98 #[.val (.int p1), .val (.long q2), .second, .val (.long q3), .second, .val (.long q4), .second, .val (.long q5), .second, .val (.int p6), .val (.int ka), .val (.int kb), .val (.long fb), .second, .val (.long lb), .second, .val (.long pb), .second, .unset, .unset, .unset, .unset] [(.long q4), (.long q3), (.long q2), (.ref b_6), (.ref b5), (.ref b5)]))) (fun t k => XS.lload X6.here hx rfl (hb hby at_96) rfl k) ?_
  obtain ⟨_, _, ⟨T7, L7, k7, n7⟩, -, X7, hS7, gS7, ⟨Lc7, hQ7, l7, y7, z7⟩, st7⟩ := X6.specialBackS hx (y := (⟨"com/example/spanwise/spanwise/ReadingLogPlan$Purchase", "<init>", "(Lcom/example/spanwise/spanwise/ReadingLogPlan$Kind;JJJ)V"⟩ : MethodName)) rfl hown (mvT hZ (hw _ (List.mem_of_getElem? (i := 11) rfl))) (mvT hZ (hw _ (List.mem_of_getElem? (i := 12) rfl))) (mvT hZ (hw _ (List.mem_of_getElem? (i := 13) rfl))) (by decide) (backOfS (W := 1) (rmInit l Z a0 hw [] b5 b_6 q2 q3 q4 T6.heap n0 Z6 (A5.keep Kq6) Fq6_0 (F_kind_b5.keep Kq6 nin0) (F_first_b5.keep Kq6 nin0) (F_last_b5.keep Kq6 nin0) (F_price_b5.keep Kq6 nin0) g_b5) hZ (hw _ (List.mem_of_getElem? (i := 13) rfl)) (hw _ (List.mem_of_getElem? (i := 3) rfl)) (by decide) (by decide)) (g := (mkF m 98 #[.val (.int p1), .val (.long q2), .second, .val (.long q3), .second, .val (.long q4), .second, .val (.long q5), .second, .val (.int p6), .val (.int ka), .val (.int kb), .val (.long fb), .second, .val (.long lb), .second, .val (.long pb), .second, .unset, .unset, .unset, .unset] [(.long q4), (.long q3), (.long q2), (.ref b_6), (.ref b5), (.ref b5)])) rfl (by rw [hml]; rfl) (Steps.refl _) (a := b5) (argsL := [(.ref b_6), (.long q2), (.long q3), (.long q4)]) (rest := [(.ref b5)]) (lenOf pd__Lcom_example_spanwise_spanwise_ReadingLogPlan_Kind_JJJ_V rfl) rfl (by show 2 * 0 + _ ≤ _; exact Nat.le_of_eq rfl) (hb hby at_98) (fun _ _ => ⟨rfl, rfl, (by decide : 1 + 2 ≤ _), (by decide : 4 + 20 ≤ _)⟩)
  dsimp only [Pt.U, Pt.locs, Pt.cells, Pt.slots] at X7 l7 y7 z7 st7 hQ7 hS7 gS7
  subst l7 y7 z7
  obtain ⟨X7, hS, hZ', hown⟩ := rebS hS hk X7 hS7 gS7 hZ hown
  have hk : T7.heap.size ≤ T7.heap.size := Nat.le_refl _
  have hZ := hZ'
  obtain ⟨rfl, Nq7, Kq7, Fq7_0, Fq7_1, Fq7_2, Fq7_3, Fq7_4⟩ := hQ7
  have Nf7 := Fr.app Nf6 Nq7
  have K7 : Keep h0 T7.heap [] := K6.trans Kq7 (allS (Or.inr sz_b5) all0)
  have Z7 : n0 ≤ T7.heap.size := Nat.le_trans Z6 Kq7.1
  refine own_fw (A' := (T7.setTop (mkF m 101 #[.val (.int p1), .val (.long q2), .second, .val (.long q3), .second, .val (.long q4), .second, .val (.long q5), .second, .val (.int p6), .val (.int ka), .val (.int kb), .val (.long fb), .second, .val (.long lb), .second, .val (.long pb), .second, .unset, .unset, .unset, .unset] [(.ref b5)]))) (fun t k => st7.trans k) ?_
  refine own_fw (A' := (T7.setTop (mkF m 103 #[.val (.int p1), .val (.long q2), .second, .val (.long q3), .second, .val (.long q4), .second, .val (.long q5), .second, .val (.int p6), .val (.int ka), .val (.int kb), .val (.long fb), .second, .val (.long lb), .second, .val (.long pb), .second, .val (.ref b5), .unset, .unset, .unset] []))) (fun t k => XS.astore X7.here hx rfl (hb hby at_101) rfl rfl (l' := #[.val (.int p1), .val (.long q2), .second, .val (.long q3), .second, .val (.long q4), .second, .val (.long q5), .second, .val (.int p6), .val (.int ka), .val (.int kb), .val (.long fb), .second, .val (.long lb), .second, .val (.long pb), .second, .val (.ref b5), .unset, .unset, .unset]) rfl k) ?_
  obtain ⟨T8, h8, X8, e8, E8, A8, D8, -, st8⟩ := newO X7 hx hZ hown (hw _ (List.mem_of_getElem? (i := 1) rfl)) (hw _ (List.mem_of_getElem? (i := 2) rfl)) (hw _ (List.mem_of_getElem? (i := 3) rfl)) rfl (g := (mkF m 103 #[.val (.int p1), .val (.long q2), .second, .val (.long q3), .second, .val (.long q4), .second, .val (.long q5), .second, .val (.int p6), .val (.int ka), .val (.int kb), .val (.long fb), .second, .val (.long lb), .second, .val (.long pb), .second, .val (.ref b5), .unset, .unset, .unset] [])) rfl (hb hby at_103) (by decide) (by decide)
  obtain ⟨b8, gb8⟩ : ∃ z, z = T7.heap.size := ⟨_, rfl⟩
  have g_b8 : n0 ≤ b8 := Nat.le_trans Z7 (Nat.le_of_eq gb8.symm)
  have sz_b8 : h0.size ≤ b8 := Nat.le_trans K7.1 (Nat.le_of_eq gb8.symm)
  have ne_ca_b8 : ca ≠ b8 := Nat.ne_of_lt (Nat.lt_of_lt_of_le (own_cacheLt (own_cacheKeep (own_cacheKeep (own_cacheExt P1 E5) Kq6 nin0) Kq7 (ninS ne_ca_b5 nin0))) (Nat.le_of_eq gb8.symm))
  have ne_r0_b8 : r0 ≠ b8 := Nat.ne_of_lt (Nat.lt_of_lt_of_le (((P3.ext E5).keep Kq6).keep Kq7).lt (Nat.le_of_eq gb8.symm))
  have ne_r1_b8 : r1 ≠ b8 := Nat.ne_of_lt (Nat.lt_of_lt_of_le (((P5.ext E5).keep Kq6).keep Kq7).lt (Nat.le_of_eq gb8.symm))
  have ne_r2_b8 : r2 ≠ b8 := Nat.ne_of_lt (Nat.lt_of_lt_of_le (((P7.ext E5).keep Kq6).keep Kq7).lt (Nat.le_of_eq gb8.symm))
  have ne_b5_b8 : b5 ≠ b8 := Nat.ne_of_lt (Nat.lt_of_lt_of_le Fq7_0.lt (Nat.le_of_eq gb8.symm))
  have ne_b_6_b8 : b_6 ≠ b8 := Nat.ne_of_lt (Nat.lt_of_lt_of_le (Fq6_0.keep Kq7).lt (Nat.le_of_eq gb8.symm))
  rw [← gb8] at A8 D8 st8
  have F_kind_b8 : Fld Z h8 b8 "com/example/spanwise/spanwise/ReadingLogPlan$Purchase" "kind" "Lcom/example/spanwise/spanwise/ReadingLogPlan$Kind;" .null := D8 (Or.inr (hw _ (List.mem_of_getElem? (i := 32) rfl))) (ty := (.object "com/example/spanwise/spanwise/ReadingLogPlan$Kind")) (by decide)
  have F_first_b8 : Fld Z h8 b8 "com/example/spanwise/spanwise/ReadingLogPlan$Purchase" "first" "J" (.long (0 : Int64)) := D8 (Or.inr (hw _ (List.mem_of_getElem? (i := 34) rfl))) (ty := .long) (by decide)
  have F_last_b8 : Fld Z h8 b8 "com/example/spanwise/spanwise/ReadingLogPlan$Purchase" "last" "J" (.long (0 : Int64)) := D8 (Or.inr (hw _ (List.mem_of_getElem? (i := 36) rfl))) (ty := .long) (by decide)
  have F_price_b8 : Fld Z h8 b8 "com/example/spanwise/spanwise/ReadingLogPlan$Purchase" "price" "J" (.long (0 : Int64)) := D8 (Or.inr (hw _ (List.mem_of_getElem? (i := 38) rfl))) (ty := .long) (by decide)
  have K8 : Keep h0 h8 [] := K7.ext E8
  have Z8 : n0 ≤ h8.size := Nat.le_trans Z7 E8.1
  have hk := Nat.le_trans hk E8.1
  refine own_fw (A' := (T8.setTop (mkF m 106 #[.val (.int p1), .val (.long q2), .second, .val (.long q3), .second, .val (.long q4), .second, .val (.long q5), .second, .val (.int p6), .val (.int ka), .val (.int kb), .val (.long fb), .second, .val (.long lb), .second, .val (.long pb), .second, .val (.ref b5), .unset, .unset, .unset] [(.ref b8)]))) (fun t k => st8 _ k) ?_
  refine own_fw (A' := (T8.setTop (mkF m 107 #[.val (.int p1), .val (.long q2), .second, .val (.long q3), .second, .val (.long q4), .second, .val (.long q5), .second, .val (.int p6), .val (.int ka), .val (.int kb), .val (.long fb), .second, .val (.long lb), .second, .val (.long pb), .second, .val (.ref b5), .unset, .unset, .unset] [(.ref b8), (.ref b8)]))) (fun t k => XS.dup X8.here hx rfl (hb hby at_106) rfl rfl k) ?_
  refine own_fw (A' := (T8.setTop (mkF m 109 #[.val (.int p1), .val (.long q2), .second, .val (.long q3), .second, .val (.long q4), .second, .val (.long q5), .second, .val (.int p6), .val (.int ka), .val (.int kb), .val (.long fb), .second, .val (.long lb), .second, .val (.long pb), .second, .val (.ref b5), .unset, .unset, .unset] [(.int kb), (.ref b8), (.ref b8)]))) (fun t k => XS.iload X8.here hx rfl (hb hby at_107) rfl k) ?_
  obtain ⟨_, _, ⟨T9, L9, k9, n9⟩, -, X9, ⟨Lc9, hQ9, l9, y9, z9⟩, st9⟩ := Jvm.LawKit.callS X8 hx (y := (⟨"com/example/spanwise/spanwise/PurchaseEqualsPinLaw", "kind", "(I)Lcom/example/spanwise/spanwise/ReadingLogPlan$Kind;"⟩ : MethodName)) hown (mvT hZ (hw _ (List.mem_of_getElem? (i := 4) rfl))) (mvT hZ (hw _ (List.mem_of_getElem? (i := 5) rfl))) (mvT hZ (hw _ (List.mem_of_getElem? (i := 6) rfl))) (mvT hZ (hw _ (List.mem_of_getElem? (i := 7) rfl))) (by decide) (backOf (W := 2) (rmKind l Z a0 hw [] kb r0 r1 r2 h8 n0 Z8 ((own_staKeep (own_staKeep (P2.ext E5) Kq6 all0) Kq7 (allS (own_plainE (A5.keep Kq6)) all0)).ext E8) ((((P3.ext E5).keep Kq6).keep Kq7).ext E8) ((own_staKeep (own_staKeep (P4.ext E5) Kq6 all0) Kq7 (allS (own_plainE (A5.keep Kq6)) all0)).ext E8) ((((P5.ext E5).keep Kq6).keep Kq7).ext E8) ((own_staKeep (own_staKeep (P6.ext E5) Kq6 all0) Kq7 (allS (own_plainE (A5.keep Kq6)) all0)).ext E8) ((((P7.ext E5).keep Kq6).keep Kq7).ext E8)) hZ (hw _ (List.mem_of_getElem? (i := 7) rfl)) (hw _ (List.mem_of_getElem? (i := 6) rfl)) (by decide) (by decide)) (g := (mkF m 109 #[.val (.int p1), .val (.long q2), .second, .val (.long q3), .second, .val (.long q4), .second, .val (.long q5), .second, .val (.int p6), .val (.int ka), .val (.int kb), .val (.long fb), .second, .val (.long lb), .second, .val (.long pb), .second, .val (.ref b5), .unset, .unset, .unset] [(.int kb), (.ref b8), (.ref b8)])) rfl (by rw [hml]; rfl) (argsL := [(.int kb)]) (rest := [(.ref b8), (.ref b8)]) (lenOf pd__I_Lcom_example_spanwise_spanwise_ReadingLogPlan_Kind_ rfl) rfl (by show 2 * 0 + _ ≤ _; exact Nat.le_of_eq rfl) (hb hby at_109) (fun _ _ => ⟨rfl, e8, (by decide : 4 + 0 ≤ _), (by decide : 28 + 0 ≤ _)⟩)
  dsimp only [Pt.U, Pt.locs, Pt.cells, Pt.slots] at X9 l9 y9 z9 st9 hQ9
  subst l9 y9 z9
  obtain ⟨b_9, rfl, Nq9, Kq9, Fq9_0, hb_9⟩ := hQ9
  have Nf9 := Fr.app Nf7 Nq9
  have hk := Nat.le_trans hk Kq9.1
  have K9 : Keep h0 T9.heap [] := K8.trans Kq9 all0
  have Z9 : n0 ≤ T9.heap.size := Nat.le_trans Z8 Kq9.1
  refine own_fw (A' := (T9.setTop (mkF m 112 #[.val (.int p1), .val (.long q2), .second, .val (.long q3), .second, .val (.long q4), .second, .val (.long q5), .second, .val (.int p6), .val (.int ka), .val (.int kb), .val (.long fb), .second, .val (.long lb), .second, .val (.long pb), .second, .val (.ref b5), .unset, .unset, .unset] [(.ref b_9), (.ref b8), (.ref b8)]))) (fun t k => st9 _ k) ?_
  refine own_fw (A' := (T9.setTop (mkF m 114 #[.val (.int p1), .val (.long q2), .second, .val (.long q3), .second, .val (.long q4), .second, .val (.long q5), .second, .val (.int p6), .val (.int ka), .val (.int kb), .val (.long fb), .second, .val (.long lb), .second, .val (.long pb), .second, .val (.ref b5), .unset, .unset, .unset] [(.long fb), (.ref b_9), (.ref b8), (.ref b8)]))) (fun t k => XS.lload X9.here hx rfl (hb hby at_112) rfl k) ?_
  refine own_fw (A' := (T9.setTop (mkF m 116 #[.val (.int p1), .val (.long q2), .second, .val (.long q3), .second, .val (.long q4), .second, .val (.long q5), .second, .val (.int p6), .val (.int ka), .val (.int kb), .val (.long fb), .second, .val (.long lb), .second, .val (.long pb), .second, .val (.ref b5), .unset, .unset, .unset] [(.long lb), (.long fb), (.ref b_9), (.ref b8), (.ref b8)]))) (fun t k => XS.lload X9.here hx rfl (hb hby at_114) rfl k) ?_
  refine own_fw (A' := (T9.setTop (mkF m 118 #[.val (.int p1), .val (.long q2), .second, .val (.long q3), .second, .val (.long q4), .second, .val (.long q5), .second, .val (.int p6), .val (.int ka), .val (.int kb), .val (.long fb), .second, .val (.long lb), .second, .val (.long pb), .second, .val (.ref b5), .unset, .unset, .unset] [(.long pb), (.long lb), (.long fb), (.ref b_9), (.ref b8), (.ref b8)]))) (fun t k => XS.lload X9.here hx rfl (hb hby at_116) rfl k) ?_
  obtain ⟨_, _, ⟨T10, L10, k10, n10⟩, -, X10, hS10, gS10, ⟨Lc10, hQ10, l10, y10, z10⟩, st10⟩ := X9.specialBackS hx (y := (⟨"com/example/spanwise/spanwise/ReadingLogPlan$Purchase", "<init>", "(Lcom/example/spanwise/spanwise/ReadingLogPlan$Kind;JJJ)V"⟩ : MethodName)) rfl hown (mvT hZ (hw _ (List.mem_of_getElem? (i := 11) rfl))) (mvT hZ (hw _ (List.mem_of_getElem? (i := 12) rfl))) (mvT hZ (hw _ (List.mem_of_getElem? (i := 13) rfl))) (by decide) (backOfS (W := 1) (rmInit l Z a0 hw [] b8 b_9 fb lb pb T9.heap n0 Z9 (A8.keep Kq9) Fq9_0 (F_kind_b8.keep Kq9 nin0) (F_first_b8.keep Kq9 nin0) (F_last_b8.keep Kq9 nin0) (F_price_b8.keep Kq9 nin0) g_b8) hZ (hw _ (List.mem_of_getElem? (i := 13) rfl)) (hw _ (List.mem_of_getElem? (i := 3) rfl)) (by decide) (by decide)) (g := (mkF m 118 #[.val (.int p1), .val (.long q2), .second, .val (.long q3), .second, .val (.long q4), .second, .val (.long q5), .second, .val (.int p6), .val (.int ka), .val (.int kb), .val (.long fb), .second, .val (.long lb), .second, .val (.long pb), .second, .val (.ref b5), .unset, .unset, .unset] [(.long pb), (.long lb), (.long fb), (.ref b_9), (.ref b8), (.ref b8)])) rfl (by rw [hml]; rfl) (Steps.refl _) (a := b8) (argsL := [(.ref b_9), (.long fb), (.long lb), (.long pb)]) (rest := [(.ref b8)]) (lenOf pd__Lcom_example_spanwise_spanwise_ReadingLogPlan_Kind_JJJ_V rfl) rfl (by show 2 * 0 + _ ≤ _; exact Nat.le_of_eq rfl) (hb hby at_118) (fun _ _ => ⟨rfl, rfl, (by decide : 4 + 2 ≤ _), (by decide : 28 + 20 ≤ _)⟩)
  dsimp only [Pt.U, Pt.locs, Pt.cells, Pt.slots] at X10 l10 y10 z10 st10 hQ10 hS10 gS10
  subst l10 y10 z10
  obtain ⟨X10, hS, hZ', hown⟩ := rebS hS hk X10 hS10 gS10 hZ hown
  have hk : T10.heap.size ≤ T10.heap.size := Nat.le_refl _
  have hZ := hZ'
  obtain ⟨rfl, Nq10, Kq10, Fq10_0, Fq10_1, Fq10_2, Fq10_3, Fq10_4⟩ := hQ10
  have Nf10 := Fr.app Nf9 Nq10
  have K10 : Keep h0 T10.heap [] := K9.trans Kq10 (allS (Or.inr sz_b8) all0)
  have Z10 : n0 ≤ T10.heap.size := Nat.le_trans Z9 Kq10.1
  refine own_fw (A' := (T10.setTop (mkF m 121 #[.val (.int p1), .val (.long q2), .second, .val (.long q3), .second, .val (.long q4), .second, .val (.long q5), .second, .val (.int p6), .val (.int ka), .val (.int kb), .val (.long fb), .second, .val (.long lb), .second, .val (.long pb), .second, .val (.ref b5), .unset, .unset, .unset] [(.ref b8)]))) (fun t k => st10.trans k) ?_
  refine own_fw (A' := (T10.setTop (mkF m 123 #[.val (.int p1), .val (.long q2), .second, .val (.long q3), .second, .val (.long q4), .second, .val (.long q5), .second, .val (.int p6), .val (.int ka), .val (.int kb), .val (.long fb), .second, .val (.long lb), .second, .val (.long pb), .second, .val (.ref b5), .val (.ref b8), .unset, .unset] []))) (fun t k => XS.astore X10.here hx rfl (hb hby at_121) rfl rfl (l' := #[.val (.int p1), .val (.long q2), .second, .val (.long q3), .second, .val (.long q4), .second, .val (.long q5), .second, .val (.int p6), .val (.int ka), .val (.int kb), .val (.long fb), .second, .val (.long lb), .second, .val (.long pb), .second, .val (.ref b5), .val (.ref b8), .unset, .unset]) rfl k) ?_
  refine own_fw (A' := (T10.setTop (mkF m 125 #[.val (.int p1), .val (.long q2), .second, .val (.long q3), .second, .val (.long q4), .second, .val (.long q5), .second, .val (.int p6), .val (.int ka), .val (.int kb), .val (.long fb), .second, .val (.long lb), .second, .val (.long pb), .second, .val (.ref b5), .val (.ref b8), .unset, .unset] [(.int p6)]))) (fun t k => XS.iload X10.here hx rfl (hb hby at_123) rfl k) ?_
  refine own_fw (A' := (T10.setTop (mkF m 126 #[.val (.int p1), .val (.long q2), .second, .val (.long q3), .second, .val (.long q4), .second, .val (.long q5), .second, .val (.int p6), .val (.int ka), .val (.int kb), .val (.long fb), .second, .val (.long lb), .second, .val (.long pb), .second, .val (.ref b5), .val (.ref b8), .unset, .unset] [(.int (4 : Int32)), (.int p6)]))) (fun t k => XS.iconst X10.here hx rfl (hb hby at_125) k) ?_
  refine own_fw (A' := (T10.setTop (mkF m 127 #[.val (.int p1), .val (.long q2), .second, .val (.long q3), .second, .val (.long q4), .second, .val (.long q5), .second, .val (.int p6), .val (.int ka), .val (.int kb), .val (.long fb), .second, .val (.long lb), .second, .val (.long pb), .second, .val (.ref b5), .val (.ref b8), .unset, .unset] [(.int ((p6.toUInt32 >>> ((4 : Int32) &&& 31).toUInt32).toInt32))]))) (fun t k => XS.iushr X10.here hx rfl (hb hby at_126) rfl k) ?_
  refine own_fw (A' := (T10.setTop (mkF m 128 #[.val (.int p1), .val (.long q2), .second, .val (.long q3), .second, .val (.long q4), .second, .val (.long q5), .second, .val (.int p6), .val (.int ka), .val (.int kb), .val (.long fb), .second, .val (.long lb), .second, .val (.long pb), .second, .val (.ref b5), .val (.ref b8), .unset, .unset] [(.int (3 : Int32)), (.int ((p6.toUInt32 >>> ((4 : Int32) &&& 31).toUInt32).toInt32))]))) (fun t k => XS.iconst X10.here hx rfl (hb hby at_127) k) ?_
  refine own_fw (A' := (T10.setTop (mkF m 129 #[.val (.int p1), .val (.long q2), .second, .val (.long q3), .second, .val (.long q4), .second, .val (.long q5), .second, .val (.int p6), .val (.int ka), .val (.int kb), .val (.long fb), .second, .val (.long lb), .second, .val (.long pb), .second, .val (.ref b5), .val (.ref b8), .unset, .unset] [(.int (((p6.toUInt32 >>> ((4 : Int32) &&& 31).toUInt32).toInt32) &&& (3 : Int32)))]))) (fun t k => XS.iand X10.here hx rfl (hb hby at_128) rfl k) ?_
  refine own_fw (A' := (T10.setTop (mkF m 131 #[.val (.int p1), .val (.long q2), .second, .val (.long q3), .second, .val (.long q4), .second, .val (.long q5), .second, .val (.int p6), .val (.int ka), .val (.int kb), .val (.long fb), .second, .val (.long lb), .second, .val (.long pb), .second, .val (.ref b5), .val (.ref b8), .val (.int (((p6.toUInt32 >>> ((4 : Int32) &&& 31).toUInt32).toInt32) &&& (3 : Int32))), .unset] []))) (fun t k => XS.istore X10.here hx rfl (hb hby at_129) rfl (l' := #[.val (.int p1), .val (.long q2), .second, .val (.long q3), .second, .val (.long q4), .second, .val (.long q5), .second, .val (.int p6), .val (.int ka), .val (.int kb), .val (.long fb), .second, .val (.long lb), .second, .val (.long pb), .second, .val (.ref b5), .val (.ref b8), .val (.int (((p6.toUInt32 >>> ((4 : Int32) &&& 31).toUInt32).toInt32) &&& (3 : Int32))), .unset]) rfl k) ?_
  refine own_fw (A' := (T10.setTop (mkF m 133 #[.val (.int p1), .val (.long q2), .second, .val (.long q3), .second, .val (.long q4), .second, .val (.long q5), .second, .val (.int p6), .val (.int ka), .val (.int kb), .val (.long fb), .second, .val (.long lb), .second, .val (.long pb), .second, .val (.ref b5), .val (.ref b8), .val (.int (((p6.toUInt32 >>> ((4 : Int32) &&& 31).toUInt32).toInt32) &&& (3 : Int32))), .unset] [(.int (((p6.toUInt32 >>> ((4 : Int32) &&& 31).toUInt32).toInt32) &&& (3 : Int32)))]))) (fun t k => XS.iload X10.here hx rfl (hb hby at_131) rfl k) ?_
  refine own_fw (A' := (T10.setTop (mkF m 134 #[.val (.int p1), .val (.long q2), .second, .val (.long q3), .second, .val (.long q4), .second, .val (.long q5), .second, .val (.int p6), .val (.int ka), .val (.int kb), .val (.long fb), .second, .val (.long lb), .second, .val (.long pb), .second, .val (.ref b5), .val (.ref b8), .val (.int (((p6.toUInt32 >>> ((4 : Int32) &&& 31).toUInt32).toInt32) &&& (3 : Int32))), .unset] [(.int (2 : Int32)), (.int (((p6.toUInt32 >>> ((4 : Int32) &&& 31).toUInt32).toInt32) &&& (3 : Int32)))]))) (fun t k => XS.iconst X10.here hx rfl (hb hby at_133) k) ?_
  by_cases hc11 : (((p6.toUInt32 >>> ((4 : Int32) &&& 31).toUInt32).toInt32) &&& (3 : Int32)) = (2 : Int32)
  · refine own_fw (A' := (T10.setTop (mkF m 137 #[.val (.int p1), .val (.long q2), .second, .val (.long q3), .second, .val (.long q4), .second, .val (.long q5), .second, .val (.int p6), .val (.int ka), .val (.int kb), .val (.long fb), .second, .val (.long lb), .second, .val (.long pb), .second, .val (.ref b5), .val (.ref b8), .val (.int (((p6.toUInt32 >>> ((4 : Int32) &&& 31).toUInt32).toInt32) &&& (3 : Int32))), .unset] []))) (fun t k => XS.icmpNo X10.here hx rfl (hb hby at_134) rfl (XT.ii_ne_f hc11) k) ?_
    refine own_fw (A' := (T10.setTop (mkF m 139 #[.val (.int p1), .val (.long q2), .second, .val (.long q3), .second, .val (.long q4), .second, .val (.long q5), .second, .val (.int p6), .val (.int ka), .val (.int kb), .val (.long fb), .second, .val (.long lb), .second, .val (.long pb), .second, .val (.ref b5), .val (.ref b8), .val (.int (((p6.toUInt32 >>> ((4 : Int32) &&& 31).toUInt32).toInt32) &&& (3 : Int32))), .unset] [(.ref b5)]))) (fun t k => XS.aload X10.here hx rfl (hb hby at_137) rfl rfl k) ?_
    refine own_fw (A' := (T10.setTop (mkF m 140 #[.val (.int p1), .val (.long q2), .second, .val (.long q3), .second, .val (.long q4), .second, .val (.long q5), .second, .val (.int p6), .val (.int ka), .val (.int kb), .val (.long fb), .second, .val (.long lb), .second, .val (.long pb), .second, .val (.ref b5), .val (.ref b8), .val (.int (((p6.toUInt32 >>> ((4 : Int32) &&& 31).toUInt32).toInt32) &&& (3 : Int32))), .unset] [.null, (.ref b5)]))) (fun t k => XS.aconstNull X10.here hx rfl (hb hby at_139) k) ?_
    obtain ⟨cq12, kq12, qa12, qb12, qc12⟩ := isOf hZ rfl (((Fq7_0.ext E8).keep Kq9).keep Kq10)
    obtain ⟨_, _, ⟨T12, L12, k12, n12⟩, -, X12, ⟨Lc12, hQ12, l12, y12, z12⟩, st12⟩ := X10.virtualBack hx (y := (⟨"com/example/spanwise/spanwise/ReadingLogPlan$Purchase", "equals", "(Ljava/lang/Object;)Z"⟩ : MethodName)) (z := (⟨"com/example/spanwise/spanwise/ReadingLogPlan$Purchase", "equals", "(Ljava/lang/Object;)Z"⟩ : MethodName)) hown (mvT hZ (hw _ (List.mem_of_getElem? (i := 39) rfl))) (mvT hZ (hw _ (List.mem_of_getElem? (i := 40) rfl))) (notFace_of_selects (args := #[]) (mvT hZ (hw _ (List.mem_of_getElem? (i := 42) rfl)))) (mvT hZ (hw _ (List.mem_of_getElem? (i := 42) rfl))) (mvT hZ (hw _ (List.mem_of_getElem? (i := 41) rfl))) (by decide) (backOf (W := 0) (rmEqNull l Z a0 hw [] b5 T10.heap n0 Z10 ) hZ (hw _ (List.mem_of_getElem? (i := 43) rfl)) (hw _ (List.mem_of_getElem? (i := 3) rfl)) (by decide) (by decide)) qa12 qc12 (g := (mkF m 140 #[.val (.int p1), .val (.long q2), .second, .val (.long q3), .second, .val (.long q4), .second, .val (.long q5), .second, .val (.int p6), .val (.int ka), .val (.int kb), .val (.long fb), .second, .val (.long lb), .second, .val (.long pb), .second, .val (.ref b5), .val (.ref b8), .val (.int (((p6.toUInt32 >>> ((4 : Int32) &&& 31).toUInt32).toInt32) &&& (3 : Int32))), .unset] [.null, (.ref b5)])) rfl (by rw [hml]; rfl) (Steps.refl _) (argsL := [.null]) (rest := []) (lenOf pd__Ljava_lang_Object__Z rfl) rfl (by show 2 * 0 + _ ≤ _; exact Nat.le_of_eq rfl) (hb hby at_140) (fun _ _ => ⟨rfl, rfl, (by decide : 6 + 0 ≤ _), (by decide : 48 + 0 ≤ _)⟩)
    dsimp only [Pt.U, Pt.locs, Pt.cells, Pt.slots] at X12 l12 y12 z12 st12 hQ12
    subst l12 y12 z12
    obtain ⟨rfl, Nq12, e12⟩ := hQ12
    have Nf12 := Fr.app Nf10 Nq12
    refine own_fw (A' := (T12.setTop (mkF m 143 #[.val (.int p1), .val (.long q2), .second, .val (.long q3), .second, .val (.long q4), .second, .val (.long q5), .second, .val (.int p6), .val (.int ka), .val (.int kb), .val (.long fb), .second, .val (.long lb), .second, .val (.long pb), .second, .val (.ref b5), .val (.ref b8), .val (.int (((p6.toUInt32 >>> ((4 : Int32) &&& 31).toUInt32).toInt32) &&& (3 : Int32))), .unset] [(.int (0 : Int32))]))) (fun t k => st12.trans k) ?_
    refine own_fw (A' := (T12.setTop (mkF m 146 #[.val (.int p1), .val (.long q2), .second, .val (.long q3), .second, .val (.long q4), .second, .val (.long q5), .second, .val (.int p6), .val (.int ka), .val (.int kb), .val (.long fb), .second, .val (.long lb), .second, .val (.long pb), .second, .val (.ref b5), .val (.ref b8), .val (.int (((p6.toUInt32 >>> ((4 : Int32) &&& 31).toUInt32).toInt32) &&& (3 : Int32))), .unset] []))) (fun t k => XS.ifNo X12.here hx rfl (hb hby at_143) rfl (XT.i0_ne_f rfl) k) ?_
    refine own_fw (A' := (T12.setTop (mkF m 147 #[.val (.int p1), .val (.long q2), .second, .val (.long q3), .second, .val (.long q4), .second, .val (.long q5), .second, .val (.int p6), .val (.int ka), .val (.int kb), .val (.long fb), .second, .val (.long lb), .second, .val (.long pb), .second, .val (.ref b5), .val (.ref b8), .val (.int (((p6.toUInt32 >>> ((4 : Int32) &&& 31).toUInt32).toInt32) &&& (3 : Int32))), .unset] [(.int (1 : Int32))]))) (fun t k => XS.iconst X12.here hx rfl (hb hby at_146) k) ?_
    refine own_fw (A' := (T12.setTop (mkF m 151 #[.val (.int p1), .val (.long q2), .second, .val (.long q3), .second, .val (.long q4), .second, .val (.long q5), .second, .val (.int p6), .val (.int ka), .val (.int kb), .val (.long fb), .second, .val (.long lb), .second, .val (.long pb), .second, .val (.ref b5), .val (.ref b8), .val (.int (((p6.toUInt32 >>> ((4 : Int32) &&& 31).toUInt32).toInt32) &&& (3 : Int32))), .unset] [(.int (1 : Int32))]))) (fun t k => XS.goto X12.here hx rfl (pc0 := 147) (pc' := 151) rfl (hb hby at_147) (by decide) (by decide) k) ?_
    obtain ⟨fs, hr, hrun, hended, hWE⟩ := X12.leaveW hS (by rw [e12]; exact hk : _ ≤ T12.heap.size) (v := some (.int (1 : Int32))) (fun h => by rw [Bd.returns] at h; cases h)
    refine ⟨_, _, ?_, hrun, hended, _, _, rfl, ?_, own_widen hWE (by decide) (by decide)⟩
    · exact retOut X12 hx Bd.returns rfl (Or.inl ⟨rfl, by simp, _, rfl⟩) (hb hby at_151) hr
    · show Q_rm0 Z p1 q2 q3 q4 q5 p6 ca r0 r1 r2 h0 n0 _ T12.heap _
      rw [e12]
      exact ⟨rfl, Nf12⟩
  · refine own_fw (A' := (T10.setTop (mkF m 152 #[.val (.int p1), .val (.long q2), .second, .val (.long q3), .second, .val (.long q4), .second, .val (.long q5), .second, .val (.int p6), .val (.int ka), .val (.int kb), .val (.long fb), .second, .val (.long lb), .second, .val (.long pb), .second, .val (.ref b5), .val (.ref b8), .val (.int (((p6.toUInt32 >>> ((4 : Int32) &&& 31).toUInt32).toInt32) &&& (3 : Int32))), .unset] []))) (fun t k => XS.icmpYes X10.here hx rfl (pc0 := 134) (pc' := 152) rfl (hb hby at_134) rfl (XT.ii_ne_t hc11) (by decide) (by decide) k) ?_
    refine own_fw (A' := (T10.setTop (mkF m 154 #[.val (.int p1), .val (.long q2), .second, .val (.long q3), .second, .val (.long q4), .second, .val (.long q5), .second, .val (.int p6), .val (.int ka), .val (.int kb), .val (.long fb), .second, .val (.long lb), .second, .val (.long pb), .second, .val (.ref b5), .val (.ref b8), .val (.int (((p6.toUInt32 >>> ((4 : Int32) &&& 31).toUInt32).toInt32) &&& (3 : Int32))), .unset] [(.int (((p6.toUInt32 >>> ((4 : Int32) &&& 31).toUInt32).toInt32) &&& (3 : Int32)))]))) (fun t k => XS.iload X10.here hx rfl (hb hby at_152) rfl k) ?_
    refine own_fw (A' := (T10.setTop (mkF m 155 #[.val (.int p1), .val (.long q2), .second, .val (.long q3), .second, .val (.long q4), .second, .val (.long q5), .second, .val (.int p6), .val (.int ka), .val (.int kb), .val (.long fb), .second, .val (.long lb), .second, .val (.long pb), .second, .val (.ref b5), .val (.ref b8), .val (.int (((p6.toUInt32 >>> ((4 : Int32) &&& 31).toUInt32).toInt32) &&& (3 : Int32))), .unset] [(.int (3 : Int32)), (.int (((p6.toUInt32 >>> ((4 : Int32) &&& 31).toUInt32).toInt32) &&& (3 : Int32)))]))) (fun t k => XS.iconst X10.here hx rfl (hb hby at_154) k) ?_
    by_cases hc13 : (((p6.toUInt32 >>> ((4 : Int32) &&& 31).toUInt32).toInt32) &&& (3 : Int32)) = (3 : Int32)
    · refine own_fw (A' := (T10.setTop (mkF m 158 #[.val (.int p1), .val (.long q2), .second, .val (.long q3), .second, .val (.long q4), .second, .val (.long q5), .second, .val (.int p6), .val (.int ka), .val (.int kb), .val (.long fb), .second, .val (.long lb), .second, .val (.long pb), .second, .val (.ref b5), .val (.ref b8), .val (.int (((p6.toUInt32 >>> ((4 : Int32) &&& 31).toUInt32).toInt32) &&& (3 : Int32))), .unset] []))) (fun t k => XS.icmpNo X10.here hx rfl (hb hby at_155) rfl (XT.ii_ne_f hc13) k) ?_
      refine own_fw (A' := (T10.setTop (mkF m 160 #[.val (.int p1), .val (.long q2), .second, .val (.long q3), .second, .val (.long q4), .second, .val (.long q5), .second, .val (.int p6), .val (.int ka), .val (.int kb), .val (.long fb), .second, .val (.long lb), .second, .val (.long pb), .second, .val (.ref b5), .val (.ref b8), .val (.int (((p6.toUInt32 >>> ((4 : Int32) &&& 31).toUInt32).toInt32) &&& (3 : Int32))), .unset] [(.ref b5)]))) (fun t k => XS.aload X10.here hx rfl (hb hby at_158) rfl rfl k) ?_
      refine own_fw (A' := (T10.setTop (mkF m 161 #[.val (.int p1), .val (.long q2), .second, .val (.long q3), .second, .val (.long q4), .second, .val (.long q5), .second, .val (.int p6), .val (.int ka), .val (.int kb), .val (.long fb), .second, .val (.long lb), .second, .val (.long pb), .second, .val (.ref b5), .val (.ref b8), .val (.int (((p6.toUInt32 >>> ((4 : Int32) &&& 31).toUInt32).toInt32) &&& (3 : Int32))), .unset] [(.long q2), (.ref b5)]))) (fun t k => XS.lloadN X10.here hx rfl (hb hby at_160) rfl k) ?_
      obtain ⟨_, _, ⟨T14, L14, k14, n14⟩, -, X14, ⟨Lc14, hQ14, l14, y14, z14⟩, st14⟩ := Jvm.LawKit.callS X10 hx (y := (⟨"java/lang/Long", "valueOf", "(J)Ljava/lang/Long;"⟩ : MethodName)) hown (mvT hZ (hw _ (List.mem_of_getElem? (i := 50) rfl))) (mvT hZ (hw _ (List.mem_of_getElem? (i := 51) rfl))) (mvT hZ (hw _ (List.mem_of_getElem? (i := 52) rfl))) (mvT hZ (hw _ (List.mem_of_getElem? (i := 53) rfl))) (by decide) (backOf (W := 1) (rmLongOf l Z a0 hw [] q2 ca T10.heap n0 Z10 (own_staKeep (own_staKeep ((own_staKeep (own_staKeep (P0.ext E5) Kq6 all0) Kq7 (allS (own_plainE (A5.keep Kq6)) all0)).ext E8) Kq9 all0) Kq10 (allS (own_plainE (A8.keep Kq9)) all0)) (own_cacheKeep (own_cacheKeep (own_cacheExt (own_cacheKeep (own_cacheKeep (own_cacheExt P1 E5) Kq6 nin0) Kq7 (ninS ne_ca_b5 nin0)) E8) Kq9 nin0) Kq10 (ninS ne_ca_b8 nin0))) hZ (hw _ (List.mem_of_getElem? (i := 53) rfl)) (hw _ (List.mem_of_getElem? (i := 52) rfl)) (by decide) (by decide)) (g := (mkF m 161 #[.val (.int p1), .val (.long q2), .second, .val (.long q3), .second, .val (.long q4), .second, .val (.long q5), .second, .val (.int p6), .val (.int ka), .val (.int kb), .val (.long fb), .second, .val (.long lb), .second, .val (.long pb), .second, .val (.ref b5), .val (.ref b8), .val (.int (((p6.toUInt32 >>> ((4 : Int32) &&& 31).toUInt32).toInt32) &&& (3 : Int32))), .unset] [(.long q2), (.ref b5)])) rfl (by rw [hml]; rfl) (argsL := [(.long q2)]) (rest := [(.ref b5)]) (lenOf pd__J_Ljava_lang_Long_ rfl) rfl (by show 2 * 0 + _ ≤ _; exact Nat.le_of_eq rfl) (hb hby at_161) (fun _ _ => ⟨rfl, rfl, (by decide : 6 + 1 ≤ _), (by decide : 48 + 1 ≤ _)⟩)
      dsimp only [Pt.U, Pt.locs, Pt.cells, Pt.slots] at X14 l14 y14 z14 st14 hQ14
      subst l14 y14 z14
      obtain ⟨b_14, rfl, Nq14, Kq14, Fq14_0⟩ := hQ14
      have Nf14 := Fr.app Nf10 Nq14
      have hk := Nat.le_trans hk Kq14.1
      have K14 : Keep h0 T14.heap [] := K10.trans Kq14 all0
      have Z14 : n0 ≤ T14.heap.size := Nat.le_trans Z10 Kq14.1
      refine own_fw (A' := (T14.setTop (mkF m 164 #[.val (.int p1), .val (.long q2), .second, .val (.long q3), .second, .val (.long q4), .second, .val (.long q5), .second, .val (.int p6), .val (.int ka), .val (.int kb), .val (.long fb), .second, .val (.long lb), .second, .val (.long pb), .second, .val (.ref b5), .val (.ref b8), .val (.int (((p6.toUInt32 >>> ((4 : Int32) &&& 31).toUInt32).toInt32) &&& (3 : Int32))), .unset] [(.ref b_14), (.ref b5)]))) (fun t k => st14 _ k) ?_
      obtain ⟨cq15, kq15, qa15, qb15, qc15⟩ := isOf hZ rfl ((((Fq7_0.ext E8).keep Kq9).keep Kq10).keep Kq14)
      obtain ⟨_, _, ⟨T15, L15, k15, n15⟩, -, X15, ⟨Lc15, hQ15, l15, y15, z15⟩, st15⟩ := X14.virtualBack hx (y := (⟨"com/example/spanwise/spanwise/ReadingLogPlan$Purchase", "equals", "(Ljava/lang/Object;)Z"⟩ : MethodName)) (z := (⟨"com/example/spanwise/spanwise/ReadingLogPlan$Purchase", "equals", "(Ljava/lang/Object;)Z"⟩ : MethodName)) hown (mvT hZ (hw _ (List.mem_of_getElem? (i := 39) rfl))) (mvT hZ (hw _ (List.mem_of_getElem? (i := 40) rfl))) (notFace_of_selects (args := #[]) (mvT hZ (hw _ (List.mem_of_getElem? (i := 42) rfl)))) (mvT hZ (hw _ (List.mem_of_getElem? (i := 42) rfl))) (mvT hZ (hw _ (List.mem_of_getElem? (i := 41) rfl))) (by decide) (backOf (W := 0) (rmEqLong l Z a0 hw [] b5 b_14 T14.heap n0 Z14 Fq14_0) hZ (hw _ (List.mem_of_getElem? (i := 43) rfl)) (hw _ (List.mem_of_getElem? (i := 3) rfl)) (by decide) (by decide)) qa15 qc15 (g := (mkF m 164 #[.val (.int p1), .val (.long q2), .second, .val (.long q3), .second, .val (.long q4), .second, .val (.long q5), .second, .val (.int p6), .val (.int ka), .val (.int kb), .val (.long fb), .second, .val (.long lb), .second, .val (.long pb), .second, .val (.ref b5), .val (.ref b8), .val (.int (((p6.toUInt32 >>> ((4 : Int32) &&& 31).toUInt32).toInt32) &&& (3 : Int32))), .unset] [(.ref b_14), (.ref b5)])) rfl (by rw [hml]; rfl) (Steps.refl _) (argsL := [(.ref b_14)]) (rest := []) (lenOf pd__Ljava_lang_Object__Z rfl) rfl (by show 2 * 0 + _ ≤ _; exact Nat.le_of_eq rfl) (hb hby at_164) (fun _ _ => ⟨rfl, rfl, (by decide : 7 + 0 ≤ _), (by decide : 49 + 0 ≤ _)⟩)
      dsimp only [Pt.U, Pt.locs, Pt.cells, Pt.slots] at X15 l15 y15 z15 st15 hQ15
      subst l15 y15 z15
      obtain ⟨rfl, Nq15, e15⟩ := hQ15
      have Nf15 := Fr.app Nf14 Nq15
      refine own_fw (A' := (T15.setTop (mkF m 167 #[.val (.int p1), .val (.long q2), .second, .val (.long q3), .second, .val (.long q4), .second, .val (.long q5), .second, .val (.int p6), .val (.int ka), .val (.int kb), .val (.long fb), .second, .val (.long lb), .second, .val (.long pb), .second, .val (.ref b5), .val (.ref b8), .val (.int (((p6.toUInt32 >>> ((4 : Int32) &&& 31).toUInt32).toInt32) &&& (3 : Int32))), .unset] [(.int (0 : Int32))]))) (fun t k => st15.trans k) ?_
      refine own_fw (A' := (T15.setTop (mkF m 170 #[.val (.int p1), .val (.long q2), .second, .val (.long q3), .second, .val (.long q4), .second, .val (.long q5), .second, .val (.int p6), .val (.int ka), .val (.int kb), .val (.long fb), .second, .val (.long lb), .second, .val (.long pb), .second, .val (.ref b5), .val (.ref b8), .val (.int (((p6.toUInt32 >>> ((4 : Int32) &&& 31).toUInt32).toInt32) &&& (3 : Int32))), .unset] []))) (fun t k => XS.ifNo X15.here hx rfl (hb hby at_167) rfl (XT.i0_ne_f rfl) k) ?_
      refine own_fw (A' := (T15.setTop (mkF m 171 #[.val (.int p1), .val (.long q2), .second, .val (.long q3), .second, .val (.long q4), .second, .val (.long q5), .second, .val (.int p6), .val (.int ka), .val (.int kb), .val (.long fb), .second, .val (.long lb), .second, .val (.long pb), .second, .val (.ref b5), .val (.ref b8), .val (.int (((p6.toUInt32 >>> ((4 : Int32) &&& 31).toUInt32).toInt32) &&& (3 : Int32))), .unset] [(.int (1 : Int32))]))) (fun t k => XS.iconst X15.here hx rfl (hb hby at_170) k) ?_
      refine own_fw (A' := (T15.setTop (mkF m 175 #[.val (.int p1), .val (.long q2), .second, .val (.long q3), .second, .val (.long q4), .second, .val (.long q5), .second, .val (.int p6), .val (.int ka), .val (.int kb), .val (.long fb), .second, .val (.long lb), .second, .val (.long pb), .second, .val (.ref b5), .val (.ref b8), .val (.int (((p6.toUInt32 >>> ((4 : Int32) &&& 31).toUInt32).toInt32) &&& (3 : Int32))), .unset] [(.int (1 : Int32))]))) (fun t k => XS.goto X15.here hx rfl (pc0 := 171) (pc' := 175) rfl (hb hby at_171) (by decide) (by decide) k) ?_
      obtain ⟨fs, hr, hrun, hended, hWE⟩ := X15.leaveW hS (by rw [e15]; exact hk : _ ≤ T15.heap.size) (v := some (.int (1 : Int32))) (fun h => by rw [Bd.returns] at h; cases h)
      refine ⟨_, _, ?_, hrun, hended, _, _, rfl, ?_, own_widen hWE (by decide) (by decide)⟩
      · exact retOut X15 hx Bd.returns rfl (Or.inl ⟨rfl, by simp, _, rfl⟩) (hb hby at_175) hr
      · show Q_rm0 Z p1 q2 q3 q4 q5 p6 ca r0 r1 r2 h0 n0 _ T15.heap _
        rw [e15]
        exact ⟨rfl, Nf15⟩
    · refine own_fw (A' := (T10.setTop (mkF m 176 #[.val (.int p1), .val (.long q2), .second, .val (.long q3), .second, .val (.long q4), .second, .val (.long q5), .second, .val (.int p6), .val (.int ka), .val (.int kb), .val (.long fb), .second, .val (.long lb), .second, .val (.long pb), .second, .val (.ref b5), .val (.ref b8), .val (.int (((p6.toUInt32 >>> ((4 : Int32) &&& 31).toUInt32).toInt32) &&& (3 : Int32))), .unset] []))) (fun t k => XS.icmpYes X10.here hx rfl (pc0 := 155) (pc' := 176) rfl (hb hby at_155) rfl (XT.ii_ne_t hc13) (by decide) (by decide) k) ?_
      refine own_fw (A' := (T10.setTop (mkF m 178 #[.val (.int p1), .val (.long q2), .second, .val (.long q3), .second, .val (.long q4), .second, .val (.long q5), .second, .val (.int p6), .val (.int ka), .val (.int kb), .val (.long fb), .second, .val (.long lb), .second, .val (.long pb), .second, .val (.ref b5), .val (.ref b8), .val (.int (((p6.toUInt32 >>> ((4 : Int32) &&& 31).toUInt32).toInt32) &&& (3 : Int32))), .unset] [(.int ka)]))) (fun t k => XS.iload X10.here hx rfl (hb hby at_176) rfl k) ?_
      refine own_fw (A' := (T10.setTop (mkF m 180 #[.val (.int p1), .val (.long q2), .second, .val (.long q3), .second, .val (.long q4), .second, .val (.long q5), .second, .val (.int p6), .val (.int ka), .val (.int kb), .val (.long fb), .second, .val (.long lb), .second, .val (.long pb), .second, .val (.ref b5), .val (.ref b8), .val (.int (((p6.toUInt32 >>> ((4 : Int32) &&& 31).toUInt32).toInt32) &&& (3 : Int32))), .unset] [(.int kb), (.int ka)]))) (fun t k => XS.iload X10.here hx rfl (hb hby at_178) rfl k) ?_
      by_cases hc16 : ka = kb
      · refine own_fw (A' := (T10.setTop (mkF m 183 #[.val (.int p1), .val (.long q2), .second, .val (.long q3), .second, .val (.long q4), .second, .val (.long q5), .second, .val (.int p6), .val (.int ka), .val (.int kb), .val (.long fb), .second, .val (.long lb), .second, .val (.long pb), .second, .val (.ref b5), .val (.ref b8), .val (.int (((p6.toUInt32 >>> ((4 : Int32) &&& 31).toUInt32).toInt32) &&& (3 : Int32))), .unset] []))) (fun t k => XS.icmpNo X10.here hx rfl (hb hby at_180) rfl (XT.ii_ne_f hc16) k) ?_
        refine own_fw (A' := (T10.setTop (mkF m 184 #[.val (.int p1), .val (.long q2), .second, .val (.long q3), .second, .val (.long q4), .second, .val (.long q5), .second, .val (.int p6), .val (.int ka), .val (.int kb), .val (.long fb), .second, .val (.long lb), .second, .val (.long pb), .second, .val (.ref b5), .val (.ref b8), .val (.int (((p6.toUInt32 >>> ((4 : Int32) &&& 31).toUInt32).toInt32) &&& (3 : Int32))), .unset] [(.long q2)]))) (fun t k => XS.lloadN X10.here hx rfl (hb hby at_183) rfl k) ?_
        refine own_fw (A' := (T10.setTop (mkF m 186 #[.val (.int p1), .val (.long q2), .second, .val (.long q3), .second, .val (.long q4), .second, .val (.long q5), .second, .val (.int p6), .val (.int ka), .val (.int kb), .val (.long fb), .second, .val (.long lb), .second, .val (.long pb), .second, .val (.ref b5), .val (.ref b8), .val (.int (((p6.toUInt32 >>> ((4 : Int32) &&& 31).toUInt32).toInt32) &&& (3 : Int32))), .unset] [(.long fb), (.long q2)]))) (fun t k => XS.lload X10.here hx rfl (hb hby at_184) rfl k) ?_
        refine own_fw (A' := (T10.setTop (mkF m 187 #[.val (.int p1), .val (.long q2), .second, .val (.long q3), .second, .val (.long q4), .second, .val (.long q5), .second, .val (.int p6), .val (.int ka), .val (.int kb), .val (.long fb), .second, .val (.long lb), .second, .val (.long pb), .second, .val (.ref b5), .val (.ref b8), .val (.int (((p6.toUInt32 >>> ((4 : Int32) &&& 31).toUInt32).toInt32) &&& (3 : Int32))), .unset] [(.int (XT.cmpL q2 fb))]))) (fun t k => XT.lcmp X10.here hx rfl (hb hby at_186) rfl k) ?_
        by_cases hc17 : q2 = fb
        · refine own_fw (A' := (T10.setTop (mkF m 190 #[.val (.int p1), .val (.long q2), .second, .val (.long q3), .second, .val (.long q4), .second, .val (.long q5), .second, .val (.int p6), .val (.int ka), .val (.int kb), .val (.long fb), .second, .val (.long lb), .second, .val (.long pb), .second, .val (.ref b5), .val (.ref b8), .val (.int (((p6.toUInt32 >>> ((4 : Int32) &&& 31).toUInt32).toInt32) &&& (3 : Int32))), .unset] []))) (fun t k => XS.ifNo X10.here hx rfl (hb hby at_187) rfl (XT.ll_ne_f hc17) k) ?_
          refine own_fw (A' := (T10.setTop (mkF m 191 #[.val (.int p1), .val (.long q2), .second, .val (.long q3), .second, .val (.long q4), .second, .val (.long q5), .second, .val (.int p6), .val (.int ka), .val (.int kb), .val (.long fb), .second, .val (.long lb), .second, .val (.long pb), .second, .val (.ref b5), .val (.ref b8), .val (.int (((p6.toUInt32 >>> ((4 : Int32) &&& 31).toUInt32).toInt32) &&& (3 : Int32))), .unset] [(.long q3)]))) (fun t k => XS.lloadN X10.here hx rfl (hb hby at_190) rfl k) ?_
          refine own_fw (A' := (T10.setTop (mkF m 193 #[.val (.int p1), .val (.long q2), .second, .val (.long q3), .second, .val (.long q4), .second, .val (.long q5), .second, .val (.int p6), .val (.int ka), .val (.int kb), .val (.long fb), .second, .val (.long lb), .second, .val (.long pb), .second, .val (.ref b5), .val (.ref b8), .val (.int (((p6.toUInt32 >>> ((4 : Int32) &&& 31).toUInt32).toInt32) &&& (3 : Int32))), .unset] [(.long lb), (.long q3)]))) (fun t k => XS.lload X10.here hx rfl (hb hby at_191) rfl k) ?_
          refine own_fw (A' := (T10.setTop (mkF m 194 #[.val (.int p1), .val (.long q2), .second, .val (.long q3), .second, .val (.long q4), .second, .val (.long q5), .second, .val (.int p6), .val (.int ka), .val (.int kb), .val (.long fb), .second, .val (.long lb), .second, .val (.long pb), .second, .val (.ref b5), .val (.ref b8), .val (.int (((p6.toUInt32 >>> ((4 : Int32) &&& 31).toUInt32).toInt32) &&& (3 : Int32))), .unset] [(.int (XT.cmpL q3 lb))]))) (fun t k => XT.lcmp X10.here hx rfl (hb hby at_193) rfl k) ?_
          by_cases hc18 : q3 = lb
          · refine own_fw (A' := (T10.setTop (mkF m 197 #[.val (.int p1), .val (.long q2), .second, .val (.long q3), .second, .val (.long q4), .second, .val (.long q5), .second, .val (.int p6), .val (.int ka), .val (.int kb), .val (.long fb), .second, .val (.long lb), .second, .val (.long pb), .second, .val (.ref b5), .val (.ref b8), .val (.int (((p6.toUInt32 >>> ((4 : Int32) &&& 31).toUInt32).toInt32) &&& (3 : Int32))), .unset] []))) (fun t k => XS.ifNo X10.here hx rfl (hb hby at_194) rfl (XT.ll_ne_f hc18) k) ?_
            refine own_fw (A' := (T10.setTop (mkF m 199 #[.val (.int p1), .val (.long q2), .second, .val (.long q3), .second, .val (.long q4), .second, .val (.long q5), .second, .val (.int p6), .val (.int ka), .val (.int kb), .val (.long fb), .second, .val (.long lb), .second, .val (.long pb), .second, .val (.ref b5), .val (.ref b8), .val (.int (((p6.toUInt32 >>> ((4 : Int32) &&& 31).toUInt32).toInt32) &&& (3 : Int32))), .unset] [(.long q4)]))) (fun t k => XS.lload X10.here hx rfl (hb hby at_197) rfl k) ?_
            refine own_fw (A' := (T10.setTop (mkF m 201 #[.val (.int p1), .val (.long q2), .second, .val (.long q3), .second, .val (.long q4), .second, .val (.long q5), .second, .val (.int p6), .val (.int ka), .val (.int kb), .val (.long fb), .second, .val (.long lb), .second, .val (.long pb), .second, .val (.ref b5), .val (.ref b8), .val (.int (((p6.toUInt32 >>> ((4 : Int32) &&& 31).toUInt32).toInt32) &&& (3 : Int32))), .unset] [(.long pb), (.long q4)]))) (fun t k => XS.lload X10.here hx rfl (hb hby at_199) rfl k) ?_
            refine own_fw (A' := (T10.setTop (mkF m 202 #[.val (.int p1), .val (.long q2), .second, .val (.long q3), .second, .val (.long q4), .second, .val (.long q5), .second, .val (.int p6), .val (.int ka), .val (.int kb), .val (.long fb), .second, .val (.long lb), .second, .val (.long pb), .second, .val (.ref b5), .val (.ref b8), .val (.int (((p6.toUInt32 >>> ((4 : Int32) &&& 31).toUInt32).toInt32) &&& (3 : Int32))), .unset] [(.int (XT.cmpL q4 pb))]))) (fun t k => XT.lcmp X10.here hx rfl (hb hby at_201) rfl k) ?_
            by_cases hc19 : q4 = pb
            · refine own_fw (A' := (T10.setTop (mkF m 205 #[.val (.int p1), .val (.long q2), .second, .val (.long q3), .second, .val (.long q4), .second, .val (.long q5), .second, .val (.int p6), .val (.int ka), .val (.int kb), .val (.long fb), .second, .val (.long lb), .second, .val (.long pb), .second, .val (.ref b5), .val (.ref b8), .val (.int (((p6.toUInt32 >>> ((4 : Int32) &&& 31).toUInt32).toInt32) &&& (3 : Int32))), .unset] []))) (fun t k => XS.ifNo X10.here hx rfl (hb hby at_202) rfl (XT.ll_ne_f hc19) k) ?_
              refine own_fw (A' := (T10.setTop (mkF m 206 #[.val (.int p1), .val (.long q2), .second, .val (.long q3), .second, .val (.long q4), .second, .val (.long q5), .second, .val (.int p6), .val (.int ka), .val (.int kb), .val (.long fb), .second, .val (.long lb), .second, .val (.long pb), .second, .val (.ref b5), .val (.ref b8), .val (.int (((p6.toUInt32 >>> ((4 : Int32) &&& 31).toUInt32).toInt32) &&& (3 : Int32))), .unset] [(.int (1 : Int32))]))) (fun t k => XS.iconst X10.here hx rfl (hb hby at_205) k) ?_
              refine own_fw (A' := (T10.setTop (mkF m 210 #[.val (.int p1), .val (.long q2), .second, .val (.long q3), .second, .val (.long q4), .second, .val (.long q5), .second, .val (.int p6), .val (.int ka), .val (.int kb), .val (.long fb), .second, .val (.long lb), .second, .val (.long pb), .second, .val (.ref b5), .val (.ref b8), .val (.int (((p6.toUInt32 >>> ((4 : Int32) &&& 31).toUInt32).toInt32) &&& (3 : Int32))), .unset] [(.int (1 : Int32))]))) (fun t k => XS.goto X10.here hx rfl (pc0 := 206) (pc' := 210) rfl (hb hby at_206) (by decide) (by decide) k) ?_
              refine own_fw (A' := (T10.setTop (mkF m 212 #[.val (.int p1), .val (.long q2), .second, .val (.long q3), .second, .val (.long q4), .second, .val (.long q5), .second, .val (.int p6), .val (.int ka), .val (.int kb), .val (.long fb), .second, .val (.long lb), .second, .val (.long pb), .second, .val (.ref b5), .val (.ref b8), .val (.int (((p6.toUInt32 >>> ((4 : Int32) &&& 31).toUInt32).toInt32) &&& (3 : Int32))), .val (.int (1 : Int32))] []))) (fun t k => XS.istore X10.here hx rfl (hb hby at_210) rfl (l' := #[.val (.int p1), .val (.long q2), .second, .val (.long q3), .second, .val (.long q4), .second, .val (.long q5), .second, .val (.int p6), .val (.int ka), .val (.int kb), .val (.long fb), .second, .val (.long lb), .second, .val (.long pb), .second, .val (.ref b5), .val (.ref b8), .val (.int (((p6.toUInt32 >>> ((4 : Int32) &&& 31).toUInt32).toInt32) &&& (3 : Int32))), .val (.int (1 : Int32))]) rfl k) ?_
              refine own_fw (A' := (T10.setTop (mkF m 214 #[.val (.int p1), .val (.long q2), .second, .val (.long q3), .second, .val (.long q4), .second, .val (.long q5), .second, .val (.int p6), .val (.int ka), .val (.int kb), .val (.long fb), .second, .val (.long lb), .second, .val (.long pb), .second, .val (.ref b5), .val (.ref b8), .val (.int (((p6.toUInt32 >>> ((4 : Int32) &&& 31).toUInt32).toInt32) &&& (3 : Int32))), .val (.int (1 : Int32))] [(.ref b5)]))) (fun t k => XS.aload X10.here hx rfl (hb hby at_212) rfl rfl k) ?_
              refine own_fw (A' := (T10.setTop (mkF m 216 #[.val (.int p1), .val (.long q2), .second, .val (.long q3), .second, .val (.long q4), .second, .val (.long q5), .second, .val (.int p6), .val (.int ka), .val (.int kb), .val (.long fb), .second, .val (.long lb), .second, .val (.long pb), .second, .val (.ref b5), .val (.ref b8), .val (.int (((p6.toUInt32 >>> ((4 : Int32) &&& 31).toUInt32).toInt32) &&& (3 : Int32))), .val (.int (1 : Int32))] [(.ref b8), (.ref b5)]))) (fun t k => XS.aload X10.here hx rfl (hb hby at_214) rfl rfl k) ?_
              obtain ⟨cq20, kq20, qa20, qb20, qc20⟩ := isOf hZ rfl (((Fq7_0.ext E8).keep Kq9).keep Kq10)
              obtain ⟨_, _, ⟨T20, L20, k20, n20⟩, -, X20, ⟨Lc20, hQ20, l20, y20, z20⟩, st20⟩ := X10.virtualBack hx (y := (⟨"com/example/spanwise/spanwise/ReadingLogPlan$Purchase", "equals", "(Ljava/lang/Object;)Z"⟩ : MethodName)) (z := (⟨"com/example/spanwise/spanwise/ReadingLogPlan$Purchase", "equals", "(Ljava/lang/Object;)Z"⟩ : MethodName)) hown (mvT hZ (hw _ (List.mem_of_getElem? (i := 39) rfl))) (mvT hZ (hw _ (List.mem_of_getElem? (i := 40) rfl))) (notFace_of_selects (args := #[]) (mvT hZ (hw _ (List.mem_of_getElem? (i := 42) rfl)))) (mvT hZ (hw _ (List.mem_of_getElem? (i := 42) rfl))) (mvT hZ (hw _ (List.mem_of_getElem? (i := 41) rfl))) (by decide) (backOf (W := 0) (rmEqObj l Z a0 hw [] b5 b8 b_6 b_9 q2 q3 q4 fb lb pb T10.heap n0 Z10 Fq10_0 (((Fq7_1.ext E8).keep Kq9 nin0).keep Kq10 (ninS ne_b5_b8 nin0)) (((Fq7_2.ext E8).keep Kq9 nin0).keep Kq10 (ninS ne_b5_b8 nin0)) (((Fq7_3.ext E8).keep Kq9 nin0).keep Kq10 (ninS ne_b5_b8 nin0)) (((Fq7_4.ext E8).keep Kq9 nin0).keep Kq10 (ninS ne_b5_b8 nin0)) Fq10_1 Fq10_2 Fq10_3 Fq10_4) hZ (hw _ (List.mem_of_getElem? (i := 43) rfl)) (hw _ (List.mem_of_getElem? (i := 3) rfl)) (by decide) (by decide)) qa20 qc20 (g := (mkF m 216 #[.val (.int p1), .val (.long q2), .second, .val (.long q3), .second, .val (.long q4), .second, .val (.long q5), .second, .val (.int p6), .val (.int ka), .val (.int kb), .val (.long fb), .second, .val (.long lb), .second, .val (.long pb), .second, .val (.ref b5), .val (.ref b8), .val (.int (((p6.toUInt32 >>> ((4 : Int32) &&& 31).toUInt32).toInt32) &&& (3 : Int32))), .val (.int (1 : Int32))] [(.ref b8), (.ref b5)])) rfl (by rw [hml]; rfl) (Steps.refl _) (argsL := [(.ref b8)]) (rest := []) (lenOf pd__Ljava_lang_Object__Z rfl) rfl (by show 2 * 0 + _ ≤ _; exact Nat.le_of_eq rfl) (hb hby at_216) (fun _ _ => ⟨rfl, rfl, (by decide : 6 + 0 ≤ _), (by decide : 48 + 0 ≤ _)⟩)
              dsimp only [Pt.U, Pt.locs, Pt.cells, Pt.slots] at X20 l20 y20 z20 st20 hQ20
              subst l20 y20 z20
              obtain ⟨rfl, Nq20, e20⟩ := hQ20
              have Nf20 := Fr.app Nf10 Nq20
              refine own_fw (A' := (T20.setTop (mkF m 219 #[.val (.int p1), .val (.long q2), .second, .val (.long q3), .second, .val (.long q4), .second, .val (.long q5), .second, .val (.int p6), .val (.int ka), .val (.int kb), .val (.long fb), .second, .val (.long lb), .second, .val (.long pb), .second, .val (.ref b5), .val (.ref b8), .val (.int (((p6.toUInt32 >>> ((4 : Int32) &&& 31).toUInt32).toInt32) &&& (3 : Int32))), .val (.int (1 : Int32))] [(.int (own_peq b_6 b_9 q2 q3 q4 fb lb pb))]))) (fun t k => st20.trans k) ?_
              refine own_fw (A' := (T20.setTop (mkF m 221 #[.val (.int p1), .val (.long q2), .second, .val (.long q3), .second, .val (.long q4), .second, .val (.long q5), .second, .val (.int p6), .val (.int ka), .val (.int kb), .val (.long fb), .second, .val (.long lb), .second, .val (.long pb), .second, .val (.ref b5), .val (.ref b8), .val (.int (((p6.toUInt32 >>> ((4 : Int32) &&& 31).toUInt32).toInt32) &&& (3 : Int32))), .val (.int (1 : Int32))] [(.int (1 : Int32)), (.int (own_peq b_6 b_9 q2 q3 q4 fb lb pb))]))) (fun t k => XS.iload X20.here hx rfl (hb hby at_219) rfl k) ?_
              refine own_fw (A' := (T20.setTop (mkF m 224 #[.val (.int p1), .val (.long q2), .second, .val (.long q3), .second, .val (.long q4), .second, .val (.long q5), .second, .val (.int p6), .val (.int ka), .val (.int kb), .val (.long fb), .second, .val (.long lb), .second, .val (.long pb), .second, .val (.ref b5), .val (.ref b8), .val (.int (((p6.toUInt32 >>> ((4 : Int32) &&& 31).toUInt32).toInt32) &&& (3 : Int32))), .val (.int (1 : Int32))] []))) (fun t k => XS.icmpNo X20.here hx rfl (hb hby at_221) rfl (XT.ii_ne_f (by simp only [own_peq, if_pos ((own_k hb_6 hb_9 n01 n02 n12 hka hkb).mpr hc16), if_pos hc17, if_pos hc18, if_pos hc19])) k) ?_
              refine own_fw (A' := (T20.setTop (mkF m 226 #[.val (.int p1), .val (.long q2), .second, .val (.long q3), .second, .val (.long q4), .second, .val (.long q5), .second, .val (.int p6), .val (.int ka), .val (.int kb), .val (.long fb), .second, .val (.long lb), .second, .val (.long pb), .second, .val (.ref b5), .val (.ref b8), .val (.int (((p6.toUInt32 >>> ((4 : Int32) &&& 31).toUInt32).toInt32) &&& (3 : Int32))), .val (.int (1 : Int32))] [(.ref b8)]))) (fun t k => XS.aload X20.here hx rfl (hb hby at_224) rfl rfl k) ?_
              refine own_fw (A' := (T20.setTop (mkF m 228 #[.val (.int p1), .val (.long q2), .second, .val (.long q3), .second, .val (.long q4), .second, .val (.long q5), .second, .val (.int p6), .val (.int ka), .val (.int kb), .val (.long fb), .second, .val (.long lb), .second, .val (.long pb), .second, .val (.ref b5), .val (.ref b8), .val (.int (((p6.toUInt32 >>> ((4 : Int32) &&& 31).toUInt32).toInt32) &&& (3 : Int32))), .val (.int (1 : Int32))] [(.ref b5), (.ref b8)]))) (fun t k => XS.aload X20.here hx rfl (hb hby at_226) rfl rfl k) ?_
              obtain ⟨cq21, kq21, qa21, qb21, qc21⟩ := isOf hZ e20 Fq10_0
              obtain ⟨_, _, ⟨T21, L21, k21, n21⟩, -, X21, ⟨Lc21, hQ21, l21, y21, z21⟩, st21⟩ := X20.virtualBack hx (y := (⟨"com/example/spanwise/spanwise/ReadingLogPlan$Purchase", "equals", "(Ljava/lang/Object;)Z"⟩ : MethodName)) (z := (⟨"com/example/spanwise/spanwise/ReadingLogPlan$Purchase", "equals", "(Ljava/lang/Object;)Z"⟩ : MethodName)) hown (mvT hZ (hw _ (List.mem_of_getElem? (i := 39) rfl))) (mvT hZ (hw _ (List.mem_of_getElem? (i := 40) rfl))) (notFace_of_selects (args := #[]) (mvT hZ (hw _ (List.mem_of_getElem? (i := 42) rfl)))) (mvT hZ (hw _ (List.mem_of_getElem? (i := 42) rfl))) (mvT hZ (hw _ (List.mem_of_getElem? (i := 41) rfl))) (by decide) (backOf (W := 0) (rmEqObj l Z a0 hw [] b8 b5 b_9 b_6 fb lb pb q2 q3 q4 T10.heap n0 Z10 (((Fq7_0.ext E8).keep Kq9).keep Kq10) Fq10_1 Fq10_2 Fq10_3 Fq10_4 (((Fq7_1.ext E8).keep Kq9 nin0).keep Kq10 (ninS ne_b5_b8 nin0)) (((Fq7_2.ext E8).keep Kq9 nin0).keep Kq10 (ninS ne_b5_b8 nin0)) (((Fq7_3.ext E8).keep Kq9 nin0).keep Kq10 (ninS ne_b5_b8 nin0)) (((Fq7_4.ext E8).keep Kq9 nin0).keep Kq10 (ninS ne_b5_b8 nin0))) hZ (hw _ (List.mem_of_getElem? (i := 43) rfl)) (hw _ (List.mem_of_getElem? (i := 3) rfl)) (by decide) (by decide)) qa21 qc21 (g := (mkF m 228 #[.val (.int p1), .val (.long q2), .second, .val (.long q3), .second, .val (.long q4), .second, .val (.long q5), .second, .val (.int p6), .val (.int ka), .val (.int kb), .val (.long fb), .second, .val (.long lb), .second, .val (.long pb), .second, .val (.ref b5), .val (.ref b8), .val (.int (((p6.toUInt32 >>> ((4 : Int32) &&& 31).toUInt32).toInt32) &&& (3 : Int32))), .val (.int (1 : Int32))] [(.ref b5), (.ref b8)])) rfl (by rw [hml]; rfl) (Steps.refl _) (argsL := [(.ref b5)]) (rest := []) (lenOf pd__Ljava_lang_Object__Z rfl) rfl (by show 2 * 0 + _ ≤ _; exact Nat.le_of_eq rfl) (hb hby at_228) (fun _ _ => ⟨rfl, e20, (by decide : 6 + 0 ≤ _), (by decide : 48 + 0 ≤ _)⟩)
              dsimp only [Pt.U, Pt.locs, Pt.cells, Pt.slots] at X21 l21 y21 z21 st21 hQ21
              subst l21 y21 z21
              obtain ⟨rfl, Nq21, e21⟩ := hQ21
              have Nf21 := Fr.app Nf20 Nq21
              refine own_fw (A' := (T21.setTop (mkF m 231 #[.val (.int p1), .val (.long q2), .second, .val (.long q3), .second, .val (.long q4), .second, .val (.long q5), .second, .val (.int p6), .val (.int ka), .val (.int kb), .val (.long fb), .second, .val (.long lb), .second, .val (.long pb), .second, .val (.ref b5), .val (.ref b8), .val (.int (((p6.toUInt32 >>> ((4 : Int32) &&& 31).toUInt32).toInt32) &&& (3 : Int32))), .val (.int (1 : Int32))] [(.int (own_peq b_9 b_6 fb lb pb q2 q3 q4))]))) (fun t k => st21.trans k) ?_
              refine own_fw (A' := (T21.setTop (mkF m 233 #[.val (.int p1), .val (.long q2), .second, .val (.long q3), .second, .val (.long q4), .second, .val (.long q5), .second, .val (.int p6), .val (.int ka), .val (.int kb), .val (.long fb), .second, .val (.long lb), .second, .val (.long pb), .second, .val (.ref b5), .val (.ref b8), .val (.int (((p6.toUInt32 >>> ((4 : Int32) &&& 31).toUInt32).toInt32) &&& (3 : Int32))), .val (.int (1 : Int32))] [(.int (1 : Int32)), (.int (own_peq b_9 b_6 fb lb pb q2 q3 q4))]))) (fun t k => XS.iload X21.here hx rfl (hb hby at_231) rfl k) ?_
              refine own_fw (A' := (T21.setTop (mkF m 236 #[.val (.int p1), .val (.long q2), .second, .val (.long q3), .second, .val (.long q4), .second, .val (.long q5), .second, .val (.int p6), .val (.int ka), .val (.int kb), .val (.long fb), .second, .val (.long lb), .second, .val (.long pb), .second, .val (.ref b5), .val (.ref b8), .val (.int (((p6.toUInt32 >>> ((4 : Int32) &&& 31).toUInt32).toInt32) &&& (3 : Int32))), .val (.int (1 : Int32))] []))) (fun t k => XS.icmpNo X21.here hx rfl (hb hby at_233) rfl (XT.ii_ne_f (by simp only [own_peq, if_pos (Eq.symm ((own_k hb_6 hb_9 n01 n02 n12 hka hkb).mpr hc16)), if_pos (Eq.symm hc17), if_pos (Eq.symm hc18), if_pos (Eq.symm hc19)])) k) ?_
              refine own_fw (A' := (T21.setTop (mkF m 238 #[.val (.int p1), .val (.long q2), .second, .val (.long q3), .second, .val (.long q4), .second, .val (.long q5), .second, .val (.int p6), .val (.int ka), .val (.int kb), .val (.long fb), .second, .val (.long lb), .second, .val (.long pb), .second, .val (.ref b5), .val (.ref b8), .val (.int (((p6.toUInt32 >>> ((4 : Int32) &&& 31).toUInt32).toInt32) &&& (3 : Int32))), .val (.int (1 : Int32))] [(.ref b5)]))) (fun t k => XS.aload X21.here hx rfl (hb hby at_236) rfl rfl k) ?_
              refine own_fw (A' := (T21.setTop (mkF m 240 #[.val (.int p1), .val (.long q2), .second, .val (.long q3), .second, .val (.long q4), .second, .val (.long q5), .second, .val (.int p6), .val (.int ka), .val (.int kb), .val (.long fb), .second, .val (.long lb), .second, .val (.long pb), .second, .val (.ref b5), .val (.ref b8), .val (.int (((p6.toUInt32 >>> ((4 : Int32) &&& 31).toUInt32).toInt32) &&& (3 : Int32))), .val (.int (1 : Int32))] [(.ref b5), (.ref b5)]))) (fun t k => XS.aload X21.here hx rfl (hb hby at_238) rfl rfl k) ?_
              obtain ⟨cq22, kq22, qa22, qb22, qc22⟩ := isOf hZ e21 (((Fq7_0.ext E8).keep Kq9).keep Kq10)
              obtain ⟨_, _, ⟨T22, L22, k22, n22⟩, -, X22, ⟨Lc22, hQ22, l22, y22, z22⟩, st22⟩ := X21.virtualBack hx (y := (⟨"com/example/spanwise/spanwise/ReadingLogPlan$Purchase", "equals", "(Ljava/lang/Object;)Z"⟩ : MethodName)) (z := (⟨"com/example/spanwise/spanwise/ReadingLogPlan$Purchase", "equals", "(Ljava/lang/Object;)Z"⟩ : MethodName)) hown (mvT hZ (hw _ (List.mem_of_getElem? (i := 39) rfl))) (mvT hZ (hw _ (List.mem_of_getElem? (i := 40) rfl))) (notFace_of_selects (args := #[]) (mvT hZ (hw _ (List.mem_of_getElem? (i := 42) rfl)))) (mvT hZ (hw _ (List.mem_of_getElem? (i := 42) rfl))) (mvT hZ (hw _ (List.mem_of_getElem? (i := 41) rfl))) (by decide) (backOf (W := 0) (rmEqObj l Z a0 hw [] b5 b5 b_6 b_6 q2 q3 q4 q2 q3 q4 T10.heap n0 Z10 (((Fq7_0.ext E8).keep Kq9).keep Kq10) (((Fq7_1.ext E8).keep Kq9 nin0).keep Kq10 (ninS ne_b5_b8 nin0)) (((Fq7_2.ext E8).keep Kq9 nin0).keep Kq10 (ninS ne_b5_b8 nin0)) (((Fq7_3.ext E8).keep Kq9 nin0).keep Kq10 (ninS ne_b5_b8 nin0)) (((Fq7_4.ext E8).keep Kq9 nin0).keep Kq10 (ninS ne_b5_b8 nin0)) (((Fq7_1.ext E8).keep Kq9 nin0).keep Kq10 (ninS ne_b5_b8 nin0)) (((Fq7_2.ext E8).keep Kq9 nin0).keep Kq10 (ninS ne_b5_b8 nin0)) (((Fq7_3.ext E8).keep Kq9 nin0).keep Kq10 (ninS ne_b5_b8 nin0)) (((Fq7_4.ext E8).keep Kq9 nin0).keep Kq10 (ninS ne_b5_b8 nin0))) hZ (hw _ (List.mem_of_getElem? (i := 43) rfl)) (hw _ (List.mem_of_getElem? (i := 3) rfl)) (by decide) (by decide)) qa22 qc22 (g := (mkF m 240 #[.val (.int p1), .val (.long q2), .second, .val (.long q3), .second, .val (.long q4), .second, .val (.long q5), .second, .val (.int p6), .val (.int ka), .val (.int kb), .val (.long fb), .second, .val (.long lb), .second, .val (.long pb), .second, .val (.ref b5), .val (.ref b8), .val (.int (((p6.toUInt32 >>> ((4 : Int32) &&& 31).toUInt32).toInt32) &&& (3 : Int32))), .val (.int (1 : Int32))] [(.ref b5), (.ref b5)])) rfl (by rw [hml]; rfl) (Steps.refl _) (argsL := [(.ref b5)]) (rest := []) (lenOf pd__Ljava_lang_Object__Z rfl) rfl (by show 2 * 0 + _ ≤ _; exact Nat.le_of_eq rfl) (hb hby at_240) (fun _ _ => ⟨rfl, e21, (by decide : 6 + 0 ≤ _), (by decide : 48 + 0 ≤ _)⟩)
              dsimp only [Pt.U, Pt.locs, Pt.cells, Pt.slots] at X22 l22 y22 z22 st22 hQ22
              subst l22 y22 z22
              obtain ⟨rfl, Nq22, e22⟩ := hQ22
              have Nf22 := Fr.app Nf21 Nq22
              refine own_fw (A' := (T22.setTop (mkF m 243 #[.val (.int p1), .val (.long q2), .second, .val (.long q3), .second, .val (.long q4), .second, .val (.long q5), .second, .val (.int p6), .val (.int ka), .val (.int kb), .val (.long fb), .second, .val (.long lb), .second, .val (.long pb), .second, .val (.ref b5), .val (.ref b8), .val (.int (((p6.toUInt32 >>> ((4 : Int32) &&& 31).toUInt32).toInt32) &&& (3 : Int32))), .val (.int (1 : Int32))] [(.int (own_peq b_6 b_6 q2 q3 q4 q2 q3 q4))]))) (fun t k => st22.trans k) ?_
              refine own_fw (A' := (T22.setTop (mkF m 246 #[.val (.int p1), .val (.long q2), .second, .val (.long q3), .second, .val (.long q4), .second, .val (.long q5), .second, .val (.int p6), .val (.int ka), .val (.int kb), .val (.long fb), .second, .val (.long lb), .second, .val (.long pb), .second, .val (.ref b5), .val (.ref b8), .val (.int (((p6.toUInt32 >>> ((4 : Int32) &&& 31).toUInt32).toInt32) &&& (3 : Int32))), .val (.int (1 : Int32))] []))) (fun t k => XS.ifNo X22.here hx rfl (hb hby at_243) rfl (XT.i0_eq_f (own_self _ _ _ _)) k) ?_
              refine own_fw (A' := (T22.setTop (mkF m 247 #[.val (.int p1), .val (.long q2), .second, .val (.long q3), .second, .val (.long q4), .second, .val (.long q5), .second, .val (.int p6), .val (.int ka), .val (.int kb), .val (.long fb), .second, .val (.long lb), .second, .val (.long pb), .second, .val (.ref b5), .val (.ref b8), .val (.int (((p6.toUInt32 >>> ((4 : Int32) &&& 31).toUInt32).toInt32) &&& (3 : Int32))), .val (.int (1 : Int32))] [(.int (1 : Int32))]))) (fun t k => XS.iconst X22.here hx rfl (hb hby at_246) k) ?_
              refine own_fw (A' := (T22.setTop (mkF m 251 #[.val (.int p1), .val (.long q2), .second, .val (.long q3), .second, .val (.long q4), .second, .val (.long q5), .second, .val (.int p6), .val (.int ka), .val (.int kb), .val (.long fb), .second, .val (.long lb), .second, .val (.long pb), .second, .val (.ref b5), .val (.ref b8), .val (.int (((p6.toUInt32 >>> ((4 : Int32) &&& 31).toUInt32).toInt32) &&& (3 : Int32))), .val (.int (1 : Int32))] [(.int (1 : Int32))]))) (fun t k => XS.goto X22.here hx rfl (pc0 := 247) (pc' := 251) rfl (hb hby at_247) (by decide) (by decide) k) ?_
              obtain ⟨fs, hr, hrun, hended, hWE⟩ := X22.leaveW hS (by rw [e22]; exact hk : _ ≤ T22.heap.size) (v := some (.int (1 : Int32))) (fun h => by rw [Bd.returns] at h; cases h)
              refine ⟨_, _, ?_, hrun, hended, _, _, rfl, ?_, own_widen hWE (by decide) (by decide)⟩
              · exact retOut X22 hx Bd.returns rfl (Or.inl ⟨rfl, by simp, _, rfl⟩) (hb hby at_251) hr
              · show Q_rm0 Z p1 q2 q3 q4 q5 p6 ca r0 r1 r2 h0 n0 _ T22.heap _
                rw [e22]
                exact ⟨rfl, Nf22⟩
            · refine own_fw (A' := (T10.setTop (mkF m 209 #[.val (.int p1), .val (.long q2), .second, .val (.long q3), .second, .val (.long q4), .second, .val (.long q5), .second, .val (.int p6), .val (.int ka), .val (.int kb), .val (.long fb), .second, .val (.long lb), .second, .val (.long pb), .second, .val (.ref b5), .val (.ref b8), .val (.int (((p6.toUInt32 >>> ((4 : Int32) &&& 31).toUInt32).toInt32) &&& (3 : Int32))), .unset] []))) (fun t k => XS.ifYes X10.here hx rfl (pc0 := 202) (pc' := 209) rfl (hb hby at_202) rfl (XT.ll_ne_t hc19) (by decide) (by decide) k) ?_
              refine own_fw (A' := (T10.setTop (mkF m 210 #[.val (.int p1), .val (.long q2), .second, .val (.long q3), .second, .val (.long q4), .second, .val (.long q5), .second, .val (.int p6), .val (.int ka), .val (.int kb), .val (.long fb), .second, .val (.long lb), .second, .val (.long pb), .second, .val (.ref b5), .val (.ref b8), .val (.int (((p6.toUInt32 >>> ((4 : Int32) &&& 31).toUInt32).toInt32) &&& (3 : Int32))), .unset] [(.int (0 : Int32))]))) (fun t k => XS.iconst X10.here hx rfl (hb hby at_209) k) ?_
              refine own_fw (A' := (T10.setTop (mkF m 212 #[.val (.int p1), .val (.long q2), .second, .val (.long q3), .second, .val (.long q4), .second, .val (.long q5), .second, .val (.int p6), .val (.int ka), .val (.int kb), .val (.long fb), .second, .val (.long lb), .second, .val (.long pb), .second, .val (.ref b5), .val (.ref b8), .val (.int (((p6.toUInt32 >>> ((4 : Int32) &&& 31).toUInt32).toInt32) &&& (3 : Int32))), .val (.int (0 : Int32))] []))) (fun t k => XS.istore X10.here hx rfl (hb hby at_210) rfl (l' := #[.val (.int p1), .val (.long q2), .second, .val (.long q3), .second, .val (.long q4), .second, .val (.long q5), .second, .val (.int p6), .val (.int ka), .val (.int kb), .val (.long fb), .second, .val (.long lb), .second, .val (.long pb), .second, .val (.ref b5), .val (.ref b8), .val (.int (((p6.toUInt32 >>> ((4 : Int32) &&& 31).toUInt32).toInt32) &&& (3 : Int32))), .val (.int (0 : Int32))]) rfl k) ?_
              refine own_fw (A' := (T10.setTop (mkF m 214 #[.val (.int p1), .val (.long q2), .second, .val (.long q3), .second, .val (.long q4), .second, .val (.long q5), .second, .val (.int p6), .val (.int ka), .val (.int kb), .val (.long fb), .second, .val (.long lb), .second, .val (.long pb), .second, .val (.ref b5), .val (.ref b8), .val (.int (((p6.toUInt32 >>> ((4 : Int32) &&& 31).toUInt32).toInt32) &&& (3 : Int32))), .val (.int (0 : Int32))] [(.ref b5)]))) (fun t k => XS.aload X10.here hx rfl (hb hby at_212) rfl rfl k) ?_
              refine own_fw (A' := (T10.setTop (mkF m 216 #[.val (.int p1), .val (.long q2), .second, .val (.long q3), .second, .val (.long q4), .second, .val (.long q5), .second, .val (.int p6), .val (.int ka), .val (.int kb), .val (.long fb), .second, .val (.long lb), .second, .val (.long pb), .second, .val (.ref b5), .val (.ref b8), .val (.int (((p6.toUInt32 >>> ((4 : Int32) &&& 31).toUInt32).toInt32) &&& (3 : Int32))), .val (.int (0 : Int32))] [(.ref b8), (.ref b5)]))) (fun t k => XS.aload X10.here hx rfl (hb hby at_214) rfl rfl k) ?_
              obtain ⟨cq23, kq23, qa23, qb23, qc23⟩ := isOf hZ rfl (((Fq7_0.ext E8).keep Kq9).keep Kq10)
              obtain ⟨_, _, ⟨T23, L23, k23, n23⟩, -, X23, ⟨Lc23, hQ23, l23, y23, z23⟩, st23⟩ := X10.virtualBack hx (y := (⟨"com/example/spanwise/spanwise/ReadingLogPlan$Purchase", "equals", "(Ljava/lang/Object;)Z"⟩ : MethodName)) (z := (⟨"com/example/spanwise/spanwise/ReadingLogPlan$Purchase", "equals", "(Ljava/lang/Object;)Z"⟩ : MethodName)) hown (mvT hZ (hw _ (List.mem_of_getElem? (i := 39) rfl))) (mvT hZ (hw _ (List.mem_of_getElem? (i := 40) rfl))) (notFace_of_selects (args := #[]) (mvT hZ (hw _ (List.mem_of_getElem? (i := 42) rfl)))) (mvT hZ (hw _ (List.mem_of_getElem? (i := 42) rfl))) (mvT hZ (hw _ (List.mem_of_getElem? (i := 41) rfl))) (by decide) (backOf (W := 0) (rmEqObj l Z a0 hw [] b5 b8 b_6 b_9 q2 q3 q4 fb lb pb T10.heap n0 Z10 Fq10_0 (((Fq7_1.ext E8).keep Kq9 nin0).keep Kq10 (ninS ne_b5_b8 nin0)) (((Fq7_2.ext E8).keep Kq9 nin0).keep Kq10 (ninS ne_b5_b8 nin0)) (((Fq7_3.ext E8).keep Kq9 nin0).keep Kq10 (ninS ne_b5_b8 nin0)) (((Fq7_4.ext E8).keep Kq9 nin0).keep Kq10 (ninS ne_b5_b8 nin0)) Fq10_1 Fq10_2 Fq10_3 Fq10_4) hZ (hw _ (List.mem_of_getElem? (i := 43) rfl)) (hw _ (List.mem_of_getElem? (i := 3) rfl)) (by decide) (by decide)) qa23 qc23 (g := (mkF m 216 #[.val (.int p1), .val (.long q2), .second, .val (.long q3), .second, .val (.long q4), .second, .val (.long q5), .second, .val (.int p6), .val (.int ka), .val (.int kb), .val (.long fb), .second, .val (.long lb), .second, .val (.long pb), .second, .val (.ref b5), .val (.ref b8), .val (.int (((p6.toUInt32 >>> ((4 : Int32) &&& 31).toUInt32).toInt32) &&& (3 : Int32))), .val (.int (0 : Int32))] [(.ref b8), (.ref b5)])) rfl (by rw [hml]; rfl) (Steps.refl _) (argsL := [(.ref b8)]) (rest := []) (lenOf pd__Ljava_lang_Object__Z rfl) rfl (by show 2 * 0 + _ ≤ _; exact Nat.le_of_eq rfl) (hb hby at_216) (fun _ _ => ⟨rfl, rfl, (by decide : 6 + 0 ≤ _), (by decide : 48 + 0 ≤ _)⟩)
              dsimp only [Pt.U, Pt.locs, Pt.cells, Pt.slots] at X23 l23 y23 z23 st23 hQ23
              subst l23 y23 z23
              obtain ⟨rfl, Nq23, e23⟩ := hQ23
              have Nf23 := Fr.app Nf10 Nq23
              refine own_fw (A' := (T23.setTop (mkF m 219 #[.val (.int p1), .val (.long q2), .second, .val (.long q3), .second, .val (.long q4), .second, .val (.long q5), .second, .val (.int p6), .val (.int ka), .val (.int kb), .val (.long fb), .second, .val (.long lb), .second, .val (.long pb), .second, .val (.ref b5), .val (.ref b8), .val (.int (((p6.toUInt32 >>> ((4 : Int32) &&& 31).toUInt32).toInt32) &&& (3 : Int32))), .val (.int (0 : Int32))] [(.int (own_peq b_6 b_9 q2 q3 q4 fb lb pb))]))) (fun t k => st23.trans k) ?_
              refine own_fw (A' := (T23.setTop (mkF m 221 #[.val (.int p1), .val (.long q2), .second, .val (.long q3), .second, .val (.long q4), .second, .val (.long q5), .second, .val (.int p6), .val (.int ka), .val (.int kb), .val (.long fb), .second, .val (.long lb), .second, .val (.long pb), .second, .val (.ref b5), .val (.ref b8), .val (.int (((p6.toUInt32 >>> ((4 : Int32) &&& 31).toUInt32).toInt32) &&& (3 : Int32))), .val (.int (0 : Int32))] [(.int (0 : Int32)), (.int (own_peq b_6 b_9 q2 q3 q4 fb lb pb))]))) (fun t k => XS.iload X23.here hx rfl (hb hby at_219) rfl k) ?_
              refine own_fw (A' := (T23.setTop (mkF m 224 #[.val (.int p1), .val (.long q2), .second, .val (.long q3), .second, .val (.long q4), .second, .val (.long q5), .second, .val (.int p6), .val (.int ka), .val (.int kb), .val (.long fb), .second, .val (.long lb), .second, .val (.long pb), .second, .val (.ref b5), .val (.ref b8), .val (.int (((p6.toUInt32 >>> ((4 : Int32) &&& 31).toUInt32).toInt32) &&& (3 : Int32))), .val (.int (0 : Int32))] []))) (fun t k => XS.icmpNo X23.here hx rfl (hb hby at_221) rfl (XT.ii_ne_f (by simp only [own_peq, if_pos ((own_k hb_6 hb_9 n01 n02 n12 hka hkb).mpr hc16), if_pos hc17, if_pos hc18, if_neg hc19])) k) ?_
              refine own_fw (A' := (T23.setTop (mkF m 226 #[.val (.int p1), .val (.long q2), .second, .val (.long q3), .second, .val (.long q4), .second, .val (.long q5), .second, .val (.int p6), .val (.int ka), .val (.int kb), .val (.long fb), .second, .val (.long lb), .second, .val (.long pb), .second, .val (.ref b5), .val (.ref b8), .val (.int (((p6.toUInt32 >>> ((4 : Int32) &&& 31).toUInt32).toInt32) &&& (3 : Int32))), .val (.int (0 : Int32))] [(.ref b8)]))) (fun t k => XS.aload X23.here hx rfl (hb hby at_224) rfl rfl k) ?_
              refine own_fw (A' := (T23.setTop (mkF m 228 #[.val (.int p1), .val (.long q2), .second, .val (.long q3), .second, .val (.long q4), .second, .val (.long q5), .second, .val (.int p6), .val (.int ka), .val (.int kb), .val (.long fb), .second, .val (.long lb), .second, .val (.long pb), .second, .val (.ref b5), .val (.ref b8), .val (.int (((p6.toUInt32 >>> ((4 : Int32) &&& 31).toUInt32).toInt32) &&& (3 : Int32))), .val (.int (0 : Int32))] [(.ref b5), (.ref b8)]))) (fun t k => XS.aload X23.here hx rfl (hb hby at_226) rfl rfl k) ?_
              obtain ⟨cq24, kq24, qa24, qb24, qc24⟩ := isOf hZ e23 Fq10_0
              obtain ⟨_, _, ⟨T24, L24, k24, n24⟩, -, X24, ⟨Lc24, hQ24, l24, y24, z24⟩, st24⟩ := X23.virtualBack hx (y := (⟨"com/example/spanwise/spanwise/ReadingLogPlan$Purchase", "equals", "(Ljava/lang/Object;)Z"⟩ : MethodName)) (z := (⟨"com/example/spanwise/spanwise/ReadingLogPlan$Purchase", "equals", "(Ljava/lang/Object;)Z"⟩ : MethodName)) hown (mvT hZ (hw _ (List.mem_of_getElem? (i := 39) rfl))) (mvT hZ (hw _ (List.mem_of_getElem? (i := 40) rfl))) (notFace_of_selects (args := #[]) (mvT hZ (hw _ (List.mem_of_getElem? (i := 42) rfl)))) (mvT hZ (hw _ (List.mem_of_getElem? (i := 42) rfl))) (mvT hZ (hw _ (List.mem_of_getElem? (i := 41) rfl))) (by decide) (backOf (W := 0) (rmEqObj l Z a0 hw [] b8 b5 b_9 b_6 fb lb pb q2 q3 q4 T10.heap n0 Z10 (((Fq7_0.ext E8).keep Kq9).keep Kq10) Fq10_1 Fq10_2 Fq10_3 Fq10_4 (((Fq7_1.ext E8).keep Kq9 nin0).keep Kq10 (ninS ne_b5_b8 nin0)) (((Fq7_2.ext E8).keep Kq9 nin0).keep Kq10 (ninS ne_b5_b8 nin0)) (((Fq7_3.ext E8).keep Kq9 nin0).keep Kq10 (ninS ne_b5_b8 nin0)) (((Fq7_4.ext E8).keep Kq9 nin0).keep Kq10 (ninS ne_b5_b8 nin0))) hZ (hw _ (List.mem_of_getElem? (i := 43) rfl)) (hw _ (List.mem_of_getElem? (i := 3) rfl)) (by decide) (by decide)) qa24 qc24 (g := (mkF m 228 #[.val (.int p1), .val (.long q2), .second, .val (.long q3), .second, .val (.long q4), .second, .val (.long q5), .second, .val (.int p6), .val (.int ka), .val (.int kb), .val (.long fb), .second, .val (.long lb), .second, .val (.long pb), .second, .val (.ref b5), .val (.ref b8), .val (.int (((p6.toUInt32 >>> ((4 : Int32) &&& 31).toUInt32).toInt32) &&& (3 : Int32))), .val (.int (0 : Int32))] [(.ref b5), (.ref b8)])) rfl (by rw [hml]; rfl) (Steps.refl _) (argsL := [(.ref b5)]) (rest := []) (lenOf pd__Ljava_lang_Object__Z rfl) rfl (by show 2 * 0 + _ ≤ _; exact Nat.le_of_eq rfl) (hb hby at_228) (fun _ _ => ⟨rfl, e23, (by decide : 6 + 0 ≤ _), (by decide : 48 + 0 ≤ _)⟩)
              dsimp only [Pt.U, Pt.locs, Pt.cells, Pt.slots] at X24 l24 y24 z24 st24 hQ24
              subst l24 y24 z24
              obtain ⟨rfl, Nq24, e24⟩ := hQ24
              have Nf24 := Fr.app Nf23 Nq24
              refine own_fw (A' := (T24.setTop (mkF m 231 #[.val (.int p1), .val (.long q2), .second, .val (.long q3), .second, .val (.long q4), .second, .val (.long q5), .second, .val (.int p6), .val (.int ka), .val (.int kb), .val (.long fb), .second, .val (.long lb), .second, .val (.long pb), .second, .val (.ref b5), .val (.ref b8), .val (.int (((p6.toUInt32 >>> ((4 : Int32) &&& 31).toUInt32).toInt32) &&& (3 : Int32))), .val (.int (0 : Int32))] [(.int (own_peq b_9 b_6 fb lb pb q2 q3 q4))]))) (fun t k => st24.trans k) ?_
              refine own_fw (A' := (T24.setTop (mkF m 233 #[.val (.int p1), .val (.long q2), .second, .val (.long q3), .second, .val (.long q4), .second, .val (.long q5), .second, .val (.int p6), .val (.int ka), .val (.int kb), .val (.long fb), .second, .val (.long lb), .second, .val (.long pb), .second, .val (.ref b5), .val (.ref b8), .val (.int (((p6.toUInt32 >>> ((4 : Int32) &&& 31).toUInt32).toInt32) &&& (3 : Int32))), .val (.int (0 : Int32))] [(.int (0 : Int32)), (.int (own_peq b_9 b_6 fb lb pb q2 q3 q4))]))) (fun t k => XS.iload X24.here hx rfl (hb hby at_231) rfl k) ?_
              refine own_fw (A' := (T24.setTop (mkF m 236 #[.val (.int p1), .val (.long q2), .second, .val (.long q3), .second, .val (.long q4), .second, .val (.long q5), .second, .val (.int p6), .val (.int ka), .val (.int kb), .val (.long fb), .second, .val (.long lb), .second, .val (.long pb), .second, .val (.ref b5), .val (.ref b8), .val (.int (((p6.toUInt32 >>> ((4 : Int32) &&& 31).toUInt32).toInt32) &&& (3 : Int32))), .val (.int (0 : Int32))] []))) (fun t k => XS.icmpNo X24.here hx rfl (hb hby at_233) rfl (XT.ii_ne_f (by simp only [own_peq, if_pos (Eq.symm ((own_k hb_6 hb_9 n01 n02 n12 hka hkb).mpr hc16)), if_pos (Eq.symm hc17), if_pos (Eq.symm hc18), if_neg (fun q => hc19 (Eq.symm q))])) k) ?_
              refine own_fw (A' := (T24.setTop (mkF m 238 #[.val (.int p1), .val (.long q2), .second, .val (.long q3), .second, .val (.long q4), .second, .val (.long q5), .second, .val (.int p6), .val (.int ka), .val (.int kb), .val (.long fb), .second, .val (.long lb), .second, .val (.long pb), .second, .val (.ref b5), .val (.ref b8), .val (.int (((p6.toUInt32 >>> ((4 : Int32) &&& 31).toUInt32).toInt32) &&& (3 : Int32))), .val (.int (0 : Int32))] [(.ref b5)]))) (fun t k => XS.aload X24.here hx rfl (hb hby at_236) rfl rfl k) ?_
              refine own_fw (A' := (T24.setTop (mkF m 240 #[.val (.int p1), .val (.long q2), .second, .val (.long q3), .second, .val (.long q4), .second, .val (.long q5), .second, .val (.int p6), .val (.int ka), .val (.int kb), .val (.long fb), .second, .val (.long lb), .second, .val (.long pb), .second, .val (.ref b5), .val (.ref b8), .val (.int (((p6.toUInt32 >>> ((4 : Int32) &&& 31).toUInt32).toInt32) &&& (3 : Int32))), .val (.int (0 : Int32))] [(.ref b5), (.ref b5)]))) (fun t k => XS.aload X24.here hx rfl (hb hby at_238) rfl rfl k) ?_
              obtain ⟨cq25, kq25, qa25, qb25, qc25⟩ := isOf hZ e24 (((Fq7_0.ext E8).keep Kq9).keep Kq10)
              obtain ⟨_, _, ⟨T25, L25, k25, n25⟩, -, X25, ⟨Lc25, hQ25, l25, y25, z25⟩, st25⟩ := X24.virtualBack hx (y := (⟨"com/example/spanwise/spanwise/ReadingLogPlan$Purchase", "equals", "(Ljava/lang/Object;)Z"⟩ : MethodName)) (z := (⟨"com/example/spanwise/spanwise/ReadingLogPlan$Purchase", "equals", "(Ljava/lang/Object;)Z"⟩ : MethodName)) hown (mvT hZ (hw _ (List.mem_of_getElem? (i := 39) rfl))) (mvT hZ (hw _ (List.mem_of_getElem? (i := 40) rfl))) (notFace_of_selects (args := #[]) (mvT hZ (hw _ (List.mem_of_getElem? (i := 42) rfl)))) (mvT hZ (hw _ (List.mem_of_getElem? (i := 42) rfl))) (mvT hZ (hw _ (List.mem_of_getElem? (i := 41) rfl))) (by decide) (backOf (W := 0) (rmEqObj l Z a0 hw [] b5 b5 b_6 b_6 q2 q3 q4 q2 q3 q4 T10.heap n0 Z10 (((Fq7_0.ext E8).keep Kq9).keep Kq10) (((Fq7_1.ext E8).keep Kq9 nin0).keep Kq10 (ninS ne_b5_b8 nin0)) (((Fq7_2.ext E8).keep Kq9 nin0).keep Kq10 (ninS ne_b5_b8 nin0)) (((Fq7_3.ext E8).keep Kq9 nin0).keep Kq10 (ninS ne_b5_b8 nin0)) (((Fq7_4.ext E8).keep Kq9 nin0).keep Kq10 (ninS ne_b5_b8 nin0)) (((Fq7_1.ext E8).keep Kq9 nin0).keep Kq10 (ninS ne_b5_b8 nin0)) (((Fq7_2.ext E8).keep Kq9 nin0).keep Kq10 (ninS ne_b5_b8 nin0)) (((Fq7_3.ext E8).keep Kq9 nin0).keep Kq10 (ninS ne_b5_b8 nin0)) (((Fq7_4.ext E8).keep Kq9 nin0).keep Kq10 (ninS ne_b5_b8 nin0))) hZ (hw _ (List.mem_of_getElem? (i := 43) rfl)) (hw _ (List.mem_of_getElem? (i := 3) rfl)) (by decide) (by decide)) qa25 qc25 (g := (mkF m 240 #[.val (.int p1), .val (.long q2), .second, .val (.long q3), .second, .val (.long q4), .second, .val (.long q5), .second, .val (.int p6), .val (.int ka), .val (.int kb), .val (.long fb), .second, .val (.long lb), .second, .val (.long pb), .second, .val (.ref b5), .val (.ref b8), .val (.int (((p6.toUInt32 >>> ((4 : Int32) &&& 31).toUInt32).toInt32) &&& (3 : Int32))), .val (.int (0 : Int32))] [(.ref b5), (.ref b5)])) rfl (by rw [hml]; rfl) (Steps.refl _) (argsL := [(.ref b5)]) (rest := []) (lenOf pd__Ljava_lang_Object__Z rfl) rfl (by show 2 * 0 + _ ≤ _; exact Nat.le_of_eq rfl) (hb hby at_240) (fun _ _ => ⟨rfl, e24, (by decide : 6 + 0 ≤ _), (by decide : 48 + 0 ≤ _)⟩)
              dsimp only [Pt.U, Pt.locs, Pt.cells, Pt.slots] at X25 l25 y25 z25 st25 hQ25
              subst l25 y25 z25
              obtain ⟨rfl, Nq25, e25⟩ := hQ25
              have Nf25 := Fr.app Nf24 Nq25
              refine own_fw (A' := (T25.setTop (mkF m 243 #[.val (.int p1), .val (.long q2), .second, .val (.long q3), .second, .val (.long q4), .second, .val (.long q5), .second, .val (.int p6), .val (.int ka), .val (.int kb), .val (.long fb), .second, .val (.long lb), .second, .val (.long pb), .second, .val (.ref b5), .val (.ref b8), .val (.int (((p6.toUInt32 >>> ((4 : Int32) &&& 31).toUInt32).toInt32) &&& (3 : Int32))), .val (.int (0 : Int32))] [(.int (own_peq b_6 b_6 q2 q3 q4 q2 q3 q4))]))) (fun t k => st25.trans k) ?_
              refine own_fw (A' := (T25.setTop (mkF m 246 #[.val (.int p1), .val (.long q2), .second, .val (.long q3), .second, .val (.long q4), .second, .val (.long q5), .second, .val (.int p6), .val (.int ka), .val (.int kb), .val (.long fb), .second, .val (.long lb), .second, .val (.long pb), .second, .val (.ref b5), .val (.ref b8), .val (.int (((p6.toUInt32 >>> ((4 : Int32) &&& 31).toUInt32).toInt32) &&& (3 : Int32))), .val (.int (0 : Int32))] []))) (fun t k => XS.ifNo X25.here hx rfl (hb hby at_243) rfl (XT.i0_eq_f (own_self _ _ _ _)) k) ?_
              refine own_fw (A' := (T25.setTop (mkF m 247 #[.val (.int p1), .val (.long q2), .second, .val (.long q3), .second, .val (.long q4), .second, .val (.long q5), .second, .val (.int p6), .val (.int ka), .val (.int kb), .val (.long fb), .second, .val (.long lb), .second, .val (.long pb), .second, .val (.ref b5), .val (.ref b8), .val (.int (((p6.toUInt32 >>> ((4 : Int32) &&& 31).toUInt32).toInt32) &&& (3 : Int32))), .val (.int (0 : Int32))] [(.int (1 : Int32))]))) (fun t k => XS.iconst X25.here hx rfl (hb hby at_246) k) ?_
              refine own_fw (A' := (T25.setTop (mkF m 251 #[.val (.int p1), .val (.long q2), .second, .val (.long q3), .second, .val (.long q4), .second, .val (.long q5), .second, .val (.int p6), .val (.int ka), .val (.int kb), .val (.long fb), .second, .val (.long lb), .second, .val (.long pb), .second, .val (.ref b5), .val (.ref b8), .val (.int (((p6.toUInt32 >>> ((4 : Int32) &&& 31).toUInt32).toInt32) &&& (3 : Int32))), .val (.int (0 : Int32))] [(.int (1 : Int32))]))) (fun t k => XS.goto X25.here hx rfl (pc0 := 247) (pc' := 251) rfl (hb hby at_247) (by decide) (by decide) k) ?_
              obtain ⟨fs, hr, hrun, hended, hWE⟩ := X25.leaveW hS (by rw [e25]; exact hk : _ ≤ T25.heap.size) (v := some (.int (1 : Int32))) (fun h => by rw [Bd.returns] at h; cases h)
              refine ⟨_, _, ?_, hrun, hended, _, _, rfl, ?_, own_widen hWE (by decide) (by decide)⟩
              · exact retOut X25 hx Bd.returns rfl (Or.inl ⟨rfl, by simp, _, rfl⟩) (hb hby at_251) hr
              · show Q_rm0 Z p1 q2 q3 q4 q5 p6 ca r0 r1 r2 h0 n0 _ T25.heap _
                rw [e25]
                exact ⟨rfl, Nf25⟩
          · refine own_fw (A' := (T10.setTop (mkF m 209 #[.val (.int p1), .val (.long q2), .second, .val (.long q3), .second, .val (.long q4), .second, .val (.long q5), .second, .val (.int p6), .val (.int ka), .val (.int kb), .val (.long fb), .second, .val (.long lb), .second, .val (.long pb), .second, .val (.ref b5), .val (.ref b8), .val (.int (((p6.toUInt32 >>> ((4 : Int32) &&& 31).toUInt32).toInt32) &&& (3 : Int32))), .unset] []))) (fun t k => XS.ifYes X10.here hx rfl (pc0 := 194) (pc' := 209) rfl (hb hby at_194) rfl (XT.ll_ne_t hc18) (by decide) (by decide) k) ?_
            refine own_fw (A' := (T10.setTop (mkF m 210 #[.val (.int p1), .val (.long q2), .second, .val (.long q3), .second, .val (.long q4), .second, .val (.long q5), .second, .val (.int p6), .val (.int ka), .val (.int kb), .val (.long fb), .second, .val (.long lb), .second, .val (.long pb), .second, .val (.ref b5), .val (.ref b8), .val (.int (((p6.toUInt32 >>> ((4 : Int32) &&& 31).toUInt32).toInt32) &&& (3 : Int32))), .unset] [(.int (0 : Int32))]))) (fun t k => XS.iconst X10.here hx rfl (hb hby at_209) k) ?_
            refine own_fw (A' := (T10.setTop (mkF m 212 #[.val (.int p1), .val (.long q2), .second, .val (.long q3), .second, .val (.long q4), .second, .val (.long q5), .second, .val (.int p6), .val (.int ka), .val (.int kb), .val (.long fb), .second, .val (.long lb), .second, .val (.long pb), .second, .val (.ref b5), .val (.ref b8), .val (.int (((p6.toUInt32 >>> ((4 : Int32) &&& 31).toUInt32).toInt32) &&& (3 : Int32))), .val (.int (0 : Int32))] []))) (fun t k => XS.istore X10.here hx rfl (hb hby at_210) rfl (l' := #[.val (.int p1), .val (.long q2), .second, .val (.long q3), .second, .val (.long q4), .second, .val (.long q5), .second, .val (.int p6), .val (.int ka), .val (.int kb), .val (.long fb), .second, .val (.long lb), .second, .val (.long pb), .second, .val (.ref b5), .val (.ref b8), .val (.int (((p6.toUInt32 >>> ((4 : Int32) &&& 31).toUInt32).toInt32) &&& (3 : Int32))), .val (.int (0 : Int32))]) rfl k) ?_
            refine own_fw (A' := (T10.setTop (mkF m 214 #[.val (.int p1), .val (.long q2), .second, .val (.long q3), .second, .val (.long q4), .second, .val (.long q5), .second, .val (.int p6), .val (.int ka), .val (.int kb), .val (.long fb), .second, .val (.long lb), .second, .val (.long pb), .second, .val (.ref b5), .val (.ref b8), .val (.int (((p6.toUInt32 >>> ((4 : Int32) &&& 31).toUInt32).toInt32) &&& (3 : Int32))), .val (.int (0 : Int32))] [(.ref b5)]))) (fun t k => XS.aload X10.here hx rfl (hb hby at_212) rfl rfl k) ?_
            refine own_fw (A' := (T10.setTop (mkF m 216 #[.val (.int p1), .val (.long q2), .second, .val (.long q3), .second, .val (.long q4), .second, .val (.long q5), .second, .val (.int p6), .val (.int ka), .val (.int kb), .val (.long fb), .second, .val (.long lb), .second, .val (.long pb), .second, .val (.ref b5), .val (.ref b8), .val (.int (((p6.toUInt32 >>> ((4 : Int32) &&& 31).toUInt32).toInt32) &&& (3 : Int32))), .val (.int (0 : Int32))] [(.ref b8), (.ref b5)]))) (fun t k => XS.aload X10.here hx rfl (hb hby at_214) rfl rfl k) ?_
            obtain ⟨cq26, kq26, qa26, qb26, qc26⟩ := isOf hZ rfl (((Fq7_0.ext E8).keep Kq9).keep Kq10)
            obtain ⟨_, _, ⟨T26, L26, k26, n26⟩, -, X26, ⟨Lc26, hQ26, l26, y26, z26⟩, st26⟩ := X10.virtualBack hx (y := (⟨"com/example/spanwise/spanwise/ReadingLogPlan$Purchase", "equals", "(Ljava/lang/Object;)Z"⟩ : MethodName)) (z := (⟨"com/example/spanwise/spanwise/ReadingLogPlan$Purchase", "equals", "(Ljava/lang/Object;)Z"⟩ : MethodName)) hown (mvT hZ (hw _ (List.mem_of_getElem? (i := 39) rfl))) (mvT hZ (hw _ (List.mem_of_getElem? (i := 40) rfl))) (notFace_of_selects (args := #[]) (mvT hZ (hw _ (List.mem_of_getElem? (i := 42) rfl)))) (mvT hZ (hw _ (List.mem_of_getElem? (i := 42) rfl))) (mvT hZ (hw _ (List.mem_of_getElem? (i := 41) rfl))) (by decide) (backOf (W := 0) (rmEqObj l Z a0 hw [] b5 b8 b_6 b_9 q2 q3 q4 fb lb pb T10.heap n0 Z10 Fq10_0 (((Fq7_1.ext E8).keep Kq9 nin0).keep Kq10 (ninS ne_b5_b8 nin0)) (((Fq7_2.ext E8).keep Kq9 nin0).keep Kq10 (ninS ne_b5_b8 nin0)) (((Fq7_3.ext E8).keep Kq9 nin0).keep Kq10 (ninS ne_b5_b8 nin0)) (((Fq7_4.ext E8).keep Kq9 nin0).keep Kq10 (ninS ne_b5_b8 nin0)) Fq10_1 Fq10_2 Fq10_3 Fq10_4) hZ (hw _ (List.mem_of_getElem? (i := 43) rfl)) (hw _ (List.mem_of_getElem? (i := 3) rfl)) (by decide) (by decide)) qa26 qc26 (g := (mkF m 216 #[.val (.int p1), .val (.long q2), .second, .val (.long q3), .second, .val (.long q4), .second, .val (.long q5), .second, .val (.int p6), .val (.int ka), .val (.int kb), .val (.long fb), .second, .val (.long lb), .second, .val (.long pb), .second, .val (.ref b5), .val (.ref b8), .val (.int (((p6.toUInt32 >>> ((4 : Int32) &&& 31).toUInt32).toInt32) &&& (3 : Int32))), .val (.int (0 : Int32))] [(.ref b8), (.ref b5)])) rfl (by rw [hml]; rfl) (Steps.refl _) (argsL := [(.ref b8)]) (rest := []) (lenOf pd__Ljava_lang_Object__Z rfl) rfl (by show 2 * 0 + _ ≤ _; exact Nat.le_of_eq rfl) (hb hby at_216) (fun _ _ => ⟨rfl, rfl, (by decide : 6 + 0 ≤ _), (by decide : 48 + 0 ≤ _)⟩)
            dsimp only [Pt.U, Pt.locs, Pt.cells, Pt.slots] at X26 l26 y26 z26 st26 hQ26
            subst l26 y26 z26
            obtain ⟨rfl, Nq26, e26⟩ := hQ26
            have Nf26 := Fr.app Nf10 Nq26
            refine own_fw (A' := (T26.setTop (mkF m 219 #[.val (.int p1), .val (.long q2), .second, .val (.long q3), .second, .val (.long q4), .second, .val (.long q5), .second, .val (.int p6), .val (.int ka), .val (.int kb), .val (.long fb), .second, .val (.long lb), .second, .val (.long pb), .second, .val (.ref b5), .val (.ref b8), .val (.int (((p6.toUInt32 >>> ((4 : Int32) &&& 31).toUInt32).toInt32) &&& (3 : Int32))), .val (.int (0 : Int32))] [(.int (own_peq b_6 b_9 q2 q3 q4 fb lb pb))]))) (fun t k => st26.trans k) ?_
            refine own_fw (A' := (T26.setTop (mkF m 221 #[.val (.int p1), .val (.long q2), .second, .val (.long q3), .second, .val (.long q4), .second, .val (.long q5), .second, .val (.int p6), .val (.int ka), .val (.int kb), .val (.long fb), .second, .val (.long lb), .second, .val (.long pb), .second, .val (.ref b5), .val (.ref b8), .val (.int (((p6.toUInt32 >>> ((4 : Int32) &&& 31).toUInt32).toInt32) &&& (3 : Int32))), .val (.int (0 : Int32))] [(.int (0 : Int32)), (.int (own_peq b_6 b_9 q2 q3 q4 fb lb pb))]))) (fun t k => XS.iload X26.here hx rfl (hb hby at_219) rfl k) ?_
            refine own_fw (A' := (T26.setTop (mkF m 224 #[.val (.int p1), .val (.long q2), .second, .val (.long q3), .second, .val (.long q4), .second, .val (.long q5), .second, .val (.int p6), .val (.int ka), .val (.int kb), .val (.long fb), .second, .val (.long lb), .second, .val (.long pb), .second, .val (.ref b5), .val (.ref b8), .val (.int (((p6.toUInt32 >>> ((4 : Int32) &&& 31).toUInt32).toInt32) &&& (3 : Int32))), .val (.int (0 : Int32))] []))) (fun t k => XS.icmpNo X26.here hx rfl (hb hby at_221) rfl (XT.ii_ne_f (by simp only [own_peq, if_pos ((own_k hb_6 hb_9 n01 n02 n12 hka hkb).mpr hc16), if_pos hc17, if_neg hc18])) k) ?_
            refine own_fw (A' := (T26.setTop (mkF m 226 #[.val (.int p1), .val (.long q2), .second, .val (.long q3), .second, .val (.long q4), .second, .val (.long q5), .second, .val (.int p6), .val (.int ka), .val (.int kb), .val (.long fb), .second, .val (.long lb), .second, .val (.long pb), .second, .val (.ref b5), .val (.ref b8), .val (.int (((p6.toUInt32 >>> ((4 : Int32) &&& 31).toUInt32).toInt32) &&& (3 : Int32))), .val (.int (0 : Int32))] [(.ref b8)]))) (fun t k => XS.aload X26.here hx rfl (hb hby at_224) rfl rfl k) ?_
            refine own_fw (A' := (T26.setTop (mkF m 228 #[.val (.int p1), .val (.long q2), .second, .val (.long q3), .second, .val (.long q4), .second, .val (.long q5), .second, .val (.int p6), .val (.int ka), .val (.int kb), .val (.long fb), .second, .val (.long lb), .second, .val (.long pb), .second, .val (.ref b5), .val (.ref b8), .val (.int (((p6.toUInt32 >>> ((4 : Int32) &&& 31).toUInt32).toInt32) &&& (3 : Int32))), .val (.int (0 : Int32))] [(.ref b5), (.ref b8)]))) (fun t k => XS.aload X26.here hx rfl (hb hby at_226) rfl rfl k) ?_
            obtain ⟨cq27, kq27, qa27, qb27, qc27⟩ := isOf hZ e26 Fq10_0
            obtain ⟨_, _, ⟨T27, L27, k27, n27⟩, -, X27, ⟨Lc27, hQ27, l27, y27, z27⟩, st27⟩ := X26.virtualBack hx (y := (⟨"com/example/spanwise/spanwise/ReadingLogPlan$Purchase", "equals", "(Ljava/lang/Object;)Z"⟩ : MethodName)) (z := (⟨"com/example/spanwise/spanwise/ReadingLogPlan$Purchase", "equals", "(Ljava/lang/Object;)Z"⟩ : MethodName)) hown (mvT hZ (hw _ (List.mem_of_getElem? (i := 39) rfl))) (mvT hZ (hw _ (List.mem_of_getElem? (i := 40) rfl))) (notFace_of_selects (args := #[]) (mvT hZ (hw _ (List.mem_of_getElem? (i := 42) rfl)))) (mvT hZ (hw _ (List.mem_of_getElem? (i := 42) rfl))) (mvT hZ (hw _ (List.mem_of_getElem? (i := 41) rfl))) (by decide) (backOf (W := 0) (rmEqObj l Z a0 hw [] b8 b5 b_9 b_6 fb lb pb q2 q3 q4 T10.heap n0 Z10 (((Fq7_0.ext E8).keep Kq9).keep Kq10) Fq10_1 Fq10_2 Fq10_3 Fq10_4 (((Fq7_1.ext E8).keep Kq9 nin0).keep Kq10 (ninS ne_b5_b8 nin0)) (((Fq7_2.ext E8).keep Kq9 nin0).keep Kq10 (ninS ne_b5_b8 nin0)) (((Fq7_3.ext E8).keep Kq9 nin0).keep Kq10 (ninS ne_b5_b8 nin0)) (((Fq7_4.ext E8).keep Kq9 nin0).keep Kq10 (ninS ne_b5_b8 nin0))) hZ (hw _ (List.mem_of_getElem? (i := 43) rfl)) (hw _ (List.mem_of_getElem? (i := 3) rfl)) (by decide) (by decide)) qa27 qc27 (g := (mkF m 228 #[.val (.int p1), .val (.long q2), .second, .val (.long q3), .second, .val (.long q4), .second, .val (.long q5), .second, .val (.int p6), .val (.int ka), .val (.int kb), .val (.long fb), .second, .val (.long lb), .second, .val (.long pb), .second, .val (.ref b5), .val (.ref b8), .val (.int (((p6.toUInt32 >>> ((4 : Int32) &&& 31).toUInt32).toInt32) &&& (3 : Int32))), .val (.int (0 : Int32))] [(.ref b5), (.ref b8)])) rfl (by rw [hml]; rfl) (Steps.refl _) (argsL := [(.ref b5)]) (rest := []) (lenOf pd__Ljava_lang_Object__Z rfl) rfl (by show 2 * 0 + _ ≤ _; exact Nat.le_of_eq rfl) (hb hby at_228) (fun _ _ => ⟨rfl, e26, (by decide : 6 + 0 ≤ _), (by decide : 48 + 0 ≤ _)⟩)
            dsimp only [Pt.U, Pt.locs, Pt.cells, Pt.slots] at X27 l27 y27 z27 st27 hQ27
            subst l27 y27 z27
            obtain ⟨rfl, Nq27, e27⟩ := hQ27
            have Nf27 := Fr.app Nf26 Nq27
            refine own_fw (A' := (T27.setTop (mkF m 231 #[.val (.int p1), .val (.long q2), .second, .val (.long q3), .second, .val (.long q4), .second, .val (.long q5), .second, .val (.int p6), .val (.int ka), .val (.int kb), .val (.long fb), .second, .val (.long lb), .second, .val (.long pb), .second, .val (.ref b5), .val (.ref b8), .val (.int (((p6.toUInt32 >>> ((4 : Int32) &&& 31).toUInt32).toInt32) &&& (3 : Int32))), .val (.int (0 : Int32))] [(.int (own_peq b_9 b_6 fb lb pb q2 q3 q4))]))) (fun t k => st27.trans k) ?_
            refine own_fw (A' := (T27.setTop (mkF m 233 #[.val (.int p1), .val (.long q2), .second, .val (.long q3), .second, .val (.long q4), .second, .val (.long q5), .second, .val (.int p6), .val (.int ka), .val (.int kb), .val (.long fb), .second, .val (.long lb), .second, .val (.long pb), .second, .val (.ref b5), .val (.ref b8), .val (.int (((p6.toUInt32 >>> ((4 : Int32) &&& 31).toUInt32).toInt32) &&& (3 : Int32))), .val (.int (0 : Int32))] [(.int (0 : Int32)), (.int (own_peq b_9 b_6 fb lb pb q2 q3 q4))]))) (fun t k => XS.iload X27.here hx rfl (hb hby at_231) rfl k) ?_
            refine own_fw (A' := (T27.setTop (mkF m 236 #[.val (.int p1), .val (.long q2), .second, .val (.long q3), .second, .val (.long q4), .second, .val (.long q5), .second, .val (.int p6), .val (.int ka), .val (.int kb), .val (.long fb), .second, .val (.long lb), .second, .val (.long pb), .second, .val (.ref b5), .val (.ref b8), .val (.int (((p6.toUInt32 >>> ((4 : Int32) &&& 31).toUInt32).toInt32) &&& (3 : Int32))), .val (.int (0 : Int32))] []))) (fun t k => XS.icmpNo X27.here hx rfl (hb hby at_233) rfl (XT.ii_ne_f (by simp only [own_peq, if_pos (Eq.symm ((own_k hb_6 hb_9 n01 n02 n12 hka hkb).mpr hc16)), if_pos (Eq.symm hc17), if_neg (fun q => hc18 (Eq.symm q))])) k) ?_
            refine own_fw (A' := (T27.setTop (mkF m 238 #[.val (.int p1), .val (.long q2), .second, .val (.long q3), .second, .val (.long q4), .second, .val (.long q5), .second, .val (.int p6), .val (.int ka), .val (.int kb), .val (.long fb), .second, .val (.long lb), .second, .val (.long pb), .second, .val (.ref b5), .val (.ref b8), .val (.int (((p6.toUInt32 >>> ((4 : Int32) &&& 31).toUInt32).toInt32) &&& (3 : Int32))), .val (.int (0 : Int32))] [(.ref b5)]))) (fun t k => XS.aload X27.here hx rfl (hb hby at_236) rfl rfl k) ?_
            refine own_fw (A' := (T27.setTop (mkF m 240 #[.val (.int p1), .val (.long q2), .second, .val (.long q3), .second, .val (.long q4), .second, .val (.long q5), .second, .val (.int p6), .val (.int ka), .val (.int kb), .val (.long fb), .second, .val (.long lb), .second, .val (.long pb), .second, .val (.ref b5), .val (.ref b8), .val (.int (((p6.toUInt32 >>> ((4 : Int32) &&& 31).toUInt32).toInt32) &&& (3 : Int32))), .val (.int (0 : Int32))] [(.ref b5), (.ref b5)]))) (fun t k => XS.aload X27.here hx rfl (hb hby at_238) rfl rfl k) ?_
            obtain ⟨cq28, kq28, qa28, qb28, qc28⟩ := isOf hZ e27 (((Fq7_0.ext E8).keep Kq9).keep Kq10)
            obtain ⟨_, _, ⟨T28, L28, k28, n28⟩, -, X28, ⟨Lc28, hQ28, l28, y28, z28⟩, st28⟩ := X27.virtualBack hx (y := (⟨"com/example/spanwise/spanwise/ReadingLogPlan$Purchase", "equals", "(Ljava/lang/Object;)Z"⟩ : MethodName)) (z := (⟨"com/example/spanwise/spanwise/ReadingLogPlan$Purchase", "equals", "(Ljava/lang/Object;)Z"⟩ : MethodName)) hown (mvT hZ (hw _ (List.mem_of_getElem? (i := 39) rfl))) (mvT hZ (hw _ (List.mem_of_getElem? (i := 40) rfl))) (notFace_of_selects (args := #[]) (mvT hZ (hw _ (List.mem_of_getElem? (i := 42) rfl)))) (mvT hZ (hw _ (List.mem_of_getElem? (i := 42) rfl))) (mvT hZ (hw _ (List.mem_of_getElem? (i := 41) rfl))) (by decide) (backOf (W := 0) (rmEqObj l Z a0 hw [] b5 b5 b_6 b_6 q2 q3 q4 q2 q3 q4 T10.heap n0 Z10 (((Fq7_0.ext E8).keep Kq9).keep Kq10) (((Fq7_1.ext E8).keep Kq9 nin0).keep Kq10 (ninS ne_b5_b8 nin0)) (((Fq7_2.ext E8).keep Kq9 nin0).keep Kq10 (ninS ne_b5_b8 nin0)) (((Fq7_3.ext E8).keep Kq9 nin0).keep Kq10 (ninS ne_b5_b8 nin0)) (((Fq7_4.ext E8).keep Kq9 nin0).keep Kq10 (ninS ne_b5_b8 nin0)) (((Fq7_1.ext E8).keep Kq9 nin0).keep Kq10 (ninS ne_b5_b8 nin0)) (((Fq7_2.ext E8).keep Kq9 nin0).keep Kq10 (ninS ne_b5_b8 nin0)) (((Fq7_3.ext E8).keep Kq9 nin0).keep Kq10 (ninS ne_b5_b8 nin0)) (((Fq7_4.ext E8).keep Kq9 nin0).keep Kq10 (ninS ne_b5_b8 nin0))) hZ (hw _ (List.mem_of_getElem? (i := 43) rfl)) (hw _ (List.mem_of_getElem? (i := 3) rfl)) (by decide) (by decide)) qa28 qc28 (g := (mkF m 240 #[.val (.int p1), .val (.long q2), .second, .val (.long q3), .second, .val (.long q4), .second, .val (.long q5), .second, .val (.int p6), .val (.int ka), .val (.int kb), .val (.long fb), .second, .val (.long lb), .second, .val (.long pb), .second, .val (.ref b5), .val (.ref b8), .val (.int (((p6.toUInt32 >>> ((4 : Int32) &&& 31).toUInt32).toInt32) &&& (3 : Int32))), .val (.int (0 : Int32))] [(.ref b5), (.ref b5)])) rfl (by rw [hml]; rfl) (Steps.refl _) (argsL := [(.ref b5)]) (rest := []) (lenOf pd__Ljava_lang_Object__Z rfl) rfl (by show 2 * 0 + _ ≤ _; exact Nat.le_of_eq rfl) (hb hby at_240) (fun _ _ => ⟨rfl, e27, (by decide : 6 + 0 ≤ _), (by decide : 48 + 0 ≤ _)⟩)
            dsimp only [Pt.U, Pt.locs, Pt.cells, Pt.slots] at X28 l28 y28 z28 st28 hQ28
            subst l28 y28 z28
            obtain ⟨rfl, Nq28, e28⟩ := hQ28
            have Nf28 := Fr.app Nf27 Nq28
            refine own_fw (A' := (T28.setTop (mkF m 243 #[.val (.int p1), .val (.long q2), .second, .val (.long q3), .second, .val (.long q4), .second, .val (.long q5), .second, .val (.int p6), .val (.int ka), .val (.int kb), .val (.long fb), .second, .val (.long lb), .second, .val (.long pb), .second, .val (.ref b5), .val (.ref b8), .val (.int (((p6.toUInt32 >>> ((4 : Int32) &&& 31).toUInt32).toInt32) &&& (3 : Int32))), .val (.int (0 : Int32))] [(.int (own_peq b_6 b_6 q2 q3 q4 q2 q3 q4))]))) (fun t k => st28.trans k) ?_
            refine own_fw (A' := (T28.setTop (mkF m 246 #[.val (.int p1), .val (.long q2), .second, .val (.long q3), .second, .val (.long q4), .second, .val (.long q5), .second, .val (.int p6), .val (.int ka), .val (.int kb), .val (.long fb), .second, .val (.long lb), .second, .val (.long pb), .second, .val (.ref b5), .val (.ref b8), .val (.int (((p6.toUInt32 >>> ((4 : Int32) &&& 31).toUInt32).toInt32) &&& (3 : Int32))), .val (.int (0 : Int32))] []))) (fun t k => XS.ifNo X28.here hx rfl (hb hby at_243) rfl (XT.i0_eq_f (own_self _ _ _ _)) k) ?_
            refine own_fw (A' := (T28.setTop (mkF m 247 #[.val (.int p1), .val (.long q2), .second, .val (.long q3), .second, .val (.long q4), .second, .val (.long q5), .second, .val (.int p6), .val (.int ka), .val (.int kb), .val (.long fb), .second, .val (.long lb), .second, .val (.long pb), .second, .val (.ref b5), .val (.ref b8), .val (.int (((p6.toUInt32 >>> ((4 : Int32) &&& 31).toUInt32).toInt32) &&& (3 : Int32))), .val (.int (0 : Int32))] [(.int (1 : Int32))]))) (fun t k => XS.iconst X28.here hx rfl (hb hby at_246) k) ?_
            refine own_fw (A' := (T28.setTop (mkF m 251 #[.val (.int p1), .val (.long q2), .second, .val (.long q3), .second, .val (.long q4), .second, .val (.long q5), .second, .val (.int p6), .val (.int ka), .val (.int kb), .val (.long fb), .second, .val (.long lb), .second, .val (.long pb), .second, .val (.ref b5), .val (.ref b8), .val (.int (((p6.toUInt32 >>> ((4 : Int32) &&& 31).toUInt32).toInt32) &&& (3 : Int32))), .val (.int (0 : Int32))] [(.int (1 : Int32))]))) (fun t k => XS.goto X28.here hx rfl (pc0 := 247) (pc' := 251) rfl (hb hby at_247) (by decide) (by decide) k) ?_
            obtain ⟨fs, hr, hrun, hended, hWE⟩ := X28.leaveW hS (by rw [e28]; exact hk : _ ≤ T28.heap.size) (v := some (.int (1 : Int32))) (fun h => by rw [Bd.returns] at h; cases h)
            refine ⟨_, _, ?_, hrun, hended, _, _, rfl, ?_, own_widen hWE (by decide) (by decide)⟩
            · exact retOut X28 hx Bd.returns rfl (Or.inl ⟨rfl, by simp, _, rfl⟩) (hb hby at_251) hr
            · show Q_rm0 Z p1 q2 q3 q4 q5 p6 ca r0 r1 r2 h0 n0 _ T28.heap _
              rw [e28]
              exact ⟨rfl, Nf28⟩
        · refine own_fw (A' := (T10.setTop (mkF m 209 #[.val (.int p1), .val (.long q2), .second, .val (.long q3), .second, .val (.long q4), .second, .val (.long q5), .second, .val (.int p6), .val (.int ka), .val (.int kb), .val (.long fb), .second, .val (.long lb), .second, .val (.long pb), .second, .val (.ref b5), .val (.ref b8), .val (.int (((p6.toUInt32 >>> ((4 : Int32) &&& 31).toUInt32).toInt32) &&& (3 : Int32))), .unset] []))) (fun t k => XS.ifYes X10.here hx rfl (pc0 := 187) (pc' := 209) rfl (hb hby at_187) rfl (XT.ll_ne_t hc17) (by decide) (by decide) k) ?_
          refine own_fw (A' := (T10.setTop (mkF m 210 #[.val (.int p1), .val (.long q2), .second, .val (.long q3), .second, .val (.long q4), .second, .val (.long q5), .second, .val (.int p6), .val (.int ka), .val (.int kb), .val (.long fb), .second, .val (.long lb), .second, .val (.long pb), .second, .val (.ref b5), .val (.ref b8), .val (.int (((p6.toUInt32 >>> ((4 : Int32) &&& 31).toUInt32).toInt32) &&& (3 : Int32))), .unset] [(.int (0 : Int32))]))) (fun t k => XS.iconst X10.here hx rfl (hb hby at_209) k) ?_
          refine own_fw (A' := (T10.setTop (mkF m 212 #[.val (.int p1), .val (.long q2), .second, .val (.long q3), .second, .val (.long q4), .second, .val (.long q5), .second, .val (.int p6), .val (.int ka), .val (.int kb), .val (.long fb), .second, .val (.long lb), .second, .val (.long pb), .second, .val (.ref b5), .val (.ref b8), .val (.int (((p6.toUInt32 >>> ((4 : Int32) &&& 31).toUInt32).toInt32) &&& (3 : Int32))), .val (.int (0 : Int32))] []))) (fun t k => XS.istore X10.here hx rfl (hb hby at_210) rfl (l' := #[.val (.int p1), .val (.long q2), .second, .val (.long q3), .second, .val (.long q4), .second, .val (.long q5), .second, .val (.int p6), .val (.int ka), .val (.int kb), .val (.long fb), .second, .val (.long lb), .second, .val (.long pb), .second, .val (.ref b5), .val (.ref b8), .val (.int (((p6.toUInt32 >>> ((4 : Int32) &&& 31).toUInt32).toInt32) &&& (3 : Int32))), .val (.int (0 : Int32))]) rfl k) ?_
          refine own_fw (A' := (T10.setTop (mkF m 214 #[.val (.int p1), .val (.long q2), .second, .val (.long q3), .second, .val (.long q4), .second, .val (.long q5), .second, .val (.int p6), .val (.int ka), .val (.int kb), .val (.long fb), .second, .val (.long lb), .second, .val (.long pb), .second, .val (.ref b5), .val (.ref b8), .val (.int (((p6.toUInt32 >>> ((4 : Int32) &&& 31).toUInt32).toInt32) &&& (3 : Int32))), .val (.int (0 : Int32))] [(.ref b5)]))) (fun t k => XS.aload X10.here hx rfl (hb hby at_212) rfl rfl k) ?_
          refine own_fw (A' := (T10.setTop (mkF m 216 #[.val (.int p1), .val (.long q2), .second, .val (.long q3), .second, .val (.long q4), .second, .val (.long q5), .second, .val (.int p6), .val (.int ka), .val (.int kb), .val (.long fb), .second, .val (.long lb), .second, .val (.long pb), .second, .val (.ref b5), .val (.ref b8), .val (.int (((p6.toUInt32 >>> ((4 : Int32) &&& 31).toUInt32).toInt32) &&& (3 : Int32))), .val (.int (0 : Int32))] [(.ref b8), (.ref b5)]))) (fun t k => XS.aload X10.here hx rfl (hb hby at_214) rfl rfl k) ?_
          obtain ⟨cq29, kq29, qa29, qb29, qc29⟩ := isOf hZ rfl (((Fq7_0.ext E8).keep Kq9).keep Kq10)
          obtain ⟨_, _, ⟨T29, L29, k29, n29⟩, -, X29, ⟨Lc29, hQ29, l29, y29, z29⟩, st29⟩ := X10.virtualBack hx (y := (⟨"com/example/spanwise/spanwise/ReadingLogPlan$Purchase", "equals", "(Ljava/lang/Object;)Z"⟩ : MethodName)) (z := (⟨"com/example/spanwise/spanwise/ReadingLogPlan$Purchase", "equals", "(Ljava/lang/Object;)Z"⟩ : MethodName)) hown (mvT hZ (hw _ (List.mem_of_getElem? (i := 39) rfl))) (mvT hZ (hw _ (List.mem_of_getElem? (i := 40) rfl))) (notFace_of_selects (args := #[]) (mvT hZ (hw _ (List.mem_of_getElem? (i := 42) rfl)))) (mvT hZ (hw _ (List.mem_of_getElem? (i := 42) rfl))) (mvT hZ (hw _ (List.mem_of_getElem? (i := 41) rfl))) (by decide) (backOf (W := 0) (rmEqObj l Z a0 hw [] b5 b8 b_6 b_9 q2 q3 q4 fb lb pb T10.heap n0 Z10 Fq10_0 (((Fq7_1.ext E8).keep Kq9 nin0).keep Kq10 (ninS ne_b5_b8 nin0)) (((Fq7_2.ext E8).keep Kq9 nin0).keep Kq10 (ninS ne_b5_b8 nin0)) (((Fq7_3.ext E8).keep Kq9 nin0).keep Kq10 (ninS ne_b5_b8 nin0)) (((Fq7_4.ext E8).keep Kq9 nin0).keep Kq10 (ninS ne_b5_b8 nin0)) Fq10_1 Fq10_2 Fq10_3 Fq10_4) hZ (hw _ (List.mem_of_getElem? (i := 43) rfl)) (hw _ (List.mem_of_getElem? (i := 3) rfl)) (by decide) (by decide)) qa29 qc29 (g := (mkF m 216 #[.val (.int p1), .val (.long q2), .second, .val (.long q3), .second, .val (.long q4), .second, .val (.long q5), .second, .val (.int p6), .val (.int ka), .val (.int kb), .val (.long fb), .second, .val (.long lb), .second, .val (.long pb), .second, .val (.ref b5), .val (.ref b8), .val (.int (((p6.toUInt32 >>> ((4 : Int32) &&& 31).toUInt32).toInt32) &&& (3 : Int32))), .val (.int (0 : Int32))] [(.ref b8), (.ref b5)])) rfl (by rw [hml]; rfl) (Steps.refl _) (argsL := [(.ref b8)]) (rest := []) (lenOf pd__Ljava_lang_Object__Z rfl) rfl (by show 2 * 0 + _ ≤ _; exact Nat.le_of_eq rfl) (hb hby at_216) (fun _ _ => ⟨rfl, rfl, (by decide : 6 + 0 ≤ _), (by decide : 48 + 0 ≤ _)⟩)
          dsimp only [Pt.U, Pt.locs, Pt.cells, Pt.slots] at X29 l29 y29 z29 st29 hQ29
          subst l29 y29 z29
          obtain ⟨rfl, Nq29, e29⟩ := hQ29
          have Nf29 := Fr.app Nf10 Nq29
          refine own_fw (A' := (T29.setTop (mkF m 219 #[.val (.int p1), .val (.long q2), .second, .val (.long q3), .second, .val (.long q4), .second, .val (.long q5), .second, .val (.int p6), .val (.int ka), .val (.int kb), .val (.long fb), .second, .val (.long lb), .second, .val (.long pb), .second, .val (.ref b5), .val (.ref b8), .val (.int (((p6.toUInt32 >>> ((4 : Int32) &&& 31).toUInt32).toInt32) &&& (3 : Int32))), .val (.int (0 : Int32))] [(.int (own_peq b_6 b_9 q2 q3 q4 fb lb pb))]))) (fun t k => st29.trans k) ?_
          refine own_fw (A' := (T29.setTop (mkF m 221 #[.val (.int p1), .val (.long q2), .second, .val (.long q3), .second, .val (.long q4), .second, .val (.long q5), .second, .val (.int p6), .val (.int ka), .val (.int kb), .val (.long fb), .second, .val (.long lb), .second, .val (.long pb), .second, .val (.ref b5), .val (.ref b8), .val (.int (((p6.toUInt32 >>> ((4 : Int32) &&& 31).toUInt32).toInt32) &&& (3 : Int32))), .val (.int (0 : Int32))] [(.int (0 : Int32)), (.int (own_peq b_6 b_9 q2 q3 q4 fb lb pb))]))) (fun t k => XS.iload X29.here hx rfl (hb hby at_219) rfl k) ?_
          refine own_fw (A' := (T29.setTop (mkF m 224 #[.val (.int p1), .val (.long q2), .second, .val (.long q3), .second, .val (.long q4), .second, .val (.long q5), .second, .val (.int p6), .val (.int ka), .val (.int kb), .val (.long fb), .second, .val (.long lb), .second, .val (.long pb), .second, .val (.ref b5), .val (.ref b8), .val (.int (((p6.toUInt32 >>> ((4 : Int32) &&& 31).toUInt32).toInt32) &&& (3 : Int32))), .val (.int (0 : Int32))] []))) (fun t k => XS.icmpNo X29.here hx rfl (hb hby at_221) rfl (XT.ii_ne_f (by simp only [own_peq, if_pos ((own_k hb_6 hb_9 n01 n02 n12 hka hkb).mpr hc16), if_neg hc17])) k) ?_
          refine own_fw (A' := (T29.setTop (mkF m 226 #[.val (.int p1), .val (.long q2), .second, .val (.long q3), .second, .val (.long q4), .second, .val (.long q5), .second, .val (.int p6), .val (.int ka), .val (.int kb), .val (.long fb), .second, .val (.long lb), .second, .val (.long pb), .second, .val (.ref b5), .val (.ref b8), .val (.int (((p6.toUInt32 >>> ((4 : Int32) &&& 31).toUInt32).toInt32) &&& (3 : Int32))), .val (.int (0 : Int32))] [(.ref b8)]))) (fun t k => XS.aload X29.here hx rfl (hb hby at_224) rfl rfl k) ?_
          refine own_fw (A' := (T29.setTop (mkF m 228 #[.val (.int p1), .val (.long q2), .second, .val (.long q3), .second, .val (.long q4), .second, .val (.long q5), .second, .val (.int p6), .val (.int ka), .val (.int kb), .val (.long fb), .second, .val (.long lb), .second, .val (.long pb), .second, .val (.ref b5), .val (.ref b8), .val (.int (((p6.toUInt32 >>> ((4 : Int32) &&& 31).toUInt32).toInt32) &&& (3 : Int32))), .val (.int (0 : Int32))] [(.ref b5), (.ref b8)]))) (fun t k => XS.aload X29.here hx rfl (hb hby at_226) rfl rfl k) ?_
          obtain ⟨cq30, kq30, qa30, qb30, qc30⟩ := isOf hZ e29 Fq10_0
          obtain ⟨_, _, ⟨T30, L30, k30, n30⟩, -, X30, ⟨Lc30, hQ30, l30, y30, z30⟩, st30⟩ := X29.virtualBack hx (y := (⟨"com/example/spanwise/spanwise/ReadingLogPlan$Purchase", "equals", "(Ljava/lang/Object;)Z"⟩ : MethodName)) (z := (⟨"com/example/spanwise/spanwise/ReadingLogPlan$Purchase", "equals", "(Ljava/lang/Object;)Z"⟩ : MethodName)) hown (mvT hZ (hw _ (List.mem_of_getElem? (i := 39) rfl))) (mvT hZ (hw _ (List.mem_of_getElem? (i := 40) rfl))) (notFace_of_selects (args := #[]) (mvT hZ (hw _ (List.mem_of_getElem? (i := 42) rfl)))) (mvT hZ (hw _ (List.mem_of_getElem? (i := 42) rfl))) (mvT hZ (hw _ (List.mem_of_getElem? (i := 41) rfl))) (by decide) (backOf (W := 0) (rmEqObj l Z a0 hw [] b8 b5 b_9 b_6 fb lb pb q2 q3 q4 T10.heap n0 Z10 (((Fq7_0.ext E8).keep Kq9).keep Kq10) Fq10_1 Fq10_2 Fq10_3 Fq10_4 (((Fq7_1.ext E8).keep Kq9 nin0).keep Kq10 (ninS ne_b5_b8 nin0)) (((Fq7_2.ext E8).keep Kq9 nin0).keep Kq10 (ninS ne_b5_b8 nin0)) (((Fq7_3.ext E8).keep Kq9 nin0).keep Kq10 (ninS ne_b5_b8 nin0)) (((Fq7_4.ext E8).keep Kq9 nin0).keep Kq10 (ninS ne_b5_b8 nin0))) hZ (hw _ (List.mem_of_getElem? (i := 43) rfl)) (hw _ (List.mem_of_getElem? (i := 3) rfl)) (by decide) (by decide)) qa30 qc30 (g := (mkF m 228 #[.val (.int p1), .val (.long q2), .second, .val (.long q3), .second, .val (.long q4), .second, .val (.long q5), .second, .val (.int p6), .val (.int ka), .val (.int kb), .val (.long fb), .second, .val (.long lb), .second, .val (.long pb), .second, .val (.ref b5), .val (.ref b8), .val (.int (((p6.toUInt32 >>> ((4 : Int32) &&& 31).toUInt32).toInt32) &&& (3 : Int32))), .val (.int (0 : Int32))] [(.ref b5), (.ref b8)])) rfl (by rw [hml]; rfl) (Steps.refl _) (argsL := [(.ref b5)]) (rest := []) (lenOf pd__Ljava_lang_Object__Z rfl) rfl (by show 2 * 0 + _ ≤ _; exact Nat.le_of_eq rfl) (hb hby at_228) (fun _ _ => ⟨rfl, e29, (by decide : 6 + 0 ≤ _), (by decide : 48 + 0 ≤ _)⟩)
          dsimp only [Pt.U, Pt.locs, Pt.cells, Pt.slots] at X30 l30 y30 z30 st30 hQ30
          subst l30 y30 z30
          obtain ⟨rfl, Nq30, e30⟩ := hQ30
          have Nf30 := Fr.app Nf29 Nq30
          refine own_fw (A' := (T30.setTop (mkF m 231 #[.val (.int p1), .val (.long q2), .second, .val (.long q3), .second, .val (.long q4), .second, .val (.long q5), .second, .val (.int p6), .val (.int ka), .val (.int kb), .val (.long fb), .second, .val (.long lb), .second, .val (.long pb), .second, .val (.ref b5), .val (.ref b8), .val (.int (((p6.toUInt32 >>> ((4 : Int32) &&& 31).toUInt32).toInt32) &&& (3 : Int32))), .val (.int (0 : Int32))] [(.int (own_peq b_9 b_6 fb lb pb q2 q3 q4))]))) (fun t k => st30.trans k) ?_
          refine own_fw (A' := (T30.setTop (mkF m 233 #[.val (.int p1), .val (.long q2), .second, .val (.long q3), .second, .val (.long q4), .second, .val (.long q5), .second, .val (.int p6), .val (.int ka), .val (.int kb), .val (.long fb), .second, .val (.long lb), .second, .val (.long pb), .second, .val (.ref b5), .val (.ref b8), .val (.int (((p6.toUInt32 >>> ((4 : Int32) &&& 31).toUInt32).toInt32) &&& (3 : Int32))), .val (.int (0 : Int32))] [(.int (0 : Int32)), (.int (own_peq b_9 b_6 fb lb pb q2 q3 q4))]))) (fun t k => XS.iload X30.here hx rfl (hb hby at_231) rfl k) ?_
          refine own_fw (A' := (T30.setTop (mkF m 236 #[.val (.int p1), .val (.long q2), .second, .val (.long q3), .second, .val (.long q4), .second, .val (.long q5), .second, .val (.int p6), .val (.int ka), .val (.int kb), .val (.long fb), .second, .val (.long lb), .second, .val (.long pb), .second, .val (.ref b5), .val (.ref b8), .val (.int (((p6.toUInt32 >>> ((4 : Int32) &&& 31).toUInt32).toInt32) &&& (3 : Int32))), .val (.int (0 : Int32))] []))) (fun t k => XS.icmpNo X30.here hx rfl (hb hby at_233) rfl (XT.ii_ne_f (by simp only [own_peq, if_pos (Eq.symm ((own_k hb_6 hb_9 n01 n02 n12 hka hkb).mpr hc16)), if_neg (fun q => hc17 (Eq.symm q))])) k) ?_
          refine own_fw (A' := (T30.setTop (mkF m 238 #[.val (.int p1), .val (.long q2), .second, .val (.long q3), .second, .val (.long q4), .second, .val (.long q5), .second, .val (.int p6), .val (.int ka), .val (.int kb), .val (.long fb), .second, .val (.long lb), .second, .val (.long pb), .second, .val (.ref b5), .val (.ref b8), .val (.int (((p6.toUInt32 >>> ((4 : Int32) &&& 31).toUInt32).toInt32) &&& (3 : Int32))), .val (.int (0 : Int32))] [(.ref b5)]))) (fun t k => XS.aload X30.here hx rfl (hb hby at_236) rfl rfl k) ?_
          refine own_fw (A' := (T30.setTop (mkF m 240 #[.val (.int p1), .val (.long q2), .second, .val (.long q3), .second, .val (.long q4), .second, .val (.long q5), .second, .val (.int p6), .val (.int ka), .val (.int kb), .val (.long fb), .second, .val (.long lb), .second, .val (.long pb), .second, .val (.ref b5), .val (.ref b8), .val (.int (((p6.toUInt32 >>> ((4 : Int32) &&& 31).toUInt32).toInt32) &&& (3 : Int32))), .val (.int (0 : Int32))] [(.ref b5), (.ref b5)]))) (fun t k => XS.aload X30.here hx rfl (hb hby at_238) rfl rfl k) ?_
          obtain ⟨cq31, kq31, qa31, qb31, qc31⟩ := isOf hZ e30 (((Fq7_0.ext E8).keep Kq9).keep Kq10)
          obtain ⟨_, _, ⟨T31, L31, k31, n31⟩, -, X31, ⟨Lc31, hQ31, l31, y31, z31⟩, st31⟩ := X30.virtualBack hx (y := (⟨"com/example/spanwise/spanwise/ReadingLogPlan$Purchase", "equals", "(Ljava/lang/Object;)Z"⟩ : MethodName)) (z := (⟨"com/example/spanwise/spanwise/ReadingLogPlan$Purchase", "equals", "(Ljava/lang/Object;)Z"⟩ : MethodName)) hown (mvT hZ (hw _ (List.mem_of_getElem? (i := 39) rfl))) (mvT hZ (hw _ (List.mem_of_getElem? (i := 40) rfl))) (notFace_of_selects (args := #[]) (mvT hZ (hw _ (List.mem_of_getElem? (i := 42) rfl)))) (mvT hZ (hw _ (List.mem_of_getElem? (i := 42) rfl))) (mvT hZ (hw _ (List.mem_of_getElem? (i := 41) rfl))) (by decide) (backOf (W := 0) (rmEqObj l Z a0 hw [] b5 b5 b_6 b_6 q2 q3 q4 q2 q3 q4 T10.heap n0 Z10 (((Fq7_0.ext E8).keep Kq9).keep Kq10) (((Fq7_1.ext E8).keep Kq9 nin0).keep Kq10 (ninS ne_b5_b8 nin0)) (((Fq7_2.ext E8).keep Kq9 nin0).keep Kq10 (ninS ne_b5_b8 nin0)) (((Fq7_3.ext E8).keep Kq9 nin0).keep Kq10 (ninS ne_b5_b8 nin0)) (((Fq7_4.ext E8).keep Kq9 nin0).keep Kq10 (ninS ne_b5_b8 nin0)) (((Fq7_1.ext E8).keep Kq9 nin0).keep Kq10 (ninS ne_b5_b8 nin0)) (((Fq7_2.ext E8).keep Kq9 nin0).keep Kq10 (ninS ne_b5_b8 nin0)) (((Fq7_3.ext E8).keep Kq9 nin0).keep Kq10 (ninS ne_b5_b8 nin0)) (((Fq7_4.ext E8).keep Kq9 nin0).keep Kq10 (ninS ne_b5_b8 nin0))) hZ (hw _ (List.mem_of_getElem? (i := 43) rfl)) (hw _ (List.mem_of_getElem? (i := 3) rfl)) (by decide) (by decide)) qa31 qc31 (g := (mkF m 240 #[.val (.int p1), .val (.long q2), .second, .val (.long q3), .second, .val (.long q4), .second, .val (.long q5), .second, .val (.int p6), .val (.int ka), .val (.int kb), .val (.long fb), .second, .val (.long lb), .second, .val (.long pb), .second, .val (.ref b5), .val (.ref b8), .val (.int (((p6.toUInt32 >>> ((4 : Int32) &&& 31).toUInt32).toInt32) &&& (3 : Int32))), .val (.int (0 : Int32))] [(.ref b5), (.ref b5)])) rfl (by rw [hml]; rfl) (Steps.refl _) (argsL := [(.ref b5)]) (rest := []) (lenOf pd__Ljava_lang_Object__Z rfl) rfl (by show 2 * 0 + _ ≤ _; exact Nat.le_of_eq rfl) (hb hby at_240) (fun _ _ => ⟨rfl, e30, (by decide : 6 + 0 ≤ _), (by decide : 48 + 0 ≤ _)⟩)
          dsimp only [Pt.U, Pt.locs, Pt.cells, Pt.slots] at X31 l31 y31 z31 st31 hQ31
          subst l31 y31 z31
          obtain ⟨rfl, Nq31, e31⟩ := hQ31
          have Nf31 := Fr.app Nf30 Nq31
          refine own_fw (A' := (T31.setTop (mkF m 243 #[.val (.int p1), .val (.long q2), .second, .val (.long q3), .second, .val (.long q4), .second, .val (.long q5), .second, .val (.int p6), .val (.int ka), .val (.int kb), .val (.long fb), .second, .val (.long lb), .second, .val (.long pb), .second, .val (.ref b5), .val (.ref b8), .val (.int (((p6.toUInt32 >>> ((4 : Int32) &&& 31).toUInt32).toInt32) &&& (3 : Int32))), .val (.int (0 : Int32))] [(.int (own_peq b_6 b_6 q2 q3 q4 q2 q3 q4))]))) (fun t k => st31.trans k) ?_
          refine own_fw (A' := (T31.setTop (mkF m 246 #[.val (.int p1), .val (.long q2), .second, .val (.long q3), .second, .val (.long q4), .second, .val (.long q5), .second, .val (.int p6), .val (.int ka), .val (.int kb), .val (.long fb), .second, .val (.long lb), .second, .val (.long pb), .second, .val (.ref b5), .val (.ref b8), .val (.int (((p6.toUInt32 >>> ((4 : Int32) &&& 31).toUInt32).toInt32) &&& (3 : Int32))), .val (.int (0 : Int32))] []))) (fun t k => XS.ifNo X31.here hx rfl (hb hby at_243) rfl (XT.i0_eq_f (own_self _ _ _ _)) k) ?_
          refine own_fw (A' := (T31.setTop (mkF m 247 #[.val (.int p1), .val (.long q2), .second, .val (.long q3), .second, .val (.long q4), .second, .val (.long q5), .second, .val (.int p6), .val (.int ka), .val (.int kb), .val (.long fb), .second, .val (.long lb), .second, .val (.long pb), .second, .val (.ref b5), .val (.ref b8), .val (.int (((p6.toUInt32 >>> ((4 : Int32) &&& 31).toUInt32).toInt32) &&& (3 : Int32))), .val (.int (0 : Int32))] [(.int (1 : Int32))]))) (fun t k => XS.iconst X31.here hx rfl (hb hby at_246) k) ?_
          refine own_fw (A' := (T31.setTop (mkF m 251 #[.val (.int p1), .val (.long q2), .second, .val (.long q3), .second, .val (.long q4), .second, .val (.long q5), .second, .val (.int p6), .val (.int ka), .val (.int kb), .val (.long fb), .second, .val (.long lb), .second, .val (.long pb), .second, .val (.ref b5), .val (.ref b8), .val (.int (((p6.toUInt32 >>> ((4 : Int32) &&& 31).toUInt32).toInt32) &&& (3 : Int32))), .val (.int (0 : Int32))] [(.int (1 : Int32))]))) (fun t k => XS.goto X31.here hx rfl (pc0 := 247) (pc' := 251) rfl (hb hby at_247) (by decide) (by decide) k) ?_
          obtain ⟨fs, hr, hrun, hended, hWE⟩ := X31.leaveW hS (by rw [e31]; exact hk : _ ≤ T31.heap.size) (v := some (.int (1 : Int32))) (fun h => by rw [Bd.returns] at h; cases h)
          refine ⟨_, _, ?_, hrun, hended, _, _, rfl, ?_, own_widen hWE (by decide) (by decide)⟩
          · exact retOut X31 hx Bd.returns rfl (Or.inl ⟨rfl, by simp, _, rfl⟩) (hb hby at_251) hr
          · show Q_rm0 Z p1 q2 q3 q4 q5 p6 ca r0 r1 r2 h0 n0 _ T31.heap _
            rw [e31]
            exact ⟨rfl, Nf31⟩
      · refine own_fw (A' := (T10.setTop (mkF m 209 #[.val (.int p1), .val (.long q2), .second, .val (.long q3), .second, .val (.long q4), .second, .val (.long q5), .second, .val (.int p6), .val (.int ka), .val (.int kb), .val (.long fb), .second, .val (.long lb), .second, .val (.long pb), .second, .val (.ref b5), .val (.ref b8), .val (.int (((p6.toUInt32 >>> ((4 : Int32) &&& 31).toUInt32).toInt32) &&& (3 : Int32))), .unset] []))) (fun t k => XS.icmpYes X10.here hx rfl (pc0 := 180) (pc' := 209) rfl (hb hby at_180) rfl (XT.ii_ne_t hc16) (by decide) (by decide) k) ?_
        refine own_fw (A' := (T10.setTop (mkF m 210 #[.val (.int p1), .val (.long q2), .second, .val (.long q3), .second, .val (.long q4), .second, .val (.long q5), .second, .val (.int p6), .val (.int ka), .val (.int kb), .val (.long fb), .second, .val (.long lb), .second, .val (.long pb), .second, .val (.ref b5), .val (.ref b8), .val (.int (((p6.toUInt32 >>> ((4 : Int32) &&& 31).toUInt32).toInt32) &&& (3 : Int32))), .unset] [(.int (0 : Int32))]))) (fun t k => XS.iconst X10.here hx rfl (hb hby at_209) k) ?_
        refine own_fw (A' := (T10.setTop (mkF m 212 #[.val (.int p1), .val (.long q2), .second, .val (.long q3), .second, .val (.long q4), .second, .val (.long q5), .second, .val (.int p6), .val (.int ka), .val (.int kb), .val (.long fb), .second, .val (.long lb), .second, .val (.long pb), .second, .val (.ref b5), .val (.ref b8), .val (.int (((p6.toUInt32 >>> ((4 : Int32) &&& 31).toUInt32).toInt32) &&& (3 : Int32))), .val (.int (0 : Int32))] []))) (fun t k => XS.istore X10.here hx rfl (hb hby at_210) rfl (l' := #[.val (.int p1), .val (.long q2), .second, .val (.long q3), .second, .val (.long q4), .second, .val (.long q5), .second, .val (.int p6), .val (.int ka), .val (.int kb), .val (.long fb), .second, .val (.long lb), .second, .val (.long pb), .second, .val (.ref b5), .val (.ref b8), .val (.int (((p6.toUInt32 >>> ((4 : Int32) &&& 31).toUInt32).toInt32) &&& (3 : Int32))), .val (.int (0 : Int32))]) rfl k) ?_
        refine own_fw (A' := (T10.setTop (mkF m 214 #[.val (.int p1), .val (.long q2), .second, .val (.long q3), .second, .val (.long q4), .second, .val (.long q5), .second, .val (.int p6), .val (.int ka), .val (.int kb), .val (.long fb), .second, .val (.long lb), .second, .val (.long pb), .second, .val (.ref b5), .val (.ref b8), .val (.int (((p6.toUInt32 >>> ((4 : Int32) &&& 31).toUInt32).toInt32) &&& (3 : Int32))), .val (.int (0 : Int32))] [(.ref b5)]))) (fun t k => XS.aload X10.here hx rfl (hb hby at_212) rfl rfl k) ?_
        refine own_fw (A' := (T10.setTop (mkF m 216 #[.val (.int p1), .val (.long q2), .second, .val (.long q3), .second, .val (.long q4), .second, .val (.long q5), .second, .val (.int p6), .val (.int ka), .val (.int kb), .val (.long fb), .second, .val (.long lb), .second, .val (.long pb), .second, .val (.ref b5), .val (.ref b8), .val (.int (((p6.toUInt32 >>> ((4 : Int32) &&& 31).toUInt32).toInt32) &&& (3 : Int32))), .val (.int (0 : Int32))] [(.ref b8), (.ref b5)]))) (fun t k => XS.aload X10.here hx rfl (hb hby at_214) rfl rfl k) ?_
        obtain ⟨cq32, kq32, qa32, qb32, qc32⟩ := isOf hZ rfl (((Fq7_0.ext E8).keep Kq9).keep Kq10)
        obtain ⟨_, _, ⟨T32, L32, k32, n32⟩, -, X32, ⟨Lc32, hQ32, l32, y32, z32⟩, st32⟩ := X10.virtualBack hx (y := (⟨"com/example/spanwise/spanwise/ReadingLogPlan$Purchase", "equals", "(Ljava/lang/Object;)Z"⟩ : MethodName)) (z := (⟨"com/example/spanwise/spanwise/ReadingLogPlan$Purchase", "equals", "(Ljava/lang/Object;)Z"⟩ : MethodName)) hown (mvT hZ (hw _ (List.mem_of_getElem? (i := 39) rfl))) (mvT hZ (hw _ (List.mem_of_getElem? (i := 40) rfl))) (notFace_of_selects (args := #[]) (mvT hZ (hw _ (List.mem_of_getElem? (i := 42) rfl)))) (mvT hZ (hw _ (List.mem_of_getElem? (i := 42) rfl))) (mvT hZ (hw _ (List.mem_of_getElem? (i := 41) rfl))) (by decide) (backOf (W := 0) (rmEqObj l Z a0 hw [] b5 b8 b_6 b_9 q2 q3 q4 fb lb pb T10.heap n0 Z10 Fq10_0 (((Fq7_1.ext E8).keep Kq9 nin0).keep Kq10 (ninS ne_b5_b8 nin0)) (((Fq7_2.ext E8).keep Kq9 nin0).keep Kq10 (ninS ne_b5_b8 nin0)) (((Fq7_3.ext E8).keep Kq9 nin0).keep Kq10 (ninS ne_b5_b8 nin0)) (((Fq7_4.ext E8).keep Kq9 nin0).keep Kq10 (ninS ne_b5_b8 nin0)) Fq10_1 Fq10_2 Fq10_3 Fq10_4) hZ (hw _ (List.mem_of_getElem? (i := 43) rfl)) (hw _ (List.mem_of_getElem? (i := 3) rfl)) (by decide) (by decide)) qa32 qc32 (g := (mkF m 216 #[.val (.int p1), .val (.long q2), .second, .val (.long q3), .second, .val (.long q4), .second, .val (.long q5), .second, .val (.int p6), .val (.int ka), .val (.int kb), .val (.long fb), .second, .val (.long lb), .second, .val (.long pb), .second, .val (.ref b5), .val (.ref b8), .val (.int (((p6.toUInt32 >>> ((4 : Int32) &&& 31).toUInt32).toInt32) &&& (3 : Int32))), .val (.int (0 : Int32))] [(.ref b8), (.ref b5)])) rfl (by rw [hml]; rfl) (Steps.refl _) (argsL := [(.ref b8)]) (rest := []) (lenOf pd__Ljava_lang_Object__Z rfl) rfl (by show 2 * 0 + _ ≤ _; exact Nat.le_of_eq rfl) (hb hby at_216) (fun _ _ => ⟨rfl, rfl, (by decide : 6 + 0 ≤ _), (by decide : 48 + 0 ≤ _)⟩)
        dsimp only [Pt.U, Pt.locs, Pt.cells, Pt.slots] at X32 l32 y32 z32 st32 hQ32
        subst l32 y32 z32
        obtain ⟨rfl, Nq32, e32⟩ := hQ32
        have Nf32 := Fr.app Nf10 Nq32
        refine own_fw (A' := (T32.setTop (mkF m 219 #[.val (.int p1), .val (.long q2), .second, .val (.long q3), .second, .val (.long q4), .second, .val (.long q5), .second, .val (.int p6), .val (.int ka), .val (.int kb), .val (.long fb), .second, .val (.long lb), .second, .val (.long pb), .second, .val (.ref b5), .val (.ref b8), .val (.int (((p6.toUInt32 >>> ((4 : Int32) &&& 31).toUInt32).toInt32) &&& (3 : Int32))), .val (.int (0 : Int32))] [(.int (own_peq b_6 b_9 q2 q3 q4 fb lb pb))]))) (fun t k => st32.trans k) ?_
        refine own_fw (A' := (T32.setTop (mkF m 221 #[.val (.int p1), .val (.long q2), .second, .val (.long q3), .second, .val (.long q4), .second, .val (.long q5), .second, .val (.int p6), .val (.int ka), .val (.int kb), .val (.long fb), .second, .val (.long lb), .second, .val (.long pb), .second, .val (.ref b5), .val (.ref b8), .val (.int (((p6.toUInt32 >>> ((4 : Int32) &&& 31).toUInt32).toInt32) &&& (3 : Int32))), .val (.int (0 : Int32))] [(.int (0 : Int32)), (.int (own_peq b_6 b_9 q2 q3 q4 fb lb pb))]))) (fun t k => XS.iload X32.here hx rfl (hb hby at_219) rfl k) ?_
        refine own_fw (A' := (T32.setTop (mkF m 224 #[.val (.int p1), .val (.long q2), .second, .val (.long q3), .second, .val (.long q4), .second, .val (.long q5), .second, .val (.int p6), .val (.int ka), .val (.int kb), .val (.long fb), .second, .val (.long lb), .second, .val (.long pb), .second, .val (.ref b5), .val (.ref b8), .val (.int (((p6.toUInt32 >>> ((4 : Int32) &&& 31).toUInt32).toInt32) &&& (3 : Int32))), .val (.int (0 : Int32))] []))) (fun t k => XS.icmpNo X32.here hx rfl (hb hby at_221) rfl (XT.ii_ne_f (by simp only [own_peq, if_neg (fun q => hc16 ((own_k hb_6 hb_9 n01 n02 n12 hka hkb).mp q))])) k) ?_
        refine own_fw (A' := (T32.setTop (mkF m 226 #[.val (.int p1), .val (.long q2), .second, .val (.long q3), .second, .val (.long q4), .second, .val (.long q5), .second, .val (.int p6), .val (.int ka), .val (.int kb), .val (.long fb), .second, .val (.long lb), .second, .val (.long pb), .second, .val (.ref b5), .val (.ref b8), .val (.int (((p6.toUInt32 >>> ((4 : Int32) &&& 31).toUInt32).toInt32) &&& (3 : Int32))), .val (.int (0 : Int32))] [(.ref b8)]))) (fun t k => XS.aload X32.here hx rfl (hb hby at_224) rfl rfl k) ?_
        refine own_fw (A' := (T32.setTop (mkF m 228 #[.val (.int p1), .val (.long q2), .second, .val (.long q3), .second, .val (.long q4), .second, .val (.long q5), .second, .val (.int p6), .val (.int ka), .val (.int kb), .val (.long fb), .second, .val (.long lb), .second, .val (.long pb), .second, .val (.ref b5), .val (.ref b8), .val (.int (((p6.toUInt32 >>> ((4 : Int32) &&& 31).toUInt32).toInt32) &&& (3 : Int32))), .val (.int (0 : Int32))] [(.ref b5), (.ref b8)]))) (fun t k => XS.aload X32.here hx rfl (hb hby at_226) rfl rfl k) ?_
        obtain ⟨cq33, kq33, qa33, qb33, qc33⟩ := isOf hZ e32 Fq10_0
        obtain ⟨_, _, ⟨T33, L33, k33, n33⟩, -, X33, ⟨Lc33, hQ33, l33, y33, z33⟩, st33⟩ := X32.virtualBack hx (y := (⟨"com/example/spanwise/spanwise/ReadingLogPlan$Purchase", "equals", "(Ljava/lang/Object;)Z"⟩ : MethodName)) (z := (⟨"com/example/spanwise/spanwise/ReadingLogPlan$Purchase", "equals", "(Ljava/lang/Object;)Z"⟩ : MethodName)) hown (mvT hZ (hw _ (List.mem_of_getElem? (i := 39) rfl))) (mvT hZ (hw _ (List.mem_of_getElem? (i := 40) rfl))) (notFace_of_selects (args := #[]) (mvT hZ (hw _ (List.mem_of_getElem? (i := 42) rfl)))) (mvT hZ (hw _ (List.mem_of_getElem? (i := 42) rfl))) (mvT hZ (hw _ (List.mem_of_getElem? (i := 41) rfl))) (by decide) (backOf (W := 0) (rmEqObj l Z a0 hw [] b8 b5 b_9 b_6 fb lb pb q2 q3 q4 T10.heap n0 Z10 (((Fq7_0.ext E8).keep Kq9).keep Kq10) Fq10_1 Fq10_2 Fq10_3 Fq10_4 (((Fq7_1.ext E8).keep Kq9 nin0).keep Kq10 (ninS ne_b5_b8 nin0)) (((Fq7_2.ext E8).keep Kq9 nin0).keep Kq10 (ninS ne_b5_b8 nin0)) (((Fq7_3.ext E8).keep Kq9 nin0).keep Kq10 (ninS ne_b5_b8 nin0)) (((Fq7_4.ext E8).keep Kq9 nin0).keep Kq10 (ninS ne_b5_b8 nin0))) hZ (hw _ (List.mem_of_getElem? (i := 43) rfl)) (hw _ (List.mem_of_getElem? (i := 3) rfl)) (by decide) (by decide)) qa33 qc33 (g := (mkF m 228 #[.val (.int p1), .val (.long q2), .second, .val (.long q3), .second, .val (.long q4), .second, .val (.long q5), .second, .val (.int p6), .val (.int ka), .val (.int kb), .val (.long fb), .second, .val (.long lb), .second, .val (.long pb), .second, .val (.ref b5), .val (.ref b8), .val (.int (((p6.toUInt32 >>> ((4 : Int32) &&& 31).toUInt32).toInt32) &&& (3 : Int32))), .val (.int (0 : Int32))] [(.ref b5), (.ref b8)])) rfl (by rw [hml]; rfl) (Steps.refl _) (argsL := [(.ref b5)]) (rest := []) (lenOf pd__Ljava_lang_Object__Z rfl) rfl (by show 2 * 0 + _ ≤ _; exact Nat.le_of_eq rfl) (hb hby at_228) (fun _ _ => ⟨rfl, e32, (by decide : 6 + 0 ≤ _), (by decide : 48 + 0 ≤ _)⟩)
        dsimp only [Pt.U, Pt.locs, Pt.cells, Pt.slots] at X33 l33 y33 z33 st33 hQ33
        subst l33 y33 z33
        obtain ⟨rfl, Nq33, e33⟩ := hQ33
        have Nf33 := Fr.app Nf32 Nq33
        refine own_fw (A' := (T33.setTop (mkF m 231 #[.val (.int p1), .val (.long q2), .second, .val (.long q3), .second, .val (.long q4), .second, .val (.long q5), .second, .val (.int p6), .val (.int ka), .val (.int kb), .val (.long fb), .second, .val (.long lb), .second, .val (.long pb), .second, .val (.ref b5), .val (.ref b8), .val (.int (((p6.toUInt32 >>> ((4 : Int32) &&& 31).toUInt32).toInt32) &&& (3 : Int32))), .val (.int (0 : Int32))] [(.int (own_peq b_9 b_6 fb lb pb q2 q3 q4))]))) (fun t k => st33.trans k) ?_
        refine own_fw (A' := (T33.setTop (mkF m 233 #[.val (.int p1), .val (.long q2), .second, .val (.long q3), .second, .val (.long q4), .second, .val (.long q5), .second, .val (.int p6), .val (.int ka), .val (.int kb), .val (.long fb), .second, .val (.long lb), .second, .val (.long pb), .second, .val (.ref b5), .val (.ref b8), .val (.int (((p6.toUInt32 >>> ((4 : Int32) &&& 31).toUInt32).toInt32) &&& (3 : Int32))), .val (.int (0 : Int32))] [(.int (0 : Int32)), (.int (own_peq b_9 b_6 fb lb pb q2 q3 q4))]))) (fun t k => XS.iload X33.here hx rfl (hb hby at_231) rfl k) ?_
        refine own_fw (A' := (T33.setTop (mkF m 236 #[.val (.int p1), .val (.long q2), .second, .val (.long q3), .second, .val (.long q4), .second, .val (.long q5), .second, .val (.int p6), .val (.int ka), .val (.int kb), .val (.long fb), .second, .val (.long lb), .second, .val (.long pb), .second, .val (.ref b5), .val (.ref b8), .val (.int (((p6.toUInt32 >>> ((4 : Int32) &&& 31).toUInt32).toInt32) &&& (3 : Int32))), .val (.int (0 : Int32))] []))) (fun t k => XS.icmpNo X33.here hx rfl (hb hby at_233) rfl (XT.ii_ne_f (by simp only [own_peq, if_neg (fun q => hc16 ((own_k hb_6 hb_9 n01 n02 n12 hka hkb).mp (Eq.symm q)))])) k) ?_
        refine own_fw (A' := (T33.setTop (mkF m 238 #[.val (.int p1), .val (.long q2), .second, .val (.long q3), .second, .val (.long q4), .second, .val (.long q5), .second, .val (.int p6), .val (.int ka), .val (.int kb), .val (.long fb), .second, .val (.long lb), .second, .val (.long pb), .second, .val (.ref b5), .val (.ref b8), .val (.int (((p6.toUInt32 >>> ((4 : Int32) &&& 31).toUInt32).toInt32) &&& (3 : Int32))), .val (.int (0 : Int32))] [(.ref b5)]))) (fun t k => XS.aload X33.here hx rfl (hb hby at_236) rfl rfl k) ?_
        refine own_fw (A' := (T33.setTop (mkF m 240 #[.val (.int p1), .val (.long q2), .second, .val (.long q3), .second, .val (.long q4), .second, .val (.long q5), .second, .val (.int p6), .val (.int ka), .val (.int kb), .val (.long fb), .second, .val (.long lb), .second, .val (.long pb), .second, .val (.ref b5), .val (.ref b8), .val (.int (((p6.toUInt32 >>> ((4 : Int32) &&& 31).toUInt32).toInt32) &&& (3 : Int32))), .val (.int (0 : Int32))] [(.ref b5), (.ref b5)]))) (fun t k => XS.aload X33.here hx rfl (hb hby at_238) rfl rfl k) ?_
        obtain ⟨cq34, kq34, qa34, qb34, qc34⟩ := isOf hZ e33 (((Fq7_0.ext E8).keep Kq9).keep Kq10)
        obtain ⟨_, _, ⟨T34, L34, k34, n34⟩, -, X34, ⟨Lc34, hQ34, l34, y34, z34⟩, st34⟩ := X33.virtualBack hx (y := (⟨"com/example/spanwise/spanwise/ReadingLogPlan$Purchase", "equals", "(Ljava/lang/Object;)Z"⟩ : MethodName)) (z := (⟨"com/example/spanwise/spanwise/ReadingLogPlan$Purchase", "equals", "(Ljava/lang/Object;)Z"⟩ : MethodName)) hown (mvT hZ (hw _ (List.mem_of_getElem? (i := 39) rfl))) (mvT hZ (hw _ (List.mem_of_getElem? (i := 40) rfl))) (notFace_of_selects (args := #[]) (mvT hZ (hw _ (List.mem_of_getElem? (i := 42) rfl)))) (mvT hZ (hw _ (List.mem_of_getElem? (i := 42) rfl))) (mvT hZ (hw _ (List.mem_of_getElem? (i := 41) rfl))) (by decide) (backOf (W := 0) (rmEqObj l Z a0 hw [] b5 b5 b_6 b_6 q2 q3 q4 q2 q3 q4 T10.heap n0 Z10 (((Fq7_0.ext E8).keep Kq9).keep Kq10) (((Fq7_1.ext E8).keep Kq9 nin0).keep Kq10 (ninS ne_b5_b8 nin0)) (((Fq7_2.ext E8).keep Kq9 nin0).keep Kq10 (ninS ne_b5_b8 nin0)) (((Fq7_3.ext E8).keep Kq9 nin0).keep Kq10 (ninS ne_b5_b8 nin0)) (((Fq7_4.ext E8).keep Kq9 nin0).keep Kq10 (ninS ne_b5_b8 nin0)) (((Fq7_1.ext E8).keep Kq9 nin0).keep Kq10 (ninS ne_b5_b8 nin0)) (((Fq7_2.ext E8).keep Kq9 nin0).keep Kq10 (ninS ne_b5_b8 nin0)) (((Fq7_3.ext E8).keep Kq9 nin0).keep Kq10 (ninS ne_b5_b8 nin0)) (((Fq7_4.ext E8).keep Kq9 nin0).keep Kq10 (ninS ne_b5_b8 nin0))) hZ (hw _ (List.mem_of_getElem? (i := 43) rfl)) (hw _ (List.mem_of_getElem? (i := 3) rfl)) (by decide) (by decide)) qa34 qc34 (g := (mkF m 240 #[.val (.int p1), .val (.long q2), .second, .val (.long q3), .second, .val (.long q4), .second, .val (.long q5), .second, .val (.int p6), .val (.int ka), .val (.int kb), .val (.long fb), .second, .val (.long lb), .second, .val (.long pb), .second, .val (.ref b5), .val (.ref b8), .val (.int (((p6.toUInt32 >>> ((4 : Int32) &&& 31).toUInt32).toInt32) &&& (3 : Int32))), .val (.int (0 : Int32))] [(.ref b5), (.ref b5)])) rfl (by rw [hml]; rfl) (Steps.refl _) (argsL := [(.ref b5)]) (rest := []) (lenOf pd__Ljava_lang_Object__Z rfl) rfl (by show 2 * 0 + _ ≤ _; exact Nat.le_of_eq rfl) (hb hby at_240) (fun _ _ => ⟨rfl, e33, (by decide : 6 + 0 ≤ _), (by decide : 48 + 0 ≤ _)⟩)
        dsimp only [Pt.U, Pt.locs, Pt.cells, Pt.slots] at X34 l34 y34 z34 st34 hQ34
        subst l34 y34 z34
        obtain ⟨rfl, Nq34, e34⟩ := hQ34
        have Nf34 := Fr.app Nf33 Nq34
        refine own_fw (A' := (T34.setTop (mkF m 243 #[.val (.int p1), .val (.long q2), .second, .val (.long q3), .second, .val (.long q4), .second, .val (.long q5), .second, .val (.int p6), .val (.int ka), .val (.int kb), .val (.long fb), .second, .val (.long lb), .second, .val (.long pb), .second, .val (.ref b5), .val (.ref b8), .val (.int (((p6.toUInt32 >>> ((4 : Int32) &&& 31).toUInt32).toInt32) &&& (3 : Int32))), .val (.int (0 : Int32))] [(.int (own_peq b_6 b_6 q2 q3 q4 q2 q3 q4))]))) (fun t k => st34.trans k) ?_
        refine own_fw (A' := (T34.setTop (mkF m 246 #[.val (.int p1), .val (.long q2), .second, .val (.long q3), .second, .val (.long q4), .second, .val (.long q5), .second, .val (.int p6), .val (.int ka), .val (.int kb), .val (.long fb), .second, .val (.long lb), .second, .val (.long pb), .second, .val (.ref b5), .val (.ref b8), .val (.int (((p6.toUInt32 >>> ((4 : Int32) &&& 31).toUInt32).toInt32) &&& (3 : Int32))), .val (.int (0 : Int32))] []))) (fun t k => XS.ifNo X34.here hx rfl (hb hby at_243) rfl (XT.i0_eq_f (own_self _ _ _ _)) k) ?_
        refine own_fw (A' := (T34.setTop (mkF m 247 #[.val (.int p1), .val (.long q2), .second, .val (.long q3), .second, .val (.long q4), .second, .val (.long q5), .second, .val (.int p6), .val (.int ka), .val (.int kb), .val (.long fb), .second, .val (.long lb), .second, .val (.long pb), .second, .val (.ref b5), .val (.ref b8), .val (.int (((p6.toUInt32 >>> ((4 : Int32) &&& 31).toUInt32).toInt32) &&& (3 : Int32))), .val (.int (0 : Int32))] [(.int (1 : Int32))]))) (fun t k => XS.iconst X34.here hx rfl (hb hby at_246) k) ?_
        refine own_fw (A' := (T34.setTop (mkF m 251 #[.val (.int p1), .val (.long q2), .second, .val (.long q3), .second, .val (.long q4), .second, .val (.long q5), .second, .val (.int p6), .val (.int ka), .val (.int kb), .val (.long fb), .second, .val (.long lb), .second, .val (.long pb), .second, .val (.ref b5), .val (.ref b8), .val (.int (((p6.toUInt32 >>> ((4 : Int32) &&& 31).toUInt32).toInt32) &&& (3 : Int32))), .val (.int (0 : Int32))] [(.int (1 : Int32))]))) (fun t k => XS.goto X34.here hx rfl (pc0 := 247) (pc' := 251) rfl (hb hby at_247) (by decide) (by decide) k) ?_
        obtain ⟨fs, hr, hrun, hended, hWE⟩ := X34.leaveW hS (by rw [e34]; exact hk : _ ≤ T34.heap.size) (v := some (.int (1 : Int32))) (fun h => by rw [Bd.returns] at h; cases h)
        refine ⟨_, _, ?_, hrun, hended, _, _, rfl, ?_, own_widen hWE (by decide) (by decide)⟩
        · exact retOut X34 hx Bd.returns rfl (Or.inl ⟨rfl, by simp, _, rfl⟩) (hb hby at_251) hr
        · show Q_rm0 Z p1 q2 q3 q4 q5 p6 ca r0 r1 r2 h0 n0 _ T34.heap _
          rw [e34]
          exact ⟨rfl, Nf34⟩
set_option maxRecDepth 65536 in
set_option maxHeartbeats 40000000 in
theorem comes_1 {Post : Tables → Env → Array Value → State → Outcome → State → Prop} (hpost : ∀ tb e args s v u, (limb_1_1.after args s (.returned v) u = true ∧ limb_1_2.after args s (.returned v) u = true ∧ True) → ReturnedEndW s (.returned v) u (Jvm.fieldLocs frame_1_writes args s ++ Jvm.arrayLocs frame_1_arrays args s ++ Jvm.staticLocs frame_1_statics s) 16 1152 → Post tb e args s (.returned v) u) :
    ArmFor flags0 classFile x code maxLocals ret World_1 tables_1 room_1 Calls_1 rest_1 Pre_1 Post := by
  intro l hfl _ _ p e ha hc hk s m args below hf hA hF happ hP
  obtain ⟨hcalls, hrest, hpre⟩ := hP
  obtain ⟨-, -, -, hnamed, -, -, -, hat⟩ := (Spec.applies_iff hf).mp happ
  obtain ⟨hg, hn⟩ := and_e (Cond.before_iff.mp (show (Jvm.Cond.and given_1 narrow_1).before args s = true from hpre))
  obtain ⟨hcount, hg0⟩ := and_e hg
  obtain ⟨hv0, hg1⟩ := and_e hg0
  obtain ⟨hv1, hg2⟩ := and_e hg1
  obtain ⟨hv2, hg3⟩ := and_e hg2
  obtain ⟨hv3, hg4⟩ := and_e hg3
  obtain ⟨hv4, hg5⟩ := and_e hg4
  have hv5 := hg5
  obtain ⟨w0, w1, w2, w3, w4, w5, rfl⟩ : ∃ w0 w1 w2 w3 w4 w5 : Value, args = #[w0, w1, w2, w3, w4, w5] := by
    have hs : args.size = 6 := by simpa [Cond.value, given_1] using hcount
    obtain ⟨L⟩ := args
    match L, hs with
    | [w0, w1, w2, w3, w4, w5], _ => exact ⟨w0, w1, w2, w3, w4, w5, rfl⟩
  have hw := fun d (hd : d ∈ tables_1) => atoms_spec (ws := Jvm.Cond.code x code maxLocals ret :: tables_1) hat d (List.mem_cons_of_mem _ hd)
  have hfit : Fit s := fun {y c} hc i hi => by
    obtain ⟨ha, rfl⟩ := Array.getElem?_eq_some_iff.mp hc
    have q := List.all_eq_true.mp ((Array.all_eq_true_iff_forall_mem.mp hF) _ (Array.getElem_mem ha)) i (List.mem_range.mpr hi)
    simpa [Array.getElem?_eq_getElem hi] using q
  obtain ⟨hsets, hown0⟩ := atoms_of _ (rest_1_c_eq ▸ (show rest_1_c.before _ s = true from hrest))
  obtain ⟨i0, ei0⟩ := is_v hv0
  obtain rfl : w0 = (.int i0) := Option.some.inj ei0
  obtain ⟨i1, ei1⟩ := isL_v hv1
  obtain rfl : w1 = (.long i1) := Option.some.inj ei1
  obtain ⟨i2, ei2⟩ := isL_v hv2
  obtain rfl : w2 = (.long i2) := Option.some.inj ei2
  obtain ⟨i3, ei3⟩ := isL_v hv3
  obtain rfl : w3 = (.long i3) := Option.some.inj ei3
  obtain ⟨i4, ei4⟩ := isL_v hv4
  obtain rfl : w4 = (.long i4) := Option.some.inj ei4
  obtain ⟨i5, ei5⟩ := is_v hv5
  obtain rfl : w5 = (.int i5) := Option.some.inj ei5
  obtain ⟨hn0, hm0⟩ := and_e hn
  obtain ⟨hn1, hm1⟩ := and_e hm0
  obtain ⟨hn2, hm2⟩ := and_e hm1
  obtain ⟨hn3, hm3⟩ := and_e hm2
  obtain ⟨hn4, hm4⟩ := and_e hm3
  have hn5 := hm4
  obtain ⟨r_SINGLE, ev_SINGLE⟩ := exa_v hn0
  have E_SINGLE := Exa.start ev_SINGLE hn0
  have S_SINGLE := Sta.start ev_SINGLE (Or.inr ⟨(hw _ (List.mem_of_getElem? (i := 9) rfl)), (hw _ (List.mem_of_getElem? (i := 10) rfl))⟩)
  obtain ⟨r_PASS, ev_PASS⟩ := exa_v hn1
  have E_PASS := Exa.start ev_PASS hn1
  have S_PASS := Sta.start ev_PASS (Or.inr ⟨(hw _ (List.mem_of_getElem? (i := 9) rfl)), (hw _ (List.mem_of_getElem? (i := 47) rfl))⟩)
  obtain ⟨r_BUNDLE, ev_BUNDLE⟩ := exa_v hn2
  have E_BUNDLE := Exa.start ev_BUNDLE hn2
  have S_BUNDLE := Sta.start ev_BUNDLE (Or.inr ⟨(hw _ (List.mem_of_getElem? (i := 9) rfl)), (hw _ (List.mem_of_getElem? (i := 49) rfl))⟩)
  have F_BUNDLE_ordinal := own_fldI ev_BUNDLE hn3
  have F_SINGLE_ordinal := own_fldI ev_SINGLE hn4
  have F_PASS_ordinal := own_fldI ev_PASS hn5
  have n01 := Fld.ne F_SINGLE_ordinal F_BUNDLE_ordinal (by decide)
  have n02 := Fld.ne F_SINGLE_ordinal F_PASS_ordinal (by decide)
  have n12 := Fld.ne F_BUNDLE_ordinal F_PASS_ordinal (by decide)
  have av_L := Cond.before_iff.mp (hsets _ (List.mem_of_getElem? (i := 2) rfl))
  obtain ⟨ca_L, ev_L⟩ := arr_v av_L
  have S_L := Sta.start ev_L (Or.inl (hsets _ (List.mem_of_getElem? (i := 1) rfl)))
  have X_L := own_cacheStart ev_L av_L (Cond.before_iff.mp (hsets _ (List.mem_of_getElem? (i := 4) rfl))) (Cond.before_iff.mp (hsets _ (List.mem_of_getElem? (i := 5) rfl)))
  obtain ⟨n, o, h1, h2, h3, _, L, rfl, ⟨rfl, N⟩, hq⟩ := rm0 l s _ hw tables_1 i0 i1 i2 i3 i4 i5 ca_L r_SINGLE r_BUNDLE r_PASS s.heap s.heap.size (Nat.le_refl _) S_L X_L S_SINGLE E_SINGLE S_BUNDLE E_BUNDLE S_PASS E_PASS n01 n02 n12 p e ha hc hk s m _ below hf ((Spec.applies_iff_loose hf).mp happ).1 ⟨rfl, State.Warmed39.refl s, rfl⟩ trivial
  refine ⟨n, _, h1, h2, h3, hpost _ _ _ _ _ _ ⟨Cond.after_iff.mpr rfl, Cond.after_iff.mpr (eq_i res_at (Term.int_eval (1)) rfl), trivial⟩ ⟨hq.1, hq.2.1, hq.2.2.1, (hq.2.2.2.sift fun y hy => Or.inr (N y hy)).mono (by decide) (by decide)⟩⟩
theorem main_1_1 : Claimed_1_1 := comes_1 fun _ _ _ _ _ _ h hF => ⟨h.1, hF⟩
theorem main_1_2 : Claimed_1_2 := comes_1 fun _ _ _ _ _ _ h hF => ⟨h.2.1, hF⟩
end Jvm.Pilot.@@N@@
namespace Jvm.Pilot.@@N@@
open Jvm Jvm.ClassFile Sem Op Lib Jvm.Free Jvm.Stand Jvm.Pilot.@@N@@.Jvm.D
/-! MADE BY PROGRAM (witnessworld.py) out of the Statement's table words and the real class files: 21 classes; the members and pool entries that the words name. The judged class is class 1, her method 2. -/
namespace start1
open Jvm.ClassFile
def u (s : String) : CpInfo := .utf8 (stringToUtf16 s)
/-- a pool by its gaps: so many unusable entries, then the entry; so many at the end -/
def gap : Nat → List CpInfo → List CpInfo
  | 0, r => r
  | n + 1, r => .unusable :: gap n r
def poolList (es : List (Nat × CpInfo)) (last : Nat) : List CpInfo := es.foldr (fun e r => gap e.1 (e.2 :: r)) (gap last [])
def pool (es : List (Nat × CpInfo)) (last : Nat) : Array CpInfo := ⟨poolList es last⟩
def fileOf (pool : Array CpInfo) (this : Nat) (attrs : Array Attribute := #[]) (ms : Array MethodInfo := #[]) (fl : Nat := 33) (sup : Nat := 0) (ifs : Array Nat := #[]) (fds : Array FieldInfo := #[]) : ClassFile where
  minorVersion := 0
  majorVersion := 65
  constantPool := pool
  accessFlags := fl
  thisClass := this
  superClass := sup
  interfaces := ifs
  fields := fds
  methods := ms
  attributes := attrs
def plain (name : String) (sup : Option ClassId) : Class where
  name := name
  kind := .ordinary
  loader := none
  accessFlags := 33
  super := sup
  interfaces := #[]
  cf := none
  fields := #[]
  methods := #[]
  instanceTypes := #[]
  staticTypes := #[]
  resolved := #[]
  callSites := []
  init := .initialized
  statics := none
  mirror := none

def pool0 : Array CpInfo := pool [(5, u "<init>"), (0, u "()V"), (1, .class_ 10), (1, u "java/lang/Object")] 113

def k0c0 : Code := { maxStack := 0, maxLocals := 1, code := object_method_1_code, exceptionTable := #[], attributes := #[] }
def k0m0 : Method := { name := "<init>", desc := "()V", sig := { parameters := [], returnType := none }, accessFlags := 1, code := some k0c0 }
/-- java/lang/Object -/
def k0 : Class := { plain "java/lang/Object" none with
  accessFlags := 33
  interfaces := #[]
  cf := some (fileOf pool0 8 #[] #[{ accessFlags := 1, nameIndex := 5, descriptorIndex := 6, attributes := #[] }] 33 0 #[] #[])
  fields := #[]
  methods := #[k0m0]
  instanceTypes := #[]
  staticTypes := #[]
  resolved := Array.replicate 124 none
  statics := none }

def pool1 : Array CpInfo := pool [(2, .class_ 4), (1, u "java/lang/Object"), (0, u "<init>"), (0, u "()V"), (0, .fieldref 8 9), (0, .class_ 10), (0, .nameAndType 11 12), (0, u "com/example/spanwise/spanwise/ReadingLogPlan$Kind"), (0, u "SINGLE"), (0, u "Lcom/example/spanwise/spanwise/ReadingLogPlan$Kind;"), (0, .fieldref 8 14), (0, .nameAndType 15 12), (0, u "BUNDLE"), (0, .fieldref 8 17), (0, .nameAndType 18 12), (0, u "PASS"), (0, .integer 2147483647), (0, .class_ 21), (0, u "com/example/spanwise/spanwise/ReadingLogPlan$Purchase"), (0, .methodref 23 24), (0, .class_ 25), (0, .nameAndType 26 27), (0, u "com/example/spanwise/spanwise/PurchaseEqualsPinLaw"), (0, u "kind"), (0, u "(I)Lcom/example/spanwise/spanwise/ReadingLogPlan$Kind;"), (0, .methodref 20 29), (0, .nameAndType 5 30), (0, u "(Lcom/example/spanwise/spanwise/ReadingLogPlan$Kind;JJJ)V"), (0, .methodref 20 32), (0, .nameAndType 33 34), (0, u "equals"), (0, u "(Ljava/lang/Object;)Z"), (0, .methodref 36 37), (0, .class_ 38), (0, .nameAndType 39 40), (0, u "java/lang/Long"), (0, u "valueOf"), (0, u "(J)Ljava/lang/Long;"), (3, u "law"), (0, u "(IJJJJI)Z")] 7

def k1m0 : Method := { name := "<init>", desc := "()V", sig := { parameters := [], returnType := none }, accessFlags := 1, code := none }
def k1c1 : Code := { maxStack := 2, maxLocals := 1, code := method_2_code, exceptionTable := #[], attributes := #[] }
def k1m1 : Method := { name := "kind", desc := "(I)Lcom/example/spanwise/spanwise/ReadingLogPlan$Kind;", sig := { parameters := [.int], returnType := some (.object "com/example/spanwise/spanwise/ReadingLogPlan$Kind") }, accessFlags := 10, code := some k1c1 }
def k1c2 : Code := { maxStack := 9, maxLocals := 22, code := code, exceptionTable := #[], attributes := #[] }
def k1m2 : Method := { name := "law", desc := "(IJJJJI)Z", sig := { parameters := [.int, .long, .long, .long, .long, .int], returnType := some .boolean }, accessFlags := 9, code := some k1c2 }
/-- com/example/spanwise/spanwise/PurchaseEqualsPinLaw -/
def k1 : Class := { plain "com/example/spanwise/spanwise/PurchaseEqualsPinLaw" (some 0) with
  accessFlags := 49
  interfaces := #[]
  cf := some (fileOf pool1 23 #[] #[{ accessFlags := 1, nameIndex := 5, descriptorIndex := 6, attributes := #[] }, { accessFlags := 10, nameIndex := 26, descriptorIndex := 27, attributes := #[] }, { accessFlags := 9, nameIndex := 44, descriptorIndex := 45, attributes := #[] }] 49 2 #[] #[])
  fields := #[]
  methods := #[k1m0, k1m1, k1m2]
  instanceTypes := #[]
  staticTypes := #[]
  resolved := Array.replicate 53 none
  statics := none }

def pool2 : Array CpInfo := pool [(1, .methodref 2 3), (0, .class_ 4), (0, .nameAndType 5 6), (0, u "java/lang/Object"), (0, u "<init>"), (0, u "()V"), (0, .string 8), (0, u "kind"), (0, .methodref 10 11), (0, .class_ 12), (0, .nameAndType 13 14), (0, u "java/util/Objects"), (0, u "requireNonNull"), (0, u "(Ljava/lang/Object;Ljava/lang/String;)Ljava/lang/Object;"), (0, .class_ 16), (0, u "com/example/spanwise/spanwise/ReadingLogPlan$Kind"), (0, .fieldref 18 19), (0, .class_ 20), (0, .nameAndType 8 21), (0, u "com/example/spanwise/spanwise/ReadingLogPlan$Purchase"), (0, u "Lcom/example/spanwise/spanwise/ReadingLogPlan$Kind;"), (0, .fieldref 18 23), (0, .nameAndType 24 25), (0, u "first"), (0, u "J"), (0, .fieldref 18 27), (0, .nameAndType 28 25), (0, u "last"), (0, .fieldref 18 30), (0, .nameAndType 31 25), (0, u "price"), (10, u "(Lcom/example/spanwise/spanwise/ReadingLogPlan$Kind;JJJ)V"), (4, u "equals"), (0, u "(Ljava/lang/Object;)Z"), (6, .class_ 56), (0, u "com/example/spanwise/spanwise/ReadingLogPlan")] 3

def k2c0 : Code := { maxStack := 3, maxLocals := 8, code := prog_10_method_1_code, exceptionTable := #[], attributes := #[] }
def k2m0 : Method := { name := "<init>", desc := "(Lcom/example/spanwise/spanwise/ReadingLogPlan$Kind;JJJ)V", sig := { parameters := [(.object "com/example/spanwise/spanwise/ReadingLogPlan$Kind"), .long, .long, .long], returnType := none }, accessFlags := 1, code := some k2c0 }
def k2c1 : Code := { maxStack := 4, maxLocals := 3, code := prog_10_method_6_code, exceptionTable := #[], attributes := #[] }
def k2m1 : Method := { name := "equals", desc := "(Ljava/lang/Object;)Z", sig := { parameters := [(.object "java/lang/Object")], returnType := some .boolean }, accessFlags := 1, code := some k2c1 }
/-- com/example/spanwise/spanwise/ReadingLogPlan$Purchase -/
def k2 : Class := { plain "com/example/spanwise/spanwise/ReadingLogPlan$Purchase" (some 0) with
  accessFlags := 49
  interfaces := #[]
  cf := some (fileOf pool2 18 #[.nestHost 55] #[{ accessFlags := 1, nameIndex := 5, descriptorIndex := 42, attributes := #[] }, { accessFlags := 1, nameIndex := 47, descriptorIndex := 48, attributes := #[] }] 49 2 #[] #[{ accessFlags := 18, nameIndex := 8, descriptorIndex := 21, attributes := #[] }, { accessFlags := 18, nameIndex := 24, descriptorIndex := 25, attributes := #[] }, { accessFlags := 18, nameIndex := 28, descriptorIndex := 25, attributes := #[] }, { accessFlags := 18, nameIndex := 31, descriptorIndex := 25, attributes := #[] }])
  fields := #[{ name := "kind", type := (.object "com/example/spanwise/spanwise/ReadingLogPlan$Kind"), accessFlags := 18, slot := 0, constantValue := 0 }, { name := "first", type := .long, accessFlags := 18, slot := 1, constantValue := 0 }, { name := "last", type := .long, accessFlags := 18, slot := 2, constantValue := 0 }, { name := "price", type := .long, accessFlags := 18, slot := 3, constantValue := 0 }]
  methods := #[k2m0, k2m1]
  instanceTypes := #[(.object "com/example/spanwise/spanwise/ReadingLogPlan$Kind"), .long, .long, .long]
  staticTypes := #[]
  resolved := Array.replicate 60 none
  statics := none }

def pool3 : Array CpInfo := pool [(1, .class_ 2), (0, u "java/lang/constant/Constable"), (0, .class_ 4), (0, u "java/lang/Object")] 6

/-- java/lang/constant/Constable -/
def k3 : Class := { plain "java/lang/constant/Constable" (some 0) with
  accessFlags := 1537
  interfaces := #[]
  cf := some (fileOf pool3 1 #[] #[] 1537 3 #[] #[])
  fields := #[]
  methods := #[]
  instanceTypes := #[]
  staticTypes := #[]
  resolved := Array.replicate 11 none
  statics := none }

def pool4 : Array CpInfo := pool [(1, .class_ 2), (0, u "java/lang/Comparable"), (0, .class_ 4), (0, u "java/lang/Object")] 7

/-- java/lang/Comparable -/
def k4 : Class := { plain "java/lang/Comparable" (some 0) with
  accessFlags := 1537
  interfaces := #[]
  cf := some (fileOf pool4 1 #[] #[] 1537 3 #[] #[])
  fields := #[]
  methods := #[]
  instanceTypes := #[]
  staticTypes := #[]
  resolved := Array.replicate 12 none
  statics := none }

def pool5 : Array CpInfo := pool [(1, .class_ 2), (0, u "java/io/Serializable"), (0, .class_ 4), (0, u "java/lang/Object")] 2

/-- java/io/Serializable -/
def k5 : Class := { plain "java/io/Serializable" (some 0) with
  accessFlags := 1537
  interfaces := #[]
  cf := some (fileOf pool5 1 #[] #[] 1537 3 #[] #[])
  fields := #[]
  methods := #[]
  instanceTypes := #[]
  staticTypes := #[]
  resolved := Array.replicate 7 none
  statics := none }

def pool6 : Array CpInfo := pool [(2, .class_ 4), (1, u "java/lang/Enum"), (0, u "name"), (0, u "Ljava/lang/String;"), (2, u "ordinal"), (0, u "I"), (1, .class_ 14), (1, u "java/lang/Object"), (4, u "hash"), (86, .class_ 108), (1, u "java/lang/Enum$EnumDesc"), (2, .class_ 112), (0, u "java/lang/constant/Constable"), (0, .class_ 114), (0, u "java/lang/Comparable"), (0, .class_ 116), (0, u "java/io/Serializable")] 87

/-- java/lang/Enum -/
def k6 : Class := { plain "java/lang/Enum" (some 0) with
  accessFlags := 1057
  interfaces := #[3, 4, 5]
  cf := some (fileOf pool6 2 #[.nestMembers #[106]] #[] 1057 12 #[111, 113, 115] #[{ accessFlags := 18, nameIndex := 5, descriptorIndex := 6, attributes := #[] }, { accessFlags := 18, nameIndex := 9, descriptorIndex := 10, attributes := #[] }, { accessFlags := 2, nameIndex := 19, descriptorIndex := 10, attributes := #[] }])
  fields := #[{ name := "name", type := (.object "java/lang/String"), accessFlags := 18, slot := 0, constantValue := 0 }, { name := "ordinal", type := .int, accessFlags := 18, slot := 1, constantValue := 0 }, { name := "hash", type := .int, accessFlags := 2, slot := 2, constantValue := 0 }]
  methods := #[]
  instanceTypes := #[(.object "java/lang/String"), .int, .int]
  staticTypes := #[]
  resolved := Array.replicate 204 none
  statics := none }

def pool7 : Array CpInfo := pool [(1, .class_ 2), (0, u "com/example/spanwise/spanwise/ReadingLogPlan$Kind"), (2, u "SINGLE"), (0, u "Lcom/example/spanwise/spanwise/ReadingLogPlan$Kind;"), (2, u "BUNDLE"), (2, u "PASS"), (2, u "$VALUES"), (0, u "[Lcom/example/spanwise/spanwise/ReadingLogPlan$Kind;"), (6, .class_ 25), (1, u "java/lang/Enum"), (8, u "word"), (0, u "Ljava/lang/String;"), (29, .class_ 66), (0, u "com/example/spanwise/spanwise/ReadingLogPlan")] 2

/-- com/example/spanwise/spanwise/ReadingLogPlan$Kind -/
def k7 : Class := { plain "com/example/spanwise/spanwise/ReadingLogPlan$Kind" (some 6) with
  accessFlags := 16433
  interfaces := #[]
  cf := some (fileOf pool7 1 #[.nestHost 65] #[] 16433 23 #[] #[{ accessFlags := 16409, nameIndex := 5, descriptorIndex := 6, attributes := #[] }, { accessFlags := 16409, nameIndex := 9, descriptorIndex := 6, attributes := #[] }, { accessFlags := 16409, nameIndex := 12, descriptorIndex := 6, attributes := #[] }, { accessFlags := 18, nameIndex := 34, descriptorIndex := 35, attributes := #[] }, { accessFlags := 4122, nameIndex := 15, descriptorIndex := 16, attributes := #[] }])
  fields := #[{ name := "SINGLE", type := (.object "com/example/spanwise/spanwise/ReadingLogPlan$Kind"), accessFlags := 16409, slot := 0, constantValue := 0 }, { name := "BUNDLE", type := (.object "com/example/spanwise/spanwise/ReadingLogPlan$Kind"), accessFlags := 16409, slot := 1, constantValue := 0 }, { name := "PASS", type := (.object "com/example/spanwise/spanwise/ReadingLogPlan$Kind"), accessFlags := 16409, slot := 2, constantValue := 0 }, { name := "word", type := (.object "java/lang/String"), accessFlags := 18, slot := 3, constantValue := 0 }, { name := "$VALUES", type := (.array (.object "com/example/spanwise/spanwise/ReadingLogPlan$Kind")), accessFlags := 4122, slot := 3, constantValue := 0 }]
  methods := #[]
  instanceTypes := #[(.object "java/lang/String"), .int, .int, (.object "java/lang/String")]
  staticTypes := #[(.object "com/example/spanwise/spanwise/ReadingLogPlan$Kind"), (.object "com/example/spanwise/spanwise/ReadingLogPlan$Kind"), (.object "com/example/spanwise/spanwise/ReadingLogPlan$Kind"), (.array (.object "com/example/spanwise/spanwise/ReadingLogPlan$Kind"))]
  resolved := Array.replicate 69 none
  statics := some 0 }

def pool8 : Array CpInfo := pool [(2, .class_ 4), (1, u "java/lang/CharSequence"), (42, .class_ 48), (0, u "java/lang/CharSequence$1CodePointIterator"), (10, .class_ 60), (0, u "java/lang/CharSequence$1CharIterator"), (5, .class_ 67), (0, u "java/lang/Object")] 63

/-- java/lang/CharSequence -/
def k8 : Class := { plain "java/lang/CharSequence" (some 0) with
  accessFlags := 1537
  interfaces := #[]
  cf := some (fileOf pool8 2 #[.nestMembers #[47, 59]] #[] 1537 66 #[] #[])
  fields := #[]
  methods := #[]
  instanceTypes := #[]
  staticTypes := #[]
  resolved := Array.replicate 131 none
  statics := none }

def pool9 : Array CpInfo := pool [(1, .class_ 2), (0, u "java/lang/constant/ConstantDesc"), (0, .class_ 4), (0, u "java/lang/Object")] 32

/-- java/lang/constant/ConstantDesc -/
def k9 : Class := { plain "java/lang/constant/ConstantDesc" (some 0) with
  accessFlags := 1537
  interfaces := #[]
  cf := some (fileOf pool9 1 #[] #[] 1537 3 #[] #[])
  fields := #[]
  methods := #[]
  instanceTypes := #[]
  staticTypes := #[]
  resolved := Array.replicate 37 none
  statics := none }

def pool10 : Array CpInfo := pool [(2, .class_ 4), (1, u "java/lang/Object"), (0, u "<init>"), (0, u "()V"), (3, .class_ 12), (1, u "java/lang/String"), (0, u "value"), (0, u "[B"), (2, u "coder"), (0, u "B"), (2, u "hash"), (0, u "I"), (2, u "hashIsZero"), (0, u "Z"), (13, u "COMPACT_STRINGS"), (534, .class_ 576), (0, u "java/lang/CharSequence"), (22, u "CASE_INSENSITIVE_ORDER"), (0, u "Ljava/util/Comparator;"), (500, u "serialPersistentFields"), (0, u "[Ljava/io/ObjectStreamField;"), (0, .class_ 1104), (0, u "java/lang/String$CaseInsensitiveComparator"), (1, .class_ 1107), (0, u "java/io/Serializable"), (0, .class_ 1109), (0, u "java/lang/Comparable"), (0, .class_ 1111), (0, u "java/lang/constant/Constable"), (0, .class_ 1113), (0, u "java/lang/constant/ConstantDesc"), (2, u "serialVersionUID"), (0, u "J"), (3, u "REPL"), (0, u "C"), (2, u "LATIN1"), (1, u "UTF16")] 323

def k10m0 : Method := { name := "<init>", desc := "()V", sig := { parameters := [], returnType := none }, accessFlags := 1, code := none }
/-- java/lang/String -/
def k10 : Class := { plain "java/lang/String" (some 0) with
  accessFlags := 49
  interfaces := #[5, 4, 8, 3, 9]
  cf := some (fileOf pool10 10 #[.nestMembers #[1103]] #[{ accessFlags := 1, nameIndex := 5, descriptorIndex := 6, attributes := #[] }] 49 2 #[1106, 1108, 575, 1110, 1112] #[{ accessFlags := 18, nameIndex := 13, descriptorIndex := 14, attributes := #[] }, { accessFlags := 18, nameIndex := 17, descriptorIndex := 18, attributes := #[] }, { accessFlags := 2, nameIndex := 21, descriptorIndex := 22, attributes := #[] }, { accessFlags := 2, nameIndex := 25, descriptorIndex := 26, attributes := #[] }, { accessFlags := 26, nameIndex := 1116, descriptorIndex := 1117, attributes := #[] }, { accessFlags := 24, nameIndex := 40, descriptorIndex := 26, attributes := #[] }, { accessFlags := 26, nameIndex := 1101, descriptorIndex := 1102, attributes := #[] }, { accessFlags := 26, nameIndex := 1121, descriptorIndex := 1122, attributes := #[] }, { accessFlags := 25, nameIndex := 599, descriptorIndex := 600, attributes := #[] }, { accessFlags := 24, nameIndex := 1125, descriptorIndex := 18, attributes := #[] }, { accessFlags := 24, nameIndex := 1127, descriptorIndex := 18, attributes := #[] }])
  fields := #[{ name := "value", type := (.array .byte), accessFlags := 18, slot := 0, constantValue := 0 }, { name := "coder", type := .byte, accessFlags := 18, slot := 1, constantValue := 0 }, { name := "hash", type := .int, accessFlags := 2, slot := 2, constantValue := 0 }, { name := "hashIsZero", type := .boolean, accessFlags := 2, slot := 3, constantValue := 0 }, { name := "serialVersionUID", type := .long, accessFlags := 26, slot := 0, constantValue := 0 }, { name := "COMPACT_STRINGS", type := .boolean, accessFlags := 24, slot := 1, constantValue := 0 }, { name := "serialPersistentFields", type := (.array (.object "java/io/ObjectStreamField")), accessFlags := 26, slot := 2, constantValue := 0 }, { name := "REPL", type := .char, accessFlags := 26, slot := 3, constantValue := 0 }, { name := "CASE_INSENSITIVE_ORDER", type := (.object "java/util/Comparator"), accessFlags := 25, slot := 4, constantValue := 0 }, { name := "LATIN1", type := .byte, accessFlags := 24, slot := 5, constantValue := 0 }, { name := "UTF16", type := .byte, accessFlags := 24, slot := 6, constantValue := 0 }]
  methods := #[k10m0]
  instanceTypes := #[(.array .byte), .byte, .int, .boolean]
  staticTypes := #[.long, .boolean, (.array (.object "java/io/ObjectStreamField")), .char, (.object "java/util/Comparator"), .byte, .byte]
  resolved := Array.replicate 1451 none
  statics := none }

def pool11 : Array CpInfo := pool [(2, .class_ 4), (1, u "java/lang/Object"), (0, u "<init>"), (0, u "()V"), (35, .class_ 44), (1, u "java/util/Objects"), (0, u "requireNonNull"), (48, u "(Ljava/lang/Object;Ljava/lang/String;)Ljava/lang/Object;")] 89

def k11m0 : Method := { name := "<init>", desc := "()V", sig := { parameters := [], returnType := none }, accessFlags := 2, code := none }
def k11c1 : Code := { maxStack := 3, maxLocals := 2, code := jdk_31_method_11_code, exceptionTable := #[], attributes := #[] }
def k11m1 : Method := { name := "requireNonNull", desc := "(Ljava/lang/Object;Ljava/lang/String;)Ljava/lang/Object;", sig := { parameters := [(.object "java/lang/Object"), (.object "java/lang/String")], returnType := some (.object "java/lang/Object") }, accessFlags := 9, code := some k11c1 }
/-- java/util/Objects -/
def k11 : Class := { plain "java/util/Objects" (some 0) with
  accessFlags := 49
  interfaces := #[]
  cf := some (fileOf pool11 42 #[] #[{ accessFlags := 2, nameIndex := 5, descriptorIndex := 6, attributes := #[] }, { accessFlags := 9, nameIndex := 45, descriptorIndex := 94, attributes := #[] }] 49 2 #[] #[])
  fields := #[]
  methods := #[k11m0, k11m1]
  instanceTypes := #[]
  staticTypes := #[]
  resolved := Array.replicate 184 none
  statics := none }

def pool12 : Array CpInfo := pool [(1, .methodref 2 3), (0, .class_ 4), (0, .nameAndType 5 6), (0, u "java/lang/Object"), (0, u "<init>"), (0, u "()V"), (1, .class_ 10), (1, u "java/lang/Number"), (2, .class_ 14), (0, u "java/io/Serializable"), (0, u "serialVersionUID"), (0, u "J")] 20

def k12c0 : Code := { maxStack := 1, maxLocals := 1, code := jdk_18_method_1_code, exceptionTable := #[], attributes := #[] }
def k12m0 : Method := { name := "<init>", desc := "()V", sig := { parameters := [], returnType := none }, accessFlags := 1, code := some k12c0 }
/-- java/lang/Number -/
def k12 : Class := { plain "java/lang/Number" (some 0) with
  accessFlags := 1057
  interfaces := #[5]
  cf := some (fileOf pool12 8 #[] #[{ accessFlags := 1, nameIndex := 5, descriptorIndex := 6, attributes := #[] }] 1057 2 #[13] #[{ accessFlags := 26, nameIndex := 15, descriptorIndex := 16, attributes := #[] }])
  fields := #[{ name := "serialVersionUID", type := .long, accessFlags := 26, slot := 0, constantValue := 0 }]
  methods := #[k12m0]
  instanceTypes := #[]
  staticTypes := #[.long]
  resolved := Array.replicate 37 none
  statics := none }

def pool13 : Array CpInfo := pool [(1, .class_ 2), (0, u "java/lang/Long"), (55, .nameAndType 59 60), (0, u "<init>"), (0, u "()V"), (24, u "valueOf"), (143, u "(J)Ljava/lang/Long;"), (0, .long 18446744073709551488), (1, .long 127), (1, .fieldref 235 236), (0, .class_ 237), (0, .nameAndType 238 239), (0, u "java/lang/Long$LongCache"), (0, u "cache"), (0, u "[Ljava/lang/Long;"), (0, .methodref 1 241), (0, .nameAndType 59 242), (0, u "(J)V"), (27, .methodref 271 58), (0, .class_ 272), (0, u "java/lang/Number"), (0, .fieldref 1 274), (0, .nameAndType 275 276), (0, u "value"), (0, u "J"), (84, u "TYPE"), (0, u "Ljava/lang/Class;"), (0, .class_ 364), (0, u "java/lang/Comparable"), (0, .class_ 366), (0, u "java/lang/constant/Constable"), (0, .class_ 368), (0, u "java/lang/constant/ConstantDesc"), (0, u "MIN_VALUE"), (1, u "MAX_VALUE"), (4, u "SIZE"), (0, u "I"), (1, u "BYTES"), (1, u "serialVersionUID")] 142

def k13c0 : Code := { maxStack := 4, maxLocals := 3, code := jdk_35_method_24_code, exceptionTable := #[], attributes := #[] }
def k13m0 : Method := { name := "valueOf", desc := "(J)Ljava/lang/Long;", sig := { parameters := [.long], returnType := some (.object "java/lang/Long") }, accessFlags := 9, code := some k13c0 }
def k13c1 : Code := { maxStack := 3, maxLocals := 3, code := jdk_35_method_26_code, exceptionTable := #[], attributes := #[] }
def k13m1 : Method := { name := "<init>", desc := "(J)V", sig := { parameters := [.long], returnType := none }, accessFlags := 1, code := some k13c1 }
/-- java/lang/Long -/
def k13 : Class := { plain "java/lang/Long" (some 12) with
  accessFlags := 49
  interfaces := #[4, 3, 9]
  cf := some (fileOf pool13 1 #[.nestMembers #[235]] #[{ accessFlags := 9, nameIndex := 85, descriptorIndex := 229, attributes := #[] }, { accessFlags := 1, nameIndex := 59, descriptorIndex := 242, attributes := #[] }] 49 271 #[363, 365, 367] #[{ accessFlags := 25, nameIndex := 369, descriptorIndex := 276, attributes := #[] }, { accessFlags := 25, nameIndex := 371, descriptorIndex := 276, attributes := #[] }, { accessFlags := 25, nameIndex := 361, descriptorIndex := 362, attributes := #[] }, { accessFlags := 18, nameIndex := 275, descriptorIndex := 276, attributes := #[] }, { accessFlags := 25, nameIndex := 376, descriptorIndex := 377, attributes := #[] }, { accessFlags := 25, nameIndex := 379, descriptorIndex := 377, attributes := #[] }, { accessFlags := 26, nameIndex := 381, descriptorIndex := 276, attributes := #[] }])
  fields := #[{ name := "MIN_VALUE", type := .long, accessFlags := 25, slot := 0, constantValue := 0 }, { name := "MAX_VALUE", type := .long, accessFlags := 25, slot := 1, constantValue := 0 }, { name := "TYPE", type := (.object "java/lang/Class"), accessFlags := 25, slot := 2, constantValue := 0 }, { name := "value", type := .long, accessFlags := 18, slot := 0, constantValue := 0 }, { name := "SIZE", type := .int, accessFlags := 25, slot := 3, constantValue := 0 }, { name := "BYTES", type := .int, accessFlags := 25, slot := 4, constantValue := 0 }, { name := "serialVersionUID", type := .long, accessFlags := 26, slot := 5, constantValue := 0 }]
  methods := #[k13m0, k13m1]
  instanceTypes := #[.long]
  staticTypes := #[.long, .long, (.object "java/lang/Class"), .int, .int, .long]
  resolved := Array.replicate 524 none
  statics := none }

def pool14 : Array CpInfo := pool [(2, .class_ 4), (1, u "java/lang/Object"), (0, u "<init>"), (0, u "()V"), (0, .class_ 8), (0, u "java/lang/Long"), (7, .class_ 18), (1, u "java/lang/Long$LongCache"), (0, u "$assertionsDisabled"), (0, u "Z"), (8, u "archivedCache"), (0, u "[Ljava/lang/Long;"), (7, u "cache")] 24

def k14m0 : Method := { name := "<init>", desc := "()V", sig := { parameters := [], returnType := none }, accessFlags := 2, code := none }
/-- java/lang/Long$LongCache -/
def k14 : Class := { plain "java/lang/Long$LongCache" (some 0) with
  accessFlags := 48
  interfaces := #[]
  cf := some (fileOf pool14 16 #[.nestHost 7] #[{ accessFlags := 2, nameIndex := 5, descriptorIndex := 6, attributes := #[] }] 48 2 #[] #[{ accessFlags := 24, nameIndex := 38, descriptorIndex := 30, attributes := #[] }, { accessFlags := 8, nameIndex := 29, descriptorIndex := 30, attributes := #[] }, { accessFlags := 4120, nameIndex := 19, descriptorIndex := 20, attributes := #[] }])
  fields := #[{ name := "cache", type := (.array (.object "java/lang/Long")), accessFlags := 24, slot := 0, constantValue := 0 }, { name := "archivedCache", type := (.array (.object "java/lang/Long")), accessFlags := 8, slot := 1, constantValue := 0 }, { name := "$assertionsDisabled", type := .boolean, accessFlags := 4120, slot := 2, constantValue := 0 }]
  methods := #[k14m0]
  instanceTypes := #[]
  staticTypes := #[(.array (.object "java/lang/Long")), (.array (.object "java/lang/Long")), .boolean]
  resolved := Array.replicate 63 none
  statics := some 1 }

def pool15 : Array CpInfo := pool [(1, u "java/lang/Cloneable"), (0, .class_ 1), (0, u "java/lang/Object"), (0, .class_ 3)] 3

/-- java/lang/Cloneable -/
def k15 : Class := { plain "java/lang/Cloneable" (some 0) with
  accessFlags := 1537
  interfaces := #[]
  cf := some (fileOf pool15 2 #[] #[] 1537 4 #[] #[])
  fields := #[]
  methods := #[]
  instanceTypes := #[]
  staticTypes := #[]
  resolved := Array.replicate 8 none
  statics := none }

/-- the primitive byte -/
def k16 : Class := { plain "byte" none with kind := .primitive 'B', accessFlags := 0x411 }
/-- [B -/
def k17 : Class := { plain "[B" (some 0) with kind := .array 16 .byte, interfaces := #[15, 5], accessFlags := 1041 }

/-- the primitive int -/
def k18 : Class := { plain "int" none with kind := .primitive 'I', accessFlags := 0x411 }
/-- [I -/
def k19 : Class := { plain "[I" (some 0) with kind := .array 18 .int, interfaces := #[15, 5], accessFlags := 1041 }

/-- [Ljava/lang/Long; -/
def k20 : Class := { plain "[Ljava/lang/Long;" (some 0) with kind := .array 13 (.object "java/lang/Long"), interfaces := #[15, 5], accessFlags := 1041 }

def heap : Heap := #[{ cls := 7, slots := #[.ref 259, .ref 260, .ref 261, .null], vm := .statics 7 },
  { cls := 14, slots := #[.ref 2, .null, .int 0], vm := .statics 14 },
  { cls := 20, slots := #[.ref 3, .ref 4, .ref 5, .ref 6, .ref 7, .ref 8, .ref 9, .ref 10, .ref 11, .ref 12, .ref 13, .ref 14, .ref 15, .ref 16, .ref 17, .ref 18, .ref 19, .ref 20, .ref 21, .ref 22, .ref 23, .ref 24, .ref 25, .ref 26, .ref 27, .ref 28, .ref 29, .ref 30, .ref 31, .ref 32, .ref 33, .ref 34, .ref 35, .ref 36, .ref 37, .ref 38, .ref 39, .ref 40, .ref 41, .ref 42, .ref 43, .ref 44, .ref 45, .ref 46, .ref 47, .ref 48, .ref 49, .ref 50, .ref 51, .ref 52, .ref 53, .ref 54, .ref 55, .ref 56, .ref 57, .ref 58, .ref 59, .ref 60, .ref 61, .ref 62, .ref 63, .ref 64, .ref 65, .ref 66, .ref 67, .ref 68, .ref 69, .ref 70, .ref 71, .ref 72, .ref 73, .ref 74, .ref 75, .ref 76, .ref 77, .ref 78, .ref 79, .ref 80, .ref 81, .ref 82, .ref 83, .ref 84, .ref 85, .ref 86, .ref 87, .ref 88, .ref 89, .ref 90, .ref 91, .ref 92, .ref 93, .ref 94, .ref 95, .ref 96, .ref 97, .ref 98, .ref 99, .ref 100, .ref 101, .ref 102, .ref 103, .ref 104, .ref 105, .ref 106, .ref 107, .ref 108, .ref 109, .ref 110, .ref 111, .ref 112, .ref 113, .ref 114, .ref 115, .ref 116, .ref 117, .ref 118, .ref 119, .ref 120, .ref 121, .ref 122, .ref 123, .ref 124, .ref 125, .ref 126, .ref 127, .ref 128, .ref 129, .ref 130, .ref 131, .ref 132, .ref 133, .ref 134, .ref 135, .ref 136, .ref 137, .ref 138, .ref 139, .ref 140, .ref 141, .ref 142, .ref 143, .ref 144, .ref 145, .ref 146, .ref 147, .ref 148, .ref 149, .ref 150, .ref 151, .ref 152, .ref 153, .ref 154, .ref 155, .ref 156, .ref 157, .ref 158, .ref 159, .ref 160, .ref 161, .ref 162, .ref 163, .ref 164, .ref 165, .ref 166, .ref 167, .ref 168, .ref 169, .ref 170, .ref 171, .ref 172, .ref 173, .ref 174, .ref 175, .ref 176, .ref 177, .ref 178, .ref 179, .ref 180, .ref 181, .ref 182, .ref 183, .ref 184, .ref 185, .ref 186, .ref 187, .ref 188, .ref 189, .ref 190, .ref 191, .ref 192, .ref 193, .ref 194, .ref 195, .ref 196, .ref 197, .ref 198, .ref 199, .ref 200, .ref 201, .ref 202, .ref 203, .ref 204, .ref 205, .ref 206, .ref 207, .ref 208, .ref 209, .ref 210, .ref 211, .ref 212, .ref 213, .ref 214, .ref 215, .ref 216, .ref 217, .ref 218, .ref 219, .ref 220, .ref 221, .ref 222, .ref 223, .ref 224, .ref 225, .ref 226, .ref 227, .ref 228, .ref 229, .ref 230, .ref 231, .ref 232, .ref 233, .ref 234, .ref 235, .ref 236, .ref 237, .ref 238, .ref 239, .ref 240, .ref 241, .ref 242, .ref 243, .ref 244, .ref 245, .ref 246, .ref 247, .ref 248, .ref 249, .ref 250, .ref 251, .ref 252, .ref 253, .ref 254, .ref 255, .ref 256, .ref 257, .ref 258], vm := .none },
  { cls := 13, slots := #[.long (-128)], vm := .none },
  { cls := 13, slots := #[.long (-127)], vm := .none },
  { cls := 13, slots := #[.long (-126)], vm := .none },
  { cls := 13, slots := #[.long (-125)], vm := .none },
  { cls := 13, slots := #[.long (-124)], vm := .none },
  { cls := 13, slots := #[.long (-123)], vm := .none },
  { cls := 13, slots := #[.long (-122)], vm := .none },
  { cls := 13, slots := #[.long (-121)], vm := .none },
  { cls := 13, slots := #[.long (-120)], vm := .none },
  { cls := 13, slots := #[.long (-119)], vm := .none },
  { cls := 13, slots := #[.long (-118)], vm := .none },
  { cls := 13, slots := #[.long (-117)], vm := .none },
  { cls := 13, slots := #[.long (-116)], vm := .none },
  { cls := 13, slots := #[.long (-115)], vm := .none },
  { cls := 13, slots := #[.long (-114)], vm := .none },
  { cls := 13, slots := #[.long (-113)], vm := .none },
  { cls := 13, slots := #[.long (-112)], vm := .none },
  { cls := 13, slots := #[.long (-111)], vm := .none },
  { cls := 13, slots := #[.long (-110)], vm := .none },
  { cls := 13, slots := #[.long (-109)], vm := .none },
  { cls := 13, slots := #[.long (-108)], vm := .none },
  { cls := 13, slots := #[.long (-107)], vm := .none },
  { cls := 13, slots := #[.long (-106)], vm := .none },
  { cls := 13, slots := #[.long (-105)], vm := .none },
  { cls := 13, slots := #[.long (-104)], vm := .none },
  { cls := 13, slots := #[.long (-103)], vm := .none },
  { cls := 13, slots := #[.long (-102)], vm := .none },
  { cls := 13, slots := #[.long (-101)], vm := .none },
  { cls := 13, slots := #[.long (-100)], vm := .none },
  { cls := 13, slots := #[.long (-99)], vm := .none },
  { cls := 13, slots := #[.long (-98)], vm := .none },
  { cls := 13, slots := #[.long (-97)], vm := .none },
  { cls := 13, slots := #[.long (-96)], vm := .none },
  { cls := 13, slots := #[.long (-95)], vm := .none },
  { cls := 13, slots := #[.long (-94)], vm := .none },
  { cls := 13, slots := #[.long (-93)], vm := .none },
  { cls := 13, slots := #[.long (-92)], vm := .none },
  { cls := 13, slots := #[.long (-91)], vm := .none },
  { cls := 13, slots := #[.long (-90)], vm := .none },
  { cls := 13, slots := #[.long (-89)], vm := .none },
  { cls := 13, slots := #[.long (-88)], vm := .none },
  { cls := 13, slots := #[.long (-87)], vm := .none },
  { cls := 13, slots := #[.long (-86)], vm := .none },
  { cls := 13, slots := #[.long (-85)], vm := .none },
  { cls := 13, slots := #[.long (-84)], vm := .none },
  { cls := 13, slots := #[.long (-83)], vm := .none },
  { cls := 13, slots := #[.long (-82)], vm := .none },
  { cls := 13, slots := #[.long (-81)], vm := .none },
  { cls := 13, slots := #[.long (-80)], vm := .none },
  { cls := 13, slots := #[.long (-79)], vm := .none },
  { cls := 13, slots := #[.long (-78)], vm := .none },
  { cls := 13, slots := #[.long (-77)], vm := .none },
  { cls := 13, slots := #[.long (-76)], vm := .none },
  { cls := 13, slots := #[.long (-75)], vm := .none },
  { cls := 13, slots := #[.long (-74)], vm := .none },
  { cls := 13, slots := #[.long (-73)], vm := .none },
  { cls := 13, slots := #[.long (-72)], vm := .none },
  { cls := 13, slots := #[.long (-71)], vm := .none },
  { cls := 13, slots := #[.long (-70)], vm := .none },
  { cls := 13, slots := #[.long (-69)], vm := .none },
  { cls := 13, slots := #[.long (-68)], vm := .none },
  { cls := 13, slots := #[.long (-67)], vm := .none },
  { cls := 13, slots := #[.long (-66)], vm := .none },
  { cls := 13, slots := #[.long (-65)], vm := .none },
  { cls := 13, slots := #[.long (-64)], vm := .none },
  { cls := 13, slots := #[.long (-63)], vm := .none },
  { cls := 13, slots := #[.long (-62)], vm := .none },
  { cls := 13, slots := #[.long (-61)], vm := .none },
  { cls := 13, slots := #[.long (-60)], vm := .none },
  { cls := 13, slots := #[.long (-59)], vm := .none },
  { cls := 13, slots := #[.long (-58)], vm := .none },
  { cls := 13, slots := #[.long (-57)], vm := .none },
  { cls := 13, slots := #[.long (-56)], vm := .none },
  { cls := 13, slots := #[.long (-55)], vm := .none },
  { cls := 13, slots := #[.long (-54)], vm := .none },
  { cls := 13, slots := #[.long (-53)], vm := .none },
  { cls := 13, slots := #[.long (-52)], vm := .none },
  { cls := 13, slots := #[.long (-51)], vm := .none },
  { cls := 13, slots := #[.long (-50)], vm := .none },
  { cls := 13, slots := #[.long (-49)], vm := .none },
  { cls := 13, slots := #[.long (-48)], vm := .none },
  { cls := 13, slots := #[.long (-47)], vm := .none },
  { cls := 13, slots := #[.long (-46)], vm := .none },
  { cls := 13, slots := #[.long (-45)], vm := .none },
  { cls := 13, slots := #[.long (-44)], vm := .none },
  { cls := 13, slots := #[.long (-43)], vm := .none },
  { cls := 13, slots := #[.long (-42)], vm := .none },
  { cls := 13, slots := #[.long (-41)], vm := .none },
  { cls := 13, slots := #[.long (-40)], vm := .none },
  { cls := 13, slots := #[.long (-39)], vm := .none },
  { cls := 13, slots := #[.long (-38)], vm := .none },
  { cls := 13, slots := #[.long (-37)], vm := .none },
  { cls := 13, slots := #[.long (-36)], vm := .none },
  { cls := 13, slots := #[.long (-35)], vm := .none },
  { cls := 13, slots := #[.long (-34)], vm := .none },
  { cls := 13, slots := #[.long (-33)], vm := .none },
  { cls := 13, slots := #[.long (-32)], vm := .none },
  { cls := 13, slots := #[.long (-31)], vm := .none },
  { cls := 13, slots := #[.long (-30)], vm := .none },
  { cls := 13, slots := #[.long (-29)], vm := .none },
  { cls := 13, slots := #[.long (-28)], vm := .none },
  { cls := 13, slots := #[.long (-27)], vm := .none },
  { cls := 13, slots := #[.long (-26)], vm := .none },
  { cls := 13, slots := #[.long (-25)], vm := .none },
  { cls := 13, slots := #[.long (-24)], vm := .none },
  { cls := 13, slots := #[.long (-23)], vm := .none },
  { cls := 13, slots := #[.long (-22)], vm := .none },
  { cls := 13, slots := #[.long (-21)], vm := .none },
  { cls := 13, slots := #[.long (-20)], vm := .none },
  { cls := 13, slots := #[.long (-19)], vm := .none },
  { cls := 13, slots := #[.long (-18)], vm := .none },
  { cls := 13, slots := #[.long (-17)], vm := .none },
  { cls := 13, slots := #[.long (-16)], vm := .none },
  { cls := 13, slots := #[.long (-15)], vm := .none },
  { cls := 13, slots := #[.long (-14)], vm := .none },
  { cls := 13, slots := #[.long (-13)], vm := .none },
  { cls := 13, slots := #[.long (-12)], vm := .none },
  { cls := 13, slots := #[.long (-11)], vm := .none },
  { cls := 13, slots := #[.long (-10)], vm := .none },
  { cls := 13, slots := #[.long (-9)], vm := .none },
  { cls := 13, slots := #[.long (-8)], vm := .none },
  { cls := 13, slots := #[.long (-7)], vm := .none },
  { cls := 13, slots := #[.long (-6)], vm := .none },
  { cls := 13, slots := #[.long (-5)], vm := .none },
  { cls := 13, slots := #[.long (-4)], vm := .none },
  { cls := 13, slots := #[.long (-3)], vm := .none },
  { cls := 13, slots := #[.long (-2)], vm := .none },
  { cls := 13, slots := #[.long (-1)], vm := .none },
  { cls := 13, slots := #[.long (0)], vm := .none },
  { cls := 13, slots := #[.long (1)], vm := .none },
  { cls := 13, slots := #[.long (2)], vm := .none },
  { cls := 13, slots := #[.long (3)], vm := .none },
  { cls := 13, slots := #[.long (4)], vm := .none },
  { cls := 13, slots := #[.long (5)], vm := .none },
  { cls := 13, slots := #[.long (6)], vm := .none },
  { cls := 13, slots := #[.long (7)], vm := .none },
  { cls := 13, slots := #[.long (8)], vm := .none },
  { cls := 13, slots := #[.long (9)], vm := .none },
  { cls := 13, slots := #[.long (10)], vm := .none },
  { cls := 13, slots := #[.long (11)], vm := .none },
  { cls := 13, slots := #[.long (12)], vm := .none },
  { cls := 13, slots := #[.long (13)], vm := .none },
  { cls := 13, slots := #[.long (14)], vm := .none },
  { cls := 13, slots := #[.long (15)], vm := .none },
  { cls := 13, slots := #[.long (16)], vm := .none },
  { cls := 13, slots := #[.long (17)], vm := .none },
  { cls := 13, slots := #[.long (18)], vm := .none },
  { cls := 13, slots := #[.long (19)], vm := .none },
  { cls := 13, slots := #[.long (20)], vm := .none },
  { cls := 13, slots := #[.long (21)], vm := .none },
  { cls := 13, slots := #[.long (22)], vm := .none },
  { cls := 13, slots := #[.long (23)], vm := .none },
  { cls := 13, slots := #[.long (24)], vm := .none },
  { cls := 13, slots := #[.long (25)], vm := .none },
  { cls := 13, slots := #[.long (26)], vm := .none },
  { cls := 13, slots := #[.long (27)], vm := .none },
  { cls := 13, slots := #[.long (28)], vm := .none },
  { cls := 13, slots := #[.long (29)], vm := .none },
  { cls := 13, slots := #[.long (30)], vm := .none },
  { cls := 13, slots := #[.long (31)], vm := .none },
  { cls := 13, slots := #[.long (32)], vm := .none },
  { cls := 13, slots := #[.long (33)], vm := .none },
  { cls := 13, slots := #[.long (34)], vm := .none },
  { cls := 13, slots := #[.long (35)], vm := .none },
  { cls := 13, slots := #[.long (36)], vm := .none },
  { cls := 13, slots := #[.long (37)], vm := .none },
  { cls := 13, slots := #[.long (38)], vm := .none },
  { cls := 13, slots := #[.long (39)], vm := .none },
  { cls := 13, slots := #[.long (40)], vm := .none },
  { cls := 13, slots := #[.long (41)], vm := .none },
  { cls := 13, slots := #[.long (42)], vm := .none },
  { cls := 13, slots := #[.long (43)], vm := .none },
  { cls := 13, slots := #[.long (44)], vm := .none },
  { cls := 13, slots := #[.long (45)], vm := .none },
  { cls := 13, slots := #[.long (46)], vm := .none },
  { cls := 13, slots := #[.long (47)], vm := .none },
  { cls := 13, slots := #[.long (48)], vm := .none },
  { cls := 13, slots := #[.long (49)], vm := .none },
  { cls := 13, slots := #[.long (50)], vm := .none },
  { cls := 13, slots := #[.long (51)], vm := .none },
  { cls := 13, slots := #[.long (52)], vm := .none },
  { cls := 13, slots := #[.long (53)], vm := .none },
  { cls := 13, slots := #[.long (54)], vm := .none },
  { cls := 13, slots := #[.long (55)], vm := .none },
  { cls := 13, slots := #[.long (56)], vm := .none },
  { cls := 13, slots := #[.long (57)], vm := .none },
  { cls := 13, slots := #[.long (58)], vm := .none },
  { cls := 13, slots := #[.long (59)], vm := .none },
  { cls := 13, slots := #[.long (60)], vm := .none },
  { cls := 13, slots := #[.long (61)], vm := .none },
  { cls := 13, slots := #[.long (62)], vm := .none },
  { cls := 13, slots := #[.long (63)], vm := .none },
  { cls := 13, slots := #[.long (64)], vm := .none },
  { cls := 13, slots := #[.long (65)], vm := .none },
  { cls := 13, slots := #[.long (66)], vm := .none },
  { cls := 13, slots := #[.long (67)], vm := .none },
  { cls := 13, slots := #[.long (68)], vm := .none },
  { cls := 13, slots := #[.long (69)], vm := .none },
  { cls := 13, slots := #[.long (70)], vm := .none },
  { cls := 13, slots := #[.long (71)], vm := .none },
  { cls := 13, slots := #[.long (72)], vm := .none },
  { cls := 13, slots := #[.long (73)], vm := .none },
  { cls := 13, slots := #[.long (74)], vm := .none },
  { cls := 13, slots := #[.long (75)], vm := .none },
  { cls := 13, slots := #[.long (76)], vm := .none },
  { cls := 13, slots := #[.long (77)], vm := .none },
  { cls := 13, slots := #[.long (78)], vm := .none },
  { cls := 13, slots := #[.long (79)], vm := .none },
  { cls := 13, slots := #[.long (80)], vm := .none },
  { cls := 13, slots := #[.long (81)], vm := .none },
  { cls := 13, slots := #[.long (82)], vm := .none },
  { cls := 13, slots := #[.long (83)], vm := .none },
  { cls := 13, slots := #[.long (84)], vm := .none },
  { cls := 13, slots := #[.long (85)], vm := .none },
  { cls := 13, slots := #[.long (86)], vm := .none },
  { cls := 13, slots := #[.long (87)], vm := .none },
  { cls := 13, slots := #[.long (88)], vm := .none },
  { cls := 13, slots := #[.long (89)], vm := .none },
  { cls := 13, slots := #[.long (90)], vm := .none },
  { cls := 13, slots := #[.long (91)], vm := .none },
  { cls := 13, slots := #[.long (92)], vm := .none },
  { cls := 13, slots := #[.long (93)], vm := .none },
  { cls := 13, slots := #[.long (94)], vm := .none },
  { cls := 13, slots := #[.long (95)], vm := .none },
  { cls := 13, slots := #[.long (96)], vm := .none },
  { cls := 13, slots := #[.long (97)], vm := .none },
  { cls := 13, slots := #[.long (98)], vm := .none },
  { cls := 13, slots := #[.long (99)], vm := .none },
  { cls := 13, slots := #[.long (100)], vm := .none },
  { cls := 13, slots := #[.long (101)], vm := .none },
  { cls := 13, slots := #[.long (102)], vm := .none },
  { cls := 13, slots := #[.long (103)], vm := .none },
  { cls := 13, slots := #[.long (104)], vm := .none },
  { cls := 13, slots := #[.long (105)], vm := .none },
  { cls := 13, slots := #[.long (106)], vm := .none },
  { cls := 13, slots := #[.long (107)], vm := .none },
  { cls := 13, slots := #[.long (108)], vm := .none },
  { cls := 13, slots := #[.long (109)], vm := .none },
  { cls := 13, slots := #[.long (110)], vm := .none },
  { cls := 13, slots := #[.long (111)], vm := .none },
  { cls := 13, slots := #[.long (112)], vm := .none },
  { cls := 13, slots := #[.long (113)], vm := .none },
  { cls := 13, slots := #[.long (114)], vm := .none },
  { cls := 13, slots := #[.long (115)], vm := .none },
  { cls := 13, slots := #[.long (116)], vm := .none },
  { cls := 13, slots := #[.long (117)], vm := .none },
  { cls := 13, slots := #[.long (118)], vm := .none },
  { cls := 13, slots := #[.long (119)], vm := .none },
  { cls := 13, slots := #[.long (120)], vm := .none },
  { cls := 13, slots := #[.long (121)], vm := .none },
  { cls := 13, slots := #[.long (122)], vm := .none },
  { cls := 13, slots := #[.long (123)], vm := .none },
  { cls := 13, slots := #[.long (124)], vm := .none },
  { cls := 13, slots := #[.long (125)], vm := .none },
  { cls := 13, slots := #[.long (126)], vm := .none },
  { cls := 13, slots := #[.long (127)], vm := .none },
  { cls := 7, slots := #[.null, .int 0, .int 0, .null], vm := .none },
  { cls := 7, slots := #[.null, .int 1, .int 0, .null], vm := .none },
  { cls := 7, slots := #[.null, .int 2, .int 0, .null], vm := .none }]
def classes : Array Class := #[k0, k1, k2, k3, k4, k5, k6, k7, k8, k9, k10, k11, k12, k13, k14, k15, k16, k17, k18, k19, k20]
def interned : List (Array UInt16 × Addr) := []
def slotsUsed : Nat := 531
def theMethod : MethodId := ⟨1, 2⟩
def args0 : Array Value := #[.int 5, .long 300, .long 2, .long 1, .long 0, .int 0]
def aboutOver (below : List Frame) : State where
  vm := { classes := classes, interned := interned.toArray }
  heap := heap
  slotsUsed := slotsUsed
  threads := #[{ frames := .invoking theMethod args0 :: below }]
def below0 : List Frame := [.native { method := ⟨0, 0⟩, args := #[] }]
def about1 : State := aboutOver below0
def p0 : Program := .bare "" "" ""
def e0 : Env := launch0.env 0 0 0
theorem w_frames : about1.frames = Frame.invoking theMethod args0 :: below0 := rfl
set_option maxRecDepth 65536 in
theorem w_args : argsFit about1.vm theMethod args0 = true := by decide +kernel
set_option maxRecDepth 65536 in
theorem w_heap : heapFits about1 = true := by decide +kernel
set_option maxRecDepth 65536 in
theorem w_runnable : about1.curStatus? = some .runnable := by decide +kernel
set_option maxRecDepth 65536 in
theorem w_alone : about1.alone = true := by decide +kernel
set_option maxRecDepth 65536 in
theorem w_named : about1.methodNamed? x = some theMethod := by decide +kernel
set_option maxRecDepth 65536 in
theorem w_hears : about1.hears theMethod below0 = true := by decide +kernel
set_option maxRecDepth 65536 in
theorem w_ripe : about1.ripe theMethod args0 below0 = true := by decide +kernel
theorem w_running : about1.status = .running := rfl
set_option maxRecDepth 65536 in
theorem w_room : about1.hasRoom e0.platform room_1 = true :=
  launch0.hasRoom_least _ room_1 (by decide +kernel) (by decide +kernel) (by decide +kernel) (by decide +kernel) (by decide +kernel) (by decide +kernel)
theorem allAtoms_all (ts : List Jvm.Cond) (a : Array Jvm.Value) (st : Jvm.State) : (allAtoms ts).before a st = ts.all (fun c => c.before a st) := by
  induction ts with
  | nil => rfl
  | cons c t ih =>
    show (Jvm.Cond.and c (allAtoms t)).before a st = _
    rw [Jvm.Cond.before_and, ih, List.all_cons]
def words1 : List Jvm.Cond := Jvm.Cond.code x code maxLocals ret :: tables_1
/-- a 'code' word, met by the world's own term for the bytes: nothing is compared byte by byte -/
theorem code_word {y : MethodName} {bytes : ByteArray} {mx : Nat} {rt : Option FieldType} {a : Array Value} {s : State} {m : MethodId} {meth : Method} {c : Code} (h1 : s.methodNamed? y = some m) (h2 : s.vm.method? m = some meth) (h3 : meth.code = some c) (h4 : c.code = bytes)
    (h5 : (c.maxLocals == mx && c.exceptionTable.isEmpty && decide (c.maxStack ≤ mostOperands) && decide (meth.sig.returnType = rt) && !meth.locks && decide (parseMethodDescriptor y.desc = some meth.sig)) = true) : (Jvm.Cond.code y bytes mx rt).before a s = true := by
  simp only [Bool.and_eq_true, beq_iff_eq, Bool.not_eq_true', decide_eq_true_eq] at h5
  obtain ⟨⟨⟨⟨⟨g1, g2⟩, g3⟩, g4⟩, g5⟩, g6⟩ := h5
  simp [Cond.before, Cond.holds, Cond.value, h1, h2, h3, h4, g1, g2, g3, g4, g5, g6]
def isCode : Jvm.Cond → Bool
  | .code _ _ _ _ => true
  | _ => false
theorem all_split {L : List Jvm.Cond} {P : Jvm.Cond → Bool} (h1 : L.all (fun c => isCode c || P c) = true) (h2 : ∀ c ∈ L.filter isCode, P c = true) : L.all P = true := by
  refine List.all_eq_true.mpr fun c hc => ?_
  have h := List.all_eq_true.mp h1 c hc
  rcases Bool.eq_false_or_eq_true (isCode c) with hi | hi
  · exact h2 c (List.mem_filter.mpr ⟨hc, hi⟩)
  · simpa [hi] using h
set_option maxRecDepth 65536 in
theorem w_c0 : (Jvm.Cond.code x code maxLocals ret).before args0 about1 = true := code_word (m := ⟨1, 2⟩) (meth := k1m2) (c := k1c2) (by decide +kernel) rfl rfl rfl (by decide +kernel)
set_option maxRecDepth 65536 in
theorem w_c1 : (Jvm.Cond.code ({ cls := "com/example/spanwise/spanwise/PurchaseEqualsPinLaw", name := "kind", desc := "(I)Lcom/example/spanwise/spanwise/ReadingLogPlan$Kind;" } : Jvm.MethodName) method_2_code (1 : Nat) (Option.some (Jvm.ClassFile.FieldType.object "com/example/spanwise/spanwise/ReadingLogPlan$Kind"))).before args0 about1 = true := code_word (m := ⟨1, 1⟩) (meth := k1m1) (c := k1c1) (by decide +kernel) rfl rfl rfl (by decide +kernel)
set_option maxRecDepth 65536 in
theorem w_c2 : (Jvm.Cond.code ({ cls := "com/example/spanwise/spanwise/ReadingLogPlan$Purchase", name := "<init>", desc := "(Lcom/example/spanwise/spanwise/ReadingLogPlan$Kind;JJJ)V" } : Jvm.MethodName) prog_10_method_1_code (8 : Nat) (Option.none : Option Jvm.ClassFile.FieldType)).before args0 about1 = true := code_word (m := ⟨2, 0⟩) (meth := k2m0) (c := k2c0) (by decide +kernel) rfl rfl rfl (by decide +kernel)
set_option maxRecDepth 65536 in
theorem w_c3 : (Jvm.Cond.code ({ cls := "java/lang/Object", name := "<init>", desc := "()V" } : Jvm.MethodName) object_method_1_code (1 : Nat) (Option.none : Option Jvm.ClassFile.FieldType)).before args0 about1 = true := code_word (m := ⟨0, 0⟩) (meth := k0m0) (c := k0c0) (by decide +kernel) rfl rfl rfl (by decide +kernel)
set_option maxRecDepth 65536 in
theorem w_c4 : (Jvm.Cond.code ({ cls := "java/util/Objects", name := "requireNonNull", desc := "(Ljava/lang/Object;Ljava/lang/String;)Ljava/lang/Object;" } : Jvm.MethodName) jdk_31_method_11_code (2 : Nat) (Option.some (Jvm.ClassFile.FieldType.object "java/lang/Object"))).before args0 about1 = true := code_word (m := ⟨11, 1⟩) (meth := k11m1) (c := k11c1) (by decide +kernel) rfl rfl rfl (by decide +kernel)
set_option maxRecDepth 65536 in
theorem w_c5 : (Jvm.Cond.code ({ cls := "com/example/spanwise/spanwise/ReadingLogPlan$Purchase", name := "equals", desc := "(Ljava/lang/Object;)Z" } : Jvm.MethodName) prog_10_method_6_code (3 : Nat) (Option.some Jvm.ClassFile.FieldType.boolean)).before args0 about1 = true := code_word (m := ⟨2, 1⟩) (meth := k2m1) (c := k2c1) (by decide +kernel) rfl rfl rfl (by decide +kernel)
set_option maxRecDepth 65536 in
theorem w_c6 : (Jvm.Cond.code ({ cls := "java/lang/Long", name := "valueOf", desc := "(J)Ljava/lang/Long;" } : Jvm.MethodName) jdk_35_method_24_code (3 : Nat) (Option.some (Jvm.ClassFile.FieldType.object "java/lang/Long"))).before args0 about1 = true := code_word (m := ⟨13, 0⟩) (meth := k13m0) (c := k13c0) (by decide +kernel) rfl rfl rfl (by decide +kernel)
set_option maxRecDepth 65536 in
theorem w_c7 : (Jvm.Cond.code ({ cls := "java/lang/Long", name := "<init>", desc := "(J)V" } : Jvm.MethodName) jdk_35_method_26_code (3 : Nat) (Option.none : Option Jvm.ClassFile.FieldType)).before args0 about1 = true := code_word (m := ⟨13, 1⟩) (meth := k13m1) (c := k13c1) (by decide +kernel) rfl rfl rfl (by decide +kernel)
set_option maxRecDepth 65536 in
theorem w_c8 : (Jvm.Cond.code ({ cls := "java/lang/Number", name := "<init>", desc := "()V" } : Jvm.MethodName) jdk_18_method_1_code (1 : Nat) (Option.none : Option Jvm.ClassFile.FieldType)).before args0 about1 = true := code_word (m := ⟨12, 0⟩) (meth := k12m0) (c := k12c0) (by decide +kernel) rfl rfl rfl (by decide +kernel)
def codes1 : List Jvm.Cond := [Jvm.Cond.code x code maxLocals ret, Jvm.Cond.code ({ cls := "com/example/spanwise/spanwise/PurchaseEqualsPinLaw", name := "kind", desc := "(I)Lcom/example/spanwise/spanwise/ReadingLogPlan$Kind;" } : Jvm.MethodName) method_2_code (1 : Nat) (Option.some (Jvm.ClassFile.FieldType.object "com/example/spanwise/spanwise/ReadingLogPlan$Kind")), Jvm.Cond.code ({ cls := "com/example/spanwise/spanwise/ReadingLogPlan$Purchase", name := "<init>", desc := "(Lcom/example/spanwise/spanwise/ReadingLogPlan$Kind;JJJ)V" } : Jvm.MethodName) prog_10_method_1_code (8 : Nat) (Option.none : Option Jvm.ClassFile.FieldType), Jvm.Cond.code ({ cls := "java/lang/Object", name := "<init>", desc := "()V" } : Jvm.MethodName) object_method_1_code (1 : Nat) (Option.none : Option Jvm.ClassFile.FieldType), Jvm.Cond.code ({ cls := "java/util/Objects", name := "requireNonNull", desc := "(Ljava/lang/Object;Ljava/lang/String;)Ljava/lang/Object;" } : Jvm.MethodName) jdk_31_method_11_code (2 : Nat) (Option.some (Jvm.ClassFile.FieldType.object "java/lang/Object")), Jvm.Cond.code ({ cls := "com/example/spanwise/spanwise/ReadingLogPlan$Purchase", name := "equals", desc := "(Ljava/lang/Object;)Z" } : Jvm.MethodName) prog_10_method_6_code (3 : Nat) (Option.some Jvm.ClassFile.FieldType.boolean), Jvm.Cond.code ({ cls := "java/lang/Long", name := "valueOf", desc := "(J)Ljava/lang/Long;" } : Jvm.MethodName) jdk_35_method_24_code (3 : Nat) (Option.some (Jvm.ClassFile.FieldType.object "java/lang/Long")), Jvm.Cond.code ({ cls := "java/lang/Long", name := "<init>", desc := "(J)V" } : Jvm.MethodName) jdk_35_method_26_code (3 : Nat) (Option.none : Option Jvm.ClassFile.FieldType), Jvm.Cond.code ({ cls := "java/lang/Number", name := "<init>", desc := "()V" } : Jvm.MethodName) jdk_18_method_1_code (1 : Nat) (Option.none : Option Jvm.ClassFile.FieldType)]
set_option maxRecDepth 65536 in
theorem codes_eq : words1.filter isCode = codes1 := rfl
theorem w_codes : ∀ c ∈ words1.filter isCode, c.before args0 about1 = true := by
  rw [codes_eq]
  intro c hc
  simp only [codes1, List.mem_cons, List.not_mem_nil, or_false] at hc
  rcases hc with rfl | rfl | rfl | rfl | rfl | rfl | rfl | rfl | rfl
  · exact w_c0
  · exact w_c1
  · exact w_c2
  · exact w_c3
  · exact w_c4
  · exact w_c5
  · exact w_c6
  · exact w_c7
  · exact w_c8
set_option maxRecDepth 65536 in
theorem w_t1 : (words1.take 24).all (fun c => isCode c || c.before args0 about1) = true := by decide +kernel
set_option maxRecDepth 65536 in
theorem w_t2 : ((words1.drop 24).take 24).all (fun c => isCode c || c.before args0 about1) = true := by decide +kernel
set_option maxRecDepth 65536 in
theorem w_t3 : (((words1.drop 24).drop 24).take 24).all (fun c => isCode c || c.before args0 about1) = true := by decide +kernel
set_option maxRecDepth 65536 in
theorem w_t4 : (((words1.drop 24).drop 24).drop 24).all (fun c => isCode c || c.before args0 about1) = true := by decide +kernel
theorem w_tables : (allAtoms (Jvm.Cond.code x code maxLocals ret :: tables_1)).before args0 about1 = true := by
  rw [allAtoms_all]
  show words1.all (fun c => c.before args0 about1) = true
  refine all_split ?_ w_codes
  rw [← List.take_append_drop 24 words1, List.all_append, w_t1, ← List.take_append_drop 24 (words1.drop 24), List.all_append, w_t2, ← List.take_append_drop 24 ((words1.drop 24).drop 24), List.all_append, w_t3, w_t4]
  rfl
set_option maxRecDepth 65536 in
theorem w_rest : rest_1_c.before args0 about1 = true := by decide +kernel
set_option maxRecDepth 65536 in
theorem w_case : (Jvm.Cond.and given_1 narrow_1).before args0 about1 = true := by decide +kernel
theorem w_applies : (headSpec (Jvm.Cond.code x code maxLocals ret :: tables_1) room_1).applies x e0.platform about1 = true :=
  (Spec.applies_iff w_frames).mpr ⟨w_running, w_runnable, w_alone, w_named, w_hears, w_ripe, w_room, w_tables⟩
theorem atStart : AtStart classFile x code maxLocals ret World_1 tables_1 room_1 Calls_1 rest_1 Pre_1 launch0 p0 e0 about1 theMethod args0 below0 :=
  ⟨lists_1, trivial, launch0.admits_env _ _ _, launch0.least_env, fairChoices_fair.cas, fairChoices_fair.clock, w_frames, w_args, w_heap, w_applies, trivial, w_rest, w_case⟩
end start1
theorem witness_1 : WitnessClaimed_1 := ⟨start1.p0, start1.e0, start1.about1, start1.theMethod, start1.args0, start1.below0, start1.atStart⟩
end Jvm.Pilot.@@N@@
