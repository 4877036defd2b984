import JvmDerived
import JvmDerived.Pilot.@@N@@Statement
import JvmDerived.Pilot.@@N@@Code
set_option linter.unusedVariables false
set_option linter.unusedSimpArgs false
namespace Jvm.Pilot.@@N@@
open Jvm Jvm.ClassFile Sem Op Lib Jvm.Free Jvm.Stand Jvm.LawKit Jvm.RoadKit Bundle Jvm.Pilot.@@N@@.Jvm.D
/-! steps, taken forward -/
theorem own_fw {tb : Tables} {e : Env} {below : List Frame} {A A' : State} {P : State → Outcome → Prop} (h : ∀ t, Steps tb e below A' t → Steps tb e below A t) (g : ∃ U o, Steps tb e below A' U ∧ P U o) : ∃ U o, Steps tb e below A U ∧ P U o := by
  obtain ⟨U, o, s, r⟩ := g
  exact ⟨U, o, h U s, r⟩
theorem own_st {tb : Tables} {e : Env} {below : List Frame} {A A' t : State} (h : ∀ t, Steps tb e below A' t → Steps tb e below A t) (g : Steps tb e below A' t) : Steps tb e below A t := h t g
theorem own_plainE {Z : State} {h : Heap} {a : Addr} {C : String} (F : Exa Z h a C) : ∀ cell : Cell, h[a]? = some cell → cell.vm.isStatics = false := fun cell hc => by
  obtain ⟨c1, k1, h1, -, -, h4, -⟩ := F
  cases h1.symm.trans hc
  exact h4
theorem own_plainV {Z : State} {h : Heap} {a : Addr} {k : ClassId} {ty : FieldType} {z : Int32} {vs : List Value} {dv : Value} (F : Arv Z h a k ty z vs dv) : ∀ cell : Cell, h[a]? = some cell → cell.vm.isStatics = false := fun cell hc => by
  obtain ⟨c1, A, -⟩ := F
  cases A.1.symm.trans hc
  exact A.plain
theorem own_staKeep {Z : State} {h h' : Heap} {C n d : String} {v : Value} {ws : List Addr} (F : Sta Z h C n d v) (K : Keep h h' ws) (q : ∀ x ∈ ws, ∀ cell : Cell, h[x]? = some cell → cell.vm.isStatics = false) : Sta Z h' C n d v := by
  obtain ⟨cf, i, k, f, st, cell, h1, h2, h3, h4, h5, h6, h7⟩ := F
  exact ⟨cf, i, k, f, st, cell, h1, h2, h3, h4, K.2.1 st cell h5 (fun m => by rw [q st m cell h5] at h6; cases h6), h6, h7⟩
theorem own_insLt {Z : State} {h : Heap} {a : Addr} {C : String} {bo : Bool} (F : Ins Z h a C bo) : a < h.size := by
  obtain ⟨cell, cT, h1, -⟩ := F
  exact (Array.getElem?_eq_some_iff.mp h1).1
theorem own_insKeep {Z : State} {h h' : Heap} {a : Addr} {C : String} {bo : Bool} {ws : List Addr} (F : Ins Z h a C bo) (K : Keep h h' ws) : Ins Z h' a C bo := by
  obtain ⟨cell, cT, h1, h2, h3⟩ := F
  obtain ⟨c', e1, e2, e3, -⟩ := K.2.2 a cell h1
  exact ⟨c', cT, e1, h2, by rw [e2, e3]; exact h3⟩


def own_held (p : Int32) : Int32 := if (0 : Int32) < p then (1 : Int32) else (0 : Int32)
def own_step (c o i : Int32) : Int32 := if (((o.toUInt32 >>> (i &&& 31).toUInt32).toInt32) &&& (1 : Int32)) = (0 : Int32) then (if (0 : Int32) < c then (c - (1 : Int32)) else c) else (c + (1 : Int32))

theorem pn_com_example_measured_cache_measuredcache_cache_EntryVersion : plainName "com/example/measured_cache/measuredcache/cache/EntryVersion" = true := by first | (simp [plainName, overriddenIn]; done) | decide +kernel
theorem d_prog_7_method_1_code_0 : decode prog_7_method_1_code 0 = .ok (.aload_n 0, 1) := by decide +kernel
theorem d_prog_7_method_1_code_1 : decode prog_7_method_1_code 1 = .ok (.invokespecial 1, 3) := by decide +kernel
theorem d_prog_7_method_1_code_4 : decode prog_7_method_1_code 4 = .ok (.aload_n 0, 1) := by decide +kernel
theorem d_prog_7_method_1_code_5 : decode prog_7_method_1_code 5 = .ok (.aload_n 1, 1) := by decide +kernel
theorem d_prog_7_method_1_code_6 : decode prog_7_method_1_code 6 = .ok (.putfield 7, 3) := by decide +kernel
theorem d_prog_7_method_1_code_9 : decode prog_7_method_1_code 9 = .ok (.return_, 1) := by decide +kernel
theorem ef_rmEv (m : MethodId) (a1 : Addr) : entryFrame m #[(.ref a1), .null] 2 = mkF m 0 #[.val (.ref a1), .val .null] [] := by first | (simp [entryFrame, mkF, argsToLocals, Value.category]; done) | rfl
def Q_rmEv (Z : State) (a1 : Addr) (h0 : Heap) (n0 : Nat) (v : Option Value) (h : Heap) (L : List Loc) : Prop := v = none ∧ Fr n0 L ∧ Keep h0 h [a1] ∧ Exa Z h a1 "com/example/measured_cache/measuredcache/cache/Absence" ∧ Fld Z h a1 "com/example/measured_cache/measuredcache/cache/Absence" "holders" "I" (.int (0 : Int32))
set_option maxRecDepth 65536 in
set_option maxHeartbeats 40000000 in
theorem rmEv (l : Launch) (Z : State) (a0 : Array Value) (hw : ∀ d ∈ tables_1, d.before a0 Z = true) (ws : List Jvm.Cond) (a1 : Addr) (h0 : Heap) (n0 : Nat) (Z0 : n0 ≤ h0.size) (P0 : Exa Z h0 a1 "com/example/measured_cache/measuredcache/cache/Absence") (P1 : Fld Z h0 a1 "com/example/measured_cache/measuredcache/cache/EntryVersion" "content" "Ljava/lang/Object;" .null) (P2 : Fld Z h0 a1 "com/example/measured_cache/measuredcache/cache/Absence" "holders" "I" (.int (0 : Int32))) (g_a1 : n0 ≤ a1) :
    MetFree l (⟨"com/example/measured_cache/measuredcache/cache/EntryVersion", "<init>", "(Ljava/lang/Object;)V"⟩ : MethodName) (head1 (Jvm.Cond.code (⟨"com/example/measured_cache/measuredcache/cache/EntryVersion", "<init>", "(Ljava/lang/Object;)V"⟩ : MethodName) prog_7_method_1_code 2 none :: ws) ({ frames := 1, cells := 0, slots := 0, locals := 12 } : Room)) (fun a U => a = #[(.ref a1), .null] ∧ Z.Warmed39 U.vm ∧ U.heap = h0) (fun _ _ _ _ _ => True) (fun _ U o U' => ∃ v L, o = .returned v ∧ Q_rmEv Z a1 h0 n0 v U'.heap L ∧ FrameEnd U o U' L ({ frames := 1, cells := 0, slots := 0, locals := 12 } : Room).cells ({ frames := 1, cells := 0, slots := 0, locals := 12 } : Room).slots) := by
  refine MetFree.of_bodySF (plainFor_of_name pn_com_example_measured_cache_measuredcache_cache_EntryVersion) hisR ?_
  intro p e s m args below meth c s₁ Bd hml0 hP hK
  obtain ⟨rfl, hZ, hh⟩ := hP
  have hx := Bd.exec
  have hby := Bd.bytes
  have hml : c.maxLocals = 2 := hml0
  have hown : s.vm.findClass "com/example/measured_cache/measuredcache/cache/EntryVersion" = some m.cls := findClass_of_methodNamed Bd.named
  have hnm := (name_of_methodNamed Bd.named Bd.method).1
  have X0 : Stand p l e ({ frames := 1, cells := 0, slots := 0, locals := 12 } : Room) s m #[(.ref a1), .null] below meth c s₁ [] 0 0 := Stand.of_body Bd
  have e0 : s₁.heap = h0 := by rw [← hh, Bd.state]; rfl
  have N0 := Fr.nil n0
  refine own_fw (A' := (s₁.setTop (mkF m 0 #[.val (.ref a1), .val .null] []))) (fun t k => castTop (ef_rmEv m a1) k) ?_
  refine own_fw (A' := (s₁.setTop (mkF m 1 #[.val (.ref a1), .val .null] [(.ref a1)]))) (fun t k => XS.aloadN X0.here hx rfl (hb hby d_prog_7_method_1_code_0) rfl rfl k) ?_
  obtain ⟨T1, X1, e1, st1⟩ := initO X0 hx hZ hown (hw _ (List.mem_of_getElem? (i := 11) rfl)) (hw _ (List.mem_of_getElem? (i := 12) rfl)) (hw _ (List.mem_of_getElem? (i := 13) rfl)) e0 (g := (mkF m 1 #[.val (.ref a1), .val .null] [(.ref a1)])) rfl (by rw [hml]; rfl) rfl (hb hby d_prog_7_method_1_code_1) (by decide) (W := 0) (by show 2 * 0 + _ ≤ _; exact Nat.le_of_eq rfl) (by decide)
  refine own_fw (A' := (T1.setTop (mkF m 4 #[.val (.ref a1), .val .null] []))) (fun t k => st1 _ k) ?_
  refine own_fw (A' := (T1.setTop (mkF m 5 #[.val (.ref a1), .val .null] [(.ref a1)]))) (fun t k => XS.aloadN X1.here hx rfl (hb hby d_prog_7_method_1_code_4) rfl rfl k) ?_
  refine own_fw (A' := (T1.setTop (mkF m 6 #[.val (.ref a1), .val .null] [.null, (.ref a1)]))) (fun t k => XS.aloadN X1.here hx rfl (hb hby d_prog_7_method_1_code_5) rfl rfl k) ?_
  obtain ⟨T2, h2, X2, e2, W2, st2⟩ := putF X1 hx hZ hown (host := "") (Or.inl (hw _ (List.mem_of_getElem? (i := 14) rfl))) Via.refl e1 P1 P0 (Or.inl (hw _ (List.mem_of_getElem? (i := 15) rfl))) (hw _ (List.mem_of_getElem? (i := 1) rfl)) (ty := (.object "java/lang/Object")) (by decide) rfl rfl (g := (mkF m 6 #[.val (.ref a1), .val .null] [.null, (.ref a1)])) rfl rfl (hb hby d_prog_7_method_1_code_6)
  have Fw2 : Fld Z h2 a1 "com/example/measured_cache/measuredcache/cache/EntryVersion" "content" "Ljava/lang/Object;" .null := P1.same W2
  have Nf2 := Fr.snoc X2 N0 g_a1
  have K2 : Keep h0 h2 [a1] := (Keep.refl h0 [a1]).wr W2 (Or.inl (List.mem_of_getElem? (i := 0) rfl))
  have Z2 : n0 ≤ h2.size := Nat.le_trans Z0 (Keep.of_wr W2).1
  refine own_fw (A' := (T2.setTop (mkF m 9 #[.val (.ref a1), .val .null] []))) (fun t k => st2 _ k) ?_
  obtain ⟨fs, hr, hrun, hended, hW, hsame⟩ := X2.leave (v := none) (fun _ => rfl)
  refine ⟨_, _, ?_, hrun, hended, _, _, rfl, ?_, ⟨_, rfl⟩, hW, hsame.mono (by decide) (by decide)⟩
  · exact X2.returnOut hx Bd.returns (hb hby d_prog_7_method_1_code_9) hr
  · show Q_rmEv Z a1 h0 n0 _ T2.heap _
    rw [e2]
    exact ⟨rfl, Nf2, K2, (P0.wr W2), (P2.other W2 (Or.inr (slot_ne (Or.inl (hw _ (List.mem_of_getElem? (i := 22) rfl))) (Or.inl (hw _ (List.mem_of_getElem? (i := 15) rfl))) (by decide) (t := .int) (t' := (.object "java/lang/Object")) (by decide) (by decide))))⟩
theorem pn_com_example_measured_cache_measuredcache_cache_Absence : plainName "com/example/measured_cache/measuredcache/cache/Absence" = true := by first | (simp [plainName, overriddenIn]; done) | decide +kernel
theorem d_prog_3_method_1_code_0 : decode prog_3_method_1_code 0 = .ok (.aload_n 0, 1) := by decide +kernel
theorem d_prog_3_method_1_code_1 : decode prog_3_method_1_code 1 = .ok (.aconst_null, 1) := by decide +kernel
theorem d_prog_3_method_1_code_2 : decode prog_3_method_1_code 2 = .ok (.invokespecial 1, 3) := by decide +kernel
theorem pd__Ljava_lang_Object__V : parseMethodDescriptor "(Ljava/lang/Object;)V" = some ⟨[(.object "java/lang/Object")], none⟩ := by decide +kernel
theorem d_prog_3_method_1_code_5 : decode prog_3_method_1_code 5 = .ok (.return_, 1) := by decide +kernel
theorem ef_rmAb (m : MethodId) (a1 : Addr) : entryFrame m #[(.ref a1)] 1 = mkF m 0 #[.val (.ref a1)] [] := by first | (simp [entryFrame, mkF, argsToLocals, Value.category]; done) | rfl
def Q_rmAb (Z : State) (a1 : Addr) (h0 : Heap) (n0 : Nat) (v : Option Value) (h : Heap) (L : List Loc) : Prop := v = none ∧ Fr n0 L ∧ Keep h0 h [a1] ∧ Exa Z h a1 "com/example/measured_cache/measuredcache/cache/Absence" ∧ Fld Z h a1 "com/example/measured_cache/measuredcache/cache/Absence" "holders" "I" (.int (0 : Int32))
set_option maxRecDepth 65536 in
set_option maxHeartbeats 40000000 in
theorem rmAb (l : Launch) (Z : State) (a0 : Array Value) (hw : ∀ d ∈ tables_1, d.before a0 Z = true) (ws : List Jvm.Cond) (a1 : Addr) (h0 : Heap) (n0 : Nat) (Z0 : n0 ≤ h0.size) (P0 : Exa Z h0 a1 "com/example/measured_cache/measuredcache/cache/Absence") (P1 : Fld Z h0 a1 "com/example/measured_cache/measuredcache/cache/EntryVersion" "content" "Ljava/lang/Object;" .null) (P2 : Fld Z h0 a1 "com/example/measured_cache/measuredcache/cache/Absence" "holders" "I" (.int (0 : Int32))) (g_a1 : n0 ≤ a1) :
    MetFree l (⟨"com/example/measured_cache/measuredcache/cache/Absence", "<init>", "()V"⟩ : MethodName) (head1 (Jvm.Cond.code (⟨"com/example/measured_cache/measuredcache/cache/Absence", "<init>", "()V"⟩ : MethodName) prog_3_method_1_code 1 none :: ws) ({ frames := 2, cells := 0, slots := 0, locals := 25 } : Room)) (fun a U => a = #[(.ref a1)] ∧ Z.Warmed39 U.vm ∧ U.heap = h0) (fun _ _ _ _ _ => True) (fun _ U o U' => ∃ v L, o = .returned v ∧ Q_rmAb Z a1 h0 n0 v U'.heap L ∧ FrameEnd U o U' L ({ frames := 2, cells := 0, slots := 0, locals := 25 } : Room).cells ({ frames := 2, cells := 0, slots := 0, locals := 25 } : Room).slots) := by
  refine MetFree.of_bodySF (plainFor_of_name pn_com_example_measured_cache_measuredcache_cache_Absence) hisR ?_
  intro p e s m args below meth c s₁ Bd hml0 hP hK
  obtain ⟨rfl, hZ, hh⟩ := hP
  have hx := Bd.exec
  have hby := Bd.bytes
  have hml : c.maxLocals = 1 := hml0
  have hown : s.vm.findClass "com/example/measured_cache/measuredcache/cache/Absence" = some m.cls := findClass_of_methodNamed Bd.named
  have hnm := (name_of_methodNamed Bd.named Bd.method).1
  have X0 : Stand p l e ({ frames := 2, cells := 0, slots := 0, locals := 25 } : Room) s m #[(.ref a1)] below meth c s₁ [] 0 0 := Stand.of_body Bd
  have e0 : s₁.heap = h0 := by rw [← hh, Bd.state]; rfl
  have N0 := Fr.nil n0
  refine own_fw (A' := (s₁.setTop (mkF m 0 #[.val (.ref a1)] []))) (fun t k => castTop (ef_rmAb m a1) k) ?_
  refine own_fw (A' := (s₁.setTop (mkF m 1 #[.val (.ref a1)] [(.ref a1)]))) (fun t k => XS.aloadN X0.here hx rfl (hb hby d_prog_3_method_1_code_0) rfl rfl k) ?_
  refine own_fw (A' := (s₁.setTop (mkF m 2 #[.val (.ref a1)] [.null, (.ref a1)]))) (fun t k => XS.aconstNull X0.here hx rfl (hb hby d_prog_3_method_1_code_1) k) ?_
  obtain ⟨_, _, ⟨T1, L1, k1, n1⟩, -, X1, ⟨Lc1, hQ1, l1, y1, z1⟩, st1⟩ := X0.specialBack hx (y := (⟨"com/example/measured_cache/measuredcache/cache/EntryVersion", "<init>", "(Ljava/lang/Object;)V"⟩ : MethodName)) rfl hown (mvT hZ (hw _ (List.mem_of_getElem? (i := 6) rfl))) (mvT hZ (hw _ (List.mem_of_getElem? (i := 7) rfl))) (mvT hZ (hw _ (List.mem_of_getElem? (i := 10) rfl))) (by decide) (backOf (W := 0) (rmEv l Z a0 hw [] a1 h0 n0 Z0 P0 P1 P2 g_a1) hZ (hw _ (List.mem_of_getElem? (i := 10) rfl)) (hw _ (List.mem_of_getElem? (i := 9) rfl)) (by decide) (by decide)) (g := (mkF m 2 #[.val (.ref a1)] [.null, (.ref a1)])) rfl (by rw [hml]; rfl) (Steps.refl _) (a := a1) (argsL := [.null]) (rest := []) (lenOf pd__Ljava_lang_Object__V rfl) rfl (by show 2 * 0 + _ ≤ _; exact Nat.le_of_eq rfl) (hb hby d_prog_3_method_1_code_2) (fun _ _ => ⟨rfl, e0, (by decide : 0 + 0 ≤ _), (by decide : 0 + 0 ≤ _)⟩)
  dsimp only [Pt.U, Pt.locs, Pt.cells, Pt.slots] at X1 l1 y1 z1 st1 hQ1
  subst l1 y1 z1
  obtain ⟨rfl, Nq1, Kq1, Fq1_0, Fq1_1⟩ := hQ1
  have Nf1 := Fr.app N0 Nq1
  have K1 : Keep h0 T1.heap [a1] := (Keep.refl h0 [a1]).trans Kq1 (allS (Or.inl (List.mem_of_getElem? (i := 0) rfl)) all0)
  have Z1 : n0 ≤ T1.heap.size := Nat.le_trans Z0 Kq1.1
  refine own_fw (A' := (T1.setTop (mkF m 5 #[.val (.ref a1)] []))) (fun t k => st1.trans k) ?_
  obtain ⟨fs, hr, hrun, hended, hW, hsame⟩ := X1.leave (v := none) (fun _ => rfl)
  refine ⟨_, _, ?_, hrun, hended, _, _, rfl, ?_, ⟨_, rfl⟩, hW, hsame.mono (by decide) (by decide)⟩
  · exact X1.returnOut hx Bd.returns (hb hby d_prog_3_method_1_code_5) hr
  · show Q_rmAb Z a1 h0 n0 _ T1.heap _
    exact ⟨rfl, Nf1, K1, Fq1_0, Fq1_1⟩
theorem d_prog_3_method_4_code_0 : decode prog_3_method_4_code 0 = .ok (.aload_n 0, 1) := by decide +kernel
theorem d_prog_3_method_4_code_1 : decode prog_3_method_4_code 1 = .ok (.getfield 7, 3) := by decide +kernel
theorem d_prog_3_method_4_code_4 : decode prog_3_method_4_code 4 = .ok (.ifCond .le 7, 3) := by decide +kernel
theorem d_prog_3_method_4_code_7 : decode prog_3_method_4_code 7 = .ok (.iconst 1, 1) := by decide +kernel
theorem d_prog_3_method_4_code_8 : decode prog_3_method_4_code 8 = .ok (.goto 4, 3) := by decide +kernel
theorem d_prog_3_method_4_code_12 : decode prog_3_method_4_code 12 = .ok (.ireturn, 1) := by decide +kernel
theorem d_prog_3_method_4_code_11 : decode prog_3_method_4_code 11 = .ok (.iconst 0, 1) := by decide +kernel
theorem ef_rmHeld (m : MethodId) (a1 : Addr) : entryFrame m #[(.ref a1)] 1 = mkF m 0 #[.val (.ref a1)] [] := by first | (simp [entryFrame, mkF, argsToLocals, Value.category]; done) | rfl
def Q_rmHeld (Z : State) (a1 : Addr) (p2 : Int32) (h0 : Heap) (n0 : Nat) (v : Option Value) (h : Heap) (L : List Loc) : Prop := v = some (.int (own_held p2)) ∧ Fr n0 L ∧ h = h0
set_option maxRecDepth 65536 in
set_option maxHeartbeats 40000000 in
theorem rmHeld (l : Launch) (Z : State) (a0 : Array Value) (hw : ∀ d ∈ tables_1, d.before a0 Z = true) (ws : List Jvm.Cond) (a1 : Addr) (p2 : Int32) (h0 : Heap) (n0 : Nat) (Z0 : n0 ≤ h0.size) (P0 : Fld Z h0 a1 "com/example/measured_cache/measuredcache/cache/Absence" "holders" "I" (.int p2)) :
    MetFree l (⟨"com/example/measured_cache/measuredcache/cache/Absence", "isHeld", "()Z"⟩ : MethodName) (head1 (Jvm.Cond.code (⟨"com/example/measured_cache/measuredcache/cache/Absence", "isHeld", "()Z"⟩ : MethodName) prog_3_method_4_code 1 (some .boolean) :: ws) ({ frames := 0, cells := 0, slots := 0, locals := 0 } : Room)) (fun a U => a = #[(.ref a1)] ∧ Z.Warmed39 U.vm ∧ U.heap = h0) (fun _ _ _ _ _ => True) (fun _ U o U' => ∃ v L, o = .returned v ∧ Q_rmHeld Z a1 p2 h0 n0 v U'.heap L ∧ FrameEnd U o U' L ({ frames := 0, cells := 0, slots := 0, locals := 0 } : Room).cells ({ frames := 0, cells := 0, slots := 0, locals := 0 } : Room).slots) := by
  refine MetFree.of_bodySF (plainFor_of_name pn_com_example_measured_cache_measuredcache_cache_Absence) hisR ?_
  intro p e s m args below meth c s₁ Bd hml0 hP hK
  obtain ⟨rfl, hZ, hh⟩ := hP
  have hx := Bd.exec
  have hby := Bd.bytes
  have hml : c.maxLocals = 1 := hml0
  have hown : s.vm.findClass "com/example/measured_cache/measuredcache/cache/Absence" = some m.cls := findClass_of_methodNamed Bd.named
  have hnm := (name_of_methodNamed Bd.named Bd.method).1
  have X0 : Stand p l e ({ frames := 0, cells := 0, slots := 0, locals := 0 } : Room) s m #[(.ref a1)] below meth c s₁ [] 0 0 := Stand.of_body Bd
  have e0 : s₁.heap = h0 := by rw [← hh, Bd.state]; rfl
  have N0 := Fr.nil n0
  refine own_fw (A' := (s₁.setTop (mkF m 0 #[.val (.ref a1)] []))) (fun t k => castTop (ef_rmHeld m a1) k) ?_
  refine own_fw (A' := (s₁.setTop (mkF m 1 #[.val (.ref a1)] [(.ref a1)]))) (fun t k => XS.aloadN X0.here hx rfl (hb hby d_prog_3_method_4_code_0) rfl rfl k) ?_
  obtain ⟨T1, X1, e1, st1⟩ := getF X0 hx hZ hown (host := "") (Or.inl (hw _ (List.mem_of_getElem? (i := 21) rfl))) Via.refl e0 P0 (g := (mkF m 1 #[.val (.ref a1)] [(.ref a1)])) rfl rfl (hb hby d_prog_3_method_4_code_1)
  refine own_fw (A' := (T1.setTop (mkF m 4 #[.val (.ref a1)] [(.int p2)]))) (fun t k => st1 _ k) ?_
  by_cases hc2 : (0 : Int32) < p2
  · refine own_fw (A' := (T1.setTop (mkF m 7 #[.val (.ref a1)] []))) (fun t k => XS.ifNo X1.here hx rfl (hb hby d_prog_3_method_4_code_4) rfl (XT.i0_le_f hc2) k) ?_
    refine own_fw (A' := (T1.setTop (mkF m 8 #[.val (.ref a1)] [(.int (1 : Int32))]))) (fun t k => XS.iconst X1.here hx rfl (hb hby d_prog_3_method_4_code_7) k) ?_
    refine own_fw (A' := (T1.setTop (mkF m 12 #[.val (.ref a1)] [(.int (1 : Int32))]))) (fun t k => XS.goto X1.here hx rfl (pc0 := 8) (pc' := 12) rfl (hb hby d_prog_3_method_4_code_8) (by decide) (by decide) k) ?_
    obtain ⟨fs, hr, hrun, hended, hW, hsame⟩ := X1.leave (v := some (.int (1 : Int32))) (fun h => by rw [Bd.returns] at h; cases h)
    refine ⟨_, _, ?_, hrun, hended, _, _, rfl, ?_, ⟨_, rfl⟩, hW, hsame.mono (by decide) (by decide)⟩
    · exact retOut X1 hx Bd.returns rfl (Or.inl ⟨rfl, by simp, _, rfl⟩) (hb hby d_prog_3_method_4_code_12) hr
    · show Q_rmHeld Z a1 p2 h0 n0 _ T1.heap _
      rw [e1]
      exact ⟨(by simp only [own_held, if_pos hc2]), N0, rfl⟩
  · refine own_fw (A' := (T1.setTop (mkF m 11 #[.val (.ref a1)] []))) (fun t k => XS.ifYes X1.here hx rfl (pc0 := 4) (pc' := 11) rfl (hb hby d_prog_3_method_4_code_4) rfl (XT.i0_le_t hc2) (by decide) (by decide) k) ?_
    refine own_fw (A' := (T1.setTop (mkF m 12 #[.val (.ref a1)] [(.int (0 : Int32))]))) (fun t k => XS.iconst X1.here hx rfl (hb hby d_prog_3_method_4_code_11) k) ?_
    obtain ⟨fs, hr, hrun, hended, hW, hsame⟩ := X1.leave (v := some (.int (0 : Int32))) (fun h => by rw [Bd.returns] at h; cases h)
    refine ⟨_, _, ?_, hrun, hended, _, _, rfl, ?_, ⟨_, rfl⟩, hW, hsame.mono (by decide) (by decide)⟩
    · exact retOut X1 hx Bd.returns rfl (Or.inl ⟨rfl, by simp, _, rfl⟩) (hb hby d_prog_3_method_4_code_12) hr
    · show Q_rmHeld Z a1 p2 h0 n0 _ T1.heap _
      rw [e1]
      exact ⟨(by simp only [own_held, if_neg hc2]), N0, rfl⟩
theorem d_prog_3_method_2_code_0 : decode prog_3_method_2_code 0 = .ok (.aload_n 0, 1) := by decide +kernel
theorem d_prog_3_method_2_code_1 : decode prog_3_method_2_code 1 = .ok (.dup, 1) := by decide +kernel
theorem d_prog_3_method_2_code_2 : decode prog_3_method_2_code 2 = .ok (.getfield 7, 3) := by decide +kernel
theorem d_prog_3_method_2_code_5 : decode prog_3_method_2_code 5 = .ok (.iconst 1, 1) := by decide +kernel
theorem d_prog_3_method_2_code_6 : decode prog_3_method_2_code 6 = .ok (.iadd, 1) := by decide +kernel
theorem d_prog_3_method_2_code_7 : decode prog_3_method_2_code 7 = .ok (.putfield 7, 3) := by decide +kernel
theorem d_prog_3_method_2_code_10 : decode prog_3_method_2_code 10 = .ok (.return_, 1) := by decide +kernel
theorem ef_rmAdd (m : MethodId) (a1 : Addr) : entryFrame m #[(.ref a1)] 1 = mkF m 0 #[.val (.ref a1)] [] := by first | (simp [entryFrame, mkF, argsToLocals, Value.category]; done) | rfl
def Q_rmAdd (Z : State) (a1 : Addr) (p2 : Int32) (h0 : Heap) (n0 : Nat) (v : Option Value) (h : Heap) (L : List Loc) : Prop := v = none ∧ Fr n0 L ∧ Keep h0 h [a1] ∧ Exa Z h a1 "com/example/measured_cache/measuredcache/cache/Absence" ∧ Fld Z h a1 "com/example/measured_cache/measuredcache/cache/Absence" "holders" "I" (.int (p2 + (1 : Int32)))
set_option maxRecDepth 65536 in
set_option maxHeartbeats 40000000 in
theorem rmAdd (l : Launch) (Z : State) (a0 : Array Value) (hw : ∀ d ∈ tables_1, d.before a0 Z = true) (ws : List Jvm.Cond) (a1 : Addr) (p2 : Int32) (h0 : Heap) (n0 : Nat) (Z0 : n0 ≤ h0.size) (P0 : Exa Z h0 a1 "com/example/measured_cache/measuredcache/cache/Absence") (P1 : Fld Z h0 a1 "com/example/measured_cache/measuredcache/cache/Absence" "holders" "I" (.int p2)) (g_a1 : n0 ≤ a1) :
    MetFree l (⟨"com/example/measured_cache/measuredcache/cache/Absence", "addHolder", "()V"⟩ : MethodName) (head1 (Jvm.Cond.code (⟨"com/example/measured_cache/measuredcache/cache/Absence", "addHolder", "()V"⟩ : MethodName) prog_3_method_2_code 1 none :: ws) ({ frames := 0, cells := 0, slots := 0, locals := 0 } : Room)) (fun a U => a = #[(.ref a1)] ∧ Z.Warmed39 U.vm ∧ U.heap = h0) (fun _ _ _ _ _ => True) (fun _ U o U' => ∃ v L, o = .returned v ∧ Q_rmAdd Z a1 p2 h0 n0 v U'.heap L ∧ FrameEnd U o U' L ({ frames := 0, cells := 0, slots := 0, locals := 0 } : Room).cells ({ frames := 0, cells := 0, slots := 0, locals := 0 } : Room).slots) := by
  refine MetFree.of_bodySF (plainFor_of_name pn_com_example_measured_cache_measuredcache_cache_Absence) hisR ?_
  intro p e s m args below meth c s₁ Bd hml0 hP hK
  obtain ⟨rfl, hZ, hh⟩ := hP
  have hx := Bd.exec
  have hby := Bd.bytes
  have hml : c.maxLocals = 1 := hml0
  have hown : s.vm.findClass "com/example/measured_cache/measuredcache/cache/Absence" = some m.cls := findClass_of_methodNamed Bd.named
  have hnm := (name_of_methodNamed Bd.named Bd.method).1
  have X0 : Stand p l e ({ frames := 0, cells := 0, slots := 0, locals := 0 } : Room) s m #[(.ref a1)] below meth c s₁ [] 0 0 := Stand.of_body Bd
  have e0 : s₁.heap = h0 := by rw [← hh, Bd.state]; rfl
  have N0 := Fr.nil n0
  refine own_fw (A' := (s₁.setTop (mkF m 0 #[.val (.ref a1)] []))) (fun t k => castTop (ef_rmAdd m a1) k) ?_
  refine own_fw (A' := (s₁.setTop (mkF m 1 #[.val (.ref a1)] [(.ref a1)]))) (fun t k => XS.aloadN X0.here hx rfl (hb hby d_prog_3_method_2_code_0) rfl rfl k) ?_
  refine own_fw (A' := (s₁.setTop (mkF m 2 #[.val (.ref a1)] [(.ref a1), (.ref a1)]))) (fun t k => XS.dup X0.here hx rfl (hb hby d_prog_3_method_2_code_1) rfl rfl k) ?_
  obtain ⟨T1, X1, e1, st1⟩ := getF X0 hx hZ hown (host := "") (Or.inl (hw _ (List.mem_of_getElem? (i := 21) rfl))) Via.refl e0 P1 (g := (mkF m 2 #[.val (.ref a1)] [(.ref a1), (.ref a1)])) rfl rfl (hb hby d_prog_3_method_2_code_2)
  refine own_fw (A' := (T1.setTop (mkF m 5 #[.val (.ref a1)] [(.int p2), (.ref a1)]))) (fun t k => st1 _ k) ?_
  refine own_fw (A' := (T1.setTop (mkF m 6 #[.val (.ref a1)] [(.int (1 : Int32)), (.int p2), (.ref a1)]))) (fun t k => XS.iconst X1.here hx rfl (hb hby d_prog_3_method_2_code_5) k) ?_
  refine own_fw (A' := (T1.setTop (mkF m 7 #[.val (.ref a1)] [(.int (p2 + (1 : Int32))), (.ref a1)]))) (fun t k => XS.iadd X1.here hx rfl (hb hby d_prog_3_method_2_code_6) rfl k) ?_
  obtain ⟨T2, h2, X2, e2, W2, st2⟩ := putF X1 hx hZ hown (host := "") (Or.inl (hw _ (List.mem_of_getElem? (i := 21) rfl))) Via.refl e1 P1 P0 (Or.inl (hw _ (List.mem_of_getElem? (i := 22) rfl))) (hw _ (List.mem_of_getElem? (i := 1) rfl)) (ty := .int) (by decide) rfl rfl (g := (mkF m 7 #[.val (.ref a1)] [(.int (p2 + (1 : Int32))), (.ref a1)])) rfl rfl (hb hby d_prog_3_method_2_code_7)
  have Fw2 : Fld Z h2 a1 "com/example/measured_cache/measuredcache/cache/Absence" "holders" "I" (.int (p2 + (1 : Int32))) := P1.same W2
  have Nf2 := Fr.snoc X2 N0 g_a1
  have K2 : Keep h0 h2 [a1] := (Keep.refl h0 [a1]).wr W2 (Or.inl (List.mem_of_getElem? (i := 0) rfl))
  have Z2 : n0 ≤ h2.size := Nat.le_trans Z0 (Keep.of_wr W2).1
  refine own_fw (A' := (T2.setTop (mkF m 10 #[.val (.ref a1)] []))) (fun t k => st2 _ k) ?_
  obtain ⟨fs, hr, hrun, hended, hW, hsame⟩ := X2.leave (v := none) (fun _ => rfl)
  refine ⟨_, _, ?_, hrun, hended, _, _, rfl, ?_, ⟨_, rfl⟩, hW, hsame.mono (by decide) (by decide)⟩
  · exact X2.returnOut hx Bd.returns (hb hby d_prog_3_method_2_code_10) hr
  · show Q_rmAdd Z a1 p2 h0 n0 _ T2.heap _
    rw [e2]
    exact ⟨rfl, Nf2, K2, (P0.wr W2), Fw2⟩
theorem d_prog_3_method_3_code_0 : decode prog_3_method_3_code 0 = .ok (.aload_n 0, 1) := by decide +kernel
theorem d_prog_3_method_3_code_1 : decode prog_3_method_3_code 1 = .ok (.dup, 1) := by decide +kernel
theorem d_prog_3_method_3_code_2 : decode prog_3_method_3_code 2 = .ok (.getfield 7, 3) := by decide +kernel
theorem d_prog_3_method_3_code_5 : decode prog_3_method_3_code 5 = .ok (.iconst 1, 1) := by decide +kernel
theorem d_prog_3_method_3_code_6 : decode prog_3_method_3_code 6 = .ok (.isub, 1) := by decide +kernel
theorem d_prog_3_method_3_code_7 : decode prog_3_method_3_code 7 = .ok (.putfield 7, 3) := by decide +kernel
theorem d_prog_3_method_3_code_10 : decode prog_3_method_3_code 10 = .ok (.return_, 1) := by decide +kernel
theorem ef_rmRem (m : MethodId) (a1 : Addr) : entryFrame m #[(.ref a1)] 1 = mkF m 0 #[.val (.ref a1)] [] := by first | (simp [entryFrame, mkF, argsToLocals, Value.category]; done) | rfl
def Q_rmRem (Z : State) (a1 : Addr) (p2 : Int32) (h0 : Heap) (n0 : Nat) (v : Option Value) (h : Heap) (L : List Loc) : Prop := v = none ∧ Fr n0 L ∧ Keep h0 h [a1] ∧ Exa Z h a1 "com/example/measured_cache/measuredcache/cache/Absence" ∧ Fld Z h a1 "com/example/measured_cache/measuredcache/cache/Absence" "holders" "I" (.int (p2 - (1 : Int32)))
set_option maxRecDepth 65536 in
set_option maxHeartbeats 40000000 in
theorem rmRem (l : Launch) (Z : State) (a0 : Array Value) (hw : ∀ d ∈ tables_1, d.before a0 Z = true) (ws : List Jvm.Cond) (a1 : Addr) (p2 : Int32) (h0 : Heap) (n0 : Nat) (Z0 : n0 ≤ h0.size) (P0 : Exa Z h0 a1 "com/example/measured_cache/measuredcache/cache/Absence") (P1 : Fld Z h0 a1 "com/example/measured_cache/measuredcache/cache/Absence" "holders" "I" (.int p2)) (g_a1 : n0 ≤ a1) :
    MetFree l (⟨"com/example/measured_cache/measuredcache/cache/Absence", "removeHolder", "()V"⟩ : MethodName) (head1 (Jvm.Cond.code (⟨"com/example/measured_cache/measuredcache/cache/Absence", "removeHolder", "()V"⟩ : MethodName) prog_3_method_3_code 1 none :: ws) ({ frames := 0, cells := 0, slots := 0, locals := 0 } : Room)) (fun a U => a = #[(.ref a1)] ∧ Z.Warmed39 U.vm ∧ U.heap = h0) (fun _ _ _ _ _ => True) (fun _ U o U' => ∃ v L, o = .returned v ∧ Q_rmRem Z a1 p2 h0 n0 v U'.heap L ∧ FrameEnd U o U' L ({ frames := 0, cells := 0, slots := 0, locals := 0 } : Room).cells ({ frames := 0, cells := 0, slots := 0, locals := 0 } : Room).slots) := by
  refine MetFree.of_bodySF (plainFor_of_name pn_com_example_measured_cache_measuredcache_cache_Absence) hisR ?_
  intro p e s m args below meth c s₁ Bd hml0 hP hK
  obtain ⟨rfl, hZ, hh⟩ := hP
  have hx := Bd.exec
  have hby := Bd.bytes
  have hml : c.maxLocals = 1 := hml0
  have hown : s.vm.findClass "com/example/measured_cache/measuredcache/cache/Absence" = some m.cls := findClass_of_methodNamed Bd.named
  have hnm := (name_of_methodNamed Bd.named Bd.method).1
  have X0 : Stand p l e ({ frames := 0, cells := 0, slots := 0, locals := 0 } : Room) s m #[(.ref a1)] below meth c s₁ [] 0 0 := Stand.of_body Bd
  have e0 : s₁.heap = h0 := by rw [← hh, Bd.state]; rfl
  have N0 := Fr.nil n0
  refine own_fw (A' := (s₁.setTop (mkF m 0 #[.val (.ref a1)] []))) (fun t k => castTop (ef_rmRem m a1) k) ?_
  refine own_fw (A' := (s₁.setTop (mkF m 1 #[.val (.ref a1)] [(.ref a1)]))) (fun t k => XS.aloadN X0.here hx rfl (hb hby d_prog_3_method_3_code_0) rfl rfl k) ?_
  refine own_fw (A' := (s₁.setTop (mkF m 2 #[.val (.ref a1)] [(.ref a1), (.ref a1)]))) (fun t k => XS.dup X0.here hx rfl (hb hby d_prog_3_method_3_code_1) rfl rfl k) ?_
  obtain ⟨T1, X1, e1, st1⟩ := getF X0 hx hZ hown (host := "") (Or.inl (hw _ (List.mem_of_getElem? (i := 21) rfl))) Via.refl e0 P1 (g := (mkF m 2 #[.val (.ref a1)] [(.ref a1), (.ref a1)])) rfl rfl (hb hby d_prog_3_method_3_code_2)
  refine own_fw (A' := (T1.setTop (mkF m 5 #[.val (.ref a1)] [(.int p2), (.ref a1)]))) (fun t k => st1 _ k) ?_
  refine own_fw (A' := (T1.setTop (mkF m 6 #[.val (.ref a1)] [(.int (1 : Int32)), (.int p2), (.ref a1)]))) (fun t k => XS.iconst X1.here hx rfl (hb hby d_prog_3_method_3_code_5) k) ?_
  refine own_fw (A' := (T1.setTop (mkF m 7 #[.val (.ref a1)] [(.int (p2 - (1 : Int32))), (.ref a1)]))) (fun t k => XS.isub X1.here hx rfl (hb hby d_prog_3_method_3_code_6) rfl k) ?_
  obtain ⟨T2, h2, X2, e2, W2, st2⟩ := putF X1 hx hZ hown (host := "") (Or.inl (hw _ (List.mem_of_getElem? (i := 21) rfl))) Via.refl e1 P1 P0 (Or.inl (hw _ (List.mem_of_getElem? (i := 22) rfl))) (hw _ (List.mem_of_getElem? (i := 1) rfl)) (ty := .int) (by decide) rfl rfl (g := (mkF m 7 #[.val (.ref a1)] [(.int (p2 - (1 : Int32))), (.ref a1)])) rfl rfl (hb hby d_prog_3_method_3_code_7)
  have Fw2 : Fld Z h2 a1 "com/example/measured_cache/measuredcache/cache/Absence" "holders" "I" (.int (p2 - (1 : Int32))) := P1.same W2
  have Nf2 := Fr.snoc X2 N0 g_a1
  have K2 : Keep h0 h2 [a1] := (Keep.refl h0 [a1]).wr W2 (Or.inl (List.mem_of_getElem? (i := 0) rfl))
  have Z2 : n0 ≤ h2.size := Nat.le_trans Z0 (Keep.of_wr W2).1
  refine own_fw (A' := (T2.setTop (mkF m 10 #[.val (.ref a1)] []))) (fun t k => st2 _ k) ?_
  obtain ⟨fs, hr, hrun, hended, hW, hsame⟩ := X2.leave (v := none) (fun _ => rfl)
  refine ⟨_, _, ?_, hrun, hended, _, _, rfl, ?_, ⟨_, rfl⟩, hW, hsame.mono (by decide) (by decide)⟩
  · exact X2.returnOut hx Bd.returns (hb hby d_prog_3_method_3_code_10) hr
  · show Q_rmRem Z a1 p2 h0 n0 _ T2.heap _
    rw [e2]
    exact ⟨rfl, Nf2, K2, (P0.wr W2), Fw2⟩
theorem pn_com_example_measured_cache_measuredcache_cache_AbsenceIsHeldPinLaw : plainName "com/example/measured_cache/measuredcache/cache/AbsenceIsHeldPinLaw" = true := by first | (simp [plainName, overriddenIn]; done) | decide +kernel
theorem d_method_2_code_0 : decode method_2_code 0 = .ok (.iload_n 2, 1) := by decide +kernel
theorem d_method_2_code_1 : decode method_2_code 1 = .ok (.iload_n 3, 1) := by decide +kernel
theorem d_method_2_code_2 : decode method_2_code 2 = .ok (.iushr, 1) := by decide +kernel
theorem d_method_2_code_3 : decode method_2_code 3 = .ok (.iconst 1, 1) := by decide +kernel
theorem d_method_2_code_4 : decode method_2_code 4 = .ok (.iand, 1) := by decide +kernel
theorem d_method_2_code_5 : decode method_2_code 5 = .ok (.ifCond .eq 11, 3) := by decide +kernel
theorem d_method_2_code_16 : decode method_2_code 16 = .ok (.iload_n 1, 1) := by decide +kernel
theorem d_method_2_code_17 : decode method_2_code 17 = .ok (.ifCond .le 11, 3) := by decide +kernel
theorem d_method_2_code_20 : decode method_2_code 20 = .ok (.aload_n 0, 1) := by decide +kernel
theorem d_method_2_code_21 : decode method_2_code 21 = .ok (.invokevirtual 12, 3) := by decide +kernel
theorem pd___V : parseMethodDescriptor "()V" = some ⟨[], none⟩ := by decide +kernel
theorem d_method_2_code_24 : decode method_2_code 24 = .ok (.iload_n 1, 1) := by decide +kernel
theorem d_method_2_code_25 : decode method_2_code 25 = .ok (.iconst 1, 1) := by decide +kernel
theorem d_method_2_code_26 : decode method_2_code 26 = .ok (.isub, 1) := by decide +kernel
theorem d_method_2_code_27 : decode method_2_code 27 = .ok (.ireturn, 1) := by decide +kernel
theorem d_method_2_code_28 : decode method_2_code 28 = .ok (.iload_n 1, 1) := by decide +kernel
theorem d_method_2_code_29 : decode method_2_code 29 = .ok (.ireturn, 1) := by decide +kernel
theorem d_method_2_code_8 : decode method_2_code 8 = .ok (.aload_n 0, 1) := by decide +kernel
theorem d_method_2_code_9 : decode method_2_code 9 = .ok (.invokevirtual 7, 3) := by decide +kernel
theorem d_method_2_code_12 : decode method_2_code 12 = .ok (.iload_n 1, 1) := by decide +kernel
theorem d_method_2_code_13 : decode method_2_code 13 = .ok (.iconst 1, 1) := by decide +kernel
theorem d_method_2_code_14 : decode method_2_code 14 = .ok (.iadd, 1) := by decide +kernel
theorem d_method_2_code_15 : decode method_2_code 15 = .ok (.ireturn, 1) := by decide +kernel
theorem ef_rmStep (m : MethodId) (a1 : Addr) (p2 : Int32) (p3 : Int32) (p4 : Int32) : entryFrame m #[(.ref a1), (.int p2), (.int p3), (.int p4)] 4 = mkF m 0 #[.val (.ref a1), .val (.int p2), .val (.int p3), .val (.int p4)] [] := by first | (simp [entryFrame, mkF, argsToLocals, Value.category]; done) | rfl
def Q_rmStep (Z : State) (a1 : Addr) (p2 : Int32) (p3 : Int32) (p4 : Int32) (h0 : Heap) (n0 : Nat) (v : Option Value) (h : Heap) (L : List Loc) : Prop := v = some (.int (own_step p2 p3 p4)) ∧ Fr n0 L ∧ Keep h0 h [a1] ∧ Exa Z h a1 "com/example/measured_cache/measuredcache/cache/Absence" ∧ Fld Z h a1 "com/example/measured_cache/measuredcache/cache/Absence" "holders" "I" (.int (own_step p2 p3 p4))
set_option maxRecDepth 65536 in
set_option maxHeartbeats 40000000 in
theorem rmStep (l : Launch) (Z : State) (a0 : Array Value) (hw : ∀ d ∈ tables_1, d.before a0 Z = true) (ws : List Jvm.Cond) (a1 : Addr) (p2 : Int32) (p3 : Int32) (p4 : Int32) (h0 : Heap) (n0 : Nat) (Z0 : n0 ≤ h0.size) (P0 : Exa Z h0 a1 "com/example/measured_cache/measuredcache/cache/Absence") (P1 : Fld Z h0 a1 "com/example/measured_cache/measuredcache/cache/Absence" "holders" "I" (.int p2)) (g_a1 : n0 ≤ a1) :
    MetFree l (⟨"com/example/measured_cache/measuredcache/cache/AbsenceIsHeldPinLaw", "step", "(Lcom/example/measured_cache/measuredcache/cache/Absence;III)I"⟩ : MethodName) (head1 (Jvm.Cond.code (⟨"com/example/measured_cache/measuredcache/cache/AbsenceIsHeldPinLaw", "step", "(Lcom/example/measured_cache/measuredcache/cache/Absence;III)I"⟩ : MethodName) method_2_code 4 (some .int) :: ws) ({ frames := 1, cells := 0, slots := 0, locals := 12 } : Room)) (fun a U => a = #[(.ref a1), (.int p2), (.int p3), (.int p4)] ∧ Z.Warmed39 U.vm ∧ U.heap = h0) (fun _ _ _ _ _ => True) (fun _ U o U' => ∃ v L, o = .returned v ∧ Q_rmStep Z a1 p2 p3 p4 h0 n0 v U'.heap L ∧ FrameEnd U o U' L ({ frames := 1, cells := 0, slots := 0, locals := 12 } : Room).cells ({ frames := 1, cells := 0, slots := 0, locals := 12 } : Room).slots) := by
  refine MetFree.of_bodySF (plainFor_of_name pn_com_example_measured_cache_measuredcache_cache_AbsenceIsHeldPinLaw) hisR ?_
  intro p e s m args below meth c s₁ Bd hml0 hP hK
  obtain ⟨rfl, hZ, hh⟩ := hP
  have hx := Bd.exec
  have hby := Bd.bytes
  have hml : c.maxLocals = 4 := hml0
  have hown : s.vm.findClass "com/example/measured_cache/measuredcache/cache/AbsenceIsHeldPinLaw" = some m.cls := findClass_of_methodNamed Bd.named
  have hnm := (name_of_methodNamed Bd.named Bd.method).1
  have X0 : Stand p l e ({ frames := 1, cells := 0, slots := 0, locals := 12 } : Room) s m #[(.ref a1), (.int p2), (.int p3), (.int p4)] below meth c s₁ [] 0 0 := Stand.of_body Bd
  have e0 : s₁.heap = h0 := by rw [← hh, Bd.state]; rfl
  have N0 := Fr.nil n0
  refine own_fw (A' := (s₁.setTop (mkF m 0 #[.val (.ref a1), .val (.int p2), .val (.int p3), .val (.int p4)] []))) (fun t k => castTop (ef_rmStep m a1 p2 p3 p4) k) ?_
  refine own_fw (A' := (s₁.setTop (mkF m 1 #[.val (.ref a1), .val (.int p2), .val (.int p3), .val (.int p4)] [(.int p3)]))) (fun t k => XS.iloadN X0.here hx rfl (hb hby d_method_2_code_0) rfl k) ?_
  refine own_fw (A' := (s₁.setTop (mkF m 2 #[.val (.ref a1), .val (.int p2), .val (.int p3), .val (.int p4)] [(.int p4), (.int p3)]))) (fun t k => XS.iloadN X0.here hx rfl (hb hby d_method_2_code_1) rfl k) ?_
  refine own_fw (A' := (s₁.setTop (mkF m 3 #[.val (.ref a1), .val (.int p2), .val (.int p3), .val (.int p4)] [(.int ((p3.toUInt32 >>> (p4 &&& 31).toUInt32).toInt32))]))) (fun t k => XS.iushr X0.here hx rfl (hb hby d_method_2_code_2) rfl k) ?_
  refine own_fw (A' := (s₁.setTop (mkF m 4 #[.val (.ref a1), .val (.int p2), .val (.int p3), .val (.int p4)] [(.int (1 : Int32)), (.int ((p3.toUInt32 >>> (p4 &&& 31).toUInt32).toInt32))]))) (fun t k => XS.iconst X0.here hx rfl (hb hby d_method_2_code_3) k) ?_
  refine own_fw (A' := (s₁.setTop (mkF m 5 #[.val (.ref a1), .val (.int p2), .val (.int p3), .val (.int p4)] [(.int (((p3.toUInt32 >>> (p4 &&& 31).toUInt32).toInt32) &&& (1 : Int32)))]))) (fun t k => XS.iand X0.here hx rfl (hb hby d_method_2_code_4) rfl k) ?_
  by_cases hc1 : (((p3.toUInt32 >>> (p4 &&& 31).toUInt32).toInt32) &&& (1 : Int32)) = (0 : Int32)
  · refine own_fw (A' := (s₁.setTop (mkF m 16 #[.val (.ref a1), .val (.int p2), .val (.int p3), .val (.int p4)] []))) (fun t k => XS.ifYes X0.here hx rfl (pc0 := 5) (pc' := 16) rfl (hb hby d_method_2_code_5) rfl (XT.i0_eq_t hc1) (by decide) (by decide) k) ?_
    refine own_fw (A' := (s₁.setTop (mkF m 17 #[.val (.ref a1), .val (.int p2), .val (.int p3), .val (.int p4)] [(.int p2)]))) (fun t k => XS.iloadN X0.here hx rfl (hb hby d_method_2_code_16) rfl k) ?_
    by_cases hc2 : (0 : Int32) < p2
    · refine own_fw (A' := (s₁.setTop (mkF m 20 #[.val (.ref a1), .val (.int p2), .val (.int p3), .val (.int p4)] []))) (fun t k => XS.ifNo X0.here hx rfl (hb hby d_method_2_code_17) rfl (XT.i0_le_f hc2) k) ?_
      refine own_fw (A' := (s₁.setTop (mkF m 21 #[.val (.ref a1), .val (.int p2), .val (.int p3), .val (.int p4)] [(.ref a1)]))) (fun t k => XS.aloadN X0.here hx rfl (hb hby d_method_2_code_20) rfl rfl k) ?_
      obtain ⟨cq3, kq3, qa3, qb3, qc3⟩ := isOf hZ e0 P0
      obtain ⟨_, _, ⟨T3, L3, k3, n3⟩, -, X3, ⟨Lc3, hQ3, l3, y3, z3⟩, st3⟩ := X0.virtualBack hx (y := (⟨"com/example/measured_cache/measuredcache/cache/Absence", "removeHolder", "()V"⟩ : MethodName)) (z := (⟨"com/example/measured_cache/measuredcache/cache/Absence", "removeHolder", "()V"⟩ : MethodName)) hown (mvT hZ (hw _ (List.mem_of_getElem? (i := 32) rfl))) (mvT hZ (hw _ (List.mem_of_getElem? (i := 33) rfl))) (notFace_of_selects (args := #[]) (mvT hZ (hw _ (List.mem_of_getElem? (i := 35) rfl)))) (mvT hZ (hw _ (List.mem_of_getElem? (i := 35) rfl))) (mvT hZ (hw _ (List.mem_of_getElem? (i := 34) rfl))) (by decide) (backOf (W := 0) (rmRem l Z a0 hw [] a1 p2 h0 n0 Z0 P0 P1 g_a1) hZ (hw _ (List.mem_of_getElem? (i := 36) rfl)) (hw _ (List.mem_of_getElem? (i := 2) rfl)) (by decide) (by decide)) qa3 qc3 (g := (mkF m 21 #[.val (.ref a1), .val (.int p2), .val (.int p3), .val (.int p4)] [(.ref a1)])) rfl (by rw [hml]; rfl) (Steps.refl _) (argsL := []) (rest := []) (lenOf pd___V rfl) rfl (by show 2 * 0 + _ ≤ _; exact Nat.le_of_eq rfl) (hb hby d_method_2_code_21) (fun _ _ => ⟨rfl, e0, (by decide : 0 + 0 ≤ _), (by decide : 0 + 0 ≤ _)⟩)
      dsimp only [Pt.U, Pt.locs, Pt.cells, Pt.slots] at X3 l3 y3 z3 st3 hQ3
      subst l3 y3 z3
      obtain ⟨rfl, Nq3, Kq3, Fq3_0, Fq3_1⟩ := hQ3
      have Nf3 := Fr.app N0 Nq3
      have K3 : Keep h0 T3.heap [a1] := (Keep.refl h0 [a1]).trans Kq3 (allS (Or.inl (List.mem_of_getElem? (i := 0) rfl)) all0)
      have Z3 : n0 ≤ T3.heap.size := Nat.le_trans Z0 Kq3.1
      refine own_fw (A' := (T3.setTop (mkF m 24 #[.val (.ref a1), .val (.int p2), .val (.int p3), .val (.int p4)] []))) (fun t k => st3.trans k) ?_
      refine own_fw (A' := (T3.setTop (mkF m 25 #[.val (.ref a1), .val (.int p2), .val (.int p3), .val (.int p4)] [(.int p2)]))) (fun t k => XS.iloadN X3.here hx rfl (hb hby d_method_2_code_24) rfl k) ?_
      refine own_fw (A' := (T3.setTop (mkF m 26 #[.val (.ref a1), .val (.int p2), .val (.int p3), .val (.int p4)] [(.int (1 : Int32)), (.int p2)]))) (fun t k => XS.iconst X3.here hx rfl (hb hby d_method_2_code_25) k) ?_
      refine own_fw (A' := (T3.setTop (mkF m 27 #[.val (.ref a1), .val (.int p2), .val (.int p3), .val (.int p4)] [(.int (p2 - (1 : Int32)))]))) (fun t k => XS.isub X3.here hx rfl (hb hby d_method_2_code_26) rfl k) ?_
      obtain ⟨fs, hr, hrun, hended, hW, hsame⟩ := X3.leave (v := some (.int (p2 - (1 : Int32)))) (fun h => by rw [Bd.returns] at h; cases h)
      refine ⟨_, _, ?_, hrun, hended, _, _, rfl, ?_, ⟨_, rfl⟩, hW, hsame.mono (by decide) (by decide)⟩
      · exact retOut X3 hx Bd.returns rfl (Or.inl ⟨rfl, by simp, _, rfl⟩) (hb hby d_method_2_code_27) hr
      · show Q_rmStep Z a1 p2 p3 p4 h0 n0 _ T3.heap _
        have hv0 : own_step p2 p3 p4 = (p2 - (1 : Int32)) := by simp only [own_step, if_pos hc1, if_pos hc2]
        exact ⟨(by simp only [hv0]), Nf3, K3, Fq3_0, (by simp only [hv0]; exact Fq3_1)⟩
    · refine own_fw (A' := (s₁.setTop (mkF m 28 #[.val (.ref a1), .val (.int p2), .val (.int p3), .val (.int p4)] []))) (fun t k => XS.ifYes X0.here hx rfl (pc0 := 17) (pc' := 28) rfl (hb hby d_method_2_code_17) rfl (XT.i0_le_t hc2) (by decide) (by decide) k) ?_
      refine own_fw (A' := (s₁.setTop (mkF m 29 #[.val (.ref a1), .val (.int p2), .val (.int p3), .val (.int p4)] [(.int p2)]))) (fun t k => XS.iloadN X0.here hx rfl (hb hby d_method_2_code_28) rfl k) ?_
      obtain ⟨fs, hr, hrun, hended, hW, hsame⟩ := X0.leave (v := some (.int p2)) (fun h => by rw [Bd.returns] at h; cases h)
      refine ⟨_, _, ?_, hrun, hended, _, _, rfl, ?_, ⟨_, rfl⟩, hW, hsame.mono (by decide) (by decide)⟩
      · exact retOut X0 hx Bd.returns rfl (Or.inl ⟨rfl, by simp, _, rfl⟩) (hb hby d_method_2_code_29) hr
      · show Q_rmStep Z a1 p2 p3 p4 h0 n0 _ s₁.heap _
        rw [e0]
        have hv0 : own_step p2 p3 p4 = p2 := by simp only [own_step, if_pos hc1, if_neg hc2]
        exact ⟨(by simp only [hv0]), N0, (Keep.refl h0 [a1]), P0, (by simp only [hv0]; exact P1)⟩
  · refine own_fw (A' := (s₁.setTop (mkF m 8 #[.val (.ref a1), .val (.int p2), .val (.int p3), .val (.int p4)] []))) (fun t k => XS.ifNo X0.here hx rfl (hb hby d_method_2_code_5) rfl (XT.i0_eq_f hc1) k) ?_
    refine own_fw (A' := (s₁.setTop (mkF m 9 #[.val (.ref a1), .val (.int p2), .val (.int p3), .val (.int p4)] [(.ref a1)]))) (fun t k => XS.aloadN X0.here hx rfl (hb hby d_method_2_code_8) rfl rfl k) ?_
    obtain ⟨cq4, kq4, qa4, qb4, qc4⟩ := isOf hZ e0 P0
    obtain ⟨_, _, ⟨T4, L4, k4, n4⟩, -, X4, ⟨Lc4, hQ4, l4, y4, z4⟩, st4⟩ := X0.virtualBack hx (y := (⟨"com/example/measured_cache/measuredcache/cache/Absence", "addHolder", "()V"⟩ : MethodName)) (z := (⟨"com/example/measured_cache/measuredcache/cache/Absence", "addHolder", "()V"⟩ : MethodName)) hown (mvT hZ (hw _ (List.mem_of_getElem? (i := 27) rfl))) (mvT hZ (hw _ (List.mem_of_getElem? (i := 28) rfl))) (notFace_of_selects (args := #[]) (mvT hZ (hw _ (List.mem_of_getElem? (i := 30) rfl)))) (mvT hZ (hw _ (List.mem_of_getElem? (i := 30) rfl))) (mvT hZ (hw _ (List.mem_of_getElem? (i := 29) rfl))) (by decide) (backOf (W := 0) (rmAdd l Z a0 hw [] a1 p2 h0 n0 Z0 P0 P1 g_a1) hZ (hw _ (List.mem_of_getElem? (i := 31) rfl)) (hw _ (List.mem_of_getElem? (i := 2) rfl)) (by decide) (by decide)) qa4 qc4 (g := (mkF m 9 #[.val (.ref a1), .val (.int p2), .val (.int p3), .val (.int p4)] [(.ref a1)])) rfl (by rw [hml]; rfl) (Steps.refl _) (argsL := []) (rest := []) (lenOf pd___V rfl) rfl (by show 2 * 0 + _ ≤ _; exact Nat.le_of_eq rfl) (hb hby d_method_2_code_9) (fun _ _ => ⟨rfl, e0, (by decide : 0 + 0 ≤ _), (by decide : 0 + 0 ≤ _)⟩)
    dsimp only [Pt.U, Pt.locs, Pt.cells, Pt.slots] at X4 l4 y4 z4 st4 hQ4
    subst l4 y4 z4
    obtain ⟨rfl, Nq4, Kq4, Fq4_0, Fq4_1⟩ := hQ4
    have Nf4 := Fr.app N0 Nq4
    have K4 : Keep h0 T4.heap [a1] := (Keep.refl h0 [a1]).trans Kq4 (allS (Or.inl (List.mem_of_getElem? (i := 0) rfl)) all0)
    have Z4 : n0 ≤ T4.heap.size := Nat.le_trans Z0 Kq4.1
    refine own_fw (A' := (T4.setTop (mkF m 12 #[.val (.ref a1), .val (.int p2), .val (.int p3), .val (.int p4)] []))) (fun t k => st4.trans k) ?_
    refine own_fw (A' := (T4.setTop (mkF m 13 #[.val (.ref a1), .val (.int p2), .val (.int p3), .val (.int p4)] [(.int p2)]))) (fun t k => XS.iloadN X4.here hx rfl (hb hby d_method_2_code_12) rfl k) ?_
    refine own_fw (A' := (T4.setTop (mkF m 14 #[.val (.ref a1), .val (.int p2), .val (.int p3), .val (.int p4)] [(.int (1 : Int32)), (.int p2)]))) (fun t k => XS.iconst X4.here hx rfl (hb hby d_method_2_code_13) k) ?_
    refine own_fw (A' := (T4.setTop (mkF m 15 #[.val (.ref a1), .val (.int p2), .val (.int p3), .val (.int p4)] [(.int (p2 + (1 : Int32)))]))) (fun t k => XS.iadd X4.here hx rfl (hb hby d_method_2_code_14) rfl k) ?_
    obtain ⟨fs, hr, hrun, hended, hW, hsame⟩ := X4.leave (v := some (.int (p2 + (1 : Int32)))) (fun h => by rw [Bd.returns] at h; cases h)
    refine ⟨_, _, ?_, hrun, hended, _, _, rfl, ?_, ⟨_, rfl⟩, hW, hsame.mono (by decide) (by decide)⟩
    · exact retOut X4 hx Bd.returns rfl (Or.inl ⟨rfl, by simp, _, rfl⟩) (hb hby d_method_2_code_15) hr
    · show Q_rmStep Z a1 p2 p3 p4 h0 n0 _ T4.heap _
      have hv0 : own_step p2 p3 p4 = (p2 + (1 : Int32)) := by simp only [own_step, if_neg hc1]
      exact ⟨(by simp only [hv0]), Nf4, K4, Fq4_0, (by simp only [hv0]; exact Fq4_1)⟩
theorem pd___Z : parseMethodDescriptor "()Z" = some ⟨[], some .boolean⟩ := by decide +kernel
theorem pd__Lcom_example_measured_cache_measuredcache_cache_Absence_III_I : parseMethodDescriptor "(Lcom/example/measured_cache/measuredcache/cache/Absence;III)I" = some ⟨[(.object "com/example/measured_cache/measuredcache/cache/Absence"), .int, .int, .int], some .int⟩ := by decide +kernel
theorem ef_rm0 (m : MethodId) (p1 : Int32) : entryFrame m #[(.int p1)] maxLocals = mkF m 0 #[.val (.int p1), .unset, .unset, .unset] [] := by first | (simp [entryFrame, mkF, argsToLocals, Value.category, maxLocals]; done) | rfl
def Q_rm0 (Z : State) (p1 : Int32) (h0 : Heap) (n0 : Nat) (v : Option Value) (h : Heap) (L : List Loc) : Prop := v = some (.int (1 : Int32)) ∧ Fr n0 L
set_option maxRecDepth 65536 in
set_option maxHeartbeats 40000000 in
theorem rm0 (l : Launch) (Z : State) (a0 : Array Value) (hw : ∀ d ∈ tables_1, d.before a0 Z = true) (ws : List Jvm.Cond) (p1 : Int32) (h0 : Heap) (n0 : Nat) (Z0 : n0 ≤ h0.size)  :
    MetFree l x (head1 (Jvm.Cond.code x code maxLocals ret :: ws) room_1) (fun a U => a = #[(.int p1)] ∧ Z.Warmed39 U.vm ∧ U.heap = h0) (fun _ _ _ _ _ => True) (fun _ U o U' => ∃ v L, o = .returned v ∧ Q_rm0 Z p1 h0 n0 v U'.heap L ∧ FrameEnd U o U' L room_1.cells room_1.slots) := by
  refine MetFree.of_bodySF (plainFor_of_name pn_com_example_measured_cache_measuredcache_cache_AbsenceIsHeldPinLaw) hisR ?_
  intro p e s m args below meth c s₁ Bd hml0 hP hK
  obtain ⟨rfl, hZ, hh⟩ := hP
  have hx := Bd.exec
  have hby := Bd.bytes
  have hml : c.maxLocals = 4 := hml0
  have hown : s.vm.findClass "com/example/measured_cache/measuredcache/cache/AbsenceIsHeldPinLaw" = some m.cls := findClass_of_methodNamed Bd.named
  have hnm := (name_of_methodNamed Bd.named Bd.method).1
  have X0 : Stand p l e room_1 s m #[(.int p1)] below meth c s₁ [] 0 0 := Stand.of_body Bd
  have e0 : s₁.heap = h0 := by rw [← hh, Bd.state]; rfl
  have N0 := Fr.nil n0
  refine own_fw (A' := (s₁.setTop (mkF m 0 #[.val (.int p1), .unset, .unset, .unset] []))) (fun t k => castTop (ef_rm0 m p1) k) ?_
  obtain ⟨T1, h1, X1, e1, E1, A1, D1, -, st1⟩ := newO X0 hx hZ hown (hw _ (List.mem_of_getElem? (i := 0) rfl)) (hw _ (List.mem_of_getElem? (i := 1) rfl)) (hw _ (List.mem_of_getElem? (i := 2) rfl)) e0 (g := (mkF m 0 #[.val (.int p1), .unset, .unset, .unset] [])) rfl (hb hby at_0) (by decide) (by decide)
  obtain ⟨b1, gb1⟩ : ∃ z, z = h0.size := ⟨_, rfl⟩
  have g_b1 : n0 ≤ b1 := Nat.le_trans Z0 (Nat.le_of_eq gb1.symm)
  have sz_b1 : h0.size ≤ b1 := Nat.le_trans (Keep.refl h0 []).1 (Nat.le_of_eq gb1.symm)
  rw [← gb1] at A1 D1 st1
  have F_content_b1 : Fld Z h1 b1 "com/example/measured_cache/measuredcache/cache/EntryVersion" "content" "Ljava/lang/Object;" .null := D1 (Or.inl (hw _ (List.mem_of_getElem? (i := 15) rfl))) (ty := (.object "java/lang/Object")) (by decide)
  have F_holders_b1 : Fld Z h1 b1 "com/example/measured_cache/measuredcache/cache/Absence" "holders" "I" (.int (0 : Int32)) := D1 (Or.inl (hw _ (List.mem_of_getElem? (i := 22) rfl))) (ty := .int) (by decide)
  have K1 : Keep h0 h1 [] := (Keep.refl h0 []).ext E1
  have Z1 : n0 ≤ h1.size := Nat.le_trans Z0 E1.1
  refine own_fw (A' := (T1.setTop (mkF m 3 #[.val (.int p1), .unset, .unset, .unset] [(.ref b1)]))) (fun t k => st1 _ k) ?_
  refine own_fw (A' := (T1.setTop (mkF m 4 #[.val (.int p1), .unset, .unset, .unset] [(.ref b1), (.ref b1)]))) (fun t k => XS.dup X1.here hx rfl (hb hby at_3) rfl rfl k) ?_
  obtain ⟨_, _, ⟨T2, L2, k2, n2⟩, -, X2, ⟨Lc2, hQ2, l2, y2, z2⟩, st2⟩ := X1.specialBack hx (y := (⟨"com/example/measured_cache/measuredcache/cache/Absence", "<init>", "()V"⟩ : MethodName)) rfl hown (mvT hZ (hw _ (List.mem_of_getElem? (i := 3) rfl))) (mvT hZ (hw _ (List.mem_of_getElem? (i := 4) rfl))) (mvT hZ (hw _ (List.mem_of_getElem? (i := 5) rfl))) (by decide) (backOf (W := 1) (rmAb l Z a0 hw [] b1 h1 n0 Z1 A1 F_content_b1 F_holders_b1 g_b1) hZ (hw _ (List.mem_of_getElem? (i := 5) rfl)) (hw _ (List.mem_of_getElem? (i := 2) rfl)) (by decide) (by decide)) (g := (mkF m 4 #[.val (.int p1), .unset, .unset, .unset] [(.ref b1), (.ref b1)])) rfl (by rw [hml]; rfl) (Steps.refl _) (a := b1) (argsL := []) (rest := [(.ref b1)]) (lenOf pd___V rfl) rfl (by show 2 * 0 + _ ≤ _; exact Nat.le_of_eq rfl) (hb hby at_4) (fun _ _ => ⟨rfl, e1, (by decide : 1 + 0 ≤ _), (by decide : 3 + 0 ≤ _)⟩)
  dsimp only [Pt.U, Pt.locs, Pt.cells, Pt.slots] at X2 l2 y2 z2 st2 hQ2
  subst l2 y2 z2
  obtain ⟨rfl, Nq2, Kq2, Fq2_0, Fq2_1⟩ := hQ2
  have Nf2 := Fr.app N0 Nq2
  have K2 : Keep h0 T2.heap [] := K1.trans Kq2 (allS (Or.inr sz_b1) all0)
  have Z2 : n0 ≤ T2.heap.size := Nat.le_trans Z1 Kq2.1
  refine own_fw (A' := (T2.setTop (mkF m 7 #[.val (.int p1), .unset, .unset, .unset] [(.ref b1)]))) (fun t k => st2.trans k) ?_
  refine own_fw (A' := (T2.setTop (mkF m 8 #[.val (.int p1), .val (.ref b1), .unset, .unset] []))) (fun t k => XS.astoreN X2.here hx rfl (hb hby at_7) rfl rfl (l' := #[.val (.int p1), .val (.ref b1), .unset, .unset]) rfl k) ?_
  refine own_fw (A' := (T2.setTop (mkF m 9 #[.val (.int p1), .val (.ref b1), .unset, .unset] [(.ref b1)]))) (fun t k => XS.aloadN X2.here hx rfl (hb hby at_8) rfl rfl k) ?_
  obtain ⟨cq3, kq3, qa3, qb3, qc3⟩ := isOf hZ rfl Fq2_0
  obtain ⟨_, _, ⟨T3, L3, k3, n3⟩, -, X3, ⟨Lc3, hQ3, l3, y3, z3⟩, st3⟩ := X2.virtualBack hx (y := (⟨"com/example/measured_cache/measuredcache/cache/Absence", "isHeld", "()Z"⟩ : MethodName)) (z := (⟨"com/example/measured_cache/measuredcache/cache/Absence", "isHeld", "()Z"⟩ : MethodName)) hown (mvT hZ (hw _ (List.mem_of_getElem? (i := 16) rfl))) (mvT hZ (hw _ (List.mem_of_getElem? (i := 17) rfl))) (notFace_of_selects (args := #[]) (mvT hZ (hw _ (List.mem_of_getElem? (i := 19) rfl)))) (mvT hZ (hw _ (List.mem_of_getElem? (i := 19) rfl))) (mvT hZ (hw _ (List.mem_of_getElem? (i := 18) rfl))) (by decide) (backOf (W := 0) (rmHeld l Z a0 hw [] b1 (0 : Int32) T2.heap n0 Z2 Fq2_1) hZ (hw _ (List.mem_of_getElem? (i := 20) rfl)) (hw _ (List.mem_of_getElem? (i := 2) rfl)) (by decide) (by decide)) qa3 qc3 (g := (mkF m 9 #[.val (.int p1), .val (.ref b1), .unset, .unset] [(.ref b1)])) rfl (by rw [hml]; rfl) (Steps.refl _) (argsL := []) (rest := []) (lenOf pd___Z rfl) rfl (by show 2 * 0 + _ ≤ _; exact Nat.le_of_eq rfl) (hb hby at_9) (fun _ _ => ⟨rfl, rfl, (by decide : 1 + 0 ≤ _), (by decide : 3 + 0 ≤ _)⟩)
  dsimp only [Pt.U, Pt.locs, Pt.cells, Pt.slots] at X3 l3 y3 z3 st3 hQ3
  subst l3 y3 z3
  obtain ⟨rfl, Nq3, e3⟩ := hQ3
  have Nf3 := Fr.app Nf2 Nq3
  refine own_fw (A' := (T3.setTop (mkF m 12 #[.val (.int p1), .val (.ref b1), .unset, .unset] [(.int (own_held (0 : Int32)))]))) (fun t k => st3.trans k) ?_
  refine own_fw (A' := (T3.setTop (mkF m 15 #[.val (.int p1), .val (.ref b1), .unset, .unset] []))) (fun t k => XS.ifNo X3.here hx rfl (hb hby at_12) rfl (XT.i0_ne_f (by decide)) k) ?_
  refine own_fw (A' := (T3.setTop (mkF m 16 #[.val (.int p1), .val (.ref b1), .unset, .unset] [(.int (1 : Int32))]))) (fun t k => XS.iconst X3.here hx rfl (hb hby at_15) k) ?_
  refine own_fw (A' := (T3.setTop (mkF m 20 #[.val (.int p1), .val (.ref b1), .unset, .unset] [(.int (1 : Int32))]))) (fun t k => XS.goto X3.here hx rfl (pc0 := 16) (pc' := 20) rfl (hb hby at_16) (by decide) (by decide) k) ?_
  refine own_fw (A' := (T3.setTop (mkF m 21 #[.val (.int p1), .val (.ref b1), .val (.int (1 : Int32)), .unset] []))) (fun t k => XS.istoreN X3.here hx rfl (hb hby at_20) rfl (l' := #[.val (.int p1), .val (.ref b1), .val (.int (1 : Int32)), .unset]) rfl k) ?_
  refine own_fw (A' := (T3.setTop (mkF m 22 #[.val (.int p1), .val (.ref b1), .val (.int (1 : Int32)), .unset] [(.ref b1)]))) (fun t k => XS.aloadN X3.here hx rfl (hb hby at_21) rfl rfl k) ?_
  refine own_fw (A' := (T3.setTop (mkF m 23 #[.val (.int p1), .val (.ref b1), .val (.int (1 : Int32)), .unset] [(.int (0 : Int32)), (.ref b1)]))) (fun t k => XS.iconst X3.here hx rfl (hb hby at_22) k) ?_
  refine own_fw (A' := (T3.setTop (mkF m 24 #[.val (.int p1), .val (.ref b1), .val (.int (1 : Int32)), .unset] [(.int p1), (.int (0 : Int32)), (.ref b1)]))) (fun t k => XS.iloadN X3.here hx rfl (hb hby at_23) rfl k) ?_
  refine own_fw (A' := (T3.setTop (mkF m 25 #[.val (.int p1), .val (.ref b1), .val (.int (1 : Int32)), .unset] [(.int (0 : Int32)), (.int p1), (.int (0 : Int32)), (.ref b1)]))) (fun t k => XS.iconst X3.here hx rfl (hb hby at_24) k) ?_
  obtain ⟨_, _, ⟨T4, L4, k4, n4⟩, -, X4, ⟨Lc4, hQ4, l4, y4, z4⟩, st4⟩ := Jvm.LawKit.callS X3 hx (y := (⟨"com/example/measured_cache/measuredcache/cache/AbsenceIsHeldPinLaw", "step", "(Lcom/example/measured_cache/measuredcache/cache/Absence;III)I"⟩ : MethodName)) hown (mvT hZ (hw _ (List.mem_of_getElem? (i := 23) rfl))) (mvT hZ (hw _ (List.mem_of_getElem? (i := 24) rfl))) (mvT hZ (hw _ (List.mem_of_getElem? (i := 25) rfl))) (mvT hZ (hw _ (List.mem_of_getElem? (i := 26) rfl))) (by decide) (backOf (W := 0) (rmStep l Z a0 hw [] b1 (0 : Int32) p1 (0 : Int32) T2.heap n0 Z2 Fq2_0 Fq2_1 g_b1) hZ (hw _ (List.mem_of_getElem? (i := 26) rfl)) (hw _ (List.mem_of_getElem? (i := 25) rfl)) (by decide) (by decide)) (g := (mkF m 25 #[.val (.int p1), .val (.ref b1), .val (.int (1 : Int32)), .unset] [(.int (0 : Int32)), (.int p1), (.int (0 : Int32)), (.ref b1)])) rfl (by rw [hml]; rfl) (argsL := [(.ref b1), (.int (0 : Int32)), (.int p1), (.int (0 : Int32))]) (rest := []) (lenOf pd__Lcom_example_measured_cache_measuredcache_cache_Absence_III_I rfl) rfl (by show 2 * 0 + _ ≤ _; exact Nat.le_of_eq rfl) (hb hby at_25) (fun _ _ => ⟨rfl, e3, (by decide : 1 + 0 ≤ _), (by decide : 3 + 0 ≤ _)⟩)
  dsimp only [Pt.U, Pt.locs, Pt.cells, Pt.slots] at X4 l4 y4 z4 st4 hQ4
  subst l4 y4 z4
  obtain ⟨rfl, Nq4, Kq4, Fq4_0, Fq4_1⟩ := hQ4
  have Nf4 := Fr.app Nf3 Nq4
  have K4 : Keep h0 T4.heap [] := K2.trans Kq4 (allS (Or.inr sz_b1) all0)
  have Z4 : n0 ≤ T4.heap.size := Nat.le_trans Z2 Kq4.1
  refine own_fw (A' := (T4.setTop (mkF m 28 #[.val (.int p1), .val (.ref b1), .val (.int (1 : Int32)), .unset] [(.int (own_step (0 : Int32) p1 (0 : Int32)))]))) (fun t k => st4 _ k) ?_
  refine own_fw (A' := (T4.setTop (mkF m 29 #[.val (.int p1), .val (.ref b1), .val (.int (1 : Int32)), .val (.int (own_step (0 : Int32) p1 (0 : Int32)))] []))) (fun t k => XS.istoreN X4.here hx rfl (hb hby at_28) rfl (l' := #[.val (.int p1), .val (.ref b1), .val (.int (1 : Int32)), .val (.int (own_step (0 : Int32) p1 (0 : Int32)))]) rfl k) ?_
  refine own_fw (A' := (T4.setTop (mkF m 30 #[.val (.int p1), .val (.ref b1), .val (.int (1 : Int32)), .val (.int (own_step (0 : Int32) p1 (0 : Int32)))] [(.int (1 : Int32))]))) (fun t k => XS.iloadN X4.here hx rfl (hb hby at_29) rfl k) ?_
  refine own_fw (A' := (T4.setTop (mkF m 31 #[.val (.int p1), .val (.ref b1), .val (.int (1 : Int32)), .val (.int (own_step (0 : Int32) p1 (0 : Int32)))] [(.ref b1), (.int (1 : Int32))]))) (fun t k => XS.aloadN X4.here hx rfl (hb hby at_30) rfl rfl k) ?_
  obtain ⟨cq5, kq5, qa5, qb5, qc5⟩ := isOf hZ rfl Fq4_0
  obtain ⟨_, _, ⟨T5, L5, k5, n5⟩, -, X5, ⟨Lc5, hQ5, l5, y5, z5⟩, st5⟩ := X4.virtualBack hx (y := (⟨"com/example/measured_cache/measuredcache/cache/Absence", "isHeld", "()Z"⟩ : MethodName)) (z := (⟨"com/example/measured_cache/measuredcache/cache/Absence", "isHeld", "()Z"⟩ : MethodName)) hown (mvT hZ (hw _ (List.mem_of_getElem? (i := 16) rfl))) (mvT hZ (hw _ (List.mem_of_getElem? (i := 17) rfl))) (notFace_of_selects (args := #[]) (mvT hZ (hw _ (List.mem_of_getElem? (i := 19) rfl)))) (mvT hZ (hw _ (List.mem_of_getElem? (i := 19) rfl))) (mvT hZ (hw _ (List.mem_of_getElem? (i := 18) rfl))) (by decide) (backOf (W := 1) (rmHeld l Z a0 hw [] b1 (own_step (0 : Int32) p1 (0 : Int32)) T4.heap n0 Z4 Fq4_1) hZ (hw _ (List.mem_of_getElem? (i := 20) rfl)) (hw _ (List.mem_of_getElem? (i := 2) rfl)) (by decide) (by decide)) qa5 qc5 (g := (mkF m 31 #[.val (.int p1), .val (.ref b1), .val (.int (1 : Int32)), .val (.int (own_step (0 : Int32) p1 (0 : Int32)))] [(.ref b1), (.int (1 : Int32))])) rfl (by rw [hml]; rfl) (Steps.refl _) (argsL := []) (rest := [(.int (1 : Int32))]) (lenOf pd___Z rfl) rfl (by show 2 * 0 + _ ≤ _; exact Nat.le_of_eq rfl) (hb hby at_31) (fun _ _ => ⟨rfl, rfl, (by decide : 1 + 0 ≤ _), (by decide : 3 + 0 ≤ _)⟩)
  dsimp only [Pt.U, Pt.locs, Pt.cells, Pt.slots] at X5 l5 y5 z5 st5 hQ5
  subst l5 y5 z5
  obtain ⟨rfl, Nq5, e5⟩ := hQ5
  have Nf5 := Fr.app Nf4 Nq5
  refine own_fw (A' := (T5.setTop (mkF m 34 #[.val (.int p1), .val (.ref b1), .val (.int (1 : Int32)), .val (.int (own_step (0 : Int32) p1 (0 : Int32)))] [(.int (own_held (own_step (0 : Int32) p1 (0 : Int32)))), (.int (1 : Int32))]))) (fun t k => st5.trans k) ?_
  refine own_fw (A' := (T5.setTop (mkF m 35 #[.val (.int p1), .val (.ref b1), .val (.int (1 : Int32)), .val (.int (own_step (0 : Int32) p1 (0 : Int32)))] [(.int (own_step (0 : Int32) p1 (0 : Int32))), (.int (own_held (own_step (0 : Int32) p1 (0 : Int32)))), (.int (1 : Int32))]))) (fun t k => XS.iloadN X5.here hx rfl (hb hby at_34) rfl k) ?_
  refine own_fw (A' := (T5.setTop (mkF m 43 #[.val (.int p1), .val (.ref b1), .val (.int (1 : Int32)), .val (.int (own_step (0 : Int32) p1 (0 : Int32)))] [(.int (if (0 : Int32) < (own_step (0 : Int32) p1 (0 : Int32)) then (1 : Int32) else (0 : Int32))), (.int (own_held (own_step (0 : Int32) p1 (0 : Int32)))), (.int (1 : Int32))]))) (fun t k => ?_) ?_
  · by_cases hj6 : (0 : Int32) < (own_step (0 : Int32) p1 (0 : Int32))
    · try simp only [if_pos hj6] at k
      refine own_st (A' := (T5.setTop (mkF m 38 #[.val (.int p1), .val (.ref b1), .val (.int (1 : Int32)), .val (.int (own_step (0 : Int32) p1 (0 : Int32)))] [(.int (own_held (own_step (0 : Int32) p1 (0 : Int32)))), (.int (1 : Int32))]))) (fun t k => XS.ifNo X5.here hx rfl (hb hby at_35) rfl (XT.i0_le_f hj6) k) ?_
      refine own_st (A' := (T5.setTop (mkF m 39 #[.val (.int p1), .val (.ref b1), .val (.int (1 : Int32)), .val (.int (own_step (0 : Int32) p1 (0 : Int32)))] [(.int (1 : Int32)), (.int (own_held (own_step (0 : Int32) p1 (0 : Int32)))), (.int (1 : Int32))]))) (fun t k => XS.iconst X5.here hx rfl (hb hby at_38) k) ?_
      refine own_st (A' := (T5.setTop (mkF m 43 #[.val (.int p1), .val (.ref b1), .val (.int (1 : Int32)), .val (.int (own_step (0 : Int32) p1 (0 : Int32)))] [(.int (1 : Int32)), (.int (own_held (own_step (0 : Int32) p1 (0 : Int32)))), (.int (1 : Int32))]))) (fun t k => XS.goto X5.here hx rfl (pc0 := 39) (pc' := 43) rfl (hb hby at_39) (by decide) (by decide) k) ?_
      exact k
    · try simp only [if_neg hj6] at k
      refine own_st (A' := (T5.setTop (mkF m 42 #[.val (.int p1), .val (.ref b1), .val (.int (1 : Int32)), .val (.int (own_step (0 : Int32) p1 (0 : Int32)))] [(.int (own_held (own_step (0 : Int32) p1 (0 : Int32)))), (.int (1 : Int32))]))) (fun t k => XS.ifYes X5.here hx rfl (pc0 := 35) (pc' := 42) rfl (hb hby at_35) rfl (XT.i0_le_t hj6) (by decide) (by decide) k) ?_
      refine own_st (A' := (T5.setTop (mkF m 43 #[.val (.int p1), .val (.ref b1), .val (.int (1 : Int32)), .val (.int (own_step (0 : Int32) p1 (0 : Int32)))] [(.int (0 : Int32)), (.int (own_held (own_step (0 : Int32) p1 (0 : Int32)))), (.int (1 : Int32))]))) (fun t k => XS.iconst X5.here hx rfl (hb hby at_42) k) ?_
      exact k
  refine own_fw (A' := (T5.setTop (mkF m 46 #[.val (.int p1), .val (.ref b1), .val (.int (1 : Int32)), .val (.int (own_step (0 : Int32) p1 (0 : Int32)))] [(.int (1 : Int32))]))) (fun t k => XS.icmpNo X5.here hx rfl (hb hby at_43) rfl (XT.ii_ne_f rfl) k) ?_
  refine own_fw (A' := (T5.setTop (mkF m 47 #[.val (.int p1), .val (.ref b1), .val (.int (1 : Int32)), .val (.int (own_step (0 : Int32) p1 (0 : Int32)))] [(.int (1 : Int32)), (.int (1 : Int32))]))) (fun t k => XS.iconst X5.here hx rfl (hb hby at_46) k) ?_
  refine own_fw (A' := (T5.setTop (mkF m 51 #[.val (.int p1), .val (.ref b1), .val (.int (1 : Int32)), .val (.int (own_step (0 : Int32) p1 (0 : Int32)))] [(.int (1 : Int32)), (.int (1 : Int32))]))) (fun t k => XS.goto X5.here hx rfl (pc0 := 47) (pc' := 51) rfl (hb hby at_47) (by decide) (by decide) k) ?_
  refine own_fw (A' := (T5.setTop (mkF m 52 #[.val (.int p1), .val (.ref b1), .val (.int (1 : Int32)), .val (.int (own_step (0 : Int32) p1 (0 : Int32)))] [(.int (1 : Int32))]))) (fun t k => XS.iand X5.here hx rfl (hb hby at_51) rfl k) ?_
  refine own_fw (A' := (T5.setTop (mkF m 53 #[.val (.int p1), .val (.ref b1), .val (.int (1 : Int32)), .val (.int (own_step (0 : Int32) p1 (0 : Int32)))] []))) (fun t k => XS.istoreN X5.here hx rfl (hb hby at_52) rfl (l' := #[.val (.int p1), .val (.ref b1), .val (.int (1 : Int32)), .val (.int (own_step (0 : Int32) p1 (0 : Int32)))]) rfl k) ?_
  refine own_fw (A' := (T5.setTop (mkF m 54 #[.val (.int p1), .val (.ref b1), .val (.int (1 : Int32)), .val (.int (own_step (0 : Int32) p1 (0 : Int32)))] [(.ref b1)]))) (fun t k => XS.aloadN X5.here hx rfl (hb hby at_53) rfl rfl k) ?_
  refine own_fw (A' := (T5.setTop (mkF m 55 #[.val (.int p1), .val (.ref b1), .val (.int (1 : Int32)), .val (.int (own_step (0 : Int32) p1 (0 : Int32)))] [(.int (own_step (0 : Int32) p1 (0 : Int32))), (.ref b1)]))) (fun t k => XS.iloadN X5.here hx rfl (hb hby at_54) rfl k) ?_
  refine own_fw (A' := (T5.setTop (mkF m 56 #[.val (.int p1), .val (.ref b1), .val (.int (1 : Int32)), .val (.int (own_step (0 : Int32) p1 (0 : Int32)))] [(.int p1), (.int (own_step (0 : Int32) p1 (0 : Int32))), (.ref b1)]))) (fun t k => XS.iloadN X5.here hx rfl (hb hby at_55) rfl k) ?_
  refine own_fw (A' := (T5.setTop (mkF m 57 #[.val (.int p1), .val (.ref b1), .val (.int (1 : Int32)), .val (.int (own_step (0 : Int32) p1 (0 : Int32)))] [(.int (1 : Int32)), (.int p1), (.int (own_step (0 : Int32) p1 (0 : Int32))), (.ref b1)]))) (fun t k => XS.iconst X5.here hx rfl (hb hby at_56) k) ?_
  obtain ⟨_, _, ⟨T7, L7, k7, n7⟩, -, X7, ⟨Lc7, hQ7, l7, y7, z7⟩, st7⟩ := Jvm.LawKit.callS X5 hx (y := (⟨"com/example/measured_cache/measuredcache/cache/AbsenceIsHeldPinLaw", "step", "(Lcom/example/measured_cache/measuredcache/cache/Absence;III)I"⟩ : MethodName)) hown (mvT hZ (hw _ (List.mem_of_getElem? (i := 23) rfl))) (mvT hZ (hw _ (List.mem_of_getElem? (i := 24) rfl))) (mvT hZ (hw _ (List.mem_of_getElem? (i := 25) rfl))) (mvT hZ (hw _ (List.mem_of_getElem? (i := 26) rfl))) (by decide) (backOf (W := 0) (rmStep l Z a0 hw [] b1 (own_step (0 : Int32) p1 (0 : Int32)) p1 (1 : Int32) T4.heap n0 Z4 Fq4_0 Fq4_1 g_b1) hZ (hw _ (List.mem_of_getElem? (i := 26) rfl)) (hw _ (List.mem_of_getElem? (i := 25) rfl)) (by decide) (by decide)) (g := (mkF m 57 #[.val (.int p1), .val (.ref b1), .val (.int (1 : Int32)), .val (.int (own_step (0 : Int32) p1 (0 : Int32)))] [(.int (1 : Int32)), (.int p1), (.int (own_step (0 : Int32) p1 (0 : Int32))), (.ref b1)])) rfl (by rw [hml]; rfl) (argsL := [(.ref b1), (.int (own_step (0 : Int32) p1 (0 : Int32))), (.int p1), (.int (1 : Int32))]) (rest := []) (lenOf pd__Lcom_example_measured_cache_measuredcache_cache_Absence_III_I rfl) rfl (by show 2 * 0 + _ ≤ _; exact Nat.le_of_eq rfl) (hb hby at_57) (fun _ _ => ⟨rfl, e5, (by decide : 1 + 0 ≤ _), (by decide : 3 + 0 ≤ _)⟩)
  dsimp only [Pt.U, Pt.locs, Pt.cells, Pt.slots] at X7 l7 y7 z7 st7 hQ7
  subst l7 y7 z7
  obtain ⟨rfl, Nq7, Kq7, Fq7_0, Fq7_1⟩ := hQ7
  have Nf7 := Fr.app Nf5 Nq7
  have K7 : Keep h0 T7.heap [] := K4.trans Kq7 (allS (Or.inr sz_b1) all0)
  have Z7 : n0 ≤ T7.heap.size := Nat.le_trans Z4 Kq7.1
  refine own_fw (A' := (T7.setTop (mkF m 60 #[.val (.int p1), .val (.ref b1), .val (.int (1 : Int32)), .val (.int (own_step (0 : Int32) p1 (0 : Int32)))] [(.int (own_step (own_step (0 : Int32) p1 (0 : Int32)) p1 (1 : Int32)))]))) (fun t k => st7 _ k) ?_
  refine own_fw (A' := (T7.setTop (mkF m 61 #[.val (.int p1), .val (.ref b1), .val (.int (1 : Int32)), .val (.int (own_step (own_step (0 : Int32) p1 (0 : Int32)) p1 (1 : Int32)))] []))) (fun t k => XS.istoreN X7.here hx rfl (hb hby at_60) rfl (l' := #[.val (.int p1), .val (.ref b1), .val (.int (1 : Int32)), .val (.int (own_step (own_step (0 : Int32) p1 (0 : Int32)) p1 (1 : Int32)))]) rfl k) ?_
  refine own_fw (A' := (T7.setTop (mkF m 62 #[.val (.int p1), .val (.ref b1), .val (.int (1 : Int32)), .val (.int (own_step (own_step (0 : Int32) p1 (0 : Int32)) p1 (1 : Int32)))] [(.int (1 : Int32))]))) (fun t k => XS.iloadN X7.here hx rfl (hb hby at_61) rfl k) ?_
  refine own_fw (A' := (T7.setTop (mkF m 63 #[.val (.int p1), .val (.ref b1), .val (.int (1 : Int32)), .val (.int (own_step (own_step (0 : Int32) p1 (0 : Int32)) p1 (1 : Int32)))] [(.ref b1), (.int (1 : Int32))]))) (fun t k => XS.aloadN X7.here hx rfl (hb hby at_62) rfl rfl k) ?_
  obtain ⟨cq8, kq8, qa8, qb8, qc8⟩ := isOf hZ rfl Fq7_0
  obtain ⟨_, _, ⟨T8, L8, k8, n8⟩, -, X8, ⟨Lc8, hQ8, l8, y8, z8⟩, st8⟩ := X7.virtualBack hx (y := (⟨"com/example/measured_cache/measuredcache/cache/Absence", "isHeld", "()Z"⟩ : MethodName)) (z := (⟨"com/example/measured_cache/measuredcache/cache/Absence", "isHeld", "()Z"⟩ : MethodName)) hown (mvT hZ (hw _ (List.mem_of_getElem? (i := 16) rfl))) (mvT hZ (hw _ (List.mem_of_getElem? (i := 17) rfl))) (notFace_of_selects (args := #[]) (mvT hZ (hw _ (List.mem_of_getElem? (i := 19) rfl)))) (mvT hZ (hw _ (List.mem_of_getElem? (i := 19) rfl))) (mvT hZ (hw _ (List.mem_of_getElem? (i := 18) rfl))) (by decide) (backOf (W := 1) (rmHeld l Z a0 hw [] b1 (own_step (own_step (0 : Int32) p1 (0 : Int32)) p1 (1 : Int32)) T7.heap n0 Z7 Fq7_1) hZ (hw _ (List.mem_of_getElem? (i := 20) rfl)) (hw _ (List.mem_of_getElem? (i := 2) rfl)) (by decide) (by decide)) qa8 qc8 (g := (mkF m 63 #[.val (.int p1), .val (.ref b1), .val (.int (1 : Int32)), .val (.int (own_step (own_step (0 : Int32) p1 (0 : Int32)) p1 (1 : Int32)))] [(.ref b1), (.int (1 : Int32))])) rfl (by rw [hml]; rfl) (Steps.refl _) (argsL := []) (rest := [(.int (1 : Int32))]) (lenOf pd___Z rfl) rfl (by show 2 * 0 + _ ≤ _; exact Nat.le_of_eq rfl) (hb hby at_63) (fun _ _ => ⟨rfl, rfl, (by decide : 1 + 0 ≤ _), (by decide : 3 + 0 ≤ _)⟩)
  dsimp only [Pt.U, Pt.locs, Pt.cells, Pt.slots] at X8 l8 y8 z8 st8 hQ8
  subst l8 y8 z8
  obtain ⟨rfl, Nq8, e8⟩ := hQ8
  have Nf8 := Fr.app Nf7 Nq8
  refine own_fw (A' := (T8.setTop (mkF m 66 #[.val (.int p1), .val (.ref b1), .val (.int (1 : Int32)), .val (.int (own_step (own_step (0 : Int32) p1 (0 : Int32)) p1 (1 : Int32)))] [(.int (own_held (own_step (own_step (0 : Int32) p1 (0 : Int32)) p1 (1 : Int32)))), (.int (1 : Int32))]))) (fun t k => st8.trans k) ?_
  refine own_fw (A' := (T8.setTop (mkF m 67 #[.val (.int p1), .val (.ref b1), .val (.int (1 : Int32)), .val (.int (own_step (own_step (0 : Int32) p1 (0 : Int32)) p1 (1 : Int32)))] [(.int (own_step (own_step (0 : Int32) p1 (0 : Int32)) p1 (1 : Int32))), (.int (own_held (own_step (own_step (0 : Int32) p1 (0 : Int32)) p1 (1 : Int32)))), (.int (1 : Int32))]))) (fun t k => XS.iloadN X8.here hx rfl (hb hby at_66) rfl k) ?_
  refine own_fw (A' := (T8.setTop (mkF m 75 #[.val (.int p1), .val (.ref b1), .val (.int (1 : Int32)), .val (.int (own_step (own_step (0 : Int32) p1 (0 : Int32)) p1 (1 : Int32)))] [(.int (if (0 : Int32) < (own_step (own_step (0 : Int32) p1 (0 : Int32)) p1 (1 : Int32)) then (1 : Int32) else (0 : Int32))), (.int (own_held (own_step (own_step (0 : Int32) p1 (0 : Int32)) p1 (1 : Int32)))), (.int (1 : Int32))]))) (fun t k => ?_) ?_
  · by_cases hj9 : (0 : Int32) < (own_step (own_step (0 : Int32) p1 (0 : Int32)) p1 (1 : Int32))
    · try simp only [if_pos hj9] at k
      refine own_st (A' := (T8.setTop (mkF m 70 #[.val (.int p1), .val (.ref b1), .val (.int (1 : Int32)), .val (.int (own_step (own_step (0 : Int32) p1 (0 : Int32)) p1 (1 : Int32)))] [(.int (own_held (own_step (own_step (0 : Int32) p1 (0 : Int32)) p1 (1 : Int32)))), (.int (1 : Int32))]))) (fun t k => XS.ifNo X8.here hx rfl (hb hby at_67) rfl (XT.i0_le_f hj9) k) ?_
      refine own_st (A' := (T8.setTop (mkF m 71 #[.val (.int p1), .val (.ref b1), .val (.int (1 : Int32)), .val (.int (own_step (own_step (0 : Int32) p1 (0 : Int32)) p1 (1 : Int32)))] [(.int (1 : Int32)), (.int (own_held (own_step (own_step (0 : Int32) p1 (0 : Int32)) p1 (1 : Int32)))), (.int (1 : Int32))]))) (fun t k => XS.iconst X8.here hx rfl (hb hby at_70) k) ?_
      refine own_st (A' := (T8.setTop (mkF m 75 #[.val (.int p1), .val (.ref b1), .val (.int (1 : Int32)), .val (.int (own_step (own_step (0 : Int32) p1 (0 : Int32)) p1 (1 : Int32)))] [(.int (1 : Int32)), (.int (own_held (own_step (own_step (0 : Int32) p1 (0 : Int32)) p1 (1 : Int32)))), (.int (1 : Int32))]))) (fun t k => XS.goto X8.here hx rfl (pc0 := 71) (pc' := 75) rfl (hb hby at_71) (by decide) (by decide) k) ?_
      exact k
    · try simp only [if_neg hj9] at k
      refine own_st (A' := (T8.setTop (mkF m 74 #[.val (.int p1), .val (.ref b1), .val (.int (1 : Int32)), .val (.int (own_step (own_step (0 : Int32) p1 (0 : Int32)) p1 (1 : Int32)))] [(.int (own_held (own_step (own_step (0 : Int32) p1 (0 : Int32)) p1 (1 : Int32)))), (.int (1 : Int32))]))) (fun t k => XS.ifYes X8.here hx rfl (pc0 := 67) (pc' := 74) rfl (hb hby at_67) rfl (XT.i0_le_t hj9) (by decide) (by decide) k) ?_
      refine own_st (A' := (T8.setTop (mkF m 75 #[.val (.int p1), .val (.ref b1), .val (.int (1 : Int32)), .val (.int (own_step (own_step (0 : Int32) p1 (0 : Int32)) p1 (1 : Int32)))] [(.int (0 : Int32)), (.int (own_held (own_step (own_step (0 : Int32) p1 (0 : Int32)) p1 (1 : Int32)))), (.int (1 : Int32))]))) (fun t k => XS.iconst X8.here hx rfl (hb hby at_74) k) ?_
      exact k
  refine own_fw (A' := (T8.setTop (mkF m 78 #[.val (.int p1), .val (.ref b1), .val (.int (1 : Int32)), .val (.int (own_step (own_step (0 : Int32) p1 (0 : Int32)) p1 (1 : Int32)))] [(.int (1 : Int32))]))) (fun t k => XS.icmpNo X8.here hx rfl (hb hby at_75) rfl (XT.ii_ne_f rfl) k) ?_
  refine own_fw (A' := (T8.setTop (mkF m 79 #[.val (.int p1), .val (.ref b1), .val (.int (1 : Int32)), .val (.int (own_step (own_step (0 : Int32) p1 (0 : Int32)) p1 (1 : Int32)))] [(.int (1 : Int32)), (.int (1 : Int32))]))) (fun t k => XS.iconst X8.here hx rfl (hb hby at_78) k) ?_
  refine own_fw (A' := (T8.setTop (mkF m 83 #[.val (.int p1), .val (.ref b1), .val (.int (1 : Int32)), .val (.int (own_step (own_step (0 : Int32) p1 (0 : Int32)) p1 (1 : Int32)))] [(.int (1 : Int32)), (.int (1 : Int32))]))) (fun t k => XS.goto X8.here hx rfl (pc0 := 79) (pc' := 83) rfl (hb hby at_79) (by decide) (by decide) k) ?_
  refine own_fw (A' := (T8.setTop (mkF m 84 #[.val (.int p1), .val (.ref b1), .val (.int (1 : Int32)), .val (.int (own_step (own_step (0 : Int32) p1 (0 : Int32)) p1 (1 : Int32)))] [(.int (1 : Int32))]))) (fun t k => XS.iand X8.here hx rfl (hb hby at_83) rfl k) ?_
  refine own_fw (A' := (T8.setTop (mkF m 85 #[.val (.int p1), .val (.ref b1), .val (.int (1 : Int32)), .val (.int (own_step (own_step (0 : Int32) p1 (0 : Int32)) p1 (1 : Int32)))] []))) (fun t k => XS.istoreN X8.here hx rfl (hb hby at_84) rfl (l' := #[.val (.int p1), .val (.ref b1), .val (.int (1 : Int32)), .val (.int (own_step (own_step (0 : Int32) p1 (0 : Int32)) p1 (1 : Int32)))]) rfl k) ?_
  refine own_fw (A' := (T8.setTop (mkF m 86 #[.val (.int p1), .val (.ref b1), .val (.int (1 : Int32)), .val (.int (own_step (own_step (0 : Int32) p1 (0 : Int32)) p1 (1 : Int32)))] [(.ref b1)]))) (fun t k => XS.aloadN X8.here hx rfl (hb hby at_85) rfl rfl k) ?_
  refine own_fw (A' := (T8.setTop (mkF m 87 #[.val (.int p1), .val (.ref b1), .val (.int (1 : Int32)), .val (.int (own_step (own_step (0 : Int32) p1 (0 : Int32)) p1 (1 : Int32)))] [(.int (own_step (own_step (0 : Int32) p1 (0 : Int32)) p1 (1 : Int32))), (.ref b1)]))) (fun t k => XS.iloadN X8.here hx rfl (hb hby at_86) rfl k) ?_
  refine own_fw (A' := (T8.setTop (mkF m 88 #[.val (.int p1), .val (.ref b1), .val (.int (1 : Int32)), .val (.int (own_step (own_step (0 : Int32) p1 (0 : Int32)) p1 (1 : Int32)))] [(.int p1), (.int (own_step (own_step (0 : Int32) p1 (0 : Int32)) p1 (1 : Int32))), (.ref b1)]))) (fun t k => XS.iloadN X8.here hx rfl (hb hby at_87) rfl k) ?_
  refine own_fw (A' := (T8.setTop (mkF m 89 #[.val (.int p1), .val (.ref b1), .val (.int (1 : Int32)), .val (.int (own_step (own_step (0 : Int32) p1 (0 : Int32)) p1 (1 : Int32)))] [(.int (2 : Int32)), (.int p1), (.int (own_step (own_step (0 : Int32) p1 (0 : Int32)) p1 (1 : Int32))), (.ref b1)]))) (fun t k => XS.iconst X8.here hx rfl (hb hby at_88) k) ?_
  obtain ⟨_, _, ⟨T10, L10, k10, n10⟩, -, X10, ⟨Lc10, hQ10, l10, y10, z10⟩, st10⟩ := Jvm.LawKit.callS X8 hx (y := (⟨"com/example/measured_cache/measuredcache/cache/AbsenceIsHeldPinLaw", "step", "(Lcom/example/measured_cache/measuredcache/cache/Absence;III)I"⟩ : MethodName)) hown (mvT hZ (hw _ (List.mem_of_getElem? (i := 23) rfl))) (mvT hZ (hw _ (List.mem_of_getElem? (i := 24) rfl))) (mvT hZ (hw _ (List.mem_of_getElem? (i := 25) rfl))) (mvT hZ (hw _ (List.mem_of_getElem? (i := 26) rfl))) (by decide) (backOf (W := 0) (rmStep l Z a0 hw [] b1 (own_step (own_step (0 : Int32) p1 (0 : Int32)) p1 (1 : Int32)) p1 (2 : Int32) T7.heap n0 Z7 Fq7_0 Fq7_1 g_b1) hZ (hw _ (List.mem_of_getElem? (i := 26) rfl)) (hw _ (List.mem_of_getElem? (i := 25) rfl)) (by decide) (by decide)) (g := (mkF m 89 #[.val (.int p1), .val (.ref b1), .val (.int (1 : Int32)), .val (.int (own_step (own_step (0 : Int32) p1 (0 : Int32)) p1 (1 : Int32)))] [(.int (2 : Int32)), (.int p1), (.int (own_step (own_step (0 : Int32) p1 (0 : Int32)) p1 (1 : Int32))), (.ref b1)])) rfl (by rw [hml]; rfl) (argsL := [(.ref b1), (.int (own_step (own_step (0 : Int32) p1 (0 : Int32)) p1 (1 : Int32))), (.int p1), (.int (2 : Int32))]) (rest := []) (lenOf pd__Lcom_example_measured_cache_measuredcache_cache_Absence_III_I rfl) rfl (by show 2 * 0 + _ ≤ _; exact Nat.le_of_eq rfl) (hb hby at_89) (fun _ _ => ⟨rfl, e8, (by decide : 1 + 0 ≤ _), (by decide : 3 + 0 ≤ _)⟩)
  dsimp only [Pt.U, Pt.locs, Pt.cells, Pt.slots] at X10 l10 y10 z10 st10 hQ10
  subst l10 y10 z10
  obtain ⟨rfl, Nq10, Kq10, Fq10_0, Fq10_1⟩ := hQ10
  have Nf10 := Fr.app Nf8 Nq10
  have K10 : Keep h0 T10.heap [] := K7.trans Kq10 (allS (Or.inr sz_b1) all0)
  have Z10 : n0 ≤ T10.heap.size := Nat.le_trans Z7 Kq10.1
  refine own_fw (A' := (T10.setTop (mkF m 92 #[.val (.int p1), .val (.ref b1), .val (.int (1 : Int32)), .val (.int (own_step (own_step (0 : Int32) p1 (0 : Int32)) p1 (1 : Int32)))] [(.int (own_step (own_step (own_step (0 : Int32) p1 (0 : Int32)) p1 (1 : Int32)) p1 (2 : Int32)))]))) (fun t k => st10 _ k) ?_
  refine own_fw (A' := (T10.setTop (mkF m 93 #[.val (.int p1), .val (.ref b1), .val (.int (1 : Int32)), .val (.int (own_step (own_step (own_step (0 : Int32) p1 (0 : Int32)) p1 (1 : Int32)) p1 (2 : Int32)))] []))) (fun t k => XS.istoreN X10.here hx rfl (hb hby at_92) rfl (l' := #[.val (.int p1), .val (.ref b1), .val (.int (1 : Int32)), .val (.int (own_step (own_step (own_step (0 : Int32) p1 (0 : Int32)) p1 (1 : Int32)) p1 (2 : Int32)))]) rfl k) ?_
  refine own_fw (A' := (T10.setTop (mkF m 94 #[.val (.int p1), .val (.ref b1), .val (.int (1 : Int32)), .val (.int (own_step (own_step (own_step (0 : Int32) p1 (0 : Int32)) p1 (1 : Int32)) p1 (2 : Int32)))] [(.int (1 : Int32))]))) (fun t k => XS.iloadN X10.here hx rfl (hb hby at_93) rfl k) ?_
  refine own_fw (A' := (T10.setTop (mkF m 95 #[.val (.int p1), .val (.ref b1), .val (.int (1 : Int32)), .val (.int (own_step (own_step (own_step (0 : Int32) p1 (0 : Int32)) p1 (1 : Int32)) p1 (2 : Int32)))] [(.ref b1), (.int (1 : Int32))]))) (fun t k => XS.aloadN X10.here hx rfl (hb hby at_94) rfl rfl k) ?_
  obtain ⟨cq11, kq11, qa11, qb11, qc11⟩ := isOf hZ rfl Fq10_0
  obtain ⟨_, _, ⟨T11, L11, k11, n11⟩, -, X11, ⟨Lc11, hQ11, l11, y11, z11⟩, st11⟩ := X10.virtualBack hx (y := (⟨"com/example/measured_cache/measuredcache/cache/Absence", "isHeld", "()Z"⟩ : MethodName)) (z := (⟨"com/example/measured_cache/measuredcache/cache/Absence", "isHeld", "()Z"⟩ : MethodName)) hown (mvT hZ (hw _ (List.mem_of_getElem? (i := 16) rfl))) (mvT hZ (hw _ (List.mem_of_getElem? (i := 17) rfl))) (notFace_of_selects (args := #[]) (mvT hZ (hw _ (List.mem_of_getElem? (i := 19) rfl)))) (mvT hZ (hw _ (List.mem_of_getElem? (i := 19) rfl))) (mvT hZ (hw _ (List.mem_of_getElem? (i := 18) rfl))) (by decide) (backOf (W := 1) (rmHeld l Z a0 hw [] b1 (own_step (own_step (own_step (0 : Int32) p1 (0 : Int32)) p1 (1 : Int32)) p1 (2 : Int32)) T10.heap n0 Z10 Fq10_1) hZ (hw _ (List.mem_of_getElem? (i := 20) rfl)) (hw _ (List.mem_of_getElem? (i := 2) rfl)) (by decide) (by decide)) qa11 qc11 (g := (mkF m 95 #[.val (.int p1), .val (.ref b1), .val (.int (1 : Int32)), .val (.int (own_step (own_step (own_step (0 : Int32) p1 (0 : Int32)) p1 (1 : Int32)) p1 (2 : Int32)))] [(.ref b1), (.int (1 : Int32))])) rfl (by rw [hml]; rfl) (Steps.refl _) (argsL := []) (rest := [(.int (1 : Int32))]) (lenOf pd___Z rfl) rfl (by show 2 * 0 + _ ≤ _; exact Nat.le_of_eq rfl) (hb hby at_95) (fun _ _ => ⟨rfl, rfl, (by decide : 1 + 0 ≤ _), (by decide : 3 + 0 ≤ _)⟩)
  dsimp only [Pt.U, Pt.locs, Pt.cells, Pt.slots] at X11 l11 y11 z11 st11 hQ11
  subst l11 y11 z11
  obtain ⟨rfl, Nq11, e11⟩ := hQ11
  have Nf11 := Fr.app Nf10 Nq11
  refine own_fw (A' := (T11.setTop (mkF m 98 #[.val (.int p1), .val (.ref b1), .val (.int (1 : Int32)), .val (.int (own_step (own_step (own_step (0 : Int32) p1 (0 : Int32)) p1 (1 : Int32)) p1 (2 : Int32)))] [(.int (own_held (own_step (own_step (own_step (0 : Int32) p1 (0 : Int32)) p1 (1 : Int32)) p1 (2 : Int32)))), (.int (1 : Int32))]))) (fun t k => st11.trans k) ?_
  refine own_fw (A' := (T11.setTop (mkF m 99 #[.val (.int p1), .val (.ref b1), .val (.int (1 : Int32)), .val (.int (own_step (own_step (own_step (0 : Int32) p1 (0 : Int32)) p1 (1 : Int32)) p1 (2 : Int32)))] [(.int (own_step (own_step (own_step (0 : Int32) p1 (0 : Int32)) p1 (1 : Int32)) p1 (2 : Int32))), (.int (own_held (own_step (own_step (own_step (0 : Int32) p1 (0 : Int32)) p1 (1 : Int32)) p1 (2 : Int32)))), (.int (1 : Int32))]))) (fun t k => XS.iloadN X11.here hx rfl (hb hby at_98) rfl k) ?_
  refine own_fw (A' := (T11.setTop (mkF m 107 #[.val (.int p1), .val (.ref b1), .val (.int (1 : Int32)), .val (.int (own_step (own_step (own_step (0 : Int32) p1 (0 : Int32)) p1 (1 : Int32)) p1 (2 : Int32)))] [(.int (if (0 : Int32) < (own_step (own_step (own_step (0 : Int32) p1 (0 : Int32)) p1 (1 : Int32)) p1 (2 : Int32)) then (1 : Int32) else (0 : Int32))), (.int (own_held (own_step (own_step (own_step (0 : Int32) p1 (0 : Int32)) p1 (1 : Int32)) p1 (2 : Int32)))), (.int (1 : Int32))]))) (fun t k => ?_) ?_
  · by_cases hj12 : (0 : Int32) < (own_step (own_step (own_step (0 : Int32) p1 (0 : Int32)) p1 (1 : Int32)) p1 (2 : Int32))
    · try simp only [if_pos hj12] at k
      refine own_st (A' := (T11.setTop (mkF m 102 #[.val (.int p1), .val (.ref b1), .val (.int (1 : Int32)), .val (.int (own_step (own_step (own_step (0 : Int32) p1 (0 : Int32)) p1 (1 : Int32)) p1 (2 : Int32)))] [(.int (own_held (own_step (own_step (own_step (0 : Int32) p1 (0 : Int32)) p1 (1 : Int32)) p1 (2 : Int32)))), (.int (1 : Int32))]))) (fun t k => XS.ifNo X11.here hx rfl (hb hby at_99) rfl (XT.i0_le_f hj12) k) ?_
      refine own_st (A' := (T11.setTop (mkF m 103 #[.val (.int p1), .val (.ref b1), .val (.int (1 : Int32)), .val (.int (own_step (own_step (own_step (0 : Int32) p1 (0 : Int32)) p1 (1 : Int32)) p1 (2 : Int32)))] [(.int (1 : Int32)), (.int (own_held (own_step (own_step (own_step (0 : Int32) p1 (0 : Int32)) p1 (1 : Int32)) p1 (2 : Int32)))), (.int (1 : Int32))]))) (fun t k => XS.iconst X11.here hx rfl (hb hby at_102) k) ?_
      refine own_st (A' := (T11.setTop (mkF m 107 #[.val (.int p1), .val (.ref b1), .val (.int (1 : Int32)), .val (.int (own_step (own_step (own_step (0 : Int32) p1 (0 : Int32)) p1 (1 : Int32)) p1 (2 : Int32)))] [(.int (1 : Int32)), (.int (own_held (own_step (own_step (own_step (0 : Int32) p1 (0 : Int32)) p1 (1 : Int32)) p1 (2 : Int32)))), (.int (1 : Int32))]))) (fun t k => XS.goto X11.here hx rfl (pc0 := 103) (pc' := 107) rfl (hb hby at_103) (by decide) (by decide) k) ?_
      exact k
    · try simp only [if_neg hj12] at k
      refine own_st (A' := (T11.setTop (mkF m 106 #[.val (.int p1), .val (.ref b1), .val (.int (1 : Int32)), .val (.int (own_step (own_step (own_step (0 : Int32) p1 (0 : Int32)) p1 (1 : Int32)) p1 (2 : Int32)))] [(.int (own_held (own_step (own_step (own_step (0 : Int32) p1 (0 : Int32)) p1 (1 : Int32)) p1 (2 : Int32)))), (.int (1 : Int32))]))) (fun t k => XS.ifYes X11.here hx rfl (pc0 := 99) (pc' := 106) rfl (hb hby at_99) rfl (XT.i0_le_t hj12) (by decide) (by decide) k) ?_
      refine own_st (A' := (T11.setTop (mkF m 107 #[.val (.int p1), .val (.ref b1), .val (.int (1 : Int32)), .val (.int (own_step (own_step (own_step (0 : Int32) p1 (0 : Int32)) p1 (1 : Int32)) p1 (2 : Int32)))] [(.int (0 : Int32)), (.int (own_held (own_step (own_step (own_step (0 : Int32) p1 (0 : Int32)) p1 (1 : Int32)) p1 (2 : Int32)))), (.int (1 : Int32))]))) (fun t k => XS.iconst X11.here hx rfl (hb hby at_106) k) ?_
      exact k
  refine own_fw (A' := (T11.setTop (mkF m 110 #[.val (.int p1), .val (.ref b1), .val (.int (1 : Int32)), .val (.int (own_step (own_step (own_step (0 : Int32) p1 (0 : Int32)) p1 (1 : Int32)) p1 (2 : Int32)))] [(.int (1 : Int32))]))) (fun t k => XS.icmpNo X11.here hx rfl (hb hby at_107) rfl (XT.ii_ne_f rfl) k) ?_
  refine own_fw (A' := (T11.setTop (mkF m 111 #[.val (.int p1), .val (.ref b1), .val (.int (1 : Int32)), .val (.int (own_step (own_step (own_step (0 : Int32) p1 (0 : Int32)) p1 (1 : Int32)) p1 (2 : Int32)))] [(.int (1 : Int32)), (.int (1 : Int32))]))) (fun t k => XS.iconst X11.here hx rfl (hb hby at_110) k) ?_
  refine own_fw (A' := (T11.setTop (mkF m 115 #[.val (.int p1), .val (.ref b1), .val (.int (1 : Int32)), .val (.int (own_step (own_step (own_step (0 : Int32) p1 (0 : Int32)) p1 (1 : Int32)) p1 (2 : Int32)))] [(.int (1 : Int32)), (.int (1 : Int32))]))) (fun t k => XS.goto X11.here hx rfl (pc0 := 111) (pc' := 115) rfl (hb hby at_111) (by decide) (by decide) k) ?_
  refine own_fw (A' := (T11.setTop (mkF m 116 #[.val (.int p1), .val (.ref b1), .val (.int (1 : Int32)), .val (.int (own_step (own_step (own_step (0 : Int32) p1 (0 : Int32)) p1 (1 : Int32)) p1 (2 : Int32)))] [(.int (1 : Int32))]))) (fun t k => XS.iand X11.here hx rfl (hb hby at_115) rfl k) ?_
  refine own_fw (A' := (T11.setTop (mkF m 117 #[.val (.int p1), .val (.ref b1), .val (.int (1 : Int32)), .val (.int (own_step (own_step (own_step (0 : Int32) p1 (0 : Int32)) p1 (1 : Int32)) p1 (2 : Int32)))] []))) (fun t k => XS.istoreN X11.here hx rfl (hb hby at_116) rfl (l' := #[.val (.int p1), .val (.ref b1), .val (.int (1 : Int32)), .val (.int (own_step (own_step (own_step (0 : Int32) p1 (0 : Int32)) p1 (1 : Int32)) p1 (2 : Int32)))]) rfl k) ?_
  refine own_fw (A' := (T11.setTop (mkF m 118 #[.val (.int p1), .val (.ref b1), .val (.int (1 : Int32)), .val (.int (own_step (own_step (own_step (0 : Int32) p1 (0 : Int32)) p1 (1 : Int32)) p1 (2 : Int32)))] [(.ref b1)]))) (fun t k => XS.aloadN X11.here hx rfl (hb hby at_117) rfl rfl k) ?_
  refine own_fw (A' := (T11.setTop (mkF m 119 #[.val (.int p1), .val (.ref b1), .val (.int (1 : Int32)), .val (.int (own_step (own_step (own_step (0 : Int32) p1 (0 : Int32)) p1 (1 : Int32)) p1 (2 : Int32)))] [(.int (own_step (own_step (own_step (0 : Int32) p1 (0 : Int32)) p1 (1 : Int32)) p1 (2 : Int32))), (.ref b1)]))) (fun t k => XS.iloadN X11.here hx rfl (hb hby at_118) rfl k) ?_
  refine own_fw (A' := (T11.setTop (mkF m 120 #[.val (.int p1), .val (.ref b1), .val (.int (1 : Int32)), .val (.int (own_step (own_step (own_step (0 : Int32) p1 (0 : Int32)) p1 (1 : Int32)) p1 (2 : Int32)))] [(.int p1), (.int (own_step (own_step (own_step (0 : Int32) p1 (0 : Int32)) p1 (1 : Int32)) p1 (2 : Int32))), (.ref b1)]))) (fun t k => XS.iloadN X11.here hx rfl (hb hby at_119) rfl k) ?_
  refine own_fw (A' := (T11.setTop (mkF m 121 #[.val (.int p1), .val (.ref b1), .val (.int (1 : Int32)), .val (.int (own_step (own_step (own_step (0 : Int32) p1 (0 : Int32)) p1 (1 : Int32)) p1 (2 : Int32)))] [(.int (3 : Int32)), (.int p1), (.int (own_step (own_step (own_step (0 : Int32) p1 (0 : Int32)) p1 (1 : Int32)) p1 (2 : Int32))), (.ref b1)]))) (fun t k => XS.iconst X11.here hx rfl (hb hby at_120) k) ?_
  obtain ⟨_, _, ⟨T13, L13, k13, n13⟩, -, X13, ⟨Lc13, hQ13, l13, y13, z13⟩, st13⟩ := Jvm.LawKit.callS X11 hx (y := (⟨"com/example/measured_cache/measuredcache/cache/AbsenceIsHeldPinLaw", "step", "(Lcom/example/measured_cache/measuredcache/cache/Absence;III)I"⟩ : MethodName)) hown (mvT hZ (hw _ (List.mem_of_getElem? (i := 23) rfl))) (mvT hZ (hw _ (List.mem_of_getElem? (i := 24) rfl))) (mvT hZ (hw _ (List.mem_of_getElem? (i := 25) rfl))) (mvT hZ (hw _ (List.mem_of_getElem? (i := 26) rfl))) (by decide) (backOf (W := 0) (rmStep l Z a0 hw [] b1 (own_step (own_step (own_step (0 : Int32) p1 (0 : Int32)) p1 (1 : Int32)) p1 (2 : Int32)) p1 (3 : Int32) T10.heap n0 Z10 Fq10_0 Fq10_1 g_b1) hZ (hw _ (List.mem_of_getElem? (i := 26) rfl)) (hw _ (List.mem_of_getElem? (i := 25) rfl)) (by decide) (by decide)) (g := (mkF m 121 #[.val (.int p1), .val (.ref b1), .val (.int (1 : Int32)), .val (.int (own_step (own_step (own_step (0 : Int32) p1 (0 : Int32)) p1 (1 : Int32)) p1 (2 : Int32)))] [(.int (3 : Int32)), (.int p1), (.int (own_step (own_step (own_step (0 : Int32) p1 (0 : Int32)) p1 (1 : Int32)) p1 (2 : Int32))), (.ref b1)])) rfl (by rw [hml]; rfl) (argsL := [(.ref b1), (.int (own_step (own_step (own_step (0 : Int32) p1 (0 : Int32)) p1 (1 : Int32)) p1 (2 : Int32))), (.int p1), (.int (3 : Int32))]) (rest := []) (lenOf pd__Lcom_example_measured_cache_measuredcache_cache_Absence_III_I rfl) rfl (by show 2 * 0 + _ ≤ _; exact Nat.le_of_eq rfl) (hb hby at_121) (fun _ _ => ⟨rfl, e11, (by decide : 1 + 0 ≤ _), (by decide : 3 + 0 ≤ _)⟩)
  dsimp only [Pt.U, Pt.locs, Pt.cells, Pt.slots] at X13 l13 y13 z13 st13 hQ13
  subst l13 y13 z13
  obtain ⟨rfl, Nq13, Kq13, Fq13_0, Fq13_1⟩ := hQ13
  have Nf13 := Fr.app Nf11 Nq13
  have K13 : Keep h0 T13.heap [] := K10.trans Kq13 (allS (Or.inr sz_b1) all0)
  have Z13 : n0 ≤ T13.heap.size := Nat.le_trans Z10 Kq13.1
  refine own_fw (A' := (T13.setTop (mkF m 124 #[.val (.int p1), .val (.ref b1), .val (.int (1 : Int32)), .val (.int (own_step (own_step (own_step (0 : Int32) p1 (0 : Int32)) p1 (1 : Int32)) p1 (2 : Int32)))] [(.int (own_step (own_step (own_step (own_step (0 : Int32) p1 (0 : Int32)) p1 (1 : Int32)) p1 (2 : Int32)) p1 (3 : Int32)))]))) (fun t k => st13 _ k) ?_
  refine own_fw (A' := (T13.setTop (mkF m 125 #[.val (.int p1), .val (.ref b1), .val (.int (1 : Int32)), .val (.int (own_step (own_step (own_step (own_step (0 : Int32) p1 (0 : Int32)) p1 (1 : Int32)) p1 (2 : Int32)) p1 (3 : Int32)))] []))) (fun t k => XS.istoreN X13.here hx rfl (hb hby at_124) rfl (l' := #[.val (.int p1), .val (.ref b1), .val (.int (1 : Int32)), .val (.int (own_step (own_step (own_step (own_step (0 : Int32) p1 (0 : Int32)) p1 (1 : Int32)) p1 (2 : Int32)) p1 (3 : Int32)))]) rfl k) ?_
  refine own_fw (A' := (T13.setTop (mkF m 126 #[.val (.int p1), .val (.ref b1), .val (.int (1 : Int32)), .val (.int (own_step (own_step (own_step (own_step (0 : Int32) p1 (0 : Int32)) p1 (1 : Int32)) p1 (2 : Int32)) p1 (3 : Int32)))] [(.int (1 : Int32))]))) (fun t k => XS.iloadN X13.here hx rfl (hb hby at_125) rfl k) ?_
  refine own_fw (A' := (T13.setTop (mkF m 127 #[.val (.int p1), .val (.ref b1), .val (.int (1 : Int32)), .val (.int (own_step (own_step (own_step (own_step (0 : Int32) p1 (0 : Int32)) p1 (1 : Int32)) p1 (2 : Int32)) p1 (3 : Int32)))] [(.ref b1), (.int (1 : Int32))]))) (fun t k => XS.aloadN X13.here hx rfl (hb hby at_126) rfl rfl k) ?_
  obtain ⟨cq14, kq14, qa14, qb14, qc14⟩ := isOf hZ rfl Fq13_0
  obtain ⟨_, _, ⟨T14, L14, k14, n14⟩, -, X14, ⟨Lc14, hQ14, l14, y14, z14⟩, st14⟩ := X13.virtualBack hx (y := (⟨"com/example/measured_cache/measuredcache/cache/Absence", "isHeld", "()Z"⟩ : MethodName)) (z := (⟨"com/example/measured_cache/measuredcache/cache/Absence", "isHeld", "()Z"⟩ : MethodName)) hown (mvT hZ (hw _ (List.mem_of_getElem? (i := 16) rfl))) (mvT hZ (hw _ (List.mem_of_getElem? (i := 17) rfl))) (notFace_of_selects (args := #[]) (mvT hZ (hw _ (List.mem_of_getElem? (i := 19) rfl)))) (mvT hZ (hw _ (List.mem_of_getElem? (i := 19) rfl))) (mvT hZ (hw _ (List.mem_of_getElem? (i := 18) rfl))) (by decide) (backOf (W := 1) (rmHeld l Z a0 hw [] b1 (own_step (own_step (own_step (own_step (0 : Int32) p1 (0 : Int32)) p1 (1 : Int32)) p1 (2 : Int32)) p1 (3 : Int32)) T13.heap n0 Z13 Fq13_1) hZ (hw _ (List.mem_of_getElem? (i := 20) rfl)) (hw _ (List.mem_of_getElem? (i := 2) rfl)) (by decide) (by decide)) qa14 qc14 (g := (mkF m 127 #[.val (.int p1), .val (.ref b1), .val (.int (1 : Int32)), .val (.int (own_step (own_step (own_step (own_step (0 : Int32) p1 (0 : Int32)) p1 (1 : Int32)) p1 (2 : Int32)) p1 (3 : Int32)))] [(.ref b1), (.int (1 : Int32))])) rfl (by rw [hml]; rfl) (Steps.refl _) (argsL := []) (rest := [(.int (1 : Int32))]) (lenOf pd___Z rfl) rfl (by show 2 * 0 + _ ≤ _; exact Nat.le_of_eq rfl) (hb hby at_127) (fun _ _ => ⟨rfl, rfl, (by decide : 1 + 0 ≤ _), (by decide : 3 + 0 ≤ _)⟩)
  dsimp only [Pt.U, Pt.locs, Pt.cells, Pt.slots] at X14 l14 y14 z14 st14 hQ14
  subst l14 y14 z14
  obtain ⟨rfl, Nq14, e14⟩ := hQ14
  have Nf14 := Fr.app Nf13 Nq14
  refine own_fw (A' := (T14.setTop (mkF m 130 #[.val (.int p1), .val (.ref b1), .val (.int (1 : Int32)), .val (.int (own_step (own_step (own_step (own_step (0 : Int32) p1 (0 : Int32)) p1 (1 : Int32)) p1 (2 : Int32)) p1 (3 : Int32)))] [(.int (own_held (own_step (own_step (own_step (own_step (0 : Int32) p1 (0 : Int32)) p1 (1 : Int32)) p1 (2 : Int32)) p1 (3 : Int32)))), (.int (1 : Int32))]))) (fun t k => st14.trans k) ?_
  refine own_fw (A' := (T14.setTop (mkF m 131 #[.val (.int p1), .val (.ref b1), .val (.int (1 : Int32)), .val (.int (own_step (own_step (own_step (own_step (0 : Int32) p1 (0 : Int32)) p1 (1 : Int32)) p1 (2 : Int32)) p1 (3 : Int32)))] [(.int (own_step (own_step (own_step (own_step (0 : Int32) p1 (0 : Int32)) p1 (1 : Int32)) p1 (2 : Int32)) p1 (3 : Int32))), (.int (own_held (own_step (own_step (own_step (own_step (0 : Int32) p1 (0 : Int32)) p1 (1 : Int32)) p1 (2 : Int32)) p1 (3 : Int32)))), (.int (1 : Int32))]))) (fun t k => XS.iloadN X14.here hx rfl (hb hby at_130) rfl k) ?_
  refine own_fw (A' := (T14.setTop (mkF m 139 #[.val (.int p1), .val (.ref b1), .val (.int (1 : Int32)), .val (.int (own_step (own_step (own_step (own_step (0 : Int32) p1 (0 : Int32)) p1 (1 : Int32)) p1 (2 : Int32)) p1 (3 : Int32)))] [(.int (if (0 : Int32) < (own_step (own_step (own_step (own_step (0 : Int32) p1 (0 : Int32)) p1 (1 : Int32)) p1 (2 : Int32)) p1 (3 : Int32)) then (1 : Int32) else (0 : Int32))), (.int (own_held (own_step (own_step (own_step (own_step (0 : Int32) p1 (0 : Int32)) p1 (1 : Int32)) p1 (2 : Int32)) p1 (3 : Int32)))), (.int (1 : Int32))]))) (fun t k => ?_) ?_
  · by_cases hj15 : (0 : Int32) < (own_step (own_step (own_step (own_step (0 : Int32) p1 (0 : Int32)) p1 (1 : Int32)) p1 (2 : Int32)) p1 (3 : Int32))
    · try simp only [if_pos hj15] at k
      refine own_st (A' := (T14.setTop (mkF m 134 #[.val (.int p1), .val (.ref b1), .val (.int (1 : Int32)), .val (.int (own_step (own_step (own_step (own_step (0 : Int32) p1 (0 : Int32)) p1 (1 : Int32)) p1 (2 : Int32)) p1 (3 : Int32)))] [(.int (own_held (own_step (own_step (own_step (own_step (0 : Int32) p1 (0 : Int32)) p1 (1 : Int32)) p1 (2 : Int32)) p1 (3 : Int32)))), (.int (1 : Int32))]))) (fun t k => XS.ifNo X14.here hx rfl (hb hby at_131) rfl (XT.i0_le_f hj15) k) ?_
      refine own_st (A' := (T14.setTop (mkF m 135 #[.val (.int p1), .val (.ref b1), .val (.int (1 : Int32)), .val (.int (own_step (own_step (own_step (own_step (0 : Int32) p1 (0 : Int32)) p1 (1 : Int32)) p1 (2 : Int32)) p1 (3 : Int32)))] [(.int (1 : Int32)), (.int (own_held (own_step (own_step (own_step (own_step (0 : Int32) p1 (0 : Int32)) p1 (1 : Int32)) p1 (2 : Int32)) p1 (3 : Int32)))), (.int (1 : Int32))]))) (fun t k => XS.iconst X14.here hx rfl (hb hby at_134) k) ?_
      refine own_st (A' := (T14.setTop (mkF m 139 #[.val (.int p1), .val (.ref b1), .val (.int (1 : Int32)), .val (.int (own_step (own_step (own_step (own_step (0 : Int32) p1 (0 : Int32)) p1 (1 : Int32)) p1 (2 : Int32)) p1 (3 : Int32)))] [(.int (1 : Int32)), (.int (own_held (own_step (own_step (own_step (own_step (0 : Int32) p1 (0 : Int32)) p1 (1 : Int32)) p1 (2 : Int32)) p1 (3 : Int32)))), (.int (1 : Int32))]))) (fun t k => XS.goto X14.here hx rfl (pc0 := 135) (pc' := 139) rfl (hb hby at_135) (by decide) (by decide) k) ?_
      exact k
    · try simp only [if_neg hj15] at k
      refine own_st (A' := (T14.setTop (mkF m 138 #[.val (.int p1), .val (.ref b1), .val (.int (1 : Int32)), .val (.int (own_step (own_step (own_step (own_step (0 : Int32) p1 (0 : Int32)) p1 (1 : Int32)) p1 (2 : Int32)) p1 (3 : Int32)))] [(.int (own_held (own_step (own_step (own_step (own_step (0 : Int32) p1 (0 : Int32)) p1 (1 : Int32)) p1 (2 : Int32)) p1 (3 : Int32)))), (.int (1 : Int32))]))) (fun t k => XS.ifYes X14.here hx rfl (pc0 := 131) (pc' := 138) rfl (hb hby at_131) rfl (XT.i0_le_t hj15) (by decide) (by decide) k) ?_
      refine own_st (A' := (T14.setTop (mkF m 139 #[.val (.int p1), .val (.ref b1), .val (.int (1 : Int32)), .val (.int (own_step (own_step (own_step (own_step (0 : Int32) p1 (0 : Int32)) p1 (1 : Int32)) p1 (2 : Int32)) p1 (3 : Int32)))] [(.int (0 : Int32)), (.int (own_held (own_step (own_step (own_step (own_step (0 : Int32) p1 (0 : Int32)) p1 (1 : Int32)) p1 (2 : Int32)) p1 (3 : Int32)))), (.int (1 : Int32))]))) (fun t k => XS.iconst X14.here hx rfl (hb hby at_138) k) ?_
      exact k
  refine own_fw (A' := (T14.setTop (mkF m 142 #[.val (.int p1), .val (.ref b1), .val (.int (1 : Int32)), .val (.int (own_step (own_step (own_step (own_step (0 : Int32) p1 (0 : Int32)) p1 (1 : Int32)) p1 (2 : Int32)) p1 (3 : Int32)))] [(.int (1 : Int32))]))) (fun t k => XS.icmpNo X14.here hx rfl (hb hby at_139) rfl (XT.ii_ne_f rfl) k) ?_
  refine own_fw (A' := (T14.setTop (mkF m 143 #[.val (.int p1), .val (.ref b1), .val (.int (1 : Int32)), .val (.int (own_step (own_step (own_step (own_step (0 : Int32) p1 (0 : Int32)) p1 (1 : Int32)) p1 (2 : Int32)) p1 (3 : Int32)))] [(.int (1 : Int32)), (.int (1 : Int32))]))) (fun t k => XS.iconst X14.here hx rfl (hb hby at_142) k) ?_
  refine own_fw (A' := (T14.setTop (mkF m 147 #[.val (.int p1), .val (.ref b1), .val (.int (1 : Int32)), .val (.int (own_step (own_step (own_step (own_step (0 : Int32) p1 (0 : Int32)) p1 (1 : Int32)) p1 (2 : Int32)) p1 (3 : Int32)))] [(.int (1 : Int32)), (.int (1 : Int32))]))) (fun t k => XS.goto X14.here hx rfl (pc0 := 143) (pc' := 147) rfl (hb hby at_143) (by decide) (by decide) k) ?_
  refine own_fw (A' := (T14.setTop (mkF m 148 #[.val (.int p1), .val (.ref b1), .val (.int (1 : Int32)), .val (.int (own_step (own_step (own_step (own_step (0 : Int32) p1 (0 : Int32)) p1 (1 : Int32)) p1 (2 : Int32)) p1 (3 : Int32)))] [(.int (1 : Int32))]))) (fun t k => XS.iand X14.here hx rfl (hb hby at_147) rfl k) ?_
  refine own_fw (A' := (T14.setTop (mkF m 149 #[.val (.int p1), .val (.ref b1), .val (.int (1 : Int32)), .val (.int (own_step (own_step (own_step (own_step (0 : Int32) p1 (0 : Int32)) p1 (1 : Int32)) p1 (2 : Int32)) p1 (3 : Int32)))] []))) (fun t k => XS.istoreN X14.here hx rfl (hb hby at_148) rfl (l' := #[.val (.int p1), .val (.ref b1), .val (.int (1 : Int32)), .val (.int (own_step (own_step (own_step (own_step (0 : Int32) p1 (0 : Int32)) p1 (1 : Int32)) p1 (2 : Int32)) p1 (3 : Int32)))]) rfl k) ?_
  refine own_fw (A' := (T14.setTop (mkF m 150 #[.val (.int p1), .val (.ref b1), .val (.int (1 : Int32)), .val (.int (own_step (own_step (own_step (own_step (0 : Int32) p1 (0 : Int32)) p1 (1 : Int32)) p1 (2 : Int32)) p1 (3 : Int32)))] [(.int (1 : Int32))]))) (fun t k => XS.iloadN X14.here hx rfl (hb hby at_149) rfl k) ?_
  obtain ⟨fs, hr, hrun, hended, hW, hsame⟩ := X14.leave (v := some (.int (1 : Int32))) (fun h => by rw [Bd.returns] at h; cases h)
  refine ⟨_, _, ?_, hrun, hended, _, _, rfl, ?_, ⟨_, rfl⟩, hW, hsame.mono (by decide) (by decide)⟩
  · exact retOut X14 hx Bd.returns rfl (Or.inl ⟨rfl, by simp, _, rfl⟩) (hb hby at_150) hr
  · show Q_rm0 Z p1 h0 n0 _ T14.heap _
    rw [e14]
    exact ⟨rfl, Nf14⟩
set_option maxRecDepth 65536 in
set_option maxHeartbeats 40000000 in
theorem comes_1 {Post : Tables → Env → Array Value → State → Outcome → State → Prop} (hpost : ∀ tb e args s v u, (limb_1_1.after args s (.returned v) u = true ∧ limb_1_2.after args s (.returned v) u = true ∧ True) → FrameEnd s (.returned v) u (Jvm.fieldLocs frame_1_writes args s ++ Jvm.arrayLocs frame_1_arrays args s ++ Jvm.staticLocs frame_1_statics s) 16 128 → Post tb e args s (.returned v) u) :
    ArmFor flags0 classFile x code maxLocals ret World_1 tables_1 room_1 Calls_1 rest_1 Pre_1 Post := by
  intro l hfl _ _ p e ha hc hk s m args below hf hA hF happ hP
  obtain ⟨hcalls, hrest, hpre⟩ := hP
  obtain ⟨-, -, -, hnamed, -, -, -, hat⟩ := (Spec.applies_iff hf).mp happ
  obtain ⟨hg, hn⟩ := and_e (Cond.before_iff.mp (show (Jvm.Cond.and given_1 narrow_1).before args s = true from hpre))
  obtain ⟨hcount, hg0⟩ := and_e hg
  have hv0 := hg0
  obtain ⟨w0, rfl⟩ : ∃ w0 : Value, args = #[w0] := by
    have hs : args.size = 1 := by simpa [Cond.value, given_1] using hcount
    obtain ⟨L⟩ := args
    match L, hs with
    | [w0], _ => exact ⟨w0, rfl⟩
  have hw := fun d (hd : d ∈ tables_1) => atoms_spec (ws := Jvm.Cond.code x code maxLocals ret :: tables_1) hat d (List.mem_cons_of_mem _ hd)
  have hfit : Fit s := fun {y c} hc i hi => by
    obtain ⟨ha, rfl⟩ := Array.getElem?_eq_some_iff.mp hc
    have q := List.all_eq_true.mp ((Array.all_eq_true_iff_forall_mem.mp hF) _ (Array.getElem_mem ha)) i (List.mem_range.mpr hi)
    simpa [Array.getElem?_eq_getElem hi] using q
  obtain ⟨i0, ei0⟩ := is_v hv0
  obtain rfl : w0 = (.int i0) := Option.some.inj ei0
  obtain ⟨n, o, h1, h2, h3, _, L, rfl, ⟨rfl, N⟩, hq⟩ := rm0 l s _ hw tables_1 i0 s.heap s.heap.size (Nat.le_refl _)  p e ha hc hk s m _ below hf ((Spec.applies_iff_loose hf).mp happ).1 ⟨rfl, State.Warmed39.refl s, rfl⟩ trivial
  refine ⟨n, _, h1, h2, h3, hpost _ _ _ _ _ _ ⟨Cond.after_iff.mpr rfl, Cond.after_iff.mpr (eq_i res_at (Term.int_eval (1)) rfl), trivial⟩ ⟨hq.1, hq.2.1, (hq.2.2.sift fun y hy => Or.inr (N y hy)).mono (by decide) (by decide)⟩⟩
theorem main_1_1 : Claimed_1_1 := comes_1 fun _ _ _ _ _ _ h hF => ⟨h.1, hF⟩
theorem main_1_2 : Claimed_1_2 := comes_1 fun _ _ _ _ _ _ h hF => ⟨h.2.1, hF⟩
end Jvm.Pilot.@@N@@
namespace Jvm.Pilot.@@N@@
open Jvm Jvm.ClassFile Sem Op Lib Jvm.Free Jvm.Stand Jvm.Pilot.@@N@@.Jvm.D
/-! MADE BY PROGRAM (witnessworld.py) out of the Statement's table words and the real class files: 8 classes; the members and pool entries that the words name. The judged class is class 1, her method 2. -/
namespace start1
open Jvm.ClassFile
def u (s : String) : CpInfo := .utf8 (stringToUtf16 s)
/-- a pool by its gaps: so many unusable entries, then the entry; so many at the end -/
def gap : Nat → List CpInfo → List CpInfo
  | 0, r => r
  | n + 1, r => .unusable :: gap n r
def poolList (es : List (Nat × CpInfo)) (last : Nat) : List CpInfo := es.foldr (fun e r => gap e.1 (e.2 :: r)) (gap last [])
def pool (es : List (Nat × CpInfo)) (last : Nat) : Array CpInfo := ⟨poolList es last⟩
def fileOf (pool : Array CpInfo) (this : Nat) (attrs : Array Attribute := #[]) (ms : Array MethodInfo := #[]) (fl : Nat := 33) (sup : Nat := 0) (ifs : Array Nat := #[]) (fds : Array FieldInfo := #[]) : ClassFile where
  minorVersion := 0
  majorVersion := 65
  constantPool := pool
  accessFlags := fl
  thisClass := this
  superClass := sup
  interfaces := ifs
  fields := fds
  methods := ms
  attributes := attrs
def plain (name : String) (sup : Option ClassId) : Class where
  name := name
  kind := .ordinary
  loader := none
  accessFlags := 33
  super := sup
  interfaces := #[]
  cf := none
  fields := #[]
  methods := #[]
  instanceTypes := #[]
  staticTypes := #[]
  resolved := #[]
  callSites := []
  init := .initialized
  statics := none
  mirror := none

def pool0 : Array CpInfo := pool [(5, u "<init>"), (0, u "()V"), (1, .class_ 10), (1, u "java/lang/Object")] 113

def k0c0 : Code := { maxStack := 0, maxLocals := 1, code := object_method_1_code, exceptionTable := #[], attributes := #[] }
def k0m0 : Method := { name := "<init>", desc := "()V", sig := { parameters := [], returnType := none }, accessFlags := 1, code := some k0c0 }
/-- java/lang/Object -/
def k0 : Class := { plain "java/lang/Object" none with
  accessFlags := 33
  interfaces := #[]
  cf := some (fileOf pool0 8 #[] #[{ accessFlags := 1, nameIndex := 5, descriptorIndex := 6, attributes := #[] }] 33 0 #[] #[])
  fields := #[]
  methods := #[k0m0]
  instanceTypes := #[]
  staticTypes := #[]
  resolved := Array.replicate 124 none
  statics := none }

def pool1 : Array CpInfo := pool [(2, .class_ 4), (0, .nameAndType 5 6), (0, u "java/lang/Object"), (0, u "<init>"), (0, u "()V"), (0, .methodref 8 9), (0, .class_ 10), (0, .nameAndType 11 6), (0, u "com/example/measured_cache/measuredcache/cache/Absence"), (0, u "addHolder"), (0, .methodref 8 13), (0, .nameAndType 14 6), (0, u "removeHolder"), (0, .methodref 8 3), (0, .methodref 8 17), (0, .nameAndType 18 19), (0, u "isHeld"), (0, u "()Z"), (0, .methodref 21 22), (0, .class_ 23), (0, .nameAndType 24 25), (0, u "com/example/measured_cache/measuredcache/cache/AbsenceIsHeldPinLaw"), (0, u "step"), (0, u "(Lcom/example/measured_cache/measuredcache/cache/Absence;III)I"), (5, u "law"), (0, u "(I)Z")] 2

def k1m0 : Method := { name := "<init>", desc := "()V", sig := { parameters := [], returnType := none }, accessFlags := 1, code := none }
def k1c1 : Code := { maxStack := 2, maxLocals := 4, code := method_2_code, exceptionTable := #[], attributes := #[] }
def k1m1 : Method := { name := "step", desc := "(Lcom/example/measured_cache/measuredcache/cache/Absence;III)I", sig := { parameters := [(.object "com/example/measured_cache/measuredcache/cache/Absence"), .int, .int, .int], returnType := some .int }, accessFlags := 10, code := some k1c1 }
def k1c2 : Code := { maxStack := 4, maxLocals := 4, code := code, exceptionTable := #[], attributes := #[] }
def k1m2 : Method := { name := "law", desc := "(I)Z", sig := { parameters := [.int], returnType := some .boolean }, accessFlags := 9, code := some k1c2 }
/-- com/example/measured_cache/measuredcache/cache/AbsenceIsHeldPinLaw -/
def k1 : Class := { plain "com/example/measured_cache/measuredcache/cache/AbsenceIsHeldPinLaw" (some 0) with
  accessFlags := 49
  interfaces := #[]
  cf := some (fileOf pool1 21 #[] #[{ accessFlags := 1, nameIndex := 5, descriptorIndex := 6, attributes := #[] }, { accessFlags := 10, nameIndex := 24, descriptorIndex := 25, attributes := #[] }, { accessFlags := 9, nameIndex := 31, descriptorIndex := 32, attributes := #[] }] 49 2 #[] #[])
  fields := #[]
  methods := #[k1m0, k1m1, k1m2]
  instanceTypes := #[]
  staticTypes := #[]
  resolved := Array.replicate 35 none
  statics := none }

def pool2 : Array CpInfo := pool [(1, .methodref 2 3), (0, .class_ 4), (0, .nameAndType 5 6), (0, u "java/lang/Object"), (0, u "<init>"), (0, u "()V"), (0, .fieldref 8 9), (0, .class_ 10), (0, .nameAndType 11 12), (0, u "com/example/measured_cache/measuredcache/cache/EntryVersion"), (0, u "content"), (0, u "Ljava/lang/Object;"), (2, u "CONTENT"), (0, u "Ljava/lang/invoke/VarHandle;"), (36, u "(Ljava/lang/Object;)V")] 24

def k2c0 : Code := { maxStack := 2, maxLocals := 2, code := prog_7_method_1_code, exceptionTable := #[], attributes := #[] }
def k2m0 : Method := { name := "<init>", desc := "(Ljava/lang/Object;)V", sig := { parameters := [(.object "java/lang/Object")], returnType := none }, accessFlags := 0, code := some k2c0 }
/-- com/example/measured_cache/measuredcache/cache/EntryVersion -/
def k2 : Class := { plain "com/example/measured_cache/measuredcache/cache/EntryVersion" (some 0) with
  accessFlags := 32
  interfaces := #[]
  cf := some (fileOf pool2 8 #[] #[{ accessFlags := 0, nameIndex := 5, descriptorIndex := 53, attributes := #[] }] 32 2 #[] #[{ accessFlags := 26, nameIndex := 15, descriptorIndex := 16, attributes := #[] }, { accessFlags := 2, nameIndex := 11, descriptorIndex := 12, attributes := #[] }])
  fields := #[{ name := "CONTENT", type := (.object "java/lang/invoke/VarHandle"), accessFlags := 26, slot := 0, constantValue := 0 }, { name := "content", type := (.object "java/lang/Object"), accessFlags := 2, slot := 0, constantValue := 0 }]
  methods := #[k2m0]
  instanceTypes := #[(.object "java/lang/Object")]
  staticTypes := #[(.object "java/lang/invoke/VarHandle")]
  resolved := Array.replicate 78 none
  statics := none }

def pool3 : Array CpInfo := pool [(1, .methodref 2 3), (0, .class_ 4), (0, .nameAndType 5 6), (0, u "com/example/measured_cache/measuredcache/cache/EntryVersion"), (0, u "<init>"), (0, u "(Ljava/lang/Object;)V"), (0, .fieldref 8 9), (0, .class_ 10), (0, .nameAndType 11 12), (0, u "com/example/measured_cache/measuredcache/cache/Absence"), (0, u "holders"), (0, u "I"), (2, u "ended"), (0, u "Z"), (0, u "()V"), (2, u "addHolder"), (0, u "removeHolder"), (0, u "isHeld"), (0, u "()Z")] 7

def k3c0 : Code := { maxStack := 2, maxLocals := 1, code := prog_3_method_1_code, exceptionTable := #[], attributes := #[] }
def k3m0 : Method := { name := "<init>", desc := "()V", sig := { parameters := [], returnType := none }, accessFlags := 0, code := some k3c0 }
def k3c1 : Code := { maxStack := 3, maxLocals := 1, code := prog_3_method_2_code, exceptionTable := #[], attributes := #[] }
def k3m1 : Method := { name := "addHolder", desc := "()V", sig := { parameters := [], returnType := none }, accessFlags := 0, code := some k3c1 }
def k3c2 : Code := { maxStack := 3, maxLocals := 1, code := prog_3_method_3_code, exceptionTable := #[], attributes := #[] }
def k3m2 : Method := { name := "removeHolder", desc := "()V", sig := { parameters := [], returnType := none }, accessFlags := 0, code := some k3c2 }
def k3c3 : Code := { maxStack := 1, maxLocals := 1, code := prog_3_method_4_code, exceptionTable := #[], attributes := #[] }
def k3m3 : Method := { name := "isHeld", desc := "()Z", sig := { parameters := [], returnType := some .boolean }, accessFlags := 0, code := some k3c3 }
/-- com/example/measured_cache/measuredcache/cache/Absence -/
def k3 : Class := { plain "com/example/measured_cache/measuredcache/cache/Absence" (some 2) with
  accessFlags := 48
  interfaces := #[]
  cf := some (fileOf pool3 8 #[] #[{ accessFlags := 0, nameIndex := 5, descriptorIndex := 17, attributes := #[] }, { accessFlags := 0, nameIndex := 20, descriptorIndex := 17, attributes := #[] }, { accessFlags := 0, nameIndex := 21, descriptorIndex := 17, attributes := #[] }, { accessFlags := 0, nameIndex := 22, descriptorIndex := 23, attributes := #[] }] 48 2 #[] #[{ accessFlags := 2, nameIndex := 11, descriptorIndex := 12, attributes := #[] }, { accessFlags := 66, nameIndex := 15, descriptorIndex := 16, attributes := #[] }])
  fields := #[{ name := "holders", type := .int, accessFlags := 2, slot := 1, constantValue := 0 }, { name := "ended", type := .boolean, accessFlags := 66, slot := 2, constantValue := 0 }]
  methods := #[k3m0, k3m1, k3m2, k3m3]
  instanceTypes := #[(.object "java/lang/Object"), .int, .boolean]
  staticTypes := #[]
  resolved := Array.replicate 31 none
  statics := none }

def pool4 : Array CpInfo := pool [(1, u "java/lang/Cloneable"), (0, .class_ 1), (0, u "java/lang/Object"), (0, .class_ 3)] 3

/-- java/lang/Cloneable -/
def k4 : Class := { plain "java/lang/Cloneable" (some 0) with
  accessFlags := 1537
  interfaces := #[]
  cf := some (fileOf pool4 2 #[] #[] 1537 4 #[] #[])
  fields := #[]
  methods := #[]
  instanceTypes := #[]
  staticTypes := #[]
  resolved := Array.replicate 8 none
  statics := none }

def pool5 : Array CpInfo := pool [(1, u "java/io/Serializable"), (0, .class_ 1), (0, u "java/lang/Object"), (0, .class_ 3)] 3

/-- java/io/Serializable -/
def k5 : Class := { plain "java/io/Serializable" (some 0) with
  accessFlags := 1537
  interfaces := #[]
  cf := some (fileOf pool5 2 #[] #[] 1537 4 #[] #[])
  fields := #[]
  methods := #[]
  instanceTypes := #[]
  staticTypes := #[]
  resolved := Array.replicate 8 none
  statics := none }

/-- the primitive byte -/
def k6 : Class := { plain "byte" none with kind := .primitive 'B', accessFlags := 0x411 }
/-- [B -/
def k7 : Class := { plain "[B" (some 0) with kind := .array 6 .byte, interfaces := #[4, 5], accessFlags := 1041 }

def heap : Heap := #[]
def classes : Array Class := #[k0, k1, k2, k3, k4, k5, k6, k7]
def interned : List (Array UInt16 × Addr) := []
def slotsUsed : Nat := 0
def theMethod : MethodId := ⟨1, 2⟩
def args0 : Array Value := #[.int 5]
def aboutOver (below : List Frame) : State where
  vm := { classes := classes, interned := interned.toArray }
  heap := heap
  slotsUsed := slotsUsed
  threads := #[{ frames := .invoking theMethod args0 :: below }]
def below0 : List Frame := [.native { method := ⟨0, 0⟩, args := #[] }]
def about1 : State := aboutOver below0
def p0 : Program := .bare "" "" ""
def e0 : Env := launch0.env 0 0 0
theorem w_frames : about1.frames = Frame.invoking theMethod args0 :: below0 := rfl
set_option maxRecDepth 65536 in
theorem w_args : argsFit about1.vm theMethod args0 = true := by decide +kernel
set_option maxRecDepth 65536 in
theorem w_heap : heapFits about1 = true := by decide +kernel
set_option maxRecDepth 65536 in
theorem w_runnable : about1.curStatus? = some .runnable := by decide +kernel
set_option maxRecDepth 65536 in
theorem w_alone : about1.alone = true := by decide +kernel
set_option maxRecDepth 65536 in
theorem w_named : about1.methodNamed? x = some theMethod := by decide +kernel
set_option maxRecDepth 65536 in
theorem w_hears : about1.hears theMethod below0 = true := by decide +kernel
set_option maxRecDepth 65536 in
theorem w_ripe : about1.ripe theMethod args0 below0 = true := by decide +kernel
theorem w_running : about1.status = .running := rfl
set_option maxRecDepth 65536 in
theorem w_room : about1.hasRoom e0.platform room_1 = true :=
  launch0.hasRoom_least _ room_1 (by decide +kernel) (by decide +kernel) (by decide +kernel) (by decide +kernel) (by decide +kernel) (by decide +kernel)
theorem allAtoms_all (ts : List Jvm.Cond) (a : Array Jvm.Value) (st : Jvm.State) : (allAtoms ts).before a st = ts.all (fun c => c.before a st) := by
  induction ts with
  | nil => rfl
  | cons c t ih =>
    show (Jvm.Cond.and c (allAtoms t)).before a st = _
    rw [Jvm.Cond.before_and, ih, List.all_cons]
def words1 : List Jvm.Cond := Jvm.Cond.code x code maxLocals ret :: tables_1
/-- a 'code' word, met by the world's own term for the bytes: nothing is compared byte by byte -/
theorem code_word {y : MethodName} {bytes : ByteArray} {mx : Nat} {rt : Option FieldType} {a : Array Value} {s : State} {m : MethodId} {meth : Method} {c : Code} (h1 : s.methodNamed? y = some m) (h2 : s.vm.method? m = some meth) (h3 : meth.code = some c) (h4 : c.code = bytes)
    (h5 : (c.maxLocals == mx && c.exceptionTable.isEmpty && decide (c.maxStack ≤ mostOperands) && decide (meth.sig.returnType = rt) && !meth.locks && decide (parseMethodDescriptor y.desc = some meth.sig)) = true) : (Jvm.Cond.code y bytes mx rt).before a s = true := by
  simp only [Bool.and_eq_true, beq_iff_eq, Bool.not_eq_true', decide_eq_true_eq] at h5
  obtain ⟨⟨⟨⟨⟨g1, g2⟩, g3⟩, g4⟩, g5⟩, g6⟩ := h5
  simp [Cond.before, Cond.holds, Cond.value, h1, h2, h3, h4, g1, g2, g3, g4, g5, g6]
def isCode : Jvm.Cond → Bool
  | .code _ _ _ _ => true
  | _ => false
theorem all_split {L : List Jvm.Cond} {P : Jvm.Cond → Bool} (h1 : L.all (fun c => isCode c || P c) = true) (h2 : ∀ c ∈ L.filter isCode, P c = true) : L.all P = true := by
  refine List.all_eq_true.mpr fun c hc => ?_
  have h := List.all_eq_true.mp h1 c hc
  rcases Bool.eq_false_or_eq_true (isCode c) with hi | hi
  · exact h2 c (List.mem_filter.mpr ⟨hc, hi⟩)
  · simpa [hi] using h
set_option maxRecDepth 65536 in
theorem w_c0 : (Jvm.Cond.code x code maxLocals ret).before args0 about1 = true := code_word (m := ⟨1, 2⟩) (meth := k1m2) (c := k1c2) (by decide +kernel) rfl rfl rfl (by decide +kernel)
set_option maxRecDepth 65536 in
theorem w_c1 : (Jvm.Cond.code ({ cls := "com/example/measured_cache/measuredcache/cache/Absence", name := "<init>", desc := "()V" } : Jvm.MethodName) prog_3_method_1_code (1 : Nat) (Option.none : Option Jvm.ClassFile.FieldType)).before args0 about1 = true := code_word (m := ⟨3, 0⟩) (meth := k3m0) (c := k3c0) (by decide +kernel) rfl rfl rfl (by decide +kernel)
set_option maxRecDepth 65536 in
theorem w_c2 : (Jvm.Cond.code ({ cls := "com/example/measured_cache/measuredcache/cache/EntryVersion", name := "<init>", desc := "(Ljava/lang/Object;)V" } : Jvm.MethodName) prog_7_method_1_code (2 : Nat) (Option.none : Option Jvm.ClassFile.FieldType)).before args0 about1 = true := code_word (m := ⟨2, 0⟩) (meth := k2m0) (c := k2c0) (by decide +kernel) rfl rfl rfl (by decide +kernel)
set_option maxRecDepth 65536 in
theorem w_c3 : (Jvm.Cond.code ({ cls := "java/lang/Object", name := "<init>", desc := "()V" } : Jvm.MethodName) object_method_1_code (1 : Nat) (Option.none : Option Jvm.ClassFile.FieldType)).before args0 about1 = true := code_word (m := ⟨0, 0⟩) (meth := k0m0) (c := k0c0) (by decide +kernel) rfl rfl rfl (by decide +kernel)
set_option maxRecDepth 65536 in
theorem w_c4 : (Jvm.Cond.code ({ cls := "com/example/measured_cache/measuredcache/cache/Absence", name := "isHeld", desc := "()Z" } : Jvm.MethodName) prog_3_method_4_code (1 : Nat) (Option.some Jvm.ClassFile.FieldType.boolean)).before args0 about1 = true := code_word (m := ⟨3, 3⟩) (meth := k3m3) (c := k3c3) (by decide +kernel) rfl rfl rfl (by decide +kernel)
set_option maxRecDepth 65536 in
theorem w_c5 : (Jvm.Cond.code ({ cls := "com/example/measured_cache/measuredcache/cache/AbsenceIsHeldPinLaw", name := "step", desc := "(Lcom/example/measured_cache/measuredcache/cache/Absence;III)I" } : Jvm.MethodName) method_2_code (4 : Nat) (Option.some Jvm.ClassFile.FieldType.int)).before args0 about1 = true := code_word (m := ⟨1, 1⟩) (meth := k1m1) (c := k1c1) (by decide +kernel) rfl rfl rfl (by decide +kernel)
set_option maxRecDepth 65536 in
theorem w_c6 : (Jvm.Cond.code ({ cls := "com/example/measured_cache/measuredcache/cache/Absence", name := "addHolder", desc := "()V" } : Jvm.MethodName) prog_3_method_2_code (1 : Nat) (Option.none : Option Jvm.ClassFile.FieldType)).before args0 about1 = true := code_word (m := ⟨3, 1⟩) (meth := k3m1) (c := k3c1) (by decide +kernel) rfl rfl rfl (by decide +kernel)
set_option maxRecDepth 65536 in
theorem w_c7 : (Jvm.Cond.code ({ cls := "com/example/measured_cache/measuredcache/cache/Absence", name := "removeHolder", desc := "()V" } : Jvm.MethodName) prog_3_method_3_code (1 : Nat) (Option.none : Option Jvm.ClassFile.FieldType)).before args0 about1 = true := code_word (m := ⟨3, 2⟩) (meth := k3m2) (c := k3c2) (by decide +kernel) rfl rfl rfl (by decide +kernel)
def codes1 : List Jvm.Cond := [Jvm.Cond.code x code maxLocals ret, Jvm.Cond.code ({ cls := "com/example/measured_cache/measuredcache/cache/Absence", name := "<init>", desc := "()V" } : Jvm.MethodName) prog_3_method_1_code (1 : Nat) (Option.none : Option Jvm.ClassFile.FieldType), Jvm.Cond.code ({ cls := "com/example/measured_cache/measuredcache/cache/EntryVersion", name := "<init>", desc := "(Ljava/lang/Object;)V" } : Jvm.MethodName) prog_7_method_1_code (2 : Nat) (Option.none : Option Jvm.ClassFile.FieldType), Jvm.Cond.code ({ cls := "java/lang/Object", name := "<init>", desc := "()V" } : Jvm.MethodName) object_method_1_code (1 : Nat) (Option.none : Option Jvm.ClassFile.FieldType), Jvm.Cond.code ({ cls := "com/example/measured_cache/measuredcache/cache/Absence", name := "isHeld", desc := "()Z" } : Jvm.MethodName) prog_3_method_4_code (1 : Nat) (Option.some Jvm.ClassFile.FieldType.boolean), Jvm.Cond.code ({ cls := "com/example/measured_cache/measuredcache/cache/AbsenceIsHeldPinLaw", name := "step", desc := "(Lcom/example/measured_cache/measuredcache/cache/Absence;III)I" } : Jvm.MethodName) method_2_code (4 : Nat) (Option.some Jvm.ClassFile.FieldType.int), Jvm.Cond.code ({ cls := "com/example/measured_cache/measuredcache/cache/Absence", name := "addHolder", desc := "()V" } : Jvm.MethodName) prog_3_method_2_code (1 : Nat) (Option.none : Option Jvm.ClassFile.FieldType), Jvm.Cond.code ({ cls := "com/example/measured_cache/measuredcache/cache/Absence", name := "removeHolder", desc := "()V" } : Jvm.MethodName) prog_3_method_3_code (1 : Nat) (Option.none : Option Jvm.ClassFile.FieldType)]
set_option maxRecDepth 65536 in
theorem codes_eq : words1.filter isCode = codes1 := rfl
theorem w_codes : ∀ c ∈ words1.filter isCode, c.before args0 about1 = true := by
  rw [codes_eq]
  intro c hc
  simp only [codes1, List.mem_cons, List.not_mem_nil, or_false] at hc
  rcases hc with rfl | rfl | rfl | rfl | rfl | rfl | rfl | rfl
  · exact w_c0
  · exact w_c1
  · exact w_c2
  · exact w_c3
  · exact w_c4
  · exact w_c5
  · exact w_c6
  · exact w_c7
set_option maxRecDepth 65536 in
theorem w_t1 : (words1.take 24).all (fun c => isCode c || c.before args0 about1) = true := by decide +kernel
set_option maxRecDepth 65536 in
theorem w_t2 : (words1.drop 24).all (fun c => isCode c || c.before args0 about1) = true := by decide +kernel
theorem w_tables : (allAtoms (Jvm.Cond.code x code maxLocals ret :: tables_1)).before args0 about1 = true := by
  rw [allAtoms_all]
  show words1.all (fun c => c.before args0 about1) = true
  refine all_split ?_ w_codes
  rw [← List.take_append_drop 24 words1, List.all_append, w_t1, w_t2]
  rfl
set_option maxRecDepth 65536 in
theorem w_case : (Jvm.Cond.and given_1 narrow_1).before args0 about1 = true := by decide +kernel
theorem w_applies : (headSpec (Jvm.Cond.code x code maxLocals ret :: tables_1) room_1).applies x e0.platform about1 = true :=
  (Spec.applies_iff w_frames).mpr ⟨w_running, w_runnable, w_alone, w_named, w_hears, w_ripe, w_room, w_tables⟩
theorem atStart : AtStart classFile x code maxLocals ret World_1 tables_1 room_1 Calls_1 rest_1 Pre_1 launch0 p0 e0 about1 theMethod args0 below0 :=
  ⟨lists_1, trivial, launch0.admits_env _ _ _, launch0.least_env, fairChoices_fair.cas, fairChoices_fair.clock, w_frames, w_args, w_heap, w_applies, trivial, trivial, w_case⟩
end start1
theorem witness_1 : WitnessClaimed_1 := ⟨start1.p0, start1.e0, start1.about1, start1.theMethod, start1.args0, start1.below0, start1.atStart⟩
end Jvm.Pilot.@@N@@
