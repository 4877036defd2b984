import JvmDerived
import JvmDerived.Pilot.@@N@@Statement
import JvmDerived.Pilot.@@N@@Code
set_option linter.unusedVariables false
set_option linter.unusedSimpArgs false
namespace Jvm.Pilot.@@N@@
open Jvm Jvm.ClassFile Sem Op Lib Jvm.Free Jvm.Stand Jvm.LawKit Jvm.RoadKit Bundle Jvm.Pilot.@@N@@.Jvm.D
/-! steps, taken forward -/
theorem own_fw {tb : Tables} {e : Env} {below : List Frame} {A A' : State} {P : State → Outcome → Prop} (h : ∀ t, Steps tb e below A' t → Steps tb e below A t) (g : ∃ U o, Steps tb e below A' U ∧ P U o) : ∃ U o, Steps tb e below A U ∧ P U o := by
  obtain ⟨U, o, s, r⟩ := g
  exact ⟨U, o, h U s, r⟩
theorem own_st {tb : Tables} {e : Env} {below : List Frame} {A A' t : State} (h : ∀ t, Steps tb e below A' t → Steps tb e below A t) (g : Steps tb e below A' t) : Steps tb e below A t := h t g
theorem own_plainE {Z : State} {h : Heap} {a : Addr} {C : String} (F : Exa Z h a C) : ∀ cell : Cell, h[a]? = some cell → cell.vm.isStatics = false := fun cell hc => by
  obtain ⟨c1, k1, h1, -, -, h4, -⟩ := F
  cases h1.symm.trans hc
  exact h4
theorem own_plainV {Z : State} {h : Heap} {a : Addr} {k : ClassId} {ty : FieldType} {z : Int32} {vs : List Value} {dv : Value} (F : Arv Z h a k ty z vs dv) : ∀ cell : Cell, h[a]? = some cell → cell.vm.isStatics = false := fun cell hc => by
  obtain ⟨c1, A, -⟩ := F
  cases A.1.symm.trans hc
  exact A.plain
theorem own_staKeep {Z : State} {h h' : Heap} {C n d : String} {v : Value} {ws : List Addr} (F : Sta Z h C n d v) (K : Keep h h' ws) (q : ∀ x ∈ ws, ∀ cell : Cell, h[x]? = some cell → cell.vm.isStatics = false) : Sta Z h' C n d v := by
  obtain ⟨cf, i, k, f, st, cell, h1, h2, h3, h4, h5, h6, h7⟩ := F
  exact ⟨cf, i, k, f, st, cell, h1, h2, h3, h4, K.2.1 st cell h5 (fun m => by rw [q st m cell h5] at h6; cases h6), h6, h7⟩
theorem own_insLt {Z : State} {h : Heap} {a : Addr} {C : String} {bo : Bool} (F : Ins Z h a C bo) : a < h.size := by
  obtain ⟨cell, cT, h1, -⟩ := F
  exact (Array.getElem?_eq_some_iff.mp h1).1
theorem own_insKeep {Z : State} {h h' : Heap} {a : Addr} {C : String} {bo : Bool} {ws : List Addr} (F : Ins Z h a C bo) (K : Keep h h' ws) : Ins Z h' a C bo := by
  obtain ⟨cell, cT, h1, h2, h3⟩ := F
  obtain ⟨c', e1, e2, e3, -⟩ := K.2.2 a cell h1
  exact ⟨c', cT, e1, h2, by rw [e2, e3]; exact h3⟩


theorem own_widen {s t : State} {o : Outcome} {L : List Loc} {k n k' n' : Nat} (h : ReturnedEndW s o t L k n) (hk : k ≤ k') (hn : n ≤ n') : ReturnedEndW s o t L k' n' := ⟨h.1, h.2.1, h.2.2.1, h.2.2.2.mono hk hn⟩
theorem own_wS {a0 : Array Value} {Z : State} (hw : ∀ d ∈ tables_1, d.before a0 Z = true) : ∀ a ∈ Bundle.stringAtoms, a.before a0 Z = true := by
  intro a ha
  simp only [Bundle.stringAtoms, List.mem_cons, List.not_mem_nil, or_false] at ha
  rcases ha with rfl | rfl | rfl | rfl | rfl | rfl | rfl
  · exact (hw _ (List.mem_of_getElem? (i := 12) rfl))
  · exact (hw _ (List.mem_of_getElem? (i := 11) rfl))
  · exact (hw _ (List.mem_of_getElem? (i := 25) rfl))
  · exact (hw _ (List.mem_of_getElem? (i := 26) rfl))
  · exact (hw _ (List.mem_of_getElem? (i := 27) rfl))
  · exact (hw _ (List.mem_of_getElem? (i := 28) rfl))
  · exact (hw _ (List.mem_of_getElem? (i := 29) rfl))


def own_EL : List (String × Nat) := [("com/example/kodnik/kodnik/store/MappingJoinsPinLaw", 23), ("com/example/kodnik/kodnik/store/MappingJoinsPinLaw", 25), ("java/lang/String", 7)]
theorem own_EW {a0 : Array Value} {Z : State} (hw : ∀ d ∈ tables_1, d.before a0 Z = true) : EW Z a0 own_EL := (EW.cons (hw _ (List.mem_of_getElem? (i := 46) rfl)) (by decide) (EW.cons (hw _ (List.mem_of_getElem? (i := 47) rfl)) (by decide) (EW.cons (hw _ (List.mem_of_getElem? (i := 24) rfl)) (by decide) EW.nil)))


theorem own_nz {args : Array Value} {s : State} {t : Term} {x : Int32} (ev : t.eval args s none [] s = some (.int x)) (h : (Jvm.Cond.not (.eq t (.int 0))).value args s none s [] = some true) : ¬ (x = (0 : Int32)) := fun q => by
  subst q
  have e := eq_i ev (rfl : (Term.int 0).eval args s none [] s = some (.int 0)) rfl
  rw [not_v h] at e
  simp at e


theorem own_narB (c : Int32) : nar .byte (c.toInt8.toInt32) = c.toInt8.toInt32 := by simp [nar]
def own_Str (Z : State) (h : Heap) (a : Addr) (cs : List Int32) : Prop := ∃ b k, Exa Z h a "java/lang/String" ∧ Fld Z h a "java/lang/String" "coder" "B" (.int (0 : Int32)) ∧ Fld Z h a "java/lang/String" "value" "[B" (.ref b) ∧ Arv Z h b k .byte (Int32.ofNat cs.length) (cs.map fun c => Value.int c.toInt8.toInt32) (.int (0 : Int32))
theorem own_strLt {Z : State} {h : Heap} {a : Addr} {cs : List Int32} (F : own_Str Z h a cs) : a < h.size := by
  obtain ⟨b, k, E, -⟩ := F
  exact E.lt
theorem own_strExt {Z : State} {h h' : Heap} {a : Addr} {cs : List Int32} (F : own_Str Z h a cs) (E : Ext h h') : own_Str Z h' a cs := by
  obtain ⟨b, k, h1, h2, h3, h4⟩ := F
  exact ⟨b, k, h1.ext E, h2.ext E, h3.ext E, h4.ext E⟩
theorem own_strKeep0 {Z : State} {h h' : Heap} {a : Addr} {cs : List Int32} (F : own_Str Z h a cs) (K : Keep h h' []) : own_Str Z h' a cs := by
  obtain ⟨b, k, h1, h2, h3, h4⟩ := F
  exact ⟨b, k, h1.keep K, h2.keep K nin0, h3.keep K nin0, h4.keep K nin0⟩
theorem own_strKeep1 {Z : State} {h h' : Heap} {a w : Addr} {cs : List Int32} {C : String} {n : Nat} {a0 : Array Value} (F : own_Str Z h a cs) (K : Keep h h' [w]) (E : Exa Z h w C) (hC : C ≠ "java/lang/String") (wi : (Jvm.Cond.instantiable C n).before a0 Z = true) : own_Str Z h' a cs := by
  obtain ⟨b, k, h1, h2, h3, h4⟩ := F
  have n1 : a ≠ w := Ne.symm (Exa.ne E h1 hC)
  have n2 : b ≠ w := Ne.symm (Exa.neArv E h4 wi)
  exact ⟨b, k, h1.keep K, h2.keep K (ninS n1 nin0), h3.keep K (ninS n1 nin0), h4.keep K (ninS n2 nin0)⟩


theorem own_safeNull {Z : State} {EL : List (String × Nat)} {vm : Vm} {h : Heap} {x : Addr} (hal : Z.vm.Alike vm) (E : Exa Z h x "java/lang/String") (F : Fld Z h x "java/lang/String" "value" "[B" .null) : Safe Z EL vm h x := fun B => by
  obtain ⟨cell, cf, k, i, f, h1, h2, h3, h4, h5, h6, h7⟩ := F
  obtain ⟨p, -, u, a, -, q, -, G, rfl | rfl⟩ := B
  · have e1 := G.ha
    cases (show h[q.sa]? = some q.sC from e1).symm.trans h1
    obtain ⟨cS, ⟨⟨-, -, -, ⟨c1, k1, i1, f1, -⟩, -, -, -, v1, -⟩, -⟩, -⟩ := G
    obtain ⟨k3, e3, -⟩ := State.fieldFound?_setVm (s := Z) hal h2
    have e4 := (show (Z.setVm vm).fieldFound? _ _ _ = _ from e3).symm.trans (show (Z.setVm vm).fieldFound? _ _ _ = _ from f1)
    simp only [Option.some.injEq, Prod.mk.injEq] at e4
    rw [← e4.2.2.2, h7] at v1
    simp at v1
  · have e1 := G.hd
    obtain ⟨cell2, k2, g1, g2, g3, -, -⟩ := E
    cases (show h[q.sd]? = some q.SA from e1).symm.trans g1
    obtain ⟨cS, -, -, f, -⟩ := G
    have f' : Z.vm.findClass "[B" = some q.SA.cls := by rw [← hal.findClass]; exact f
    exact absurd (rfl : q.SA.cls = q.SA.cls) (ids_ne g2 f' (by decide))


theorem own_strE {Z : State} {h : Heap} {a : Addr} {cs : List Int32} (F : own_Str Z h a cs) : Exa Z h a "java/lang/String" := by
  obtain ⟨b, k, E, -⟩ := F
  exact E
theorem own_metMono {l : Launch} {y : MethodName} {S : Spec} {P : Array Value → State → Prop} {K : Program → Env → List Frame → State → Array Value → Prop} {Q Q' : Array Value → State → Outcome → State → Prop} (M : MetFree l y S P K Q) (hq : ∀ a U o U', Q a U o U' → Q' a U o U') : MetFree l y S P K Q' := by
  intro p e ha hc hk s m args below hf happ hP hK
  obtain ⟨n, o, h1, h2, h3, h4⟩ := M p e ha hc hk s m args below hf happ hP hK
  exact ⟨n, o, h1, h2, h3, hq _ _ _ _ h4⟩
def own_small (cs : List Int32) : Prop := cs.length ≤ 2 ∧ ∀ c ∈ cs, 0 ≤ c.toInt ∧ c.toInt ≤ 255
theorem own_shape {cs : List Int32} (h : own_small cs) : cs = [] ∨ (∃ x, cs = [x]) ∨ ∃ x y, cs = [x, y] := by
  obtain ⟨h1, -⟩ := h
  match cs, h1 with
  | [], _ => exact Or.inl rfl
  | [x], _ => exact Or.inr (Or.inl ⟨x, rfl⟩)
  | [x, y], _ => exact Or.inr (Or.inr ⟨x, y, rfl⟩)
  | _ :: _ :: _ :: _, h => simp at h
theorem own_byteInj {x y : Int32} (hx : 0 ≤ x.toInt ∧ x.toInt ≤ 255) (hy : 0 ≤ y.toInt ∧ y.toInt ≤ 255) (h : x.toInt8.toInt32 = y.toInt8.toInt32) : x = y := by
  have a := c_i2b x
  have b := c_i2b y
  rw [h] at a
  apply Int32.toInt_inj.mp
  omega
def own_leq (a b : List Int32) : Int32 := if a = b then (1 : Int32) else (0 : Int32)

theorem pn_java_lang_StringUTF16 : plainName "java/lang/StringUTF16" = true := by first | (simp [plainName, overriddenIn]; done) | decide +kernel
theorem d_jdk_52_method_21_code_0 : decode jdk_52_method_21_code 0 = .ok (.iconst 0, 1) := by decide +kernel
theorem d_jdk_52_method_21_code_1 : decode jdk_52_method_21_code 1 = .ok (.istore 5, 2) := by decide +kernel
theorem d_jdk_52_method_21_code_3 : decode jdk_52_method_21_code 3 = .ok (.iload 5, 2) := by decide +kernel
theorem d_jdk_52_method_21_code_5 : decode jdk_52_method_21_code 5 = .ok (.iload 4, 2) := by decide +kernel
theorem d_jdk_52_method_21_code_7 : decode jdk_52_method_21_code 7 = .ok (.if_icmp .ge 37, 3) := by decide +kernel
theorem d_jdk_52_method_21_code_10 : decode jdk_52_method_21_code 10 = .ok (.aload_n 0, 1) := by decide +kernel
theorem d_jdk_52_method_21_code_11 : decode jdk_52_method_21_code 11 = .ok (.iload_n 1, 1) := by decide +kernel
theorem d_jdk_52_method_21_code_12 : decode jdk_52_method_21_code 12 = .ok (.caload, 1) := by decide +kernel
theorem d_jdk_52_method_21_code_13 : decode jdk_52_method_21_code 13 = .ok (.istore 6, 2) := by decide +kernel
theorem d_jdk_52_method_21_code_15 : decode jdk_52_method_21_code 15 = .ok (.iload 6, 2) := by decide +kernel
theorem d_jdk_52_method_21_code_17 : decode jdk_52_method_21_code 17 = .ok (.sipush 255, 3) := by decide +kernel
theorem d_jdk_52_method_21_code_20 : decode jdk_52_method_21_code 20 = .ok (.if_icmp .le 6, 3) := by decide +kernel
theorem d_jdk_52_method_21_code_26 : decode jdk_52_method_21_code 26 = .ok (.aload_n 2, 1) := by decide +kernel
theorem d_jdk_52_method_21_code_27 : decode jdk_52_method_21_code 27 = .ok (.iload_n 3, 1) := by decide +kernel
theorem d_jdk_52_method_21_code_28 : decode jdk_52_method_21_code 28 = .ok (.iload 6, 2) := by decide +kernel
theorem d_jdk_52_method_21_code_30 : decode jdk_52_method_21_code 30 = .ok (.i2b, 1) := by decide +kernel
theorem d_jdk_52_method_21_code_31 : decode jdk_52_method_21_code 31 = .ok (.bastore, 1) := by decide +kernel
theorem d_jdk_52_method_21_code_32 : decode jdk_52_method_21_code 32 = .ok (.iinc 1 1, 3) := by decide +kernel
theorem d_jdk_52_method_21_code_35 : decode jdk_52_method_21_code 35 = .ok (.iinc 3 1, 3) := by decide +kernel
theorem d_jdk_52_method_21_code_38 : decode jdk_52_method_21_code 38 = .ok (.iinc 5 1, 3) := by decide +kernel
theorem d_jdk_52_method_21_code_41 : decode jdk_52_method_21_code 41 = .ok (.goto (-38), 3) := by decide +kernel
theorem d_jdk_52_method_21_code_44 : decode jdk_52_method_21_code 44 = .ok (.iload 4, 2) := by decide +kernel
theorem d_jdk_52_method_21_code_46 : decode jdk_52_method_21_code 46 = .ok (.ireturn, 1) := by decide +kernel
theorem ef_rmCmpA1 (m : MethodId) (a1 : Addr) (a3 : Addr) : entryFrame m #[(.ref a1), (.int (0 : Int32)), (.ref a3), (.int (0 : Int32)), (.int (1 : Int32))] 7 = mkF m 0 #[.val (.ref a1), .val (.int (0 : Int32)), .val (.ref a3), .val (.int (0 : Int32)), .val (.int (1 : Int32)), .unset, .unset] [] := by first | (simp [entryFrame, mkF, argsToLocals, Value.category]; done) | rfl
def Q_rmCmpA1 (Z : State) (a1 : Addr) (a3 : Addr) (kc : ClassId) (kb : ClassId) (c0 : Int32) (h0 : Heap) (n0 : Nat) (v : Option Value) (h : Heap) (L : List Loc) : Prop := v = some (.int (1 : Int32)) ∧ Fr n0 L ∧ Keep h0 h [a3] ∧ Arv Z h a3 kb .byte (1 : Int32) [(.int (c0.toInt8.toInt32))] (.int (0 : Int32))
set_option maxRecDepth 65536 in
set_option maxHeartbeats 40000000 in
theorem rmCmpA1 (l : Launch) (Z : State) (a0 : Array Value) (hw : ∀ d ∈ tables_1, d.before a0 Z = true) (ws : List Jvm.Cond) (a1 : Addr) (a3 : Addr) (kc : ClassId) (kb : ClassId) (c0 : Int32) (h0 : Heap) (n0 : Nat) (Z0 : n0 ≤ h0.size) (P0 : Arv Z h0 a1 kc .char (1 : Int32) [(.int c0)] (.int (0 : Int32))) (P1 : Arv Z h0 a3 kb .byte (1 : Int32) [(.int (0 : Int32))] (.int (0 : Int32))) (g_a3 : n0 ≤ a3) (ne_a1_a3 : a1 ≠ a3) (hc0 : ¬ ((255 : Int32) < c0)) :
    MetFree l (⟨"java/lang/StringUTF16", "compress", "([CI[BII)I"⟩ : MethodName) (head1 (Jvm.Cond.code (⟨"java/lang/StringUTF16", "compress", "([CI[BII)I"⟩ : MethodName) jdk_52_method_21_code 7 (some .int) :: ws) ({ frames := 0, cells := 0, slots := 0, locals := 0 } : Room)) (fun a U => a = #[(.ref a1), (.int (0 : Int32)), (.ref a3), (.int (0 : Int32)), (.int (1 : Int32))] ∧ Z.Warmed39 U.vm ∧ U.heap = h0) (fun _ _ _ _ _ => True) (fun _ U o U' => ∃ v L, o = .returned v ∧ Q_rmCmpA1 Z a1 a3 kc kb c0 h0 n0 v U'.heap L ∧ FrameEnd U o U' L ({ frames := 0, cells := 0, slots := 0, locals := 0 } : Room).cells ({ frames := 0, cells := 0, slots := 0, locals := 0 } : Room).slots) := by
  refine MetFree.of_bodySF (plainFor_of_name pn_java_lang_StringUTF16) hisR ?_
  intro p e s m args below meth c s₁ Bd hml0 hP hK
  obtain ⟨rfl, hZ, hh⟩ := hP
  have hx := Bd.exec
  have hby := Bd.bytes
  have hml : c.maxLocals = 7 := hml0
  have hown : s.vm.findClass "java/lang/StringUTF16" = some m.cls := findClass_of_methodNamed Bd.named
  have hnm := (name_of_methodNamed Bd.named Bd.method).1
  have X0 : Stand p l e ({ frames := 0, cells := 0, slots := 0, locals := 0 } : Room) s m #[(.ref a1), (.int (0 : Int32)), (.ref a3), (.int (0 : Int32)), (.int (1 : Int32))] below meth c s₁ [] 0 0 := Stand.of_body Bd
  have e0 : s₁.heap = h0 := by rw [← hh, Bd.state]; rfl
  have N0 := Fr.nil n0
  refine own_fw (A' := (s₁.setTop (mkF m 0 #[.val (.ref a1), .val (.int (0 : Int32)), .val (.ref a3), .val (.int (0 : Int32)), .val (.int (1 : Int32)), .unset, .unset] []))) (fun t k => castTop (ef_rmCmpA1 m a1 a3) k) ?_
  refine own_fw (A' := (s₁.setTop (mkF m 1 #[.val (.ref a1), .val (.int (0 : Int32)), .val (.ref a3), .val (.int (0 : Int32)), .val (.int (1 : Int32)), .unset, .unset] [(.int (0 : Int32))]))) (fun t k => XS.iconst X0.here hx rfl (hb hby d_jdk_52_method_21_code_0) k) ?_
  refine own_fw (A' := (s₁.setTop (mkF m 3 #[.val (.ref a1), .val (.int (0 : Int32)), .val (.ref a3), .val (.int (0 : Int32)), .val (.int (1 : Int32)), .val (.int (0 : Int32)), .unset] []))) (fun t k => XS.istore X0.here hx rfl (hb hby d_jdk_52_method_21_code_1) rfl (l' := #[.val (.ref a1), .val (.int (0 : Int32)), .val (.ref a3), .val (.int (0 : Int32)), .val (.int (1 : Int32)), .val (.int (0 : Int32)), .unset]) rfl k) ?_
  refine own_fw (A' := (s₁.setTop (mkF m 5 #[.val (.ref a1), .val (.int (0 : Int32)), .val (.ref a3), .val (.int (0 : Int32)), .val (.int (1 : Int32)), .val (.int (0 : Int32)), .unset] [(.int (0 : Int32))]))) (fun t k => XS.iload X0.here hx rfl (hb hby d_jdk_52_method_21_code_3) rfl k) ?_
  refine own_fw (A' := (s₁.setTop (mkF m 7 #[.val (.ref a1), .val (.int (0 : Int32)), .val (.ref a3), .val (.int (0 : Int32)), .val (.int (1 : Int32)), .val (.int (0 : Int32)), .unset] [(.int (1 : Int32)), (.int (0 : Int32))]))) (fun t k => XS.iload X0.here hx rfl (hb hby d_jdk_52_method_21_code_5) rfl k) ?_
  refine own_fw (A' := (s₁.setTop (mkF m 10 #[.val (.ref a1), .val (.int (0 : Int32)), .val (.ref a3), .val (.int (0 : Int32)), .val (.int (1 : Int32)), .val (.int (0 : Int32)), .unset] []))) (fun t k => XS.icmpNo X0.here hx rfl (hb hby d_jdk_52_method_21_code_7) rfl (XT.ii_ge_f (by decide)) k) ?_
  refine own_fw (A' := (s₁.setTop (mkF m 11 #[.val (.ref a1), .val (.int (0 : Int32)), .val (.ref a3), .val (.int (0 : Int32)), .val (.int (1 : Int32)), .val (.int (0 : Int32)), .unset] [(.ref a1)]))) (fun t k => XS.aloadN X0.here hx rfl (hb hby d_jdk_52_method_21_code_10) rfl rfl k) ?_
  refine own_fw (A' := (s₁.setTop (mkF m 12 #[.val (.ref a1), .val (.int (0 : Int32)), .val (.ref a3), .val (.int (0 : Int32)), .val (.int (1 : Int32)), .val (.int (0 : Int32)), .unset] [(.int (0 : Int32)), (.ref a1)]))) (fun t k => XS.iloadN X0.here hx rfl (hb hby d_jdk_52_method_21_code_11) rfl k) ?_
  obtain ⟨cl1, Ar1, q1, S1, M1, H1, G1⟩ := id P0
  have hin1 : ¬ ((0 : Int32) < 0 ∨ cl1.slots.size ≤ ((0 : Int32)).toNatClampNeg) := inb_of S1 ⟨by decide, by decide⟩
  have hat1 : cl1.slots[((0 : Int32)).toNatClampNeg]? = some (.int c0) := H1.at hin1 rfl
  refine own_fw (A' := (s₁.setTop (mkF m 13 #[.val (.ref a1), .val (.int (0 : Int32)), .val (.ref a3), .val (.int (0 : Int32)), .val (.int (1 : Int32)), .val (.int (0 : Int32)), .unset] [(.int c0)]))) (fun t k => X0.caload hx (j := (0 : Int32)) (v := (.int c0)) (by rw [e0]; exact Ar1.1) (State.isArrayOf_alike hZ.alike Ar1.2.1) Ar1.2.2 hin1 hat1 (g := (mkF m 12 #[.val (.ref a1), .val (.int (0 : Int32)), .val (.ref a3), .val (.int (0 : Int32)), .val (.int (1 : Int32)), .val (.int (0 : Int32)), .unset] [(.int (0 : Int32)), (.ref a1)])) rfl rfl (hb hby d_jdk_52_method_21_code_12) _ k) ?_
  refine own_fw (A' := (s₁.setTop (mkF m 15 #[.val (.ref a1), .val (.int (0 : Int32)), .val (.ref a3), .val (.int (0 : Int32)), .val (.int (1 : Int32)), .val (.int (0 : Int32)), .val (.int c0)] []))) (fun t k => XS.istore X0.here hx rfl (hb hby d_jdk_52_method_21_code_13) rfl (l' := #[.val (.ref a1), .val (.int (0 : Int32)), .val (.ref a3), .val (.int (0 : Int32)), .val (.int (1 : Int32)), .val (.int (0 : Int32)), .val (.int c0)]) rfl k) ?_
  refine own_fw (A' := (s₁.setTop (mkF m 17 #[.val (.ref a1), .val (.int (0 : Int32)), .val (.ref a3), .val (.int (0 : Int32)), .val (.int (1 : Int32)), .val (.int (0 : Int32)), .val (.int c0)] [(.int c0)]))) (fun t k => XS.iload X0.here hx rfl (hb hby d_jdk_52_method_21_code_15) rfl k) ?_
  refine own_fw (A' := (s₁.setTop (mkF m 20 #[.val (.ref a1), .val (.int (0 : Int32)), .val (.ref a3), .val (.int (0 : Int32)), .val (.int (1 : Int32)), .val (.int (0 : Int32)), .val (.int c0)] [(.int (255 : Int32)), (.int c0)]))) (fun t k => XS.sipush X0.here hx rfl (hb hby d_jdk_52_method_21_code_17) k) ?_
  refine own_fw (A' := (s₁.setTop (mkF m 26 #[.val (.ref a1), .val (.int (0 : Int32)), .val (.ref a3), .val (.int (0 : Int32)), .val (.int (1 : Int32)), .val (.int (0 : Int32)), .val (.int c0)] []))) (fun t k => XS.icmpYes X0.here hx rfl (pc0 := 20) (pc' := 26) rfl (hb hby d_jdk_52_method_21_code_20) rfl (XT.ii_le_t hc0) (by decide) (by decide) k) ?_
  refine own_fw (A' := (s₁.setTop (mkF m 27 #[.val (.ref a1), .val (.int (0 : Int32)), .val (.ref a3), .val (.int (0 : Int32)), .val (.int (1 : Int32)), .val (.int (0 : Int32)), .val (.int c0)] [(.ref a3)]))) (fun t k => XS.aloadN X0.here hx rfl (hb hby d_jdk_52_method_21_code_26) rfl rfl k) ?_
  refine own_fw (A' := (s₁.setTop (mkF m 28 #[.val (.ref a1), .val (.int (0 : Int32)), .val (.ref a3), .val (.int (0 : Int32)), .val (.int (1 : Int32)), .val (.int (0 : Int32)), .val (.int c0)] [(.int (0 : Int32)), (.ref a3)]))) (fun t k => XS.iloadN X0.here hx rfl (hb hby d_jdk_52_method_21_code_27) rfl k) ?_
  refine own_fw (A' := (s₁.setTop (mkF m 30 #[.val (.ref a1), .val (.int (0 : Int32)), .val (.ref a3), .val (.int (0 : Int32)), .val (.int (1 : Int32)), .val (.int (0 : Int32)), .val (.int c0)] [(.int c0), (.int (0 : Int32)), (.ref a3)]))) (fun t k => XS.iload X0.here hx rfl (hb hby d_jdk_52_method_21_code_28) rfl k) ?_
  refine own_fw (A' := (s₁.setTop (mkF m 31 #[.val (.ref a1), .val (.int (0 : Int32)), .val (.ref a3), .val (.int (0 : Int32)), .val (.int (1 : Int32)), .val (.int (0 : Int32)), .val (.int c0)] [(.int (c0.toInt8.toInt32)), (.int (0 : Int32)), (.ref a3)]))) (fun t k => XS.i2b X0.here hx rfl (hb hby d_jdk_52_method_21_code_30) rfl k) ?_
  obtain ⟨cl2, Ar2, q2, S2, M2, H2, G2⟩ := id P1
  have hin2 : ¬ ((0 : Int32) < 0 ∨ cl2.slots.size ≤ ((0 : Int32)).toNatClampNeg) := inb_of S2 ⟨by decide, by decide⟩
  obtain ⟨T2, h2, X2, e2, W2, st2⟩ := stB X0 hx hZ e0 Ar2 (j := (0 : Int32)) hin2 (g := (mkF m 31 #[.val (.ref a1), .val (.int (0 : Int32)), .val (.ref a3), .val (.int (0 : Int32)), .val (.int (1 : Int32)), .val (.int (0 : Int32)), .val (.int c0)] [(.int (c0.toInt8.toInt32)), (.int (0 : Int32)), (.ref a3)])) rfl rfl (hb hby d_jdk_52_method_21_code_31)
  rw [own_narB] at W2
  have V2 : Arv Z h2 a3 kb .byte (1 : Int32) [(.int (c0.toInt8.toInt32))] (.int (0 : Int32)) := Arv.set Ar2 q2 S2 M2 H2 G2 (fits_nar_byte _) W2 0 rfl (Nat.le_of_ble_eq_true rfl)
  have Nf2 := Fr.snoc X2 N0 g_a3
  have K2 : Keep h0 h2 [a3] := (Keep.refl h0 [a3]).wr W2 (Or.inl (List.mem_of_getElem? (i := 0) rfl))
  have Z2 : n0 ≤ h2.size := Nat.le_trans Z0 (Keep.of_wr W2).1
  refine own_fw (A' := (T2.setTop (mkF m 32 #[.val (.ref a1), .val (.int (0 : Int32)), .val (.ref a3), .val (.int (0 : Int32)), .val (.int (1 : Int32)), .val (.int (0 : Int32)), .val (.int c0)] []))) (fun t k => st2 _ k) ?_
  refine own_fw (A' := (T2.setTop (mkF m 35 #[.val (.ref a1), .val (.int (1 : Int32)), .val (.ref a3), .val (.int (0 : Int32)), .val (.int (1 : Int32)), .val (.int (0 : Int32)), .val (.int c0)] []))) (fun t k => XS.iinc X2.here hx rfl (hb hby d_jdk_52_method_21_code_32) rfl (l' := #[.val (.ref a1), .val (.int (1 : Int32)), .val (.ref a3), .val (.int (0 : Int32)), .val (.int (1 : Int32)), .val (.int (0 : Int32)), .val (.int c0)]) rfl k) ?_
  refine own_fw (A' := (T2.setTop (mkF m 38 #[.val (.ref a1), .val (.int (1 : Int32)), .val (.ref a3), .val (.int (1 : Int32)), .val (.int (1 : Int32)), .val (.int (0 : Int32)), .val (.int c0)] []))) (fun t k => XS.iinc X2.here hx rfl (hb hby d_jdk_52_method_21_code_35) rfl (l' := #[.val (.ref a1), .val (.int (1 : Int32)), .val (.ref a3), .val (.int (1 : Int32)), .val (.int (1 : Int32)), .val (.int (0 : Int32)), .val (.int c0)]) rfl k) ?_
  refine own_fw (A' := (T2.setTop (mkF m 41 #[.val (.ref a1), .val (.int (1 : Int32)), .val (.ref a3), .val (.int (1 : Int32)), .val (.int (1 : Int32)), .val (.int (1 : Int32)), .val (.int c0)] []))) (fun t k => XS.iinc X2.here hx rfl (hb hby d_jdk_52_method_21_code_38) rfl (l' := #[.val (.ref a1), .val (.int (1 : Int32)), .val (.ref a3), .val (.int (1 : Int32)), .val (.int (1 : Int32)), .val (.int (1 : Int32)), .val (.int c0)]) rfl k) ?_
  refine own_fw (A' := (T2.setTop (mkF m 3 #[.val (.ref a1), .val (.int (1 : Int32)), .val (.ref a3), .val (.int (1 : Int32)), .val (.int (1 : Int32)), .val (.int (1 : Int32)), .val (.int c0)] []))) (fun t k => XS.goto X2.here hx rfl (pc0 := 41) (pc' := 3) rfl (hb hby d_jdk_52_method_21_code_41) (by decide) (by decide) k) ?_
  refine own_fw (A' := (T2.setTop (mkF m 5 #[.val (.ref a1), .val (.int (1 : Int32)), .val (.ref a3), .val (.int (1 : Int32)), .val (.int (1 : Int32)), .val (.int (1 : Int32)), .val (.int c0)] [(.int (1 : Int32))]))) (fun t k => XS.iload X2.here hx rfl (hb hby d_jdk_52_method_21_code_3) rfl k) ?_
  refine own_fw (A' := (T2.setTop (mkF m 7 #[.val (.ref a1), .val (.int (1 : Int32)), .val (.ref a3), .val (.int (1 : Int32)), .val (.int (1 : Int32)), .val (.int (1 : Int32)), .val (.int c0)] [(.int (1 : Int32)), (.int (1 : Int32))]))) (fun t k => XS.iload X2.here hx rfl (hb hby d_jdk_52_method_21_code_5) rfl k) ?_
  refine own_fw (A' := (T2.setTop (mkF m 44 #[.val (.ref a1), .val (.int (1 : Int32)), .val (.ref a3), .val (.int (1 : Int32)), .val (.int (1 : Int32)), .val (.int (1 : Int32)), .val (.int c0)] []))) (fun t k => XS.icmpYes X2.here hx rfl (pc0 := 7) (pc' := 44) rfl (hb hby d_jdk_52_method_21_code_7) rfl (XT.ii_ge_t (by decide)) (by decide) (by decide) k) ?_
  refine own_fw (A' := (T2.setTop (mkF m 46 #[.val (.ref a1), .val (.int (1 : Int32)), .val (.ref a3), .val (.int (1 : Int32)), .val (.int (1 : Int32)), .val (.int (1 : Int32)), .val (.int c0)] [(.int (1 : Int32))]))) (fun t k => XS.iload X2.here hx rfl (hb hby d_jdk_52_method_21_code_44) rfl k) ?_
  obtain ⟨fs, hr, hrun, hended, hW, hsame⟩ := X2.leave (v := some (.int (1 : Int32))) (fun h => by rw [Bd.returns] at h; cases h)
  refine ⟨_, _, ?_, hrun, hended, _, _, rfl, ?_, ⟨_, rfl⟩, hW, hsame.mono (by decide) (by decide)⟩
  · exact retOut X2 hx Bd.returns rfl (Or.inl ⟨rfl, by simp, _, rfl⟩) (hb hby d_jdk_52_method_21_code_46) hr
  · show Q_rmCmpA1 Z a1 a3 kc kb c0 h0 n0 _ T2.heap _
    rw [e2]
    exact ⟨rfl, Nf2, K2, V2⟩
theorem d_jdk_52_method_16_code_0 : decode jdk_52_method_16_code 0 = .ok (.iload_n 2, 1) := by decide +kernel
theorem d_jdk_52_method_16_code_1 : decode jdk_52_method_16_code 1 = .ok (.newarray .byte, 2) := by decide +kernel
theorem d_jdk_52_method_16_code_3 : decode jdk_52_method_16_code 3 = .ok (.astore_n 3, 1) := by decide +kernel
theorem d_jdk_52_method_16_code_4 : decode jdk_52_method_16_code 4 = .ok (.aload_n 0, 1) := by decide +kernel
theorem d_jdk_52_method_16_code_5 : decode jdk_52_method_16_code 5 = .ok (.iload_n 1, 1) := by decide +kernel
theorem d_jdk_52_method_16_code_6 : decode jdk_52_method_16_code 6 = .ok (.aload_n 3, 1) := by decide +kernel
theorem d_jdk_52_method_16_code_7 : decode jdk_52_method_16_code 7 = .ok (.iconst 0, 1) := by decide +kernel
theorem d_jdk_52_method_16_code_8 : decode jdk_52_method_16_code 8 = .ok (.iload_n 2, 1) := by decide +kernel
theorem d_jdk_52_method_16_code_9 : decode jdk_52_method_16_code 9 = .ok (.invokestatic 115, 3) := by decide +kernel
theorem pd___CI_BII_I : parseMethodDescriptor "([CI[BII)I" = some ⟨[(.array .char), .int, (.array .byte), .int, .int], some .int⟩ := by decide +kernel
theorem d_jdk_52_method_16_code_12 : decode jdk_52_method_16_code 12 = .ok (.istore 4, 2) := by decide +kernel
theorem d_jdk_52_method_16_code_14 : decode jdk_52_method_16_code 14 = .ok (.iload 4, 2) := by decide +kernel
theorem d_jdk_52_method_16_code_16 : decode jdk_52_method_16_code 16 = .ok (.iload_n 2, 1) := by decide +kernel
theorem d_jdk_52_method_16_code_17 : decode jdk_52_method_16_code 17 = .ok (.if_icmp .eq 40, 3) := by decide +kernel
theorem d_jdk_52_method_16_code_57 : decode jdk_52_method_16_code 57 = .ok (.aload_n 3, 1) := by decide +kernel
theorem d_jdk_52_method_16_code_58 : decode jdk_52_method_16_code 58 = .ok (.areturn, 1) := by decide +kernel
theorem ef_rmCmpB1 (m : MethodId) (a1 : Addr) : entryFrame m #[(.ref a1), (.int (0 : Int32)), (.int (1 : Int32))] 6 = mkF m 0 #[.val (.ref a1), .val (.int (0 : Int32)), .val (.int (1 : Int32)), .unset, .unset, .unset] [] := by first | (simp [entryFrame, mkF, argsToLocals, Value.category]; done) | rfl
def Q_rmCmpB1 (Z : State) (a1 : Addr) (kc : ClassId) (c0 : Int32) (h0 : Heap) (n0 : Nat) (v : Option Value) (h : Heap) (L : List Loc) : Prop := ∃ b : Addr, ∃ kb : ClassId, v = some (.ref b) ∧ Fr n0 L ∧ Keep h0 h [] ∧ Arv Z h b kb .byte (1 : Int32) [(.int (c0.toInt8.toInt32))] (.int (0 : Int32)) ∧ (h0.size ≤ b)
set_option maxRecDepth 65536 in
set_option maxHeartbeats 40000000 in
theorem rmCmpB1 (l : Launch) (Z : State) (a0 : Array Value) (hw : ∀ d ∈ tables_1, d.before a0 Z = true) (ws : List Jvm.Cond) (a1 : Addr) (kc : ClassId) (c0 : Int32) (h0 : Heap) (n0 : Nat) (Z0 : n0 ≤ h0.size) (P0 : Arv Z h0 a1 kc .char (1 : Int32) [(.int c0)] (.int (0 : Int32))) (hc0 : ¬ ((255 : Int32) < c0)) :
    MetFree l (⟨"java/lang/StringUTF16", "compress", "([CII)[B"⟩ : MethodName) (head1 (Jvm.Cond.code (⟨"java/lang/StringUTF16", "compress", "([CII)[B"⟩ : MethodName) jdk_52_method_16_code 6 (some (.array .byte)) :: ws) ({ frames := 1, cells := 1, slots := 1, locals := 18 } : Room)) (fun a U => a = #[(.ref a1), (.int (0 : Int32)), (.int (1 : Int32))] ∧ Z.Warmed39 U.vm ∧ U.heap = h0) (fun _ _ _ _ _ => True) (fun _ U o U' => ∃ v L, o = .returned v ∧ Q_rmCmpB1 Z a1 kc c0 h0 n0 v U'.heap L ∧ FrameEnd U o U' L ({ frames := 1, cells := 1, slots := 1, locals := 18 } : Room).cells ({ frames := 1, cells := 1, slots := 1, locals := 18 } : Room).slots) := by
  refine MetFree.of_bodySF (plainFor_of_name pn_java_lang_StringUTF16) hisR ?_
  intro p e s m args below meth c s₁ Bd hml0 hP hK
  obtain ⟨rfl, hZ, hh⟩ := hP
  have hx := Bd.exec
  have hby := Bd.bytes
  have hml : c.maxLocals = 6 := hml0
  have hown : s.vm.findClass "java/lang/StringUTF16" = some m.cls := findClass_of_methodNamed Bd.named
  have hnm := (name_of_methodNamed Bd.named Bd.method).1
  have X0 : Stand p l e ({ frames := 1, cells := 1, slots := 1, locals := 18 } : Room) s m #[(.ref a1), (.int (0 : Int32)), (.int (1 : Int32))] below meth c s₁ [] 0 0 := Stand.of_body Bd
  have e0 : s₁.heap = h0 := by rw [← hh, Bd.state]; rfl
  have N0 := Fr.nil n0
  refine own_fw (A' := (s₁.setTop (mkF m 0 #[.val (.ref a1), .val (.int (0 : Int32)), .val (.int (1 : Int32)), .unset, .unset, .unset] []))) (fun t k => castTop (ef_rmCmpB1 m a1) k) ?_
  refine own_fw (A' := (s₁.setTop (mkF m 1 #[.val (.ref a1), .val (.int (0 : Int32)), .val (.int (1 : Int32)), .unset, .unset, .unset] [(.int (1 : Int32))]))) (fun t k => XS.iloadN X0.here hx rfl (hb hby d_jdk_52_method_16_code_0) rfl k) ?_
  obtain ⟨T1, h1, k1, X1, e1, E1, A1, st1⟩ := newP X0 hx hZ (hw _ (List.mem_of_getElem? (i := 25) rfl)) e0 (g := (mkF m 1 #[.val (.ref a1), .val (.int (0 : Int32)), .val (.int (1 : Int32)), .unset, .unset, .unset] [(.int (1 : Int32))])) rfl (hb hby d_jdk_52_method_16_code_1) rfl (by decide) (cap := 1) (by decide) (by decide) (by decide) (by decide)
  obtain ⟨b1, gb1⟩ : ∃ z, z = h0.size := ⟨_, rfl⟩
  have g_b1 : n0 ≤ b1 := Nat.le_trans Z0 (Nat.le_of_eq gb1.symm)
  have sz_b1 : h0.size ≤ b1 := Nat.le_trans (Keep.refl h0 []).1 (Nat.le_of_eq gb1.symm)
  have ne_a1_b1 : a1 ≠ b1 := Nat.ne_of_lt (Nat.lt_of_lt_of_le P0.lt (Nat.le_of_eq gb1.symm))
  rw [← gb1] at A1 st1
  have V_b1 : Arv Z h1 b1 k1 .byte (1 : Int32) [(.int (0 : Int32))] (.int (0 : Int32)) := (Arv.new A1 (by decide)).pad (pad_rep [] (.int (0 : Int32)) 1)
  have K1 : Keep h0 h1 [] := (Keep.refl h0 []).ext E1
  have Z1 : n0 ≤ h1.size := Nat.le_trans Z0 E1.1
  refine own_fw (A' := (T1.setTop (mkF m 3 #[.val (.ref a1), .val (.int (0 : Int32)), .val (.int (1 : Int32)), .unset, .unset, .unset] [(.ref b1)]))) (fun t k => st1 _ k) ?_
  refine own_fw (A' := (T1.setTop (mkF m 4 #[.val (.ref a1), .val (.int (0 : Int32)), .val (.int (1 : Int32)), .val (.ref b1), .unset, .unset] []))) (fun t k => XS.astoreN X1.here hx rfl (hb hby d_jdk_52_method_16_code_3) rfl rfl (l' := #[.val (.ref a1), .val (.int (0 : Int32)), .val (.int (1 : Int32)), .val (.ref b1), .unset, .unset]) rfl k) ?_
  refine own_fw (A' := (T1.setTop (mkF m 5 #[.val (.ref a1), .val (.int (0 : Int32)), .val (.int (1 : Int32)), .val (.ref b1), .unset, .unset] [(.ref a1)]))) (fun t k => XS.aloadN X1.here hx rfl (hb hby d_jdk_52_method_16_code_4) rfl rfl k) ?_
  refine own_fw (A' := (T1.setTop (mkF m 6 #[.val (.ref a1), .val (.int (0 : Int32)), .val (.int (1 : Int32)), .val (.ref b1), .unset, .unset] [(.int (0 : Int32)), (.ref a1)]))) (fun t k => XS.iloadN X1.here hx rfl (hb hby d_jdk_52_method_16_code_5) rfl k) ?_
  refine own_fw (A' := (T1.setTop (mkF m 7 #[.val (.ref a1), .val (.int (0 : Int32)), .val (.int (1 : Int32)), .val (.ref b1), .unset, .unset] [(.ref b1), (.int (0 : Int32)), (.ref a1)]))) (fun t k => XS.aloadN X1.here hx rfl (hb hby d_jdk_52_method_16_code_6) rfl rfl k) ?_
  refine own_fw (A' := (T1.setTop (mkF m 8 #[.val (.ref a1), .val (.int (0 : Int32)), .val (.int (1 : Int32)), .val (.ref b1), .unset, .unset] [(.int (0 : Int32)), (.ref b1), (.int (0 : Int32)), (.ref a1)]))) (fun t k => XS.iconst X1.here hx rfl (hb hby d_jdk_52_method_16_code_7) k) ?_
  refine own_fw (A' := (T1.setTop (mkF m 9 #[.val (.ref a1), .val (.int (0 : Int32)), .val (.int (1 : Int32)), .val (.ref b1), .unset, .unset] [(.int (1 : Int32)), (.int (0 : Int32)), (.ref b1), (.int (0 : Int32)), (.ref a1)]))) (fun t k => XS.iloadN X1.here hx rfl (hb hby d_jdk_52_method_16_code_8) rfl k) ?_
  obtain ⟨_, _, ⟨T2, L2, k2, n2⟩, -, X2, ⟨Lc2, hQ2, l2, y2, z2⟩, st2⟩ := Jvm.LawKit.callS X1 hx (y := (⟨"java/lang/StringUTF16", "compress", "([CI[BII)I"⟩ : MethodName)) hown (mvT hZ (hw _ (List.mem_of_getElem? (i := 37) rfl))) (mvT hZ (hw _ (List.mem_of_getElem? (i := 38) rfl))) (mvT hZ (hw _ (List.mem_of_getElem? (i := 35) rfl))) (mvT hZ (hw _ (List.mem_of_getElem? (i := 39) rfl))) (by decide) (backOf (W := 0) (rmCmpA1 l Z a0 hw [] a1 b1 kc k1 c0 h1 n0 Z1 (P0.ext E1) V_b1 g_b1 ne_a1_b1 hc0) hZ (hw _ (List.mem_of_getElem? (i := 39) rfl)) (hw _ (List.mem_of_getElem? (i := 35) rfl)) (by decide) (by decide)) (g := (mkF m 9 #[.val (.ref a1), .val (.int (0 : Int32)), .val (.int (1 : Int32)), .val (.ref b1), .unset, .unset] [(.int (1 : Int32)), (.int (0 : Int32)), (.ref b1), (.int (0 : Int32)), (.ref a1)])) rfl (by rw [hml]; rfl) (argsL := [(.ref a1), (.int (0 : Int32)), (.ref b1), (.int (0 : Int32)), (.int (1 : Int32))]) (rest := []) (lenOf pd___CI_BII_I rfl) rfl (by show 2 * 0 + _ ≤ _; exact Nat.le_of_eq rfl) (hb hby d_jdk_52_method_16_code_9) (fun _ _ => ⟨rfl, e1, (by decide : 1 + 0 ≤ _), (by decide : 1 + 0 ≤ _)⟩)
  dsimp only [Pt.U, Pt.locs, Pt.cells, Pt.slots] at X2 l2 y2 z2 st2 hQ2
  subst l2 y2 z2
  obtain ⟨rfl, Nq2, Kq2, Fq2_0⟩ := hQ2
  have Nf2 := Fr.app N0 Nq2
  have K2 : Keep h0 T2.heap [] := K1.trans Kq2 (allS (Or.inr sz_b1) all0)
  have Z2 : n0 ≤ T2.heap.size := Nat.le_trans Z1 Kq2.1
  refine own_fw (A' := (T2.setTop (mkF m 12 #[.val (.ref a1), .val (.int (0 : Int32)), .val (.int (1 : Int32)), .val (.ref b1), .unset, .unset] [(.int (1 : Int32))]))) (fun t k => st2 _ k) ?_
  refine own_fw (A' := (T2.setTop (mkF m 14 #[.val (.ref a1), .val (.int (0 : Int32)), .val (.int (1 : Int32)), .val (.ref b1), .val (.int (1 : Int32)), .unset] []))) (fun t k => XS.istore X2.here hx rfl (hb hby d_jdk_52_method_16_code_12) rfl (l' := #[.val (.ref a1), .val (.int (0 : Int32)), .val (.int (1 : Int32)), .val (.ref b1), .val (.int (1 : Int32)), .unset]) rfl k) ?_
  refine own_fw (A' := (T2.setTop (mkF m 16 #[.val (.ref a1), .val (.int (0 : Int32)), .val (.int (1 : Int32)), .val (.ref b1), .val (.int (1 : Int32)), .unset] [(.int (1 : Int32))]))) (fun t k => XS.iload X2.here hx rfl (hb hby d_jdk_52_method_16_code_14) rfl k) ?_
  refine own_fw (A' := (T2.setTop (mkF m 17 #[.val (.ref a1), .val (.int (0 : Int32)), .val (.int (1 : Int32)), .val (.ref b1), .val (.int (1 : Int32)), .unset] [(.int (1 : Int32)), (.int (1 : Int32))]))) (fun t k => XS.iloadN X2.here hx rfl (hb hby d_jdk_52_method_16_code_16) rfl k) ?_
  refine own_fw (A' := (T2.setTop (mkF m 57 #[.val (.ref a1), .val (.int (0 : Int32)), .val (.int (1 : Int32)), .val (.ref b1), .val (.int (1 : Int32)), .unset] []))) (fun t k => XS.icmpYes X2.here hx rfl (pc0 := 17) (pc' := 57) rfl (hb hby d_jdk_52_method_16_code_17) rfl (XT.ii_eq_t rfl) (by decide) (by decide) k) ?_
  refine own_fw (A' := (T2.setTop (mkF m 58 #[.val (.ref a1), .val (.int (0 : Int32)), .val (.int (1 : Int32)), .val (.ref b1), .val (.int (1 : Int32)), .unset] [(.ref b1)]))) (fun t k => XS.aloadN X2.here hx rfl (hb hby d_jdk_52_method_16_code_57) rfl rfl k) ?_
  obtain ⟨fs, hr, hrun, hended, hW, hsame⟩ := X2.leave (v := some (.ref b1)) (fun h => by rw [Bd.returns] at h; cases h)
  refine ⟨_, _, ?_, hrun, hended, _, _, rfl, ?_, ⟨_, rfl⟩, hW, hsame.mono (by decide) (by decide)⟩
  · exact retOut X2 hx Bd.returns rfl (Or.inr (Or.inr (Or.inr (Or.inr ⟨rfl, rfl, rfl⟩)))) (hb hby d_jdk_52_method_16_code_58) hr
  · show Q_rmCmpB1 Z a1 kc c0 h0 n0 _ T2.heap _
    exact ⟨b1, k1, rfl, Nf2, K2, Fq2_0, sz_b1⟩
theorem d_jdk_52_method_15_code_0 : decode jdk_52_method_15_code 0 = .ok (.iload_n 1, 1) := by decide +kernel
theorem d_jdk_52_method_15_code_1 : decode jdk_52_method_15_code 1 = .ok (.aload_n 0, 1) := by decide +kernel
theorem d_jdk_52_method_15_code_2 : decode jdk_52_method_15_code 2 = .ok (.arraylength, 1) := by decide +kernel
theorem d_jdk_52_method_15_code_3 : decode jdk_52_method_15_code 3 = .ok (.isub, 1) := by decide +kernel
theorem d_jdk_52_method_15_code_4 : decode jdk_52_method_15_code 4 = .ok (.bipush 31, 2) := by decide +kernel
theorem d_jdk_52_method_15_code_6 : decode jdk_52_method_15_code 6 = .ok (.iushr, 1) := by decide +kernel
theorem d_jdk_52_method_15_code_7 : decode jdk_52_method_15_code 7 = .ok (.i2b, 1) := by decide +kernel
theorem d_jdk_52_method_15_code_8 : decode jdk_52_method_15_code 8 = .ok (.ireturn, 1) := by decide +kernel
theorem ef_rmCoder1 (m : MethodId) (a1 : Addr) : entryFrame m #[(.ref a1), (.int (1 : Int32))] 2 = mkF m 0 #[.val (.ref a1), .val (.int (1 : Int32))] [] := by first | (simp [entryFrame, mkF, argsToLocals, Value.category]; done) | rfl
def Q_rmCoder1 (Z : State) (a1 : Addr) (kb : ClassId) (c0 : Int32) (h0 : Heap) (n0 : Nat) (v : Option Value) (h : Heap) (L : List Loc) : Prop := v = some (.int (0 : Int32)) ∧ Fr n0 L ∧ h = h0
set_option maxRecDepth 65536 in
set_option maxHeartbeats 40000000 in
theorem rmCoder1 (l : Launch) (Z : State) (a0 : Array Value) (hw : ∀ d ∈ tables_1, d.before a0 Z = true) (ws : List Jvm.Cond) (a1 : Addr) (kb : ClassId) (c0 : Int32) (h0 : Heap) (n0 : Nat) (Z0 : n0 ≤ h0.size) (P0 : Arv Z h0 a1 kb .byte (1 : Int32) [(.int c0)] (.int (0 : Int32))) :
    MetFree l (⟨"java/lang/StringUTF16", "coderFromArrayLen", "([BI)B"⟩ : MethodName) (head1 (Jvm.Cond.code (⟨"java/lang/StringUTF16", "coderFromArrayLen", "([BI)B"⟩ : MethodName) jdk_52_method_15_code 2 (some .byte) :: ws) ({ frames := 0, cells := 0, slots := 0, locals := 0 } : Room)) (fun a U => a = #[(.ref a1), (.int (1 : Int32))] ∧ Z.Warmed39 U.vm ∧ U.heap = h0) (fun _ _ _ _ _ => True) (fun _ U o U' => ∃ v L, o = .returned v ∧ Q_rmCoder1 Z a1 kb c0 h0 n0 v U'.heap L ∧ FrameEnd U o U' L ({ frames := 0, cells := 0, slots := 0, locals := 0 } : Room).cells ({ frames := 0, cells := 0, slots := 0, locals := 0 } : Room).slots) := by
  refine MetFree.of_bodySF (plainFor_of_name pn_java_lang_StringUTF16) hisR ?_
  intro p e s m args below meth c s₁ Bd hml0 hP hK
  obtain ⟨rfl, hZ, hh⟩ := hP
  have hx := Bd.exec
  have hby := Bd.bytes
  have hml : c.maxLocals = 2 := hml0
  have hown : s.vm.findClass "java/lang/StringUTF16" = some m.cls := findClass_of_methodNamed Bd.named
  have hnm := (name_of_methodNamed Bd.named Bd.method).1
  have X0 : Stand p l e ({ frames := 0, cells := 0, slots := 0, locals := 0 } : Room) s m #[(.ref a1), (.int (1 : Int32))] below meth c s₁ [] 0 0 := Stand.of_body Bd
  have e0 : s₁.heap = h0 := by rw [← hh, Bd.state]; rfl
  have N0 := Fr.nil n0
  refine own_fw (A' := (s₁.setTop (mkF m 0 #[.val (.ref a1), .val (.int (1 : Int32))] []))) (fun t k => castTop (ef_rmCoder1 m a1) k) ?_
  refine own_fw (A' := (s₁.setTop (mkF m 1 #[.val (.ref a1), .val (.int (1 : Int32))] [(.int (1 : Int32))]))) (fun t k => XS.iloadN X0.here hx rfl (hb hby d_jdk_52_method_15_code_0) rfl k) ?_
  refine own_fw (A' := (s₁.setTop (mkF m 2 #[.val (.ref a1), .val (.int (1 : Int32))] [(.ref a1), (.int (1 : Int32))]))) (fun t k => XS.aloadN X0.here hx rfl (hb hby d_jdk_52_method_15_code_1) rfl rfl k) ?_
  obtain ⟨cl1, Ar1, q1, S1, M1, H1, G1⟩ := id P0
  refine own_fw (A' := (s₁.setTop (mkF m 3 #[.val (.ref a1), .val (.int (1 : Int32))] [(.int (1 : Int32)), (.int (1 : Int32))]))) (fun t k => X0.arraylength hx (by rw [e0]; exact Ar1.1) (State.isArrayOf_alike hZ.alike Ar1.2.1) (g := (mkF m 2 #[.val (.ref a1), .val (.int (1 : Int32))] [(.ref a1), (.int (1 : Int32))])) rfl rfl (hb hby d_jdk_52_method_15_code_2) _ (by rw [len_of S1 M1]; exact k)) ?_
  refine own_fw (A' := (s₁.setTop (mkF m 4 #[.val (.ref a1), .val (.int (1 : Int32))] [(.int (0 : Int32))]))) (fun t k => XS.isub X0.here hx rfl (hb hby d_jdk_52_method_15_code_3) rfl k) ?_
  refine own_fw (A' := (s₁.setTop (mkF m 6 #[.val (.ref a1), .val (.int (1 : Int32))] [(.int (31 : Int32)), (.int (0 : Int32))]))) (fun t k => XS.bipush X0.here hx rfl (hb hby d_jdk_52_method_15_code_4) k) ?_
  refine own_fw (A' := (s₁.setTop (mkF m 7 #[.val (.ref a1), .val (.int (1 : Int32))] [(.int (0 : Int32))]))) (fun t k => XS.iushr X0.here hx rfl (hb hby d_jdk_52_method_15_code_6) rfl k) ?_
  refine own_fw (A' := (s₁.setTop (mkF m 8 #[.val (.ref a1), .val (.int (1 : Int32))] [(.int (0 : Int32))]))) (fun t k => XS.i2b X0.here hx rfl (hb hby d_jdk_52_method_15_code_7) rfl k) ?_
  obtain ⟨fs, hr, hrun, hended, hW, hsame⟩ := X0.leave (v := some (.int (0 : Int32))) (fun h => by rw [Bd.returns] at h; cases h)
  refine ⟨_, _, ?_, hrun, hended, _, _, rfl, ?_, ⟨_, rfl⟩, hW, hsame.mono (by decide) (by decide)⟩
  · exact retOut X0 hx Bd.returns rfl (Or.inl ⟨rfl, by simp, _, rfl⟩) (hb hby d_jdk_52_method_15_code_8) hr
  · show Q_rmCoder1 Z a1 kb c0 h0 n0 _ s₁.heap _
    rw [e0]
    exact ⟨rfl, N0, rfl⟩
theorem pn_java_lang_String : plainName "java/lang/String" = true := by first | (simp [plainName, overriddenIn]; done) | decide +kernel
theorem d_jdk_42_method_149_code_0 : decode jdk_42_method_149_code 0 = .ok (.aload_n 0, 1) := by decide +kernel
theorem d_jdk_42_method_149_code_1 : decode jdk_42_method_149_code 1 = .ok (.invokespecial 1, 3) := by decide +kernel
theorem d_jdk_42_method_149_code_4 : decode jdk_42_method_149_code 4 = .ok (.iload_n 3, 1) := by decide +kernel
theorem d_jdk_42_method_149_code_5 : decode jdk_42_method_149_code 5 = .ok (.ifCond .ne 22, 3) := by decide +kernel
theorem d_jdk_42_method_149_code_27 : decode jdk_42_method_149_code 27 = .ok (.getstatic 38, 3) := by decide +kernel
theorem d_jdk_42_method_149_code_30 : decode jdk_42_method_149_code 30 = .ok (.ifCond .eq 28, 3) := by decide +kernel
theorem d_jdk_42_method_149_code_33 : decode jdk_42_method_149_code 33 = .ok (.aload_n 1, 1) := by decide +kernel
theorem d_jdk_42_method_149_code_34 : decode jdk_42_method_149_code 34 = .ok (.iload_n 2, 1) := by decide +kernel
theorem d_jdk_42_method_149_code_35 : decode jdk_42_method_149_code 35 = .ok (.iload_n 3, 1) := by decide +kernel
theorem d_jdk_42_method_149_code_36 : decode jdk_42_method_149_code 36 = .ok (.invokestatic 177, 3) := by decide +kernel
theorem pd___CII__B : parseMethodDescriptor "([CII)[B" = some ⟨[(.array .char), .int, .int], some (.array .byte)⟩ := by decide +kernel
theorem d_jdk_42_method_149_code_39 : decode jdk_42_method_149_code 39 = .ok (.astore 5, 2) := by decide +kernel
theorem d_jdk_42_method_149_code_41 : decode jdk_42_method_149_code 41 = .ok (.aload_n 0, 1) := by decide +kernel
theorem d_jdk_42_method_149_code_42 : decode jdk_42_method_149_code 42 = .ok (.aload 5, 2) := by decide +kernel
theorem d_jdk_42_method_149_code_44 : decode jdk_42_method_149_code 44 = .ok (.iload_n 3, 1) := by decide +kernel
theorem d_jdk_42_method_149_code_45 : decode jdk_42_method_149_code 45 = .ok (.invokestatic 47, 3) := by decide +kernel
theorem pd___BI_B : parseMethodDescriptor "([BI)B" = some ⟨[(.array .byte), .int], some .byte⟩ := by decide +kernel
theorem d_jdk_42_method_149_code_48 : decode jdk_42_method_149_code 48 = .ok (.putfield 15, 3) := by decide +kernel
theorem d_jdk_42_method_149_code_51 : decode jdk_42_method_149_code 51 = .ok (.aload_n 0, 1) := by decide +kernel
theorem d_jdk_42_method_149_code_52 : decode jdk_42_method_149_code 52 = .ok (.aload 5, 2) := by decide +kernel
theorem d_jdk_42_method_149_code_54 : decode jdk_42_method_149_code 54 = .ok (.putfield 9, 3) := by decide +kernel
theorem d_jdk_42_method_149_code_57 : decode jdk_42_method_149_code 57 = .ok (.return_, 1) := by decide +kernel
theorem ef_rmStrB1 (m : MethodId) (a1 : Addr) (a2 : Addr) : entryFrame m #[(.ref a1), (.ref a2), (.int (0 : Int32)), (.int (1 : Int32)), .null] 6 = mkF m 0 #[.val (.ref a1), .val (.ref a2), .val (.int (0 : Int32)), .val (.int (1 : Int32)), .val .null, .unset] [] := by first | (simp [entryFrame, mkF, argsToLocals, Value.category]; done) | rfl
def Q_rmStrB1 (Z : State) (a1 : Addr) (a2 : Addr) (kc : ClassId) (cs : Int32) (c0 : Int32) (h0 : Heap) (n0 : Nat) (v : Option Value) (h : Heap) (L : List Loc) : Prop := ∃ b : Addr, ∃ kb : ClassId, v = none ∧ Fr n0 L ∧ Keep h0 h [a1] ∧ Exa Z h a1 "java/lang/String" ∧ Fld Z h a1 "java/lang/String" "coder" "B" (.int (0 : Int32)) ∧ Fld Z h a1 "java/lang/String" "value" "[B" (.ref b) ∧ Arv Z h b kb .byte (1 : Int32) [(.int (c0.toInt8.toInt32))] (.int (0 : Int32))
set_option maxRecDepth 65536 in
set_option maxHeartbeats 40000000 in
theorem rmStrB1 (l : Launch) (Z : State) (a0 : Array Value) (hw : ∀ d ∈ tables_1, d.before a0 Z = true) (ws : List Jvm.Cond) (a1 : Addr) (a2 : Addr) (kc : ClassId) (cs : Int32) (c0 : Int32) (h0 : Heap) (n0 : Nat) (Z0 : n0 ≤ h0.size) (P0 : Exa Z h0 a1 "java/lang/String") (P1 : Fld Z h0 a1 "java/lang/String" "coder" "B" (.int (0 : Int32))) (P2 : Fld Z h0 a1 "java/lang/String" "value" "[B" .null) (P3 : Arv Z h0 a2 kc .char (1 : Int32) [(.int c0)] (.int (0 : Int32))) (g_a1 : n0 ≤ a1) (ne_a1_a2 : a1 ≠ a2) (P6 : Sta Z h0 "java/lang/String" "COMPACT_STRINGS" "Z" (.int cs)) (hcs : ¬ (cs = (0 : Int32))) (hc0 : ¬ ((255 : Int32) < c0)) :
    MetFree l (⟨"java/lang/String", "<init>", "([CIILjava/lang/Void;)V"⟩ : MethodName) (head1 (Jvm.Cond.code (⟨"java/lang/String", "<init>", "([CIILjava/lang/Void;)V"⟩ : MethodName) jdk_42_method_149_code 6 none :: ws) ({ frames := 2, cells := 1, slots := 1, locals := 35 } : Room)) (fun a U => a = #[(.ref a1), (.ref a2), (.int (0 : Int32)), (.int (1 : Int32)), .null] ∧ Z.Warmed39 U.vm ∧ U.heap = h0) (fun _ _ _ _ _ => True) (fun _ U o U' => ∃ v L, o = .returned v ∧ Q_rmStrB1 Z a1 a2 kc cs c0 h0 n0 v U'.heap L ∧ FrameEnd U o U' L ({ frames := 2, cells := 1, slots := 1, locals := 35 } : Room).cells ({ frames := 2, cells := 1, slots := 1, locals := 35 } : Room).slots) := by
  refine MetFree.of_bodySF (plainFor_of_name pn_java_lang_String) hisR ?_
  intro p e s m args below meth c s₁ Bd hml0 hP hK
  obtain ⟨rfl, hZ, hh⟩ := hP
  have hx := Bd.exec
  have hby := Bd.bytes
  have hml : c.maxLocals = 6 := hml0
  have hown : s.vm.findClass "java/lang/String" = some m.cls := findClass_of_methodNamed Bd.named
  have hnm := (name_of_methodNamed Bd.named Bd.method).1
  have X0 : Stand p l e ({ frames := 2, cells := 1, slots := 1, locals := 35 } : Room) s m #[(.ref a1), (.ref a2), (.int (0 : Int32)), (.int (1 : Int32)), .null] below meth c s₁ [] 0 0 := Stand.of_body Bd
  have e0 : s₁.heap = h0 := by rw [← hh, Bd.state]; rfl
  have N0 := Fr.nil n0
  refine own_fw (A' := (s₁.setTop (mkF m 0 #[.val (.ref a1), .val (.ref a2), .val (.int (0 : Int32)), .val (.int (1 : Int32)), .val .null, .unset] []))) (fun t k => castTop (ef_rmStrB1 m a1 a2) k) ?_
  refine own_fw (A' := (s₁.setTop (mkF m 1 #[.val (.ref a1), .val (.ref a2), .val (.int (0 : Int32)), .val (.int (1 : Int32)), .val .null, .unset] [(.ref a1)]))) (fun t k => XS.aloadN X0.here hx rfl (hb hby d_jdk_42_method_149_code_0) rfl rfl k) ?_
  obtain ⟨T1, X1, e1, st1⟩ := initO X0 hx hZ hown (hw _ (List.mem_of_getElem? (i := 21) rfl)) (hw _ (List.mem_of_getElem? (i := 22) rfl)) (hw _ (List.mem_of_getElem? (i := 23) rfl)) e0 (g := (mkF m 1 #[.val (.ref a1), .val (.ref a2), .val (.int (0 : Int32)), .val (.int (1 : Int32)), .val .null, .unset] [(.ref a1)])) rfl (by rw [hml]; rfl) rfl (hb hby d_jdk_42_method_149_code_1) (by decide) (W := 0) (by show 2 * 0 + _ ≤ _; exact Nat.le_of_eq rfl) (by decide)
  refine own_fw (A' := (T1.setTop (mkF m 4 #[.val (.ref a1), .val (.ref a2), .val (.int (0 : Int32)), .val (.int (1 : Int32)), .val .null, .unset] []))) (fun t k => st1 _ k) ?_
  refine own_fw (A' := (T1.setTop (mkF m 5 #[.val (.ref a1), .val (.ref a2), .val (.int (0 : Int32)), .val (.int (1 : Int32)), .val .null, .unset] [(.int (1 : Int32))]))) (fun t k => XS.iloadN X1.here hx rfl (hb hby d_jdk_42_method_149_code_4) rfl k) ?_
  refine own_fw (A' := (T1.setTop (mkF m 27 #[.val (.ref a1), .val (.ref a2), .val (.int (0 : Int32)), .val (.int (1 : Int32)), .val .null, .unset] []))) (fun t k => XS.ifYes X1.here hx rfl (pc0 := 5) (pc' := 27) rfl (hb hby d_jdk_42_method_149_code_5) rfl (XT.i0_ne_t (by decide)) (by decide) (by decide) k) ?_
  obtain ⟨T2, X2, e2, st2⟩ := getS2 X1 hx hZ hown (host := "") (Or.inl (hw _ (List.mem_of_getElem? (i := 32) rfl))) Via.refl e1 P6 (g := (mkF m 27 #[.val (.ref a1), .val (.ref a2), .val (.int (0 : Int32)), .val (.int (1 : Int32)), .val .null, .unset] [])) rfl (hb hby d_jdk_42_method_149_code_27)
  refine own_fw (A' := (T2.setTop (mkF m 30 #[.val (.ref a1), .val (.ref a2), .val (.int (0 : Int32)), .val (.int (1 : Int32)), .val .null, .unset] [(.int cs)]))) (fun t k => st2 _ k) ?_
  refine own_fw (A' := (T2.setTop (mkF m 33 #[.val (.ref a1), .val (.ref a2), .val (.int (0 : Int32)), .val (.int (1 : Int32)), .val .null, .unset] []))) (fun t k => XS.ifNo X2.here hx rfl (hb hby d_jdk_42_method_149_code_30) rfl (XT.i0_eq_f hcs) k) ?_
  refine own_fw (A' := (T2.setTop (mkF m 34 #[.val (.ref a1), .val (.ref a2), .val (.int (0 : Int32)), .val (.int (1 : Int32)), .val .null, .unset] [(.ref a2)]))) (fun t k => XS.aloadN X2.here hx rfl (hb hby d_jdk_42_method_149_code_33) rfl rfl k) ?_
  refine own_fw (A' := (T2.setTop (mkF m 35 #[.val (.ref a1), .val (.ref a2), .val (.int (0 : Int32)), .val (.int (1 : Int32)), .val .null, .unset] [(.int (0 : Int32)), (.ref a2)]))) (fun t k => XS.iloadN X2.here hx rfl (hb hby d_jdk_42_method_149_code_34) rfl k) ?_
  refine own_fw (A' := (T2.setTop (mkF m 36 #[.val (.ref a1), .val (.ref a2), .val (.int (0 : Int32)), .val (.int (1 : Int32)), .val .null, .unset] [(.int (1 : Int32)), (.int (0 : Int32)), (.ref a2)]))) (fun t k => XS.iloadN X2.here hx rfl (hb hby d_jdk_42_method_149_code_35) rfl k) ?_
  obtain ⟨_, _, ⟨T3, L3, k3, n3⟩, -, X3, ⟨Lc3, hQ3, l3, y3, z3⟩, st3⟩ := Jvm.LawKit.callS X2 hx (y := (⟨"java/lang/StringUTF16", "compress", "([CII)[B"⟩ : MethodName)) hown (mvT hZ (hw _ (List.mem_of_getElem? (i := 33) rfl))) (mvT hZ (hw _ (List.mem_of_getElem? (i := 34) rfl))) (mvT hZ (hw _ (List.mem_of_getElem? (i := 35) rfl))) (mvT hZ (hw _ (List.mem_of_getElem? (i := 36) rfl))) (by decide) (backOf (W := 0) (rmCmpB1 l Z a0 hw [] a2 kc c0 h0 n0 Z0 P3 hc0) hZ (hw _ (List.mem_of_getElem? (i := 36) rfl)) (hw _ (List.mem_of_getElem? (i := 35) rfl)) (by decide) (by decide)) (g := (mkF m 36 #[.val (.ref a1), .val (.ref a2), .val (.int (0 : Int32)), .val (.int (1 : Int32)), .val .null, .unset] [(.int (1 : Int32)), (.int (0 : Int32)), (.ref a2)])) rfl (by rw [hml]; rfl) (argsL := [(.ref a2), (.int (0 : Int32)), (.int (1 : Int32))]) (rest := []) (lenOf pd___CII__B rfl) rfl (by show 2 * 0 + _ ≤ _; exact Nat.le_of_eq rfl) (hb hby d_jdk_42_method_149_code_36) (fun _ _ => ⟨rfl, e2, (by decide : 0 + 1 ≤ _), (by decide : 0 + 1 ≤ _)⟩)
  dsimp only [Pt.U, Pt.locs, Pt.cells, Pt.slots] at X3 l3 y3 z3 st3 hQ3
  subst l3 y3 z3
  obtain ⟨b_3, kb_3, rfl, Nq3, Kq3, Fq3_0, gb_3⟩ := hQ3
  have Nf3 := Fr.app N0 Nq3
  have K3 : Keep h0 T3.heap [a1] := (Keep.refl h0 [a1]).trans Kq3 all0
  have sz_b_3 : h0.size ≤ b_3 := Nat.le_trans (Keep.refl h0 [a1]).1 gb_3
  have g_b_3 : n0 ≤ b_3 := Nat.le_trans Z0 gb_3
  have ne_a1_b_3 : a1 ≠ b_3 := Nat.ne_of_lt (Nat.lt_of_lt_of_le P0.lt gb_3)
  have ne_a2_b_3 : a2 ≠ b_3 := Nat.ne_of_lt (Nat.lt_of_lt_of_le P3.lt gb_3)
  have Z3 : n0 ≤ T3.heap.size := Nat.le_trans Z0 Kq3.1
  refine own_fw (A' := (T3.setTop (mkF m 39 #[.val (.ref a1), .val (.ref a2), .val (.int (0 : Int32)), .val (.int (1 : Int32)), .val .null, .unset] [(.ref b_3)]))) (fun t k => st3 _ k) ?_
  refine own_fw (A' := (T3.setTop (mkF m 41 #[.val (.ref a1), .val (.ref a2), .val (.int (0 : Int32)), .val (.int (1 : Int32)), .val .null, .val (.ref b_3)] []))) (fun t k => XS.astore X3.here hx rfl (hb hby d_jdk_42_method_149_code_39) rfl rfl (l' := #[.val (.ref a1), .val (.ref a2), .val (.int (0 : Int32)), .val (.int (1 : Int32)), .val .null, .val (.ref b_3)]) rfl k) ?_
  refine own_fw (A' := (T3.setTop (mkF m 42 #[.val (.ref a1), .val (.ref a2), .val (.int (0 : Int32)), .val (.int (1 : Int32)), .val .null, .val (.ref b_3)] [(.ref a1)]))) (fun t k => XS.aloadN X3.here hx rfl (hb hby d_jdk_42_method_149_code_41) rfl rfl k) ?_
  refine own_fw (A' := (T3.setTop (mkF m 44 #[.val (.ref a1), .val (.ref a2), .val (.int (0 : Int32)), .val (.int (1 : Int32)), .val .null, .val (.ref b_3)] [(.ref b_3), (.ref a1)]))) (fun t k => XS.aload X3.here hx rfl (hb hby d_jdk_42_method_149_code_42) rfl rfl k) ?_
  refine own_fw (A' := (T3.setTop (mkF m 45 #[.val (.ref a1), .val (.ref a2), .val (.int (0 : Int32)), .val (.int (1 : Int32)), .val .null, .val (.ref b_3)] [(.int (1 : Int32)), (.ref b_3), (.ref a1)]))) (fun t k => XS.iloadN X3.here hx rfl (hb hby d_jdk_42_method_149_code_44) rfl k) ?_
  obtain ⟨_, _, ⟨T4, L4, k4, n4⟩, -, X4, ⟨Lc4, hQ4, l4, y4, z4⟩, st4⟩ := Jvm.LawKit.callS X3 hx (y := (⟨"java/lang/StringUTF16", "coderFromArrayLen", "([BI)B"⟩ : MethodName)) hown (mvT hZ (hw _ (List.mem_of_getElem? (i := 40) rfl))) (mvT hZ (hw _ (List.mem_of_getElem? (i := 41) rfl))) (mvT hZ (hw _ (List.mem_of_getElem? (i := 35) rfl))) (mvT hZ (hw _ (List.mem_of_getElem? (i := 42) rfl))) (by decide) (backOf (W := 1) (rmCoder1 l Z a0 hw [] b_3 kb_3 (c0.toInt8.toInt32) T3.heap n0 Z3 Fq3_0) hZ (hw _ (List.mem_of_getElem? (i := 42) rfl)) (hw _ (List.mem_of_getElem? (i := 35) rfl)) (by decide) (by decide)) (g := (mkF m 45 #[.val (.ref a1), .val (.ref a2), .val (.int (0 : Int32)), .val (.int (1 : Int32)), .val .null, .val (.ref b_3)] [(.int (1 : Int32)), (.ref b_3), (.ref a1)])) rfl (by rw [hml]; rfl) (argsL := [(.ref b_3), (.int (1 : Int32))]) (rest := [(.ref a1)]) (lenOf pd___BI_B rfl) rfl (by show 2 * 0 + _ ≤ _; exact Nat.le_of_eq rfl) (hb hby d_jdk_42_method_149_code_45) (fun _ _ => ⟨rfl, rfl, (by decide : 1 + 0 ≤ _), (by decide : 1 + 0 ≤ _)⟩)
  dsimp only [Pt.U, Pt.locs, Pt.cells, Pt.slots] at X4 l4 y4 z4 st4 hQ4
  subst l4 y4 z4
  obtain ⟨rfl, Nq4, e4⟩ := hQ4
  have Nf4 := Fr.app Nf3 Nq4
  refine own_fw (A' := (T4.setTop (mkF m 48 #[.val (.ref a1), .val (.ref a2), .val (.int (0 : Int32)), .val (.int (1 : Int32)), .val .null, .val (.ref b_3)] [(.int (0 : Int32)), (.ref a1)]))) (fun t k => st4 _ k) ?_
  obtain ⟨T5, h5, X5, e5, W5, st5⟩ := putFN X4 hx hZ hown (hw _ (List.mem_of_getElem? (i := 31) rfl)) Via.refl e4 (P1.keep Kq3 nin0) (P0.keep Kq3) (Or.inr ⟨(hw _ (List.mem_of_getElem? (i := 27) rfl)), rfl, hnm⟩) (hw _ (List.mem_of_getElem? (i := 11) rfl)) (ty := .byte) (v' := (.int (0 : Int32))) (by decide) rfl rfl (g := (mkF m 48 #[.val (.ref a1), .val (.ref a2), .val (.int (0 : Int32)), .val (.int (1 : Int32)), .val .null, .val (.ref b_3)] [(.int (0 : Int32)), (.ref a1)])) rfl rfl (hb hby d_jdk_42_method_149_code_48)
  have Fw5 : Fld Z h5 a1 "java/lang/String" "coder" "B" (.int (0 : Int32)) := (P1.keep Kq3 nin0).same W5
  have Nf5 := Fr.snoc X5 Nf4 g_a1
  have K5 : Keep h0 h5 [a1] := K3.wr W5 (Or.inl (List.mem_of_getElem? (i := 0) rfl))
  have Z5 : n0 ≤ h5.size := Nat.le_trans Z3 (Keep.of_wr W5).1
  refine own_fw (A' := (T5.setTop (mkF m 51 #[.val (.ref a1), .val (.ref a2), .val (.int (0 : Int32)), .val (.int (1 : Int32)), .val .null, .val (.ref b_3)] []))) (fun t k => st5 _ k) ?_
  refine own_fw (A' := (T5.setTop (mkF m 52 #[.val (.ref a1), .val (.ref a2), .val (.int (0 : Int32)), .val (.int (1 : Int32)), .val .null, .val (.ref b_3)] [(.ref a1)]))) (fun t k => XS.aloadN X5.here hx rfl (hb hby d_jdk_42_method_149_code_51) rfl rfl k) ?_
  refine own_fw (A' := (T5.setTop (mkF m 54 #[.val (.ref a1), .val (.ref a2), .val (.int (0 : Int32)), .val (.int (1 : Int32)), .val .null, .val (.ref b_3)] [(.ref b_3), (.ref a1)]))) (fun t k => XS.aload X5.here hx rfl (hb hby d_jdk_42_method_149_code_52) rfl rfl k) ?_
  obtain ⟨T6, h6, X6, e6, W6, st6⟩ := putF X5 hx hZ hown (host := "") (Or.inl (hw _ (List.mem_of_getElem? (i := 30) rfl))) Via.refl e5 ((P2.keep Kq3 nin0).other W5 (Or.inr (slot_ne (Or.inr (hw _ (List.mem_of_getElem? (i := 26) rfl))) (Or.inr (hw _ (List.mem_of_getElem? (i := 27) rfl))) (by decide) (t := (.array .byte)) (t' := .byte) (by decide) (by decide)))) ((P0.keep Kq3).wr W5) (Or.inr ⟨(hw _ (List.mem_of_getElem? (i := 26) rfl)), rfl, hnm⟩) (hw _ (List.mem_of_getElem? (i := 11) rfl)) (ty := (.array .byte)) (by decide) rfl rfl (g := (mkF m 54 #[.val (.ref a1), .val (.ref a2), .val (.int (0 : Int32)), .val (.int (1 : Int32)), .val .null, .val (.ref b_3)] [(.ref b_3), (.ref a1)])) rfl rfl (hb hby d_jdk_42_method_149_code_54)
  have Fw6 : Fld Z h6 a1 "java/lang/String" "value" "[B" (.ref b_3) := ((P2.keep Kq3 nin0).other W5 (Or.inr (slot_ne (Or.inr (hw _ (List.mem_of_getElem? (i := 26) rfl))) (Or.inr (hw _ (List.mem_of_getElem? (i := 27) rfl))) (by decide) (t := (.array .byte)) (t' := .byte) (by decide) (by decide)))).same W6
  have Nf6 := Fr.snoc X6 Nf5 g_a1
  have K6 : Keep h0 h6 [a1] := K5.wr W6 (Or.inl (List.mem_of_getElem? (i := 0) rfl))
  have Z6 : n0 ≤ h6.size := Nat.le_trans Z5 (Keep.of_wr W6).1
  refine own_fw (A' := (T6.setTop (mkF m 57 #[.val (.ref a1), .val (.ref a2), .val (.int (0 : Int32)), .val (.int (1 : Int32)), .val .null, .val (.ref b_3)] []))) (fun t k => st6 _ k) ?_
  obtain ⟨fs, hr, hrun, hended, hW, hsame⟩ := X6.leave (v := none) (fun _ => rfl)
  refine ⟨_, _, ?_, hrun, hended, _, _, rfl, ?_, ⟨_, rfl⟩, hW, hsame.mono (by decide) (by decide)⟩
  · exact X6.returnOut hx Bd.returns (hb hby d_jdk_42_method_149_code_57) hr
  · show Q_rmStrB1 Z a1 a2 kc cs c0 h0 n0 _ T6.heap _
    rw [e6]
    exact ⟨b_3, kb_3, rfl, Nf6, K6, (((P0.keep Kq3).wr W5).wr W6), (Fw5.other W6 (Or.inr (slot_ne (Or.inr (hw _ (List.mem_of_getElem? (i := 27) rfl))) (Or.inr (hw _ (List.mem_of_getElem? (i := 26) rfl))) (by decide) (t := .byte) (t' := (.array .byte)) (by decide) (by decide)))), Fw6, ((Fq3_0.other W5 (Ne.symm ne_a1_b_3)).other W6 (Ne.symm ne_a1_b_3))⟩
theorem d_jdk_42_method_3_code_0 : decode jdk_42_method_3_code 0 = .ok (.aload_n 0, 1) := by decide +kernel
theorem d_jdk_42_method_3_code_1 : decode jdk_42_method_3_code 1 = .ok (.aload_n 1, 1) := by decide +kernel
theorem d_jdk_42_method_3_code_2 : decode jdk_42_method_3_code 2 = .ok (.iconst 0, 1) := by decide +kernel
theorem d_jdk_42_method_3_code_3 : decode jdk_42_method_3_code 3 = .ok (.aload_n 1, 1) := by decide +kernel
theorem d_jdk_42_method_3_code_4 : decode jdk_42_method_3_code 4 = .ok (.arraylength, 1) := by decide +kernel
theorem d_jdk_42_method_3_code_5 : decode jdk_42_method_3_code 5 = .ok (.aconst_null, 1) := by decide +kernel
theorem d_jdk_42_method_3_code_6 : decode jdk_42_method_3_code 6 = .ok (.invokespecial 27, 3) := by decide +kernel
theorem pd___CIILjava_lang_Void__V : parseMethodDescriptor "([CIILjava/lang/Void;)V" = some ⟨[(.array .char), .int, .int, (.object "java/lang/Void")], none⟩ := by decide +kernel
theorem d_jdk_42_method_3_code_9 : decode jdk_42_method_3_code 9 = .ok (.return_, 1) := by decide +kernel
theorem ef_rmStrA1 (m : MethodId) (a1 : Addr) (a2 : Addr) : entryFrame m #[(.ref a1), (.ref a2)] 2 = mkF m 0 #[.val (.ref a1), .val (.ref a2)] [] := by first | (simp [entryFrame, mkF, argsToLocals, Value.category]; done) | rfl
def Q_rmStrA1 (Z : State) (a1 : Addr) (a2 : Addr) (kc : ClassId) (cs : Int32) (c0 : Int32) (h0 : Heap) (n0 : Nat) (v : Option Value) (h : Heap) (L : List Loc) : Prop := ∃ b : Addr, ∃ kb : ClassId, v = none ∧ Fr n0 L ∧ Keep h0 h [a1] ∧ Exa Z h a1 "java/lang/String" ∧ Fld Z h a1 "java/lang/String" "coder" "B" (.int (0 : Int32)) ∧ Fld Z h a1 "java/lang/String" "value" "[B" (.ref b) ∧ Arv Z h b kb .byte (1 : Int32) [(.int (c0.toInt8.toInt32))] (.int (0 : Int32))
set_option maxRecDepth 65536 in
set_option maxHeartbeats 40000000 in
theorem rmStrA1 (l : Launch) (Z : State) (a0 : Array Value) (hw : ∀ d ∈ tables_1, d.before a0 Z = true) (ws : List Jvm.Cond) (a1 : Addr) (a2 : Addr) (kc : ClassId) (cs : Int32) (c0 : Int32) (h0 : Heap) (n0 : Nat) (Z0 : n0 ≤ h0.size) (P0 : Exa Z h0 a1 "java/lang/String") (P1 : Fld Z h0 a1 "java/lang/String" "coder" "B" (.int (0 : Int32))) (P2 : Fld Z h0 a1 "java/lang/String" "value" "[B" .null) (P3 : Arv Z h0 a2 kc .char (1 : Int32) [(.int c0)] (.int (0 : Int32))) (g_a1 : n0 ≤ a1) (ne_a1_a2 : a1 ≠ a2) (P6 : Sta Z h0 "java/lang/String" "COMPACT_STRINGS" "Z" (.int cs)) (hcs : ¬ (cs = (0 : Int32))) (hc0 : ¬ ((255 : Int32) < c0)) :
    MetFree l (⟨"java/lang/String", "<init>", "([C)V"⟩ : MethodName) (head1 (Jvm.Cond.code (⟨"java/lang/String", "<init>", "([C)V"⟩ : MethodName) jdk_42_method_3_code 2 none :: ws) ({ frames := 3, cells := 1, slots := 1, locals := 52 } : Room)) (fun a U => a = #[(.ref a1), (.ref a2)] ∧ Z.Warmed39 U.vm ∧ U.heap = h0) (fun _ _ _ _ _ => True) (fun _ U o U' => ∃ v L, o = .returned v ∧ Q_rmStrA1 Z a1 a2 kc cs c0 h0 n0 v U'.heap L ∧ FrameEnd U o U' L ({ frames := 3, cells := 1, slots := 1, locals := 52 } : Room).cells ({ frames := 3, cells := 1, slots := 1, locals := 52 } : Room).slots) := by
  refine MetFree.of_bodySF (plainFor_of_name pn_java_lang_String) hisR ?_
  intro p e s m args below meth c s₁ Bd hml0 hP hK
  obtain ⟨rfl, hZ, hh⟩ := hP
  have hx := Bd.exec
  have hby := Bd.bytes
  have hml : c.maxLocals = 2 := hml0
  have hown : s.vm.findClass "java/lang/String" = some m.cls := findClass_of_methodNamed Bd.named
  have hnm := (name_of_methodNamed Bd.named Bd.method).1
  have X0 : Stand p l e ({ frames := 3, cells := 1, slots := 1, locals := 52 } : Room) s m #[(.ref a1), (.ref a2)] below meth c s₁ [] 0 0 := Stand.of_body Bd
  have e0 : s₁.heap = h0 := by rw [← hh, Bd.state]; rfl
  have N0 := Fr.nil n0
  refine own_fw (A' := (s₁.setTop (mkF m 0 #[.val (.ref a1), .val (.ref a2)] []))) (fun t k => castTop (ef_rmStrA1 m a1 a2) k) ?_
  refine own_fw (A' := (s₁.setTop (mkF m 1 #[.val (.ref a1), .val (.ref a2)] [(.ref a1)]))) (fun t k => XS.aloadN X0.here hx rfl (hb hby d_jdk_42_method_3_code_0) rfl rfl k) ?_
  refine own_fw (A' := (s₁.setTop (mkF m 2 #[.val (.ref a1), .val (.ref a2)] [(.ref a2), (.ref a1)]))) (fun t k => XS.aloadN X0.here hx rfl (hb hby d_jdk_42_method_3_code_1) rfl rfl k) ?_
  refine own_fw (A' := (s₁.setTop (mkF m 3 #[.val (.ref a1), .val (.ref a2)] [(.int (0 : Int32)), (.ref a2), (.ref a1)]))) (fun t k => XS.iconst X0.here hx rfl (hb hby d_jdk_42_method_3_code_2) k) ?_
  refine own_fw (A' := (s₁.setTop (mkF m 4 #[.val (.ref a1), .val (.ref a2)] [(.ref a2), (.int (0 : Int32)), (.ref a2), (.ref a1)]))) (fun t k => XS.aloadN X0.here hx rfl (hb hby d_jdk_42_method_3_code_3) rfl rfl k) ?_
  obtain ⟨cl1, Ar1, q1, S1, M1, H1, G1⟩ := id P3
  refine own_fw (A' := (s₁.setTop (mkF m 5 #[.val (.ref a1), .val (.ref a2)] [(.int (1 : Int32)), (.int (0 : Int32)), (.ref a2), (.ref a1)]))) (fun t k => X0.arraylength hx (by rw [e0]; exact Ar1.1) (State.isArrayOf_alike hZ.alike Ar1.2.1) (g := (mkF m 4 #[.val (.ref a1), .val (.ref a2)] [(.ref a2), (.int (0 : Int32)), (.ref a2), (.ref a1)])) rfl rfl (hb hby d_jdk_42_method_3_code_4) _ (by rw [len_of S1 M1]; exact k)) ?_
  refine own_fw (A' := (s₁.setTop (mkF m 6 #[.val (.ref a1), .val (.ref a2)] [.null, (.int (1 : Int32)), (.int (0 : Int32)), (.ref a2), (.ref a1)]))) (fun t k => XS.aconstNull X0.here hx rfl (hb hby d_jdk_42_method_3_code_5) k) ?_
  obtain ⟨_, _, ⟨T2, L2, k2, n2⟩, -, X2, ⟨Lc2, hQ2, l2, y2, z2⟩, st2⟩ := X0.specialBack hx (y := (⟨"java/lang/String", "<init>", "([CIILjava/lang/Void;)V"⟩ : MethodName)) rfl hown (mvT hZ (hw _ (List.mem_of_getElem? (i := 17) rfl))) (mvT hZ (hw _ (List.mem_of_getElem? (i := 18) rfl))) (mvT hZ (hw _ (List.mem_of_getElem? (i := 20) rfl))) (by decide) (backOf (W := 0) (rmStrB1 l Z a0 hw [] a1 a2 kc cs c0 h0 n0 Z0 P0 P1 P2 P3 g_a1 ne_a1_a2 P6 hcs hc0) hZ (hw _ (List.mem_of_getElem? (i := 20) rfl)) (hw _ (List.mem_of_getElem? (i := 12) rfl)) (by decide) (by decide)) (g := (mkF m 6 #[.val (.ref a1), .val (.ref a2)] [.null, (.int (1 : Int32)), (.int (0 : Int32)), (.ref a2), (.ref a1)])) rfl (by rw [hml]; rfl) (Steps.refl _) (a := a1) (argsL := [(.ref a2), (.int (0 : Int32)), (.int (1 : Int32)), .null]) (rest := []) (lenOf pd___CIILjava_lang_Void__V rfl) rfl (by show 2 * 0 + _ ≤ _; exact Nat.le_of_eq rfl) (hb hby d_jdk_42_method_3_code_6) (fun _ _ => ⟨rfl, e0, (by decide : 0 + 1 ≤ _), (by decide : 0 + 1 ≤ _)⟩)
  dsimp only [Pt.U, Pt.locs, Pt.cells, Pt.slots] at X2 l2 y2 z2 st2 hQ2
  subst l2 y2 z2
  obtain ⟨b_2, kb_2, rfl, Nq2, Kq2, Fq2_0, Fq2_1, Fq2_2, Fq2_3⟩ := hQ2
  have Nf2 := Fr.app N0 Nq2
  have K2 : Keep h0 T2.heap [a1] := (Keep.refl h0 [a1]).trans Kq2 (allS (Or.inl (List.mem_of_getElem? (i := 0) rfl)) all0)
  have Z2 : n0 ≤ T2.heap.size := Nat.le_trans Z0 Kq2.1
  refine own_fw (A' := (T2.setTop (mkF m 9 #[.val (.ref a1), .val (.ref a2)] []))) (fun t k => st2.trans k) ?_
  obtain ⟨fs, hr, hrun, hended, hW, hsame⟩ := X2.leave (v := none) (fun _ => rfl)
  refine ⟨_, _, ?_, hrun, hended, _, _, rfl, ?_, ⟨_, rfl⟩, hW, hsame.mono (by decide) (by decide)⟩
  · exact X2.returnOut hx Bd.returns (hb hby d_jdk_42_method_3_code_9) hr
  · show Q_rmStrA1 Z a1 a2 kc cs c0 h0 n0 _ T2.heap _
    exact ⟨b_2, kb_2, rfl, Nf2, K2, Fq2_0, Fq2_1, Fq2_2, Fq2_3⟩
theorem ef_rmCmpA2 (m : MethodId) (a1 : Addr) (a3 : Addr) : entryFrame m #[(.ref a1), (.int (0 : Int32)), (.ref a3), (.int (0 : Int32)), (.int (2 : Int32))] 7 = mkF m 0 #[.val (.ref a1), .val (.int (0 : Int32)), .val (.ref a3), .val (.int (0 : Int32)), .val (.int (2 : Int32)), .unset, .unset] [] := by first | (simp [entryFrame, mkF, argsToLocals, Value.category]; done) | rfl
def Q_rmCmpA2 (Z : State) (a1 : Addr) (a3 : Addr) (kc : ClassId) (kb : ClassId) (c0 : Int32) (c1 : Int32) (h0 : Heap) (n0 : Nat) (v : Option Value) (h : Heap) (L : List Loc) : Prop := v = some (.int (2 : Int32)) ∧ Fr n0 L ∧ Keep h0 h [a3] ∧ Arv Z h a3 kb .byte (2 : Int32) [(.int (c0.toInt8.toInt32)), (.int (c1.toInt8.toInt32))] (.int (0 : Int32))
set_option maxRecDepth 65536 in
set_option maxHeartbeats 40000000 in
theorem rmCmpA2 (l : Launch) (Z : State) (a0 : Array Value) (hw : ∀ d ∈ tables_1, d.before a0 Z = true) (ws : List Jvm.Cond) (a1 : Addr) (a3 : Addr) (kc : ClassId) (kb : ClassId) (c0 : Int32) (c1 : Int32) (h0 : Heap) (n0 : Nat) (Z0 : n0 ≤ h0.size) (P0 : Arv Z h0 a1 kc .char (2 : Int32) [(.int c0), (.int c1)] (.int (0 : Int32))) (P1 : Arv Z h0 a3 kb .byte (2 : Int32) [(.int (0 : Int32)), (.int (0 : Int32))] (.int (0 : Int32))) (g_a3 : n0 ≤ a3) (ne_a1_a3 : a1 ≠ a3) (hc0 : ¬ ((255 : Int32) < c0)) (hc1 : ¬ ((255 : Int32) < c1)) :
    MetFree l (⟨"java/lang/StringUTF16", "compress", "([CI[BII)I"⟩ : MethodName) (head1 (Jvm.Cond.code (⟨"java/lang/StringUTF16", "compress", "([CI[BII)I"⟩ : MethodName) jdk_52_method_21_code 7 (some .int) :: ws) ({ frames := 0, cells := 0, slots := 0, locals := 0 } : Room)) (fun a U => a = #[(.ref a1), (.int (0 : Int32)), (.ref a3), (.int (0 : Int32)), (.int (2 : Int32))] ∧ Z.Warmed39 U.vm ∧ U.heap = h0) (fun _ _ _ _ _ => True) (fun _ U o U' => ∃ v L, o = .returned v ∧ Q_rmCmpA2 Z a1 a3 kc kb c0 c1 h0 n0 v U'.heap L ∧ FrameEnd U o U' L ({ frames := 0, cells := 0, slots := 0, locals := 0 } : Room).cells ({ frames := 0, cells := 0, slots := 0, locals := 0 } : Room).slots) := by
  refine MetFree.of_bodySF (plainFor_of_name pn_java_lang_StringUTF16) hisR ?_
  intro p e s m args below meth c s₁ Bd hml0 hP hK
  obtain ⟨rfl, hZ, hh⟩ := hP
  have hx := Bd.exec
  have hby := Bd.bytes
  have hml : c.maxLocals = 7 := hml0
  have hown : s.vm.findClass "java/lang/StringUTF16" = some m.cls := findClass_of_methodNamed Bd.named
  have hnm := (name_of_methodNamed Bd.named Bd.method).1
  have X0 : Stand p l e ({ frames := 0, cells := 0, slots := 0, locals := 0 } : Room) s m #[(.ref a1), (.int (0 : Int32)), (.ref a3), (.int (0 : Int32)), (.int (2 : Int32))] below meth c s₁ [] 0 0 := Stand.of_body Bd
  have e0 : s₁.heap = h0 := by rw [← hh, Bd.state]; rfl
  have N0 := Fr.nil n0
  refine own_fw (A' := (s₁.setTop (mkF m 0 #[.val (.ref a1), .val (.int (0 : Int32)), .val (.ref a3), .val (.int (0 : Int32)), .val (.int (2 : Int32)), .unset, .unset] []))) (fun t k => castTop (ef_rmCmpA2 m a1 a3) k) ?_
  refine own_fw (A' := (s₁.setTop (mkF m 1 #[.val (.ref a1), .val (.int (0 : Int32)), .val (.ref a3), .val (.int (0 : Int32)), .val (.int (2 : Int32)), .unset, .unset] [(.int (0 : Int32))]))) (fun t k => XS.iconst X0.here hx rfl (hb hby d_jdk_52_method_21_code_0) k) ?_
  refine own_fw (A' := (s₁.setTop (mkF m 3 #[.val (.ref a1), .val (.int (0 : Int32)), .val (.ref a3), .val (.int (0 : Int32)), .val (.int (2 : Int32)), .val (.int (0 : Int32)), .unset] []))) (fun t k => XS.istore X0.here hx rfl (hb hby d_jdk_52_method_21_code_1) rfl (l' := #[.val (.ref a1), .val (.int (0 : Int32)), .val (.ref a3), .val (.int (0 : Int32)), .val (.int (2 : Int32)), .val (.int (0 : Int32)), .unset]) rfl k) ?_
  refine own_fw (A' := (s₁.setTop (mkF m 5 #[.val (.ref a1), .val (.int (0 : Int32)), .val (.ref a3), .val (.int (0 : Int32)), .val (.int (2 : Int32)), .val (.int (0 : Int32)), .unset] [(.int (0 : Int32))]))) (fun t k => XS.iload X0.here hx rfl (hb hby d_jdk_52_method_21_code_3) rfl k) ?_
  refine own_fw (A' := (s₁.setTop (mkF m 7 #[.val (.ref a1), .val (.int (0 : Int32)), .val (.ref a3), .val (.int (0 : Int32)), .val (.int (2 : Int32)), .val (.int (0 : Int32)), .unset] [(.int (2 : Int32)), (.int (0 : Int32))]))) (fun t k => XS.iload X0.here hx rfl (hb hby d_jdk_52_method_21_code_5) rfl k) ?_
  refine own_fw (A' := (s₁.setTop (mkF m 10 #[.val (.ref a1), .val (.int (0 : Int32)), .val (.ref a3), .val (.int (0 : Int32)), .val (.int (2 : Int32)), .val (.int (0 : Int32)), .unset] []))) (fun t k => XS.icmpNo X0.here hx rfl (hb hby d_jdk_52_method_21_code_7) rfl (XT.ii_ge_f (by decide)) k) ?_
  refine own_fw (A' := (s₁.setTop (mkF m 11 #[.val (.ref a1), .val (.int (0 : Int32)), .val (.ref a3), .val (.int (0 : Int32)), .val (.int (2 : Int32)), .val (.int (0 : Int32)), .unset] [(.ref a1)]))) (fun t k => XS.aloadN X0.here hx rfl (hb hby d_jdk_52_method_21_code_10) rfl rfl k) ?_
  refine own_fw (A' := (s₁.setTop (mkF m 12 #[.val (.ref a1), .val (.int (0 : Int32)), .val (.ref a3), .val (.int (0 : Int32)), .val (.int (2 : Int32)), .val (.int (0 : Int32)), .unset] [(.int (0 : Int32)), (.ref a1)]))) (fun t k => XS.iloadN X0.here hx rfl (hb hby d_jdk_52_method_21_code_11) rfl k) ?_
  obtain ⟨cl1, Ar1, q1, S1, M1, H1, G1⟩ := id P0
  have hin1 : ¬ ((0 : Int32) < 0 ∨ cl1.slots.size ≤ ((0 : Int32)).toNatClampNeg) := inb_of S1 ⟨by decide, by decide⟩
  have hat1 : cl1.slots[((0 : Int32)).toNatClampNeg]? = some (.int c0) := H1.at hin1 rfl
  refine own_fw (A' := (s₁.setTop (mkF m 13 #[.val (.ref a1), .val (.int (0 : Int32)), .val (.ref a3), .val (.int (0 : Int32)), .val (.int (2 : Int32)), .val (.int (0 : Int32)), .unset] [(.int c0)]))) (fun t k => X0.caload hx (j := (0 : Int32)) (v := (.int c0)) (by rw [e0]; exact Ar1.1) (State.isArrayOf_alike hZ.alike Ar1.2.1) Ar1.2.2 hin1 hat1 (g := (mkF m 12 #[.val (.ref a1), .val (.int (0 : Int32)), .val (.ref a3), .val (.int (0 : Int32)), .val (.int (2 : Int32)), .val (.int (0 : Int32)), .unset] [(.int (0 : Int32)), (.ref a1)])) rfl rfl (hb hby d_jdk_52_method_21_code_12) _ k) ?_
  refine own_fw (A' := (s₁.setTop (mkF m 15 #[.val (.ref a1), .val (.int (0 : Int32)), .val (.ref a3), .val (.int (0 : Int32)), .val (.int (2 : Int32)), .val (.int (0 : Int32)), .val (.int c0)] []))) (fun t k => XS.istore X0.here hx rfl (hb hby d_jdk_52_method_21_code_13) rfl (l' := #[.val (.ref a1), .val (.int (0 : Int32)), .val (.ref a3), .val (.int (0 : Int32)), .val (.int (2 : Int32)), .val (.int (0 : Int32)), .val (.int c0)]) rfl k) ?_
  refine own_fw (A' := (s₁.setTop (mkF m 17 #[.val (.ref a1), .val (.int (0 : Int32)), .val (.ref a3), .val (.int (0 : Int32)), .val (.int (2 : Int32)), .val (.int (0 : Int32)), .val (.int c0)] [(.int c0)]))) (fun t k => XS.iload X0.here hx rfl (hb hby d_jdk_52_method_21_code_15) rfl k) ?_
  refine own_fw (A' := (s₁.setTop (mkF m 20 #[.val (.ref a1), .val (.int (0 : Int32)), .val (.ref a3), .val (.int (0 : Int32)), .val (.int (2 : Int32)), .val (.int (0 : Int32)), .val (.int c0)] [(.int (255 : Int32)), (.int c0)]))) (fun t k => XS.sipush X0.here hx rfl (hb hby d_jdk_52_method_21_code_17) k) ?_
  refine own_fw (A' := (s₁.setTop (mkF m 26 #[.val (.ref a1), .val (.int (0 : Int32)), .val (.ref a3), .val (.int (0 : Int32)), .val (.int (2 : Int32)), .val (.int (0 : Int32)), .val (.int c0)] []))) (fun t k => XS.icmpYes X0.here hx rfl (pc0 := 20) (pc' := 26) rfl (hb hby d_jdk_52_method_21_code_20) rfl (XT.ii_le_t hc0) (by decide) (by decide) k) ?_
  refine own_fw (A' := (s₁.setTop (mkF m 27 #[.val (.ref a1), .val (.int (0 : Int32)), .val (.ref a3), .val (.int (0 : Int32)), .val (.int (2 : Int32)), .val (.int (0 : Int32)), .val (.int c0)] [(.ref a3)]))) (fun t k => XS.aloadN X0.here hx rfl (hb hby d_jdk_52_method_21_code_26) rfl rfl k) ?_
  refine own_fw (A' := (s₁.setTop (mkF m 28 #[.val (.ref a1), .val (.int (0 : Int32)), .val (.ref a3), .val (.int (0 : Int32)), .val (.int (2 : Int32)), .val (.int (0 : Int32)), .val (.int c0)] [(.int (0 : Int32)), (.ref a3)]))) (fun t k => XS.iloadN X0.here hx rfl (hb hby d_jdk_52_method_21_code_27) rfl k) ?_
  refine own_fw (A' := (s₁.setTop (mkF m 30 #[.val (.ref a1), .val (.int (0 : Int32)), .val (.ref a3), .val (.int (0 : Int32)), .val (.int (2 : Int32)), .val (.int (0 : Int32)), .val (.int c0)] [(.int c0), (.int (0 : Int32)), (.ref a3)]))) (fun t k => XS.iload X0.here hx rfl (hb hby d_jdk_52_method_21_code_28) rfl k) ?_
  refine own_fw (A' := (s₁.setTop (mkF m 31 #[.val (.ref a1), .val (.int (0 : Int32)), .val (.ref a3), .val (.int (0 : Int32)), .val (.int (2 : Int32)), .val (.int (0 : Int32)), .val (.int c0)] [(.int (c0.toInt8.toInt32)), (.int (0 : Int32)), (.ref a3)]))) (fun t k => XS.i2b X0.here hx rfl (hb hby d_jdk_52_method_21_code_30) rfl k) ?_
  obtain ⟨cl2, Ar2, q2, S2, M2, H2, G2⟩ := id P1
  have hin2 : ¬ ((0 : Int32) < 0 ∨ cl2.slots.size ≤ ((0 : Int32)).toNatClampNeg) := inb_of S2 ⟨by decide, by decide⟩
  obtain ⟨T2, h2, X2, e2, W2, st2⟩ := stB X0 hx hZ e0 Ar2 (j := (0 : Int32)) hin2 (g := (mkF m 31 #[.val (.ref a1), .val (.int (0 : Int32)), .val (.ref a3), .val (.int (0 : Int32)), .val (.int (2 : Int32)), .val (.int (0 : Int32)), .val (.int c0)] [(.int (c0.toInt8.toInt32)), (.int (0 : Int32)), (.ref a3)])) rfl rfl (hb hby d_jdk_52_method_21_code_31)
  rw [own_narB] at W2
  have V2 : Arv Z h2 a3 kb .byte (2 : Int32) [(.int (c0.toInt8.toInt32)), (.int (0 : Int32))] (.int (0 : Int32)) := Arv.set Ar2 q2 S2 M2 H2 G2 (fits_nar_byte _) W2 0 rfl (Nat.le_of_ble_eq_true rfl)
  have Nf2 := Fr.snoc X2 N0 g_a3
  have K2 : Keep h0 h2 [a3] := (Keep.refl h0 [a3]).wr W2 (Or.inl (List.mem_of_getElem? (i := 0) rfl))
  have Z2 : n0 ≤ h2.size := Nat.le_trans Z0 (Keep.of_wr W2).1
  refine own_fw (A' := (T2.setTop (mkF m 32 #[.val (.ref a1), .val (.int (0 : Int32)), .val (.ref a3), .val (.int (0 : Int32)), .val (.int (2 : Int32)), .val (.int (0 : Int32)), .val (.int c0)] []))) (fun t k => st2 _ k) ?_
  refine own_fw (A' := (T2.setTop (mkF m 35 #[.val (.ref a1), .val (.int (1 : Int32)), .val (.ref a3), .val (.int (0 : Int32)), .val (.int (2 : Int32)), .val (.int (0 : Int32)), .val (.int c0)] []))) (fun t k => XS.iinc X2.here hx rfl (hb hby d_jdk_52_method_21_code_32) rfl (l' := #[.val (.ref a1), .val (.int (1 : Int32)), .val (.ref a3), .val (.int (0 : Int32)), .val (.int (2 : Int32)), .val (.int (0 : Int32)), .val (.int c0)]) rfl k) ?_
  refine own_fw (A' := (T2.setTop (mkF m 38 #[.val (.ref a1), .val (.int (1 : Int32)), .val (.ref a3), .val (.int (1 : Int32)), .val (.int (2 : Int32)), .val (.int (0 : Int32)), .val (.int c0)] []))) (fun t k => XS.iinc X2.here hx rfl (hb hby d_jdk_52_method_21_code_35) rfl (l' := #[.val (.ref a1), .val (.int (1 : Int32)), .val (.ref a3), .val (.int (1 : Int32)), .val (.int (2 : Int32)), .val (.int (0 : Int32)), .val (.int c0)]) rfl k) ?_
  refine own_fw (A' := (T2.setTop (mkF m 41 #[.val (.ref a1), .val (.int (1 : Int32)), .val (.ref a3), .val (.int (1 : Int32)), .val (.int (2 : Int32)), .val (.int (1 : Int32)), .val (.int c0)] []))) (fun t k => XS.iinc X2.here hx rfl (hb hby d_jdk_52_method_21_code_38) rfl (l' := #[.val (.ref a1), .val (.int (1 : Int32)), .val (.ref a3), .val (.int (1 : Int32)), .val (.int (2 : Int32)), .val (.int (1 : Int32)), .val (.int c0)]) rfl k) ?_
  refine own_fw (A' := (T2.setTop (mkF m 3 #[.val (.ref a1), .val (.int (1 : Int32)), .val (.ref a3), .val (.int (1 : Int32)), .val (.int (2 : Int32)), .val (.int (1 : Int32)), .val (.int c0)] []))) (fun t k => XS.goto X2.here hx rfl (pc0 := 41) (pc' := 3) rfl (hb hby d_jdk_52_method_21_code_41) (by decide) (by decide) k) ?_
  refine own_fw (A' := (T2.setTop (mkF m 5 #[.val (.ref a1), .val (.int (1 : Int32)), .val (.ref a3), .val (.int (1 : Int32)), .val (.int (2 : Int32)), .val (.int (1 : Int32)), .val (.int c0)] [(.int (1 : Int32))]))) (fun t k => XS.iload X2.here hx rfl (hb hby d_jdk_52_method_21_code_3) rfl k) ?_
  refine own_fw (A' := (T2.setTop (mkF m 7 #[.val (.ref a1), .val (.int (1 : Int32)), .val (.ref a3), .val (.int (1 : Int32)), .val (.int (2 : Int32)), .val (.int (1 : Int32)), .val (.int c0)] [(.int (2 : Int32)), (.int (1 : Int32))]))) (fun t k => XS.iload X2.here hx rfl (hb hby d_jdk_52_method_21_code_5) rfl k) ?_
  refine own_fw (A' := (T2.setTop (mkF m 10 #[.val (.ref a1), .val (.int (1 : Int32)), .val (.ref a3), .val (.int (1 : Int32)), .val (.int (2 : Int32)), .val (.int (1 : Int32)), .val (.int c0)] []))) (fun t k => XS.icmpNo X2.here hx rfl (hb hby d_jdk_52_method_21_code_7) rfl (XT.ii_ge_f (by decide)) k) ?_
  refine own_fw (A' := (T2.setTop (mkF m 11 #[.val (.ref a1), .val (.int (1 : Int32)), .val (.ref a3), .val (.int (1 : Int32)), .val (.int (2 : Int32)), .val (.int (1 : Int32)), .val (.int c0)] [(.ref a1)]))) (fun t k => XS.aloadN X2.here hx rfl (hb hby d_jdk_52_method_21_code_10) rfl rfl k) ?_
  refine own_fw (A' := (T2.setTop (mkF m 12 #[.val (.ref a1), .val (.int (1 : Int32)), .val (.ref a3), .val (.int (1 : Int32)), .val (.int (2 : Int32)), .val (.int (1 : Int32)), .val (.int c0)] [(.int (1 : Int32)), (.ref a1)]))) (fun t k => XS.iloadN X2.here hx rfl (hb hby d_jdk_52_method_21_code_11) rfl k) ?_
  obtain ⟨cl3, Ar3, q3, S3, M3, H3, G3⟩ := id (P0.other W2 ne_a1_a3)
  have hin3 : ¬ ((1 : Int32) < 0 ∨ cl3.slots.size ≤ ((1 : Int32)).toNatClampNeg) := inb_of S3 ⟨by decide, by decide⟩
  have hat3 : cl3.slots[((1 : Int32)).toNatClampNeg]? = some (.int c1) := H3.at hin3 rfl
  refine own_fw (A' := (T2.setTop (mkF m 13 #[.val (.ref a1), .val (.int (1 : Int32)), .val (.ref a3), .val (.int (1 : Int32)), .val (.int (2 : Int32)), .val (.int (1 : Int32)), .val (.int c0)] [(.int c1)]))) (fun t k => X2.caload hx (j := (1 : Int32)) (v := (.int c1)) (by rw [e2]; exact Ar3.1) (State.isArrayOf_alike hZ.alike Ar3.2.1) Ar3.2.2 hin3 hat3 (g := (mkF m 12 #[.val (.ref a1), .val (.int (1 : Int32)), .val (.ref a3), .val (.int (1 : Int32)), .val (.int (2 : Int32)), .val (.int (1 : Int32)), .val (.int c0)] [(.int (1 : Int32)), (.ref a1)])) rfl rfl (hb hby d_jdk_52_method_21_code_12) _ k) ?_
  refine own_fw (A' := (T2.setTop (mkF m 15 #[.val (.ref a1), .val (.int (1 : Int32)), .val (.ref a3), .val (.int (1 : Int32)), .val (.int (2 : Int32)), .val (.int (1 : Int32)), .val (.int c1)] []))) (fun t k => XS.istore X2.here hx rfl (hb hby d_jdk_52_method_21_code_13) rfl (l' := #[.val (.ref a1), .val (.int (1 : Int32)), .val (.ref a3), .val (.int (1 : Int32)), .val (.int (2 : Int32)), .val (.int (1 : Int32)), .val (.int c1)]) rfl k) ?_
  refine own_fw (A' := (T2.setTop (mkF m 17 #[.val (.ref a1), .val (.int (1 : Int32)), .val (.ref a3), .val (.int (1 : Int32)), .val (.int (2 : Int32)), .val (.int (1 : Int32)), .val (.int c1)] [(.int c1)]))) (fun t k => XS.iload X2.here hx rfl (hb hby d_jdk_52_method_21_code_15) rfl k) ?_
  refine own_fw (A' := (T2.setTop (mkF m 20 #[.val (.ref a1), .val (.int (1 : Int32)), .val (.ref a3), .val (.int (1 : Int32)), .val (.int (2 : Int32)), .val (.int (1 : Int32)), .val (.int c1)] [(.int (255 : Int32)), (.int c1)]))) (fun t k => XS.sipush X2.here hx rfl (hb hby d_jdk_52_method_21_code_17) k) ?_
  refine own_fw (A' := (T2.setTop (mkF m 26 #[.val (.ref a1), .val (.int (1 : Int32)), .val (.ref a3), .val (.int (1 : Int32)), .val (.int (2 : Int32)), .val (.int (1 : Int32)), .val (.int c1)] []))) (fun t k => XS.icmpYes X2.here hx rfl (pc0 := 20) (pc' := 26) rfl (hb hby d_jdk_52_method_21_code_20) rfl (XT.ii_le_t hc1) (by decide) (by decide) k) ?_
  refine own_fw (A' := (T2.setTop (mkF m 27 #[.val (.ref a1), .val (.int (1 : Int32)), .val (.ref a3), .val (.int (1 : Int32)), .val (.int (2 : Int32)), .val (.int (1 : Int32)), .val (.int c1)] [(.ref a3)]))) (fun t k => XS.aloadN X2.here hx rfl (hb hby d_jdk_52_method_21_code_26) rfl rfl k) ?_
  refine own_fw (A' := (T2.setTop (mkF m 28 #[.val (.ref a1), .val (.int (1 : Int32)), .val (.ref a3), .val (.int (1 : Int32)), .val (.int (2 : Int32)), .val (.int (1 : Int32)), .val (.int c1)] [(.int (1 : Int32)), (.ref a3)]))) (fun t k => XS.iloadN X2.here hx rfl (hb hby d_jdk_52_method_21_code_27) rfl k) ?_
  refine own_fw (A' := (T2.setTop (mkF m 30 #[.val (.ref a1), .val (.int (1 : Int32)), .val (.ref a3), .val (.int (1 : Int32)), .val (.int (2 : Int32)), .val (.int (1 : Int32)), .val (.int c1)] [(.int c1), (.int (1 : Int32)), (.ref a3)]))) (fun t k => XS.iload X2.here hx rfl (hb hby d_jdk_52_method_21_code_28) rfl k) ?_
  refine own_fw (A' := (T2.setTop (mkF m 31 #[.val (.ref a1), .val (.int (1 : Int32)), .val (.ref a3), .val (.int (1 : Int32)), .val (.int (2 : Int32)), .val (.int (1 : Int32)), .val (.int c1)] [(.int (c1.toInt8.toInt32)), (.int (1 : Int32)), (.ref a3)]))) (fun t k => XS.i2b X2.here hx rfl (hb hby d_jdk_52_method_21_code_30) rfl k) ?_
  obtain ⟨cl4, Ar4, q4, S4, M4, H4, G4⟩ := id V2
  have hin4 : ¬ ((1 : Int32) < 0 ∨ cl4.slots.size ≤ ((1 : Int32)).toNatClampNeg) := inb_of S4 ⟨by decide, by decide⟩
  obtain ⟨T4, h4, X4, e4, W4, st4⟩ := stB X2 hx hZ e2 Ar4 (j := (1 : Int32)) hin4 (g := (mkF m 31 #[.val (.ref a1), .val (.int (1 : Int32)), .val (.ref a3), .val (.int (1 : Int32)), .val (.int (2 : Int32)), .val (.int (1 : Int32)), .val (.int c1)] [(.int (c1.toInt8.toInt32)), (.int (1 : Int32)), (.ref a3)])) rfl rfl (hb hby d_jdk_52_method_21_code_31)
  rw [own_narB] at W4
  have V4 : Arv Z h4 a3 kb .byte (2 : Int32) [(.int (c0.toInt8.toInt32)), (.int (c1.toInt8.toInt32))] (.int (0 : Int32)) := Arv.set Ar4 q4 S4 M4 H4 G4 (fits_nar_byte _) W4 1 rfl (Nat.le_of_ble_eq_true rfl)
  have Nf4 := Fr.snoc X4 Nf2 g_a3
  have K4 : Keep h0 h4 [a3] := K2.wr W4 (Or.inl (List.mem_of_getElem? (i := 0) rfl))
  have Z4 : n0 ≤ h4.size := Nat.le_trans Z2 (Keep.of_wr W4).1
  refine own_fw (A' := (T4.setTop (mkF m 32 #[.val (.ref a1), .val (.int (1 : Int32)), .val (.ref a3), .val (.int (1 : Int32)), .val (.int (2 : Int32)), .val (.int (1 : Int32)), .val (.int c1)] []))) (fun t k => st4 _ k) ?_
  refine own_fw (A' := (T4.setTop (mkF m 35 #[.val (.ref a1), .val (.int (2 : Int32)), .val (.ref a3), .val (.int (1 : Int32)), .val (.int (2 : Int32)), .val (.int (1 : Int32)), .val (.int c1)] []))) (fun t k => XS.iinc X4.here hx rfl (hb hby d_jdk_52_method_21_code_32) rfl (l' := #[.val (.ref a1), .val (.int (2 : Int32)), .val (.ref a3), .val (.int (1 : Int32)), .val (.int (2 : Int32)), .val (.int (1 : Int32)), .val (.int c1)]) rfl k) ?_
  refine own_fw (A' := (T4.setTop (mkF m 38 #[.val (.ref a1), .val (.int (2 : Int32)), .val (.ref a3), .val (.int (2 : Int32)), .val (.int (2 : Int32)), .val (.int (1 : Int32)), .val (.int c1)] []))) (fun t k => XS.iinc X4.here hx rfl (hb hby d_jdk_52_method_21_code_35) rfl (l' := #[.val (.ref a1), .val (.int (2 : Int32)), .val (.ref a3), .val (.int (2 : Int32)), .val (.int (2 : Int32)), .val (.int (1 : Int32)), .val (.int c1)]) rfl k) ?_
  refine own_fw (A' := (T4.setTop (mkF m 41 #[.val (.ref a1), .val (.int (2 : Int32)), .val (.ref a3), .val (.int (2 : Int32)), .val (.int (2 : Int32)), .val (.int (2 : Int32)), .val (.int c1)] []))) (fun t k => XS.iinc X4.here hx rfl (hb hby d_jdk_52_method_21_code_38) rfl (l' := #[.val (.ref a1), .val (.int (2 : Int32)), .val (.ref a3), .val (.int (2 : Int32)), .val (.int (2 : Int32)), .val (.int (2 : Int32)), .val (.int c1)]) rfl k) ?_
  refine own_fw (A' := (T4.setTop (mkF m 3 #[.val (.ref a1), .val (.int (2 : Int32)), .val (.ref a3), .val (.int (2 : Int32)), .val (.int (2 : Int32)), .val (.int (2 : Int32)), .val (.int c1)] []))) (fun t k => XS.goto X4.here hx rfl (pc0 := 41) (pc' := 3) rfl (hb hby d_jdk_52_method_21_code_41) (by decide) (by decide) k) ?_
  refine own_fw (A' := (T4.setTop (mkF m 5 #[.val (.ref a1), .val (.int (2 : Int32)), .val (.ref a3), .val (.int (2 : Int32)), .val (.int (2 : Int32)), .val (.int (2 : Int32)), .val (.int c1)] [(.int (2 : Int32))]))) (fun t k => XS.iload X4.here hx rfl (hb hby d_jdk_52_method_21_code_3) rfl k) ?_
  refine own_fw (A' := (T4.setTop (mkF m 7 #[.val (.ref a1), .val (.int (2 : Int32)), .val (.ref a3), .val (.int (2 : Int32)), .val (.int (2 : Int32)), .val (.int (2 : Int32)), .val (.int c1)] [(.int (2 : Int32)), (.int (2 : Int32))]))) (fun t k => XS.iload X4.here hx rfl (hb hby d_jdk_52_method_21_code_5) rfl k) ?_
  refine own_fw (A' := (T4.setTop (mkF m 44 #[.val (.ref a1), .val (.int (2 : Int32)), .val (.ref a3), .val (.int (2 : Int32)), .val (.int (2 : Int32)), .val (.int (2 : Int32)), .val (.int c1)] []))) (fun t k => XS.icmpYes X4.here hx rfl (pc0 := 7) (pc' := 44) rfl (hb hby d_jdk_52_method_21_code_7) rfl (XT.ii_ge_t (by decide)) (by decide) (by decide) k) ?_
  refine own_fw (A' := (T4.setTop (mkF m 46 #[.val (.ref a1), .val (.int (2 : Int32)), .val (.ref a3), .val (.int (2 : Int32)), .val (.int (2 : Int32)), .val (.int (2 : Int32)), .val (.int c1)] [(.int (2 : Int32))]))) (fun t k => XS.iload X4.here hx rfl (hb hby d_jdk_52_method_21_code_44) rfl k) ?_
  obtain ⟨fs, hr, hrun, hended, hW, hsame⟩ := X4.leave (v := some (.int (2 : Int32))) (fun h => by rw [Bd.returns] at h; cases h)
  refine ⟨_, _, ?_, hrun, hended, _, _, rfl, ?_, ⟨_, rfl⟩, hW, hsame.mono (by decide) (by decide)⟩
  · exact retOut X4 hx Bd.returns rfl (Or.inl ⟨rfl, by simp, _, rfl⟩) (hb hby d_jdk_52_method_21_code_46) hr
  · show Q_rmCmpA2 Z a1 a3 kc kb c0 c1 h0 n0 _ T4.heap _
    rw [e4]
    exact ⟨rfl, Nf4, K4, V4⟩
theorem ef_rmCmpB2 (m : MethodId) (a1 : Addr) : entryFrame m #[(.ref a1), (.int (0 : Int32)), (.int (2 : Int32))] 6 = mkF m 0 #[.val (.ref a1), .val (.int (0 : Int32)), .val (.int (2 : Int32)), .unset, .unset, .unset] [] := by first | (simp [entryFrame, mkF, argsToLocals, Value.category]; done) | rfl
def Q_rmCmpB2 (Z : State) (a1 : Addr) (kc : ClassId) (c0 : Int32) (c1 : Int32) (h0 : Heap) (n0 : Nat) (v : Option Value) (h : Heap) (L : List Loc) : Prop := ∃ b : Addr, ∃ kb : ClassId, v = some (.ref b) ∧ Fr n0 L ∧ Keep h0 h [] ∧ Arv Z h b kb .byte (2 : Int32) [(.int (c0.toInt8.toInt32)), (.int (c1.toInt8.toInt32))] (.int (0 : Int32)) ∧ (h0.size ≤ b)
set_option maxRecDepth 65536 in
set_option maxHeartbeats 40000000 in
theorem rmCmpB2 (l : Launch) (Z : State) (a0 : Array Value) (hw : ∀ d ∈ tables_1, d.before a0 Z = true) (ws : List Jvm.Cond) (a1 : Addr) (kc : ClassId) (c0 : Int32) (c1 : Int32) (h0 : Heap) (n0 : Nat) (Z0 : n0 ≤ h0.size) (P0 : Arv Z h0 a1 kc .char (2 : Int32) [(.int c0), (.int c1)] (.int (0 : Int32))) (hc0 : ¬ ((255 : Int32) < c0)) (hc1 : ¬ ((255 : Int32) < c1)) :
    MetFree l (⟨"java/lang/StringUTF16", "compress", "([CII)[B"⟩ : MethodName) (head1 (Jvm.Cond.code (⟨"java/lang/StringUTF16", "compress", "([CII)[B"⟩ : MethodName) jdk_52_method_16_code 6 (some (.array .byte)) :: ws) ({ frames := 1, cells := 1, slots := 2, locals := 18 } : Room)) (fun a U => a = #[(.ref a1), (.int (0 : Int32)), (.int (2 : Int32))] ∧ Z.Warmed39 U.vm ∧ U.heap = h0) (fun _ _ _ _ _ => True) (fun _ U o U' => ∃ v L, o = .returned v ∧ Q_rmCmpB2 Z a1 kc c0 c1 h0 n0 v U'.heap L ∧ FrameEnd U o U' L ({ frames := 1, cells := 1, slots := 2, locals := 18 } : Room).cells ({ frames := 1, cells := 1, slots := 2, locals := 18 } : Room).slots) := by
  refine MetFree.of_bodySF (plainFor_of_name pn_java_lang_StringUTF16) hisR ?_
  intro p e s m args below meth c s₁ Bd hml0 hP hK
  obtain ⟨rfl, hZ, hh⟩ := hP
  have hx := Bd.exec
  have hby := Bd.bytes
  have hml : c.maxLocals = 6 := hml0
  have hown : s.vm.findClass "java/lang/StringUTF16" = some m.cls := findClass_of_methodNamed Bd.named
  have hnm := (name_of_methodNamed Bd.named Bd.method).1
  have X0 : Stand p l e ({ frames := 1, cells := 1, slots := 2, locals := 18 } : Room) s m #[(.ref a1), (.int (0 : Int32)), (.int (2 : Int32))] below meth c s₁ [] 0 0 := Stand.of_body Bd
  have e0 : s₁.heap = h0 := by rw [← hh, Bd.state]; rfl
  have N0 := Fr.nil n0
  refine own_fw (A' := (s₁.setTop (mkF m 0 #[.val (.ref a1), .val (.int (0 : Int32)), .val (.int (2 : Int32)), .unset, .unset, .unset] []))) (fun t k => castTop (ef_rmCmpB2 m a1) k) ?_
  refine own_fw (A' := (s₁.setTop (mkF m 1 #[.val (.ref a1), .val (.int (0 : Int32)), .val (.int (2 : Int32)), .unset, .unset, .unset] [(.int (2 : Int32))]))) (fun t k => XS.iloadN X0.here hx rfl (hb hby d_jdk_52_method_16_code_0) rfl k) ?_
  obtain ⟨T1, h1, k1, X1, e1, E1, A1, st1⟩ := newP X0 hx hZ (hw _ (List.mem_of_getElem? (i := 25) rfl)) e0 (g := (mkF m 1 #[.val (.ref a1), .val (.int (0 : Int32)), .val (.int (2 : Int32)), .unset, .unset, .unset] [(.int (2 : Int32))])) rfl (hb hby d_jdk_52_method_16_code_1) rfl (by decide) (cap := 2) (by decide) (by decide) (by decide) (by decide)
  obtain ⟨b1, gb1⟩ : ∃ z, z = h0.size := ⟨_, rfl⟩
  have g_b1 : n0 ≤ b1 := Nat.le_trans Z0 (Nat.le_of_eq gb1.symm)
  have sz_b1 : h0.size ≤ b1 := Nat.le_trans (Keep.refl h0 []).1 (Nat.le_of_eq gb1.symm)
  have ne_a1_b1 : a1 ≠ b1 := Nat.ne_of_lt (Nat.lt_of_lt_of_le P0.lt (Nat.le_of_eq gb1.symm))
  rw [← gb1] at A1 st1
  have V_b1 : Arv Z h1 b1 k1 .byte (2 : Int32) [(.int (0 : Int32)), (.int (0 : Int32))] (.int (0 : Int32)) := (Arv.new A1 (by decide)).pad (pad_rep [] (.int (0 : Int32)) 2)
  have K1 : Keep h0 h1 [] := (Keep.refl h0 []).ext E1
  have Z1 : n0 ≤ h1.size := Nat.le_trans Z0 E1.1
  refine own_fw (A' := (T1.setTop (mkF m 3 #[.val (.ref a1), .val (.int (0 : Int32)), .val (.int (2 : Int32)), .unset, .unset, .unset] [(.ref b1)]))) (fun t k => st1 _ k) ?_
  refine own_fw (A' := (T1.setTop (mkF m 4 #[.val (.ref a1), .val (.int (0 : Int32)), .val (.int (2 : Int32)), .val (.ref b1), .unset, .unset] []))) (fun t k => XS.astoreN X1.here hx rfl (hb hby d_jdk_52_method_16_code_3) rfl rfl (l' := #[.val (.ref a1), .val (.int (0 : Int32)), .val (.int (2 : Int32)), .val (.ref b1), .unset, .unset]) rfl k) ?_
  refine own_fw (A' := (T1.setTop (mkF m 5 #[.val (.ref a1), .val (.int (0 : Int32)), .val (.int (2 : Int32)), .val (.ref b1), .unset, .unset] [(.ref a1)]))) (fun t k => XS.aloadN X1.here hx rfl (hb hby d_jdk_52_method_16_code_4) rfl rfl k) ?_
  refine own_fw (A' := (T1.setTop (mkF m 6 #[.val (.ref a1), .val (.int (0 : Int32)), .val (.int (2 : Int32)), .val (.ref b1), .unset, .unset] [(.int (0 : Int32)), (.ref a1)]))) (fun t k => XS.iloadN X1.here hx rfl (hb hby d_jdk_52_method_16_code_5) rfl k) ?_
  refine own_fw (A' := (T1.setTop (mkF m 7 #[.val (.ref a1), .val (.int (0 : Int32)), .val (.int (2 : Int32)), .val (.ref b1), .unset, .unset] [(.ref b1), (.int (0 : Int32)), (.ref a1)]))) (fun t k => XS.aloadN X1.here hx rfl (hb hby d_jdk_52_method_16_code_6) rfl rfl k) ?_
  refine own_fw (A' := (T1.setTop (mkF m 8 #[.val (.ref a1), .val (.int (0 : Int32)), .val (.int (2 : Int32)), .val (.ref b1), .unset, .unset] [(.int (0 : Int32)), (.ref b1), (.int (0 : Int32)), (.ref a1)]))) (fun t k => XS.iconst X1.here hx rfl (hb hby d_jdk_52_method_16_code_7) k) ?_
  refine own_fw (A' := (T1.setTop (mkF m 9 #[.val (.ref a1), .val (.int (0 : Int32)), .val (.int (2 : Int32)), .val (.ref b1), .unset, .unset] [(.int (2 : Int32)), (.int (0 : Int32)), (.ref b1), (.int (0 : Int32)), (.ref a1)]))) (fun t k => XS.iloadN X1.here hx rfl (hb hby d_jdk_52_method_16_code_8) rfl k) ?_
  obtain ⟨_, _, ⟨T2, L2, k2, n2⟩, -, X2, ⟨Lc2, hQ2, l2, y2, z2⟩, st2⟩ := Jvm.LawKit.callS X1 hx (y := (⟨"java/lang/StringUTF16", "compress", "([CI[BII)I"⟩ : MethodName)) hown (mvT hZ (hw _ (List.mem_of_getElem? (i := 37) rfl))) (mvT hZ (hw _ (List.mem_of_getElem? (i := 38) rfl))) (mvT hZ (hw _ (List.mem_of_getElem? (i := 35) rfl))) (mvT hZ (hw _ (List.mem_of_getElem? (i := 39) rfl))) (by decide) (backOf (W := 0) (rmCmpA2 l Z a0 hw [] a1 b1 kc k1 c0 c1 h1 n0 Z1 (P0.ext E1) V_b1 g_b1 ne_a1_b1 hc0 hc1) hZ (hw _ (List.mem_of_getElem? (i := 39) rfl)) (hw _ (List.mem_of_getElem? (i := 35) rfl)) (by decide) (by decide)) (g := (mkF m 9 #[.val (.ref a1), .val (.int (0 : Int32)), .val (.int (2 : Int32)), .val (.ref b1), .unset, .unset] [(.int (2 : Int32)), (.int (0 : Int32)), (.ref b1), (.int (0 : Int32)), (.ref a1)])) rfl (by rw [hml]; rfl) (argsL := [(.ref a1), (.int (0 : Int32)), (.ref b1), (.int (0 : Int32)), (.int (2 : Int32))]) (rest := []) (lenOf pd___CI_BII_I rfl) rfl (by show 2 * 0 + _ ≤ _; exact Nat.le_of_eq rfl) (hb hby d_jdk_52_method_16_code_9) (fun _ _ => ⟨rfl, e1, (by decide : 1 + 0 ≤ _), (by decide : 2 + 0 ≤ _)⟩)
  dsimp only [Pt.U, Pt.locs, Pt.cells, Pt.slots] at X2 l2 y2 z2 st2 hQ2
  subst l2 y2 z2
  obtain ⟨rfl, Nq2, Kq2, Fq2_0⟩ := hQ2
  have Nf2 := Fr.app N0 Nq2
  have K2 : Keep h0 T2.heap [] := K1.trans Kq2 (allS (Or.inr sz_b1) all0)
  have Z2 : n0 ≤ T2.heap.size := Nat.le_trans Z1 Kq2.1
  refine own_fw (A' := (T2.setTop (mkF m 12 #[.val (.ref a1), .val (.int (0 : Int32)), .val (.int (2 : Int32)), .val (.ref b1), .unset, .unset] [(.int (2 : Int32))]))) (fun t k => st2 _ k) ?_
  refine own_fw (A' := (T2.setTop (mkF m 14 #[.val (.ref a1), .val (.int (0 : Int32)), .val (.int (2 : Int32)), .val (.ref b1), .val (.int (2 : Int32)), .unset] []))) (fun t k => XS.istore X2.here hx rfl (hb hby d_jdk_52_method_16_code_12) rfl (l' := #[.val (.ref a1), .val (.int (0 : Int32)), .val (.int (2 : Int32)), .val (.ref b1), .val (.int (2 : Int32)), .unset]) rfl k) ?_
  refine own_fw (A' := (T2.setTop (mkF m 16 #[.val (.ref a1), .val (.int (0 : Int32)), .val (.int (2 : Int32)), .val (.ref b1), .val (.int (2 : Int32)), .unset] [(.int (2 : Int32))]))) (fun t k => XS.iload X2.here hx rfl (hb hby d_jdk_52_method_16_code_14) rfl k) ?_
  refine own_fw (A' := (T2.setTop (mkF m 17 #[.val (.ref a1), .val (.int (0 : Int32)), .val (.int (2 : Int32)), .val (.ref b1), .val (.int (2 : Int32)), .unset] [(.int (2 : Int32)), (.int (2 : Int32))]))) (fun t k => XS.iloadN X2.here hx rfl (hb hby d_jdk_52_method_16_code_16) rfl k) ?_
  refine own_fw (A' := (T2.setTop (mkF m 57 #[.val (.ref a1), .val (.int (0 : Int32)), .val (.int (2 : Int32)), .val (.ref b1), .val (.int (2 : Int32)), .unset] []))) (fun t k => XS.icmpYes X2.here hx rfl (pc0 := 17) (pc' := 57) rfl (hb hby d_jdk_52_method_16_code_17) rfl (XT.ii_eq_t rfl) (by decide) (by decide) k) ?_
  refine own_fw (A' := (T2.setTop (mkF m 58 #[.val (.ref a1), .val (.int (0 : Int32)), .val (.int (2 : Int32)), .val (.ref b1), .val (.int (2 : Int32)), .unset] [(.ref b1)]))) (fun t k => XS.aloadN X2.here hx rfl (hb hby d_jdk_52_method_16_code_57) rfl rfl k) ?_
  obtain ⟨fs, hr, hrun, hended, hW, hsame⟩ := X2.leave (v := some (.ref b1)) (fun h => by rw [Bd.returns] at h; cases h)
  refine ⟨_, _, ?_, hrun, hended, _, _, rfl, ?_, ⟨_, rfl⟩, hW, hsame.mono (by decide) (by decide)⟩
  · exact retOut X2 hx Bd.returns rfl (Or.inr (Or.inr (Or.inr (Or.inr ⟨rfl, rfl, rfl⟩)))) (hb hby d_jdk_52_method_16_code_58) hr
  · show Q_rmCmpB2 Z a1 kc c0 c1 h0 n0 _ T2.heap _
    exact ⟨b1, k1, rfl, Nf2, K2, Fq2_0, sz_b1⟩
theorem ef_rmCoder2 (m : MethodId) (a1 : Addr) : entryFrame m #[(.ref a1), (.int (2 : Int32))] 2 = mkF m 0 #[.val (.ref a1), .val (.int (2 : Int32))] [] := by first | (simp [entryFrame, mkF, argsToLocals, Value.category]; done) | rfl
def Q_rmCoder2 (Z : State) (a1 : Addr) (kb : ClassId) (c0 : Int32) (c1 : Int32) (h0 : Heap) (n0 : Nat) (v : Option Value) (h : Heap) (L : List Loc) : Prop := v = some (.int (0 : Int32)) ∧ Fr n0 L ∧ h = h0
set_option maxRecDepth 65536 in
set_option maxHeartbeats 40000000 in
theorem rmCoder2 (l : Launch) (Z : State) (a0 : Array Value) (hw : ∀ d ∈ tables_1, d.before a0 Z = true) (ws : List Jvm.Cond) (a1 : Addr) (kb : ClassId) (c0 : Int32) (c1 : Int32) (h0 : Heap) (n0 : Nat) (Z0 : n0 ≤ h0.size) (P0 : Arv Z h0 a1 kb .byte (2 : Int32) [(.int c0), (.int c1)] (.int (0 : Int32))) :
    MetFree l (⟨"java/lang/StringUTF16", "coderFromArrayLen", "([BI)B"⟩ : MethodName) (head1 (Jvm.Cond.code (⟨"java/lang/StringUTF16", "coderFromArrayLen", "([BI)B"⟩ : MethodName) jdk_52_method_15_code 2 (some .byte) :: ws) ({ frames := 0, cells := 0, slots := 0, locals := 0 } : Room)) (fun a U => a = #[(.ref a1), (.int (2 : Int32))] ∧ Z.Warmed39 U.vm ∧ U.heap = h0) (fun _ _ _ _ _ => True) (fun _ U o U' => ∃ v L, o = .returned v ∧ Q_rmCoder2 Z a1 kb c0 c1 h0 n0 v U'.heap L ∧ FrameEnd U o U' L ({ frames := 0, cells := 0, slots := 0, locals := 0 } : Room).cells ({ frames := 0, cells := 0, slots := 0, locals := 0 } : Room).slots) := by
  refine MetFree.of_bodySF (plainFor_of_name pn_java_lang_StringUTF16) hisR ?_
  intro p e s m args below meth c s₁ Bd hml0 hP hK
  obtain ⟨rfl, hZ, hh⟩ := hP
  have hx := Bd.exec
  have hby := Bd.bytes
  have hml : c.maxLocals = 2 := hml0
  have hown : s.vm.findClass "java/lang/StringUTF16" = some m.cls := findClass_of_methodNamed Bd.named
  have hnm := (name_of_methodNamed Bd.named Bd.method).1
  have X0 : Stand p l e ({ frames := 0, cells := 0, slots := 0, locals := 0 } : Room) s m #[(.ref a1), (.int (2 : Int32))] below meth c s₁ [] 0 0 := Stand.of_body Bd
  have e0 : s₁.heap = h0 := by rw [← hh, Bd.state]; rfl
  have N0 := Fr.nil n0
  refine own_fw (A' := (s₁.setTop (mkF m 0 #[.val (.ref a1), .val (.int (2 : Int32))] []))) (fun t k => castTop (ef_rmCoder2 m a1) k) ?_
  refine own_fw (A' := (s₁.setTop (mkF m 1 #[.val (.ref a1), .val (.int (2 : Int32))] [(.int (2 : Int32))]))) (fun t k => XS.iloadN X0.here hx rfl (hb hby d_jdk_52_method_15_code_0) rfl k) ?_
  refine own_fw (A' := (s₁.setTop (mkF m 2 #[.val (.ref a1), .val (.int (2 : Int32))] [(.ref a1), (.int (2 : Int32))]))) (fun t k => XS.aloadN X0.here hx rfl (hb hby d_jdk_52_method_15_code_1) rfl rfl k) ?_
  obtain ⟨cl1, Ar1, q1, S1, M1, H1, G1⟩ := id P0
  refine own_fw (A' := (s₁.setTop (mkF m 3 #[.val (.ref a1), .val (.int (2 : Int32))] [(.int (2 : Int32)), (.int (2 : Int32))]))) (fun t k => X0.arraylength hx (by rw [e0]; exact Ar1.1) (State.isArrayOf_alike hZ.alike Ar1.2.1) (g := (mkF m 2 #[.val (.ref a1), .val (.int (2 : Int32))] [(.ref a1), (.int (2 : Int32))])) rfl rfl (hb hby d_jdk_52_method_15_code_2) _ (by rw [len_of S1 M1]; exact k)) ?_
  refine own_fw (A' := (s₁.setTop (mkF m 4 #[.val (.ref a1), .val (.int (2 : Int32))] [(.int (0 : Int32))]))) (fun t k => XS.isub X0.here hx rfl (hb hby d_jdk_52_method_15_code_3) rfl k) ?_
  refine own_fw (A' := (s₁.setTop (mkF m 6 #[.val (.ref a1), .val (.int (2 : Int32))] [(.int (31 : Int32)), (.int (0 : Int32))]))) (fun t k => XS.bipush X0.here hx rfl (hb hby d_jdk_52_method_15_code_4) k) ?_
  refine own_fw (A' := (s₁.setTop (mkF m 7 #[.val (.ref a1), .val (.int (2 : Int32))] [(.int (0 : Int32))]))) (fun t k => XS.iushr X0.here hx rfl (hb hby d_jdk_52_method_15_code_6) rfl k) ?_
  refine own_fw (A' := (s₁.setTop (mkF m 8 #[.val (.ref a1), .val (.int (2 : Int32))] [(.int (0 : Int32))]))) (fun t k => XS.i2b X0.here hx rfl (hb hby d_jdk_52_method_15_code_7) rfl k) ?_
  obtain ⟨fs, hr, hrun, hended, hW, hsame⟩ := X0.leave (v := some (.int (0 : Int32))) (fun h => by rw [Bd.returns] at h; cases h)
  refine ⟨_, _, ?_, hrun, hended, _, _, rfl, ?_, ⟨_, rfl⟩, hW, hsame.mono (by decide) (by decide)⟩
  · exact retOut X0 hx Bd.returns rfl (Or.inl ⟨rfl, by simp, _, rfl⟩) (hb hby d_jdk_52_method_15_code_8) hr
  · show Q_rmCoder2 Z a1 kb c0 c1 h0 n0 _ s₁.heap _
    rw [e0]
    exact ⟨rfl, N0, rfl⟩
theorem ef_rmStrB2 (m : MethodId) (a1 : Addr) (a2 : Addr) : entryFrame m #[(.ref a1), (.ref a2), (.int (0 : Int32)), (.int (2 : Int32)), .null] 6 = mkF m 0 #[.val (.ref a1), .val (.ref a2), .val (.int (0 : Int32)), .val (.int (2 : Int32)), .val .null, .unset] [] := by first | (simp [entryFrame, mkF, argsToLocals, Value.category]; done) | rfl
def Q_rmStrB2 (Z : State) (a1 : Addr) (a2 : Addr) (kc : ClassId) (cs : Int32) (c0 : Int32) (c1 : Int32) (h0 : Heap) (n0 : Nat) (v : Option Value) (h : Heap) (L : List Loc) : Prop := ∃ b : Addr, ∃ kb : ClassId, v = none ∧ Fr n0 L ∧ Keep h0 h [a1] ∧ Exa Z h a1 "java/lang/String" ∧ Fld Z h a1 "java/lang/String" "coder" "B" (.int (0 : Int32)) ∧ Fld Z h a1 "java/lang/String" "value" "[B" (.ref b) ∧ Arv Z h b kb .byte (2 : Int32) [(.int (c0.toInt8.toInt32)), (.int (c1.toInt8.toInt32))] (.int (0 : Int32))
set_option maxRecDepth 65536 in
set_option maxHeartbeats 40000000 in
theorem rmStrB2 (l : Launch) (Z : State) (a0 : Array Value) (hw : ∀ d ∈ tables_1, d.before a0 Z = true) (ws : List Jvm.Cond) (a1 : Addr) (a2 : Addr) (kc : ClassId) (cs : Int32) (c0 : Int32) (c1 : Int32) (h0 : Heap) (n0 : Nat) (Z0 : n0 ≤ h0.size) (P0 : Exa Z h0 a1 "java/lang/String") (P1 : Fld Z h0 a1 "java/lang/String" "coder" "B" (.int (0 : Int32))) (P2 : Fld Z h0 a1 "java/lang/String" "value" "[B" .null) (P3 : Arv Z h0 a2 kc .char (2 : Int32) [(.int c0), (.int c1)] (.int (0 : Int32))) (g_a1 : n0 ≤ a1) (ne_a1_a2 : a1 ≠ a2) (P6 : Sta Z h0 "java/lang/String" "COMPACT_STRINGS" "Z" (.int cs)) (hcs : ¬ (cs = (0 : Int32))) (hc0 : ¬ ((255 : Int32) < c0)) (hc1 : ¬ ((255 : Int32) < c1)) :
    MetFree l (⟨"java/lang/String", "<init>", "([CIILjava/lang/Void;)V"⟩ : MethodName) (head1 (Jvm.Cond.code (⟨"java/lang/String", "<init>", "([CIILjava/lang/Void;)V"⟩ : MethodName) jdk_42_method_149_code 6 none :: ws) ({ frames := 2, cells := 1, slots := 2, locals := 35 } : Room)) (fun a U => a = #[(.ref a1), (.ref a2), (.int (0 : Int32)), (.int (2 : Int32)), .null] ∧ Z.Warmed39 U.vm ∧ U.heap = h0) (fun _ _ _ _ _ => True) (fun _ U o U' => ∃ v L, o = .returned v ∧ Q_rmStrB2 Z a1 a2 kc cs c0 c1 h0 n0 v U'.heap L ∧ FrameEnd U o U' L ({ frames := 2, cells := 1, slots := 2, locals := 35 } : Room).cells ({ frames := 2, cells := 1, slots := 2, locals := 35 } : Room).slots) := by
  refine MetFree.of_bodySF (plainFor_of_name pn_java_lang_String) hisR ?_
  intro p e s m args below meth c s₁ Bd hml0 hP hK
  obtain ⟨rfl, hZ, hh⟩ := hP
  have hx := Bd.exec
  have hby := Bd.bytes
  have hml : c.maxLocals = 6 := hml0
  have hown : s.vm.findClass "java/lang/String" = some m.cls := findClass_of_methodNamed Bd.named
  have hnm := (name_of_methodNamed Bd.named Bd.method).1
  have X0 : Stand p l e ({ frames := 2, cells := 1, slots := 2, locals := 35 } : Room) s m #[(.ref a1), (.ref a2), (.int (0 : Int32)), (.int (2 : Int32)), .null] below meth c s₁ [] 0 0 := Stand.of_body Bd
  have e0 : s₁.heap = h0 := by rw [← hh, Bd.state]; rfl
  have N0 := Fr.nil n0
  refine own_fw (A' := (s₁.setTop (mkF m 0 #[.val (.ref a1), .val (.ref a2), .val (.int (0 : Int32)), .val (.int (2 : Int32)), .val .null, .unset] []))) (fun t k => castTop (ef_rmStrB2 m a1 a2) k) ?_
  refine own_fw (A' := (s₁.setTop (mkF m 1 #[.val (.ref a1), .val (.ref a2), .val (.int (0 : Int32)), .val (.int (2 : Int32)), .val .null, .unset] [(.ref a1)]))) (fun t k => XS.aloadN X0.here hx rfl (hb hby d_jdk_42_method_149_code_0) rfl rfl k) ?_
  obtain ⟨T1, X1, e1, st1⟩ := initO X0 hx hZ hown (hw _ (List.mem_of_getElem? (i := 21) rfl)) (hw _ (List.mem_of_getElem? (i := 22) rfl)) (hw _ (List.mem_of_getElem? (i := 23) rfl)) e0 (g := (mkF m 1 #[.val (.ref a1), .val (.ref a2), .val (.int (0 : Int32)), .val (.int (2 : Int32)), .val .null, .unset] [(.ref a1)])) rfl (by rw [hml]; rfl) rfl (hb hby d_jdk_42_method_149_code_1) (by decide) (W := 0) (by show 2 * 0 + _ ≤ _; exact Nat.le_of_eq rfl) (by decide)
  refine own_fw (A' := (T1.setTop (mkF m 4 #[.val (.ref a1), .val (.ref a2), .val (.int (0 : Int32)), .val (.int (2 : Int32)), .val .null, .unset] []))) (fun t k => st1 _ k) ?_
  refine own_fw (A' := (T1.setTop (mkF m 5 #[.val (.ref a1), .val (.ref a2), .val (.int (0 : Int32)), .val (.int (2 : Int32)), .val .null, .unset] [(.int (2 : Int32))]))) (fun t k => XS.iloadN X1.here hx rfl (hb hby d_jdk_42_method_149_code_4) rfl k) ?_
  refine own_fw (A' := (T1.setTop (mkF m 27 #[.val (.ref a1), .val (.ref a2), .val (.int (0 : Int32)), .val (.int (2 : Int32)), .val .null, .unset] []))) (fun t k => XS.ifYes X1.here hx rfl (pc0 := 5) (pc' := 27) rfl (hb hby d_jdk_42_method_149_code_5) rfl (XT.i0_ne_t (by decide)) (by decide) (by decide) k) ?_
  obtain ⟨T2, X2, e2, st2⟩ := getS2 X1 hx hZ hown (host := "") (Or.inl (hw _ (List.mem_of_getElem? (i := 32) rfl))) Via.refl e1 P6 (g := (mkF m 27 #[.val (.ref a1), .val (.ref a2), .val (.int (0 : Int32)), .val (.int (2 : Int32)), .val .null, .unset] [])) rfl (hb hby d_jdk_42_method_149_code_27)
  refine own_fw (A' := (T2.setTop (mkF m 30 #[.val (.ref a1), .val (.ref a2), .val (.int (0 : Int32)), .val (.int (2 : Int32)), .val .null, .unset] [(.int cs)]))) (fun t k => st2 _ k) ?_
  refine own_fw (A' := (T2.setTop (mkF m 33 #[.val (.ref a1), .val (.ref a2), .val (.int (0 : Int32)), .val (.int (2 : Int32)), .val .null, .unset] []))) (fun t k => XS.ifNo X2.here hx rfl (hb hby d_jdk_42_method_149_code_30) rfl (XT.i0_eq_f hcs) k) ?_
  refine own_fw (A' := (T2.setTop (mkF m 34 #[.val (.ref a1), .val (.ref a2), .val (.int (0 : Int32)), .val (.int (2 : Int32)), .val .null, .unset] [(.ref a2)]))) (fun t k => XS.aloadN X2.here hx rfl (hb hby d_jdk_42_method_149_code_33) rfl rfl k) ?_
  refine own_fw (A' := (T2.setTop (mkF m 35 #[.val (.ref a1), .val (.ref a2), .val (.int (0 : Int32)), .val (.int (2 : Int32)), .val .null, .unset] [(.int (0 : Int32)), (.ref a2)]))) (fun t k => XS.iloadN X2.here hx rfl (hb hby d_jdk_42_method_149_code_34) rfl k) ?_
  refine own_fw (A' := (T2.setTop (mkF m 36 #[.val (.ref a1), .val (.ref a2), .val (.int (0 : Int32)), .val (.int (2 : Int32)), .val .null, .unset] [(.int (2 : Int32)), (.int (0 : Int32)), (.ref a2)]))) (fun t k => XS.iloadN X2.here hx rfl (hb hby d_jdk_42_method_149_code_35) rfl k) ?_
  obtain ⟨_, _, ⟨T3, L3, k3, n3⟩, -, X3, ⟨Lc3, hQ3, l3, y3, z3⟩, st3⟩ := Jvm.LawKit.callS X2 hx (y := (⟨"java/lang/StringUTF16", "compress", "([CII)[B"⟩ : MethodName)) hown (mvT hZ (hw _ (List.mem_of_getElem? (i := 33) rfl))) (mvT hZ (hw _ (List.mem_of_getElem? (i := 34) rfl))) (mvT hZ (hw _ (List.mem_of_getElem? (i := 35) rfl))) (mvT hZ (hw _ (List.mem_of_getElem? (i := 36) rfl))) (by decide) (backOf (W := 0) (rmCmpB2 l Z a0 hw [] a2 kc c0 c1 h0 n0 Z0 P3 hc0 hc1) hZ (hw _ (List.mem_of_getElem? (i := 36) rfl)) (hw _ (List.mem_of_getElem? (i := 35) rfl)) (by decide) (by decide)) (g := (mkF m 36 #[.val (.ref a1), .val (.ref a2), .val (.int (0 : Int32)), .val (.int (2 : Int32)), .val .null, .unset] [(.int (2 : Int32)), (.int (0 : Int32)), (.ref a2)])) rfl (by rw [hml]; rfl) (argsL := [(.ref a2), (.int (0 : Int32)), (.int (2 : Int32))]) (rest := []) (lenOf pd___CII__B rfl) rfl (by show 2 * 0 + _ ≤ _; exact Nat.le_of_eq rfl) (hb hby d_jdk_42_method_149_code_36) (fun _ _ => ⟨rfl, e2, (by decide : 0 + 1 ≤ _), (by decide : 0 + 2 ≤ _)⟩)
  dsimp only [Pt.U, Pt.locs, Pt.cells, Pt.slots] at X3 l3 y3 z3 st3 hQ3
  subst l3 y3 z3
  obtain ⟨b_3, kb_3, rfl, Nq3, Kq3, Fq3_0, gb_3⟩ := hQ3
  have Nf3 := Fr.app N0 Nq3
  have K3 : Keep h0 T3.heap [a1] := (Keep.refl h0 [a1]).trans Kq3 all0
  have sz_b_3 : h0.size ≤ b_3 := Nat.le_trans (Keep.refl h0 [a1]).1 gb_3
  have g_b_3 : n0 ≤ b_3 := Nat.le_trans Z0 gb_3
  have ne_a1_b_3 : a1 ≠ b_3 := Nat.ne_of_lt (Nat.lt_of_lt_of_le P0.lt gb_3)
  have ne_a2_b_3 : a2 ≠ b_3 := Nat.ne_of_lt (Nat.lt_of_lt_of_le P3.lt gb_3)
  have Z3 : n0 ≤ T3.heap.size := Nat.le_trans Z0 Kq3.1
  refine own_fw (A' := (T3.setTop (mkF m 39 #[.val (.ref a1), .val (.ref a2), .val (.int (0 : Int32)), .val (.int (2 : Int32)), .val .null, .unset] [(.ref b_3)]))) (fun t k => st3 _ k) ?_
  refine own_fw (A' := (T3.setTop (mkF m 41 #[.val (.ref a1), .val (.ref a2), .val (.int (0 : Int32)), .val (.int (2 : Int32)), .val .null, .val (.ref b_3)] []))) (fun t k => XS.astore X3.here hx rfl (hb hby d_jdk_42_method_149_code_39) rfl rfl (l' := #[.val (.ref a1), .val (.ref a2), .val (.int (0 : Int32)), .val (.int (2 : Int32)), .val .null, .val (.ref b_3)]) rfl k) ?_
  refine own_fw (A' := (T3.setTop (mkF m 42 #[.val (.ref a1), .val (.ref a2), .val (.int (0 : Int32)), .val (.int (2 : Int32)), .val .null, .val (.ref b_3)] [(.ref a1)]))) (fun t k => XS.aloadN X3.here hx rfl (hb hby d_jdk_42_method_149_code_41) rfl rfl k) ?_
  refine own_fw (A' := (T3.setTop (mkF m 44 #[.val (.ref a1), .val (.ref a2), .val (.int (0 : Int32)), .val (.int (2 : Int32)), .val .null, .val (.ref b_3)] [(.ref b_3), (.ref a1)]))) (fun t k => XS.aload X3.here hx rfl (hb hby d_jdk_42_method_149_code_42) rfl rfl k) ?_
  refine own_fw (A' := (T3.setTop (mkF m 45 #[.val (.ref a1), .val (.ref a2), .val (.int (0 : Int32)), .val (.int (2 : Int32)), .val .null, .val (.ref b_3)] [(.int (2 : Int32)), (.ref b_3), (.ref a1)]))) (fun t k => XS.iloadN X3.here hx rfl (hb hby d_jdk_42_method_149_code_44) rfl k) ?_
  obtain ⟨_, _, ⟨T4, L4, k4, n4⟩, -, X4, ⟨Lc4, hQ4, l4, y4, z4⟩, st4⟩ := Jvm.LawKit.callS X3 hx (y := (⟨"java/lang/StringUTF16", "coderFromArrayLen", "([BI)B"⟩ : MethodName)) hown (mvT hZ (hw _ (List.mem_of_getElem? (i := 40) rfl))) (mvT hZ (hw _ (List.mem_of_getElem? (i := 41) rfl))) (mvT hZ (hw _ (List.mem_of_getElem? (i := 35) rfl))) (mvT hZ (hw _ (List.mem_of_getElem? (i := 42) rfl))) (by decide) (backOf (W := 1) (rmCoder2 l Z a0 hw [] b_3 kb_3 (c0.toInt8.toInt32) (c1.toInt8.toInt32) T3.heap n0 Z3 Fq3_0) hZ (hw _ (List.mem_of_getElem? (i := 42) rfl)) (hw _ (List.mem_of_getElem? (i := 35) rfl)) (by decide) (by decide)) (g := (mkF m 45 #[.val (.ref a1), .val (.ref a2), .val (.int (0 : Int32)), .val (.int (2 : Int32)), .val .null, .val (.ref b_3)] [(.int (2 : Int32)), (.ref b_3), (.ref a1)])) rfl (by rw [hml]; rfl) (argsL := [(.ref b_3), (.int (2 : Int32))]) (rest := [(.ref a1)]) (lenOf pd___BI_B rfl) rfl (by show 2 * 0 + _ ≤ _; exact Nat.le_of_eq rfl) (hb hby d_jdk_42_method_149_code_45) (fun _ _ => ⟨rfl, rfl, (by decide : 1 + 0 ≤ _), (by decide : 2 + 0 ≤ _)⟩)
  dsimp only [Pt.U, Pt.locs, Pt.cells, Pt.slots] at X4 l4 y4 z4 st4 hQ4
  subst l4 y4 z4
  obtain ⟨rfl, Nq4, e4⟩ := hQ4
  have Nf4 := Fr.app Nf3 Nq4
  refine own_fw (A' := (T4.setTop (mkF m 48 #[.val (.ref a1), .val (.ref a2), .val (.int (0 : Int32)), .val (.int (2 : Int32)), .val .null, .val (.ref b_3)] [(.int (0 : Int32)), (.ref a1)]))) (fun t k => st4 _ k) ?_
  obtain ⟨T5, h5, X5, e5, W5, st5⟩ := putFN X4 hx hZ hown (hw _ (List.mem_of_getElem? (i := 31) rfl)) Via.refl e4 (P1.keep Kq3 nin0) (P0.keep Kq3) (Or.inr ⟨(hw _ (List.mem_of_getElem? (i := 27) rfl)), rfl, hnm⟩) (hw _ (List.mem_of_getElem? (i := 11) rfl)) (ty := .byte) (v' := (.int (0 : Int32))) (by decide) rfl rfl (g := (mkF m 48 #[.val (.ref a1), .val (.ref a2), .val (.int (0 : Int32)), .val (.int (2 : Int32)), .val .null, .val (.ref b_3)] [(.int (0 : Int32)), (.ref a1)])) rfl rfl (hb hby d_jdk_42_method_149_code_48)
  have Fw5 : Fld Z h5 a1 "java/lang/String" "coder" "B" (.int (0 : Int32)) := (P1.keep Kq3 nin0).same W5
  have Nf5 := Fr.snoc X5 Nf4 g_a1
  have K5 : Keep h0 h5 [a1] := K3.wr W5 (Or.inl (List.mem_of_getElem? (i := 0) rfl))
  have Z5 : n0 ≤ h5.size := Nat.le_trans Z3 (Keep.of_wr W5).1
  refine own_fw (A' := (T5.setTop (mkF m 51 #[.val (.ref a1), .val (.ref a2), .val (.int (0 : Int32)), .val (.int (2 : Int32)), .val .null, .val (.ref b_3)] []))) (fun t k => st5 _ k) ?_
  refine own_fw (A' := (T5.setTop (mkF m 52 #[.val (.ref a1), .val (.ref a2), .val (.int (0 : Int32)), .val (.int (2 : Int32)), .val .null, .val (.ref b_3)] [(.ref a1)]))) (fun t k => XS.aloadN X5.here hx rfl (hb hby d_jdk_42_method_149_code_51) rfl rfl k) ?_
  refine own_fw (A' := (T5.setTop (mkF m 54 #[.val (.ref a1), .val (.ref a2), .val (.int (0 : Int32)), .val (.int (2 : Int32)), .val .null, .val (.ref b_3)] [(.ref b_3), (.ref a1)]))) (fun t k => XS.aload X5.here hx rfl (hb hby d_jdk_42_method_149_code_52) rfl rfl k) ?_
  obtain ⟨T6, h6, X6, e6, W6, st6⟩ := putF X5 hx hZ hown (host := "") (Or.inl (hw _ (List.mem_of_getElem? (i := 30) rfl))) Via.refl e5 ((P2.keep Kq3 nin0).other W5 (Or.inr (slot_ne (Or.inr (hw _ (List.mem_of_getElem? (i := 26) rfl))) (Or.inr (hw _ (List.mem_of_getElem? (i := 27) rfl))) (by decide) (t := (.array .byte)) (t' := .byte) (by decide) (by decide)))) ((P0.keep Kq3).wr W5) (Or.inr ⟨(hw _ (List.mem_of_getElem? (i := 26) rfl)), rfl, hnm⟩) (hw _ (List.mem_of_getElem? (i := 11) rfl)) (ty := (.array .byte)) (by decide) rfl rfl (g := (mkF m 54 #[.val (.ref a1), .val (.ref a2), .val (.int (0 : Int32)), .val (.int (2 : Int32)), .val .null, .val (.ref b_3)] [(.ref b_3), (.ref a1)])) rfl rfl (hb hby d_jdk_42_method_149_code_54)
  have Fw6 : Fld Z h6 a1 "java/lang/String" "value" "[B" (.ref b_3) := ((P2.keep Kq3 nin0).other W5 (Or.inr (slot_ne (Or.inr (hw _ (List.mem_of_getElem? (i := 26) rfl))) (Or.inr (hw _ (List.mem_of_getElem? (i := 27) rfl))) (by decide) (t := (.array .byte)) (t' := .byte) (by decide) (by decide)))).same W6
  have Nf6 := Fr.snoc X6 Nf5 g_a1
  have K6 : Keep h0 h6 [a1] := K5.wr W6 (Or.inl (List.mem_of_getElem? (i := 0) rfl))
  have Z6 : n0 ≤ h6.size := Nat.le_trans Z5 (Keep.of_wr W6).1
  refine own_fw (A' := (T6.setTop (mkF m 57 #[.val (.ref a1), .val (.ref a2), .val (.int (0 : Int32)), .val (.int (2 : Int32)), .val .null, .val (.ref b_3)] []))) (fun t k => st6 _ k) ?_
  obtain ⟨fs, hr, hrun, hended, hW, hsame⟩ := X6.leave (v := none) (fun _ => rfl)
  refine ⟨_, _, ?_, hrun, hended, _, _, rfl, ?_, ⟨_, rfl⟩, hW, hsame.mono (by decide) (by decide)⟩
  · exact X6.returnOut hx Bd.returns (hb hby d_jdk_42_method_149_code_57) hr
  · show Q_rmStrB2 Z a1 a2 kc cs c0 c1 h0 n0 _ T6.heap _
    rw [e6]
    exact ⟨b_3, kb_3, rfl, Nf6, K6, (((P0.keep Kq3).wr W5).wr W6), (Fw5.other W6 (Or.inr (slot_ne (Or.inr (hw _ (List.mem_of_getElem? (i := 27) rfl))) (Or.inr (hw _ (List.mem_of_getElem? (i := 26) rfl))) (by decide) (t := .byte) (t' := (.array .byte)) (by decide) (by decide)))), Fw6, ((Fq3_0.other W5 (Ne.symm ne_a1_b_3)).other W6 (Ne.symm ne_a1_b_3))⟩
theorem ef_rmStrA2 (m : MethodId) (a1 : Addr) (a2 : Addr) : entryFrame m #[(.ref a1), (.ref a2)] 2 = mkF m 0 #[.val (.ref a1), .val (.ref a2)] [] := by first | (simp [entryFrame, mkF, argsToLocals, Value.category]; done) | rfl
def Q_rmStrA2 (Z : State) (a1 : Addr) (a2 : Addr) (kc : ClassId) (cs : Int32) (c0 : Int32) (c1 : Int32) (h0 : Heap) (n0 : Nat) (v : Option Value) (h : Heap) (L : List Loc) : Prop := ∃ b : Addr, ∃ kb : ClassId, v = none ∧ Fr n0 L ∧ Keep h0 h [a1] ∧ Exa Z h a1 "java/lang/String" ∧ Fld Z h a1 "java/lang/String" "coder" "B" (.int (0 : Int32)) ∧ Fld Z h a1 "java/lang/String" "value" "[B" (.ref b) ∧ Arv Z h b kb .byte (2 : Int32) [(.int (c0.toInt8.toInt32)), (.int (c1.toInt8.toInt32))] (.int (0 : Int32))
set_option maxRecDepth 65536 in
set_option maxHeartbeats 40000000 in
theorem rmStrA2 (l : Launch) (Z : State) (a0 : Array Value) (hw : ∀ d ∈ tables_1, d.before a0 Z = true) (ws : List Jvm.Cond) (a1 : Addr) (a2 : Addr) (kc : ClassId) (cs : Int32) (c0 : Int32) (c1 : Int32) (h0 : Heap) (n0 : Nat) (Z0 : n0 ≤ h0.size) (P0 : Exa Z h0 a1 "java/lang/String") (P1 : Fld Z h0 a1 "java/lang/String" "coder" "B" (.int (0 : Int32))) (P2 : Fld Z h0 a1 "java/lang/String" "value" "[B" .null) (P3 : Arv Z h0 a2 kc .char (2 : Int32) [(.int c0), (.int c1)] (.int (0 : Int32))) (g_a1 : n0 ≤ a1) (ne_a1_a2 : a1 ≠ a2) (P6 : Sta Z h0 "java/lang/String" "COMPACT_STRINGS" "Z" (.int cs)) (hcs : ¬ (cs = (0 : Int32))) (hc0 : ¬ ((255 : Int32) < c0)) (hc1 : ¬ ((255 : Int32) < c1)) :
    MetFree l (⟨"java/lang/String", "<init>", "([C)V"⟩ : MethodName) (head1 (Jvm.Cond.code (⟨"java/lang/String", "<init>", "([C)V"⟩ : MethodName) jdk_42_method_3_code 2 none :: ws) ({ frames := 3, cells := 1, slots := 2, locals := 52 } : Room)) (fun a U => a = #[(.ref a1), (.ref a2)] ∧ Z.Warmed39 U.vm ∧ U.heap = h0) (fun _ _ _ _ _ => True) (fun _ U o U' => ∃ v L, o = .returned v ∧ Q_rmStrA2 Z a1 a2 kc cs c0 c1 h0 n0 v U'.heap L ∧ FrameEnd U o U' L ({ frames := 3, cells := 1, slots := 2, locals := 52 } : Room).cells ({ frames := 3, cells := 1, slots := 2, locals := 52 } : Room).slots) := by
  refine MetFree.of_bodySF (plainFor_of_name pn_java_lang_String) hisR ?_
  intro p e s m args below meth c s₁ Bd hml0 hP hK
  obtain ⟨rfl, hZ, hh⟩ := hP
  have hx := Bd.exec
  have hby := Bd.bytes
  have hml : c.maxLocals = 2 := hml0
  have hown : s.vm.findClass "java/lang/String" = some m.cls := findClass_of_methodNamed Bd.named
  have hnm := (name_of_methodNamed Bd.named Bd.method).1
  have X0 : Stand p l e ({ frames := 3, cells := 1, slots := 2, locals := 52 } : Room) s m #[(.ref a1), (.ref a2)] below meth c s₁ [] 0 0 := Stand.of_body Bd
  have e0 : s₁.heap = h0 := by rw [← hh, Bd.state]; rfl
  have N0 := Fr.nil n0
  refine own_fw (A' := (s₁.setTop (mkF m 0 #[.val (.ref a1), .val (.ref a2)] []))) (fun t k => castTop (ef_rmStrA2 m a1 a2) k) ?_
  refine own_fw (A' := (s₁.setTop (mkF m 1 #[.val (.ref a1), .val (.ref a2)] [(.ref a1)]))) (fun t k => XS.aloadN X0.here hx rfl (hb hby d_jdk_42_method_3_code_0) rfl rfl k) ?_
  refine own_fw (A' := (s₁.setTop (mkF m 2 #[.val (.ref a1), .val (.ref a2)] [(.ref a2), (.ref a1)]))) (fun t k => XS.aloadN X0.here hx rfl (hb hby d_jdk_42_method_3_code_1) rfl rfl k) ?_
  refine own_fw (A' := (s₁.setTop (mkF m 3 #[.val (.ref a1), .val (.ref a2)] [(.int (0 : Int32)), (.ref a2), (.ref a1)]))) (fun t k => XS.iconst X0.here hx rfl (hb hby d_jdk_42_method_3_code_2) k) ?_
  refine own_fw (A' := (s₁.setTop (mkF m 4 #[.val (.ref a1), .val (.ref a2)] [(.ref a2), (.int (0 : Int32)), (.ref a2), (.ref a1)]))) (fun t k => XS.aloadN X0.here hx rfl (hb hby d_jdk_42_method_3_code_3) rfl rfl k) ?_
  obtain ⟨cl1, Ar1, q1, S1, M1, H1, G1⟩ := id P3
  refine own_fw (A' := (s₁.setTop (mkF m 5 #[.val (.ref a1), .val (.ref a2)] [(.int (2 : Int32)), (.int (0 : Int32)), (.ref a2), (.ref a1)]))) (fun t k => X0.arraylength hx (by rw [e0]; exact Ar1.1) (State.isArrayOf_alike hZ.alike Ar1.2.1) (g := (mkF m 4 #[.val (.ref a1), .val (.ref a2)] [(.ref a2), (.int (0 : Int32)), (.ref a2), (.ref a1)])) rfl rfl (hb hby d_jdk_42_method_3_code_4) _ (by rw [len_of S1 M1]; exact k)) ?_
  refine own_fw (A' := (s₁.setTop (mkF m 6 #[.val (.ref a1), .val (.ref a2)] [.null, (.int (2 : Int32)), (.int (0 : Int32)), (.ref a2), (.ref a1)]))) (fun t k => XS.aconstNull X0.here hx rfl (hb hby d_jdk_42_method_3_code_5) k) ?_
  obtain ⟨_, _, ⟨T2, L2, k2, n2⟩, -, X2, ⟨Lc2, hQ2, l2, y2, z2⟩, st2⟩ := X0.specialBack hx (y := (⟨"java/lang/String", "<init>", "([CIILjava/lang/Void;)V"⟩ : MethodName)) rfl hown (mvT hZ (hw _ (List.mem_of_getElem? (i := 17) rfl))) (mvT hZ (hw _ (List.mem_of_getElem? (i := 18) rfl))) (mvT hZ (hw _ (List.mem_of_getElem? (i := 20) rfl))) (by decide) (backOf (W := 0) (rmStrB2 l Z a0 hw [] a1 a2 kc cs c0 c1 h0 n0 Z0 P0 P1 P2 P3 g_a1 ne_a1_a2 P6 hcs hc0 hc1) hZ (hw _ (List.mem_of_getElem? (i := 20) rfl)) (hw _ (List.mem_of_getElem? (i := 12) rfl)) (by decide) (by decide)) (g := (mkF m 6 #[.val (.ref a1), .val (.ref a2)] [.null, (.int (2 : Int32)), (.int (0 : Int32)), (.ref a2), (.ref a1)])) rfl (by rw [hml]; rfl) (Steps.refl _) (a := a1) (argsL := [(.ref a2), (.int (0 : Int32)), (.int (2 : Int32)), .null]) (rest := []) (lenOf pd___CIILjava_lang_Void__V rfl) rfl (by show 2 * 0 + _ ≤ _; exact Nat.le_of_eq rfl) (hb hby d_jdk_42_method_3_code_6) (fun _ _ => ⟨rfl, e0, (by decide : 0 + 1 ≤ _), (by decide : 0 + 2 ≤ _)⟩)
  dsimp only [Pt.U, Pt.locs, Pt.cells, Pt.slots] at X2 l2 y2 z2 st2 hQ2
  subst l2 y2 z2
  obtain ⟨b_2, kb_2, rfl, Nq2, Kq2, Fq2_0, Fq2_1, Fq2_2, Fq2_3⟩ := hQ2
  have Nf2 := Fr.app N0 Nq2
  have K2 : Keep h0 T2.heap [a1] := (Keep.refl h0 [a1]).trans Kq2 (allS (Or.inl (List.mem_of_getElem? (i := 0) rfl)) all0)
  have Z2 : n0 ≤ T2.heap.size := Nat.le_trans Z0 Kq2.1
  refine own_fw (A' := (T2.setTop (mkF m 9 #[.val (.ref a1), .val (.ref a2)] []))) (fun t k => st2.trans k) ?_
  obtain ⟨fs, hr, hrun, hended, hW, hsame⟩ := X2.leave (v := none) (fun _ => rfl)
  refine ⟨_, _, ?_, hrun, hended, _, _, rfl, ?_, ⟨_, rfl⟩, hW, hsame.mono (by decide) (by decide)⟩
  · exact X2.returnOut hx Bd.returns (hb hby d_jdk_42_method_3_code_9) hr
  · show Q_rmStrA2 Z a1 a2 kc cs c0 c1 h0 n0 _ T2.heap _
    exact ⟨b_2, kb_2, rfl, Nf2, K2, Fq2_0, Fq2_1, Fq2_2, Fq2_3⟩
theorem d_jdk_42_method_149_code_8 : decode jdk_42_method_149_code 8 = .ok (.aload_n 0, 1) := by decide +kernel
theorem d_jdk_42_method_149_code_9 : decode jdk_42_method_149_code 9 = .ok (.ldc 7, 2) := by decide +kernel
theorem d_jdk_42_method_149_code_11 : decode jdk_42_method_149_code 11 = .ok (.getfield 9, 3) := by decide +kernel
theorem d_jdk_42_method_149_code_14 : decode jdk_42_method_149_code 14 = .ok (.putfield 9, 3) := by decide +kernel
theorem d_jdk_42_method_149_code_17 : decode jdk_42_method_149_code 17 = .ok (.aload_n 0, 1) := by decide +kernel
theorem d_jdk_42_method_149_code_18 : decode jdk_42_method_149_code 18 = .ok (.ldc 7, 2) := by decide +kernel
theorem d_jdk_42_method_149_code_20 : decode jdk_42_method_149_code 20 = .ok (.getfield 15, 3) := by decide +kernel
theorem d_jdk_42_method_149_code_23 : decode jdk_42_method_149_code 23 = .ok (.putfield 15, 3) := by decide +kernel
theorem d_jdk_42_method_149_code_26 : decode jdk_42_method_149_code 26 = .ok (.return_, 1) := by decide +kernel
theorem ef_rmStrB0 (m : MethodId) (a1 : Addr) (a2 : Addr) : entryFrame m #[(.ref a1), (.ref a2), (.int (0 : Int32)), (.int (0 : Int32)), .null] 6 = mkF m 0 #[.val (.ref a1), .val (.ref a2), .val (.int (0 : Int32)), .val (.int (0 : Int32)), .val .null, .unset] [] := by first | (simp [entryFrame, mkF, argsToLocals, Value.category]; done) | rfl
def Q_rmStrB0 (Z : State) (a1 : Addr) (a2 : Addr) (h0 : Heap) (n0 : Nat) (v : Option Value) (h : Heap) (L : List Loc) : Prop := ∃ b : Addr, ∃ kb : ClassId, v = none ∧ Fr n0 L ∧ Keep h0 h [a1] ∧ Exa Z h a1 "java/lang/String" ∧ Fld Z h a1 "java/lang/String" "coder" "B" (.int (0 : Int32)) ∧ Fld Z h a1 "java/lang/String" "value" "[B" (.ref b) ∧ Arv Z h b kb .byte (0 : Int32) [] (.int (0 : Int32))
set_option maxRecDepth 65536 in
set_option maxHeartbeats 40000000 in
theorem rmStrB0 (l : Launch) (Z : State) (a0 : Array Value) (hw : ∀ d ∈ tables_1, d.before a0 Z = true) (ws : List Jvm.Cond) (a1 : Addr) (a2 : Addr) (h0 : Heap) (n0 : Nat) (Z0 : n0 ≤ h0.size) (P0 : Exa Z h0 a1 "java/lang/String") (P1 : Fld Z h0 a1 "java/lang/String" "coder" "B" (.int (0 : Int32))) (P2 : Fld Z h0 a1 "java/lang/String" "value" "[B" .null) (g_a1 : n0 ≤ a1) :
    MetFree l (⟨"java/lang/String", "<init>", "([CIILjava/lang/Void;)V"⟩ : MethodName) (head1 (Jvm.Cond.code (⟨"java/lang/String", "<init>", "([CIILjava/lang/Void;)V"⟩ : MethodName) jdk_42_method_149_code 6 none :: ws) ({ frames := 1, cells := 4, slots := 8, locals := 12 } : Room)) (fun a U => a = #[(.ref a1), (.ref a2), (.int (0 : Int32)), (.int (0 : Int32)), .null] ∧ Z.Warmed39 U.vm ∧ U.heap = h0 ∧ CHv Z own_EL U.vm h0) (fun _ _ _ _ _ => True) (fun _ U o U' => ∃ v L, o = .returned v ∧ Q_rmStrB0 Z a1 a2 h0 n0 v U'.heap L ∧ CHr Z own_EL U.vm U.heap U'.vm U'.heap ∧ ReturnedEndW U o U' L ({ frames := 1, cells := 4, slots := 8, locals := 12 } : Room).cells ({ frames := 1, cells := 4, slots := 8, locals := 12 } : Room).slots) := by
  refine MetFree.of_bodySF (plainFor_of_name pn_java_lang_String) hisR ?_
  intro p e s m args below meth c s₁ Bd hml0 hP hK
  obtain ⟨rfl, hZ, hh, hH⟩ := hP
  have hx := Bd.exec
  have hby := Bd.bytes
  have hml : c.maxLocals = 6 := hml0
  have hown : s.vm.findClass "java/lang/String" = some m.cls := findClass_of_methodNamed Bd.named
  have hnm := (name_of_methodNamed Bd.named Bd.method).1
  have X0 : Stand p l e ({ frames := 1, cells := 4, slots := 8, locals := 12 } : Room) (s.setVm s.vm) m #[(.ref a1), (.ref a2), (.int (0 : Int32)), (.int (0 : Int32)), .null] below meth c s₁ [] 0 0 := Stand.of_body Bd
  have e0 : s₁.heap = h0 := by rw [← hh, Bd.state]; rfl
  have N0 := Fr.nil n0
  refine own_fw (A' := (s₁.setTop (mkF m 0 #[.val (.ref a1), .val (.ref a2), .val (.int (0 : Int32)), .val (.int (0 : Int32)), .val .null, .unset] []))) (fun t k => castTop (ef_rmStrB0 m a1 a2) k) ?_
  have hS : s.Since s.vm h0.size := (State.WarmedH.refl s).since _
  have hk : h0.size ≤ h0.size := Nat.le_refl _
  have hC : CHr Z own_EL s.vm h0 s.vm h0 := CHr.refl hH
  have SFa1 : Safe Z own_EL s.vm h0 a1 := own_safeNull hZ.alike P0 P2
  refine own_fw (A' := (s₁.setTop (mkF m 1 #[.val (.ref a1), .val (.ref a2), .val (.int (0 : Int32)), .val (.int (0 : Int32)), .val .null, .unset] [(.ref a1)]))) (fun t k => XS.aloadN X0.here hx rfl (hb hby d_jdk_42_method_149_code_0) rfl rfl k) ?_
  obtain ⟨T1, X1, e1, st1⟩ := initO X0 hx hZ hown (hw _ (List.mem_of_getElem? (i := 21) rfl)) (hw _ (List.mem_of_getElem? (i := 22) rfl)) (hw _ (List.mem_of_getElem? (i := 23) rfl)) e0 (g := (mkF m 1 #[.val (.ref a1), .val (.ref a2), .val (.int (0 : Int32)), .val (.int (0 : Int32)), .val .null, .unset] [(.ref a1)])) rfl (by rw [hml]; rfl) rfl (hb hby d_jdk_42_method_149_code_1) (by decide) (W := 0) (by show 2 * 0 + _ ≤ _; exact Nat.le_of_eq rfl) (by decide)
  refine own_fw (A' := (T1.setTop (mkF m 4 #[.val (.ref a1), .val (.ref a2), .val (.int (0 : Int32)), .val (.int (0 : Int32)), .val .null, .unset] []))) (fun t k => st1 _ k) ?_
  refine own_fw (A' := (T1.setTop (mkF m 5 #[.val (.ref a1), .val (.ref a2), .val (.int (0 : Int32)), .val (.int (0 : Int32)), .val .null, .unset] [(.int (0 : Int32))]))) (fun t k => XS.iloadN X1.here hx rfl (hb hby d_jdk_42_method_149_code_4) rfl k) ?_
  refine own_fw (A' := (T1.setTop (mkF m 8 #[.val (.ref a1), .val (.ref a2), .val (.int (0 : Int32)), .val (.int (0 : Int32)), .val .null, .unset] []))) (fun t k => XS.ifNo X1.here hx rfl (hb hby d_jdk_42_method_149_code_5) rfl (XT.i0_ne_f rfl) k) ?_
  refine own_fw (A' := (T1.setTop (mkF m 9 #[.val (.ref a1), .val (.ref a2), .val (.int (0 : Int32)), .val (.int (0 : Int32)), .val .null, .unset] [(.ref a1)]))) (fun t k => XS.aloadN X1.here hx rfl (hb hby d_jdk_42_method_149_code_8) rfl rfl k) ?_
  obtain ⟨sa2, T2, h2, k2, sb2, kk2, X2, e2, E2, hS, hk, hZ', hown, SE2, SC2, SV2, SA2, -, -, r2, -, sn2, st2⟩ := ldcCH X1 hx hZ hown (hw _ (List.mem_of_getElem? (i := 24) rfl)) (own_wS hw) e1 hS hk (own_EW hw) (List.mem_of_getElem? (i := 2) rfl) hH (vs := []) (z := (0 : Int32)) ⟨by decide, rfl⟩ (by decide) (by decide) (g := (mkF m 9 #[.val (.ref a1), .val (.ref a2), .val (.int (0 : Int32)), .val (.int (0 : Int32)), .val .null, .unset] [(.ref a1)])) rfl (hb hby d_jdk_42_method_149_code_9) (n := 0) (by decide) (by decide) (by decide) (by decide)
  have F3 : Safe Z own_EL _ h2 a1 := (CHr.safe r2 P0.lt SFa1)
  have hC := hC.trans r2
  have hH := hC.1
  have hZ := hZ'
  have K2 : Keep h0 h2 [a1] := (Keep.refl h0 [a1]).ext E2
  have Z2 : n0 ≤ h2.size := Nat.le_trans Z0 E2.1
  refine own_fw (A' := (T2.setTop (mkF m 11 #[.val (.ref a1), .val (.ref a2), .val (.int (0 : Int32)), .val (.int (0 : Int32)), .val .null, .unset] [(.ref sa2), (.ref a1)]))) (fun t k => st2 _ k) ?_
  obtain ⟨T4, X4, e4, st4⟩ := getF X2 hx hZ hown (host := "") (Or.inl (hw _ (List.mem_of_getElem? (i := 30) rfl))) Via.refl e2 SV2 (g := (mkF m 11 #[.val (.ref a1), .val (.ref a2), .val (.int (0 : Int32)), .val (.int (0 : Int32)), .val .null, .unset] [(.ref sa2), (.ref a1)])) rfl rfl (hb hby d_jdk_42_method_149_code_11)
  refine own_fw (A' := (T4.setTop (mkF m 14 #[.val (.ref a1), .val (.ref a2), .val (.int (0 : Int32)), .val (.int (0 : Int32)), .val .null, .unset] [(.ref sb2), (.ref a1)]))) (fun t k => st4 _ k) ?_
  obtain ⟨T5, h5, X5, e5, W5, st5⟩ := putF X4 hx hZ hown (host := "") (Or.inl (hw _ (List.mem_of_getElem? (i := 30) rfl))) Via.refl e4 (P2.ext E2) (P0.ext E2) (Or.inr ⟨(hw _ (List.mem_of_getElem? (i := 26) rfl)), rfl, hnm⟩) (hw _ (List.mem_of_getElem? (i := 11) rfl)) (ty := (.array .byte)) (by decide) rfl rfl (g := (mkF m 14 #[.val (.ref a1), .val (.ref a2), .val (.int (0 : Int32)), .val (.int (0 : Int32)), .val .null, .unset] [(.ref sb2), (.ref a1)])) rfl rfl (hb hby d_jdk_42_method_149_code_14)
  have Fw5 : Fld Z h5 a1 "java/lang/String" "value" "[B" (.ref sb2) := (P2.ext E2).same W5
  have F6 : Safe Z own_EL _ h5 a1 := (Safe.wr W5 F3 hH F3)
  have Nf5 := Fr.snoc X5 N0 g_a1
  have K5 : Keep h0 h5 [a1] := K2.wr W5 (Or.inl (List.mem_of_getElem? (i := 0) rfl))
  have Z5 : n0 ≤ h5.size := Nat.le_trans Z2 (Keep.of_wr W5).1
  have hk := Nat.le_trans hk (Keep.of_wr W5).1
  have hC := hC.trans (CHr.wr W5 F3 hH)
  have hH := hC.1
  refine own_fw (A' := (T5.setTop (mkF m 17 #[.val (.ref a1), .val (.ref a2), .val (.int (0 : Int32)), .val (.int (0 : Int32)), .val .null, .unset] []))) (fun t k => st5 _ k) ?_
  refine own_fw (A' := (T5.setTop (mkF m 18 #[.val (.ref a1), .val (.ref a2), .val (.int (0 : Int32)), .val (.int (0 : Int32)), .val .null, .unset] [(.ref a1)]))) (fun t k => XS.aloadN X5.here hx rfl (hb hby d_jdk_42_method_149_code_17) rfl rfl k) ?_
  obtain ⟨sa7, T7, h7, k7, sb7, kk7, X7, e7, E7, hS, hk, hZ', hown, SE7, SC7, SV7, SA7, -, -, r7, -, sn7, st7⟩ := ldcCH X5 hx hZ hown (hw _ (List.mem_of_getElem? (i := 24) rfl)) (own_wS hw) e5 hS hk (own_EW hw) (List.mem_of_getElem? (i := 2) rfl) hH (vs := []) (z := (0 : Int32)) ⟨by decide, rfl⟩ (by decide) (by decide) (g := (mkF m 18 #[.val (.ref a1), .val (.ref a2), .val (.int (0 : Int32)), .val (.int (0 : Int32)), .val .null, .unset] [(.ref a1)])) rfl (hb hby d_jdk_42_method_149_code_18) (n := 0) (by decide) (by decide) (by decide) (by decide)
  have F8 : Safe Z own_EL _ h7 a1 := (CHr.safe r7 ((P0.ext E2).wr W5).lt F6)
  have hC := hC.trans r7
  have hH := hC.1
  have hZ := hZ'
  have K7 : Keep h0 h7 [a1] := K5.ext E7
  have Z7 : n0 ≤ h7.size := Nat.le_trans Z5 E7.1
  refine own_fw (A' := (T7.setTop (mkF m 20 #[.val (.ref a1), .val (.ref a2), .val (.int (0 : Int32)), .val (.int (0 : Int32)), .val .null, .unset] [(.ref sa7), (.ref a1)]))) (fun t k => st7 _ k) ?_
  obtain ⟨T9, X9, e9, st9⟩ := getF X7 hx hZ hown (host := "") (Or.inl (hw _ (List.mem_of_getElem? (i := 31) rfl))) Via.refl e7 SC7 (g := (mkF m 20 #[.val (.ref a1), .val (.ref a2), .val (.int (0 : Int32)), .val (.int (0 : Int32)), .val .null, .unset] [(.ref sa7), (.ref a1)])) rfl rfl (hb hby d_jdk_42_method_149_code_20)
  refine own_fw (A' := (T9.setTop (mkF m 23 #[.val (.ref a1), .val (.ref a2), .val (.int (0 : Int32)), .val (.int (0 : Int32)), .val .null, .unset] [(.int (0 : Int32)), (.ref a1)]))) (fun t k => st9 _ k) ?_
  obtain ⟨T10, h10, X10, e10, W10, st10⟩ := putFN X9 hx hZ hown (hw _ (List.mem_of_getElem? (i := 31) rfl)) Via.refl e9 (((P1.ext E2).other W5 (Or.inr (slot_ne (Or.inr (hw _ (List.mem_of_getElem? (i := 27) rfl))) (Or.inr (hw _ (List.mem_of_getElem? (i := 26) rfl))) (by decide) (t := .byte) (t' := (.array .byte)) (by decide) (by decide)))).ext E7) (((P0.ext E2).wr W5).ext E7) (Or.inr ⟨(hw _ (List.mem_of_getElem? (i := 27) rfl)), rfl, hnm⟩) (hw _ (List.mem_of_getElem? (i := 11) rfl)) (ty := .byte) (v' := (.int (0 : Int32))) (by decide) rfl rfl (g := (mkF m 23 #[.val (.ref a1), .val (.ref a2), .val (.int (0 : Int32)), .val (.int (0 : Int32)), .val .null, .unset] [(.int (0 : Int32)), (.ref a1)])) rfl rfl (hb hby d_jdk_42_method_149_code_23)
  have Fw10 : Fld Z h10 a1 "java/lang/String" "coder" "B" (.int (0 : Int32)) := (((P1.ext E2).other W5 (Or.inr (slot_ne (Or.inr (hw _ (List.mem_of_getElem? (i := 27) rfl))) (Or.inr (hw _ (List.mem_of_getElem? (i := 26) rfl))) (by decide) (t := .byte) (t' := (.array .byte)) (by decide) (by decide)))).ext E7).same W10
  have F11 : Safe Z own_EL _ h10 a1 := (Safe.wr W10 F8 hH F8)
  have Nf10 := Fr.snoc X10 Nf5 g_a1
  have K10 : Keep h0 h10 [a1] := K7.wr W10 (Or.inl (List.mem_of_getElem? (i := 0) rfl))
  have Z10 : n0 ≤ h10.size := Nat.le_trans Z7 (Keep.of_wr W10).1
  have hk := Nat.le_trans hk (Keep.of_wr W10).1
  have hC := hC.trans (CHr.wr W10 F8 hH)
  have hH := hC.1
  refine own_fw (A' := (T10.setTop (mkF m 26 #[.val (.ref a1), .val (.ref a2), .val (.int (0 : Int32)), .val (.int (0 : Int32)), .val .null, .unset] []))) (fun t k => st10 _ k) ?_
  obtain ⟨fs, hr, hrun, hended, hWE⟩ := X10.leaveW hS (by rw [e10]; exact hk : _ ≤ T10.heap.size) (v := none) (fun _ => rfl)
  have hCE : CHr Z own_EL s.vm s.heap (T10.setFrames fs).vm (T10.setFrames fs).heap := by rw [hh]; show CHr Z own_EL s.vm h0 T10.vm T10.heap; rw [e10]; exact hC.trans (CHv.at X10 hZ (own_EW hw) hH)
  refine ⟨_, _, ?_, hrun, hended, _, _, rfl, ?_, hCE, own_widen hWE (by decide) (by decide)⟩
  · exact X10.returnOut hx Bd.returns (hb hby d_jdk_42_method_149_code_26) hr
  · show Q_rmStrB0 Z a1 a2 h0 n0 _ T10.heap _
    rw [e10]
    exact ⟨sb2, kk2, rfl, Nf10, K10, ((((P0.ext E2).wr W5).ext E7).wr W10), Fw10, ((Fw5.ext E7).other W10 (Or.inr (slot_ne (Or.inr (hw _ (List.mem_of_getElem? (i := 26) rfl))) (Or.inr (hw _ (List.mem_of_getElem? (i := 27) rfl))) (by decide) (t := (.array .byte)) (t' := .byte) (by decide) (by decide)))), (((SA2.other W5 (Ne.symm (sn2 _ F3).2)).ext E7).other W10 (Ne.symm (sn2 _ F3).2))⟩
theorem ef_rmStrA0 (m : MethodId) (a1 : Addr) (a2 : Addr) : entryFrame m #[(.ref a1), (.ref a2)] 2 = mkF m 0 #[.val (.ref a1), .val (.ref a2)] [] := by first | (simp [entryFrame, mkF, argsToLocals, Value.category]; done) | rfl
def Q_rmStrA0 (Z : State) (a1 : Addr) (a2 : Addr) (kc : ClassId) (h0 : Heap) (n0 : Nat) (v : Option Value) (h : Heap) (L : List Loc) : Prop := ∃ b : Addr, ∃ kb : ClassId, v = none ∧ Fr n0 L ∧ Keep h0 h [a1] ∧ Exa Z h a1 "java/lang/String" ∧ Fld Z h a1 "java/lang/String" "coder" "B" (.int (0 : Int32)) ∧ Fld Z h a1 "java/lang/String" "value" "[B" (.ref b) ∧ Arv Z h b kb .byte (0 : Int32) [] (.int (0 : Int32))
set_option maxRecDepth 65536 in
set_option maxHeartbeats 40000000 in
theorem rmStrA0 (l : Launch) (Z : State) (a0 : Array Value) (hw : ∀ d ∈ tables_1, d.before a0 Z = true) (ws : List Jvm.Cond) (a1 : Addr) (a2 : Addr) (kc : ClassId) (h0 : Heap) (n0 : Nat) (Z0 : n0 ≤ h0.size) (P0 : Exa Z h0 a1 "java/lang/String") (P1 : Fld Z h0 a1 "java/lang/String" "coder" "B" (.int (0 : Int32))) (P2 : Fld Z h0 a1 "java/lang/String" "value" "[B" .null) (P3 : Arv Z h0 a2 kc .char (0 : Int32) [] (.int (0 : Int32))) (g_a1 : n0 ≤ a1) :
    MetFree l (⟨"java/lang/String", "<init>", "([C)V"⟩ : MethodName) (head1 (Jvm.Cond.code (⟨"java/lang/String", "<init>", "([C)V"⟩ : MethodName) jdk_42_method_3_code 2 none :: ws) ({ frames := 2, cells := 4, slots := 8, locals := 29 } : Room)) (fun a U => a = #[(.ref a1), (.ref a2)] ∧ Z.Warmed39 U.vm ∧ U.heap = h0 ∧ CHv Z own_EL U.vm h0) (fun _ _ _ _ _ => True) (fun _ U o U' => ∃ v L, o = .returned v ∧ Q_rmStrA0 Z a1 a2 kc h0 n0 v U'.heap L ∧ CHr Z own_EL U.vm U.heap U'.vm U'.heap ∧ ReturnedEndW U o U' L ({ frames := 2, cells := 4, slots := 8, locals := 29 } : Room).cells ({ frames := 2, cells := 4, slots := 8, locals := 29 } : Room).slots) := by
  refine MetFree.of_bodySF (plainFor_of_name pn_java_lang_String) hisR ?_
  intro p e s m args below meth c s₁ Bd hml0 hP hK
  obtain ⟨rfl, hZ, hh, hH⟩ := hP
  have hx := Bd.exec
  have hby := Bd.bytes
  have hml : c.maxLocals = 2 := hml0
  have hown : s.vm.findClass "java/lang/String" = some m.cls := findClass_of_methodNamed Bd.named
  have hnm := (name_of_methodNamed Bd.named Bd.method).1
  have X0 : Stand p l e ({ frames := 2, cells := 4, slots := 8, locals := 29 } : Room) (s.setVm s.vm) m #[(.ref a1), (.ref a2)] below meth c s₁ [] 0 0 := Stand.of_body Bd
  have e0 : s₁.heap = h0 := by rw [← hh, Bd.state]; rfl
  have N0 := Fr.nil n0
  refine own_fw (A' := (s₁.setTop (mkF m 0 #[.val (.ref a1), .val (.ref a2)] []))) (fun t k => castTop (ef_rmStrA0 m a1 a2) k) ?_
  have hS : s.Since s.vm h0.size := (State.WarmedH.refl s).since _
  have hk : h0.size ≤ h0.size := Nat.le_refl _
  have hC : CHr Z own_EL s.vm h0 s.vm h0 := CHr.refl hH
  refine own_fw (A' := (s₁.setTop (mkF m 1 #[.val (.ref a1), .val (.ref a2)] [(.ref a1)]))) (fun t k => XS.aloadN X0.here hx rfl (hb hby d_jdk_42_method_3_code_0) rfl rfl k) ?_
  refine own_fw (A' := (s₁.setTop (mkF m 2 #[.val (.ref a1), .val (.ref a2)] [(.ref a2), (.ref a1)]))) (fun t k => XS.aloadN X0.here hx rfl (hb hby d_jdk_42_method_3_code_1) rfl rfl k) ?_
  refine own_fw (A' := (s₁.setTop (mkF m 3 #[.val (.ref a1), .val (.ref a2)] [(.int (0 : Int32)), (.ref a2), (.ref a1)]))) (fun t k => XS.iconst X0.here hx rfl (hb hby d_jdk_42_method_3_code_2) k) ?_
  refine own_fw (A' := (s₁.setTop (mkF m 4 #[.val (.ref a1), .val (.ref a2)] [(.ref a2), (.int (0 : Int32)), (.ref a2), (.ref a1)]))) (fun t k => XS.aloadN X0.here hx rfl (hb hby d_jdk_42_method_3_code_3) rfl rfl k) ?_
  obtain ⟨cl1, Ar1, q1, S1, M1, H1, G1⟩ := id P3
  refine own_fw (A' := (s₁.setTop (mkF m 5 #[.val (.ref a1), .val (.ref a2)] [(.int (0 : Int32)), (.int (0 : Int32)), (.ref a2), (.ref a1)]))) (fun t k => X0.arraylength hx (by rw [e0]; exact Ar1.1) (State.isArrayOf_alike hZ.alike Ar1.2.1) (g := (mkF m 4 #[.val (.ref a1), .val (.ref a2)] [(.ref a2), (.int (0 : Int32)), (.ref a2), (.ref a1)])) rfl rfl (hb hby d_jdk_42_method_3_code_4) _ (by rw [len_of S1 M1]; exact k)) ?_
  refine own_fw (A' := (s₁.setTop (mkF m 6 #[.val (.ref a1), .val (.ref a2)] [.null, (.int (0 : Int32)), (.int (0 : Int32)), (.ref a2), (.ref a1)]))) (fun t k => XS.aconstNull X0.here hx rfl (hb hby d_jdk_42_method_3_code_5) k) ?_
  obtain ⟨_, _, ⟨T2, L2, k2, n2⟩, -, X2, hS2, gS2, ⟨Lc2, hQ2, l2, y2, z2, r2⟩, st2⟩ := X0.specialBackS hx (y := (⟨"java/lang/String", "<init>", "([CIILjava/lang/Void;)V"⟩ : MethodName)) rfl hown (mvT hZ (hw _ (List.mem_of_getElem? (i := 17) rfl))) (mvT hZ (hw _ (List.mem_of_getElem? (i := 18) rfl))) (mvT hZ (hw _ (List.mem_of_getElem? (i := 20) rfl))) (by decide) (backOfSH (W := 0) (rmStrB0 l Z a0 hw [] a1 a2 h0 n0 Z0 P0 P1 P2 g_a1) hZ (hw _ (List.mem_of_getElem? (i := 20) rfl)) (hw _ (List.mem_of_getElem? (i := 12) rfl)) (by decide) (by decide) (own_EW hw) hH) (g := (mkF m 6 #[.val (.ref a1), .val (.ref a2)] [.null, (.int (0 : Int32)), (.int (0 : Int32)), (.ref a2), (.ref a1)])) rfl (by rw [hml]; rfl) (Steps.refl _) (a := a1) (argsL := [(.ref a2), (.int (0 : Int32)), (.int (0 : Int32)), .null]) (rest := []) (lenOf pd___CIILjava_lang_Void__V rfl) rfl (by show 2 * 0 + _ ≤ _; exact Nat.le_of_eq rfl) (hb hby d_jdk_42_method_3_code_6) (fun _ _ => ⟨rfl, e0, (by decide : 0 + 4 ≤ _), (by decide : 0 + 8 ≤ _)⟩)
  dsimp only [Pt.U, Pt.locs, Pt.cells, Pt.slots] at X2 l2 y2 z2 st2 hQ2 hS2 gS2 r2
  subst l2 y2 z2
  obtain ⟨X2, hS, hZ', hown⟩ := rebS hS (by rw [e0]; exact hk : _ ≤ s₁.heap.size) X2 hS2 gS2 hZ hown
  have hk : T2.heap.size ≤ T2.heap.size := Nat.le_refl _
  obtain ⟨b_2, kb_2, rfl, Nq2, Kq2, Fq2_0, Fq2_1, Fq2_2, Fq2_3⟩ := hQ2
  have Nf2 := Fr.app N0 Nq2
  have hC := hC.trans r2
  have hH := hC.1
  have hZ := hZ'
  have K2 : Keep h0 T2.heap [a1] := (Keep.refl h0 [a1]).trans Kq2 (allS (Or.inl (List.mem_of_getElem? (i := 0) rfl)) all0)
  have Z2 : n0 ≤ T2.heap.size := Nat.le_trans Z0 Kq2.1
  refine own_fw (A' := (T2.setTop (mkF m 9 #[.val (.ref a1), .val (.ref a2)] []))) (fun t k => st2.trans k) ?_
  obtain ⟨fs, hr, hrun, hended, hWE⟩ := X2.leaveW hS hk (v := none) (fun _ => rfl)
  have hCE : CHr Z own_EL s.vm s.heap (T2.setFrames fs).vm (T2.setFrames fs).heap := by rw [hh]; show CHr Z own_EL s.vm h0 T2.vm T2.heap; exact hC.trans (CHv.at X2 hZ (own_EW hw) hH)
  refine ⟨_, _, ?_, hrun, hended, _, _, rfl, ?_, hCE, own_widen hWE (by decide) (by decide)⟩
  · exact X2.returnOut hx Bd.returns (hb hby d_jdk_42_method_3_code_9) hr
  · show Q_rmStrA0 Z a1 a2 kc h0 n0 _ T2.heap _
    exact ⟨b_2, kb_2, rfl, Nf2, K2, Fq2_0, Fq2_1, Fq2_2, Fq2_3⟩
theorem pn_java_lang_StringLatin1 : plainName "java/lang/StringLatin1" = true := by first | (simp [plainName, overriddenIn]; done) | decide +kernel
theorem d_jdk_43_method_13_code_0 : decode jdk_43_method_13_code 0 = .ok (.aload_n 0, 1) := by decide +kernel
theorem d_jdk_43_method_13_code_1 : decode jdk_43_method_13_code 1 = .ok (.arraylength, 1) := by decide +kernel
theorem d_jdk_43_method_13_code_2 : decode jdk_43_method_13_code 2 = .ok (.aload_n 1, 1) := by decide +kernel
theorem d_jdk_43_method_13_code_3 : decode jdk_43_method_13_code 3 = .ok (.arraylength, 1) := by decide +kernel
theorem d_jdk_43_method_13_code_4 : decode jdk_43_method_13_code 4 = .ok (.if_icmp .ne 30, 3) := by decide +kernel
theorem d_jdk_43_method_13_code_7 : decode jdk_43_method_13_code 7 = .ok (.iconst 0, 1) := by decide +kernel
theorem d_jdk_43_method_13_code_8 : decode jdk_43_method_13_code 8 = .ok (.istore_n 2, 1) := by decide +kernel
theorem d_jdk_43_method_13_code_9 : decode jdk_43_method_13_code 9 = .ok (.iload_n 2, 1) := by decide +kernel
theorem d_jdk_43_method_13_code_10 : decode jdk_43_method_13_code 10 = .ok (.aload_n 0, 1) := by decide +kernel
theorem d_jdk_43_method_13_code_11 : decode jdk_43_method_13_code 11 = .ok (.arraylength, 1) := by decide +kernel
theorem d_jdk_43_method_13_code_12 : decode jdk_43_method_13_code 12 = .ok (.if_icmp .ge 20, 3) := by decide +kernel
theorem d_jdk_43_method_13_code_32 : decode jdk_43_method_13_code 32 = .ok (.iconst 1, 1) := by decide +kernel
theorem d_jdk_43_method_13_code_33 : decode jdk_43_method_13_code 33 = .ok (.ireturn, 1) := by decide +kernel
theorem ef_rmLeq00 (m : MethodId) (a1 : Addr) (a2 : Addr) : entryFrame m #[(.ref a1), (.ref a2)] 3 = mkF m 0 #[.val (.ref a1), .val (.ref a2), .unset] [] := by first | (simp [entryFrame, mkF, argsToLocals, Value.category]; done) | rfl
def Q_rmLeq00 (Z : State) (a1 : Addr) (a2 : Addr) (k1 : ClassId) (k2 : ClassId) (h0 : Heap) (n0 : Nat) (v : Option Value) (h : Heap) (L : List Loc) : Prop := v = some (.int (1 : Int32)) ∧ Fr n0 L ∧ h = h0
set_option maxRecDepth 65536 in
set_option maxHeartbeats 40000000 in
theorem rmLeq00 (l : Launch) (Z : State) (a0 : Array Value) (hw : ∀ d ∈ tables_1, d.before a0 Z = true) (ws : List Jvm.Cond) (a1 : Addr) (a2 : Addr) (k1 : ClassId) (k2 : ClassId) (h0 : Heap) (n0 : Nat) (Z0 : n0 ≤ h0.size) (P0 : Arv Z h0 a1 k1 .byte (0 : Int32) [] (.int (0 : Int32))) (P1 : Arv Z h0 a2 k2 .byte (0 : Int32) [] (.int (0 : Int32))) :
    MetFree l (⟨"java/lang/StringLatin1", "equals", "([B[B)Z"⟩ : MethodName) (head1 (Jvm.Cond.code (⟨"java/lang/StringLatin1", "equals", "([B[B)Z"⟩ : MethodName) jdk_43_method_13_code 3 (some .boolean) :: ws) ({ frames := 0, cells := 0, slots := 0, locals := 0 } : Room)) (fun a U => a = #[(.ref a1), (.ref a2)] ∧ Z.Warmed39 U.vm ∧ U.heap = h0) (fun _ _ _ _ _ => True) (fun _ U o U' => ∃ v L, o = .returned v ∧ Q_rmLeq00 Z a1 a2 k1 k2 h0 n0 v U'.heap L ∧ FrameEnd U o U' L ({ frames := 0, cells := 0, slots := 0, locals := 0 } : Room).cells ({ frames := 0, cells := 0, slots := 0, locals := 0 } : Room).slots) := by
  refine MetFree.of_bodySF (plainFor_of_name pn_java_lang_StringLatin1) hisR ?_
  intro p e s m args below meth c s₁ Bd hml0 hP hK
  obtain ⟨rfl, hZ, hh⟩ := hP
  have hx := Bd.exec
  have hby := Bd.bytes
  have hml : c.maxLocals = 3 := hml0
  have hown : s.vm.findClass "java/lang/StringLatin1" = some m.cls := findClass_of_methodNamed Bd.named
  have hnm := (name_of_methodNamed Bd.named Bd.method).1
  have X0 : Stand p l e ({ frames := 0, cells := 0, slots := 0, locals := 0 } : Room) s m #[(.ref a1), (.ref a2)] below meth c s₁ [] 0 0 := Stand.of_body Bd
  have e0 : s₁.heap = h0 := by rw [← hh, Bd.state]; rfl
  have N0 := Fr.nil n0
  refine own_fw (A' := (s₁.setTop (mkF m 0 #[.val (.ref a1), .val (.ref a2), .unset] []))) (fun t k => castTop (ef_rmLeq00 m a1 a2) k) ?_
  refine own_fw (A' := (s₁.setTop (mkF m 1 #[.val (.ref a1), .val (.ref a2), .unset] [(.ref a1)]))) (fun t k => XS.aloadN X0.here hx rfl (hb hby d_jdk_43_method_13_code_0) rfl rfl k) ?_
  obtain ⟨cl1, Ar1, q1, S1, M1, H1, G1⟩ := id P0
  refine own_fw (A' := (s₁.setTop (mkF m 2 #[.val (.ref a1), .val (.ref a2), .unset] [(.int (0 : Int32))]))) (fun t k => X0.arraylength hx (by rw [e0]; exact Ar1.1) (State.isArrayOf_alike hZ.alike Ar1.2.1) (g := (mkF m 1 #[.val (.ref a1), .val (.ref a2), .unset] [(.ref a1)])) rfl rfl (hb hby d_jdk_43_method_13_code_1) _ (by rw [len_of S1 M1]; exact k)) ?_
  refine own_fw (A' := (s₁.setTop (mkF m 3 #[.val (.ref a1), .val (.ref a2), .unset] [(.ref a2), (.int (0 : Int32))]))) (fun t k => XS.aloadN X0.here hx rfl (hb hby d_jdk_43_method_13_code_2) rfl rfl k) ?_
  obtain ⟨cl2, Ar2, q2, S2, M2, H2, G2⟩ := id P1
  refine own_fw (A' := (s₁.setTop (mkF m 4 #[.val (.ref a1), .val (.ref a2), .unset] [(.int (0 : Int32)), (.int (0 : Int32))]))) (fun t k => X0.arraylength hx (by rw [e0]; exact Ar2.1) (State.isArrayOf_alike hZ.alike Ar2.2.1) (g := (mkF m 3 #[.val (.ref a1), .val (.ref a2), .unset] [(.ref a2), (.int (0 : Int32))])) rfl rfl (hb hby d_jdk_43_method_13_code_3) _ (by rw [len_of S2 M2]; exact k)) ?_
  refine own_fw (A' := (s₁.setTop (mkF m 7 #[.val (.ref a1), .val (.ref a2), .unset] []))) (fun t k => XS.icmpNo X0.here hx rfl (hb hby d_jdk_43_method_13_code_4) rfl (XT.ii_ne_f rfl) k) ?_
  refine own_fw (A' := (s₁.setTop (mkF m 8 #[.val (.ref a1), .val (.ref a2), .unset] [(.int (0 : Int32))]))) (fun t k => XS.iconst X0.here hx rfl (hb hby d_jdk_43_method_13_code_7) k) ?_
  refine own_fw (A' := (s₁.setTop (mkF m 9 #[.val (.ref a1), .val (.ref a2), .val (.int (0 : Int32))] []))) (fun t k => XS.istoreN X0.here hx rfl (hb hby d_jdk_43_method_13_code_8) rfl (l' := #[.val (.ref a1), .val (.ref a2), .val (.int (0 : Int32))]) rfl k) ?_
  refine own_fw (A' := (s₁.setTop (mkF m 10 #[.val (.ref a1), .val (.ref a2), .val (.int (0 : Int32))] [(.int (0 : Int32))]))) (fun t k => XS.iloadN X0.here hx rfl (hb hby d_jdk_43_method_13_code_9) rfl k) ?_
  refine own_fw (A' := (s₁.setTop (mkF m 11 #[.val (.ref a1), .val (.ref a2), .val (.int (0 : Int32))] [(.ref a1), (.int (0 : Int32))]))) (fun t k => XS.aloadN X0.here hx rfl (hb hby d_jdk_43_method_13_code_10) rfl rfl k) ?_
  obtain ⟨cl3, Ar3, q3, S3, M3, H3, G3⟩ := id P0
  refine own_fw (A' := (s₁.setTop (mkF m 12 #[.val (.ref a1), .val (.ref a2), .val (.int (0 : Int32))] [(.int (0 : Int32)), (.int (0 : Int32))]))) (fun t k => X0.arraylength hx (by rw [e0]; exact Ar3.1) (State.isArrayOf_alike hZ.alike Ar3.2.1) (g := (mkF m 11 #[.val (.ref a1), .val (.ref a2), .val (.int (0 : Int32))] [(.ref a1), (.int (0 : Int32))])) rfl rfl (hb hby d_jdk_43_method_13_code_11) _ (by rw [len_of S3 M3]; exact k)) ?_
  refine own_fw (A' := (s₁.setTop (mkF m 32 #[.val (.ref a1), .val (.ref a2), .val (.int (0 : Int32))] []))) (fun t k => XS.icmpYes X0.here hx rfl (pc0 := 12) (pc' := 32) rfl (hb hby d_jdk_43_method_13_code_12) rfl (XT.ii_ge_t (by decide)) (by decide) (by decide) k) ?_
  refine own_fw (A' := (s₁.setTop (mkF m 33 #[.val (.ref a1), .val (.ref a2), .val (.int (0 : Int32))] [(.int (1 : Int32))]))) (fun t k => XS.iconst X0.here hx rfl (hb hby d_jdk_43_method_13_code_32) k) ?_
  obtain ⟨fs, hr, hrun, hended, hW, hsame⟩ := X0.leave (v := some (.int (1 : Int32))) (fun h => by rw [Bd.returns] at h; cases h)
  refine ⟨_, _, ?_, hrun, hended, _, _, rfl, ?_, ⟨_, rfl⟩, hW, hsame.mono (by decide) (by decide)⟩
  · exact retOut X0 hx Bd.returns rfl (Or.inl ⟨rfl, by simp, _, rfl⟩) (hb hby d_jdk_43_method_13_code_33) hr
  · show Q_rmLeq00 Z a1 a2 k1 k2 h0 n0 _ s₁.heap _
    rw [e0]
    exact ⟨rfl, N0, rfl⟩
theorem d_jdk_42_method_66_code_0 : decode jdk_42_method_66_code 0 = .ok (.aload_n 0, 1) := by decide +kernel
theorem d_jdk_42_method_66_code_1 : decode jdk_42_method_66_code 1 = .ok (.aload_n 1, 1) := by decide +kernel
theorem d_jdk_42_method_66_code_2 : decode jdk_42_method_66_code 2 = .ok (.if_acmp .ne 5, 3) := by decide +kernel
theorem d_jdk_42_method_66_code_7 : decode jdk_42_method_66_code 7 = .ok (.aload_n 1, 1) := by decide +kernel
theorem d_jdk_42_method_66_code_8 : decode jdk_42_method_66_code 8 = .ok (.instanceof 10, 3) := by decide +kernel
theorem d_jdk_42_method_66_code_11 : decode jdk_42_method_66_code 11 = .ok (.ifCond .eq 43, 3) := by decide +kernel
theorem d_jdk_42_method_66_code_14 : decode jdk_42_method_66_code 14 = .ok (.aload_n 1, 1) := by decide +kernel
theorem d_jdk_42_method_66_code_15 : decode jdk_42_method_66_code 15 = .ok (.checkcast 10, 3) := by decide +kernel
theorem d_jdk_42_method_66_code_18 : decode jdk_42_method_66_code 18 = .ok (.astore_n 2, 1) := by decide +kernel
theorem d_jdk_42_method_66_code_19 : decode jdk_42_method_66_code 19 = .ok (.getstatic 38, 3) := by decide +kernel
theorem d_jdk_42_method_66_code_22 : decode jdk_42_method_66_code 22 = .ok (.ifCond .eq 14, 3) := by decide +kernel
theorem d_jdk_42_method_66_code_25 : decode jdk_42_method_66_code 25 = .ok (.aload_n 0, 1) := by decide +kernel
theorem d_jdk_42_method_66_code_26 : decode jdk_42_method_66_code 26 = .ok (.getfield 15, 3) := by decide +kernel
theorem d_jdk_42_method_66_code_29 : decode jdk_42_method_66_code 29 = .ok (.aload_n 2, 1) := by decide +kernel
theorem d_jdk_42_method_66_code_30 : decode jdk_42_method_66_code 30 = .ok (.getfield 15, 3) := by decide +kernel
theorem d_jdk_42_method_66_code_33 : decode jdk_42_method_66_code 33 = .ok (.if_icmp .ne 21, 3) := by decide +kernel
theorem d_jdk_42_method_66_code_36 : decode jdk_42_method_66_code 36 = .ok (.aload_n 0, 1) := by decide +kernel
theorem d_jdk_42_method_66_code_37 : decode jdk_42_method_66_code 37 = .ok (.getfield 9, 3) := by decide +kernel
theorem d_jdk_42_method_66_code_40 : decode jdk_42_method_66_code 40 = .ok (.aload_n 2, 1) := by decide +kernel
theorem d_jdk_42_method_66_code_41 : decode jdk_42_method_66_code 41 = .ok (.getfield 9, 3) := by decide +kernel
theorem d_jdk_42_method_66_code_44 : decode jdk_42_method_66_code 44 = .ok (.invokestatic 541, 3) := by decide +kernel
theorem pd___B_B_Z : parseMethodDescriptor "([B[B)Z" = some ⟨[(.array .byte), (.array .byte)], some .boolean⟩ := by decide +kernel
theorem d_jdk_42_method_66_code_47 : decode jdk_42_method_66_code 47 = .ok (.ifCond .eq 7, 3) := by decide +kernel
theorem d_jdk_42_method_66_code_54 : decode jdk_42_method_66_code 54 = .ok (.iconst 0, 1) := by decide +kernel
theorem d_jdk_42_method_66_code_55 : decode jdk_42_method_66_code 55 = .ok (.ireturn, 1) := by decide +kernel
theorem d_jdk_42_method_66_code_50 : decode jdk_42_method_66_code 50 = .ok (.iconst 1, 1) := by decide +kernel
theorem d_jdk_42_method_66_code_51 : decode jdk_42_method_66_code 51 = .ok (.goto 4, 3) := by decide +kernel
theorem ef_rmSeq00 (m : MethodId) (a1 : Addr) (a2 : Addr) : entryFrame m #[(.ref a1), (.ref a2)] 3 = mkF m 0 #[.val (.ref a1), .val (.ref a2), .unset] [] := by first | (simp [entryFrame, mkF, argsToLocals, Value.category]; done) | rfl
def Q_rmSeq00 (Z : State) (a1 : Addr) (a2 : Addr) (b1 : Addr) (b2 : Addr) (k1 : ClassId) (k2 : ClassId) (cs : Int32) (h0 : Heap) (n0 : Nat) (v : Option Value) (h : Heap) (L : List Loc) : Prop := v = some (.int (1 : Int32)) ∧ Fr n0 L ∧ h = h0
set_option maxRecDepth 65536 in
set_option maxHeartbeats 40000000 in
theorem rmSeq00 (l : Launch) (Z : State) (a0 : Array Value) (hw : ∀ d ∈ tables_1, d.before a0 Z = true) (ws : List Jvm.Cond) (a1 : Addr) (a2 : Addr) (b1 : Addr) (b2 : Addr) (k1 : ClassId) (k2 : ClassId) (cs : Int32) (h0 : Heap) (n0 : Nat) (Z0 : n0 ≤ h0.size) (P0 : Exa Z h0 a1 "java/lang/String") (P1 : Exa Z h0 a2 "java/lang/String") (P2 : Fld Z h0 a1 "java/lang/String" "coder" "B" (.int (0 : Int32))) (P3 : Fld Z h0 a2 "java/lang/String" "coder" "B" (.int (0 : Int32))) (P4 : Fld Z h0 a1 "java/lang/String" "value" "[B" (.ref b1)) (P5 : Fld Z h0 a2 "java/lang/String" "value" "[B" (.ref b2)) (P6 : Arv Z h0 b1 k1 .byte (0 : Int32) [] (.int (0 : Int32))) (P7 : Arv Z h0 b2 k2 .byte (0 : Int32) [] (.int (0 : Int32))) (ne_a1_a2 : a1 ≠ a2) (P9 : Sta Z h0 "java/lang/String" "COMPACT_STRINGS" "Z" (.int cs)) (hcs : ¬ (cs = (0 : Int32))) :
    MetFree l (⟨"java/lang/String", "equals", "(Ljava/lang/Object;)Z"⟩ : MethodName) (head1 (Jvm.Cond.code (⟨"java/lang/String", "equals", "(Ljava/lang/Object;)Z"⟩ : MethodName) jdk_42_method_66_code 3 (some .boolean) :: ws) ({ frames := 1, cells := 0, slots := 0, locals := 14 } : Room)) (fun a U => a = #[(.ref a1), (.ref a2)] ∧ Z.Warmed39 U.vm ∧ U.heap = h0) (fun _ _ _ _ _ => True) (fun _ U o U' => ∃ v L, o = .returned v ∧ Q_rmSeq00 Z a1 a2 b1 b2 k1 k2 cs h0 n0 v U'.heap L ∧ FrameEnd U o U' L ({ frames := 1, cells := 0, slots := 0, locals := 14 } : Room).cells ({ frames := 1, cells := 0, slots := 0, locals := 14 } : Room).slots) := by
  refine MetFree.of_bodySF (plainFor_of_name pn_java_lang_String) hisR ?_
  intro p e s m args below meth c s₁ Bd hml0 hP hK
  obtain ⟨rfl, hZ, hh⟩ := hP
  have hx := Bd.exec
  have hby := Bd.bytes
  have hml : c.maxLocals = 3 := hml0
  have hown : s.vm.findClass "java/lang/String" = some m.cls := findClass_of_methodNamed Bd.named
  have hnm := (name_of_methodNamed Bd.named Bd.method).1
  have X0 : Stand p l e ({ frames := 1, cells := 0, slots := 0, locals := 14 } : Room) s m #[(.ref a1), (.ref a2)] below meth c s₁ [] 0 0 := Stand.of_body Bd
  have e0 : s₁.heap = h0 := by rw [← hh, Bd.state]; rfl
  have N0 := Fr.nil n0
  refine own_fw (A' := (s₁.setTop (mkF m 0 #[.val (.ref a1), .val (.ref a2), .unset] []))) (fun t k => castTop (ef_rmSeq00 m a1 a2) k) ?_
  refine own_fw (A' := (s₁.setTop (mkF m 1 #[.val (.ref a1), .val (.ref a2), .unset] [(.ref a1)]))) (fun t k => XS.aloadN X0.here hx rfl (hb hby d_jdk_42_method_66_code_0) rfl rfl k) ?_
  refine own_fw (A' := (s₁.setTop (mkF m 2 #[.val (.ref a1), .val (.ref a2), .unset] [(.ref a2), (.ref a1)]))) (fun t k => XS.aloadN X0.here hx rfl (hb hby d_jdk_42_method_66_code_1) rfl rfl k) ?_
  refine own_fw (A' := (s₁.setTop (mkF m 7 #[.val (.ref a1), .val (.ref a2), .unset] []))) (fun t k => Jvm.RoadKit.acmp (g := (mkF m 2 #[.val (.ref a1), .val (.ref a2), .unset] [(.ref a2), (.ref a1)])) X0 hx rfl rfl rfl (pc0 := 2) (pc' := 7) (same := false) rfl (hb hby d_jdk_42_method_66_code_2) rfl (decide_eq_false (fun q => ne_a1_a2 (Value.ref.inj q))) (by decide) (by decide) k) ?_
  refine own_fw (A' := (s₁.setTop (mkF m 8 #[.val (.ref a1), .val (.ref a2), .unset] [(.ref a2)]))) (fun t k => XS.aloadN X0.here hx rfl (hb hby d_jdk_42_method_66_code_7) rfl rfl k) ?_
  obtain ⟨T1, X1, e1, st1⟩ := instY X0 hx hZ hown (hw _ (List.mem_of_getElem? (i := 75) rfl)) e0 (Ins.self P1) (g := (mkF m 8 #[.val (.ref a1), .val (.ref a2), .unset] [(.ref a2)])) rfl rfl (hb hby d_jdk_42_method_66_code_8)
  refine own_fw (A' := (T1.setTop (mkF m 11 #[.val (.ref a1), .val (.ref a2), .unset] [(.int (1 : Int32))]))) (fun t k => st1 _ k) ?_
  refine own_fw (A' := (T1.setTop (mkF m 14 #[.val (.ref a1), .val (.ref a2), .unset] []))) (fun t k => XS.ifNo X1.here hx rfl (hb hby d_jdk_42_method_66_code_11) rfl (XT.i0_eq_f (by decide)) k) ?_
  refine own_fw (A' := (T1.setTop (mkF m 15 #[.val (.ref a1), .val (.ref a2), .unset] [(.ref a2)]))) (fun t k => XS.aloadN X1.here hx rfl (hb hby d_jdk_42_method_66_code_14) rfl rfl k) ?_
  obtain ⟨T2, X2, e2, st2⟩ := castY X1 hx hZ hown (hw _ (List.mem_of_getElem? (i := 75) rfl)) e1 (Ins.self P1) (g := (mkF m 15 #[.val (.ref a1), .val (.ref a2), .unset] [(.ref a2)])) rfl rfl (hb hby d_jdk_42_method_66_code_15)
  refine own_fw (A' := (T2.setTop (mkF m 18 #[.val (.ref a1), .val (.ref a2), .unset] [(.ref a2)]))) (fun t k => st2 _ k) ?_
  refine own_fw (A' := (T2.setTop (mkF m 19 #[.val (.ref a1), .val (.ref a2), .val (.ref a2)] []))) (fun t k => XS.astoreN X2.here hx rfl (hb hby d_jdk_42_method_66_code_18) rfl rfl (l' := #[.val (.ref a1), .val (.ref a2), .val (.ref a2)]) rfl k) ?_
  obtain ⟨T3, X3, e3, st3⟩ := getS2 X2 hx hZ hown (host := "") (Or.inl (hw _ (List.mem_of_getElem? (i := 32) rfl))) Via.refl e2 P9 (g := (mkF m 19 #[.val (.ref a1), .val (.ref a2), .val (.ref a2)] [])) rfl (hb hby d_jdk_42_method_66_code_19)
  refine own_fw (A' := (T3.setTop (mkF m 22 #[.val (.ref a1), .val (.ref a2), .val (.ref a2)] [(.int cs)]))) (fun t k => st3 _ k) ?_
  refine own_fw (A' := (T3.setTop (mkF m 25 #[.val (.ref a1), .val (.ref a2), .val (.ref a2)] []))) (fun t k => XS.ifNo X3.here hx rfl (hb hby d_jdk_42_method_66_code_22) rfl (XT.i0_eq_f hcs) k) ?_
  refine own_fw (A' := (T3.setTop (mkF m 26 #[.val (.ref a1), .val (.ref a2), .val (.ref a2)] [(.ref a1)]))) (fun t k => XS.aloadN X3.here hx rfl (hb hby d_jdk_42_method_66_code_25) rfl rfl k) ?_
  obtain ⟨T4, X4, e4, st4⟩ := getF X3 hx hZ hown (host := "") (Or.inl (hw _ (List.mem_of_getElem? (i := 31) rfl))) Via.refl e3 P2 (g := (mkF m 26 #[.val (.ref a1), .val (.ref a2), .val (.ref a2)] [(.ref a1)])) rfl rfl (hb hby d_jdk_42_method_66_code_26)
  refine own_fw (A' := (T4.setTop (mkF m 29 #[.val (.ref a1), .val (.ref a2), .val (.ref a2)] [(.int (0 : Int32))]))) (fun t k => st4 _ k) ?_
  refine own_fw (A' := (T4.setTop (mkF m 30 #[.val (.ref a1), .val (.ref a2), .val (.ref a2)] [(.ref a2), (.int (0 : Int32))]))) (fun t k => XS.aloadN X4.here hx rfl (hb hby d_jdk_42_method_66_code_29) rfl rfl k) ?_
  obtain ⟨T5, X5, e5, st5⟩ := getF X4 hx hZ hown (host := "") (Or.inl (hw _ (List.mem_of_getElem? (i := 31) rfl))) Via.refl e4 P3 (g := (mkF m 30 #[.val (.ref a1), .val (.ref a2), .val (.ref a2)] [(.ref a2), (.int (0 : Int32))])) rfl rfl (hb hby d_jdk_42_method_66_code_30)
  refine own_fw (A' := (T5.setTop (mkF m 33 #[.val (.ref a1), .val (.ref a2), .val (.ref a2)] [(.int (0 : Int32)), (.int (0 : Int32))]))) (fun t k => st5 _ k) ?_
  refine own_fw (A' := (T5.setTop (mkF m 36 #[.val (.ref a1), .val (.ref a2), .val (.ref a2)] []))) (fun t k => XS.icmpNo X5.here hx rfl (hb hby d_jdk_42_method_66_code_33) rfl (XT.ii_ne_f rfl) k) ?_
  refine own_fw (A' := (T5.setTop (mkF m 37 #[.val (.ref a1), .val (.ref a2), .val (.ref a2)] [(.ref a1)]))) (fun t k => XS.aloadN X5.here hx rfl (hb hby d_jdk_42_method_66_code_36) rfl rfl k) ?_
  obtain ⟨T6, X6, e6, st6⟩ := getF X5 hx hZ hown (host := "") (Or.inl (hw _ (List.mem_of_getElem? (i := 30) rfl))) Via.refl e5 P4 (g := (mkF m 37 #[.val (.ref a1), .val (.ref a2), .val (.ref a2)] [(.ref a1)])) rfl rfl (hb hby d_jdk_42_method_66_code_37)
  refine own_fw (A' := (T6.setTop (mkF m 40 #[.val (.ref a1), .val (.ref a2), .val (.ref a2)] [(.ref b1)]))) (fun t k => st6 _ k) ?_
  refine own_fw (A' := (T6.setTop (mkF m 41 #[.val (.ref a1), .val (.ref a2), .val (.ref a2)] [(.ref a2), (.ref b1)]))) (fun t k => XS.aloadN X6.here hx rfl (hb hby d_jdk_42_method_66_code_40) rfl rfl k) ?_
  obtain ⟨T7, X7, e7, st7⟩ := getF X6 hx hZ hown (host := "") (Or.inl (hw _ (List.mem_of_getElem? (i := 30) rfl))) Via.refl e6 P5 (g := (mkF m 41 #[.val (.ref a1), .val (.ref a2), .val (.ref a2)] [(.ref a2), (.ref b1)])) rfl rfl (hb hby d_jdk_42_method_66_code_41)
  refine own_fw (A' := (T7.setTop (mkF m 44 #[.val (.ref a1), .val (.ref a2), .val (.ref a2)] [(.ref b2), (.ref b1)]))) (fun t k => st7 _ k) ?_
  obtain ⟨_, _, ⟨T8, L8, k8, n8⟩, -, X8, ⟨Lc8, hQ8, l8, y8, z8⟩, st8⟩ := Jvm.LawKit.callS X7 hx (y := (⟨"java/lang/StringLatin1", "equals", "([B[B)Z"⟩ : MethodName)) hown (mvT hZ (hw _ (List.mem_of_getElem? (i := 76) rfl))) (mvT hZ (hw _ (List.mem_of_getElem? (i := 77) rfl))) (mvT hZ (hw _ (List.mem_of_getElem? (i := 78) rfl))) (mvT hZ (hw _ (List.mem_of_getElem? (i := 79) rfl))) (by decide) (backOf (W := 0) (rmLeq00 l Z a0 hw [] b1 b2 k1 k2 h0 n0 Z0 P6 P7) hZ (hw _ (List.mem_of_getElem? (i := 79) rfl)) (hw _ (List.mem_of_getElem? (i := 78) rfl)) (by decide) (by decide)) (g := (mkF m 44 #[.val (.ref a1), .val (.ref a2), .val (.ref a2)] [(.ref b2), (.ref b1)])) rfl (by rw [hml]; rfl) (argsL := [(.ref b1), (.ref b2)]) (rest := []) (lenOf pd___B_B_Z rfl) rfl (by show 2 * 0 + _ ≤ _; exact Nat.le_of_eq rfl) (hb hby d_jdk_42_method_66_code_44) (fun _ _ => ⟨rfl, e7, (by decide : 0 + 0 ≤ _), (by decide : 0 + 0 ≤ _)⟩)
  dsimp only [Pt.U, Pt.locs, Pt.cells, Pt.slots] at X8 l8 y8 z8 st8 hQ8
  subst l8 y8 z8
  obtain ⟨rfl, Nq8, e8⟩ := hQ8
  have Nf8 := Fr.app N0 Nq8
  refine own_fw (A' := (T8.setTop (mkF m 47 #[.val (.ref a1), .val (.ref a2), .val (.ref a2)] [(.int (1 : Int32))]))) (fun t k => st8 _ k) ?_
  by_cases hc9 : (1 : Int32) = (0 : Int32)
  · refine own_fw (A' := (T8.setTop (mkF m 54 #[.val (.ref a1), .val (.ref a2), .val (.ref a2)] []))) (fun t k => XS.ifYes X8.here hx rfl (pc0 := 47) (pc' := 54) rfl (hb hby d_jdk_42_method_66_code_47) rfl (XT.i0_eq_t hc9) (by decide) (by decide) k) ?_
    refine own_fw (A' := (T8.setTop (mkF m 55 #[.val (.ref a1), .val (.ref a2), .val (.ref a2)] [(.int (0 : Int32))]))) (fun t k => XS.iconst X8.here hx rfl (hb hby d_jdk_42_method_66_code_54) k) ?_
    obtain ⟨fs, hr, hrun, hended, hW, hsame⟩ := X8.leave (v := some (.int (0 : Int32))) (fun h => by rw [Bd.returns] at h; cases h)
    refine ⟨_, _, ?_, hrun, hended, _, _, rfl, ?_, ⟨_, rfl⟩, hW, hsame.mono (by decide) (by decide)⟩
    · exact retOut X8 hx Bd.returns rfl (Or.inl ⟨rfl, by simp, _, rfl⟩) (hb hby d_jdk_42_method_66_code_55) hr
    · show Q_rmSeq00 Z a1 a2 b1 b2 k1 k2 cs h0 n0 _ T8.heap _
      rw [e8]
      exact ⟨(by first | rfl | (have q := hc9; revert q; (repeat' split) <;> simp)), Nf8, rfl⟩
  · refine own_fw (A' := (T8.setTop (mkF m 50 #[.val (.ref a1), .val (.ref a2), .val (.ref a2)] []))) (fun t k => XS.ifNo X8.here hx rfl (hb hby d_jdk_42_method_66_code_47) rfl (XT.i0_eq_f hc9) k) ?_
    refine own_fw (A' := (T8.setTop (mkF m 51 #[.val (.ref a1), .val (.ref a2), .val (.ref a2)] [(.int (1 : Int32))]))) (fun t k => XS.iconst X8.here hx rfl (hb hby d_jdk_42_method_66_code_50) k) ?_
    refine own_fw (A' := (T8.setTop (mkF m 55 #[.val (.ref a1), .val (.ref a2), .val (.ref a2)] [(.int (1 : Int32))]))) (fun t k => XS.goto X8.here hx rfl (pc0 := 51) (pc' := 55) rfl (hb hby d_jdk_42_method_66_code_51) (by decide) (by decide) k) ?_
    obtain ⟨fs, hr, hrun, hended, hW, hsame⟩ := X8.leave (v := some (.int (1 : Int32))) (fun h => by rw [Bd.returns] at h; cases h)
    refine ⟨_, _, ?_, hrun, hended, _, _, rfl, ?_, ⟨_, rfl⟩, hW, hsame.mono (by decide) (by decide)⟩
    · exact retOut X8 hx Bd.returns rfl (Or.inl ⟨rfl, by simp, _, rfl⟩) (hb hby d_jdk_42_method_66_code_55) hr
    · show Q_rmSeq00 Z a1 a2 b1 b2 k1 k2 cs h0 n0 _ T8.heap _
      rw [e8]
      exact ⟨rfl, Nf8, rfl⟩
theorem d_jdk_43_method_13_code_34 : decode jdk_43_method_13_code 34 = .ok (.iconst 0, 1) := by decide +kernel
theorem d_jdk_43_method_13_code_35 : decode jdk_43_method_13_code 35 = .ok (.ireturn, 1) := by decide +kernel
theorem ef_rmLeq01 (m : MethodId) (a1 : Addr) (a2 : Addr) : entryFrame m #[(.ref a1), (.ref a2)] 3 = mkF m 0 #[.val (.ref a1), .val (.ref a2), .unset] [] := by first | (simp [entryFrame, mkF, argsToLocals, Value.category]; done) | rfl
def Q_rmLeq01 (Z : State) (a1 : Addr) (a2 : Addr) (k1 : ClassId) (k2 : ClassId) (y0 : Int32) (h0 : Heap) (n0 : Nat) (v : Option Value) (h : Heap) (L : List Loc) : Prop := v = some (.int (0 : Int32)) ∧ Fr n0 L ∧ h = h0
set_option maxRecDepth 65536 in
set_option maxHeartbeats 40000000 in
theorem rmLeq01 (l : Launch) (Z : State) (a0 : Array Value) (hw : ∀ d ∈ tables_1, d.before a0 Z = true) (ws : List Jvm.Cond) (a1 : Addr) (a2 : Addr) (k1 : ClassId) (k2 : ClassId) (y0 : Int32) (h0 : Heap) (n0 : Nat) (Z0 : n0 ≤ h0.size) (P0 : Arv Z h0 a1 k1 .byte (0 : Int32) [] (.int (0 : Int32))) (P1 : Arv Z h0 a2 k2 .byte (1 : Int32) [(.int y0)] (.int (0 : Int32))) :
    MetFree l (⟨"java/lang/StringLatin1", "equals", "([B[B)Z"⟩ : MethodName) (head1 (Jvm.Cond.code (⟨"java/lang/StringLatin1", "equals", "([B[B)Z"⟩ : MethodName) jdk_43_method_13_code 3 (some .boolean) :: ws) ({ frames := 0, cells := 0, slots := 0, locals := 0 } : Room)) (fun a U => a = #[(.ref a1), (.ref a2)] ∧ Z.Warmed39 U.vm ∧ U.heap = h0) (fun _ _ _ _ _ => True) (fun _ U o U' => ∃ v L, o = .returned v ∧ Q_rmLeq01 Z a1 a2 k1 k2 y0 h0 n0 v U'.heap L ∧ FrameEnd U o U' L ({ frames := 0, cells := 0, slots := 0, locals := 0 } : Room).cells ({ frames := 0, cells := 0, slots := 0, locals := 0 } : Room).slots) := by
  refine MetFree.of_bodySF (plainFor_of_name pn_java_lang_StringLatin1) hisR ?_
  intro p e s m args below meth c s₁ Bd hml0 hP hK
  obtain ⟨rfl, hZ, hh⟩ := hP
  have hx := Bd.exec
  have hby := Bd.bytes
  have hml : c.maxLocals = 3 := hml0
  have hown : s.vm.findClass "java/lang/StringLatin1" = some m.cls := findClass_of_methodNamed Bd.named
  have hnm := (name_of_methodNamed Bd.named Bd.method).1
  have X0 : Stand p l e ({ frames := 0, cells := 0, slots := 0, locals := 0 } : Room) s m #[(.ref a1), (.ref a2)] below meth c s₁ [] 0 0 := Stand.of_body Bd
  have e0 : s₁.heap = h0 := by rw [← hh, Bd.state]; rfl
  have N0 := Fr.nil n0
  refine own_fw (A' := (s₁.setTop (mkF m 0 #[.val (.ref a1), .val (.ref a2), .unset] []))) (fun t k => castTop (ef_rmLeq01 m a1 a2) k) ?_
  refine own_fw (A' := (s₁.setTop (mkF m 1 #[.val (.ref a1), .val (.ref a2), .unset] [(.ref a1)]))) (fun t k => XS.aloadN X0.here hx rfl (hb hby d_jdk_43_method_13_code_0) rfl rfl k) ?_
  obtain ⟨cl1, Ar1, q1, S1, M1, H1, G1⟩ := id P0
  refine own_fw (A' := (s₁.setTop (mkF m 2 #[.val (.ref a1), .val (.ref a2), .unset] [(.int (0 : Int32))]))) (fun t k => X0.arraylength hx (by rw [e0]; exact Ar1.1) (State.isArrayOf_alike hZ.alike Ar1.2.1) (g := (mkF m 1 #[.val (.ref a1), .val (.ref a2), .unset] [(.ref a1)])) rfl rfl (hb hby d_jdk_43_method_13_code_1) _ (by rw [len_of S1 M1]; exact k)) ?_
  refine own_fw (A' := (s₁.setTop (mkF m 3 #[.val (.ref a1), .val (.ref a2), .unset] [(.ref a2), (.int (0 : Int32))]))) (fun t k => XS.aloadN X0.here hx rfl (hb hby d_jdk_43_method_13_code_2) rfl rfl k) ?_
  obtain ⟨cl2, Ar2, q2, S2, M2, H2, G2⟩ := id P1
  refine own_fw (A' := (s₁.setTop (mkF m 4 #[.val (.ref a1), .val (.ref a2), .unset] [(.int (1 : Int32)), (.int (0 : Int32))]))) (fun t k => X0.arraylength hx (by rw [e0]; exact Ar2.1) (State.isArrayOf_alike hZ.alike Ar2.2.1) (g := (mkF m 3 #[.val (.ref a1), .val (.ref a2), .unset] [(.ref a2), (.int (0 : Int32))])) rfl rfl (hb hby d_jdk_43_method_13_code_3) _ (by rw [len_of S2 M2]; exact k)) ?_
  refine own_fw (A' := (s₁.setTop (mkF m 34 #[.val (.ref a1), .val (.ref a2), .unset] []))) (fun t k => XS.icmpYes X0.here hx rfl (pc0 := 4) (pc' := 34) rfl (hb hby d_jdk_43_method_13_code_4) rfl (XT.ii_ne_t (by decide)) (by decide) (by decide) k) ?_
  refine own_fw (A' := (s₁.setTop (mkF m 35 #[.val (.ref a1), .val (.ref a2), .unset] [(.int (0 : Int32))]))) (fun t k => XS.iconst X0.here hx rfl (hb hby d_jdk_43_method_13_code_34) k) ?_
  obtain ⟨fs, hr, hrun, hended, hW, hsame⟩ := X0.leave (v := some (.int (0 : Int32))) (fun h => by rw [Bd.returns] at h; cases h)
  refine ⟨_, _, ?_, hrun, hended, _, _, rfl, ?_, ⟨_, rfl⟩, hW, hsame.mono (by decide) (by decide)⟩
  · exact retOut X0 hx Bd.returns rfl (Or.inl ⟨rfl, by simp, _, rfl⟩) (hb hby d_jdk_43_method_13_code_35) hr
  · show Q_rmLeq01 Z a1 a2 k1 k2 y0 h0 n0 _ s₁.heap _
    rw [e0]
    exact ⟨rfl, N0, rfl⟩
theorem ef_rmSeq01 (m : MethodId) (a1 : Addr) (a2 : Addr) : entryFrame m #[(.ref a1), (.ref a2)] 3 = mkF m 0 #[.val (.ref a1), .val (.ref a2), .unset] [] := by first | (simp [entryFrame, mkF, argsToLocals, Value.category]; done) | rfl
def Q_rmSeq01 (Z : State) (a1 : Addr) (a2 : Addr) (b1 : Addr) (b2 : Addr) (k1 : ClassId) (k2 : ClassId) (cs : Int32) (y0 : Int32) (h0 : Heap) (n0 : Nat) (v : Option Value) (h : Heap) (L : List Loc) : Prop := v = some (.int (0 : Int32)) ∧ Fr n0 L ∧ h = h0
set_option maxRecDepth 65536 in
set_option maxHeartbeats 40000000 in
theorem rmSeq01 (l : Launch) (Z : State) (a0 : Array Value) (hw : ∀ d ∈ tables_1, d.before a0 Z = true) (ws : List Jvm.Cond) (a1 : Addr) (a2 : Addr) (b1 : Addr) (b2 : Addr) (k1 : ClassId) (k2 : ClassId) (cs : Int32) (y0 : Int32) (h0 : Heap) (n0 : Nat) (Z0 : n0 ≤ h0.size) (P0 : Exa Z h0 a1 "java/lang/String") (P1 : Exa Z h0 a2 "java/lang/String") (P2 : Fld Z h0 a1 "java/lang/String" "coder" "B" (.int (0 : Int32))) (P3 : Fld Z h0 a2 "java/lang/String" "coder" "B" (.int (0 : Int32))) (P4 : Fld Z h0 a1 "java/lang/String" "value" "[B" (.ref b1)) (P5 : Fld Z h0 a2 "java/lang/String" "value" "[B" (.ref b2)) (P6 : Arv Z h0 b1 k1 .byte (0 : Int32) [] (.int (0 : Int32))) (P7 : Arv Z h0 b2 k2 .byte (1 : Int32) [(.int y0)] (.int (0 : Int32))) (ne_a1_a2 : a1 ≠ a2) (P9 : Sta Z h0 "java/lang/String" "COMPACT_STRINGS" "Z" (.int cs)) (hcs : ¬ (cs = (0 : Int32))) :
    MetFree l (⟨"java/lang/String", "equals", "(Ljava/lang/Object;)Z"⟩ : MethodName) (head1 (Jvm.Cond.code (⟨"java/lang/String", "equals", "(Ljava/lang/Object;)Z"⟩ : MethodName) jdk_42_method_66_code 3 (some .boolean) :: ws) ({ frames := 1, cells := 0, slots := 0, locals := 14 } : Room)) (fun a U => a = #[(.ref a1), (.ref a2)] ∧ Z.Warmed39 U.vm ∧ U.heap = h0) (fun _ _ _ _ _ => True) (fun _ U o U' => ∃ v L, o = .returned v ∧ Q_rmSeq01 Z a1 a2 b1 b2 k1 k2 cs y0 h0 n0 v U'.heap L ∧ FrameEnd U o U' L ({ frames := 1, cells := 0, slots := 0, locals := 14 } : Room).cells ({ frames := 1, cells := 0, slots := 0, locals := 14 } : Room).slots) := by
  refine MetFree.of_bodySF (plainFor_of_name pn_java_lang_String) hisR ?_
  intro p e s m args below meth c s₁ Bd hml0 hP hK
  obtain ⟨rfl, hZ, hh⟩ := hP
  have hx := Bd.exec
  have hby := Bd.bytes
  have hml : c.maxLocals = 3 := hml0
  have hown : s.vm.findClass "java/lang/String" = some m.cls := findClass_of_methodNamed Bd.named
  have hnm := (name_of_methodNamed Bd.named Bd.method).1
  have X0 : Stand p l e ({ frames := 1, cells := 0, slots := 0, locals := 14 } : Room) s m #[(.ref a1), (.ref a2)] below meth c s₁ [] 0 0 := Stand.of_body Bd
  have e0 : s₁.heap = h0 := by rw [← hh, Bd.state]; rfl
  have N0 := Fr.nil n0
  refine own_fw (A' := (s₁.setTop (mkF m 0 #[.val (.ref a1), .val (.ref a2), .unset] []))) (fun t k => castTop (ef_rmSeq01 m a1 a2) k) ?_
  refine own_fw (A' := (s₁.setTop (mkF m 1 #[.val (.ref a1), .val (.ref a2), .unset] [(.ref a1)]))) (fun t k => XS.aloadN X0.here hx rfl (hb hby d_jdk_42_method_66_code_0) rfl rfl k) ?_
  refine own_fw (A' := (s₁.setTop (mkF m 2 #[.val (.ref a1), .val (.ref a2), .unset] [(.ref a2), (.ref a1)]))) (fun t k => XS.aloadN X0.here hx rfl (hb hby d_jdk_42_method_66_code_1) rfl rfl k) ?_
  refine own_fw (A' := (s₁.setTop (mkF m 7 #[.val (.ref a1), .val (.ref a2), .unset] []))) (fun t k => Jvm.RoadKit.acmp (g := (mkF m 2 #[.val (.ref a1), .val (.ref a2), .unset] [(.ref a2), (.ref a1)])) X0 hx rfl rfl rfl (pc0 := 2) (pc' := 7) (same := false) rfl (hb hby d_jdk_42_method_66_code_2) rfl (decide_eq_false (fun q => ne_a1_a2 (Value.ref.inj q))) (by decide) (by decide) k) ?_
  refine own_fw (A' := (s₁.setTop (mkF m 8 #[.val (.ref a1), .val (.ref a2), .unset] [(.ref a2)]))) (fun t k => XS.aloadN X0.here hx rfl (hb hby d_jdk_42_method_66_code_7) rfl rfl k) ?_
  obtain ⟨T1, X1, e1, st1⟩ := instY X0 hx hZ hown (hw _ (List.mem_of_getElem? (i := 75) rfl)) e0 (Ins.self P1) (g := (mkF m 8 #[.val (.ref a1), .val (.ref a2), .unset] [(.ref a2)])) rfl rfl (hb hby d_jdk_42_method_66_code_8)
  refine own_fw (A' := (T1.setTop (mkF m 11 #[.val (.ref a1), .val (.ref a2), .unset] [(.int (1 : Int32))]))) (fun t k => st1 _ k) ?_
  refine own_fw (A' := (T1.setTop (mkF m 14 #[.val (.ref a1), .val (.ref a2), .unset] []))) (fun t k => XS.ifNo X1.here hx rfl (hb hby d_jdk_42_method_66_code_11) rfl (XT.i0_eq_f (by decide)) k) ?_
  refine own_fw (A' := (T1.setTop (mkF m 15 #[.val (.ref a1), .val (.ref a2), .unset] [(.ref a2)]))) (fun t k => XS.aloadN X1.here hx rfl (hb hby d_jdk_42_method_66_code_14) rfl rfl k) ?_
  obtain ⟨T2, X2, e2, st2⟩ := castY X1 hx hZ hown (hw _ (List.mem_of_getElem? (i := 75) rfl)) e1 (Ins.self P1) (g := (mkF m 15 #[.val (.ref a1), .val (.ref a2), .unset] [(.ref a2)])) rfl rfl (hb hby d_jdk_42_method_66_code_15)
  refine own_fw (A' := (T2.setTop (mkF m 18 #[.val (.ref a1), .val (.ref a2), .unset] [(.ref a2)]))) (fun t k => st2 _ k) ?_
  refine own_fw (A' := (T2.setTop (mkF m 19 #[.val (.ref a1), .val (.ref a2), .val (.ref a2)] []))) (fun t k => XS.astoreN X2.here hx rfl (hb hby d_jdk_42_method_66_code_18) rfl rfl (l' := #[.val (.ref a1), .val (.ref a2), .val (.ref a2)]) rfl k) ?_
  obtain ⟨T3, X3, e3, st3⟩ := getS2 X2 hx hZ hown (host := "") (Or.inl (hw _ (List.mem_of_getElem? (i := 32) rfl))) Via.refl e2 P9 (g := (mkF m 19 #[.val (.ref a1), .val (.ref a2), .val (.ref a2)] [])) rfl (hb hby d_jdk_42_method_66_code_19)
  refine own_fw (A' := (T3.setTop (mkF m 22 #[.val (.ref a1), .val (.ref a2), .val (.ref a2)] [(.int cs)]))) (fun t k => st3 _ k) ?_
  refine own_fw (A' := (T3.setTop (mkF m 25 #[.val (.ref a1), .val (.ref a2), .val (.ref a2)] []))) (fun t k => XS.ifNo X3.here hx rfl (hb hby d_jdk_42_method_66_code_22) rfl (XT.i0_eq_f hcs) k) ?_
  refine own_fw (A' := (T3.setTop (mkF m 26 #[.val (.ref a1), .val (.ref a2), .val (.ref a2)] [(.ref a1)]))) (fun t k => XS.aloadN X3.here hx rfl (hb hby d_jdk_42_method_66_code_25) rfl rfl k) ?_
  obtain ⟨T4, X4, e4, st4⟩ := getF X3 hx hZ hown (host := "") (Or.inl (hw _ (List.mem_of_getElem? (i := 31) rfl))) Via.refl e3 P2 (g := (mkF m 26 #[.val (.ref a1), .val (.ref a2), .val (.ref a2)] [(.ref a1)])) rfl rfl (hb hby d_jdk_42_method_66_code_26)
  refine own_fw (A' := (T4.setTop (mkF m 29 #[.val (.ref a1), .val (.ref a2), .val (.ref a2)] [(.int (0 : Int32))]))) (fun t k => st4 _ k) ?_
  refine own_fw (A' := (T4.setTop (mkF m 30 #[.val (.ref a1), .val (.ref a2), .val (.ref a2)] [(.ref a2), (.int (0 : Int32))]))) (fun t k => XS.aloadN X4.here hx rfl (hb hby d_jdk_42_method_66_code_29) rfl rfl k) ?_
  obtain ⟨T5, X5, e5, st5⟩ := getF X4 hx hZ hown (host := "") (Or.inl (hw _ (List.mem_of_getElem? (i := 31) rfl))) Via.refl e4 P3 (g := (mkF m 30 #[.val (.ref a1), .val (.ref a2), .val (.ref a2)] [(.ref a2), (.int (0 : Int32))])) rfl rfl (hb hby d_jdk_42_method_66_code_30)
  refine own_fw (A' := (T5.setTop (mkF m 33 #[.val (.ref a1), .val (.ref a2), .val (.ref a2)] [(.int (0 : Int32)), (.int (0 : Int32))]))) (fun t k => st5 _ k) ?_
  refine own_fw (A' := (T5.setTop (mkF m 36 #[.val (.ref a1), .val (.ref a2), .val (.ref a2)] []))) (fun t k => XS.icmpNo X5.here hx rfl (hb hby d_jdk_42_method_66_code_33) rfl (XT.ii_ne_f rfl) k) ?_
  refine own_fw (A' := (T5.setTop (mkF m 37 #[.val (.ref a1), .val (.ref a2), .val (.ref a2)] [(.ref a1)]))) (fun t k => XS.aloadN X5.here hx rfl (hb hby d_jdk_42_method_66_code_36) rfl rfl k) ?_
  obtain ⟨T6, X6, e6, st6⟩ := getF X5 hx hZ hown (host := "") (Or.inl (hw _ (List.mem_of_getElem? (i := 30) rfl))) Via.refl e5 P4 (g := (mkF m 37 #[.val (.ref a1), .val (.ref a2), .val (.ref a2)] [(.ref a1)])) rfl rfl (hb hby d_jdk_42_method_66_code_37)
  refine own_fw (A' := (T6.setTop (mkF m 40 #[.val (.ref a1), .val (.ref a2), .val (.ref a2)] [(.ref b1)]))) (fun t k => st6 _ k) ?_
  refine own_fw (A' := (T6.setTop (mkF m 41 #[.val (.ref a1), .val (.ref a2), .val (.ref a2)] [(.ref a2), (.ref b1)]))) (fun t k => XS.aloadN X6.here hx rfl (hb hby d_jdk_42_method_66_code_40) rfl rfl k) ?_
  obtain ⟨T7, X7, e7, st7⟩ := getF X6 hx hZ hown (host := "") (Or.inl (hw _ (List.mem_of_getElem? (i := 30) rfl))) Via.refl e6 P5 (g := (mkF m 41 #[.val (.ref a1), .val (.ref a2), .val (.ref a2)] [(.ref a2), (.ref b1)])) rfl rfl (hb hby d_jdk_42_method_66_code_41)
  refine own_fw (A' := (T7.setTop (mkF m 44 #[.val (.ref a1), .val (.ref a2), .val (.ref a2)] [(.ref b2), (.ref b1)]))) (fun t k => st7 _ k) ?_
  obtain ⟨_, _, ⟨T8, L8, k8, n8⟩, -, X8, ⟨Lc8, hQ8, l8, y8, z8⟩, st8⟩ := Jvm.LawKit.callS X7 hx (y := (⟨"java/lang/StringLatin1", "equals", "([B[B)Z"⟩ : MethodName)) hown (mvT hZ (hw _ (List.mem_of_getElem? (i := 76) rfl))) (mvT hZ (hw _ (List.mem_of_getElem? (i := 77) rfl))) (mvT hZ (hw _ (List.mem_of_getElem? (i := 78) rfl))) (mvT hZ (hw _ (List.mem_of_getElem? (i := 79) rfl))) (by decide) (backOf (W := 0) (rmLeq01 l Z a0 hw [] b1 b2 k1 k2 y0 h0 n0 Z0 P6 P7) hZ (hw _ (List.mem_of_getElem? (i := 79) rfl)) (hw _ (List.mem_of_getElem? (i := 78) rfl)) (by decide) (by decide)) (g := (mkF m 44 #[.val (.ref a1), .val (.ref a2), .val (.ref a2)] [(.ref b2), (.ref b1)])) rfl (by rw [hml]; rfl) (argsL := [(.ref b1), (.ref b2)]) (rest := []) (lenOf pd___B_B_Z rfl) rfl (by show 2 * 0 + _ ≤ _; exact Nat.le_of_eq rfl) (hb hby d_jdk_42_method_66_code_44) (fun _ _ => ⟨rfl, e7, (by decide : 0 + 0 ≤ _), (by decide : 0 + 0 ≤ _)⟩)
  dsimp only [Pt.U, Pt.locs, Pt.cells, Pt.slots] at X8 l8 y8 z8 st8 hQ8
  subst l8 y8 z8
  obtain ⟨rfl, Nq8, e8⟩ := hQ8
  have Nf8 := Fr.app N0 Nq8
  refine own_fw (A' := (T8.setTop (mkF m 47 #[.val (.ref a1), .val (.ref a2), .val (.ref a2)] [(.int (0 : Int32))]))) (fun t k => st8 _ k) ?_
  by_cases hc9 : (0 : Int32) = (0 : Int32)
  · refine own_fw (A' := (T8.setTop (mkF m 54 #[.val (.ref a1), .val (.ref a2), .val (.ref a2)] []))) (fun t k => XS.ifYes X8.here hx rfl (pc0 := 47) (pc' := 54) rfl (hb hby d_jdk_42_method_66_code_47) rfl (XT.i0_eq_t hc9) (by decide) (by decide) k) ?_
    refine own_fw (A' := (T8.setTop (mkF m 55 #[.val (.ref a1), .val (.ref a2), .val (.ref a2)] [(.int (0 : Int32))]))) (fun t k => XS.iconst X8.here hx rfl (hb hby d_jdk_42_method_66_code_54) k) ?_
    obtain ⟨fs, hr, hrun, hended, hW, hsame⟩ := X8.leave (v := some (.int (0 : Int32))) (fun h => by rw [Bd.returns] at h; cases h)
    refine ⟨_, _, ?_, hrun, hended, _, _, rfl, ?_, ⟨_, rfl⟩, hW, hsame.mono (by decide) (by decide)⟩
    · exact retOut X8 hx Bd.returns rfl (Or.inl ⟨rfl, by simp, _, rfl⟩) (hb hby d_jdk_42_method_66_code_55) hr
    · show Q_rmSeq01 Z a1 a2 b1 b2 k1 k2 cs y0 h0 n0 _ T8.heap _
      rw [e8]
      exact ⟨rfl, Nf8, rfl⟩
  · refine own_fw (A' := (T8.setTop (mkF m 50 #[.val (.ref a1), .val (.ref a2), .val (.ref a2)] []))) (fun t k => XS.ifNo X8.here hx rfl (hb hby d_jdk_42_method_66_code_47) rfl (XT.i0_eq_f hc9) k) ?_
    refine own_fw (A' := (T8.setTop (mkF m 51 #[.val (.ref a1), .val (.ref a2), .val (.ref a2)] [(.int (1 : Int32))]))) (fun t k => XS.iconst X8.here hx rfl (hb hby d_jdk_42_method_66_code_50) k) ?_
    refine own_fw (A' := (T8.setTop (mkF m 55 #[.val (.ref a1), .val (.ref a2), .val (.ref a2)] [(.int (1 : Int32))]))) (fun t k => XS.goto X8.here hx rfl (pc0 := 51) (pc' := 55) rfl (hb hby d_jdk_42_method_66_code_51) (by decide) (by decide) k) ?_
    obtain ⟨fs, hr, hrun, hended, hW, hsame⟩ := X8.leave (v := some (.int (1 : Int32))) (fun h => by rw [Bd.returns] at h; cases h)
    refine ⟨_, _, ?_, hrun, hended, _, _, rfl, ?_, ⟨_, rfl⟩, hW, hsame.mono (by decide) (by decide)⟩
    · exact retOut X8 hx Bd.returns rfl (Or.inl ⟨rfl, by simp, _, rfl⟩) (hb hby d_jdk_42_method_66_code_55) hr
    · show Q_rmSeq01 Z a1 a2 b1 b2 k1 k2 cs y0 h0 n0 _ T8.heap _
      rw [e8]
      exact ⟨(by first | rfl | (have q := hc9; revert q; (repeat' split) <;> simp)), Nf8, rfl⟩
theorem ef_rmLeq02 (m : MethodId) (a1 : Addr) (a2 : Addr) : entryFrame m #[(.ref a1), (.ref a2)] 3 = mkF m 0 #[.val (.ref a1), .val (.ref a2), .unset] [] := by first | (simp [entryFrame, mkF, argsToLocals, Value.category]; done) | rfl
def Q_rmLeq02 (Z : State) (a1 : Addr) (a2 : Addr) (k1 : ClassId) (k2 : ClassId) (y0 : Int32) (y1 : Int32) (h0 : Heap) (n0 : Nat) (v : Option Value) (h : Heap) (L : List Loc) : Prop := v = some (.int (0 : Int32)) ∧ Fr n0 L ∧ h = h0
set_option maxRecDepth 65536 in
set_option maxHeartbeats 40000000 in
theorem rmLeq02 (l : Launch) (Z : State) (a0 : Array Value) (hw : ∀ d ∈ tables_1, d.before a0 Z = true) (ws : List Jvm.Cond) (a1 : Addr) (a2 : Addr) (k1 : ClassId) (k2 : ClassId) (y0 : Int32) (y1 : Int32) (h0 : Heap) (n0 : Nat) (Z0 : n0 ≤ h0.size) (P0 : Arv Z h0 a1 k1 .byte (0 : Int32) [] (.int (0 : Int32))) (P1 : Arv Z h0 a2 k2 .byte (2 : Int32) [(.int y0), (.int y1)] (.int (0 : Int32))) :
    MetFree l (⟨"java/lang/StringLatin1", "equals", "([B[B)Z"⟩ : MethodName) (head1 (Jvm.Cond.code (⟨"java/lang/StringLatin1", "equals", "([B[B)Z"⟩ : MethodName) jdk_43_method_13_code 3 (some .boolean) :: ws) ({ frames := 0, cells := 0, slots := 0, locals := 0 } : Room)) (fun a U => a = #[(.ref a1), (.ref a2)] ∧ Z.Warmed39 U.vm ∧ U.heap = h0) (fun _ _ _ _ _ => True) (fun _ U o U' => ∃ v L, o = .returned v ∧ Q_rmLeq02 Z a1 a2 k1 k2 y0 y1 h0 n0 v U'.heap L ∧ FrameEnd U o U' L ({ frames := 0, cells := 0, slots := 0, locals := 0 } : Room).cells ({ frames := 0, cells := 0, slots := 0, locals := 0 } : Room).slots) := by
  refine MetFree.of_bodySF (plainFor_of_name pn_java_lang_StringLatin1) hisR ?_
  intro p e s m args below meth c s₁ Bd hml0 hP hK
  obtain ⟨rfl, hZ, hh⟩ := hP
  have hx := Bd.exec
  have hby := Bd.bytes
  have hml : c.maxLocals = 3 := hml0
  have hown : s.vm.findClass "java/lang/StringLatin1" = some m.cls := findClass_of_methodNamed Bd.named
  have hnm := (name_of_methodNamed Bd.named Bd.method).1
  have X0 : Stand p l e ({ frames := 0, cells := 0, slots := 0, locals := 0 } : Room) s m #[(.ref a1), (.ref a2)] below meth c s₁ [] 0 0 := Stand.of_body Bd
  have e0 : s₁.heap = h0 := by rw [← hh, Bd.state]; rfl
  have N0 := Fr.nil n0
  refine own_fw (A' := (s₁.setTop (mkF m 0 #[.val (.ref a1), .val (.ref a2), .unset] []))) (fun t k => castTop (ef_rmLeq02 m a1 a2) k) ?_
  refine own_fw (A' := (s₁.setTop (mkF m 1 #[.val (.ref a1), .val (.ref a2), .unset] [(.ref a1)]))) (fun t k => XS.aloadN X0.here hx rfl (hb hby d_jdk_43_method_13_code_0) rfl rfl k) ?_
  obtain ⟨cl1, Ar1, q1, S1, M1, H1, G1⟩ := id P0
  refine own_fw (A' := (s₁.setTop (mkF m 2 #[.val (.ref a1), .val (.ref a2), .unset] [(.int (0 : Int32))]))) (fun t k => X0.arraylength hx (by rw [e0]; exact Ar1.1) (State.isArrayOf_alike hZ.alike Ar1.2.1) (g := (mkF m 1 #[.val (.ref a1), .val (.ref a2), .unset] [(.ref a1)])) rfl rfl (hb hby d_jdk_43_method_13_code_1) _ (by rw [len_of S1 M1]; exact k)) ?_
  refine own_fw (A' := (s₁.setTop (mkF m 3 #[.val (.ref a1), .val (.ref a2), .unset] [(.ref a2), (.int (0 : Int32))]))) (fun t k => XS.aloadN X0.here hx rfl (hb hby d_jdk_43_method_13_code_2) rfl rfl k) ?_
  obtain ⟨cl2, Ar2, q2, S2, M2, H2, G2⟩ := id P1
  refine own_fw (A' := (s₁.setTop (mkF m 4 #[.val (.ref a1), .val (.ref a2), .unset] [(.int (2 : Int32)), (.int (0 : Int32))]))) (fun t k => X0.arraylength hx (by rw [e0]; exact Ar2.1) (State.isArrayOf_alike hZ.alike Ar2.2.1) (g := (mkF m 3 #[.val (.ref a1), .val (.ref a2), .unset] [(.ref a2), (.int (0 : Int32))])) rfl rfl (hb hby d_jdk_43_method_13_code_3) _ (by rw [len_of S2 M2]; exact k)) ?_
  refine own_fw (A' := (s₁.setTop (mkF m 34 #[.val (.ref a1), .val (.ref a2), .unset] []))) (fun t k => XS.icmpYes X0.here hx rfl (pc0 := 4) (pc' := 34) rfl (hb hby d_jdk_43_method_13_code_4) rfl (XT.ii_ne_t (by decide)) (by decide) (by decide) k) ?_
  refine own_fw (A' := (s₁.setTop (mkF m 35 #[.val (.ref a1), .val (.ref a2), .unset] [(.int (0 : Int32))]))) (fun t k => XS.iconst X0.here hx rfl (hb hby d_jdk_43_method_13_code_34) k) ?_
  obtain ⟨fs, hr, hrun, hended, hW, hsame⟩ := X0.leave (v := some (.int (0 : Int32))) (fun h => by rw [Bd.returns] at h; cases h)
  refine ⟨_, _, ?_, hrun, hended, _, _, rfl, ?_, ⟨_, rfl⟩, hW, hsame.mono (by decide) (by decide)⟩
  · exact retOut X0 hx Bd.returns rfl (Or.inl ⟨rfl, by simp, _, rfl⟩) (hb hby d_jdk_43_method_13_code_35) hr
  · show Q_rmLeq02 Z a1 a2 k1 k2 y0 y1 h0 n0 _ s₁.heap _
    rw [e0]
    exact ⟨rfl, N0, rfl⟩
theorem ef_rmSeq02 (m : MethodId) (a1 : Addr) (a2 : Addr) : entryFrame m #[(.ref a1), (.ref a2)] 3 = mkF m 0 #[.val (.ref a1), .val (.ref a2), .unset] [] := by first | (simp [entryFrame, mkF, argsToLocals, Value.category]; done) | rfl
def Q_rmSeq02 (Z : State) (a1 : Addr) (a2 : Addr) (b1 : Addr) (b2 : Addr) (k1 : ClassId) (k2 : ClassId) (cs : Int32) (y0 : Int32) (y1 : Int32) (h0 : Heap) (n0 : Nat) (v : Option Value) (h : Heap) (L : List Loc) : Prop := v = some (.int (0 : Int32)) ∧ Fr n0 L ∧ h = h0
set_option maxRecDepth 65536 in
set_option maxHeartbeats 40000000 in
theorem rmSeq02 (l : Launch) (Z : State) (a0 : Array Value) (hw : ∀ d ∈ tables_1, d.before a0 Z = true) (ws : List Jvm.Cond) (a1 : Addr) (a2 : Addr) (b1 : Addr) (b2 : Addr) (k1 : ClassId) (k2 : ClassId) (cs : Int32) (y0 : Int32) (y1 : Int32) (h0 : Heap) (n0 : Nat) (Z0 : n0 ≤ h0.size) (P0 : Exa Z h0 a1 "java/lang/String") (P1 : Exa Z h0 a2 "java/lang/String") (P2 : Fld Z h0 a1 "java/lang/String" "coder" "B" (.int (0 : Int32))) (P3 : Fld Z h0 a2 "java/lang/String" "coder" "B" (.int (0 : Int32))) (P4 : Fld Z h0 a1 "java/lang/String" "value" "[B" (.ref b1)) (P5 : Fld Z h0 a2 "java/lang/String" "value" "[B" (.ref b2)) (P6 : Arv Z h0 b1 k1 .byte (0 : Int32) [] (.int (0 : Int32))) (P7 : Arv Z h0 b2 k2 .byte (2 : Int32) [(.int y0), (.int y1)] (.int (0 : Int32))) (ne_a1_a2 : a1 ≠ a2) (P9 : Sta Z h0 "java/lang/String" "COMPACT_STRINGS" "Z" (.int cs)) (hcs : ¬ (cs = (0 : Int32))) :
    MetFree l (⟨"java/lang/String", "equals", "(Ljava/lang/Object;)Z"⟩ : MethodName) (head1 (Jvm.Cond.code (⟨"java/lang/String", "equals", "(Ljava/lang/Object;)Z"⟩ : MethodName) jdk_42_method_66_code 3 (some .boolean) :: ws) ({ frames := 1, cells := 0, slots := 0, locals := 14 } : Room)) (fun a U => a = #[(.ref a1), (.ref a2)] ∧ Z.Warmed39 U.vm ∧ U.heap = h0) (fun _ _ _ _ _ => True) (fun _ U o U' => ∃ v L, o = .returned v ∧ Q_rmSeq02 Z a1 a2 b1 b2 k1 k2 cs y0 y1 h0 n0 v U'.heap L ∧ FrameEnd U o U' L ({ frames := 1, cells := 0, slots := 0, locals := 14 } : Room).cells ({ frames := 1, cells := 0, slots := 0, locals := 14 } : Room).slots) := by
  refine MetFree.of_bodySF (plainFor_of_name pn_java_lang_String) hisR ?_
  intro p e s m args below meth c s₁ Bd hml0 hP hK
  obtain ⟨rfl, hZ, hh⟩ := hP
  have hx := Bd.exec
  have hby := Bd.bytes
  have hml : c.maxLocals = 3 := hml0
  have hown : s.vm.findClass "java/lang/String" = some m.cls := findClass_of_methodNamed Bd.named
  have hnm := (name_of_methodNamed Bd.named Bd.method).1
  have X0 : Stand p l e ({ frames := 1, cells := 0, slots := 0, locals := 14 } : Room) s m #[(.ref a1), (.ref a2)] below meth c s₁ [] 0 0 := Stand.of_body Bd
  have e0 : s₁.heap = h0 := by rw [← hh, Bd.state]; rfl
  have N0 := Fr.nil n0
  refine own_fw (A' := (s₁.setTop (mkF m 0 #[.val (.ref a1), .val (.ref a2), .unset] []))) (fun t k => castTop (ef_rmSeq02 m a1 a2) k) ?_
  refine own_fw (A' := (s₁.setTop (mkF m 1 #[.val (.ref a1), .val (.ref a2), .unset] [(.ref a1)]))) (fun t k => XS.aloadN X0.here hx rfl (hb hby d_jdk_42_method_66_code_0) rfl rfl k) ?_
  refine own_fw (A' := (s₁.setTop (mkF m 2 #[.val (.ref a1), .val (.ref a2), .unset] [(.ref a2), (.ref a1)]))) (fun t k => XS.aloadN X0.here hx rfl (hb hby d_jdk_42_method_66_code_1) rfl rfl k) ?_
  refine own_fw (A' := (s₁.setTop (mkF m 7 #[.val (.ref a1), .val (.ref a2), .unset] []))) (fun t k => Jvm.RoadKit.acmp (g := (mkF m 2 #[.val (.ref a1), .val (.ref a2), .unset] [(.ref a2), (.ref a1)])) X0 hx rfl rfl rfl (pc0 := 2) (pc' := 7) (same := false) rfl (hb hby d_jdk_42_method_66_code_2) rfl (decide_eq_false (fun q => ne_a1_a2 (Value.ref.inj q))) (by decide) (by decide) k) ?_
  refine own_fw (A' := (s₁.setTop (mkF m 8 #[.val (.ref a1), .val (.ref a2), .unset] [(.ref a2)]))) (fun t k => XS.aloadN X0.here hx rfl (hb hby d_jdk_42_method_66_code_7) rfl rfl k) ?_
  obtain ⟨T1, X1, e1, st1⟩ := instY X0 hx hZ hown (hw _ (List.mem_of_getElem? (i := 75) rfl)) e0 (Ins.self P1) (g := (mkF m 8 #[.val (.ref a1), .val (.ref a2), .unset] [(.ref a2)])) rfl rfl (hb hby d_jdk_42_method_66_code_8)
  refine own_fw (A' := (T1.setTop (mkF m 11 #[.val (.ref a1), .val (.ref a2), .unset] [(.int (1 : Int32))]))) (fun t k => st1 _ k) ?_
  refine own_fw (A' := (T1.setTop (mkF m 14 #[.val (.ref a1), .val (.ref a2), .unset] []))) (fun t k => XS.ifNo X1.here hx rfl (hb hby d_jdk_42_method_66_code_11) rfl (XT.i0_eq_f (by decide)) k) ?_
  refine own_fw (A' := (T1.setTop (mkF m 15 #[.val (.ref a1), .val (.ref a2), .unset] [(.ref a2)]))) (fun t k => XS.aloadN X1.here hx rfl (hb hby d_jdk_42_method_66_code_14) rfl rfl k) ?_
  obtain ⟨T2, X2, e2, st2⟩ := castY X1 hx hZ hown (hw _ (List.mem_of_getElem? (i := 75) rfl)) e1 (Ins.self P1) (g := (mkF m 15 #[.val (.ref a1), .val (.ref a2), .unset] [(.ref a2)])) rfl rfl (hb hby d_jdk_42_method_66_code_15)
  refine own_fw (A' := (T2.setTop (mkF m 18 #[.val (.ref a1), .val (.ref a2), .unset] [(.ref a2)]))) (fun t k => st2 _ k) ?_
  refine own_fw (A' := (T2.setTop (mkF m 19 #[.val (.ref a1), .val (.ref a2), .val (.ref a2)] []))) (fun t k => XS.astoreN X2.here hx rfl (hb hby d_jdk_42_method_66_code_18) rfl rfl (l' := #[.val (.ref a1), .val (.ref a2), .val (.ref a2)]) rfl k) ?_
  obtain ⟨T3, X3, e3, st3⟩ := getS2 X2 hx hZ hown (host := "") (Or.inl (hw _ (List.mem_of_getElem? (i := 32) rfl))) Via.refl e2 P9 (g := (mkF m 19 #[.val (.ref a1), .val (.ref a2), .val (.ref a2)] [])) rfl (hb hby d_jdk_42_method_66_code_19)
  refine own_fw (A' := (T3.setTop (mkF m 22 #[.val (.ref a1), .val (.ref a2), .val (.ref a2)] [(.int cs)]))) (fun t k => st3 _ k) ?_
  refine own_fw (A' := (T3.setTop (mkF m 25 #[.val (.ref a1), .val (.ref a2), .val (.ref a2)] []))) (fun t k => XS.ifNo X3.here hx rfl (hb hby d_jdk_42_method_66_code_22) rfl (XT.i0_eq_f hcs) k) ?_
  refine own_fw (A' := (T3.setTop (mkF m 26 #[.val (.ref a1), .val (.ref a2), .val (.ref a2)] [(.ref a1)]))) (fun t k => XS.aloadN X3.here hx rfl (hb hby d_jdk_42_method_66_code_25) rfl rfl k) ?_
  obtain ⟨T4, X4, e4, st4⟩ := getF X3 hx hZ hown (host := "") (Or.inl (hw _ (List.mem_of_getElem? (i := 31) rfl))) Via.refl e3 P2 (g := (mkF m 26 #[.val (.ref a1), .val (.ref a2), .val (.ref a2)] [(.ref a1)])) rfl rfl (hb hby d_jdk_42_method_66_code_26)
  refine own_fw (A' := (T4.setTop (mkF m 29 #[.val (.ref a1), .val (.ref a2), .val (.ref a2)] [(.int (0 : Int32))]))) (fun t k => st4 _ k) ?_
  refine own_fw (A' := (T4.setTop (mkF m 30 #[.val (.ref a1), .val (.ref a2), .val (.ref a2)] [(.ref a2), (.int (0 : Int32))]))) (fun t k => XS.aloadN X4.here hx rfl (hb hby d_jdk_42_method_66_code_29) rfl rfl k) ?_
  obtain ⟨T5, X5, e5, st5⟩ := getF X4 hx hZ hown (host := "") (Or.inl (hw _ (List.mem_of_getElem? (i := 31) rfl))) Via.refl e4 P3 (g := (mkF m 30 #[.val (.ref a1), .val (.ref a2), .val (.ref a2)] [(.ref a2), (.int (0 : Int32))])) rfl rfl (hb hby d_jdk_42_method_66_code_30)
  refine own_fw (A' := (T5.setTop (mkF m 33 #[.val (.ref a1), .val (.ref a2), .val (.ref a2)] [(.int (0 : Int32)), (.int (0 : Int32))]))) (fun t k => st5 _ k) ?_
  refine own_fw (A' := (T5.setTop (mkF m 36 #[.val (.ref a1), .val (.ref a2), .val (.ref a2)] []))) (fun t k => XS.icmpNo X5.here hx rfl (hb hby d_jdk_42_method_66_code_33) rfl (XT.ii_ne_f rfl) k) ?_
  refine own_fw (A' := (T5.setTop (mkF m 37 #[.val (.ref a1), .val (.ref a2), .val (.ref a2)] [(.ref a1)]))) (fun t k => XS.aloadN X5.here hx rfl (hb hby d_jdk_42_method_66_code_36) rfl rfl k) ?_
  obtain ⟨T6, X6, e6, st6⟩ := getF X5 hx hZ hown (host := "") (Or.inl (hw _ (List.mem_of_getElem? (i := 30) rfl))) Via.refl e5 P4 (g := (mkF m 37 #[.val (.ref a1), .val (.ref a2), .val (.ref a2)] [(.ref a1)])) rfl rfl (hb hby d_jdk_42_method_66_code_37)
  refine own_fw (A' := (T6.setTop (mkF m 40 #[.val (.ref a1), .val (.ref a2), .val (.ref a2)] [(.ref b1)]))) (fun t k => st6 _ k) ?_
  refine own_fw (A' := (T6.setTop (mkF m 41 #[.val (.ref a1), .val (.ref a2), .val (.ref a2)] [(.ref a2), (.ref b1)]))) (fun t k => XS.aloadN X6.here hx rfl (hb hby d_jdk_42_method_66_code_40) rfl rfl k) ?_
  obtain ⟨T7, X7, e7, st7⟩ := getF X6 hx hZ hown (host := "") (Or.inl (hw _ (List.mem_of_getElem? (i := 30) rfl))) Via.refl e6 P5 (g := (mkF m 41 #[.val (.ref a1), .val (.ref a2), .val (.ref a2)] [(.ref a2), (.ref b1)])) rfl rfl (hb hby d_jdk_42_method_66_code_41)
  refine own_fw (A' := (T7.setTop (mkF m 44 #[.val (.ref a1), .val (.ref a2), .val (.ref a2)] [(.ref b2), (.ref b1)]))) (fun t k => st7 _ k) ?_
  obtain ⟨_, _, ⟨T8, L8, k8, n8⟩, -, X8, ⟨Lc8, hQ8, l8, y8, z8⟩, st8⟩ := Jvm.LawKit.callS X7 hx (y := (⟨"java/lang/StringLatin1", "equals", "([B[B)Z"⟩ : MethodName)) hown (mvT hZ (hw _ (List.mem_of_getElem? (i := 76) rfl))) (mvT hZ (hw _ (List.mem_of_getElem? (i := 77) rfl))) (mvT hZ (hw _ (List.mem_of_getElem? (i := 78) rfl))) (mvT hZ (hw _ (List.mem_of_getElem? (i := 79) rfl))) (by decide) (backOf (W := 0) (rmLeq02 l Z a0 hw [] b1 b2 k1 k2 y0 y1 h0 n0 Z0 P6 P7) hZ (hw _ (List.mem_of_getElem? (i := 79) rfl)) (hw _ (List.mem_of_getElem? (i := 78) rfl)) (by decide) (by decide)) (g := (mkF m 44 #[.val (.ref a1), .val (.ref a2), .val (.ref a2)] [(.ref b2), (.ref b1)])) rfl (by rw [hml]; rfl) (argsL := [(.ref b1), (.ref b2)]) (rest := []) (lenOf pd___B_B_Z rfl) rfl (by show 2 * 0 + _ ≤ _; exact Nat.le_of_eq rfl) (hb hby d_jdk_42_method_66_code_44) (fun _ _ => ⟨rfl, e7, (by decide : 0 + 0 ≤ _), (by decide : 0 + 0 ≤ _)⟩)
  dsimp only [Pt.U, Pt.locs, Pt.cells, Pt.slots] at X8 l8 y8 z8 st8 hQ8
  subst l8 y8 z8
  obtain ⟨rfl, Nq8, e8⟩ := hQ8
  have Nf8 := Fr.app N0 Nq8
  refine own_fw (A' := (T8.setTop (mkF m 47 #[.val (.ref a1), .val (.ref a2), .val (.ref a2)] [(.int (0 : Int32))]))) (fun t k => st8 _ k) ?_
  by_cases hc9 : (0 : Int32) = (0 : Int32)
  · refine own_fw (A' := (T8.setTop (mkF m 54 #[.val (.ref a1), .val (.ref a2), .val (.ref a2)] []))) (fun t k => XS.ifYes X8.here hx rfl (pc0 := 47) (pc' := 54) rfl (hb hby d_jdk_42_method_66_code_47) rfl (XT.i0_eq_t hc9) (by decide) (by decide) k) ?_
    refine own_fw (A' := (T8.setTop (mkF m 55 #[.val (.ref a1), .val (.ref a2), .val (.ref a2)] [(.int (0 : Int32))]))) (fun t k => XS.iconst X8.here hx rfl (hb hby d_jdk_42_method_66_code_54) k) ?_
    obtain ⟨fs, hr, hrun, hended, hW, hsame⟩ := X8.leave (v := some (.int (0 : Int32))) (fun h => by rw [Bd.returns] at h; cases h)
    refine ⟨_, _, ?_, hrun, hended, _, _, rfl, ?_, ⟨_, rfl⟩, hW, hsame.mono (by decide) (by decide)⟩
    · exact retOut X8 hx Bd.returns rfl (Or.inl ⟨rfl, by simp, _, rfl⟩) (hb hby d_jdk_42_method_66_code_55) hr
    · show Q_rmSeq02 Z a1 a2 b1 b2 k1 k2 cs y0 y1 h0 n0 _ T8.heap _
      rw [e8]
      exact ⟨rfl, Nf8, rfl⟩
  · refine own_fw (A' := (T8.setTop (mkF m 50 #[.val (.ref a1), .val (.ref a2), .val (.ref a2)] []))) (fun t k => XS.ifNo X8.here hx rfl (hb hby d_jdk_42_method_66_code_47) rfl (XT.i0_eq_f hc9) k) ?_
    refine own_fw (A' := (T8.setTop (mkF m 51 #[.val (.ref a1), .val (.ref a2), .val (.ref a2)] [(.int (1 : Int32))]))) (fun t k => XS.iconst X8.here hx rfl (hb hby d_jdk_42_method_66_code_50) k) ?_
    refine own_fw (A' := (T8.setTop (mkF m 55 #[.val (.ref a1), .val (.ref a2), .val (.ref a2)] [(.int (1 : Int32))]))) (fun t k => XS.goto X8.here hx rfl (pc0 := 51) (pc' := 55) rfl (hb hby d_jdk_42_method_66_code_51) (by decide) (by decide) k) ?_
    obtain ⟨fs, hr, hrun, hended, hW, hsame⟩ := X8.leave (v := some (.int (1 : Int32))) (fun h => by rw [Bd.returns] at h; cases h)
    refine ⟨_, _, ?_, hrun, hended, _, _, rfl, ?_, ⟨_, rfl⟩, hW, hsame.mono (by decide) (by decide)⟩
    · exact retOut X8 hx Bd.returns rfl (Or.inl ⟨rfl, by simp, _, rfl⟩) (hb hby d_jdk_42_method_66_code_55) hr
    · show Q_rmSeq02 Z a1 a2 b1 b2 k1 k2 cs y0 y1 h0 n0 _ T8.heap _
      rw [e8]
      exact ⟨(by first | rfl | (have q := hc9; revert q; (repeat' split) <;> simp)), Nf8, rfl⟩
theorem ef_rmLeq10 (m : MethodId) (a1 : Addr) (a2 : Addr) : entryFrame m #[(.ref a1), (.ref a2)] 3 = mkF m 0 #[.val (.ref a1), .val (.ref a2), .unset] [] := by first | (simp [entryFrame, mkF, argsToLocals, Value.category]; done) | rfl
def Q_rmLeq10 (Z : State) (a1 : Addr) (a2 : Addr) (k1 : ClassId) (k2 : ClassId) (x0 : Int32) (h0 : Heap) (n0 : Nat) (v : Option Value) (h : Heap) (L : List Loc) : Prop := v = some (.int (0 : Int32)) ∧ Fr n0 L ∧ h = h0
set_option maxRecDepth 65536 in
set_option maxHeartbeats 40000000 in
theorem rmLeq10 (l : Launch) (Z : State) (a0 : Array Value) (hw : ∀ d ∈ tables_1, d.before a0 Z = true) (ws : List Jvm.Cond) (a1 : Addr) (a2 : Addr) (k1 : ClassId) (k2 : ClassId) (x0 : Int32) (h0 : Heap) (n0 : Nat) (Z0 : n0 ≤ h0.size) (P0 : Arv Z h0 a1 k1 .byte (1 : Int32) [(.int x0)] (.int (0 : Int32))) (P1 : Arv Z h0 a2 k2 .byte (0 : Int32) [] (.int (0 : Int32))) :
    MetFree l (⟨"java/lang/StringLatin1", "equals", "([B[B)Z"⟩ : MethodName) (head1 (Jvm.Cond.code (⟨"java/lang/StringLatin1", "equals", "([B[B)Z"⟩ : MethodName) jdk_43_method_13_code 3 (some .boolean) :: ws) ({ frames := 0, cells := 0, slots := 0, locals := 0 } : Room)) (fun a U => a = #[(.ref a1), (.ref a2)] ∧ Z.Warmed39 U.vm ∧ U.heap = h0) (fun _ _ _ _ _ => True) (fun _ U o U' => ∃ v L, o = .returned v ∧ Q_rmLeq10 Z a1 a2 k1 k2 x0 h0 n0 v U'.heap L ∧ FrameEnd U o U' L ({ frames := 0, cells := 0, slots := 0, locals := 0 } : Room).cells ({ frames := 0, cells := 0, slots := 0, locals := 0 } : Room).slots) := by
  refine MetFree.of_bodySF (plainFor_of_name pn_java_lang_StringLatin1) hisR ?_
  intro p e s m args below meth c s₁ Bd hml0 hP hK
  obtain ⟨rfl, hZ, hh⟩ := hP
  have hx := Bd.exec
  have hby := Bd.bytes
  have hml : c.maxLocals = 3 := hml0
  have hown : s.vm.findClass "java/lang/StringLatin1" = some m.cls := findClass_of_methodNamed Bd.named
  have hnm := (name_of_methodNamed Bd.named Bd.method).1
  have X0 : Stand p l e ({ frames := 0, cells := 0, slots := 0, locals := 0 } : Room) s m #[(.ref a1), (.ref a2)] below meth c s₁ [] 0 0 := Stand.of_body Bd
  have e0 : s₁.heap = h0 := by rw [← hh, Bd.state]; rfl
  have N0 := Fr.nil n0
  refine own_fw (A' := (s₁.setTop (mkF m 0 #[.val (.ref a1), .val (.ref a2), .unset] []))) (fun t k => castTop (ef_rmLeq10 m a1 a2) k) ?_
  refine own_fw (A' := (s₁.setTop (mkF m 1 #[.val (.ref a1), .val (.ref a2), .unset] [(.ref a1)]))) (fun t k => XS.aloadN X0.here hx rfl (hb hby d_jdk_43_method_13_code_0) rfl rfl k) ?_
  obtain ⟨cl1, Ar1, q1, S1, M1, H1, G1⟩ := id P0
  refine own_fw (A' := (s₁.setTop (mkF m 2 #[.val (.ref a1), .val (.ref a2), .unset] [(.int (1 : Int32))]))) (fun t k => X0.arraylength hx (by rw [e0]; exact Ar1.1) (State.isArrayOf_alike hZ.alike Ar1.2.1) (g := (mkF m 1 #[.val (.ref a1), .val (.ref a2), .unset] [(.ref a1)])) rfl rfl (hb hby d_jdk_43_method_13_code_1) _ (by rw [len_of S1 M1]; exact k)) ?_
  refine own_fw (A' := (s₁.setTop (mkF m 3 #[.val (.ref a1), .val (.ref a2), .unset] [(.ref a2), (.int (1 : Int32))]))) (fun t k => XS.aloadN X0.here hx rfl (hb hby d_jdk_43_method_13_code_2) rfl rfl k) ?_
  obtain ⟨cl2, Ar2, q2, S2, M2, H2, G2⟩ := id P1
  refine own_fw (A' := (s₁.setTop (mkF m 4 #[.val (.ref a1), .val (.ref a2), .unset] [(.int (0 : Int32)), (.int (1 : Int32))]))) (fun t k => X0.arraylength hx (by rw [e0]; exact Ar2.1) (State.isArrayOf_alike hZ.alike Ar2.2.1) (g := (mkF m 3 #[.val (.ref a1), .val (.ref a2), .unset] [(.ref a2), (.int (1 : Int32))])) rfl rfl (hb hby d_jdk_43_method_13_code_3) _ (by rw [len_of S2 M2]; exact k)) ?_
  refine own_fw (A' := (s₁.setTop (mkF m 34 #[.val (.ref a1), .val (.ref a2), .unset] []))) (fun t k => XS.icmpYes X0.here hx rfl (pc0 := 4) (pc' := 34) rfl (hb hby d_jdk_43_method_13_code_4) rfl (XT.ii_ne_t (by decide)) (by decide) (by decide) k) ?_
  refine own_fw (A' := (s₁.setTop (mkF m 35 #[.val (.ref a1), .val (.ref a2), .unset] [(.int (0 : Int32))]))) (fun t k => XS.iconst X0.here hx rfl (hb hby d_jdk_43_method_13_code_34) k) ?_
  obtain ⟨fs, hr, hrun, hended, hW, hsame⟩ := X0.leave (v := some (.int (0 : Int32))) (fun h => by rw [Bd.returns] at h; cases h)
  refine ⟨_, _, ?_, hrun, hended, _, _, rfl, ?_, ⟨_, rfl⟩, hW, hsame.mono (by decide) (by decide)⟩
  · exact retOut X0 hx Bd.returns rfl (Or.inl ⟨rfl, by simp, _, rfl⟩) (hb hby d_jdk_43_method_13_code_35) hr
  · show Q_rmLeq10 Z a1 a2 k1 k2 x0 h0 n0 _ s₁.heap _
    rw [e0]
    exact ⟨rfl, N0, rfl⟩
theorem ef_rmSeq10 (m : MethodId) (a1 : Addr) (a2 : Addr) : entryFrame m #[(.ref a1), (.ref a2)] 3 = mkF m 0 #[.val (.ref a1), .val (.ref a2), .unset] [] := by first | (simp [entryFrame, mkF, argsToLocals, Value.category]; done) | rfl
def Q_rmSeq10 (Z : State) (a1 : Addr) (a2 : Addr) (b1 : Addr) (b2 : Addr) (k1 : ClassId) (k2 : ClassId) (cs : Int32) (x0 : Int32) (h0 : Heap) (n0 : Nat) (v : Option Value) (h : Heap) (L : List Loc) : Prop := v = some (.int (0 : Int32)) ∧ Fr n0 L ∧ h = h0
set_option maxRecDepth 65536 in
set_option maxHeartbeats 40000000 in
theorem rmSeq10 (l : Launch) (Z : State) (a0 : Array Value) (hw : ∀ d ∈ tables_1, d.before a0 Z = true) (ws : List Jvm.Cond) (a1 : Addr) (a2 : Addr) (b1 : Addr) (b2 : Addr) (k1 : ClassId) (k2 : ClassId) (cs : Int32) (x0 : Int32) (h0 : Heap) (n0 : Nat) (Z0 : n0 ≤ h0.size) (P0 : Exa Z h0 a1 "java/lang/String") (P1 : Exa Z h0 a2 "java/lang/String") (P2 : Fld Z h0 a1 "java/lang/String" "coder" "B" (.int (0 : Int32))) (P3 : Fld Z h0 a2 "java/lang/String" "coder" "B" (.int (0 : Int32))) (P4 : Fld Z h0 a1 "java/lang/String" "value" "[B" (.ref b1)) (P5 : Fld Z h0 a2 "java/lang/String" "value" "[B" (.ref b2)) (P6 : Arv Z h0 b1 k1 .byte (1 : Int32) [(.int x0)] (.int (0 : Int32))) (P7 : Arv Z h0 b2 k2 .byte (0 : Int32) [] (.int (0 : Int32))) (ne_a1_a2 : a1 ≠ a2) (P9 : Sta Z h0 "java/lang/String" "COMPACT_STRINGS" "Z" (.int cs)) (hcs : ¬ (cs = (0 : Int32))) :
    MetFree l (⟨"java/lang/String", "equals", "(Ljava/lang/Object;)Z"⟩ : MethodName) (head1 (Jvm.Cond.code (⟨"java/lang/String", "equals", "(Ljava/lang/Object;)Z"⟩ : MethodName) jdk_42_method_66_code 3 (some .boolean) :: ws) ({ frames := 1, cells := 0, slots := 0, locals := 14 } : Room)) (fun a U => a = #[(.ref a1), (.ref a2)] ∧ Z.Warmed39 U.vm ∧ U.heap = h0) (fun _ _ _ _ _ => True) (fun _ U o U' => ∃ v L, o = .returned v ∧ Q_rmSeq10 Z a1 a2 b1 b2 k1 k2 cs x0 h0 n0 v U'.heap L ∧ FrameEnd U o U' L ({ frames := 1, cells := 0, slots := 0, locals := 14 } : Room).cells ({ frames := 1, cells := 0, slots := 0, locals := 14 } : Room).slots) := by
  refine MetFree.of_bodySF (plainFor_of_name pn_java_lang_String) hisR ?_
  intro p e s m args below meth c s₁ Bd hml0 hP hK
  obtain ⟨rfl, hZ, hh⟩ := hP
  have hx := Bd.exec
  have hby := Bd.bytes
  have hml : c.maxLocals = 3 := hml0
  have hown : s.vm.findClass "java/lang/String" = some m.cls := findClass_of_methodNamed Bd.named
  have hnm := (name_of_methodNamed Bd.named Bd.method).1
  have X0 : Stand p l e ({ frames := 1, cells := 0, slots := 0, locals := 14 } : Room) s m #[(.ref a1), (.ref a2)] below meth c s₁ [] 0 0 := Stand.of_body Bd
  have e0 : s₁.heap = h0 := by rw [← hh, Bd.state]; rfl
  have N0 := Fr.nil n0
  refine own_fw (A' := (s₁.setTop (mkF m 0 #[.val (.ref a1), .val (.ref a2), .unset] []))) (fun t k => castTop (ef_rmSeq10 m a1 a2) k) ?_
  refine own_fw (A' := (s₁.setTop (mkF m 1 #[.val (.ref a1), .val (.ref a2), .unset] [(.ref a1)]))) (fun t k => XS.aloadN X0.here hx rfl (hb hby d_jdk_42_method_66_code_0) rfl rfl k) ?_
  refine own_fw (A' := (s₁.setTop (mkF m 2 #[.val (.ref a1), .val (.ref a2), .unset] [(.ref a2), (.ref a1)]))) (fun t k => XS.aloadN X0.here hx rfl (hb hby d_jdk_42_method_66_code_1) rfl rfl k) ?_
  refine own_fw (A' := (s₁.setTop (mkF m 7 #[.val (.ref a1), .val (.ref a2), .unset] []))) (fun t k => Jvm.RoadKit.acmp (g := (mkF m 2 #[.val (.ref a1), .val (.ref a2), .unset] [(.ref a2), (.ref a1)])) X0 hx rfl rfl rfl (pc0 := 2) (pc' := 7) (same := false) rfl (hb hby d_jdk_42_method_66_code_2) rfl (decide_eq_false (fun q => ne_a1_a2 (Value.ref.inj q))) (by decide) (by decide) k) ?_
  refine own_fw (A' := (s₁.setTop (mkF m 8 #[.val (.ref a1), .val (.ref a2), .unset] [(.ref a2)]))) (fun t k => XS.aloadN X0.here hx rfl (hb hby d_jdk_42_method_66_code_7) rfl rfl k) ?_
  obtain ⟨T1, X1, e1, st1⟩ := instY X0 hx hZ hown (hw _ (List.mem_of_getElem? (i := 75) rfl)) e0 (Ins.self P1) (g := (mkF m 8 #[.val (.ref a1), .val (.ref a2), .unset] [(.ref a2)])) rfl rfl (hb hby d_jdk_42_method_66_code_8)
  refine own_fw (A' := (T1.setTop (mkF m 11 #[.val (.ref a1), .val (.ref a2), .unset] [(.int (1 : Int32))]))) (fun t k => st1 _ k) ?_
  refine own_fw (A' := (T1.setTop (mkF m 14 #[.val (.ref a1), .val (.ref a2), .unset] []))) (fun t k => XS.ifNo X1.here hx rfl (hb hby d_jdk_42_method_66_code_11) rfl (XT.i0_eq_f (by decide)) k) ?_
  refine own_fw (A' := (T1.setTop (mkF m 15 #[.val (.ref a1), .val (.ref a2), .unset] [(.ref a2)]))) (fun t k => XS.aloadN X1.here hx rfl (hb hby d_jdk_42_method_66_code_14) rfl rfl k) ?_
  obtain ⟨T2, X2, e2, st2⟩ := castY X1 hx hZ hown (hw _ (List.mem_of_getElem? (i := 75) rfl)) e1 (Ins.self P1) (g := (mkF m 15 #[.val (.ref a1), .val (.ref a2), .unset] [(.ref a2)])) rfl rfl (hb hby d_jdk_42_method_66_code_15)
  refine own_fw (A' := (T2.setTop (mkF m 18 #[.val (.ref a1), .val (.ref a2), .unset] [(.ref a2)]))) (fun t k => st2 _ k) ?_
  refine own_fw (A' := (T2.setTop (mkF m 19 #[.val (.ref a1), .val (.ref a2), .val (.ref a2)] []))) (fun t k => XS.astoreN X2.here hx rfl (hb hby d_jdk_42_method_66_code_18) rfl rfl (l' := #[.val (.ref a1), .val (.ref a2), .val (.ref a2)]) rfl k) ?_
  obtain ⟨T3, X3, e3, st3⟩ := getS2 X2 hx hZ hown (host := "") (Or.inl (hw _ (List.mem_of_getElem? (i := 32) rfl))) Via.refl e2 P9 (g := (mkF m 19 #[.val (.ref a1), .val (.ref a2), .val (.ref a2)] [])) rfl (hb hby d_jdk_42_method_66_code_19)
  refine own_fw (A' := (T3.setTop (mkF m 22 #[.val (.ref a1), .val (.ref a2), .val (.ref a2)] [(.int cs)]))) (fun t k => st3 _ k) ?_
  refine own_fw (A' := (T3.setTop (mkF m 25 #[.val (.ref a1), .val (.ref a2), .val (.ref a2)] []))) (fun t k => XS.ifNo X3.here hx rfl (hb hby d_jdk_42_method_66_code_22) rfl (XT.i0_eq_f hcs) k) ?_
  refine own_fw (A' := (T3.setTop (mkF m 26 #[.val (.ref a1), .val (.ref a2), .val (.ref a2)] [(.ref a1)]))) (fun t k => XS.aloadN X3.here hx rfl (hb hby d_jdk_42_method_66_code_25) rfl rfl k) ?_
  obtain ⟨T4, X4, e4, st4⟩ := getF X3 hx hZ hown (host := "") (Or.inl (hw _ (List.mem_of_getElem? (i := 31) rfl))) Via.refl e3 P2 (g := (mkF m 26 #[.val (.ref a1), .val (.ref a2), .val (.ref a2)] [(.ref a1)])) rfl rfl (hb hby d_jdk_42_method_66_code_26)
  refine own_fw (A' := (T4.setTop (mkF m 29 #[.val (.ref a1), .val (.ref a2), .val (.ref a2)] [(.int (0 : Int32))]))) (fun t k => st4 _ k) ?_
  refine own_fw (A' := (T4.setTop (mkF m 30 #[.val (.ref a1), .val (.ref a2), .val (.ref a2)] [(.ref a2), (.int (0 : Int32))]))) (fun t k => XS.aloadN X4.here hx rfl (hb hby d_jdk_42_method_66_code_29) rfl rfl k) ?_
  obtain ⟨T5, X5, e5, st5⟩ := getF X4 hx hZ hown (host := "") (Or.inl (hw _ (List.mem_of_getElem? (i := 31) rfl))) Via.refl e4 P3 (g := (mkF m 30 #[.val (.ref a1), .val (.ref a2), .val (.ref a2)] [(.ref a2), (.int (0 : Int32))])) rfl rfl (hb hby d_jdk_42_method_66_code_30)
  refine own_fw (A' := (T5.setTop (mkF m 33 #[.val (.ref a1), .val (.ref a2), .val (.ref a2)] [(.int (0 : Int32)), (.int (0 : Int32))]))) (fun t k => st5 _ k) ?_
  refine own_fw (A' := (T5.setTop (mkF m 36 #[.val (.ref a1), .val (.ref a2), .val (.ref a2)] []))) (fun t k => XS.icmpNo X5.here hx rfl (hb hby d_jdk_42_method_66_code_33) rfl (XT.ii_ne_f rfl) k) ?_
  refine own_fw (A' := (T5.setTop (mkF m 37 #[.val (.ref a1), .val (.ref a2), .val (.ref a2)] [(.ref a1)]))) (fun t k => XS.aloadN X5.here hx rfl (hb hby d_jdk_42_method_66_code_36) rfl rfl k) ?_
  obtain ⟨T6, X6, e6, st6⟩ := getF X5 hx hZ hown (host := "") (Or.inl (hw _ (List.mem_of_getElem? (i := 30) rfl))) Via.refl e5 P4 (g := (mkF m 37 #[.val (.ref a1), .val (.ref a2), .val (.ref a2)] [(.ref a1)])) rfl rfl (hb hby d_jdk_42_method_66_code_37)
  refine own_fw (A' := (T6.setTop (mkF m 40 #[.val (.ref a1), .val (.ref a2), .val (.ref a2)] [(.ref b1)]))) (fun t k => st6 _ k) ?_
  refine own_fw (A' := (T6.setTop (mkF m 41 #[.val (.ref a1), .val (.ref a2), .val (.ref a2)] [(.ref a2), (.ref b1)]))) (fun t k => XS.aloadN X6.here hx rfl (hb hby d_jdk_42_method_66_code_40) rfl rfl k) ?_
  obtain ⟨T7, X7, e7, st7⟩ := getF X6 hx hZ hown (host := "") (Or.inl (hw _ (List.mem_of_getElem? (i := 30) rfl))) Via.refl e6 P5 (g := (mkF m 41 #[.val (.ref a1), .val (.ref a2), .val (.ref a2)] [(.ref a2), (.ref b1)])) rfl rfl (hb hby d_jdk_42_method_66_code_41)
  refine own_fw (A' := (T7.setTop (mkF m 44 #[.val (.ref a1), .val (.ref a2), .val (.ref a2)] [(.ref b2), (.ref b1)]))) (fun t k => st7 _ k) ?_
  obtain ⟨_, _, ⟨T8, L8, k8, n8⟩, -, X8, ⟨Lc8, hQ8, l8, y8, z8⟩, st8⟩ := Jvm.LawKit.callS X7 hx (y := (⟨"java/lang/StringLatin1", "equals", "([B[B)Z"⟩ : MethodName)) hown (mvT hZ (hw _ (List.mem_of_getElem? (i := 76) rfl))) (mvT hZ (hw _ (List.mem_of_getElem? (i := 77) rfl))) (mvT hZ (hw _ (List.mem_of_getElem? (i := 78) rfl))) (mvT hZ (hw _ (List.mem_of_getElem? (i := 79) rfl))) (by decide) (backOf (W := 0) (rmLeq10 l Z a0 hw [] b1 b2 k1 k2 x0 h0 n0 Z0 P6 P7) hZ (hw _ (List.mem_of_getElem? (i := 79) rfl)) (hw _ (List.mem_of_getElem? (i := 78) rfl)) (by decide) (by decide)) (g := (mkF m 44 #[.val (.ref a1), .val (.ref a2), .val (.ref a2)] [(.ref b2), (.ref b1)])) rfl (by rw [hml]; rfl) (argsL := [(.ref b1), (.ref b2)]) (rest := []) (lenOf pd___B_B_Z rfl) rfl (by show 2 * 0 + _ ≤ _; exact Nat.le_of_eq rfl) (hb hby d_jdk_42_method_66_code_44) (fun _ _ => ⟨rfl, e7, (by decide : 0 + 0 ≤ _), (by decide : 0 + 0 ≤ _)⟩)
  dsimp only [Pt.U, Pt.locs, Pt.cells, Pt.slots] at X8 l8 y8 z8 st8 hQ8
  subst l8 y8 z8
  obtain ⟨rfl, Nq8, e8⟩ := hQ8
  have Nf8 := Fr.app N0 Nq8
  refine own_fw (A' := (T8.setTop (mkF m 47 #[.val (.ref a1), .val (.ref a2), .val (.ref a2)] [(.int (0 : Int32))]))) (fun t k => st8 _ k) ?_
  by_cases hc9 : (0 : Int32) = (0 : Int32)
  · refine own_fw (A' := (T8.setTop (mkF m 54 #[.val (.ref a1), .val (.ref a2), .val (.ref a2)] []))) (fun t k => XS.ifYes X8.here hx rfl (pc0 := 47) (pc' := 54) rfl (hb hby d_jdk_42_method_66_code_47) rfl (XT.i0_eq_t hc9) (by decide) (by decide) k) ?_
    refine own_fw (A' := (T8.setTop (mkF m 55 #[.val (.ref a1), .val (.ref a2), .val (.ref a2)] [(.int (0 : Int32))]))) (fun t k => XS.iconst X8.here hx rfl (hb hby d_jdk_42_method_66_code_54) k) ?_
    obtain ⟨fs, hr, hrun, hended, hW, hsame⟩ := X8.leave (v := some (.int (0 : Int32))) (fun h => by rw [Bd.returns] at h; cases h)
    refine ⟨_, _, ?_, hrun, hended, _, _, rfl, ?_, ⟨_, rfl⟩, hW, hsame.mono (by decide) (by decide)⟩
    · exact retOut X8 hx Bd.returns rfl (Or.inl ⟨rfl, by simp, _, rfl⟩) (hb hby d_jdk_42_method_66_code_55) hr
    · show Q_rmSeq10 Z a1 a2 b1 b2 k1 k2 cs x0 h0 n0 _ T8.heap _
      rw [e8]
      exact ⟨rfl, Nf8, rfl⟩
  · refine own_fw (A' := (T8.setTop (mkF m 50 #[.val (.ref a1), .val (.ref a2), .val (.ref a2)] []))) (fun t k => XS.ifNo X8.here hx rfl (hb hby d_jdk_42_method_66_code_47) rfl (XT.i0_eq_f hc9) k) ?_
    refine own_fw (A' := (T8.setTop (mkF m 51 #[.val (.ref a1), .val (.ref a2), .val (.ref a2)] [(.int (1 : Int32))]))) (fun t k => XS.iconst X8.here hx rfl (hb hby d_jdk_42_method_66_code_50) k) ?_
    refine own_fw (A' := (T8.setTop (mkF m 55 #[.val (.ref a1), .val (.ref a2), .val (.ref a2)] [(.int (1 : Int32))]))) (fun t k => XS.goto X8.here hx rfl (pc0 := 51) (pc' := 55) rfl (hb hby d_jdk_42_method_66_code_51) (by decide) (by decide) k) ?_
    obtain ⟨fs, hr, hrun, hended, hW, hsame⟩ := X8.leave (v := some (.int (1 : Int32))) (fun h => by rw [Bd.returns] at h; cases h)
    refine ⟨_, _, ?_, hrun, hended, _, _, rfl, ?_, ⟨_, rfl⟩, hW, hsame.mono (by decide) (by decide)⟩
    · exact retOut X8 hx Bd.returns rfl (Or.inl ⟨rfl, by simp, _, rfl⟩) (hb hby d_jdk_42_method_66_code_55) hr
    · show Q_rmSeq10 Z a1 a2 b1 b2 k1 k2 cs x0 h0 n0 _ T8.heap _
      rw [e8]
      exact ⟨(by first | rfl | (have q := hc9; revert q; (repeat' split) <;> simp)), Nf8, rfl⟩
theorem d_jdk_43_method_13_code_15 : decode jdk_43_method_13_code 15 = .ok (.aload_n 0, 1) := by decide +kernel
theorem d_jdk_43_method_13_code_16 : decode jdk_43_method_13_code 16 = .ok (.iload_n 2, 1) := by decide +kernel
theorem d_jdk_43_method_13_code_17 : decode jdk_43_method_13_code 17 = .ok (.baload, 1) := by decide +kernel
theorem d_jdk_43_method_13_code_18 : decode jdk_43_method_13_code 18 = .ok (.aload_n 1, 1) := by decide +kernel
theorem d_jdk_43_method_13_code_19 : decode jdk_43_method_13_code 19 = .ok (.iload_n 2, 1) := by decide +kernel
theorem d_jdk_43_method_13_code_20 : decode jdk_43_method_13_code 20 = .ok (.baload, 1) := by decide +kernel
theorem d_jdk_43_method_13_code_21 : decode jdk_43_method_13_code 21 = .ok (.if_icmp .eq 5, 3) := by decide +kernel
theorem d_jdk_43_method_13_code_26 : decode jdk_43_method_13_code 26 = .ok (.iinc 2 1, 3) := by decide +kernel
theorem d_jdk_43_method_13_code_29 : decode jdk_43_method_13_code 29 = .ok (.goto (-20), 3) := by decide +kernel
theorem d_jdk_43_method_13_code_24 : decode jdk_43_method_13_code 24 = .ok (.iconst 0, 1) := by decide +kernel
theorem d_jdk_43_method_13_code_25 : decode jdk_43_method_13_code 25 = .ok (.ireturn, 1) := by decide +kernel
theorem ef_rmLeq11 (m : MethodId) (a1 : Addr) (a2 : Addr) : entryFrame m #[(.ref a1), (.ref a2)] 3 = mkF m 0 #[.val (.ref a1), .val (.ref a2), .unset] [] := by first | (simp [entryFrame, mkF, argsToLocals, Value.category]; done) | rfl
def Q_rmLeq11 (Z : State) (a1 : Addr) (a2 : Addr) (k1 : ClassId) (k2 : ClassId) (x0 : Int32) (y0 : Int32) (h0 : Heap) (n0 : Nat) (v : Option Value) (h : Heap) (L : List Loc) : Prop := v = some (.int (if x0 = y0 then (1 : Int32) else (0 : Int32))) ∧ Fr n0 L ∧ h = h0
set_option maxRecDepth 65536 in
set_option maxHeartbeats 40000000 in
theorem rmLeq11 (l : Launch) (Z : State) (a0 : Array Value) (hw : ∀ d ∈ tables_1, d.before a0 Z = true) (ws : List Jvm.Cond) (a1 : Addr) (a2 : Addr) (k1 : ClassId) (k2 : ClassId) (x0 : Int32) (y0 : Int32) (h0 : Heap) (n0 : Nat) (Z0 : n0 ≤ h0.size) (P0 : Arv Z h0 a1 k1 .byte (1 : Int32) [(.int x0)] (.int (0 : Int32))) (P1 : Arv Z h0 a2 k2 .byte (1 : Int32) [(.int y0)] (.int (0 : Int32))) :
    MetFree l (⟨"java/lang/StringLatin1", "equals", "([B[B)Z"⟩ : MethodName) (head1 (Jvm.Cond.code (⟨"java/lang/StringLatin1", "equals", "([B[B)Z"⟩ : MethodName) jdk_43_method_13_code 3 (some .boolean) :: ws) ({ frames := 0, cells := 0, slots := 0, locals := 0 } : Room)) (fun a U => a = #[(.ref a1), (.ref a2)] ∧ Z.Warmed39 U.vm ∧ U.heap = h0) (fun _ _ _ _ _ => True) (fun _ U o U' => ∃ v L, o = .returned v ∧ Q_rmLeq11 Z a1 a2 k1 k2 x0 y0 h0 n0 v U'.heap L ∧ FrameEnd U o U' L ({ frames := 0, cells := 0, slots := 0, locals := 0 } : Room).cells ({ frames := 0, cells := 0, slots := 0, locals := 0 } : Room).slots) := by
  refine MetFree.of_bodySF (plainFor_of_name pn_java_lang_StringLatin1) hisR ?_
  intro p e s m args below meth c s₁ Bd hml0 hP hK
  obtain ⟨rfl, hZ, hh⟩ := hP
  have hx := Bd.exec
  have hby := Bd.bytes
  have hml : c.maxLocals = 3 := hml0
  have hown : s.vm.findClass "java/lang/StringLatin1" = some m.cls := findClass_of_methodNamed Bd.named
  have hnm := (name_of_methodNamed Bd.named Bd.method).1
  have X0 : Stand p l e ({ frames := 0, cells := 0, slots := 0, locals := 0 } : Room) s m #[(.ref a1), (.ref a2)] below meth c s₁ [] 0 0 := Stand.of_body Bd
  have e0 : s₁.heap = h0 := by rw [← hh, Bd.state]; rfl
  have N0 := Fr.nil n0
  refine own_fw (A' := (s₁.setTop (mkF m 0 #[.val (.ref a1), .val (.ref a2), .unset] []))) (fun t k => castTop (ef_rmLeq11 m a1 a2) k) ?_
  refine own_fw (A' := (s₁.setTop (mkF m 1 #[.val (.ref a1), .val (.ref a2), .unset] [(.ref a1)]))) (fun t k => XS.aloadN X0.here hx rfl (hb hby d_jdk_43_method_13_code_0) rfl rfl k) ?_
  obtain ⟨cl1, Ar1, q1, S1, M1, H1, G1⟩ := id P0
  refine own_fw (A' := (s₁.setTop (mkF m 2 #[.val (.ref a1), .val (.ref a2), .unset] [(.int (1 : Int32))]))) (fun t k => X0.arraylength hx (by rw [e0]; exact Ar1.1) (State.isArrayOf_alike hZ.alike Ar1.2.1) (g := (mkF m 1 #[.val (.ref a1), .val (.ref a2), .unset] [(.ref a1)])) rfl rfl (hb hby d_jdk_43_method_13_code_1) _ (by rw [len_of S1 M1]; exact k)) ?_
  refine own_fw (A' := (s₁.setTop (mkF m 3 #[.val (.ref a1), .val (.ref a2), .unset] [(.ref a2), (.int (1 : Int32))]))) (fun t k => XS.aloadN X0.here hx rfl (hb hby d_jdk_43_method_13_code_2) rfl rfl k) ?_
  obtain ⟨cl2, Ar2, q2, S2, M2, H2, G2⟩ := id P1
  refine own_fw (A' := (s₁.setTop (mkF m 4 #[.val (.ref a1), .val (.ref a2), .unset] [(.int (1 : Int32)), (.int (1 : Int32))]))) (fun t k => X0.arraylength hx (by rw [e0]; exact Ar2.1) (State.isArrayOf_alike hZ.alike Ar2.2.1) (g := (mkF m 3 #[.val (.ref a1), .val (.ref a2), .unset] [(.ref a2), (.int (1 : Int32))])) rfl rfl (hb hby d_jdk_43_method_13_code_3) _ (by rw [len_of S2 M2]; exact k)) ?_
  refine own_fw (A' := (s₁.setTop (mkF m 7 #[.val (.ref a1), .val (.ref a2), .unset] []))) (fun t k => XS.icmpNo X0.here hx rfl (hb hby d_jdk_43_method_13_code_4) rfl (XT.ii_ne_f rfl) k) ?_
  refine own_fw (A' := (s₁.setTop (mkF m 8 #[.val (.ref a1), .val (.ref a2), .unset] [(.int (0 : Int32))]))) (fun t k => XS.iconst X0.here hx rfl (hb hby d_jdk_43_method_13_code_7) k) ?_
  refine own_fw (A' := (s₁.setTop (mkF m 9 #[.val (.ref a1), .val (.ref a2), .val (.int (0 : Int32))] []))) (fun t k => XS.istoreN X0.here hx rfl (hb hby d_jdk_43_method_13_code_8) rfl (l' := #[.val (.ref a1), .val (.ref a2), .val (.int (0 : Int32))]) rfl k) ?_
  refine own_fw (A' := (s₁.setTop (mkF m 10 #[.val (.ref a1), .val (.ref a2), .val (.int (0 : Int32))] [(.int (0 : Int32))]))) (fun t k => XS.iloadN X0.here hx rfl (hb hby d_jdk_43_method_13_code_9) rfl k) ?_
  refine own_fw (A' := (s₁.setTop (mkF m 11 #[.val (.ref a1), .val (.ref a2), .val (.int (0 : Int32))] [(.ref a1), (.int (0 : Int32))]))) (fun t k => XS.aloadN X0.here hx rfl (hb hby d_jdk_43_method_13_code_10) rfl rfl k) ?_
  obtain ⟨cl3, Ar3, q3, S3, M3, H3, G3⟩ := id P0
  refine own_fw (A' := (s₁.setTop (mkF m 12 #[.val (.ref a1), .val (.ref a2), .val (.int (0 : Int32))] [(.int (1 : Int32)), (.int (0 : Int32))]))) (fun t k => X0.arraylength hx (by rw [e0]; exact Ar3.1) (State.isArrayOf_alike hZ.alike Ar3.2.1) (g := (mkF m 11 #[.val (.ref a1), .val (.ref a2), .val (.int (0 : Int32))] [(.ref a1), (.int (0 : Int32))])) rfl rfl (hb hby d_jdk_43_method_13_code_11) _ (by rw [len_of S3 M3]; exact k)) ?_
  refine own_fw (A' := (s₁.setTop (mkF m 15 #[.val (.ref a1), .val (.ref a2), .val (.int (0 : Int32))] []))) (fun t k => XS.icmpNo X0.here hx rfl (hb hby d_jdk_43_method_13_code_12) rfl (XT.ii_ge_f (by decide)) k) ?_
  refine own_fw (A' := (s₁.setTop (mkF m 16 #[.val (.ref a1), .val (.ref a2), .val (.int (0 : Int32))] [(.ref a1)]))) (fun t k => XS.aloadN X0.here hx rfl (hb hby d_jdk_43_method_13_code_15) rfl rfl k) ?_
  refine own_fw (A' := (s₁.setTop (mkF m 17 #[.val (.ref a1), .val (.ref a2), .val (.int (0 : Int32))] [(.int (0 : Int32)), (.ref a1)]))) (fun t k => XS.iloadN X0.here hx rfl (hb hby d_jdk_43_method_13_code_16) rfl k) ?_
  obtain ⟨cl4, Ar4, q4, S4, M4, H4, G4⟩ := id P0
  have hin4 : ¬ ((0 : Int32) < 0 ∨ cl4.slots.size ≤ ((0 : Int32)).toNatClampNeg) := inb_of S4 ⟨by decide, by decide⟩
  have hat4 : cl4.slots[((0 : Int32)).toNatClampNeg]? = some (.int x0) := H4.at hin4 rfl
  refine own_fw (A' := (s₁.setTop (mkF m 18 #[.val (.ref a1), .val (.ref a2), .val (.int (0 : Int32))] [(.int x0)]))) (fun t k => X0.baloadBytes hx (j := (0 : Int32)) (v := (.int x0)) (by rw [e0]; exact Ar4.1) (State.isArrayOf_alike hZ.alike Ar4.2.1) Ar4.2.2 hin4 hat4 (g := (mkF m 17 #[.val (.ref a1), .val (.ref a2), .val (.int (0 : Int32))] [(.int (0 : Int32)), (.ref a1)])) rfl rfl (hb hby d_jdk_43_method_13_code_17) _ k) ?_
  refine own_fw (A' := (s₁.setTop (mkF m 19 #[.val (.ref a1), .val (.ref a2), .val (.int (0 : Int32))] [(.ref a2), (.int x0)]))) (fun t k => XS.aloadN X0.here hx rfl (hb hby d_jdk_43_method_13_code_18) rfl rfl k) ?_
  refine own_fw (A' := (s₁.setTop (mkF m 20 #[.val (.ref a1), .val (.ref a2), .val (.int (0 : Int32))] [(.int (0 : Int32)), (.ref a2), (.int x0)]))) (fun t k => XS.iloadN X0.here hx rfl (hb hby d_jdk_43_method_13_code_19) rfl k) ?_
  obtain ⟨cl5, Ar5, q5, S5, M5, H5, G5⟩ := id P1
  have hin5 : ¬ ((0 : Int32) < 0 ∨ cl5.slots.size ≤ ((0 : Int32)).toNatClampNeg) := inb_of S5 ⟨by decide, by decide⟩
  have hat5 : cl5.slots[((0 : Int32)).toNatClampNeg]? = some (.int y0) := H5.at hin5 rfl
  refine own_fw (A' := (s₁.setTop (mkF m 21 #[.val (.ref a1), .val (.ref a2), .val (.int (0 : Int32))] [(.int y0), (.int x0)]))) (fun t k => X0.baloadBytes hx (j := (0 : Int32)) (v := (.int y0)) (by rw [e0]; exact Ar5.1) (State.isArrayOf_alike hZ.alike Ar5.2.1) Ar5.2.2 hin5 hat5 (g := (mkF m 20 #[.val (.ref a1), .val (.ref a2), .val (.int (0 : Int32))] [(.int (0 : Int32)), (.ref a2), (.int x0)])) rfl rfl (hb hby d_jdk_43_method_13_code_20) _ k) ?_
  by_cases hc6 : x0 = y0
  · refine own_fw (A' := (s₁.setTop (mkF m 26 #[.val (.ref a1), .val (.ref a2), .val (.int (0 : Int32))] []))) (fun t k => XS.icmpYes X0.here hx rfl (pc0 := 21) (pc' := 26) rfl (hb hby d_jdk_43_method_13_code_21) rfl (XT.ii_eq_t hc6) (by decide) (by decide) k) ?_
    refine own_fw (A' := (s₁.setTop (mkF m 29 #[.val (.ref a1), .val (.ref a2), .val (.int (1 : Int32))] []))) (fun t k => XS.iinc X0.here hx rfl (hb hby d_jdk_43_method_13_code_26) rfl (l' := #[.val (.ref a1), .val (.ref a2), .val (.int (1 : Int32))]) rfl k) ?_
    refine own_fw (A' := (s₁.setTop (mkF m 9 #[.val (.ref a1), .val (.ref a2), .val (.int (1 : Int32))] []))) (fun t k => XS.goto X0.here hx rfl (pc0 := 29) (pc' := 9) rfl (hb hby d_jdk_43_method_13_code_29) (by decide) (by decide) k) ?_
    refine own_fw (A' := (s₁.setTop (mkF m 10 #[.val (.ref a1), .val (.ref a2), .val (.int (1 : Int32))] [(.int (1 : Int32))]))) (fun t k => XS.iloadN X0.here hx rfl (hb hby d_jdk_43_method_13_code_9) rfl k) ?_
    refine own_fw (A' := (s₁.setTop (mkF m 11 #[.val (.ref a1), .val (.ref a2), .val (.int (1 : Int32))] [(.ref a1), (.int (1 : Int32))]))) (fun t k => XS.aloadN X0.here hx rfl (hb hby d_jdk_43_method_13_code_10) rfl rfl k) ?_
    obtain ⟨cl7, Ar7, q7, S7, M7, H7, G7⟩ := id P0
    refine own_fw (A' := (s₁.setTop (mkF m 12 #[.val (.ref a1), .val (.ref a2), .val (.int (1 : Int32))] [(.int (1 : Int32)), (.int (1 : Int32))]))) (fun t k => X0.arraylength hx (by rw [e0]; exact Ar7.1) (State.isArrayOf_alike hZ.alike Ar7.2.1) (g := (mkF m 11 #[.val (.ref a1), .val (.ref a2), .val (.int (1 : Int32))] [(.ref a1), (.int (1 : Int32))])) rfl rfl (hb hby d_jdk_43_method_13_code_11) _ (by rw [len_of S7 M7]; exact k)) ?_
    refine own_fw (A' := (s₁.setTop (mkF m 32 #[.val (.ref a1), .val (.ref a2), .val (.int (1 : Int32))] []))) (fun t k => XS.icmpYes X0.here hx rfl (pc0 := 12) (pc' := 32) rfl (hb hby d_jdk_43_method_13_code_12) rfl (XT.ii_ge_t (by decide)) (by decide) (by decide) k) ?_
    refine own_fw (A' := (s₁.setTop (mkF m 33 #[.val (.ref a1), .val (.ref a2), .val (.int (1 : Int32))] [(.int (1 : Int32))]))) (fun t k => XS.iconst X0.here hx rfl (hb hby d_jdk_43_method_13_code_32) k) ?_
    obtain ⟨fs, hr, hrun, hended, hW, hsame⟩ := X0.leave (v := some (.int (1 : Int32))) (fun h => by rw [Bd.returns] at h; cases h)
    refine ⟨_, _, ?_, hrun, hended, _, _, rfl, ?_, ⟨_, rfl⟩, hW, hsame.mono (by decide) (by decide)⟩
    · exact retOut X0 hx Bd.returns rfl (Or.inl ⟨rfl, by simp, _, rfl⟩) (hb hby d_jdk_43_method_13_code_33) hr
    · show Q_rmLeq11 Z a1 a2 k1 k2 x0 y0 h0 n0 _ s₁.heap _
      rw [e0]
      exact ⟨(by simp only [if_pos hc6]), N0, rfl⟩
  · refine own_fw (A' := (s₁.setTop (mkF m 24 #[.val (.ref a1), .val (.ref a2), .val (.int (0 : Int32))] []))) (fun t k => XS.icmpNo X0.here hx rfl (hb hby d_jdk_43_method_13_code_21) rfl (XT.ii_eq_f hc6) k) ?_
    refine own_fw (A' := (s₁.setTop (mkF m 25 #[.val (.ref a1), .val (.ref a2), .val (.int (0 : Int32))] [(.int (0 : Int32))]))) (fun t k => XS.iconst X0.here hx rfl (hb hby d_jdk_43_method_13_code_24) k) ?_
    obtain ⟨fs, hr, hrun, hended, hW, hsame⟩ := X0.leave (v := some (.int (0 : Int32))) (fun h => by rw [Bd.returns] at h; cases h)
    refine ⟨_, _, ?_, hrun, hended, _, _, rfl, ?_, ⟨_, rfl⟩, hW, hsame.mono (by decide) (by decide)⟩
    · exact retOut X0 hx Bd.returns rfl (Or.inl ⟨rfl, by simp, _, rfl⟩) (hb hby d_jdk_43_method_13_code_25) hr
    · show Q_rmLeq11 Z a1 a2 k1 k2 x0 y0 h0 n0 _ s₁.heap _
      rw [e0]
      exact ⟨(by simp only [if_neg hc6]), N0, rfl⟩
theorem ef_rmSeq11 (m : MethodId) (a1 : Addr) (a2 : Addr) : entryFrame m #[(.ref a1), (.ref a2)] 3 = mkF m 0 #[.val (.ref a1), .val (.ref a2), .unset] [] := by first | (simp [entryFrame, mkF, argsToLocals, Value.category]; done) | rfl
def Q_rmSeq11 (Z : State) (a1 : Addr) (a2 : Addr) (b1 : Addr) (b2 : Addr) (k1 : ClassId) (k2 : ClassId) (cs : Int32) (x0 : Int32) (y0 : Int32) (h0 : Heap) (n0 : Nat) (v : Option Value) (h : Heap) (L : List Loc) : Prop := v = some (.int (if x0 = y0 then (1 : Int32) else (0 : Int32))) ∧ Fr n0 L ∧ h = h0
set_option maxRecDepth 65536 in
set_option maxHeartbeats 40000000 in
theorem rmSeq11 (l : Launch) (Z : State) (a0 : Array Value) (hw : ∀ d ∈ tables_1, d.before a0 Z = true) (ws : List Jvm.Cond) (a1 : Addr) (a2 : Addr) (b1 : Addr) (b2 : Addr) (k1 : ClassId) (k2 : ClassId) (cs : Int32) (x0 : Int32) (y0 : Int32) (h0 : Heap) (n0 : Nat) (Z0 : n0 ≤ h0.size) (P0 : Exa Z h0 a1 "java/lang/String") (P1 : Exa Z h0 a2 "java/lang/String") (P2 : Fld Z h0 a1 "java/lang/String" "coder" "B" (.int (0 : Int32))) (P3 : Fld Z h0 a2 "java/lang/String" "coder" "B" (.int (0 : Int32))) (P4 : Fld Z h0 a1 "java/lang/String" "value" "[B" (.ref b1)) (P5 : Fld Z h0 a2 "java/lang/String" "value" "[B" (.ref b2)) (P6 : Arv Z h0 b1 k1 .byte (1 : Int32) [(.int x0)] (.int (0 : Int32))) (P7 : Arv Z h0 b2 k2 .byte (1 : Int32) [(.int y0)] (.int (0 : Int32))) (ne_a1_a2 : a1 ≠ a2) (P9 : Sta Z h0 "java/lang/String" "COMPACT_STRINGS" "Z" (.int cs)) (hcs : ¬ (cs = (0 : Int32))) :
    MetFree l (⟨"java/lang/String", "equals", "(Ljava/lang/Object;)Z"⟩ : MethodName) (head1 (Jvm.Cond.code (⟨"java/lang/String", "equals", "(Ljava/lang/Object;)Z"⟩ : MethodName) jdk_42_method_66_code 3 (some .boolean) :: ws) ({ frames := 1, cells := 0, slots := 0, locals := 14 } : Room)) (fun a U => a = #[(.ref a1), (.ref a2)] ∧ Z.Warmed39 U.vm ∧ U.heap = h0) (fun _ _ _ _ _ => True) (fun _ U o U' => ∃ v L, o = .returned v ∧ Q_rmSeq11 Z a1 a2 b1 b2 k1 k2 cs x0 y0 h0 n0 v U'.heap L ∧ FrameEnd U o U' L ({ frames := 1, cells := 0, slots := 0, locals := 14 } : Room).cells ({ frames := 1, cells := 0, slots := 0, locals := 14 } : Room).slots) := by
  refine MetFree.of_bodySF (plainFor_of_name pn_java_lang_String) hisR ?_
  intro p e s m args below meth c s₁ Bd hml0 hP hK
  obtain ⟨rfl, hZ, hh⟩ := hP
  have hx := Bd.exec
  have hby := Bd.bytes
  have hml : c.maxLocals = 3 := hml0
  have hown : s.vm.findClass "java/lang/String" = some m.cls := findClass_of_methodNamed Bd.named
  have hnm := (name_of_methodNamed Bd.named Bd.method).1
  have X0 : Stand p l e ({ frames := 1, cells := 0, slots := 0, locals := 14 } : Room) s m #[(.ref a1), (.ref a2)] below meth c s₁ [] 0 0 := Stand.of_body Bd
  have e0 : s₁.heap = h0 := by rw [← hh, Bd.state]; rfl
  have N0 := Fr.nil n0
  refine own_fw (A' := (s₁.setTop (mkF m 0 #[.val (.ref a1), .val (.ref a2), .unset] []))) (fun t k => castTop (ef_rmSeq11 m a1 a2) k) ?_
  refine own_fw (A' := (s₁.setTop (mkF m 1 #[.val (.ref a1), .val (.ref a2), .unset] [(.ref a1)]))) (fun t k => XS.aloadN X0.here hx rfl (hb hby d_jdk_42_method_66_code_0) rfl rfl k) ?_
  refine own_fw (A' := (s₁.setTop (mkF m 2 #[.val (.ref a1), .val (.ref a2), .unset] [(.ref a2), (.ref a1)]))) (fun t k => XS.aloadN X0.here hx rfl (hb hby d_jdk_42_method_66_code_1) rfl rfl k) ?_
  refine own_fw (A' := (s₁.setTop (mkF m 7 #[.val (.ref a1), .val (.ref a2), .unset] []))) (fun t k => Jvm.RoadKit.acmp (g := (mkF m 2 #[.val (.ref a1), .val (.ref a2), .unset] [(.ref a2), (.ref a1)])) X0 hx rfl rfl rfl (pc0 := 2) (pc' := 7) (same := false) rfl (hb hby d_jdk_42_method_66_code_2) rfl (decide_eq_false (fun q => ne_a1_a2 (Value.ref.inj q))) (by decide) (by decide) k) ?_
  refine own_fw (A' := (s₁.setTop (mkF m 8 #[.val (.ref a1), .val (.ref a2), .unset] [(.ref a2)]))) (fun t k => XS.aloadN X0.here hx rfl (hb hby d_jdk_42_method_66_code_7) rfl rfl k) ?_
  obtain ⟨T1, X1, e1, st1⟩ := instY X0 hx hZ hown (hw _ (List.mem_of_getElem? (i := 75) rfl)) e0 (Ins.self P1) (g := (mkF m 8 #[.val (.ref a1), .val (.ref a2), .unset] [(.ref a2)])) rfl rfl (hb hby d_jdk_42_method_66_code_8)
  refine own_fw (A' := (T1.setTop (mkF m 11 #[.val (.ref a1), .val (.ref a2), .unset] [(.int (1 : Int32))]))) (fun t k => st1 _ k) ?_
  refine own_fw (A' := (T1.setTop (mkF m 14 #[.val (.ref a1), .val (.ref a2), .unset] []))) (fun t k => XS.ifNo X1.here hx rfl (hb hby d_jdk_42_method_66_code_11) rfl (XT.i0_eq_f (by decide)) k) ?_
  refine own_fw (A' := (T1.setTop (mkF m 15 #[.val (.ref a1), .val (.ref a2), .unset] [(.ref a2)]))) (fun t k => XS.aloadN X1.here hx rfl (hb hby d_jdk_42_method_66_code_14) rfl rfl k) ?_
  obtain ⟨T2, X2, e2, st2⟩ := castY X1 hx hZ hown (hw _ (List.mem_of_getElem? (i := 75) rfl)) e1 (Ins.self P1) (g := (mkF m 15 #[.val (.ref a1), .val (.ref a2), .unset] [(.ref a2)])) rfl rfl (hb hby d_jdk_42_method_66_code_15)
  refine own_fw (A' := (T2.setTop (mkF m 18 #[.val (.ref a1), .val (.ref a2), .unset] [(.ref a2)]))) (fun t k => st2 _ k) ?_
  refine own_fw (A' := (T2.setTop (mkF m 19 #[.val (.ref a1), .val (.ref a2), .val (.ref a2)] []))) (fun t k => XS.astoreN X2.here hx rfl (hb hby d_jdk_42_method_66_code_18) rfl rfl (l' := #[.val (.ref a1), .val (.ref a2), .val (.ref a2)]) rfl k) ?_
  obtain ⟨T3, X3, e3, st3⟩ := getS2 X2 hx hZ hown (host := "") (Or.inl (hw _ (List.mem_of_getElem? (i := 32) rfl))) Via.refl e2 P9 (g := (mkF m 19 #[.val (.ref a1), .val (.ref a2), .val (.ref a2)] [])) rfl (hb hby d_jdk_42_method_66_code_19)
  refine own_fw (A' := (T3.setTop (mkF m 22 #[.val (.ref a1), .val (.ref a2), .val (.ref a2)] [(.int cs)]))) (fun t k => st3 _ k) ?_
  refine own_fw (A' := (T3.setTop (mkF m 25 #[.val (.ref a1), .val (.ref a2), .val (.ref a2)] []))) (fun t k => XS.ifNo X3.here hx rfl (hb hby d_jdk_42_method_66_code_22) rfl (XT.i0_eq_f hcs) k) ?_
  refine own_fw (A' := (T3.setTop (mkF m 26 #[.val (.ref a1), .val (.ref a2), .val (.ref a2)] [(.ref a1)]))) (fun t k => XS.aloadN X3.here hx rfl (hb hby d_jdk_42_method_66_code_25) rfl rfl k) ?_
  obtain ⟨T4, X4, e4, st4⟩ := getF X3 hx hZ hown (host := "") (Or.inl (hw _ (List.mem_of_getElem? (i := 31) rfl))) Via.refl e3 P2 (g := (mkF m 26 #[.val (.ref a1), .val (.ref a2), .val (.ref a2)] [(.ref a1)])) rfl rfl (hb hby d_jdk_42_method_66_code_26)
  refine own_fw (A' := (T4.setTop (mkF m 29 #[.val (.ref a1), .val (.ref a2), .val (.ref a2)] [(.int (0 : Int32))]))) (fun t k => st4 _ k) ?_
  refine own_fw (A' := (T4.setTop (mkF m 30 #[.val (.ref a1), .val (.ref a2), .val (.ref a2)] [(.ref a2), (.int (0 : Int32))]))) (fun t k => XS.aloadN X4.here hx rfl (hb hby d_jdk_42_method_66_code_29) rfl rfl k) ?_
  obtain ⟨T5, X5, e5, st5⟩ := getF X4 hx hZ hown (host := "") (Or.inl (hw _ (List.mem_of_getElem? (i := 31) rfl))) Via.refl e4 P3 (g := (mkF m 30 #[.val (.ref a1), .val (.ref a2), .val (.ref a2)] [(.ref a2), (.int (0 : Int32))])) rfl rfl (hb hby d_jdk_42_method_66_code_30)
  refine own_fw (A' := (T5.setTop (mkF m 33 #[.val (.ref a1), .val (.ref a2), .val (.ref a2)] [(.int (0 : Int32)), (.int (0 : Int32))]))) (fun t k => st5 _ k) ?_
  refine own_fw (A' := (T5.setTop (mkF m 36 #[.val (.ref a1), .val (.ref a2), .val (.ref a2)] []))) (fun t k => XS.icmpNo X5.here hx rfl (hb hby d_jdk_42_method_66_code_33) rfl (XT.ii_ne_f rfl) k) ?_
  refine own_fw (A' := (T5.setTop (mkF m 37 #[.val (.ref a1), .val (.ref a2), .val (.ref a2)] [(.ref a1)]))) (fun t k => XS.aloadN X5.here hx rfl (hb hby d_jdk_42_method_66_code_36) rfl rfl k) ?_
  obtain ⟨T6, X6, e6, st6⟩ := getF X5 hx hZ hown (host := "") (Or.inl (hw _ (List.mem_of_getElem? (i := 30) rfl))) Via.refl e5 P4 (g := (mkF m 37 #[.val (.ref a1), .val (.ref a2), .val (.ref a2)] [(.ref a1)])) rfl rfl (hb hby d_jdk_42_method_66_code_37)
  refine own_fw (A' := (T6.setTop (mkF m 40 #[.val (.ref a1), .val (.ref a2), .val (.ref a2)] [(.ref b1)]))) (fun t k => st6 _ k) ?_
  refine own_fw (A' := (T6.setTop (mkF m 41 #[.val (.ref a1), .val (.ref a2), .val (.ref a2)] [(.ref a2), (.ref b1)]))) (fun t k => XS.aloadN X6.here hx rfl (hb hby d_jdk_42_method_66_code_40) rfl rfl k) ?_
  obtain ⟨T7, X7, e7, st7⟩ := getF X6 hx hZ hown (host := "") (Or.inl (hw _ (List.mem_of_getElem? (i := 30) rfl))) Via.refl e6 P5 (g := (mkF m 41 #[.val (.ref a1), .val (.ref a2), .val (.ref a2)] [(.ref a2), (.ref b1)])) rfl rfl (hb hby d_jdk_42_method_66_code_41)
  refine own_fw (A' := (T7.setTop (mkF m 44 #[.val (.ref a1), .val (.ref a2), .val (.ref a2)] [(.ref b2), (.ref b1)]))) (fun t k => st7 _ k) ?_
  obtain ⟨_, _, ⟨T8, L8, k8, n8⟩, -, X8, ⟨Lc8, hQ8, l8, y8, z8⟩, st8⟩ := Jvm.LawKit.callS X7 hx (y := (⟨"java/lang/StringLatin1", "equals", "([B[B)Z"⟩ : MethodName)) hown (mvT hZ (hw _ (List.mem_of_getElem? (i := 76) rfl))) (mvT hZ (hw _ (List.mem_of_getElem? (i := 77) rfl))) (mvT hZ (hw _ (List.mem_of_getElem? (i := 78) rfl))) (mvT hZ (hw _ (List.mem_of_getElem? (i := 79) rfl))) (by decide) (backOf (W := 0) (rmLeq11 l Z a0 hw [] b1 b2 k1 k2 x0 y0 h0 n0 Z0 P6 P7) hZ (hw _ (List.mem_of_getElem? (i := 79) rfl)) (hw _ (List.mem_of_getElem? (i := 78) rfl)) (by decide) (by decide)) (g := (mkF m 44 #[.val (.ref a1), .val (.ref a2), .val (.ref a2)] [(.ref b2), (.ref b1)])) rfl (by rw [hml]; rfl) (argsL := [(.ref b1), (.ref b2)]) (rest := []) (lenOf pd___B_B_Z rfl) rfl (by show 2 * 0 + _ ≤ _; exact Nat.le_of_eq rfl) (hb hby d_jdk_42_method_66_code_44) (fun _ _ => ⟨rfl, e7, (by decide : 0 + 0 ≤ _), (by decide : 0 + 0 ≤ _)⟩)
  dsimp only [Pt.U, Pt.locs, Pt.cells, Pt.slots] at X8 l8 y8 z8 st8 hQ8
  subst l8 y8 z8
  obtain ⟨rfl, Nq8, e8⟩ := hQ8
  have Nf8 := Fr.app N0 Nq8
  refine own_fw (A' := (T8.setTop (mkF m 47 #[.val (.ref a1), .val (.ref a2), .val (.ref a2)] [(.int (if x0 = y0 then (1 : Int32) else (0 : Int32)))]))) (fun t k => st8 _ k) ?_
  by_cases hc9 : (if x0 = y0 then (1 : Int32) else (0 : Int32)) = (0 : Int32)
  · refine own_fw (A' := (T8.setTop (mkF m 54 #[.val (.ref a1), .val (.ref a2), .val (.ref a2)] []))) (fun t k => XS.ifYes X8.here hx rfl (pc0 := 47) (pc' := 54) rfl (hb hby d_jdk_42_method_66_code_47) rfl (XT.i0_eq_t hc9) (by decide) (by decide) k) ?_
    refine own_fw (A' := (T8.setTop (mkF m 55 #[.val (.ref a1), .val (.ref a2), .val (.ref a2)] [(.int (0 : Int32))]))) (fun t k => XS.iconst X8.here hx rfl (hb hby d_jdk_42_method_66_code_54) k) ?_
    obtain ⟨fs, hr, hrun, hended, hW, hsame⟩ := X8.leave (v := some (.int (0 : Int32))) (fun h => by rw [Bd.returns] at h; cases h)
    refine ⟨_, _, ?_, hrun, hended, _, _, rfl, ?_, ⟨_, rfl⟩, hW, hsame.mono (by decide) (by decide)⟩
    · exact retOut X8 hx Bd.returns rfl (Or.inl ⟨rfl, by simp, _, rfl⟩) (hb hby d_jdk_42_method_66_code_55) hr
    · show Q_rmSeq11 Z a1 a2 b1 b2 k1 k2 cs x0 y0 h0 n0 _ T8.heap _
      rw [e8]
      exact ⟨(by first | rfl | (have q := hc9; revert q; (repeat' split) <;> simp)), Nf8, rfl⟩
  · refine own_fw (A' := (T8.setTop (mkF m 50 #[.val (.ref a1), .val (.ref a2), .val (.ref a2)] []))) (fun t k => XS.ifNo X8.here hx rfl (hb hby d_jdk_42_method_66_code_47) rfl (XT.i0_eq_f hc9) k) ?_
    refine own_fw (A' := (T8.setTop (mkF m 51 #[.val (.ref a1), .val (.ref a2), .val (.ref a2)] [(.int (1 : Int32))]))) (fun t k => XS.iconst X8.here hx rfl (hb hby d_jdk_42_method_66_code_50) k) ?_
    refine own_fw (A' := (T8.setTop (mkF m 55 #[.val (.ref a1), .val (.ref a2), .val (.ref a2)] [(.int (1 : Int32))]))) (fun t k => XS.goto X8.here hx rfl (pc0 := 51) (pc' := 55) rfl (hb hby d_jdk_42_method_66_code_51) (by decide) (by decide) k) ?_
    obtain ⟨fs, hr, hrun, hended, hW, hsame⟩ := X8.leave (v := some (.int (1 : Int32))) (fun h => by rw [Bd.returns] at h; cases h)
    refine ⟨_, _, ?_, hrun, hended, _, _, rfl, ?_, ⟨_, rfl⟩, hW, hsame.mono (by decide) (by decide)⟩
    · exact retOut X8 hx Bd.returns rfl (Or.inl ⟨rfl, by simp, _, rfl⟩) (hb hby d_jdk_42_method_66_code_55) hr
    · show Q_rmSeq11 Z a1 a2 b1 b2 k1 k2 cs x0 y0 h0 n0 _ T8.heap _
      rw [e8]
      exact ⟨(by first | rfl | (have q := hc9; revert q; (repeat' split) <;> simp)), Nf8, rfl⟩
theorem ef_rmLeq12 (m : MethodId) (a1 : Addr) (a2 : Addr) : entryFrame m #[(.ref a1), (.ref a2)] 3 = mkF m 0 #[.val (.ref a1), .val (.ref a2), .unset] [] := by first | (simp [entryFrame, mkF, argsToLocals, Value.category]; done) | rfl
def Q_rmLeq12 (Z : State) (a1 : Addr) (a2 : Addr) (k1 : ClassId) (k2 : ClassId) (x0 : Int32) (y0 : Int32) (y1 : Int32) (h0 : Heap) (n0 : Nat) (v : Option Value) (h : Heap) (L : List Loc) : Prop := v = some (.int (0 : Int32)) ∧ Fr n0 L ∧ h = h0
set_option maxRecDepth 65536 in
set_option maxHeartbeats 40000000 in
theorem rmLeq12 (l : Launch) (Z : State) (a0 : Array Value) (hw : ∀ d ∈ tables_1, d.before a0 Z = true) (ws : List Jvm.Cond) (a1 : Addr) (a2 : Addr) (k1 : ClassId) (k2 : ClassId) (x0 : Int32) (y0 : Int32) (y1 : Int32) (h0 : Heap) (n0 : Nat) (Z0 : n0 ≤ h0.size) (P0 : Arv Z h0 a1 k1 .byte (1 : Int32) [(.int x0)] (.int (0 : Int32))) (P1 : Arv Z h0 a2 k2 .byte (2 : Int32) [(.int y0), (.int y1)] (.int (0 : Int32))) :
    MetFree l (⟨"java/lang/StringLatin1", "equals", "([B[B)Z"⟩ : MethodName) (head1 (Jvm.Cond.code (⟨"java/lang/StringLatin1", "equals", "([B[B)Z"⟩ : MethodName) jdk_43_method_13_code 3 (some .boolean) :: ws) ({ frames := 0, cells := 0, slots := 0, locals := 0 } : Room)) (fun a U => a = #[(.ref a1), (.ref a2)] ∧ Z.Warmed39 U.vm ∧ U.heap = h0) (fun _ _ _ _ _ => True) (fun _ U o U' => ∃ v L, o = .returned v ∧ Q_rmLeq12 Z a1 a2 k1 k2 x0 y0 y1 h0 n0 v U'.heap L ∧ FrameEnd U o U' L ({ frames := 0, cells := 0, slots := 0, locals := 0 } : Room).cells ({ frames := 0, cells := 0, slots := 0, locals := 0 } : Room).slots) := by
  refine MetFree.of_bodySF (plainFor_of_name pn_java_lang_StringLatin1) hisR ?_
  intro p e s m args below meth c s₁ Bd hml0 hP hK
  obtain ⟨rfl, hZ, hh⟩ := hP
  have hx := Bd.exec
  have hby := Bd.bytes
  have hml : c.maxLocals = 3 := hml0
  have hown : s.vm.findClass "java/lang/StringLatin1" = some m.cls := findClass_of_methodNamed Bd.named
  have hnm := (name_of_methodNamed Bd.named Bd.method).1
  have X0 : Stand p l e ({ frames := 0, cells := 0, slots := 0, locals := 0 } : Room) s m #[(.ref a1), (.ref a2)] below meth c s₁ [] 0 0 := Stand.of_body Bd
  have e0 : s₁.heap = h0 := by rw [← hh, Bd.state]; rfl
  have N0 := Fr.nil n0
  refine own_fw (A' := (s₁.setTop (mkF m 0 #[.val (.ref a1), .val (.ref a2), .unset] []))) (fun t k => castTop (ef_rmLeq12 m a1 a2) k) ?_
  refine own_fw (A' := (s₁.setTop (mkF m 1 #[.val (.ref a1), .val (.ref a2), .unset] [(.ref a1)]))) (fun t k => XS.aloadN X0.here hx rfl (hb hby d_jdk_43_method_13_code_0) rfl rfl k) ?_
  obtain ⟨cl1, Ar1, q1, S1, M1, H1, G1⟩ := id P0
  refine own_fw (A' := (s₁.setTop (mkF m 2 #[.val (.ref a1), .val (.ref a2), .unset] [(.int (1 : Int32))]))) (fun t k => X0.arraylength hx (by rw [e0]; exact Ar1.1) (State.isArrayOf_alike hZ.alike Ar1.2.1) (g := (mkF m 1 #[.val (.ref a1), .val (.ref a2), .unset] [(.ref a1)])) rfl rfl (hb hby d_jdk_43_method_13_code_1) _ (by rw [len_of S1 M1]; exact k)) ?_
  refine own_fw (A' := (s₁.setTop (mkF m 3 #[.val (.ref a1), .val (.ref a2), .unset] [(.ref a2), (.int (1 : Int32))]))) (fun t k => XS.aloadN X0.here hx rfl (hb hby d_jdk_43_method_13_code_2) rfl rfl k) ?_
  obtain ⟨cl2, Ar2, q2, S2, M2, H2, G2⟩ := id P1
  refine own_fw (A' := (s₁.setTop (mkF m 4 #[.val (.ref a1), .val (.ref a2), .unset] [(.int (2 : Int32)), (.int (1 : Int32))]))) (fun t k => X0.arraylength hx (by rw [e0]; exact Ar2.1) (State.isArrayOf_alike hZ.alike Ar2.2.1) (g := (mkF m 3 #[.val (.ref a1), .val (.ref a2), .unset] [(.ref a2), (.int (1 : Int32))])) rfl rfl (hb hby d_jdk_43_method_13_code_3) _ (by rw [len_of S2 M2]; exact k)) ?_
  refine own_fw (A' := (s₁.setTop (mkF m 34 #[.val (.ref a1), .val (.ref a2), .unset] []))) (fun t k => XS.icmpYes X0.here hx rfl (pc0 := 4) (pc' := 34) rfl (hb hby d_jdk_43_method_13_code_4) rfl (XT.ii_ne_t (by decide)) (by decide) (by decide) k) ?_
  refine own_fw (A' := (s₁.setTop (mkF m 35 #[.val (.ref a1), .val (.ref a2), .unset] [(.int (0 : Int32))]))) (fun t k => XS.iconst X0.here hx rfl (hb hby d_jdk_43_method_13_code_34) k) ?_
  obtain ⟨fs, hr, hrun, hended, hW, hsame⟩ := X0.leave (v := some (.int (0 : Int32))) (fun h => by rw [Bd.returns] at h; cases h)
  refine ⟨_, _, ?_, hrun, hended, _, _, rfl, ?_, ⟨_, rfl⟩, hW, hsame.mono (by decide) (by decide)⟩
  · exact retOut X0 hx Bd.returns rfl (Or.inl ⟨rfl, by simp, _, rfl⟩) (hb hby d_jdk_43_method_13_code_35) hr
  · show Q_rmLeq12 Z a1 a2 k1 k2 x0 y0 y1 h0 n0 _ s₁.heap _
    rw [e0]
    exact ⟨rfl, N0, rfl⟩
theorem ef_rmSeq12 (m : MethodId) (a1 : Addr) (a2 : Addr) : entryFrame m #[(.ref a1), (.ref a2)] 3 = mkF m 0 #[.val (.ref a1), .val (.ref a2), .unset] [] := by first | (simp [entryFrame, mkF, argsToLocals, Value.category]; done) | rfl
def Q_rmSeq12 (Z : State) (a1 : Addr) (a2 : Addr) (b1 : Addr) (b2 : Addr) (k1 : ClassId) (k2 : ClassId) (cs : Int32) (x0 : Int32) (y0 : Int32) (y1 : Int32) (h0 : Heap) (n0 : Nat) (v : Option Value) (h : Heap) (L : List Loc) : Prop := v = some (.int (0 : Int32)) ∧ Fr n0 L ∧ h = h0
set_option maxRecDepth 65536 in
set_option maxHeartbeats 40000000 in
theorem rmSeq12 (l : Launch) (Z : State) (a0 : Array Value) (hw : ∀ d ∈ tables_1, d.before a0 Z = true) (ws : List Jvm.Cond) (a1 : Addr) (a2 : Addr) (b1 : Addr) (b2 : Addr) (k1 : ClassId) (k2 : ClassId) (cs : Int32) (x0 : Int32) (y0 : Int32) (y1 : Int32) (h0 : Heap) (n0 : Nat) (Z0 : n0 ≤ h0.size) (P0 : Exa Z h0 a1 "java/lang/String") (P1 : Exa Z h0 a2 "java/lang/String") (P2 : Fld Z h0 a1 "java/lang/String" "coder" "B" (.int (0 : Int32))) (P3 : Fld Z h0 a2 "java/lang/String" "coder" "B" (.int (0 : Int32))) (P4 : Fld Z h0 a1 "java/lang/String" "value" "[B" (.ref b1)) (P5 : Fld Z h0 a2 "java/lang/String" "value" "[B" (.ref b2)) (P6 : Arv Z h0 b1 k1 .byte (1 : Int32) [(.int x0)] (.int (0 : Int32))) (P7 : Arv Z h0 b2 k2 .byte (2 : Int32) [(.int y0), (.int y1)] (.int (0 : Int32))) (ne_a1_a2 : a1 ≠ a2) (P9 : Sta Z h0 "java/lang/String" "COMPACT_STRINGS" "Z" (.int cs)) (hcs : ¬ (cs = (0 : Int32))) :
    MetFree l (⟨"java/lang/String", "equals", "(Ljava/lang/Object;)Z"⟩ : MethodName) (head1 (Jvm.Cond.code (⟨"java/lang/String", "equals", "(Ljava/lang/Object;)Z"⟩ : MethodName) jdk_42_method_66_code 3 (some .boolean) :: ws) ({ frames := 1, cells := 0, slots := 0, locals := 14 } : Room)) (fun a U => a = #[(.ref a1), (.ref a2)] ∧ Z.Warmed39 U.vm ∧ U.heap = h0) (fun _ _ _ _ _ => True) (fun _ U o U' => ∃ v L, o = .returned v ∧ Q_rmSeq12 Z a1 a2 b1 b2 k1 k2 cs x0 y0 y1 h0 n0 v U'.heap L ∧ FrameEnd U o U' L ({ frames := 1, cells := 0, slots := 0, locals := 14 } : Room).cells ({ frames := 1, cells := 0, slots := 0, locals := 14 } : Room).slots) := by
  refine MetFree.of_bodySF (plainFor_of_name pn_java_lang_String) hisR ?_
  intro p e s m args below meth c s₁ Bd hml0 hP hK
  obtain ⟨rfl, hZ, hh⟩ := hP
  have hx := Bd.exec
  have hby := Bd.bytes
  have hml : c.maxLocals = 3 := hml0
  have hown : s.vm.findClass "java/lang/String" = some m.cls := findClass_of_methodNamed Bd.named
  have hnm := (name_of_methodNamed Bd.named Bd.method).1
  have X0 : Stand p l e ({ frames := 1, cells := 0, slots := 0, locals := 14 } : Room) s m #[(.ref a1), (.ref a2)] below meth c s₁ [] 0 0 := Stand.of_body Bd
  have e0 : s₁.heap = h0 := by rw [← hh, Bd.state]; rfl
  have N0 := Fr.nil n0
  refine own_fw (A' := (s₁.setTop (mkF m 0 #[.val (.ref a1), .val (.ref a2), .unset] []))) (fun t k => castTop (ef_rmSeq12 m a1 a2) k) ?_
  refine own_fw (A' := (s₁.setTop (mkF m 1 #[.val (.ref a1), .val (.ref a2), .unset] [(.ref a1)]))) (fun t k => XS.aloadN X0.here hx rfl (hb hby d_jdk_42_method_66_code_0) rfl rfl k) ?_
  refine own_fw (A' := (s₁.setTop (mkF m 2 #[.val (.ref a1), .val (.ref a2), .unset] [(.ref a2), (.ref a1)]))) (fun t k => XS.aloadN X0.here hx rfl (hb hby d_jdk_42_method_66_code_1) rfl rfl k) ?_
  refine own_fw (A' := (s₁.setTop (mkF m 7 #[.val (.ref a1), .val (.ref a2), .unset] []))) (fun t k => Jvm.RoadKit.acmp (g := (mkF m 2 #[.val (.ref a1), .val (.ref a2), .unset] [(.ref a2), (.ref a1)])) X0 hx rfl rfl rfl (pc0 := 2) (pc' := 7) (same := false) rfl (hb hby d_jdk_42_method_66_code_2) rfl (decide_eq_false (fun q => ne_a1_a2 (Value.ref.inj q))) (by decide) (by decide) k) ?_
  refine own_fw (A' := (s₁.setTop (mkF m 8 #[.val (.ref a1), .val (.ref a2), .unset] [(.ref a2)]))) (fun t k => XS.aloadN X0.here hx rfl (hb hby d_jdk_42_method_66_code_7) rfl rfl k) ?_
  obtain ⟨T1, X1, e1, st1⟩ := instY X0 hx hZ hown (hw _ (List.mem_of_getElem? (i := 75) rfl)) e0 (Ins.self P1) (g := (mkF m 8 #[.val (.ref a1), .val (.ref a2), .unset] [(.ref a2)])) rfl rfl (hb hby d_jdk_42_method_66_code_8)
  refine own_fw (A' := (T1.setTop (mkF m 11 #[.val (.ref a1), .val (.ref a2), .unset] [(.int (1 : Int32))]))) (fun t k => st1 _ k) ?_
  refine own_fw (A' := (T1.setTop (mkF m 14 #[.val (.ref a1), .val (.ref a2), .unset] []))) (fun t k => XS.ifNo X1.here hx rfl (hb hby d_jdk_42_method_66_code_11) rfl (XT.i0_eq_f (by decide)) k) ?_
  refine own_fw (A' := (T1.setTop (mkF m 15 #[.val (.ref a1), .val (.ref a2), .unset] [(.ref a2)]))) (fun t k => XS.aloadN X1.here hx rfl (hb hby d_jdk_42_method_66_code_14) rfl rfl k) ?_
  obtain ⟨T2, X2, e2, st2⟩ := castY X1 hx hZ hown (hw _ (List.mem_of_getElem? (i := 75) rfl)) e1 (Ins.self P1) (g := (mkF m 15 #[.val (.ref a1), .val (.ref a2), .unset] [(.ref a2)])) rfl rfl (hb hby d_jdk_42_method_66_code_15)
  refine own_fw (A' := (T2.setTop (mkF m 18 #[.val (.ref a1), .val (.ref a2), .unset] [(.ref a2)]))) (fun t k => st2 _ k) ?_
  refine own_fw (A' := (T2.setTop (mkF m 19 #[.val (.ref a1), .val (.ref a2), .val (.ref a2)] []))) (fun t k => XS.astoreN X2.here hx rfl (hb hby d_jdk_42_method_66_code_18) rfl rfl (l' := #[.val (.ref a1), .val (.ref a2), .val (.ref a2)]) rfl k) ?_
  obtain ⟨T3, X3, e3, st3⟩ := getS2 X2 hx hZ hown (host := "") (Or.inl (hw _ (List.mem_of_getElem? (i := 32) rfl))) Via.refl e2 P9 (g := (mkF m 19 #[.val (.ref a1), .val (.ref a2), .val (.ref a2)] [])) rfl (hb hby d_jdk_42_method_66_code_19)
  refine own_fw (A' := (T3.setTop (mkF m 22 #[.val (.ref a1), .val (.ref a2), .val (.ref a2)] [(.int cs)]))) (fun t k => st3 _ k) ?_
  refine own_fw (A' := (T3.setTop (mkF m 25 #[.val (.ref a1), .val (.ref a2), .val (.ref a2)] []))) (fun t k => XS.ifNo X3.here hx rfl (hb hby d_jdk_42_method_66_code_22) rfl (XT.i0_eq_f hcs) k) ?_
  refine own_fw (A' := (T3.setTop (mkF m 26 #[.val (.ref a1), .val (.ref a2), .val (.ref a2)] [(.ref a1)]))) (fun t k => XS.aloadN X3.here hx rfl (hb hby d_jdk_42_method_66_code_25) rfl rfl k) ?_
  obtain ⟨T4, X4, e4, st4⟩ := getF X3 hx hZ hown (host := "") (Or.inl (hw _ (List.mem_of_getElem? (i := 31) rfl))) Via.refl e3 P2 (g := (mkF m 26 #[.val (.ref a1), .val (.ref a2), .val (.ref a2)] [(.ref a1)])) rfl rfl (hb hby d_jdk_42_method_66_code_26)
  refine own_fw (A' := (T4.setTop (mkF m 29 #[.val (.ref a1), .val (.ref a2), .val (.ref a2)] [(.int (0 : Int32))]))) (fun t k => st4 _ k) ?_
  refine own_fw (A' := (T4.setTop (mkF m 30 #[.val (.ref a1), .val (.ref a2), .val (.ref a2)] [(.ref a2), (.int (0 : Int32))]))) (fun t k => XS.aloadN X4.here hx rfl (hb hby d_jdk_42_method_66_code_29) rfl rfl k) ?_
  obtain ⟨T5, X5, e5, st5⟩ := getF X4 hx hZ hown (host := "") (Or.inl (hw _ (List.mem_of_getElem? (i := 31) rfl))) Via.refl e4 P3 (g := (mkF m 30 #[.val (.ref a1), .val (.ref a2), .val (.ref a2)] [(.ref a2), (.int (0 : Int32))])) rfl rfl (hb hby d_jdk_42_method_66_code_30)
  refine own_fw (A' := (T5.setTop (mkF m 33 #[.val (.ref a1), .val (.ref a2), .val (.ref a2)] [(.int (0 : Int32)), (.int (0 : Int32))]))) (fun t k => st5 _ k) ?_
  refine own_fw (A' := (T5.setTop (mkF m 36 #[.val (.ref a1), .val (.ref a2), .val (.ref a2)] []))) (fun t k => XS.icmpNo X5.here hx rfl (hb hby d_jdk_42_method_66_code_33) rfl (XT.ii_ne_f rfl) k) ?_
  refine own_fw (A' := (T5.setTop (mkF m 37 #[.val (.ref a1), .val (.ref a2), .val (.ref a2)] [(.ref a1)]))) (fun t k => XS.aloadN X5.here hx rfl (hb hby d_jdk_42_method_66_code_36) rfl rfl k) ?_
  obtain ⟨T6, X6, e6, st6⟩ := getF X5 hx hZ hown (host := "") (Or.inl (hw _ (List.mem_of_getElem? (i := 30) rfl))) Via.refl e5 P4 (g := (mkF m 37 #[.val (.ref a1), .val (.ref a2), .val (.ref a2)] [(.ref a1)])) rfl rfl (hb hby d_jdk_42_method_66_code_37)
  refine own_fw (A' := (T6.setTop (mkF m 40 #[.val (.ref a1), .val (.ref a2), .val (.ref a2)] [(.ref b1)]))) (fun t k => st6 _ k) ?_
  refine own_fw (A' := (T6.setTop (mkF m 41 #[.val (.ref a1), .val (.ref a2), .val (.ref a2)] [(.ref a2), (.ref b1)]))) (fun t k => XS.aloadN X6.here hx rfl (hb hby d_jdk_42_method_66_code_40) rfl rfl k) ?_
  obtain ⟨T7, X7, e7, st7⟩ := getF X6 hx hZ hown (host := "") (Or.inl (hw _ (List.mem_of_getElem? (i := 30) rfl))) Via.refl e6 P5 (g := (mkF m 41 #[.val (.ref a1), .val (.ref a2), .val (.ref a2)] [(.ref a2), (.ref b1)])) rfl rfl (hb hby d_jdk_42_method_66_code_41)
  refine own_fw (A' := (T7.setTop (mkF m 44 #[.val (.ref a1), .val (.ref a2), .val (.ref a2)] [(.ref b2), (.ref b1)]))) (fun t k => st7 _ k) ?_
  obtain ⟨_, _, ⟨T8, L8, k8, n8⟩, -, X8, ⟨Lc8, hQ8, l8, y8, z8⟩, st8⟩ := Jvm.LawKit.callS X7 hx (y := (⟨"java/lang/StringLatin1", "equals", "([B[B)Z"⟩ : MethodName)) hown (mvT hZ (hw _ (List.mem_of_getElem? (i := 76) rfl))) (mvT hZ (hw _ (List.mem_of_getElem? (i := 77) rfl))) (mvT hZ (hw _ (List.mem_of_getElem? (i := 78) rfl))) (mvT hZ (hw _ (List.mem_of_getElem? (i := 79) rfl))) (by decide) (backOf (W := 0) (rmLeq12 l Z a0 hw [] b1 b2 k1 k2 x0 y0 y1 h0 n0 Z0 P6 P7) hZ (hw _ (List.mem_of_getElem? (i := 79) rfl)) (hw _ (List.mem_of_getElem? (i := 78) rfl)) (by decide) (by decide)) (g := (mkF m 44 #[.val (.ref a1), .val (.ref a2), .val (.ref a2)] [(.ref b2), (.ref b1)])) rfl (by rw [hml]; rfl) (argsL := [(.ref b1), (.ref b2)]) (rest := []) (lenOf pd___B_B_Z rfl) rfl (by show 2 * 0 + _ ≤ _; exact Nat.le_of_eq rfl) (hb hby d_jdk_42_method_66_code_44) (fun _ _ => ⟨rfl, e7, (by decide : 0 + 0 ≤ _), (by decide : 0 + 0 ≤ _)⟩)
  dsimp only [Pt.U, Pt.locs, Pt.cells, Pt.slots] at X8 l8 y8 z8 st8 hQ8
  subst l8 y8 z8
  obtain ⟨rfl, Nq8, e8⟩ := hQ8
  have Nf8 := Fr.app N0 Nq8
  refine own_fw (A' := (T8.setTop (mkF m 47 #[.val (.ref a1), .val (.ref a2), .val (.ref a2)] [(.int (0 : Int32))]))) (fun t k => st8 _ k) ?_
  by_cases hc9 : (0 : Int32) = (0 : Int32)
  · refine own_fw (A' := (T8.setTop (mkF m 54 #[.val (.ref a1), .val (.ref a2), .val (.ref a2)] []))) (fun t k => XS.ifYes X8.here hx rfl (pc0 := 47) (pc' := 54) rfl (hb hby d_jdk_42_method_66_code_47) rfl (XT.i0_eq_t hc9) (by decide) (by decide) k) ?_
    refine own_fw (A' := (T8.setTop (mkF m 55 #[.val (.ref a1), .val (.ref a2), .val (.ref a2)] [(.int (0 : Int32))]))) (fun t k => XS.iconst X8.here hx rfl (hb hby d_jdk_42_method_66_code_54) k) ?_
    obtain ⟨fs, hr, hrun, hended, hW, hsame⟩ := X8.leave (v := some (.int (0 : Int32))) (fun h => by rw [Bd.returns] at h; cases h)
    refine ⟨_, _, ?_, hrun, hended, _, _, rfl, ?_, ⟨_, rfl⟩, hW, hsame.mono (by decide) (by decide)⟩
    · exact retOut X8 hx Bd.returns rfl (Or.inl ⟨rfl, by simp, _, rfl⟩) (hb hby d_jdk_42_method_66_code_55) hr
    · show Q_rmSeq12 Z a1 a2 b1 b2 k1 k2 cs x0 y0 y1 h0 n0 _ T8.heap _
      rw [e8]
      exact ⟨rfl, Nf8, rfl⟩
  · refine own_fw (A' := (T8.setTop (mkF m 50 #[.val (.ref a1), .val (.ref a2), .val (.ref a2)] []))) (fun t k => XS.ifNo X8.here hx rfl (hb hby d_jdk_42_method_66_code_47) rfl (XT.i0_eq_f hc9) k) ?_
    refine own_fw (A' := (T8.setTop (mkF m 51 #[.val (.ref a1), .val (.ref a2), .val (.ref a2)] [(.int (1 : Int32))]))) (fun t k => XS.iconst X8.here hx rfl (hb hby d_jdk_42_method_66_code_50) k) ?_
    refine own_fw (A' := (T8.setTop (mkF m 55 #[.val (.ref a1), .val (.ref a2), .val (.ref a2)] [(.int (1 : Int32))]))) (fun t k => XS.goto X8.here hx rfl (pc0 := 51) (pc' := 55) rfl (hb hby d_jdk_42_method_66_code_51) (by decide) (by decide) k) ?_
    obtain ⟨fs, hr, hrun, hended, hW, hsame⟩ := X8.leave (v := some (.int (1 : Int32))) (fun h => by rw [Bd.returns] at h; cases h)
    refine ⟨_, _, ?_, hrun, hended, _, _, rfl, ?_, ⟨_, rfl⟩, hW, hsame.mono (by decide) (by decide)⟩
    · exact retOut X8 hx Bd.returns rfl (Or.inl ⟨rfl, by simp, _, rfl⟩) (hb hby d_jdk_42_method_66_code_55) hr
    · show Q_rmSeq12 Z a1 a2 b1 b2 k1 k2 cs x0 y0 y1 h0 n0 _ T8.heap _
      rw [e8]
      exact ⟨(by first | rfl | (have q := hc9; revert q; (repeat' split) <;> simp)), Nf8, rfl⟩
theorem ef_rmLeq20 (m : MethodId) (a1 : Addr) (a2 : Addr) : entryFrame m #[(.ref a1), (.ref a2)] 3 = mkF m 0 #[.val (.ref a1), .val (.ref a2), .unset] [] := by first | (simp [entryFrame, mkF, argsToLocals, Value.category]; done) | rfl
def Q_rmLeq20 (Z : State) (a1 : Addr) (a2 : Addr) (k1 : ClassId) (k2 : ClassId) (x0 : Int32) (x1 : Int32) (h0 : Heap) (n0 : Nat) (v : Option Value) (h : Heap) (L : List Loc) : Prop := v = some (.int (0 : Int32)) ∧ Fr n0 L ∧ h = h0
set_option maxRecDepth 65536 in
set_option maxHeartbeats 40000000 in
theorem rmLeq20 (l : Launch) (Z : State) (a0 : Array Value) (hw : ∀ d ∈ tables_1, d.before a0 Z = true) (ws : List Jvm.Cond) (a1 : Addr) (a2 : Addr) (k1 : ClassId) (k2 : ClassId) (x0 : Int32) (x1 : Int32) (h0 : Heap) (n0 : Nat) (Z0 : n0 ≤ h0.size) (P0 : Arv Z h0 a1 k1 .byte (2 : Int32) [(.int x0), (.int x1)] (.int (0 : Int32))) (P1 : Arv Z h0 a2 k2 .byte (0 : Int32) [] (.int (0 : Int32))) :
    MetFree l (⟨"java/lang/StringLatin1", "equals", "([B[B)Z"⟩ : MethodName) (head1 (Jvm.Cond.code (⟨"java/lang/StringLatin1", "equals", "([B[B)Z"⟩ : MethodName) jdk_43_method_13_code 3 (some .boolean) :: ws) ({ frames := 0, cells := 0, slots := 0, locals := 0 } : Room)) (fun a U => a = #[(.ref a1), (.ref a2)] ∧ Z.Warmed39 U.vm ∧ U.heap = h0) (fun _ _ _ _ _ => True) (fun _ U o U' => ∃ v L, o = .returned v ∧ Q_rmLeq20 Z a1 a2 k1 k2 x0 x1 h0 n0 v U'.heap L ∧ FrameEnd U o U' L ({ frames := 0, cells := 0, slots := 0, locals := 0 } : Room).cells ({ frames := 0, cells := 0, slots := 0, locals := 0 } : Room).slots) := by
  refine MetFree.of_bodySF (plainFor_of_name pn_java_lang_StringLatin1) hisR ?_
  intro p e s m args below meth c s₁ Bd hml0 hP hK
  obtain ⟨rfl, hZ, hh⟩ := hP
  have hx := Bd.exec
  have hby := Bd.bytes
  have hml : c.maxLocals = 3 := hml0
  have hown : s.vm.findClass "java/lang/StringLatin1" = some m.cls := findClass_of_methodNamed Bd.named
  have hnm := (name_of_methodNamed Bd.named Bd.method).1
  have X0 : Stand p l e ({ frames := 0, cells := 0, slots := 0, locals := 0 } : Room) s m #[(.ref a1), (.ref a2)] below meth c s₁ [] 0 0 := Stand.of_body Bd
  have e0 : s₁.heap = h0 := by rw [← hh, Bd.state]; rfl
  have N0 := Fr.nil n0
  refine own_fw (A' := (s₁.setTop (mkF m 0 #[.val (.ref a1), .val (.ref a2), .unset] []))) (fun t k => castTop (ef_rmLeq20 m a1 a2) k) ?_
  refine own_fw (A' := (s₁.setTop (mkF m 1 #[.val (.ref a1), .val (.ref a2), .unset] [(.ref a1)]))) (fun t k => XS.aloadN X0.here hx rfl (hb hby d_jdk_43_method_13_code_0) rfl rfl k) ?_
  obtain ⟨cl1, Ar1, q1, S1, M1, H1, G1⟩ := id P0
  refine own_fw (A' := (s₁.setTop (mkF m 2 #[.val (.ref a1), .val (.ref a2), .unset] [(.int (2 : Int32))]))) (fun t k => X0.arraylength hx (by rw [e0]; exact Ar1.1) (State.isArrayOf_alike hZ.alike Ar1.2.1) (g := (mkF m 1 #[.val (.ref a1), .val (.ref a2), .unset] [(.ref a1)])) rfl rfl (hb hby d_jdk_43_method_13_code_1) _ (by rw [len_of S1 M1]; exact k)) ?_
  refine own_fw (A' := (s₁.setTop (mkF m 3 #[.val (.ref a1), .val (.ref a2), .unset] [(.ref a2), (.int (2 : Int32))]))) (fun t k => XS.aloadN X0.here hx rfl (hb hby d_jdk_43_method_13_code_2) rfl rfl k) ?_
  obtain ⟨cl2, Ar2, q2, S2, M2, H2, G2⟩ := id P1
  refine own_fw (A' := (s₁.setTop (mkF m 4 #[.val (.ref a1), .val (.ref a2), .unset] [(.int (0 : Int32)), (.int (2 : Int32))]))) (fun t k => X0.arraylength hx (by rw [e0]; exact Ar2.1) (State.isArrayOf_alike hZ.alike Ar2.2.1) (g := (mkF m 3 #[.val (.ref a1), .val (.ref a2), .unset] [(.ref a2), (.int (2 : Int32))])) rfl rfl (hb hby d_jdk_43_method_13_code_3) _ (by rw [len_of S2 M2]; exact k)) ?_
  refine own_fw (A' := (s₁.setTop (mkF m 34 #[.val (.ref a1), .val (.ref a2), .unset] []))) (fun t k => XS.icmpYes X0.here hx rfl (pc0 := 4) (pc' := 34) rfl (hb hby d_jdk_43_method_13_code_4) rfl (XT.ii_ne_t (by decide)) (by decide) (by decide) k) ?_
  refine own_fw (A' := (s₁.setTop (mkF m 35 #[.val (.ref a1), .val (.ref a2), .unset] [(.int (0 : Int32))]))) (fun t k => XS.iconst X0.here hx rfl (hb hby d_jdk_43_method_13_code_34) k) ?_
  obtain ⟨fs, hr, hrun, hended, hW, hsame⟩ := X0.leave (v := some (.int (0 : Int32))) (fun h => by rw [Bd.returns] at h; cases h)
  refine ⟨_, _, ?_, hrun, hended, _, _, rfl, ?_, ⟨_, rfl⟩, hW, hsame.mono (by decide) (by decide)⟩
  · exact retOut X0 hx Bd.returns rfl (Or.inl ⟨rfl, by simp, _, rfl⟩) (hb hby d_jdk_43_method_13_code_35) hr
  · show Q_rmLeq20 Z a1 a2 k1 k2 x0 x1 h0 n0 _ s₁.heap _
    rw [e0]
    exact ⟨rfl, N0, rfl⟩
theorem ef_rmSeq20 (m : MethodId) (a1 : Addr) (a2 : Addr) : entryFrame m #[(.ref a1), (.ref a2)] 3 = mkF m 0 #[.val (.ref a1), .val (.ref a2), .unset] [] := by first | (simp [entryFrame, mkF, argsToLocals, Value.category]; done) | rfl
def Q_rmSeq20 (Z : State) (a1 : Addr) (a2 : Addr) (b1 : Addr) (b2 : Addr) (k1 : ClassId) (k2 : ClassId) (cs : Int32) (x0 : Int32) (x1 : Int32) (h0 : Heap) (n0 : Nat) (v : Option Value) (h : Heap) (L : List Loc) : Prop := v = some (.int (0 : Int32)) ∧ Fr n0 L ∧ h = h0
set_option maxRecDepth 65536 in
set_option maxHeartbeats 40000000 in
theorem rmSeq20 (l : Launch) (Z : State) (a0 : Array Value) (hw : ∀ d ∈ tables_1, d.before a0 Z = true) (ws : List Jvm.Cond) (a1 : Addr) (a2 : Addr) (b1 : Addr) (b2 : Addr) (k1 : ClassId) (k2 : ClassId) (cs : Int32) (x0 : Int32) (x1 : Int32) (h0 : Heap) (n0 : Nat) (Z0 : n0 ≤ h0.size) (P0 : Exa Z h0 a1 "java/lang/String") (P1 : Exa Z h0 a2 "java/lang/String") (P2 : Fld Z h0 a1 "java/lang/String" "coder" "B" (.int (0 : Int32))) (P3 : Fld Z h0 a2 "java/lang/String" "coder" "B" (.int (0 : Int32))) (P4 : Fld Z h0 a1 "java/lang/String" "value" "[B" (.ref b1)) (P5 : Fld Z h0 a2 "java/lang/String" "value" "[B" (.ref b2)) (P6 : Arv Z h0 b1 k1 .byte (2 : Int32) [(.int x0), (.int x1)] (.int (0 : Int32))) (P7 : Arv Z h0 b2 k2 .byte (0 : Int32) [] (.int (0 : Int32))) (ne_a1_a2 : a1 ≠ a2) (P9 : Sta Z h0 "java/lang/String" "COMPACT_STRINGS" "Z" (.int cs)) (hcs : ¬ (cs = (0 : Int32))) :
    MetFree l (⟨"java/lang/String", "equals", "(Ljava/lang/Object;)Z"⟩ : MethodName) (head1 (Jvm.Cond.code (⟨"java/lang/String", "equals", "(Ljava/lang/Object;)Z"⟩ : MethodName) jdk_42_method_66_code 3 (some .boolean) :: ws) ({ frames := 1, cells := 0, slots := 0, locals := 14 } : Room)) (fun a U => a = #[(.ref a1), (.ref a2)] ∧ Z.Warmed39 U.vm ∧ U.heap = h0) (fun _ _ _ _ _ => True) (fun _ U o U' => ∃ v L, o = .returned v ∧ Q_rmSeq20 Z a1 a2 b1 b2 k1 k2 cs x0 x1 h0 n0 v U'.heap L ∧ FrameEnd U o U' L ({ frames := 1, cells := 0, slots := 0, locals := 14 } : Room).cells ({ frames := 1, cells := 0, slots := 0, locals := 14 } : Room).slots) := by
  refine MetFree.of_bodySF (plainFor_of_name pn_java_lang_String) hisR ?_
  intro p e s m args below meth c s₁ Bd hml0 hP hK
  obtain ⟨rfl, hZ, hh⟩ := hP
  have hx := Bd.exec
  have hby := Bd.bytes
  have hml : c.maxLocals = 3 := hml0
  have hown : s.vm.findClass "java/lang/String" = some m.cls := findClass_of_methodNamed Bd.named
  have hnm := (name_of_methodNamed Bd.named Bd.method).1
  have X0 : Stand p l e ({ frames := 1, cells := 0, slots := 0, locals := 14 } : Room) s m #[(.ref a1), (.ref a2)] below meth c s₁ [] 0 0 := Stand.of_body Bd
  have e0 : s₁.heap = h0 := by rw [← hh, Bd.state]; rfl
  have N0 := Fr.nil n0
  refine own_fw (A' := (s₁.setTop (mkF m 0 #[.val (.ref a1), .val (.ref a2), .unset] []))) (fun t k => castTop (ef_rmSeq20 m a1 a2) k) ?_
  refine own_fw (A' := (s₁.setTop (mkF m 1 #[.val (.ref a1), .val (.ref a2), .unset] [(.ref a1)]))) (fun t k => XS.aloadN X0.here hx rfl (hb hby d_jdk_42_method_66_code_0) rfl rfl k) ?_
  refine own_fw (A' := (s₁.setTop (mkF m 2 #[.val (.ref a1), .val (.ref a2), .unset] [(.ref a2), (.ref a1)]))) (fun t k => XS.aloadN X0.here hx rfl (hb hby d_jdk_42_method_66_code_1) rfl rfl k) ?_
  refine own_fw (A' := (s₁.setTop (mkF m 7 #[.val (.ref a1), .val (.ref a2), .unset] []))) (fun t k => Jvm.RoadKit.acmp (g := (mkF m 2 #[.val (.ref a1), .val (.ref a2), .unset] [(.ref a2), (.ref a1)])) X0 hx rfl rfl rfl (pc0 := 2) (pc' := 7) (same := false) rfl (hb hby d_jdk_42_method_66_code_2) rfl (decide_eq_false (fun q => ne_a1_a2 (Value.ref.inj q))) (by decide) (by decide) k) ?_
  refine own_fw (A' := (s₁.setTop (mkF m 8 #[.val (.ref a1), .val (.ref a2), .unset] [(.ref a2)]))) (fun t k => XS.aloadN X0.here hx rfl (hb hby d_jdk_42_method_66_code_7) rfl rfl k) ?_
  obtain ⟨T1, X1, e1, st1⟩ := instY X0 hx hZ hown (hw _ (List.mem_of_getElem? (i := 75) rfl)) e0 (Ins.self P1) (g := (mkF m 8 #[.val (.ref a1), .val (.ref a2), .unset] [(.ref a2)])) rfl rfl (hb hby d_jdk_42_method_66_code_8)
  refine own_fw (A' := (T1.setTop (mkF m 11 #[.val (.ref a1), .val (.ref a2), .unset] [(.int (1 : Int32))]))) (fun t k => st1 _ k) ?_
  refine own_fw (A' := (T1.setTop (mkF m 14 #[.val (.ref a1), .val (.ref a2), .unset] []))) (fun t k => XS.ifNo X1.here hx rfl (hb hby d_jdk_42_method_66_code_11) rfl (XT.i0_eq_f (by decide)) k) ?_
  refine own_fw (A' := (T1.setTop (mkF m 15 #[.val (.ref a1), .val (.ref a2), .unset] [(.ref a2)]))) (fun t k => XS.aloadN X1.here hx rfl (hb hby d_jdk_42_method_66_code_14) rfl rfl k) ?_
  obtain ⟨T2, X2, e2, st2⟩ := castY X1 hx hZ hown (hw _ (List.mem_of_getElem? (i := 75) rfl)) e1 (Ins.self P1) (g := (mkF m 15 #[.val (.ref a1), .val (.ref a2), .unset] [(.ref a2)])) rfl rfl (hb hby d_jdk_42_method_66_code_15)
  refine own_fw (A' := (T2.setTop (mkF m 18 #[.val (.ref a1), .val (.ref a2), .unset] [(.ref a2)]))) (fun t k => st2 _ k) ?_
  refine own_fw (A' := (T2.setTop (mkF m 19 #[.val (.ref a1), .val (.ref a2), .val (.ref a2)] []))) (fun t k => XS.astoreN X2.here hx rfl (hb hby d_jdk_42_method_66_code_18) rfl rfl (l' := #[.val (.ref a1), .val (.ref a2), .val (.ref a2)]) rfl k) ?_
  obtain ⟨T3, X3, e3, st3⟩ := getS2 X2 hx hZ hown (host := "") (Or.inl (hw _ (List.mem_of_getElem? (i := 32) rfl))) Via.refl e2 P9 (g := (mkF m 19 #[.val (.ref a1), .val (.ref a2), .val (.ref a2)] [])) rfl (hb hby d_jdk_42_method_66_code_19)
  refine own_fw (A' := (T3.setTop (mkF m 22 #[.val (.ref a1), .val (.ref a2), .val (.ref a2)] [(.int cs)]))) (fun t k => st3 _ k) ?_
  refine own_fw (A' := (T3.setTop (mkF m 25 #[.val (.ref a1), .val (.ref a2), .val (.ref a2)] []))) (fun t k => XS.ifNo X3.here hx rfl (hb hby d_jdk_42_method_66_code_22) rfl (XT.i0_eq_f hcs) k) ?_
  refine own_fw (A' := (T3.setTop (mkF m 26 #[.val (.ref a1), .val (.ref a2), .val (.ref a2)] [(.ref a1)]))) (fun t k => XS.aloadN X3.here hx rfl (hb hby d_jdk_42_method_66_code_25) rfl rfl k) ?_
  obtain ⟨T4, X4, e4, st4⟩ := getF X3 hx hZ hown (host := "") (Or.inl (hw _ (List.mem_of_getElem? (i := 31) rfl))) Via.refl e3 P2 (g := (mkF m 26 #[.val (.ref a1), .val (.ref a2), .val (.ref a2)] [(.ref a1)])) rfl rfl (hb hby d_jdk_42_method_66_code_26)
  refine own_fw (A' := (T4.setTop (mkF m 29 #[.val (.ref a1), .val (.ref a2), .val (.ref a2)] [(.int (0 : Int32))]))) (fun t k => st4 _ k) ?_
  refine own_fw (A' := (T4.setTop (mkF m 30 #[.val (.ref a1), .val (.ref a2), .val (.ref a2)] [(.ref a2), (.int (0 : Int32))]))) (fun t k => XS.aloadN X4.here hx rfl (hb hby d_jdk_42_method_66_code_29) rfl rfl k) ?_
  obtain ⟨T5, X5, e5, st5⟩ := getF X4 hx hZ hown (host := "") (Or.inl (hw _ (List.mem_of_getElem? (i := 31) rfl))) Via.refl e4 P3 (g := (mkF m 30 #[.val (.ref a1), .val (.ref a2), .val (.ref a2)] [(.ref a2), (.int (0 : Int32))])) rfl rfl (hb hby d_jdk_42_method_66_code_30)
  refine own_fw (A' := (T5.setTop (mkF m 33 #[.val (.ref a1), .val (.ref a2), .val (.ref a2)] [(.int (0 : Int32)), (.int (0 : Int32))]))) (fun t k => st5 _ k) ?_
  refine own_fw (A' := (T5.setTop (mkF m 36 #[.val (.ref a1), .val (.ref a2), .val (.ref a2)] []))) (fun t k => XS.icmpNo X5.here hx rfl (hb hby d_jdk_42_method_66_code_33) rfl (XT.ii_ne_f rfl) k) ?_
  refine own_fw (A' := (T5.setTop (mkF m 37 #[.val (.ref a1), .val (.ref a2), .val (.ref a2)] [(.ref a1)]))) (fun t k => XS.aloadN X5.here hx rfl (hb hby d_jdk_42_method_66_code_36) rfl rfl k) ?_
  obtain ⟨T6, X6, e6, st6⟩ := getF X5 hx hZ hown (host := "") (Or.inl (hw _ (List.mem_of_getElem? (i := 30) rfl))) Via.refl e5 P4 (g := (mkF m 37 #[.val (.ref a1), .val (.ref a2), .val (.ref a2)] [(.ref a1)])) rfl rfl (hb hby d_jdk_42_method_66_code_37)
  refine own_fw (A' := (T6.setTop (mkF m 40 #[.val (.ref a1), .val (.ref a2), .val (.ref a2)] [(.ref b1)]))) (fun t k => st6 _ k) ?_
  refine own_fw (A' := (T6.setTop (mkF m 41 #[.val (.ref a1), .val (.ref a2), .val (.ref a2)] [(.ref a2), (.ref b1)]))) (fun t k => XS.aloadN X6.here hx rfl (hb hby d_jdk_42_method_66_code_40) rfl rfl k) ?_
  obtain ⟨T7, X7, e7, st7⟩ := getF X6 hx hZ hown (host := "") (Or.inl (hw _ (List.mem_of_getElem? (i := 30) rfl))) Via.refl e6 P5 (g := (mkF m 41 #[.val (.ref a1), .val (.ref a2), .val (.ref a2)] [(.ref a2), (.ref b1)])) rfl rfl (hb hby d_jdk_42_method_66_code_41)
  refine own_fw (A' := (T7.setTop (mkF m 44 #[.val (.ref a1), .val (.ref a2), .val (.ref a2)] [(.ref b2), (.ref b1)]))) (fun t k => st7 _ k) ?_
  obtain ⟨_, _, ⟨T8, L8, k8, n8⟩, -, X8, ⟨Lc8, hQ8, l8, y8, z8⟩, st8⟩ := Jvm.LawKit.callS X7 hx (y := (⟨"java/lang/StringLatin1", "equals", "([B[B)Z"⟩ : MethodName)) hown (mvT hZ (hw _ (List.mem_of_getElem? (i := 76) rfl))) (mvT hZ (hw _ (List.mem_of_getElem? (i := 77) rfl))) (mvT hZ (hw _ (List.mem_of_getElem? (i := 78) rfl))) (mvT hZ (hw _ (List.mem_of_getElem? (i := 79) rfl))) (by decide) (backOf (W := 0) (rmLeq20 l Z a0 hw [] b1 b2 k1 k2 x0 x1 h0 n0 Z0 P6 P7) hZ (hw _ (List.mem_of_getElem? (i := 79) rfl)) (hw _ (List.mem_of_getElem? (i := 78) rfl)) (by decide) (by decide)) (g := (mkF m 44 #[.val (.ref a1), .val (.ref a2), .val (.ref a2)] [(.ref b2), (.ref b1)])) rfl (by rw [hml]; rfl) (argsL := [(.ref b1), (.ref b2)]) (rest := []) (lenOf pd___B_B_Z rfl) rfl (by show 2 * 0 + _ ≤ _; exact Nat.le_of_eq rfl) (hb hby d_jdk_42_method_66_code_44) (fun _ _ => ⟨rfl, e7, (by decide : 0 + 0 ≤ _), (by decide : 0 + 0 ≤ _)⟩)
  dsimp only [Pt.U, Pt.locs, Pt.cells, Pt.slots] at X8 l8 y8 z8 st8 hQ8
  subst l8 y8 z8
  obtain ⟨rfl, Nq8, e8⟩ := hQ8
  have Nf8 := Fr.app N0 Nq8
  refine own_fw (A' := (T8.setTop (mkF m 47 #[.val (.ref a1), .val (.ref a2), .val (.ref a2)] [(.int (0 : Int32))]))) (fun t k => st8 _ k) ?_
  by_cases hc9 : (0 : Int32) = (0 : Int32)
  · refine own_fw (A' := (T8.setTop (mkF m 54 #[.val (.ref a1), .val (.ref a2), .val (.ref a2)] []))) (fun t k => XS.ifYes X8.here hx rfl (pc0 := 47) (pc' := 54) rfl (hb hby d_jdk_42_method_66_code_47) rfl (XT.i0_eq_t hc9) (by decide) (by decide) k) ?_
    refine own_fw (A' := (T8.setTop (mkF m 55 #[.val (.ref a1), .val (.ref a2), .val (.ref a2)] [(.int (0 : Int32))]))) (fun t k => XS.iconst X8.here hx rfl (hb hby d_jdk_42_method_66_code_54) k) ?_
    obtain ⟨fs, hr, hrun, hended, hW, hsame⟩ := X8.leave (v := some (.int (0 : Int32))) (fun h => by rw [Bd.returns] at h; cases h)
    refine ⟨_, _, ?_, hrun, hended, _, _, rfl, ?_, ⟨_, rfl⟩, hW, hsame.mono (by decide) (by decide)⟩
    · exact retOut X8 hx Bd.returns rfl (Or.inl ⟨rfl, by simp, _, rfl⟩) (hb hby d_jdk_42_method_66_code_55) hr
    · show Q_rmSeq20 Z a1 a2 b1 b2 k1 k2 cs x0 x1 h0 n0 _ T8.heap _
      rw [e8]
      exact ⟨rfl, Nf8, rfl⟩
  · refine own_fw (A' := (T8.setTop (mkF m 50 #[.val (.ref a1), .val (.ref a2), .val (.ref a2)] []))) (fun t k => XS.ifNo X8.here hx rfl (hb hby d_jdk_42_method_66_code_47) rfl (XT.i0_eq_f hc9) k) ?_
    refine own_fw (A' := (T8.setTop (mkF m 51 #[.val (.ref a1), .val (.ref a2), .val (.ref a2)] [(.int (1 : Int32))]))) (fun t k => XS.iconst X8.here hx rfl (hb hby d_jdk_42_method_66_code_50) k) ?_
    refine own_fw (A' := (T8.setTop (mkF m 55 #[.val (.ref a1), .val (.ref a2), .val (.ref a2)] [(.int (1 : Int32))]))) (fun t k => XS.goto X8.here hx rfl (pc0 := 51) (pc' := 55) rfl (hb hby d_jdk_42_method_66_code_51) (by decide) (by decide) k) ?_
    obtain ⟨fs, hr, hrun, hended, hW, hsame⟩ := X8.leave (v := some (.int (1 : Int32))) (fun h => by rw [Bd.returns] at h; cases h)
    refine ⟨_, _, ?_, hrun, hended, _, _, rfl, ?_, ⟨_, rfl⟩, hW, hsame.mono (by decide) (by decide)⟩
    · exact retOut X8 hx Bd.returns rfl (Or.inl ⟨rfl, by simp, _, rfl⟩) (hb hby d_jdk_42_method_66_code_55) hr
    · show Q_rmSeq20 Z a1 a2 b1 b2 k1 k2 cs x0 x1 h0 n0 _ T8.heap _
      rw [e8]
      exact ⟨(by first | rfl | (have q := hc9; revert q; (repeat' split) <;> simp)), Nf8, rfl⟩
theorem ef_rmLeq21 (m : MethodId) (a1 : Addr) (a2 : Addr) : entryFrame m #[(.ref a1), (.ref a2)] 3 = mkF m 0 #[.val (.ref a1), .val (.ref a2), .unset] [] := by first | (simp [entryFrame, mkF, argsToLocals, Value.category]; done) | rfl
def Q_rmLeq21 (Z : State) (a1 : Addr) (a2 : Addr) (k1 : ClassId) (k2 : ClassId) (x0 : Int32) (x1 : Int32) (y0 : Int32) (h0 : Heap) (n0 : Nat) (v : Option Value) (h : Heap) (L : List Loc) : Prop := v = some (.int (0 : Int32)) ∧ Fr n0 L ∧ h = h0
set_option maxRecDepth 65536 in
set_option maxHeartbeats 40000000 in
theorem rmLeq21 (l : Launch) (Z : State) (a0 : Array Value) (hw : ∀ d ∈ tables_1, d.before a0 Z = true) (ws : List Jvm.Cond) (a1 : Addr) (a2 : Addr) (k1 : ClassId) (k2 : ClassId) (x0 : Int32) (x1 : Int32) (y0 : Int32) (h0 : Heap) (n0 : Nat) (Z0 : n0 ≤ h0.size) (P0 : Arv Z h0 a1 k1 .byte (2 : Int32) [(.int x0), (.int x1)] (.int (0 : Int32))) (P1 : Arv Z h0 a2 k2 .byte (1 : Int32) [(.int y0)] (.int (0 : Int32))) :
    MetFree l (⟨"java/lang/StringLatin1", "equals", "([B[B)Z"⟩ : MethodName) (head1 (Jvm.Cond.code (⟨"java/lang/StringLatin1", "equals", "([B[B)Z"⟩ : MethodName) jdk_43_method_13_code 3 (some .boolean) :: ws) ({ frames := 0, cells := 0, slots := 0, locals := 0 } : Room)) (fun a U => a = #[(.ref a1), (.ref a2)] ∧ Z.Warmed39 U.vm ∧ U.heap = h0) (fun _ _ _ _ _ => True) (fun _ U o U' => ∃ v L, o = .returned v ∧ Q_rmLeq21 Z a1 a2 k1 k2 x0 x1 y0 h0 n0 v U'.heap L ∧ FrameEnd U o U' L ({ frames := 0, cells := 0, slots := 0, locals := 0 } : Room).cells ({ frames := 0, cells := 0, slots := 0, locals := 0 } : Room).slots) := by
  refine MetFree.of_bodySF (plainFor_of_name pn_java_lang_StringLatin1) hisR ?_
  intro p e s m args below meth c s₁ Bd hml0 hP hK
  obtain ⟨rfl, hZ, hh⟩ := hP
  have hx := Bd.exec
  have hby := Bd.bytes
  have hml : c.maxLocals = 3 := hml0
  have hown : s.vm.findClass "java/lang/StringLatin1" = some m.cls := findClass_of_methodNamed Bd.named
  have hnm := (name_of_methodNamed Bd.named Bd.method).1
  have X0 : Stand p l e ({ frames := 0, cells := 0, slots := 0, locals := 0 } : Room) s m #[(.ref a1), (.ref a2)] below meth c s₁ [] 0 0 := Stand.of_body Bd
  have e0 : s₁.heap = h0 := by rw [← hh, Bd.state]; rfl
  have N0 := Fr.nil n0
  refine own_fw (A' := (s₁.setTop (mkF m 0 #[.val (.ref a1), .val (.ref a2), .unset] []))) (fun t k => castTop (ef_rmLeq21 m a1 a2) k) ?_
  refine own_fw (A' := (s₁.setTop (mkF m 1 #[.val (.ref a1), .val (.ref a2), .unset] [(.ref a1)]))) (fun t k => XS.aloadN X0.here hx rfl (hb hby d_jdk_43_method_13_code_0) rfl rfl k) ?_
  obtain ⟨cl1, Ar1, q1, S1, M1, H1, G1⟩ := id P0
  refine own_fw (A' := (s₁.setTop (mkF m 2 #[.val (.ref a1), .val (.ref a2), .unset] [(.int (2 : Int32))]))) (fun t k => X0.arraylength hx (by rw [e0]; exact Ar1.1) (State.isArrayOf_alike hZ.alike Ar1.2.1) (g := (mkF m 1 #[.val (.ref a1), .val (.ref a2), .unset] [(.ref a1)])) rfl rfl (hb hby d_jdk_43_method_13_code_1) _ (by rw [len_of S1 M1]; exact k)) ?_
  refine own_fw (A' := (s₁.setTop (mkF m 3 #[.val (.ref a1), .val (.ref a2), .unset] [(.ref a2), (.int (2 : Int32))]))) (fun t k => XS.aloadN X0.here hx rfl (hb hby d_jdk_43_method_13_code_2) rfl rfl k) ?_
  obtain ⟨cl2, Ar2, q2, S2, M2, H2, G2⟩ := id P1
  refine own_fw (A' := (s₁.setTop (mkF m 4 #[.val (.ref a1), .val (.ref a2), .unset] [(.int (1 : Int32)), (.int (2 : Int32))]))) (fun t k => X0.arraylength hx (by rw [e0]; exact Ar2.1) (State.isArrayOf_alike hZ.alike Ar2.2.1) (g := (mkF m 3 #[.val (.ref a1), .val (.ref a2), .unset] [(.ref a2), (.int (2 : Int32))])) rfl rfl (hb hby d_jdk_43_method_13_code_3) _ (by rw [len_of S2 M2]; exact k)) ?_
  refine own_fw (A' := (s₁.setTop (mkF m 34 #[.val (.ref a1), .val (.ref a2), .unset] []))) (fun t k => XS.icmpYes X0.here hx rfl (pc0 := 4) (pc' := 34) rfl (hb hby d_jdk_43_method_13_code_4) rfl (XT.ii_ne_t (by decide)) (by decide) (by decide) k) ?_
  refine own_fw (A' := (s₁.setTop (mkF m 35 #[.val (.ref a1), .val (.ref a2), .unset] [(.int (0 : Int32))]))) (fun t k => XS.iconst X0.here hx rfl (hb hby d_jdk_43_method_13_code_34) k) ?_
  obtain ⟨fs, hr, hrun, hended, hW, hsame⟩ := X0.leave (v := some (.int (0 : Int32))) (fun h => by rw [Bd.returns] at h; cases h)
  refine ⟨_, _, ?_, hrun, hended, _, _, rfl, ?_, ⟨_, rfl⟩, hW, hsame.mono (by decide) (by decide)⟩
  · exact retOut X0 hx Bd.returns rfl (Or.inl ⟨rfl, by simp, _, rfl⟩) (hb hby d_jdk_43_method_13_code_35) hr
  · show Q_rmLeq21 Z a1 a2 k1 k2 x0 x1 y0 h0 n0 _ s₁.heap _
    rw [e0]
    exact ⟨rfl, N0, rfl⟩
theorem ef_rmSeq21 (m : MethodId) (a1 : Addr) (a2 : Addr) : entryFrame m #[(.ref a1), (.ref a2)] 3 = mkF m 0 #[.val (.ref a1), .val (.ref a2), .unset] [] := by first | (simp [entryFrame, mkF, argsToLocals, Value.category]; done) | rfl
def Q_rmSeq21 (Z : State) (a1 : Addr) (a2 : Addr) (b1 : Addr) (b2 : Addr) (k1 : ClassId) (k2 : ClassId) (cs : Int32) (x0 : Int32) (x1 : Int32) (y0 : Int32) (h0 : Heap) (n0 : Nat) (v : Option Value) (h : Heap) (L : List Loc) : Prop := v = some (.int (0 : Int32)) ∧ Fr n0 L ∧ h = h0
set_option maxRecDepth 65536 in
set_option maxHeartbeats 40000000 in
theorem rmSeq21 (l : Launch) (Z : State) (a0 : Array Value) (hw : ∀ d ∈ tables_1, d.before a0 Z = true) (ws : List Jvm.Cond) (a1 : Addr) (a2 : Addr) (b1 : Addr) (b2 : Addr) (k1 : ClassId) (k2 : ClassId) (cs : Int32) (x0 : Int32) (x1 : Int32) (y0 : Int32) (h0 : Heap) (n0 : Nat) (Z0 : n0 ≤ h0.size) (P0 : Exa Z h0 a1 "java/lang/String") (P1 : Exa Z h0 a2 "java/lang/String") (P2 : Fld Z h0 a1 "java/lang/String" "coder" "B" (.int (0 : Int32))) (P3 : Fld Z h0 a2 "java/lang/String" "coder" "B" (.int (0 : Int32))) (P4 : Fld Z h0 a1 "java/lang/String" "value" "[B" (.ref b1)) (P5 : Fld Z h0 a2 "java/lang/String" "value" "[B" (.ref b2)) (P6 : Arv Z h0 b1 k1 .byte (2 : Int32) [(.int x0), (.int x1)] (.int (0 : Int32))) (P7 : Arv Z h0 b2 k2 .byte (1 : Int32) [(.int y0)] (.int (0 : Int32))) (ne_a1_a2 : a1 ≠ a2) (P9 : Sta Z h0 "java/lang/String" "COMPACT_STRINGS" "Z" (.int cs)) (hcs : ¬ (cs = (0 : Int32))) :
    MetFree l (⟨"java/lang/String", "equals", "(Ljava/lang/Object;)Z"⟩ : MethodName) (head1 (Jvm.Cond.code (⟨"java/lang/String", "equals", "(Ljava/lang/Object;)Z"⟩ : MethodName) jdk_42_method_66_code 3 (some .boolean) :: ws) ({ frames := 1, cells := 0, slots := 0, locals := 14 } : Room)) (fun a U => a = #[(.ref a1), (.ref a2)] ∧ Z.Warmed39 U.vm ∧ U.heap = h0) (fun _ _ _ _ _ => True) (fun _ U o U' => ∃ v L, o = .returned v ∧ Q_rmSeq21 Z a1 a2 b1 b2 k1 k2 cs x0 x1 y0 h0 n0 v U'.heap L ∧ FrameEnd U o U' L ({ frames := 1, cells := 0, slots := 0, locals := 14 } : Room).cells ({ frames := 1, cells := 0, slots := 0, locals := 14 } : Room).slots) := by
  refine MetFree.of_bodySF (plainFor_of_name pn_java_lang_String) hisR ?_
  intro p e s m args below meth c s₁ Bd hml0 hP hK
  obtain ⟨rfl, hZ, hh⟩ := hP
  have hx := Bd.exec
  have hby := Bd.bytes
  have hml : c.maxLocals = 3 := hml0
  have hown : s.vm.findClass "java/lang/String" = some m.cls := findClass_of_methodNamed Bd.named
  have hnm := (name_of_methodNamed Bd.named Bd.method).1
  have X0 : Stand p l e ({ frames := 1, cells := 0, slots := 0, locals := 14 } : Room) s m #[(.ref a1), (.ref a2)] below meth c s₁ [] 0 0 := Stand.of_body Bd
  have e0 : s₁.heap = h0 := by rw [← hh, Bd.state]; rfl
  have N0 := Fr.nil n0
  refine own_fw (A' := (s₁.setTop (mkF m 0 #[.val (.ref a1), .val (.ref a2), .unset] []))) (fun t k => castTop (ef_rmSeq21 m a1 a2) k) ?_
  refine own_fw (A' := (s₁.setTop (mkF m 1 #[.val (.ref a1), .val (.ref a2), .unset] [(.ref a1)]))) (fun t k => XS.aloadN X0.here hx rfl (hb hby d_jdk_42_method_66_code_0) rfl rfl k) ?_
  refine own_fw (A' := (s₁.setTop (mkF m 2 #[.val (.ref a1), .val (.ref a2), .unset] [(.ref a2), (.ref a1)]))) (fun t k => XS.aloadN X0.here hx rfl (hb hby d_jdk_42_method_66_code_1) rfl rfl k) ?_
  refine own_fw (A' := (s₁.setTop (mkF m 7 #[.val (.ref a1), .val (.ref a2), .unset] []))) (fun t k => Jvm.RoadKit.acmp (g := (mkF m 2 #[.val (.ref a1), .val (.ref a2), .unset] [(.ref a2), (.ref a1)])) X0 hx rfl rfl rfl (pc0 := 2) (pc' := 7) (same := false) rfl (hb hby d_jdk_42_method_66_code_2) rfl (decide_eq_false (fun q => ne_a1_a2 (Value.ref.inj q))) (by decide) (by decide) k) ?_
  refine own_fw (A' := (s₁.setTop (mkF m 8 #[.val (.ref a1), .val (.ref a2), .unset] [(.ref a2)]))) (fun t k => XS.aloadN X0.here hx rfl (hb hby d_jdk_42_method_66_code_7) rfl rfl k) ?_
  obtain ⟨T1, X1, e1, st1⟩ := instY X0 hx hZ hown (hw _ (List.mem_of_getElem? (i := 75) rfl)) e0 (Ins.self P1) (g := (mkF m 8 #[.val (.ref a1), .val (.ref a2), .unset] [(.ref a2)])) rfl rfl (hb hby d_jdk_42_method_66_code_8)
  refine own_fw (A' := (T1.setTop (mkF m 11 #[.val (.ref a1), .val (.ref a2), .unset] [(.int (1 : Int32))]))) (fun t k => st1 _ k) ?_
  refine own_fw (A' := (T1.setTop (mkF m 14 #[.val (.ref a1), .val (.ref a2), .unset] []))) (fun t k => XS.ifNo X1.here hx rfl (hb hby d_jdk_42_method_66_code_11) rfl (XT.i0_eq_f (by decide)) k) ?_
  refine own_fw (A' := (T1.setTop (mkF m 15 #[.val (.ref a1), .val (.ref a2), .unset] [(.ref a2)]))) (fun t k => XS.aloadN X1.here hx rfl (hb hby d_jdk_42_method_66_code_14) rfl rfl k) ?_
  obtain ⟨T2, X2, e2, st2⟩ := castY X1 hx hZ hown (hw _ (List.mem_of_getElem? (i := 75) rfl)) e1 (Ins.self P1) (g := (mkF m 15 #[.val (.ref a1), .val (.ref a2), .unset] [(.ref a2)])) rfl rfl (hb hby d_jdk_42_method_66_code_15)
  refine own_fw (A' := (T2.setTop (mkF m 18 #[.val (.ref a1), .val (.ref a2), .unset] [(.ref a2)]))) (fun t k => st2 _ k) ?_
  refine own_fw (A' := (T2.setTop (mkF m 19 #[.val (.ref a1), .val (.ref a2), .val (.ref a2)] []))) (fun t k => XS.astoreN X2.here hx rfl (hb hby d_jdk_42_method_66_code_18) rfl rfl (l' := #[.val (.ref a1), .val (.ref a2), .val (.ref a2)]) rfl k) ?_
  obtain ⟨T3, X3, e3, st3⟩ := getS2 X2 hx hZ hown (host := "") (Or.inl (hw _ (List.mem_of_getElem? (i := 32) rfl))) Via.refl e2 P9 (g := (mkF m 19 #[.val (.ref a1), .val (.ref a2), .val (.ref a2)] [])) rfl (hb hby d_jdk_42_method_66_code_19)
  refine own_fw (A' := (T3.setTop (mkF m 22 #[.val (.ref a1), .val (.ref a2), .val (.ref a2)] [(.int cs)]))) (fun t k => st3 _ k) ?_
  refine own_fw (A' := (T3.setTop (mkF m 25 #[.val (.ref a1), .val (.ref a2), .val (.ref a2)] []))) (fun t k => XS.ifNo X3.here hx rfl (hb hby d_jdk_42_method_66_code_22) rfl (XT.i0_eq_f hcs) k) ?_
  refine own_fw (A' := (T3.setTop (mkF m 26 #[.val (.ref a1), .val (.ref a2), .val (.ref a2)] [(.ref a1)]))) (fun t k => XS.aloadN X3.here hx rfl (hb hby d_jdk_42_method_66_code_25) rfl rfl k) ?_
  obtain ⟨T4, X4, e4, st4⟩ := getF X3 hx hZ hown (host := "") (Or.inl (hw _ (List.mem_of_getElem? (i := 31) rfl))) Via.refl e3 P2 (g := (mkF m 26 #[.val (.ref a1), .val (.ref a2), .val (.ref a2)] [(.ref a1)])) rfl rfl (hb hby d_jdk_42_method_66_code_26)
  refine own_fw (A' := (T4.setTop (mkF m 29 #[.val (.ref a1), .val (.ref a2), .val (.ref a2)] [(.int (0 : Int32))]))) (fun t k => st4 _ k) ?_
  refine own_fw (A' := (T4.setTop (mkF m 30 #[.val (.ref a1), .val (.ref a2), .val (.ref a2)] [(.ref a2), (.int (0 : Int32))]))) (fun t k => XS.aloadN X4.here hx rfl (hb hby d_jdk_42_method_66_code_29) rfl rfl k) ?_
  obtain ⟨T5, X5, e5, st5⟩ := getF X4 hx hZ hown (host := "") (Or.inl (hw _ (List.mem_of_getElem? (i := 31) rfl))) Via.refl e4 P3 (g := (mkF m 30 #[.val (.ref a1), .val (.ref a2), .val (.ref a2)] [(.ref a2), (.int (0 : Int32))])) rfl rfl (hb hby d_jdk_42_method_66_code_30)
  refine own_fw (A' := (T5.setTop (mkF m 33 #[.val (.ref a1), .val (.ref a2), .val (.ref a2)] [(.int (0 : Int32)), (.int (0 : Int32))]))) (fun t k => st5 _ k) ?_
  refine own_fw (A' := (T5.setTop (mkF m 36 #[.val (.ref a1), .val (.ref a2), .val (.ref a2)] []))) (fun t k => XS.icmpNo X5.here hx rfl (hb hby d_jdk_42_method_66_code_33) rfl (XT.ii_ne_f rfl) k) ?_
  refine own_fw (A' := (T5.setTop (mkF m 37 #[.val (.ref a1), .val (.ref a2), .val (.ref a2)] [(.ref a1)]))) (fun t k => XS.aloadN X5.here hx rfl (hb hby d_jdk_42_method_66_code_36) rfl rfl k) ?_
  obtain ⟨T6, X6, e6, st6⟩ := getF X5 hx hZ hown (host := "") (Or.inl (hw _ (List.mem_of_getElem? (i := 30) rfl))) Via.refl e5 P4 (g := (mkF m 37 #[.val (.ref a1), .val (.ref a2), .val (.ref a2)] [(.ref a1)])) rfl rfl (hb hby d_jdk_42_method_66_code_37)
  refine own_fw (A' := (T6.setTop (mkF m 40 #[.val (.ref a1), .val (.ref a2), .val (.ref a2)] [(.ref b1)]))) (fun t k => st6 _ k) ?_
  refine own_fw (A' := (T6.setTop (mkF m 41 #[.val (.ref a1), .val (.ref a2), .val (.ref a2)] [(.ref a2), (.ref b1)]))) (fun t k => XS.aloadN X6.here hx rfl (hb hby d_jdk_42_method_66_code_40) rfl rfl k) ?_
  obtain ⟨T7, X7, e7, st7⟩ := getF X6 hx hZ hown (host := "") (Or.inl (hw _ (List.mem_of_getElem? (i := 30) rfl))) Via.refl e6 P5 (g := (mkF m 41 #[.val (.ref a1), .val (.ref a2), .val (.ref a2)] [(.ref a2), (.ref b1)])) rfl rfl (hb hby d_jdk_42_method_66_code_41)
  refine own_fw (A' := (T7.setTop (mkF m 44 #[.val (.ref a1), .val (.ref a2), .val (.ref a2)] [(.ref b2), (.ref b1)]))) (fun t k => st7 _ k) ?_
  obtain ⟨_, _, ⟨T8, L8, k8, n8⟩, -, X8, ⟨Lc8, hQ8, l8, y8, z8⟩, st8⟩ := Jvm.LawKit.callS X7 hx (y := (⟨"java/lang/StringLatin1", "equals", "([B[B)Z"⟩ : MethodName)) hown (mvT hZ (hw _ (List.mem_of_getElem? (i := 76) rfl))) (mvT hZ (hw _ (List.mem_of_getElem? (i := 77) rfl))) (mvT hZ (hw _ (List.mem_of_getElem? (i := 78) rfl))) (mvT hZ (hw _ (List.mem_of_getElem? (i := 79) rfl))) (by decide) (backOf (W := 0) (rmLeq21 l Z a0 hw [] b1 b2 k1 k2 x0 x1 y0 h0 n0 Z0 P6 P7) hZ (hw _ (List.mem_of_getElem? (i := 79) rfl)) (hw _ (List.mem_of_getElem? (i := 78) rfl)) (by decide) (by decide)) (g := (mkF m 44 #[.val (.ref a1), .val (.ref a2), .val (.ref a2)] [(.ref b2), (.ref b1)])) rfl (by rw [hml]; rfl) (argsL := [(.ref b1), (.ref b2)]) (rest := []) (lenOf pd___B_B_Z rfl) rfl (by show 2 * 0 + _ ≤ _; exact Nat.le_of_eq rfl) (hb hby d_jdk_42_method_66_code_44) (fun _ _ => ⟨rfl, e7, (by decide : 0 + 0 ≤ _), (by decide : 0 + 0 ≤ _)⟩)
  dsimp only [Pt.U, Pt.locs, Pt.cells, Pt.slots] at X8 l8 y8 z8 st8 hQ8
  subst l8 y8 z8
  obtain ⟨rfl, Nq8, e8⟩ := hQ8
  have Nf8 := Fr.app N0 Nq8
  refine own_fw (A' := (T8.setTop (mkF m 47 #[.val (.ref a1), .val (.ref a2), .val (.ref a2)] [(.int (0 : Int32))]))) (fun t k => st8 _ k) ?_
  by_cases hc9 : (0 : Int32) = (0 : Int32)
  · refine own_fw (A' := (T8.setTop (mkF m 54 #[.val (.ref a1), .val (.ref a2), .val (.ref a2)] []))) (fun t k => XS.ifYes X8.here hx rfl (pc0 := 47) (pc' := 54) rfl (hb hby d_jdk_42_method_66_code_47) rfl (XT.i0_eq_t hc9) (by decide) (by decide) k) ?_
    refine own_fw (A' := (T8.setTop (mkF m 55 #[.val (.ref a1), .val (.ref a2), .val (.ref a2)] [(.int (0 : Int32))]))) (fun t k => XS.iconst X8.here hx rfl (hb hby d_jdk_42_method_66_code_54) k) ?_
    obtain ⟨fs, hr, hrun, hended, hW, hsame⟩ := X8.leave (v := some (.int (0 : Int32))) (fun h => by rw [Bd.returns] at h; cases h)
    refine ⟨_, _, ?_, hrun, hended, _, _, rfl, ?_, ⟨_, rfl⟩, hW, hsame.mono (by decide) (by decide)⟩
    · exact retOut X8 hx Bd.returns rfl (Or.inl ⟨rfl, by simp, _, rfl⟩) (hb hby d_jdk_42_method_66_code_55) hr
    · show Q_rmSeq21 Z a1 a2 b1 b2 k1 k2 cs x0 x1 y0 h0 n0 _ T8.heap _
      rw [e8]
      exact ⟨rfl, Nf8, rfl⟩
  · refine own_fw (A' := (T8.setTop (mkF m 50 #[.val (.ref a1), .val (.ref a2), .val (.ref a2)] []))) (fun t k => XS.ifNo X8.here hx rfl (hb hby d_jdk_42_method_66_code_47) rfl (XT.i0_eq_f hc9) k) ?_
    refine own_fw (A' := (T8.setTop (mkF m 51 #[.val (.ref a1), .val (.ref a2), .val (.ref a2)] [(.int (1 : Int32))]))) (fun t k => XS.iconst X8.here hx rfl (hb hby d_jdk_42_method_66_code_50) k) ?_
    refine own_fw (A' := (T8.setTop (mkF m 55 #[.val (.ref a1), .val (.ref a2), .val (.ref a2)] [(.int (1 : Int32))]))) (fun t k => XS.goto X8.here hx rfl (pc0 := 51) (pc' := 55) rfl (hb hby d_jdk_42_method_66_code_51) (by decide) (by decide) k) ?_
    obtain ⟨fs, hr, hrun, hended, hW, hsame⟩ := X8.leave (v := some (.int (1 : Int32))) (fun h => by rw [Bd.returns] at h; cases h)
    refine ⟨_, _, ?_, hrun, hended, _, _, rfl, ?_, ⟨_, rfl⟩, hW, hsame.mono (by decide) (by decide)⟩
    · exact retOut X8 hx Bd.returns rfl (Or.inl ⟨rfl, by simp, _, rfl⟩) (hb hby d_jdk_42_method_66_code_55) hr
    · show Q_rmSeq21 Z a1 a2 b1 b2 k1 k2 cs x0 x1 y0 h0 n0 _ T8.heap _
      rw [e8]
      exact ⟨(by first | rfl | (have q := hc9; revert q; (repeat' split) <;> simp)), Nf8, rfl⟩
theorem ef_rmLeq22 (m : MethodId) (a1 : Addr) (a2 : Addr) : entryFrame m #[(.ref a1), (.ref a2)] 3 = mkF m 0 #[.val (.ref a1), .val (.ref a2), .unset] [] := by first | (simp [entryFrame, mkF, argsToLocals, Value.category]; done) | rfl
def Q_rmLeq22 (Z : State) (a1 : Addr) (a2 : Addr) (k1 : ClassId) (k2 : ClassId) (x0 : Int32) (x1 : Int32) (y0 : Int32) (y1 : Int32) (h0 : Heap) (n0 : Nat) (v : Option Value) (h : Heap) (L : List Loc) : Prop := v = some (.int (if x0 = y0 then (if x1 = y1 then (1 : Int32) else (0 : Int32)) else (0 : Int32))) ∧ Fr n0 L ∧ h = h0
set_option maxRecDepth 65536 in
set_option maxHeartbeats 40000000 in
theorem rmLeq22 (l : Launch) (Z : State) (a0 : Array Value) (hw : ∀ d ∈ tables_1, d.before a0 Z = true) (ws : List Jvm.Cond) (a1 : Addr) (a2 : Addr) (k1 : ClassId) (k2 : ClassId) (x0 : Int32) (x1 : Int32) (y0 : Int32) (y1 : Int32) (h0 : Heap) (n0 : Nat) (Z0 : n0 ≤ h0.size) (P0 : Arv Z h0 a1 k1 .byte (2 : Int32) [(.int x0), (.int x1)] (.int (0 : Int32))) (P1 : Arv Z h0 a2 k2 .byte (2 : Int32) [(.int y0), (.int y1)] (.int (0 : Int32))) :
    MetFree l (⟨"java/lang/StringLatin1", "equals", "([B[B)Z"⟩ : MethodName) (head1 (Jvm.Cond.code (⟨"java/lang/StringLatin1", "equals", "([B[B)Z"⟩ : MethodName) jdk_43_method_13_code 3 (some .boolean) :: ws) ({ frames := 0, cells := 0, slots := 0, locals := 0 } : Room)) (fun a U => a = #[(.ref a1), (.ref a2)] ∧ Z.Warmed39 U.vm ∧ U.heap = h0) (fun _ _ _ _ _ => True) (fun _ U o U' => ∃ v L, o = .returned v ∧ Q_rmLeq22 Z a1 a2 k1 k2 x0 x1 y0 y1 h0 n0 v U'.heap L ∧ FrameEnd U o U' L ({ frames := 0, cells := 0, slots := 0, locals := 0 } : Room).cells ({ frames := 0, cells := 0, slots := 0, locals := 0 } : Room).slots) := by
  refine MetFree.of_bodySF (plainFor_of_name pn_java_lang_StringLatin1) hisR ?_
  intro p e s m args below meth c s₁ Bd hml0 hP hK
  obtain ⟨rfl, hZ, hh⟩ := hP
  have hx := Bd.exec
  have hby := Bd.bytes
  have hml : c.maxLocals = 3 := hml0
  have hown : s.vm.findClass "java/lang/StringLatin1" = some m.cls := findClass_of_methodNamed Bd.named
  have hnm := (name_of_methodNamed Bd.named Bd.method).1
  have X0 : Stand p l e ({ frames := 0, cells := 0, slots := 0, locals := 0 } : Room) s m #[(.ref a1), (.ref a2)] below meth c s₁ [] 0 0 := Stand.of_body Bd
  have e0 : s₁.heap = h0 := by rw [← hh, Bd.state]; rfl
  have N0 := Fr.nil n0
  refine own_fw (A' := (s₁.setTop (mkF m 0 #[.val (.ref a1), .val (.ref a2), .unset] []))) (fun t k => castTop (ef_rmLeq22 m a1 a2) k) ?_
  refine own_fw (A' := (s₁.setTop (mkF m 1 #[.val (.ref a1), .val (.ref a2), .unset] [(.ref a1)]))) (fun t k => XS.aloadN X0.here hx rfl (hb hby d_jdk_43_method_13_code_0) rfl rfl k) ?_
  obtain ⟨cl1, Ar1, q1, S1, M1, H1, G1⟩ := id P0
  refine own_fw (A' := (s₁.setTop (mkF m 2 #[.val (.ref a1), .val (.ref a2), .unset] [(.int (2 : Int32))]))) (fun t k => X0.arraylength hx (by rw [e0]; exact Ar1.1) (State.isArrayOf_alike hZ.alike Ar1.2.1) (g := (mkF m 1 #[.val (.ref a1), .val (.ref a2), .unset] [(.ref a1)])) rfl rfl (hb hby d_jdk_43_method_13_code_1) _ (by rw [len_of S1 M1]; exact k)) ?_
  refine own_fw (A' := (s₁.setTop (mkF m 3 #[.val (.ref a1), .val (.ref a2), .unset] [(.ref a2), (.int (2 : Int32))]))) (fun t k => XS.aloadN X0.here hx rfl (hb hby d_jdk_43_method_13_code_2) rfl rfl k) ?_
  obtain ⟨cl2, Ar2, q2, S2, M2, H2, G2⟩ := id P1
  refine own_fw (A' := (s₁.setTop (mkF m 4 #[.val (.ref a1), .val (.ref a2), .unset] [(.int (2 : Int32)), (.int (2 : Int32))]))) (fun t k => X0.arraylength hx (by rw [e0]; exact Ar2.1) (State.isArrayOf_alike hZ.alike Ar2.2.1) (g := (mkF m 3 #[.val (.ref a1), .val (.ref a2), .unset] [(.ref a2), (.int (2 : Int32))])) rfl rfl (hb hby d_jdk_43_method_13_code_3) _ (by rw [len_of S2 M2]; exact k)) ?_
  refine own_fw (A' := (s₁.setTop (mkF m 7 #[.val (.ref a1), .val (.ref a2), .unset] []))) (fun t k => XS.icmpNo X0.here hx rfl (hb hby d_jdk_43_method_13_code_4) rfl (XT.ii_ne_f rfl) k) ?_
  refine own_fw (A' := (s₁.setTop (mkF m 8 #[.val (.ref a1), .val (.ref a2), .unset] [(.int (0 : Int32))]))) (fun t k => XS.iconst X0.here hx rfl (hb hby d_jdk_43_method_13_code_7) k) ?_
  refine own_fw (A' := (s₁.setTop (mkF m 9 #[.val (.ref a1), .val (.ref a2), .val (.int (0 : Int32))] []))) (fun t k => XS.istoreN X0.here hx rfl (hb hby d_jdk_43_method_13_code_8) rfl (l' := #[.val (.ref a1), .val (.ref a2), .val (.int (0 : Int32))]) rfl k) ?_
  refine own_fw (A' := (s₁.setTop (mkF m 10 #[.val (.ref a1), .val (.ref a2), .val (.int (0 : Int32))] [(.int (0 : Int32))]))) (fun t k => XS.iloadN X0.here hx rfl (hb hby d_jdk_43_method_13_code_9) rfl k) ?_
  refine own_fw (A' := (s₁.setTop (mkF m 11 #[.val (.ref a1), .val (.ref a2), .val (.int (0 : Int32))] [(.ref a1), (.int (0 : Int32))]))) (fun t k => XS.aloadN X0.here hx rfl (hb hby d_jdk_43_method_13_code_10) rfl rfl k) ?_
  obtain ⟨cl3, Ar3, q3, S3, M3, H3, G3⟩ := id P0
  refine own_fw (A' := (s₁.setTop (mkF m 12 #[.val (.ref a1), .val (.ref a2), .val (.int (0 : Int32))] [(.int (2 : Int32)), (.int (0 : Int32))]))) (fun t k => X0.arraylength hx (by rw [e0]; exact Ar3.1) (State.isArrayOf_alike hZ.alike Ar3.2.1) (g := (mkF m 11 #[.val (.ref a1), .val (.ref a2), .val (.int (0 : Int32))] [(.ref a1), (.int (0 : Int32))])) rfl rfl (hb hby d_jdk_43_method_13_code_11) _ (by rw [len_of S3 M3]; exact k)) ?_
  refine own_fw (A' := (s₁.setTop (mkF m 15 #[.val (.ref a1), .val (.ref a2), .val (.int (0 : Int32))] []))) (fun t k => XS.icmpNo X0.here hx rfl (hb hby d_jdk_43_method_13_code_12) rfl (XT.ii_ge_f (by decide)) k) ?_
  refine own_fw (A' := (s₁.setTop (mkF m 16 #[.val (.ref a1), .val (.ref a2), .val (.int (0 : Int32))] [(.ref a1)]))) (fun t k => XS.aloadN X0.here hx rfl (hb hby d_jdk_43_method_13_code_15) rfl rfl k) ?_
  refine own_fw (A' := (s₁.setTop (mkF m 17 #[.val (.ref a1), .val (.ref a2), .val (.int (0 : Int32))] [(.int (0 : Int32)), (.ref a1)]))) (fun t k => XS.iloadN X0.here hx rfl (hb hby d_jdk_43_method_13_code_16) rfl k) ?_
  obtain ⟨cl4, Ar4, q4, S4, M4, H4, G4⟩ := id P0
  have hin4 : ¬ ((0 : Int32) < 0 ∨ cl4.slots.size ≤ ((0 : Int32)).toNatClampNeg) := inb_of S4 ⟨by decide, by decide⟩
  have hat4 : cl4.slots[((0 : Int32)).toNatClampNeg]? = some (.int x0) := H4.at hin4 rfl
  refine own_fw (A' := (s₁.setTop (mkF m 18 #[.val (.ref a1), .val (.ref a2), .val (.int (0 : Int32))] [(.int x0)]))) (fun t k => X0.baloadBytes hx (j := (0 : Int32)) (v := (.int x0)) (by rw [e0]; exact Ar4.1) (State.isArrayOf_alike hZ.alike Ar4.2.1) Ar4.2.2 hin4 hat4 (g := (mkF m 17 #[.val (.ref a1), .val (.ref a2), .val (.int (0 : Int32))] [(.int (0 : Int32)), (.ref a1)])) rfl rfl (hb hby d_jdk_43_method_13_code_17) _ k) ?_
  refine own_fw (A' := (s₁.setTop (mkF m 19 #[.val (.ref a1), .val (.ref a2), .val (.int (0 : Int32))] [(.ref a2), (.int x0)]))) (fun t k => XS.aloadN X0.here hx rfl (hb hby d_jdk_43_method_13_code_18) rfl rfl k) ?_
  refine own_fw (A' := (s₁.setTop (mkF m 20 #[.val (.ref a1), .val (.ref a2), .val (.int (0 : Int32))] [(.int (0 : Int32)), (.ref a2), (.int x0)]))) (fun t k => XS.iloadN X0.here hx rfl (hb hby d_jdk_43_method_13_code_19) rfl k) ?_
  obtain ⟨cl5, Ar5, q5, S5, M5, H5, G5⟩ := id P1
  have hin5 : ¬ ((0 : Int32) < 0 ∨ cl5.slots.size ≤ ((0 : Int32)).toNatClampNeg) := inb_of S5 ⟨by decide, by decide⟩
  have hat5 : cl5.slots[((0 : Int32)).toNatClampNeg]? = some (.int y0) := H5.at hin5 rfl
  refine own_fw (A' := (s₁.setTop (mkF m 21 #[.val (.ref a1), .val (.ref a2), .val (.int (0 : Int32))] [(.int y0), (.int x0)]))) (fun t k => X0.baloadBytes hx (j := (0 : Int32)) (v := (.int y0)) (by rw [e0]; exact Ar5.1) (State.isArrayOf_alike hZ.alike Ar5.2.1) Ar5.2.2 hin5 hat5 (g := (mkF m 20 #[.val (.ref a1), .val (.ref a2), .val (.int (0 : Int32))] [(.int (0 : Int32)), (.ref a2), (.int x0)])) rfl rfl (hb hby d_jdk_43_method_13_code_20) _ k) ?_
  by_cases hc6 : x0 = y0
  · refine own_fw (A' := (s₁.setTop (mkF m 26 #[.val (.ref a1), .val (.ref a2), .val (.int (0 : Int32))] []))) (fun t k => XS.icmpYes X0.here hx rfl (pc0 := 21) (pc' := 26) rfl (hb hby d_jdk_43_method_13_code_21) rfl (XT.ii_eq_t hc6) (by decide) (by decide) k) ?_
    refine own_fw (A' := (s₁.setTop (mkF m 29 #[.val (.ref a1), .val (.ref a2), .val (.int (1 : Int32))] []))) (fun t k => XS.iinc X0.here hx rfl (hb hby d_jdk_43_method_13_code_26) rfl (l' := #[.val (.ref a1), .val (.ref a2), .val (.int (1 : Int32))]) rfl k) ?_
    refine own_fw (A' := (s₁.setTop (mkF m 9 #[.val (.ref a1), .val (.ref a2), .val (.int (1 : Int32))] []))) (fun t k => XS.goto X0.here hx rfl (pc0 := 29) (pc' := 9) rfl (hb hby d_jdk_43_method_13_code_29) (by decide) (by decide) k) ?_
    refine own_fw (A' := (s₁.setTop (mkF m 10 #[.val (.ref a1), .val (.ref a2), .val (.int (1 : Int32))] [(.int (1 : Int32))]))) (fun t k => XS.iloadN X0.here hx rfl (hb hby d_jdk_43_method_13_code_9) rfl k) ?_
    refine own_fw (A' := (s₁.setTop (mkF m 11 #[.val (.ref a1), .val (.ref a2), .val (.int (1 : Int32))] [(.ref a1), (.int (1 : Int32))]))) (fun t k => XS.aloadN X0.here hx rfl (hb hby d_jdk_43_method_13_code_10) rfl rfl k) ?_
    obtain ⟨cl7, Ar7, q7, S7, M7, H7, G7⟩ := id P0
    refine own_fw (A' := (s₁.setTop (mkF m 12 #[.val (.ref a1), .val (.ref a2), .val (.int (1 : Int32))] [(.int (2 : Int32)), (.int (1 : Int32))]))) (fun t k => X0.arraylength hx (by rw [e0]; exact Ar7.1) (State.isArrayOf_alike hZ.alike Ar7.2.1) (g := (mkF m 11 #[.val (.ref a1), .val (.ref a2), .val (.int (1 : Int32))] [(.ref a1), (.int (1 : Int32))])) rfl rfl (hb hby d_jdk_43_method_13_code_11) _ (by rw [len_of S7 M7]; exact k)) ?_
    refine own_fw (A' := (s₁.setTop (mkF m 15 #[.val (.ref a1), .val (.ref a2), .val (.int (1 : Int32))] []))) (fun t k => XS.icmpNo X0.here hx rfl (hb hby d_jdk_43_method_13_code_12) rfl (XT.ii_ge_f (by decide)) k) ?_
    refine own_fw (A' := (s₁.setTop (mkF m 16 #[.val (.ref a1), .val (.ref a2), .val (.int (1 : Int32))] [(.ref a1)]))) (fun t k => XS.aloadN X0.here hx rfl (hb hby d_jdk_43_method_13_code_15) rfl rfl k) ?_
    refine own_fw (A' := (s₁.setTop (mkF m 17 #[.val (.ref a1), .val (.ref a2), .val (.int (1 : Int32))] [(.int (1 : Int32)), (.ref a1)]))) (fun t k => XS.iloadN X0.here hx rfl (hb hby d_jdk_43_method_13_code_16) rfl k) ?_
    obtain ⟨cl8, Ar8, q8, S8, M8, H8, G8⟩ := id P0
    have hin8 : ¬ ((1 : Int32) < 0 ∨ cl8.slots.size ≤ ((1 : Int32)).toNatClampNeg) := inb_of S8 ⟨by decide, by decide⟩
    have hat8 : cl8.slots[((1 : Int32)).toNatClampNeg]? = some (.int x1) := H8.at hin8 rfl
    refine own_fw (A' := (s₁.setTop (mkF m 18 #[.val (.ref a1), .val (.ref a2), .val (.int (1 : Int32))] [(.int x1)]))) (fun t k => X0.baloadBytes hx (j := (1 : Int32)) (v := (.int x1)) (by rw [e0]; exact Ar8.1) (State.isArrayOf_alike hZ.alike Ar8.2.1) Ar8.2.2 hin8 hat8 (g := (mkF m 17 #[.val (.ref a1), .val (.ref a2), .val (.int (1 : Int32))] [(.int (1 : Int32)), (.ref a1)])) rfl rfl (hb hby d_jdk_43_method_13_code_17) _ k) ?_
    refine own_fw (A' := (s₁.setTop (mkF m 19 #[.val (.ref a1), .val (.ref a2), .val (.int (1 : Int32))] [(.ref a2), (.int x1)]))) (fun t k => XS.aloadN X0.here hx rfl (hb hby d_jdk_43_method_13_code_18) rfl rfl k) ?_
    refine own_fw (A' := (s₁.setTop (mkF m 20 #[.val (.ref a1), .val (.ref a2), .val (.int (1 : Int32))] [(.int (1 : Int32)), (.ref a2), (.int x1)]))) (fun t k => XS.iloadN X0.here hx rfl (hb hby d_jdk_43_method_13_code_19) rfl k) ?_
    obtain ⟨cl9, Ar9, q9, S9, M9, H9, G9⟩ := id P1
    have hin9 : ¬ ((1 : Int32) < 0 ∨ cl9.slots.size ≤ ((1 : Int32)).toNatClampNeg) := inb_of S9 ⟨by decide, by decide⟩
    have hat9 : cl9.slots[((1 : Int32)).toNatClampNeg]? = some (.int y1) := H9.at hin9 rfl
    refine own_fw (A' := (s₁.setTop (mkF m 21 #[.val (.ref a1), .val (.ref a2), .val (.int (1 : Int32))] [(.int y1), (.int x1)]))) (fun t k => X0.baloadBytes hx (j := (1 : Int32)) (v := (.int y1)) (by rw [e0]; exact Ar9.1) (State.isArrayOf_alike hZ.alike Ar9.2.1) Ar9.2.2 hin9 hat9 (g := (mkF m 20 #[.val (.ref a1), .val (.ref a2), .val (.int (1 : Int32))] [(.int (1 : Int32)), (.ref a2), (.int x1)])) rfl rfl (hb hby d_jdk_43_method_13_code_20) _ k) ?_
    by_cases hc10 : x1 = y1
    · refine own_fw (A' := (s₁.setTop (mkF m 26 #[.val (.ref a1), .val (.ref a2), .val (.int (1 : Int32))] []))) (fun t k => XS.icmpYes X0.here hx rfl (pc0 := 21) (pc' := 26) rfl (hb hby d_jdk_43_method_13_code_21) rfl (XT.ii_eq_t hc10) (by decide) (by decide) k) ?_
      refine own_fw (A' := (s₁.setTop (mkF m 29 #[.val (.ref a1), .val (.ref a2), .val (.int (2 : Int32))] []))) (fun t k => XS.iinc X0.here hx rfl (hb hby d_jdk_43_method_13_code_26) rfl (l' := #[.val (.ref a1), .val (.ref a2), .val (.int (2 : Int32))]) rfl k) ?_
      refine own_fw (A' := (s₁.setTop (mkF m 9 #[.val (.ref a1), .val (.ref a2), .val (.int (2 : Int32))] []))) (fun t k => XS.goto X0.here hx rfl (pc0 := 29) (pc' := 9) rfl (hb hby d_jdk_43_method_13_code_29) (by decide) (by decide) k) ?_
      refine own_fw (A' := (s₁.setTop (mkF m 10 #[.val (.ref a1), .val (.ref a2), .val (.int (2 : Int32))] [(.int (2 : Int32))]))) (fun t k => XS.iloadN X0.here hx rfl (hb hby d_jdk_43_method_13_code_9) rfl k) ?_
      refine own_fw (A' := (s₁.setTop (mkF m 11 #[.val (.ref a1), .val (.ref a2), .val (.int (2 : Int32))] [(.ref a1), (.int (2 : Int32))]))) (fun t k => XS.aloadN X0.here hx rfl (hb hby d_jdk_43_method_13_code_10) rfl rfl k) ?_
      obtain ⟨cl11, Ar11, q11, S11, M11, H11, G11⟩ := id P0
      refine own_fw (A' := (s₁.setTop (mkF m 12 #[.val (.ref a1), .val (.ref a2), .val (.int (2 : Int32))] [(.int (2 : Int32)), (.int (2 : Int32))]))) (fun t k => X0.arraylength hx (by rw [e0]; exact Ar11.1) (State.isArrayOf_alike hZ.alike Ar11.2.1) (g := (mkF m 11 #[.val (.ref a1), .val (.ref a2), .val (.int (2 : Int32))] [(.ref a1), (.int (2 : Int32))])) rfl rfl (hb hby d_jdk_43_method_13_code_11) _ (by rw [len_of S11 M11]; exact k)) ?_
      refine own_fw (A' := (s₁.setTop (mkF m 32 #[.val (.ref a1), .val (.ref a2), .val (.int (2 : Int32))] []))) (fun t k => XS.icmpYes X0.here hx rfl (pc0 := 12) (pc' := 32) rfl (hb hby d_jdk_43_method_13_code_12) rfl (XT.ii_ge_t (by decide)) (by decide) (by decide) k) ?_
      refine own_fw (A' := (s₁.setTop (mkF m 33 #[.val (.ref a1), .val (.ref a2), .val (.int (2 : Int32))] [(.int (1 : Int32))]))) (fun t k => XS.iconst X0.here hx rfl (hb hby d_jdk_43_method_13_code_32) k) ?_
      obtain ⟨fs, hr, hrun, hended, hW, hsame⟩ := X0.leave (v := some (.int (1 : Int32))) (fun h => by rw [Bd.returns] at h; cases h)
      refine ⟨_, _, ?_, hrun, hended, _, _, rfl, ?_, ⟨_, rfl⟩, hW, hsame.mono (by decide) (by decide)⟩
      · exact retOut X0 hx Bd.returns rfl (Or.inl ⟨rfl, by simp, _, rfl⟩) (hb hby d_jdk_43_method_13_code_33) hr
      · show Q_rmLeq22 Z a1 a2 k1 k2 x0 x1 y0 y1 h0 n0 _ s₁.heap _
        rw [e0]
        exact ⟨(by simp only [if_pos hc6, if_pos hc10]), N0, rfl⟩
    · refine own_fw (A' := (s₁.setTop (mkF m 24 #[.val (.ref a1), .val (.ref a2), .val (.int (1 : Int32))] []))) (fun t k => XS.icmpNo X0.here hx rfl (hb hby d_jdk_43_method_13_code_21) rfl (XT.ii_eq_f hc10) k) ?_
      refine own_fw (A' := (s₁.setTop (mkF m 25 #[.val (.ref a1), .val (.ref a2), .val (.int (1 : Int32))] [(.int (0 : Int32))]))) (fun t k => XS.iconst X0.here hx rfl (hb hby d_jdk_43_method_13_code_24) k) ?_
      obtain ⟨fs, hr, hrun, hended, hW, hsame⟩ := X0.leave (v := some (.int (0 : Int32))) (fun h => by rw [Bd.returns] at h; cases h)
      refine ⟨_, _, ?_, hrun, hended, _, _, rfl, ?_, ⟨_, rfl⟩, hW, hsame.mono (by decide) (by decide)⟩
      · exact retOut X0 hx Bd.returns rfl (Or.inl ⟨rfl, by simp, _, rfl⟩) (hb hby d_jdk_43_method_13_code_25) hr
      · show Q_rmLeq22 Z a1 a2 k1 k2 x0 x1 y0 y1 h0 n0 _ s₁.heap _
        rw [e0]
        exact ⟨(by simp only [if_pos hc6, if_neg hc10]), N0, rfl⟩
  · refine own_fw (A' := (s₁.setTop (mkF m 24 #[.val (.ref a1), .val (.ref a2), .val (.int (0 : Int32))] []))) (fun t k => XS.icmpNo X0.here hx rfl (hb hby d_jdk_43_method_13_code_21) rfl (XT.ii_eq_f hc6) k) ?_
    refine own_fw (A' := (s₁.setTop (mkF m 25 #[.val (.ref a1), .val (.ref a2), .val (.int (0 : Int32))] [(.int (0 : Int32))]))) (fun t k => XS.iconst X0.here hx rfl (hb hby d_jdk_43_method_13_code_24) k) ?_
    obtain ⟨fs, hr, hrun, hended, hW, hsame⟩ := X0.leave (v := some (.int (0 : Int32))) (fun h => by rw [Bd.returns] at h; cases h)
    refine ⟨_, _, ?_, hrun, hended, _, _, rfl, ?_, ⟨_, rfl⟩, hW, hsame.mono (by decide) (by decide)⟩
    · exact retOut X0 hx Bd.returns rfl (Or.inl ⟨rfl, by simp, _, rfl⟩) (hb hby d_jdk_43_method_13_code_25) hr
    · show Q_rmLeq22 Z a1 a2 k1 k2 x0 x1 y0 y1 h0 n0 _ s₁.heap _
      rw [e0]
      exact ⟨(by simp only [if_neg hc6]), N0, rfl⟩
theorem ef_rmSeq22 (m : MethodId) (a1 : Addr) (a2 : Addr) : entryFrame m #[(.ref a1), (.ref a2)] 3 = mkF m 0 #[.val (.ref a1), .val (.ref a2), .unset] [] := by first | (simp [entryFrame, mkF, argsToLocals, Value.category]; done) | rfl
def Q_rmSeq22 (Z : State) (a1 : Addr) (a2 : Addr) (b1 : Addr) (b2 : Addr) (k1 : ClassId) (k2 : ClassId) (cs : Int32) (x0 : Int32) (x1 : Int32) (y0 : Int32) (y1 : Int32) (h0 : Heap) (n0 : Nat) (v : Option Value) (h : Heap) (L : List Loc) : Prop := v = some (.int (if x0 = y0 then (if x1 = y1 then (1 : Int32) else (0 : Int32)) else (0 : Int32))) ∧ Fr n0 L ∧ h = h0
set_option maxRecDepth 65536 in
set_option maxHeartbeats 40000000 in
theorem rmSeq22 (l : Launch) (Z : State) (a0 : Array Value) (hw : ∀ d ∈ tables_1, d.before a0 Z = true) (ws : List Jvm.Cond) (a1 : Addr) (a2 : Addr) (b1 : Addr) (b2 : Addr) (k1 : ClassId) (k2 : ClassId) (cs : Int32) (x0 : Int32) (x1 : Int32) (y0 : Int32) (y1 : Int32) (h0 : Heap) (n0 : Nat) (Z0 : n0 ≤ h0.size) (P0 : Exa Z h0 a1 "java/lang/String") (P1 : Exa Z h0 a2 "java/lang/String") (P2 : Fld Z h0 a1 "java/lang/String" "coder" "B" (.int (0 : Int32))) (P3 : Fld Z h0 a2 "java/lang/String" "coder" "B" (.int (0 : Int32))) (P4 : Fld Z h0 a1 "java/lang/String" "value" "[B" (.ref b1)) (P5 : Fld Z h0 a2 "java/lang/String" "value" "[B" (.ref b2)) (P6 : Arv Z h0 b1 k1 .byte (2 : Int32) [(.int x0), (.int x1)] (.int (0 : Int32))) (P7 : Arv Z h0 b2 k2 .byte (2 : Int32) [(.int y0), (.int y1)] (.int (0 : Int32))) (ne_a1_a2 : a1 ≠ a2) (P9 : Sta Z h0 "java/lang/String" "COMPACT_STRINGS" "Z" (.int cs)) (hcs : ¬ (cs = (0 : Int32))) :
    MetFree l (⟨"java/lang/String", "equals", "(Ljava/lang/Object;)Z"⟩ : MethodName) (head1 (Jvm.Cond.code (⟨"java/lang/String", "equals", "(Ljava/lang/Object;)Z"⟩ : MethodName) jdk_42_method_66_code 3 (some .boolean) :: ws) ({ frames := 1, cells := 0, slots := 0, locals := 14 } : Room)) (fun a U => a = #[(.ref a1), (.ref a2)] ∧ Z.Warmed39 U.vm ∧ U.heap = h0) (fun _ _ _ _ _ => True) (fun _ U o U' => ∃ v L, o = .returned v ∧ Q_rmSeq22 Z a1 a2 b1 b2 k1 k2 cs x0 x1 y0 y1 h0 n0 v U'.heap L ∧ FrameEnd U o U' L ({ frames := 1, cells := 0, slots := 0, locals := 14 } : Room).cells ({ frames := 1, cells := 0, slots := 0, locals := 14 } : Room).slots) := by
  refine MetFree.of_bodySF (plainFor_of_name pn_java_lang_String) hisR ?_
  intro p e s m args below meth c s₁ Bd hml0 hP hK
  obtain ⟨rfl, hZ, hh⟩ := hP
  have hx := Bd.exec
  have hby := Bd.bytes
  have hml : c.maxLocals = 3 := hml0
  have hown : s.vm.findClass "java/lang/String" = some m.cls := findClass_of_methodNamed Bd.named
  have hnm := (name_of_methodNamed Bd.named Bd.method).1
  have X0 : Stand p l e ({ frames := 1, cells := 0, slots := 0, locals := 14 } : Room) s m #[(.ref a1), (.ref a2)] below meth c s₁ [] 0 0 := Stand.of_body Bd
  have e0 : s₁.heap = h0 := by rw [← hh, Bd.state]; rfl
  have N0 := Fr.nil n0
  refine own_fw (A' := (s₁.setTop (mkF m 0 #[.val (.ref a1), .val (.ref a2), .unset] []))) (fun t k => castTop (ef_rmSeq22 m a1 a2) k) ?_
  refine own_fw (A' := (s₁.setTop (mkF m 1 #[.val (.ref a1), .val (.ref a2), .unset] [(.ref a1)]))) (fun t k => XS.aloadN X0.here hx rfl (hb hby d_jdk_42_method_66_code_0) rfl rfl k) ?_
  refine own_fw (A' := (s₁.setTop (mkF m 2 #[.val (.ref a1), .val (.ref a2), .unset] [(.ref a2), (.ref a1)]))) (fun t k => XS.aloadN X0.here hx rfl (hb hby d_jdk_42_method_66_code_1) rfl rfl k) ?_
  refine own_fw (A' := (s₁.setTop (mkF m 7 #[.val (.ref a1), .val (.ref a2), .unset] []))) (fun t k => Jvm.RoadKit.acmp (g := (mkF m 2 #[.val (.ref a1), .val (.ref a2), .unset] [(.ref a2), (.ref a1)])) X0 hx rfl rfl rfl (pc0 := 2) (pc' := 7) (same := false) rfl (hb hby d_jdk_42_method_66_code_2) rfl (decide_eq_false (fun q => ne_a1_a2 (Value.ref.inj q))) (by decide) (by decide) k) ?_
  refine own_fw (A' := (s₁.setTop (mkF m 8 #[.val (.ref a1), .val (.ref a2), .unset] [(.ref a2)]))) (fun t k => XS.aloadN X0.here hx rfl (hb hby d_jdk_42_method_66_code_7) rfl rfl k) ?_
  obtain ⟨T1, X1, e1, st1⟩ := instY X0 hx hZ hown (hw _ (List.mem_of_getElem? (i := 75) rfl)) e0 (Ins.self P1) (g := (mkF m 8 #[.val (.ref a1), .val (.ref a2), .unset] [(.ref a2)])) rfl rfl (hb hby d_jdk_42_method_66_code_8)
  refine own_fw (A' := (T1.setTop (mkF m 11 #[.val (.ref a1), .val (.ref a2), .unset] [(.int (1 : Int32))]))) (fun t k => st1 _ k) ?_
  refine own_fw (A' := (T1.setTop (mkF m 14 #[.val (.ref a1), .val (.ref a2), .unset] []))) (fun t k => XS.ifNo X1.here hx rfl (hb hby d_jdk_42_method_66_code_11) rfl (XT.i0_eq_f (by decide)) k) ?_
  refine own_fw (A' := (T1.setTop (mkF m 15 #[.val (.ref a1), .val (.ref a2), .unset] [(.ref a2)]))) (fun t k => XS.aloadN X1.here hx rfl (hb hby d_jdk_42_method_66_code_14) rfl rfl k) ?_
  obtain ⟨T2, X2, e2, st2⟩ := castY X1 hx hZ hown (hw _ (List.mem_of_getElem? (i := 75) rfl)) e1 (Ins.self P1) (g := (mkF m 15 #[.val (.ref a1), .val (.ref a2), .unset] [(.ref a2)])) rfl rfl (hb hby d_jdk_42_method_66_code_15)
  refine own_fw (A' := (T2.setTop (mkF m 18 #[.val (.ref a1), .val (.ref a2), .unset] [(.ref a2)]))) (fun t k => st2 _ k) ?_
  refine own_fw (A' := (T2.setTop (mkF m 19 #[.val (.ref a1), .val (.ref a2), .val (.ref a2)] []))) (fun t k => XS.astoreN X2.here hx rfl (hb hby d_jdk_42_method_66_code_18) rfl rfl (l' := #[.val (.ref a1), .val (.ref a2), .val (.ref a2)]) rfl k) ?_
  obtain ⟨T3, X3, e3, st3⟩ := getS2 X2 hx hZ hown (host := "") (Or.inl (hw _ (List.mem_of_getElem? (i := 32) rfl))) Via.refl e2 P9 (g := (mkF m 19 #[.val (.ref a1), .val (.ref a2), .val (.ref a2)] [])) rfl (hb hby d_jdk_42_method_66_code_19)
  refine own_fw (A' := (T3.setTop (mkF m 22 #[.val (.ref a1), .val (.ref a2), .val (.ref a2)] [(.int cs)]))) (fun t k => st3 _ k) ?_
  refine own_fw (A' := (T3.setTop (mkF m 25 #[.val (.ref a1), .val (.ref a2), .val (.ref a2)] []))) (fun t k => XS.ifNo X3.here hx rfl (hb hby d_jdk_42_method_66_code_22) rfl (XT.i0_eq_f hcs) k) ?_
  refine own_fw (A' := (T3.setTop (mkF m 26 #[.val (.ref a1), .val (.ref a2), .val (.ref a2)] [(.ref a1)]))) (fun t k => XS.aloadN X3.here hx rfl (hb hby d_jdk_42_method_66_code_25) rfl rfl k) ?_
  obtain ⟨T4, X4, e4, st4⟩ := getF X3 hx hZ hown (host := "") (Or.inl (hw _ (List.mem_of_getElem? (i := 31) rfl))) Via.refl e3 P2 (g := (mkF m 26 #[.val (.ref a1), .val (.ref a2), .val (.ref a2)] [(.ref a1)])) rfl rfl (hb hby d_jdk_42_method_66_code_26)
  refine own_fw (A' := (T4.setTop (mkF m 29 #[.val (.ref a1), .val (.ref a2), .val (.ref a2)] [(.int (0 : Int32))]))) (fun t k => st4 _ k) ?_
  refine own_fw (A' := (T4.setTop (mkF m 30 #[.val (.ref a1), .val (.ref a2), .val (.ref a2)] [(.ref a2), (.int (0 : Int32))]))) (fun t k => XS.aloadN X4.here hx rfl (hb hby d_jdk_42_method_66_code_29) rfl rfl k) ?_
  obtain ⟨T5, X5, e5, st5⟩ := getF X4 hx hZ hown (host := "") (Or.inl (hw _ (List.mem_of_getElem? (i := 31) rfl))) Via.refl e4 P3 (g := (mkF m 30 #[.val (.ref a1), .val (.ref a2), .val (.ref a2)] [(.ref a2), (.int (0 : Int32))])) rfl rfl (hb hby d_jdk_42_method_66_code_30)
  refine own_fw (A' := (T5.setTop (mkF m 33 #[.val (.ref a1), .val (.ref a2), .val (.ref a2)] [(.int (0 : Int32)), (.int (0 : Int32))]))) (fun t k => st5 _ k) ?_
  refine own_fw (A' := (T5.setTop (mkF m 36 #[.val (.ref a1), .val (.ref a2), .val (.ref a2)] []))) (fun t k => XS.icmpNo X5.here hx rfl (hb hby d_jdk_42_method_66_code_33) rfl (XT.ii_ne_f rfl) k) ?_
  refine own_fw (A' := (T5.setTop (mkF m 37 #[.val (.ref a1), .val (.ref a2), .val (.ref a2)] [(.ref a1)]))) (fun t k => XS.aloadN X5.here hx rfl (hb hby d_jdk_42_method_66_code_36) rfl rfl k) ?_
  obtain ⟨T6, X6, e6, st6⟩ := getF X5 hx hZ hown (host := "") (Or.inl (hw _ (List.mem_of_getElem? (i := 30) rfl))) Via.refl e5 P4 (g := (mkF m 37 #[.val (.ref a1), .val (.ref a2), .val (.ref a2)] [(.ref a1)])) rfl rfl (hb hby d_jdk_42_method_66_code_37)
  refine own_fw (A' := (T6.setTop (mkF m 40 #[.val (.ref a1), .val (.ref a2), .val (.ref a2)] [(.ref b1)]))) (fun t k => st6 _ k) ?_
  refine own_fw (A' := (T6.setTop (mkF m 41 #[.val (.ref a1), .val (.ref a2), .val (.ref a2)] [(.ref a2), (.ref b1)]))) (fun t k => XS.aloadN X6.here hx rfl (hb hby d_jdk_42_method_66_code_40) rfl rfl k) ?_
  obtain ⟨T7, X7, e7, st7⟩ := getF X6 hx hZ hown (host := "") (Or.inl (hw _ (List.mem_of_getElem? (i := 30) rfl))) Via.refl e6 P5 (g := (mkF m 41 #[.val (.ref a1), .val (.ref a2), .val (.ref a2)] [(.ref a2), (.ref b1)])) rfl rfl (hb hby d_jdk_42_method_66_code_41)
  refine own_fw (A' := (T7.setTop (mkF m 44 #[.val (.ref a1), .val (.ref a2), .val (.ref a2)] [(.ref b2), (.ref b1)]))) (fun t k => st7 _ k) ?_
  obtain ⟨_, _, ⟨T8, L8, k8, n8⟩, -, X8, ⟨Lc8, hQ8, l8, y8, z8⟩, st8⟩ := Jvm.LawKit.callS X7 hx (y := (⟨"java/lang/StringLatin1", "equals", "([B[B)Z"⟩ : MethodName)) hown (mvT hZ (hw _ (List.mem_of_getElem? (i := 76) rfl))) (mvT hZ (hw _ (List.mem_of_getElem? (i := 77) rfl))) (mvT hZ (hw _ (List.mem_of_getElem? (i := 78) rfl))) (mvT hZ (hw _ (List.mem_of_getElem? (i := 79) rfl))) (by decide) (backOf (W := 0) (rmLeq22 l Z a0 hw [] b1 b2 k1 k2 x0 x1 y0 y1 h0 n0 Z0 P6 P7) hZ (hw _ (List.mem_of_getElem? (i := 79) rfl)) (hw _ (List.mem_of_getElem? (i := 78) rfl)) (by decide) (by decide)) (g := (mkF m 44 #[.val (.ref a1), .val (.ref a2), .val (.ref a2)] [(.ref b2), (.ref b1)])) rfl (by rw [hml]; rfl) (argsL := [(.ref b1), (.ref b2)]) (rest := []) (lenOf pd___B_B_Z rfl) rfl (by show 2 * 0 + _ ≤ _; exact Nat.le_of_eq rfl) (hb hby d_jdk_42_method_66_code_44) (fun _ _ => ⟨rfl, e7, (by decide : 0 + 0 ≤ _), (by decide : 0 + 0 ≤ _)⟩)
  dsimp only [Pt.U, Pt.locs, Pt.cells, Pt.slots] at X8 l8 y8 z8 st8 hQ8
  subst l8 y8 z8
  obtain ⟨rfl, Nq8, e8⟩ := hQ8
  have Nf8 := Fr.app N0 Nq8
  refine own_fw (A' := (T8.setTop (mkF m 47 #[.val (.ref a1), .val (.ref a2), .val (.ref a2)] [(.int (if x0 = y0 then (if x1 = y1 then (1 : Int32) else (0 : Int32)) else (0 : Int32)))]))) (fun t k => st8 _ k) ?_
  by_cases hc9 : (if x0 = y0 then (if x1 = y1 then (1 : Int32) else (0 : Int32)) else (0 : Int32)) = (0 : Int32)
  · refine own_fw (A' := (T8.setTop (mkF m 54 #[.val (.ref a1), .val (.ref a2), .val (.ref a2)] []))) (fun t k => XS.ifYes X8.here hx rfl (pc0 := 47) (pc' := 54) rfl (hb hby d_jdk_42_method_66_code_47) rfl (XT.i0_eq_t hc9) (by decide) (by decide) k) ?_
    refine own_fw (A' := (T8.setTop (mkF m 55 #[.val (.ref a1), .val (.ref a2), .val (.ref a2)] [(.int (0 : Int32))]))) (fun t k => XS.iconst X8.here hx rfl (hb hby d_jdk_42_method_66_code_54) k) ?_
    obtain ⟨fs, hr, hrun, hended, hW, hsame⟩ := X8.leave (v := some (.int (0 : Int32))) (fun h => by rw [Bd.returns] at h; cases h)
    refine ⟨_, _, ?_, hrun, hended, _, _, rfl, ?_, ⟨_, rfl⟩, hW, hsame.mono (by decide) (by decide)⟩
    · exact retOut X8 hx Bd.returns rfl (Or.inl ⟨rfl, by simp, _, rfl⟩) (hb hby d_jdk_42_method_66_code_55) hr
    · show Q_rmSeq22 Z a1 a2 b1 b2 k1 k2 cs x0 x1 y0 y1 h0 n0 _ T8.heap _
      rw [e8]
      exact ⟨(by first | rfl | (have q := hc9; revert q; (repeat' split) <;> simp)), Nf8, rfl⟩
  · refine own_fw (A' := (T8.setTop (mkF m 50 #[.val (.ref a1), .val (.ref a2), .val (.ref a2)] []))) (fun t k => XS.ifNo X8.here hx rfl (hb hby d_jdk_42_method_66_code_47) rfl (XT.i0_eq_f hc9) k) ?_
    refine own_fw (A' := (T8.setTop (mkF m 51 #[.val (.ref a1), .val (.ref a2), .val (.ref a2)] [(.int (1 : Int32))]))) (fun t k => XS.iconst X8.here hx rfl (hb hby d_jdk_42_method_66_code_50) k) ?_
    refine own_fw (A' := (T8.setTop (mkF m 55 #[.val (.ref a1), .val (.ref a2), .val (.ref a2)] [(.int (1 : Int32))]))) (fun t k => XS.goto X8.here hx rfl (pc0 := 51) (pc' := 55) rfl (hb hby d_jdk_42_method_66_code_51) (by decide) (by decide) k) ?_
    obtain ⟨fs, hr, hrun, hended, hW, hsame⟩ := X8.leave (v := some (.int (1 : Int32))) (fun h => by rw [Bd.returns] at h; cases h)
    refine ⟨_, _, ?_, hrun, hended, _, _, rfl, ?_, ⟨_, rfl⟩, hW, hsame.mono (by decide) (by decide)⟩
    · exact retOut X8 hx Bd.returns rfl (Or.inl ⟨rfl, by simp, _, rfl⟩) (hb hby d_jdk_42_method_66_code_55) hr
    · show Q_rmSeq22 Z a1 a2 b1 b2 k1 k2 cs x0 x1 y0 y1 h0 n0 _ T8.heap _
      rw [e8]
      exact ⟨(by first | rfl | (have q := hc9; revert q; (repeat' split) <;> simp)), Nf8, rfl⟩
def Q_rmEq (Z : State) (a1 a2 : Addr) (d1 d2 : List Int32) (cs : Int32) (h0 : Heap) (n0 : Nat) (v : Option Value) (h : Heap) (L : List Loc) : Prop := v = some (.int (own_leq d1 d2)) ∧ Fr n0 L ∧ h = h0
theorem rmEq (l : Launch) (Z : State) (a0 : Array Value) (hw : ∀ d ∈ tables_1, d.before a0 Z = true) (ws : List Jvm.Cond) (a1 a2 : Addr) (d1 d2 : List Int32) (cs : Int32) (h0 : Heap) (n0 : Nat) (Z0 : n0 ≤ h0.size) (P0 : own_Str Z h0 a1 d1) (P1 : own_Str Z h0 a2 d2) (ne_a1_a2 : a1 ≠ a2) (P3 : Sta Z h0 "java/lang/String" "COMPACT_STRINGS" "Z" (.int cs)) (hcs : ¬ (cs = (0 : Int32))) (s1 : own_small d1) (s2 : own_small d2) :
    MetFree l (⟨"java/lang/String", "equals", "(Ljava/lang/Object;)Z"⟩ : MethodName) (head1 (Jvm.Cond.code (⟨"java/lang/String", "equals", "(Ljava/lang/Object;)Z"⟩ : MethodName) jdk_42_method_66_code 3 (some .boolean) :: ws) ({ frames := 1, cells := 0, slots := 0, locals := 14 } : Room)) (fun a U => a = #[(.ref a1), (.ref a2)] ∧ Z.Warmed39 U.vm ∧ U.heap = h0) (fun _ _ _ _ _ => True) (fun _ U o U' => ∃ v L, o = .returned v ∧ Q_rmEq Z a1 a2 d1 d2 cs h0 n0 v U'.heap L ∧ FrameEnd U o U' L ({ frames := 1, cells := 0, slots := 0, locals := 14 } : Room).cells ({ frames := 1, cells := 0, slots := 0, locals := 14 } : Room).slots) := by
  obtain ⟨b1, k1, E1, C1, V1, A1⟩ := P0
  obtain ⟨b2, k2, E2, C2, V2, A2⟩ := P1
  have r1 := s1.2
  have r2 := s2.2
  rcases own_shape s1 with rfl | ⟨x0, rfl⟩ | ⟨x0, x1, rfl⟩ <;> rcases own_shape s2 with rfl | ⟨y0, rfl⟩ | ⟨y0, y1, rfl⟩
  · refine own_metMono (rmSeq00 l Z a0 hw ws a1 a2 b1 b2 k1 k2 cs   h0 n0 Z0 E1 E2 C1 C2 V1 V2 A1 A2 ne_a1_a2 P3 hcs) ?_
    rintro a U o U' ⟨v, L, e1, ⟨e2, e3, e4⟩, e5⟩
    exact ⟨v, L, e1, ⟨e2.trans (congrArg some (congrArg Value.int (by simp [own_leq]))), e3, e4⟩, e5⟩
  · refine own_metMono (rmSeq01 l Z a0 hw ws a1 a2 b1 b2 k1 k2 cs  (y0.toInt8.toInt32) h0 n0 Z0 E1 E2 C1 C2 V1 V2 A1 A2 ne_a1_a2 P3 hcs) ?_
    rintro a U o U' ⟨v, L, e1, ⟨e2, e3, e4⟩, e5⟩
    exact ⟨v, L, e1, ⟨e2.trans (congrArg some (congrArg Value.int (by simp [own_leq]))), e3, e4⟩, e5⟩
  · refine own_metMono (rmSeq02 l Z a0 hw ws a1 a2 b1 b2 k1 k2 cs  (y0.toInt8.toInt32) (y1.toInt8.toInt32) h0 n0 Z0 E1 E2 C1 C2 V1 V2 A1 A2 ne_a1_a2 P3 hcs) ?_
    rintro a U o U' ⟨v, L, e1, ⟨e2, e3, e4⟩, e5⟩
    exact ⟨v, L, e1, ⟨e2.trans (congrArg some (congrArg Value.int (by simp [own_leq]))), e3, e4⟩, e5⟩
  · refine own_metMono (rmSeq10 l Z a0 hw ws a1 a2 b1 b2 k1 k2 cs (x0.toInt8.toInt32)  h0 n0 Z0 E1 E2 C1 C2 V1 V2 A1 A2 ne_a1_a2 P3 hcs) ?_
    rintro a U o U' ⟨v, L, e1, ⟨e2, e3, e4⟩, e5⟩
    exact ⟨v, L, e1, ⟨e2.trans (congrArg some (congrArg Value.int (by simp [own_leq]))), e3, e4⟩, e5⟩
  · refine own_metMono (rmSeq11 l Z a0 hw ws a1 a2 b1 b2 k1 k2 cs (x0.toInt8.toInt32) (y0.toInt8.toInt32) h0 n0 Z0 E1 E2 C1 C2 V1 V2 A1 A2 ne_a1_a2 P3 hcs) ?_
    rintro a U o U' ⟨v, L, e1, ⟨e2, e3, e4⟩, e5⟩
    have i0 : (x0.toInt8.toInt32 = y0.toInt8.toInt32) ↔ x0 = y0 := ⟨own_byteInj (r1 _ (by simp)) (r2 _ (by simp)), fun q => by rw [q]⟩
    exact ⟨v, L, e1, ⟨e2.trans (congrArg some (congrArg Value.int (by simp only [own_leq, i0]; by_cases q0 : x0 = y0 <;> simp [q0]))), e3, e4⟩, e5⟩
  · refine own_metMono (rmSeq12 l Z a0 hw ws a1 a2 b1 b2 k1 k2 cs (x0.toInt8.toInt32) (y0.toInt8.toInt32) (y1.toInt8.toInt32) h0 n0 Z0 E1 E2 C1 C2 V1 V2 A1 A2 ne_a1_a2 P3 hcs) ?_
    rintro a U o U' ⟨v, L, e1, ⟨e2, e3, e4⟩, e5⟩
    exact ⟨v, L, e1, ⟨e2.trans (congrArg some (congrArg Value.int (by simp [own_leq]))), e3, e4⟩, e5⟩
  · refine own_metMono (rmSeq20 l Z a0 hw ws a1 a2 b1 b2 k1 k2 cs (x0.toInt8.toInt32) (x1.toInt8.toInt32)  h0 n0 Z0 E1 E2 C1 C2 V1 V2 A1 A2 ne_a1_a2 P3 hcs) ?_
    rintro a U o U' ⟨v, L, e1, ⟨e2, e3, e4⟩, e5⟩
    exact ⟨v, L, e1, ⟨e2.trans (congrArg some (congrArg Value.int (by simp [own_leq]))), e3, e4⟩, e5⟩
  · refine own_metMono (rmSeq21 l Z a0 hw ws a1 a2 b1 b2 k1 k2 cs (x0.toInt8.toInt32) (x1.toInt8.toInt32) (y0.toInt8.toInt32) h0 n0 Z0 E1 E2 C1 C2 V1 V2 A1 A2 ne_a1_a2 P3 hcs) ?_
    rintro a U o U' ⟨v, L, e1, ⟨e2, e3, e4⟩, e5⟩
    exact ⟨v, L, e1, ⟨e2.trans (congrArg some (congrArg Value.int (by simp [own_leq]))), e3, e4⟩, e5⟩
  · refine own_metMono (rmSeq22 l Z a0 hw ws a1 a2 b1 b2 k1 k2 cs (x0.toInt8.toInt32) (x1.toInt8.toInt32) (y0.toInt8.toInt32) (y1.toInt8.toInt32) h0 n0 Z0 E1 E2 C1 C2 V1 V2 A1 A2 ne_a1_a2 P3 hcs) ?_
    rintro a U o U' ⟨v, L, e1, ⟨e2, e3, e4⟩, e5⟩
    have i0 : (x0.toInt8.toInt32 = y0.toInt8.toInt32) ↔ x0 = y0 := ⟨own_byteInj (r1 _ (by simp)) (r2 _ (by simp)), fun q => by rw [q]⟩
    have i1 : (x1.toInt8.toInt32 = y1.toInt8.toInt32) ↔ x1 = y1 := ⟨own_byteInj (r1 _ (by simp)) (r2 _ (by simp)), fun q => by rw [q]⟩
    exact ⟨v, L, e1, ⟨e2.trans (congrArg some (congrArg Value.int (by simp only [own_leq, i0, i1]; by_cases q0 : x0 = y0 <;> by_cases q1 : x1 = y1 <;> simp [q0, q1]))), e3, e4⟩, e5⟩

def own_ch (x : Int32) : Prop := 0 ≤ x.toInt ∧ x.toInt ≤ 255
theorem own_narCh {x : Int32} (h : own_ch x) : nar .char x = x := by
  have a := c_i2c x
  have b := h
  unfold own_ch at b
  show x.toUInt32.toUInt16.toUInt32.toInt32 = x
  apply Int32.toInt_inj.mp
  omega
theorem own_narrC {x : Int32} (h : own_ch x) : narrow .char (.int x) = .int x := by
  show Value.int (nar .char x) = .int x
  rw [own_narCh h]
theorem own_chM (x : Int32) : own_ch (x &&& (255 : Int32)) := by
  have m := c_mask x 255 8 (by decide) (by decide)
  unfold own_ch
  omega
theorem own_le255 {x : Int32} (h : own_ch x) : ¬ ((255 : Int32) < x) := by
  have b := h
  unfold own_ch at b
  have e : (255 : Int32).toInt = 255 := by decide
  rw [Int32.lt_iff_toInt_lt]
  omega
def own_ln (x : Int32) : Int32 := ((x &&& (3 : Int32)) % (3 : Int32))
theorem own_lnR (x : Int32) : own_ln x = 0 ∨ own_ln x = 1 ∨ own_ln x = 2 := by
  have m := c_mask x 3 2 (by decide) (by decide)
  have r := (c_irem (x &&& (3 : Int32)) 3 3 (by decide)).1 (by omega)
  have e0 : (0 : Int32).toInt = 0 := by decide
  have e1 : (1 : Int32).toInt = 1 := by decide
  have e2 : (2 : Int32).toInt = 2 := by decide
  unfold own_ln
  simp only [← Int32.toInt_inj, e0, e1, e2]
  omega
def own_ch3 (n a b : Int32) : List Int32 := if n = (0 : Int32) then [] else if n = (1 : Int32) then [a] else [a, b]
theorem own_sm {n a b : Int32} (ha : own_ch a) (hb : own_ch b) : own_small (own_ch3 n a b) := by
  unfold own_ch at ha hb
  unfold own_ch3 own_small
  split
  · simp
  · split
    · simpa using ha
    · simp only [List.length_cons, List.length_nil, List.mem_cons, List.not_mem_nil, or_false]
      exact ⟨by omega, fun c hc => by rcases hc with rfl | rfl; exact ha; exact hb⟩
def own_tl (n a b : Int32) : Int32 := if n < (2 : Int32) then (1 : Int32) else if a = b then (1 : Int32) else (0 : Int32)
def own_eq3 (la a0 a1 lb b0 b1 : Int32) : Int32 := if la = lb then (if la < (1 : Int32) then own_tl la a1 b1 else if a0 = b0 then own_tl la a1 b1 else (0 : Int32)) else (0 : Int32)
def own_jt (a b : Int32) : Int32 := if a = (0 : Int32) then (0 : Int32) else if b = (0 : Int32) then (0 : Int32) else (1 : Int32)
def own_join (s t o p : List Int32) : Int32 := if own_leq s o = (0 : Int32) then own_jt (own_leq t o) (own_leq s p) else if own_leq t p = (0 : Int32) then own_jt (own_leq t o) (own_leq s p) else (1 : Int32)
theorem own_e3 {la a0 a1 lb b0 b1 : Int32} (ha : la = 0 ∨ la = 1 ∨ la = 2) (hb : lb = 0 ∨ lb = 1 ∨ lb = 2) : own_eq3 la a0 a1 lb b0 b1 = own_leq (own_ch3 lb b0 b1) (own_ch3 la a0 a1) := by
  have d01 : ¬ (0 : Int32) = 1 := by decide
  have d02 : ¬ (0 : Int32) = 2 := by decide
  have d12 : ¬ (1 : Int32) = 2 := by decide
  have d10 : ¬ (1 : Int32) = 0 := by decide
  have d20 : ¬ (2 : Int32) = 0 := by decide
  have d21 : ¬ (2 : Int32) = 1 := by decide
  have l01 : (0 : Int32) < 1 := by decide
  have l02 : (0 : Int32) < 2 := by decide
  have l12 : (1 : Int32) < 2 := by decide
  have l11 : ¬ (1 : Int32) < 1 := by decide
  have l21 : ¬ (2 : Int32) < 1 := by decide
  have l22 : ¬ (2 : Int32) < 2 := by decide
  rcases ha with rfl | rfl | rfl <;> rcases hb with rfl | rfl | rfl <;> simp only [own_eq3, own_tl, own_leq, own_ch3, d01, d02, d12, d10, d20, d21, l01, l02, l12, l11, l21, l22, if_true, if_false] <;> simp
  · by_cases q0 : a0 = b0
    · subst q0; simp
    · simp [q0, Ne.symm q0]
  · by_cases q0 : a0 = b0 <;> by_cases q1 : a1 = b1
    · subst q0; subst q1; simp
    · subst q0; simp [q1, Ne.symm q1]
    · subst q1; simp [q0, Ne.symm q0]
    · simp [q0, q1, Ne.symm q0]
theorem own_q {x y a0 a1 b0 b1 : Int32} (h : own_eq3 (own_ln x) a0 a1 (own_ln y) b0 b1 = (0 : Int32)) : own_leq (own_ch3 (own_ln y) b0 b1) (own_ch3 (own_ln x) a0 a1) = (0 : Int32) := by
  rw [← own_e3 (own_lnR x) (own_lnR y)]
  exact h
theorem own_qn {x y a0 a1 b0 b1 : Int32} (h : ¬ own_eq3 (own_ln x) a0 a1 (own_ln y) b0 b1 = (0 : Int32)) : ¬ own_leq (own_ch3 (own_ln y) b0 b1) (own_ch3 (own_ln x) a0 a1) = (0 : Int32) := by
  rw [← own_e3 (own_lnR x) (own_lnR y)]
  exact h

theorem pn_com_example_kodnik_kodnik_store_MappingJoinsPinLaw : plainName "com/example/kodnik/kodnik/store/MappingJoinsPinLaw" = true := by first | (simp [plainName, overriddenIn]; done) | decide +kernel
theorem d_method_3_code_0 : decode method_3_code 0 = .ok (.iload_n 0, 1) := by decide +kernel
theorem d_method_3_code_1 : decode method_3_code 1 = .ok (.iconst 3, 1) := by decide +kernel
theorem d_method_3_code_2 : decode method_3_code 2 = .ok (.iand, 1) := by decide +kernel
theorem d_method_3_code_3 : decode method_3_code 3 = .ok (.iconst 3, 1) := by decide +kernel
theorem d_method_3_code_4 : decode method_3_code 4 = .ok (.irem, 1) := by decide +kernel
theorem d_method_3_code_5 : decode method_3_code 5 = .ok (.ireturn, 1) := by decide +kernel
theorem ef_rmLen (m : MethodId) (p1 : Int32) : entryFrame m #[(.int p1)] 1 = mkF m 0 #[.val (.int p1)] [] := by first | (simp [entryFrame, mkF, argsToLocals, Value.category]; done) | rfl
def Q_rmLen (Z : State) (p1 : Int32) (h0 : Heap) (n0 : Nat) (v : Option Value) (h : Heap) (L : List Loc) : Prop := v = some (.int (own_ln p1)) ∧ Fr n0 L ∧ h = h0
set_option maxRecDepth 65536 in
set_option maxHeartbeats 40000000 in
theorem rmLen (l : Launch) (Z : State) (a0 : Array Value) (hw : ∀ d ∈ tables_1, d.before a0 Z = true) (ws : List Jvm.Cond) (p1 : Int32) (h0 : Heap) (n0 : Nat) (Z0 : n0 ≤ h0.size)  :
    MetFree l (⟨"com/example/kodnik/kodnik/store/MappingJoinsPinLaw", "len", "(I)I"⟩ : MethodName) (head1 (Jvm.Cond.code (⟨"com/example/kodnik/kodnik/store/MappingJoinsPinLaw", "len", "(I)I"⟩ : MethodName) method_3_code 1 (some .int) :: ws) ({ frames := 0, cells := 0, slots := 0, locals := 0 } : Room)) (fun a U => a = #[(.int p1)] ∧ Z.Warmed39 U.vm ∧ U.heap = h0) (fun _ _ _ _ _ => True) (fun _ U o U' => ∃ v L, o = .returned v ∧ Q_rmLen Z p1 h0 n0 v U'.heap L ∧ FrameEnd U o U' L ({ frames := 0, cells := 0, slots := 0, locals := 0 } : Room).cells ({ frames := 0, cells := 0, slots := 0, locals := 0 } : Room).slots) := by
  refine MetFree.of_bodySF (plainFor_of_name pn_com_example_kodnik_kodnik_store_MappingJoinsPinLaw) hisR ?_
  intro p e s m args below meth c s₁ Bd hml0 hP hK
  obtain ⟨rfl, hZ, hh⟩ := hP
  have hx := Bd.exec
  have hby := Bd.bytes
  have hml : c.maxLocals = 1 := hml0
  have hown : s.vm.findClass "com/example/kodnik/kodnik/store/MappingJoinsPinLaw" = some m.cls := findClass_of_methodNamed Bd.named
  have hnm := (name_of_methodNamed Bd.named Bd.method).1
  have X0 : Stand p l e ({ frames := 0, cells := 0, slots := 0, locals := 0 } : Room) s m #[(.int p1)] below meth c s₁ [] 0 0 := Stand.of_body Bd
  have e0 : s₁.heap = h0 := by rw [← hh, Bd.state]; rfl
  have N0 := Fr.nil n0
  refine own_fw (A' := (s₁.setTop (mkF m 0 #[.val (.int p1)] []))) (fun t k => castTop (ef_rmLen m p1) k) ?_
  refine own_fw (A' := (s₁.setTop (mkF m 1 #[.val (.int p1)] [(.int p1)]))) (fun t k => XS.iloadN X0.here hx rfl (hb hby d_method_3_code_0) rfl k) ?_
  refine own_fw (A' := (s₁.setTop (mkF m 2 #[.val (.int p1)] [(.int (3 : Int32)), (.int p1)]))) (fun t k => XS.iconst X0.here hx rfl (hb hby d_method_3_code_1) k) ?_
  refine own_fw (A' := (s₁.setTop (mkF m 3 #[.val (.int p1)] [(.int (p1 &&& (3 : Int32)))]))) (fun t k => XS.iand X0.here hx rfl (hb hby d_method_3_code_2) rfl k) ?_
  refine own_fw (A' := (s₁.setTop (mkF m 4 #[.val (.int p1)] [(.int (3 : Int32)), (.int (p1 &&& (3 : Int32)))]))) (fun t k => XS.iconst X0.here hx rfl (hb hby d_method_3_code_3) k) ?_
  refine own_fw (A' := (s₁.setTop (mkF m 5 #[.val (.int p1)] [(.int ((p1 &&& (3 : Int32)) % (3 : Int32)))]))) (fun t k => iremM X0 hx rfl (hb hby d_method_3_code_4) rfl (by decide) k) ?_
  obtain ⟨fs, hr, hrun, hended, hW, hsame⟩ := X0.leave (v := some (.int ((p1 &&& (3 : Int32)) % (3 : Int32)))) (fun h => by rw [Bd.returns] at h; cases h)
  refine ⟨_, _, ?_, hrun, hended, _, _, rfl, ?_, ⟨_, rfl⟩, hW, hsame.mono (by decide) (by decide)⟩
  · exact retOut X0 hx Bd.returns rfl (Or.inl ⟨rfl, by simp, _, rfl⟩) (hb hby d_method_3_code_5) hr
  · show Q_rmLen Z p1 h0 n0 _ s₁.heap _
    rw [e0]
    exact ⟨rfl, N0, rfl⟩
theorem d_method_4_code_0 : decode method_4_code 0 = .ok (.iload_n 0, 1) := by decide +kernel
theorem d_method_4_code_1 : decode method_4_code 1 = .ok (.iconst 2, 1) := by decide +kernel
theorem d_method_4_code_2 : decode method_4_code 2 = .ok (.iload_n 1, 1) := by decide +kernel
theorem d_method_4_code_3 : decode method_4_code 3 = .ok (.iadd, 1) := by decide +kernel
theorem d_method_4_code_4 : decode method_4_code 4 = .ok (.iushr, 1) := by decide +kernel
theorem d_method_4_code_5 : decode method_4_code 5 = .ok (.iconst 1, 1) := by decide +kernel
theorem d_method_4_code_6 : decode method_4_code 6 = .ok (.iand, 1) := by decide +kernel
theorem d_method_4_code_7 : decode method_4_code 7 = .ok (.ifCond .ne 5, 3) := by decide +kernel
theorem d_method_4_code_10 : decode method_4_code 10 = .ok (.iload_n 2, 1) := by decide +kernel
theorem d_method_4_code_11 : decode method_4_code 11 = .ok (.ireturn, 1) := by decide +kernel
theorem d_method_4_code_12 : decode method_4_code 12 = .ok (.iload_n 3, 1) := by decide +kernel
theorem d_method_4_code_13 : decode method_4_code 13 = .ok (.ireturn, 1) := by decide +kernel
theorem ef_rmPick (m : MethodId) (p1 : Int32) (p2 : Int32) (p3 : Int32) (p4 : Int32) : entryFrame m #[(.int p1), (.int p2), (.int p3), (.int p4)] 4 = mkF m 0 #[.val (.int p1), .val (.int p2), .val (.int p3), .val (.int p4)] [] := by first | (simp [entryFrame, mkF, argsToLocals, Value.category]; done) | rfl
def Q_rmPick (Z : State) (p1 : Int32) (p2 : Int32) (p3 : Int32) (p4 : Int32) (h0 : Heap) (n0 : Nat) (v : Option Value) (h : Heap) (L : List Loc) : Prop := ∃ r : Int32, v = some (.int r) ∧ Fr n0 L ∧ h = h0 ∧ (own_ch r)
set_option maxRecDepth 65536 in
set_option maxHeartbeats 40000000 in
theorem rmPick (l : Launch) (Z : State) (a0 : Array Value) (hw : ∀ d ∈ tables_1, d.before a0 Z = true) (ws : List Jvm.Cond) (p1 : Int32) (p2 : Int32) (p3 : Int32) (p4 : Int32) (h0 : Heap) (n0 : Nat) (Z0 : n0 ≤ h0.size) (h3 : own_ch p3) (h4 : own_ch p4) :
    MetFree l (⟨"com/example/kodnik/kodnik/store/MappingJoinsPinLaw", "pick", "(IICC)C"⟩ : MethodName) (head1 (Jvm.Cond.code (⟨"com/example/kodnik/kodnik/store/MappingJoinsPinLaw", "pick", "(IICC)C"⟩ : MethodName) method_4_code 4 (some .char) :: ws) ({ frames := 0, cells := 0, slots := 0, locals := 0 } : Room)) (fun a U => a = #[(.int p1), (.int p2), (.int p3), (.int p4)] ∧ Z.Warmed39 U.vm ∧ U.heap = h0) (fun _ _ _ _ _ => True) (fun _ U o U' => ∃ v L, o = .returned v ∧ Q_rmPick Z p1 p2 p3 p4 h0 n0 v U'.heap L ∧ FrameEnd U o U' L ({ frames := 0, cells := 0, slots := 0, locals := 0 } : Room).cells ({ frames := 0, cells := 0, slots := 0, locals := 0 } : Room).slots) := by
  refine MetFree.of_bodySF (plainFor_of_name pn_com_example_kodnik_kodnik_store_MappingJoinsPinLaw) hisR ?_
  intro p e s m args below meth c s₁ Bd hml0 hP hK
  obtain ⟨rfl, hZ, hh⟩ := hP
  have hx := Bd.exec
  have hby := Bd.bytes
  have hml : c.maxLocals = 4 := hml0
  have hown : s.vm.findClass "com/example/kodnik/kodnik/store/MappingJoinsPinLaw" = some m.cls := findClass_of_methodNamed Bd.named
  have hnm := (name_of_methodNamed Bd.named Bd.method).1
  have X0 : Stand p l e ({ frames := 0, cells := 0, slots := 0, locals := 0 } : Room) s m #[(.int p1), (.int p2), (.int p3), (.int p4)] below meth c s₁ [] 0 0 := Stand.of_body Bd
  have e0 : s₁.heap = h0 := by rw [← hh, Bd.state]; rfl
  have N0 := Fr.nil n0
  refine own_fw (A' := (s₁.setTop (mkF m 0 #[.val (.int p1), .val (.int p2), .val (.int p3), .val (.int p4)] []))) (fun t k => castTop (ef_rmPick m p1 p2 p3 p4) k) ?_
  refine own_fw (A' := (s₁.setTop (mkF m 1 #[.val (.int p1), .val (.int p2), .val (.int p3), .val (.int p4)] [(.int p1)]))) (fun t k => XS.iloadN X0.here hx rfl (hb hby d_method_4_code_0) rfl k) ?_
  refine own_fw (A' := (s₁.setTop (mkF m 2 #[.val (.int p1), .val (.int p2), .val (.int p3), .val (.int p4)] [(.int (2 : Int32)), (.int p1)]))) (fun t k => XS.iconst X0.here hx rfl (hb hby d_method_4_code_1) k) ?_
  refine own_fw (A' := (s₁.setTop (mkF m 3 #[.val (.int p1), .val (.int p2), .val (.int p3), .val (.int p4)] [(.int p2), (.int (2 : Int32)), (.int p1)]))) (fun t k => XS.iloadN X0.here hx rfl (hb hby d_method_4_code_2) rfl k) ?_
  refine own_fw (A' := (s₁.setTop (mkF m 4 #[.val (.int p1), .val (.int p2), .val (.int p3), .val (.int p4)] [(.int ((2 : Int32) + p2)), (.int p1)]))) (fun t k => XS.iadd X0.here hx rfl (hb hby d_method_4_code_3) rfl k) ?_
  refine own_fw (A' := (s₁.setTop (mkF m 5 #[.val (.int p1), .val (.int p2), .val (.int p3), .val (.int p4)] [(.int ((p1.toUInt32 >>> (((2 : Int32) + p2) &&& 31).toUInt32).toInt32))]))) (fun t k => XS.iushr X0.here hx rfl (hb hby d_method_4_code_4) rfl k) ?_
  refine own_fw (A' := (s₁.setTop (mkF m 6 #[.val (.int p1), .val (.int p2), .val (.int p3), .val (.int p4)] [(.int (1 : Int32)), (.int ((p1.toUInt32 >>> (((2 : Int32) + p2) &&& 31).toUInt32).toInt32))]))) (fun t k => XS.iconst X0.here hx rfl (hb hby d_method_4_code_5) k) ?_
  refine own_fw (A' := (s₁.setTop (mkF m 7 #[.val (.int p1), .val (.int p2), .val (.int p3), .val (.int p4)] [(.int (((p1.toUInt32 >>> (((2 : Int32) + p2) &&& 31).toUInt32).toInt32) &&& (1 : Int32)))]))) (fun t k => XS.iand X0.here hx rfl (hb hby d_method_4_code_6) rfl k) ?_
  by_cases hc1 : (((p1.toUInt32 >>> (((2 : Int32) + p2) &&& 31).toUInt32).toInt32) &&& (1 : Int32)) = (0 : Int32)
  · refine own_fw (A' := (s₁.setTop (mkF m 10 #[.val (.int p1), .val (.int p2), .val (.int p3), .val (.int p4)] []))) (fun t k => XS.ifNo X0.here hx rfl (hb hby d_method_4_code_7) rfl (XT.i0_ne_f hc1) k) ?_
    refine own_fw (A' := (s₁.setTop (mkF m 11 #[.val (.int p1), .val (.int p2), .val (.int p3), .val (.int p4)] [(.int p3)]))) (fun t k => XS.iloadN X0.here hx rfl (hb hby d_method_4_code_10) rfl k) ?_
    obtain ⟨fs, hr, hrun, hended, hW, hsame⟩ := X0.leave (v := some (.int p3)) (fun h => by rw [Bd.returns] at h; cases h)
    refine ⟨_, _, ?_, hrun, hended, _, _, rfl, ?_, ⟨_, rfl⟩, hW, hsame.mono (by decide) (by decide)⟩
    · exact retOut X0 hx Bd.returns (own_narrC h3) (Or.inl ⟨rfl, by simp, _, rfl⟩) (hb hby d_method_4_code_11) hr
    · show Q_rmPick Z p1 p2 p3 p4 h0 n0 _ s₁.heap _
      rw [e0]
      exact ⟨p3, rfl, N0, rfl, h3⟩
  · refine own_fw (A' := (s₁.setTop (mkF m 12 #[.val (.int p1), .val (.int p2), .val (.int p3), .val (.int p4)] []))) (fun t k => XS.ifYes X0.here hx rfl (pc0 := 7) (pc' := 12) rfl (hb hby d_method_4_code_7) rfl (XT.i0_ne_t hc1) (by decide) (by decide) k) ?_
    refine own_fw (A' := (s₁.setTop (mkF m 13 #[.val (.int p1), .val (.int p2), .val (.int p3), .val (.int p4)] [(.int p4)]))) (fun t k => XS.iloadN X0.here hx rfl (hb hby d_method_4_code_12) rfl k) ?_
    obtain ⟨fs, hr, hrun, hended, hW, hsame⟩ := X0.leave (v := some (.int p4)) (fun h => by rw [Bd.returns] at h; cases h)
    refine ⟨_, _, ?_, hrun, hended, _, _, rfl, ?_, ⟨_, rfl⟩, hW, hsame.mono (by decide) (by decide)⟩
    · exact retOut X0 hx Bd.returns (own_narrC h4) (Or.inl ⟨rfl, by simp, _, rfl⟩) (hb hby d_method_4_code_13) hr
    · show Q_rmPick Z p1 p2 p3 p4 h0 n0 _ s₁.heap _
      rw [e0]
      exact ⟨p4, rfl, N0, rfl, h4⟩
theorem d_method_5_code_0 : decode method_5_code 0 = .ok (.iload_n 0, 1) := by decide +kernel
theorem d_method_5_code_1 : decode method_5_code 1 = .ok (.ifCond .ne 14, 3) := by decide +kernel
theorem d_method_5_code_4 : decode method_5_code 4 = .ok (.new 38, 3) := by decide +kernel
theorem d_method_5_code_7 : decode method_5_code 7 = .ok (.dup, 1) := by decide +kernel
theorem d_method_5_code_8 : decode method_5_code 8 = .ok (.iconst 0, 1) := by decide +kernel
theorem d_method_5_code_9 : decode method_5_code 9 = .ok (.newarray .char, 2) := by decide +kernel
theorem d_method_5_code_11 : decode method_5_code 11 = .ok (.invokespecial 40, 3) := by decide +kernel
theorem pd___C_V : parseMethodDescriptor "([C)V" = some ⟨[(.array .char)], none⟩ := by decide +kernel
theorem d_method_5_code_14 : decode method_5_code 14 = .ok (.areturn, 1) := by decide +kernel
theorem d_method_5_code_15 : decode method_5_code 15 = .ok (.iload_n 0, 1) := by decide +kernel
theorem d_method_5_code_16 : decode method_5_code 16 = .ok (.iconst 1, 1) := by decide +kernel
theorem d_method_5_code_17 : decode method_5_code 17 = .ok (.if_icmp .ne 18, 3) := by decide +kernel
theorem d_method_5_code_20 : decode method_5_code 20 = .ok (.new 38, 3) := by decide +kernel
theorem d_method_5_code_23 : decode method_5_code 23 = .ok (.dup, 1) := by decide +kernel
theorem d_method_5_code_24 : decode method_5_code 24 = .ok (.iconst 1, 1) := by decide +kernel
theorem d_method_5_code_25 : decode method_5_code 25 = .ok (.newarray .char, 2) := by decide +kernel
theorem d_method_5_code_27 : decode method_5_code 27 = .ok (.dup, 1) := by decide +kernel
theorem d_method_5_code_28 : decode method_5_code 28 = .ok (.iconst 0, 1) := by decide +kernel
theorem d_method_5_code_29 : decode method_5_code 29 = .ok (.iload_n 1, 1) := by decide +kernel
theorem d_method_5_code_30 : decode method_5_code 30 = .ok (.castore, 1) := by decide +kernel
theorem d_method_5_code_31 : decode method_5_code 31 = .ok (.invokespecial 40, 3) := by decide +kernel
theorem d_method_5_code_34 : decode method_5_code 34 = .ok (.areturn, 1) := by decide +kernel
theorem d_method_5_code_35 : decode method_5_code 35 = .ok (.new 38, 3) := by decide +kernel
theorem d_method_5_code_38 : decode method_5_code 38 = .ok (.dup, 1) := by decide +kernel
theorem d_method_5_code_39 : decode method_5_code 39 = .ok (.iconst 2, 1) := by decide +kernel
theorem d_method_5_code_40 : decode method_5_code 40 = .ok (.newarray .char, 2) := by decide +kernel
theorem d_method_5_code_42 : decode method_5_code 42 = .ok (.dup, 1) := by decide +kernel
theorem d_method_5_code_43 : decode method_5_code 43 = .ok (.iconst 0, 1) := by decide +kernel
theorem d_method_5_code_44 : decode method_5_code 44 = .ok (.iload_n 1, 1) := by decide +kernel
theorem d_method_5_code_45 : decode method_5_code 45 = .ok (.castore, 1) := by decide +kernel
theorem d_method_5_code_46 : decode method_5_code 46 = .ok (.dup, 1) := by decide +kernel
theorem d_method_5_code_47 : decode method_5_code 47 = .ok (.iconst 1, 1) := by decide +kernel
theorem d_method_5_code_48 : decode method_5_code 48 = .ok (.iload_n 2, 1) := by decide +kernel
theorem d_method_5_code_49 : decode method_5_code 49 = .ok (.castore, 1) := by decide +kernel
theorem d_method_5_code_50 : decode method_5_code 50 = .ok (.invokespecial 40, 3) := by decide +kernel
theorem d_method_5_code_53 : decode method_5_code 53 = .ok (.areturn, 1) := by decide +kernel
theorem ef_rmMake (m : MethodId) (p1 : Int32) (p2 : Int32) (p3 : Int32) : entryFrame m #[(.int p1), (.int p2), (.int p3)] 3 = mkF m 0 #[.val (.int p1), .val (.int p2), .val (.int p3)] [] := by first | (simp [entryFrame, mkF, argsToLocals, Value.category]; done) | rfl
def Q_rmMake (Z : State) (p1 : Int32) (p2 : Int32) (p3 : Int32) (cs : Int32) (h0 : Heap) (n0 : Nat) (v : Option Value) (h : Heap) (L : List Loc) : Prop := ∃ b : Addr, v = some (.ref b) ∧ Fr n0 L ∧ Keep h0 h [] ∧ own_Str Z h b ((own_ch3 p1 p2 p3)) ∧ (h0.size ≤ b)
set_option maxRecDepth 65536 in
set_option maxHeartbeats 40000000 in
theorem rmMake (l : Launch) (Z : State) (a0 : Array Value) (hw : ∀ d ∈ tables_1, d.before a0 Z = true) (ws : List Jvm.Cond) (p1 : Int32) (p2 : Int32) (p3 : Int32) (cs : Int32) (h0 : Heap) (n0 : Nat) (Z0 : n0 ≤ h0.size) (P0 : Sta Z h0 "java/lang/String" "COMPACT_STRINGS" "Z" (.int cs)) (hcs : ¬ (cs = (0 : Int32))) (h2 : own_ch p2) (h3 : own_ch p3) :
    MetFree l (⟨"com/example/kodnik/kodnik/store/MappingJoinsPinLaw", "make", "(ICC)Ljava/lang/String;"⟩ : MethodName) (head1 (Jvm.Cond.code (⟨"com/example/kodnik/kodnik/store/MappingJoinsPinLaw", "make", "(ICC)Ljava/lang/String;"⟩ : MethodName) method_5_code 3 (some (.object "java/lang/String")) :: ws) ({ frames := 4, cells := 6, slots := 12, locals := 66 } : Room)) (fun a U => a = #[(.int p1), (.int p2), (.int p3)] ∧ Z.Warmed39 U.vm ∧ U.heap = h0 ∧ CHv Z own_EL U.vm h0) (fun _ _ _ _ _ => True) (fun _ U o U' => ∃ v L, o = .returned v ∧ Q_rmMake Z p1 p2 p3 cs h0 n0 v U'.heap L ∧ CHr Z own_EL U.vm U.heap U'.vm U'.heap ∧ ReturnedEndW U o U' L ({ frames := 4, cells := 6, slots := 12, locals := 66 } : Room).cells ({ frames := 4, cells := 6, slots := 12, locals := 66 } : Room).slots) := by
  refine MetFree.of_bodySF (plainFor_of_name pn_com_example_kodnik_kodnik_store_MappingJoinsPinLaw) hisR ?_
  intro p e s m args below meth c s₁ Bd hml0 hP hK
  obtain ⟨rfl, hZ, hh, hH⟩ := hP
  have hx := Bd.exec
  have hby := Bd.bytes
  have hml : c.maxLocals = 3 := hml0
  have hown : s.vm.findClass "com/example/kodnik/kodnik/store/MappingJoinsPinLaw" = some m.cls := findClass_of_methodNamed Bd.named
  have hnm := (name_of_methodNamed Bd.named Bd.method).1
  have X0 : Stand p l e ({ frames := 4, cells := 6, slots := 12, locals := 66 } : Room) (s.setVm s.vm) m #[(.int p1), (.int p2), (.int p3)] below meth c s₁ [] 0 0 := Stand.of_body Bd
  have e0 : s₁.heap = h0 := by rw [← hh, Bd.state]; rfl
  have N0 := Fr.nil n0
  refine own_fw (A' := (s₁.setTop (mkF m 0 #[.val (.int p1), .val (.int p2), .val (.int p3)] []))) (fun t k => castTop (ef_rmMake m p1 p2 p3) k) ?_
  have hS : s.Since s.vm h0.size := (State.WarmedH.refl s).since _
  have hk : h0.size ≤ h0.size := Nat.le_refl _
  have hC : CHr Z own_EL s.vm h0 s.vm h0 := CHr.refl hH
  refine own_fw (A' := (s₁.setTop (mkF m 1 #[.val (.int p1), .val (.int p2), .val (.int p3)] [(.int p1)]))) (fun t k => XS.iloadN X0.here hx rfl (hb hby d_method_5_code_0) rfl k) ?_
  by_cases hc1 : p1 = (0 : Int32)
  · refine own_fw (A' := (s₁.setTop (mkF m 4 #[.val (.int p1), .val (.int p2), .val (.int p3)] []))) (fun t k => XS.ifNo X0.here hx rfl (hb hby d_method_5_code_1) rfl (XT.i0_ne_f hc1) k) ?_
    obtain ⟨T2, h2, X2, e2, E2, A2, D2, -, st2⟩ := newO X0 hx hZ hown (hw _ (List.mem_of_getElem? (i := 10) rfl)) (hw _ (List.mem_of_getElem? (i := 11) rfl)) (hw _ (List.mem_of_getElem? (i := 12) rfl)) e0 (g := (mkF m 4 #[.val (.int p1), .val (.int p2), .val (.int p3)] [])) rfl (hb hby d_method_5_code_4) (by decide) (by decide)
    obtain ⟨b2, gb2⟩ : ∃ z, z = h0.size := ⟨_, rfl⟩
    have g_b2 : n0 ≤ b2 := Nat.le_trans Z0 (Nat.le_of_eq gb2.symm)
    have sz_b2 : h0.size ≤ b2 := Nat.le_trans (Keep.refl h0 []).1 (Nat.le_of_eq gb2.symm)
    rw [← gb2] at A2 D2 st2
    have F3 : Safe Z own_EL _ h2 b2 := (Safe.ext E2 hH (Safe.new (Nat.le_of_eq gb2.symm) : Safe Z own_EL _ h0 b2))
    have F_value_b2 : Fld Z h2 b2 "java/lang/String" "value" "[B" .null := D2 (Or.inr (hw _ (List.mem_of_getElem? (i := 26) rfl))) (ty := (.array .byte)) (by decide)
    have F_coder_b2 : Fld Z h2 b2 "java/lang/String" "coder" "B" (.int (0 : Int32)) := D2 (Or.inr (hw _ (List.mem_of_getElem? (i := 27) rfl))) (ty := .byte) (by decide)
    have K2 : Keep h0 h2 [] := (Keep.refl h0 []).ext E2
    have Z2 : n0 ≤ h2.size := Nat.le_trans Z0 E2.1
    have hk := Nat.le_trans hk E2.1
    have hC := hC.trans (CHr.ext E2 hH)
    have hH := hC.1
    refine own_fw (A' := (T2.setTop (mkF m 7 #[.val (.int p1), .val (.int p2), .val (.int p3)] [(.ref b2)]))) (fun t k => st2 _ k) ?_
    refine own_fw (A' := (T2.setTop (mkF m 8 #[.val (.int p1), .val (.int p2), .val (.int p3)] [(.ref b2), (.ref b2)]))) (fun t k => XS.dup X2.here hx rfl (hb hby d_method_5_code_7) rfl rfl k) ?_
    refine own_fw (A' := (T2.setTop (mkF m 9 #[.val (.int p1), .val (.int p2), .val (.int p3)] [(.int (0 : Int32)), (.ref b2), (.ref b2)]))) (fun t k => XS.iconst X2.here hx rfl (hb hby d_method_5_code_8) k) ?_
    obtain ⟨T4, h4, k4, X4, e4, E4, A4, st4⟩ := newP X2 hx hZ (hw _ (List.mem_of_getElem? (i := 13) rfl)) e2 (g := (mkF m 9 #[.val (.int p1), .val (.int p2), .val (.int p3)] [(.int (0 : Int32)), (.ref b2), (.ref b2)])) rfl (hb hby d_method_5_code_9) rfl (by decide) (cap := 0) (by decide) (by decide) (by decide) (by decide)
    obtain ⟨b4, gb4⟩ : ∃ z, z = h2.size := ⟨_, rfl⟩
    have g_b4 : n0 ≤ b4 := Nat.le_trans Z2 (Nat.le_of_eq gb4.symm)
    have sz_b4 : h0.size ≤ b4 := Nat.le_trans K2.1 (Nat.le_of_eq gb4.symm)
    have ne_b2_b4 : b2 ≠ b4 := Nat.ne_of_lt (Nat.lt_of_lt_of_le A2.lt (Nat.le_of_eq gb4.symm))
    rw [← gb4] at A4 st4
    have F5 : Safe Z own_EL _ h4 b2 := (Safe.ext E4 hH F3)
    have F6 : Safe Z own_EL _ h4 b4 := (Safe.ext E4 hH (Safe.new (Nat.le_of_eq gb4.symm) : Safe Z own_EL _ h2 b4))
    have V_b4 : Arv Z h4 b4 k4 .char (0 : Int32) [] (.int (0 : Int32)) := (Arv.new A4 (by decide)).pad (pad_rep [] (.int (0 : Int32)) 0)
    have K4 : Keep h0 h4 [] := K2.ext E4
    have Z4 : n0 ≤ h4.size := Nat.le_trans Z2 E4.1
    have hk := Nat.le_trans hk E4.1
    have hC := hC.trans (CHr.ext E4 hH)
    have hH := hC.1
    refine own_fw (A' := (T4.setTop (mkF m 11 #[.val (.int p1), .val (.int p2), .val (.int p3)] [(.ref b4), (.ref b2), (.ref b2)]))) (fun t k => st4 _ k) ?_
    obtain ⟨_, _, ⟨T7, L7, k7, n7⟩, -, X7, hS7, gS7, ⟨Lc7, hQ7, l7, y7, z7, r7⟩, st7⟩ := X4.specialBackS hx (y := (⟨"java/lang/String", "<init>", "([C)V"⟩ : MethodName)) rfl hown (mvT hZ (hw _ (List.mem_of_getElem? (i := 14) rfl))) (mvT hZ (hw _ (List.mem_of_getElem? (i := 15) rfl))) (mvT hZ (hw _ (List.mem_of_getElem? (i := 16) rfl))) (by decide) (backOfSH (W := 1) (rmStrA0 l Z a0 hw [] b2 b4 k4 h4 n0 Z4 (A2.ext E4) (F_coder_b2.ext E4) (F_value_b2.ext E4) V_b4 g_b2) hZ (hw _ (List.mem_of_getElem? (i := 16) rfl)) (hw _ (List.mem_of_getElem? (i := 12) rfl)) (by decide) (by decide) (own_EW hw) hH) (g := (mkF m 11 #[.val (.int p1), .val (.int p2), .val (.int p3)] [(.ref b4), (.ref b2), (.ref b2)])) rfl (by rw [hml]; rfl) (Steps.refl _) (a := b2) (argsL := [(.ref b4)]) (rest := [(.ref b2)]) (lenOf pd___C_V rfl) rfl (by show 2 * 0 + _ ≤ _; exact Nat.le_of_eq rfl) (hb hby d_method_5_code_11) (fun _ _ => ⟨rfl, e4, (by decide : 2 + 4 ≤ _), (by decide : 4 + 8 ≤ _)⟩)
    dsimp only [Pt.U, Pt.locs, Pt.cells, Pt.slots] at X7 l7 y7 z7 st7 hQ7 hS7 gS7 r7
    subst l7 y7 z7
    obtain ⟨X7, hS, hZ', hown⟩ := rebS hS (by rw [e4]; exact hk : _ ≤ T4.heap.size) X7 hS7 gS7 hZ hown
    have hk : T7.heap.size ≤ T7.heap.size := Nat.le_refl _
    obtain ⟨b_7, kb_7, rfl, Nq7, Kq7, Fq7_0, Fq7_1, Fq7_2, Fq7_3⟩ := hQ7
    have Nf7 := Fr.app N0 Nq7
    have F8 : Safe Z own_EL _ T7.heap b2 := (CHr.safe r7 (A2.ext E4).lt F5)
    have F9 : Safe Z own_EL _ T7.heap b4 := (CHr.safe r7 V_b4.lt F6)
    have hC := hC.trans r7
    have hH := hC.1
    have hZ := hZ'
    have K7 : Keep h0 T7.heap [] := K4.trans Kq7 (allS (Or.inr sz_b2) all0)
    have Z7 : n0 ≤ T7.heap.size := Nat.le_trans Z4 Kq7.1
    refine own_fw (A' := (T7.setTop (mkF m 14 #[.val (.int p1), .val (.int p2), .val (.int p3)] [(.ref b2)]))) (fun t k => st7.trans k) ?_
    obtain ⟨fs, hr, hrun, hended, hWE⟩ := X7.leaveW hS hk (v := some (.ref b2)) (fun h => by rw [Bd.returns] at h; cases h)
    have hCE : CHr Z own_EL s.vm s.heap (T7.setFrames fs).vm (T7.setFrames fs).heap := by rw [hh]; show CHr Z own_EL s.vm h0 T7.vm T7.heap; exact hC.trans (CHv.at X7 hZ (own_EW hw) hH)
    refine ⟨_, _, ?_, hrun, hended, _, _, rfl, ?_, hCE, own_widen hWE (by decide) (by decide)⟩
    · exact retOut X7 hx Bd.returns rfl (Or.inr (Or.inr (Or.inr (Or.inr ⟨rfl, rfl, rfl⟩)))) (hb hby d_method_5_code_14) hr
    · show Q_rmMake Z p1 p2 p3 cs h0 n0 _ T7.heap _
      exact ⟨b2, rfl, Nf7, K7, (by rw [show own_ch3 p1 p2 p3 = [] from by simp only [own_ch3, if_pos hc1]]; exact ⟨b_7, kb_7, Fq7_0, Fq7_1, Fq7_2, Fq7_3⟩), sz_b2⟩
  · refine own_fw (A' := (s₁.setTop (mkF m 15 #[.val (.int p1), .val (.int p2), .val (.int p3)] []))) (fun t k => XS.ifYes X0.here hx rfl (pc0 := 1) (pc' := 15) rfl (hb hby d_method_5_code_1) rfl (XT.i0_ne_t hc1) (by decide) (by decide) k) ?_
    refine own_fw (A' := (s₁.setTop (mkF m 16 #[.val (.int p1), .val (.int p2), .val (.int p3)] [(.int p1)]))) (fun t k => XS.iloadN X0.here hx rfl (hb hby d_method_5_code_15) rfl k) ?_
    refine own_fw (A' := (s₁.setTop (mkF m 17 #[.val (.int p1), .val (.int p2), .val (.int p3)] [(.int (1 : Int32)), (.int p1)]))) (fun t k => XS.iconst X0.here hx rfl (hb hby d_method_5_code_16) k) ?_
    by_cases hc10 : p1 = (1 : Int32)
    · refine own_fw (A' := (s₁.setTop (mkF m 20 #[.val (.int p1), .val (.int p2), .val (.int p3)] []))) (fun t k => XS.icmpNo X0.here hx rfl (hb hby d_method_5_code_17) rfl (XT.ii_ne_f hc10) k) ?_
      obtain ⟨T11, h11, X11, e11, E11, A11, D11, -, st11⟩ := newO X0 hx hZ hown (hw _ (List.mem_of_getElem? (i := 10) rfl)) (hw _ (List.mem_of_getElem? (i := 11) rfl)) (hw _ (List.mem_of_getElem? (i := 12) rfl)) e0 (g := (mkF m 20 #[.val (.int p1), .val (.int p2), .val (.int p3)] [])) rfl (hb hby d_method_5_code_20) (by decide) (by decide)
      obtain ⟨b11, gb11⟩ : ∃ z, z = h0.size := ⟨_, rfl⟩
      have g_b11 : n0 ≤ b11 := Nat.le_trans Z0 (Nat.le_of_eq gb11.symm)
      have sz_b11 : h0.size ≤ b11 := Nat.le_trans (Keep.refl h0 []).1 (Nat.le_of_eq gb11.symm)
      rw [← gb11] at A11 D11 st11
      have F12 : Safe Z own_EL _ h11 b11 := (Safe.ext E11 hH (Safe.new (Nat.le_of_eq gb11.symm) : Safe Z own_EL _ h0 b11))
      have F_value_b11 : Fld Z h11 b11 "java/lang/String" "value" "[B" .null := D11 (Or.inr (hw _ (List.mem_of_getElem? (i := 26) rfl))) (ty := (.array .byte)) (by decide)
      have F_coder_b11 : Fld Z h11 b11 "java/lang/String" "coder" "B" (.int (0 : Int32)) := D11 (Or.inr (hw _ (List.mem_of_getElem? (i := 27) rfl))) (ty := .byte) (by decide)
      have K11 : Keep h0 h11 [] := (Keep.refl h0 []).ext E11
      have Z11 : n0 ≤ h11.size := Nat.le_trans Z0 E11.1
      have hk := Nat.le_trans hk E11.1
      have hC := hC.trans (CHr.ext E11 hH)
      have hH := hC.1
      refine own_fw (A' := (T11.setTop (mkF m 23 #[.val (.int p1), .val (.int p2), .val (.int p3)] [(.ref b11)]))) (fun t k => st11 _ k) ?_
      refine own_fw (A' := (T11.setTop (mkF m 24 #[.val (.int p1), .val (.int p2), .val (.int p3)] [(.ref b11), (.ref b11)]))) (fun t k => XS.dup X11.here hx rfl (hb hby d_method_5_code_23) rfl rfl k) ?_
      refine own_fw (A' := (T11.setTop (mkF m 25 #[.val (.int p1), .val (.int p2), .val (.int p3)] [(.int (1 : Int32)), (.ref b11), (.ref b11)]))) (fun t k => XS.iconst X11.here hx rfl (hb hby d_method_5_code_24) k) ?_
      obtain ⟨T13, h13, k13, X13, e13, E13, A13, st13⟩ := newP X11 hx hZ (hw _ (List.mem_of_getElem? (i := 13) rfl)) e11 (g := (mkF m 25 #[.val (.int p1), .val (.int p2), .val (.int p3)] [(.int (1 : Int32)), (.ref b11), (.ref b11)])) rfl (hb hby d_method_5_code_25) rfl (by decide) (cap := 1) (by decide) (by decide) (by decide) (by decide)
      obtain ⟨b13, gb13⟩ : ∃ z, z = h11.size := ⟨_, rfl⟩
      have g_b13 : n0 ≤ b13 := Nat.le_trans Z11 (Nat.le_of_eq gb13.symm)
      have sz_b13 : h0.size ≤ b13 := Nat.le_trans K11.1 (Nat.le_of_eq gb13.symm)
      have ne_b11_b13 : b11 ≠ b13 := Nat.ne_of_lt (Nat.lt_of_lt_of_le A11.lt (Nat.le_of_eq gb13.symm))
      rw [← gb13] at A13 st13
      have F14 : Safe Z own_EL _ h13 b11 := (Safe.ext E13 hH F12)
      have F15 : Safe Z own_EL _ h13 b13 := (Safe.ext E13 hH (Safe.new (Nat.le_of_eq gb13.symm) : Safe Z own_EL _ h11 b13))
      have V_b13 : Arv Z h13 b13 k13 .char (1 : Int32) [(.int (0 : Int32))] (.int (0 : Int32)) := (Arv.new A13 (by decide)).pad (pad_rep [] (.int (0 : Int32)) 1)
      have K13 : Keep h0 h13 [] := K11.ext E13
      have Z13 : n0 ≤ h13.size := Nat.le_trans Z11 E13.1
      have hk := Nat.le_trans hk E13.1
      have hC := hC.trans (CHr.ext E13 hH)
      have hH := hC.1
      refine own_fw (A' := (T13.setTop (mkF m 27 #[.val (.int p1), .val (.int p2), .val (.int p3)] [(.ref b13), (.ref b11), (.ref b11)]))) (fun t k => st13 _ k) ?_
      refine own_fw (A' := (T13.setTop (mkF m 28 #[.val (.int p1), .val (.int p2), .val (.int p3)] [(.ref b13), (.ref b13), (.ref b11), (.ref b11)]))) (fun t k => XS.dup X13.here hx rfl (hb hby d_method_5_code_27) rfl rfl k) ?_
      refine own_fw (A' := (T13.setTop (mkF m 29 #[.val (.int p1), .val (.int p2), .val (.int p3)] [(.int (0 : Int32)), (.ref b13), (.ref b13), (.ref b11), (.ref b11)]))) (fun t k => XS.iconst X13.here hx rfl (hb hby d_method_5_code_28) k) ?_
      refine own_fw (A' := (T13.setTop (mkF m 30 #[.val (.int p1), .val (.int p2), .val (.int p3)] [(.int p2), (.int (0 : Int32)), (.ref b13), (.ref b13), (.ref b11), (.ref b11)]))) (fun t k => XS.iloadN X13.here hx rfl (hb hby d_method_5_code_29) rfl k) ?_
      obtain ⟨cl16, Ar16, q16, S16, M16, H16, G16⟩ := id V_b13
      have hin16 : ¬ ((0 : Int32) < 0 ∨ cl16.slots.size ≤ ((0 : Int32)).toNatClampNeg) := inb_of S16 ⟨by decide, by decide⟩
      obtain ⟨T16, h16, X16, e16, W16, st16⟩ := stC X13 hx hZ e13 Ar16 (j := (0 : Int32)) hin16 (g := (mkF m 30 #[.val (.int p1), .val (.int p2), .val (.int p3)] [(.int p2), (.int (0 : Int32)), (.ref b13), (.ref b13), (.ref b11), (.ref b11)])) rfl rfl (hb hby d_method_5_code_30)
      rw [(own_narCh h2)] at W16
      have V16 : Arv Z h16 b13 k13 .char (1 : Int32) [(.int p2)] (.int (0 : Int32)) := Arv.set Ar16 q16 S16 M16 H16 G16 (by have q := fits_nar_char p2; rw [own_narCh h2] at q; exact q) W16 0 rfl (Nat.le_of_ble_eq_true rfl)
      have F17 : Safe Z own_EL _ h16 b11 := (Safe.wr W16 F15 hH F14)
      have F18 : Safe Z own_EL _ h16 b13 := (Safe.wr W16 F15 hH F15)
      have Nf16 := Fr.snoc X16 N0 g_b13
      have K16 : Keep h0 h16 [] := K13.wr W16 (Or.inr sz_b13)
      have Z16 : n0 ≤ h16.size := Nat.le_trans Z13 (Keep.of_wr W16).1
      have hk := Nat.le_trans hk (Keep.of_wr W16).1
      have hC := hC.trans (CHr.wr W16 F15 hH)
      have hH := hC.1
      refine own_fw (A' := (T16.setTop (mkF m 31 #[.val (.int p1), .val (.int p2), .val (.int p3)] [(.ref b13), (.ref b11), (.ref b11)]))) (fun t k => st16 _ k) ?_
      obtain ⟨_, _, ⟨T19, L19, k19, n19⟩, -, X19, ⟨Lc19, hQ19, l19, y19, z19⟩, st19⟩ := X16.specialBack hx (y := (⟨"java/lang/String", "<init>", "([C)V"⟩ : MethodName)) rfl hown (mvT hZ (hw _ (List.mem_of_getElem? (i := 14) rfl))) (mvT hZ (hw _ (List.mem_of_getElem? (i := 15) rfl))) (mvT hZ (hw _ (List.mem_of_getElem? (i := 16) rfl))) (by decide) (backOf (W := 1) (rmStrA1 l Z a0 hw [] b11 b13 k13 cs p2 h16 n0 Z16 ((A11.ext E13).wr W16) ((F_coder_b11.ext E13).other W16 (Or.inl ne_b11_b13)) ((F_value_b11.ext E13).other W16 (Or.inl ne_b11_b13)) V16 g_b11 ne_b11_b13 (((P0.ext E11).ext E13).wr W16) hcs (own_le255 h2)) hZ (hw _ (List.mem_of_getElem? (i := 16) rfl)) (hw _ (List.mem_of_getElem? (i := 12) rfl)) (by decide) (by decide)) (g := (mkF m 31 #[.val (.int p1), .val (.int p2), .val (.int p3)] [(.ref b13), (.ref b11), (.ref b11)])) rfl (by rw [hml]; rfl) (Steps.refl _) (a := b11) (argsL := [(.ref b13)]) (rest := [(.ref b11)]) (lenOf pd___C_V rfl) rfl (by show 2 * 0 + _ ≤ _; exact Nat.le_of_eq rfl) (hb hby d_method_5_code_31) (fun _ _ => ⟨rfl, e16, (by decide : 2 + 1 ≤ _), (by decide : 5 + 1 ≤ _)⟩)
      dsimp only [Pt.U, Pt.locs, Pt.cells, Pt.slots] at X19 l19 y19 z19 st19 hQ19
      subst l19 y19 z19
      obtain ⟨b_19, kb_19, rfl, Nq19, Kq19, Fq19_0, Fq19_1, Fq19_2, Fq19_3⟩ := hQ19
      have Nf19 := Fr.app Nf16 Nq19
      have hk := Nat.le_trans hk Kq19.1
      have F20 : Safe Z own_EL _ T19.heap b11 := (Safe.keep Kq19 (sfS F17 sf0) hH F17)
      have F21 : Safe Z own_EL _ T19.heap b13 := (Safe.keep Kq19 (sfS F17 sf0) hH F18)
      have hC := hC.trans (CHr.keep Kq19 (sfS F17 sf0) hH)
      have hH := hC.1
      have K19 : Keep h0 T19.heap [] := K16.trans Kq19 (allS (Or.inr sz_b11) all0)
      have Z19 : n0 ≤ T19.heap.size := Nat.le_trans Z16 Kq19.1
      refine own_fw (A' := (T19.setTop (mkF m 34 #[.val (.int p1), .val (.int p2), .val (.int p3)] [(.ref b11)]))) (fun t k => st19.trans k) ?_
      obtain ⟨fs, hr, hrun, hended, hWE⟩ := X19.leaveW hS hk (v := some (.ref b11)) (fun h => by rw [Bd.returns] at h; cases h)
      have hCE : CHr Z own_EL s.vm s.heap (T19.setFrames fs).vm (T19.setFrames fs).heap := by rw [hh]; show CHr Z own_EL s.vm h0 T19.vm T19.heap; exact hC.trans (CHv.at X19 hZ (own_EW hw) hH)
      refine ⟨_, _, ?_, hrun, hended, _, _, rfl, ?_, hCE, own_widen hWE (by decide) (by decide)⟩
      · exact retOut X19 hx Bd.returns rfl (Or.inr (Or.inr (Or.inr (Or.inr ⟨rfl, rfl, rfl⟩)))) (hb hby d_method_5_code_34) hr
      · show Q_rmMake Z p1 p2 p3 cs h0 n0 _ T19.heap _
        exact ⟨b11, rfl, Nf19, K19, (by rw [show own_ch3 p1 p2 p3 = [p2] from by simp only [own_ch3, if_neg hc1, if_pos hc10]]; exact ⟨b_19, kb_19, Fq19_0, Fq19_1, Fq19_2, Fq19_3⟩), sz_b11⟩
    · refine own_fw (A' := (s₁.setTop (mkF m 35 #[.val (.int p1), .val (.int p2), .val (.int p3)] []))) (fun t k => XS.icmpYes X0.here hx rfl (pc0 := 17) (pc' := 35) rfl (hb hby d_method_5_code_17) rfl (XT.ii_ne_t hc10) (by decide) (by decide) k) ?_
      obtain ⟨T22, h22, X22, e22, E22, A22, D22, -, st22⟩ := newO X0 hx hZ hown (hw _ (List.mem_of_getElem? (i := 10) rfl)) (hw _ (List.mem_of_getElem? (i := 11) rfl)) (hw _ (List.mem_of_getElem? (i := 12) rfl)) e0 (g := (mkF m 35 #[.val (.int p1), .val (.int p2), .val (.int p3)] [])) rfl (hb hby d_method_5_code_35) (by decide) (by decide)
      obtain ⟨b22, gb22⟩ : ∃ z, z = h0.size := ⟨_, rfl⟩
      have g_b22 : n0 ≤ b22 := Nat.le_trans Z0 (Nat.le_of_eq gb22.symm)
      have sz_b22 : h0.size ≤ b22 := Nat.le_trans (Keep.refl h0 []).1 (Nat.le_of_eq gb22.symm)
      rw [← gb22] at A22 D22 st22
      have F23 : Safe Z own_EL _ h22 b22 := (Safe.ext E22 hH (Safe.new (Nat.le_of_eq gb22.symm) : Safe Z own_EL _ h0 b22))
      have F_value_b22 : Fld Z h22 b22 "java/lang/String" "value" "[B" .null := D22 (Or.inr (hw _ (List.mem_of_getElem? (i := 26) rfl))) (ty := (.array .byte)) (by decide)
      have F_coder_b22 : Fld Z h22 b22 "java/lang/String" "coder" "B" (.int (0 : Int32)) := D22 (Or.inr (hw _ (List.mem_of_getElem? (i := 27) rfl))) (ty := .byte) (by decide)
      have K22 : Keep h0 h22 [] := (Keep.refl h0 []).ext E22
      have Z22 : n0 ≤ h22.size := Nat.le_trans Z0 E22.1
      have hk := Nat.le_trans hk E22.1
      have hC := hC.trans (CHr.ext E22 hH)
      have hH := hC.1
      refine own_fw (A' := (T22.setTop (mkF m 38 #[.val (.int p1), .val (.int p2), .val (.int p3)] [(.ref b22)]))) (fun t k => st22 _ k) ?_
      refine own_fw (A' := (T22.setTop (mkF m 39 #[.val (.int p1), .val (.int p2), .val (.int p3)] [(.ref b22), (.ref b22)]))) (fun t k => XS.dup X22.here hx rfl (hb hby d_method_5_code_38) rfl rfl k) ?_
      refine own_fw (A' := (T22.setTop (mkF m 40 #[.val (.int p1), .val (.int p2), .val (.int p3)] [(.int (2 : Int32)), (.ref b22), (.ref b22)]))) (fun t k => XS.iconst X22.here hx rfl (hb hby d_method_5_code_39) k) ?_
      obtain ⟨T24, h24, k24, X24, e24, E24, A24, st24⟩ := newP X22 hx hZ (hw _ (List.mem_of_getElem? (i := 13) rfl)) e22 (g := (mkF m 40 #[.val (.int p1), .val (.int p2), .val (.int p3)] [(.int (2 : Int32)), (.ref b22), (.ref b22)])) rfl (hb hby d_method_5_code_40) rfl (by decide) (cap := 2) (by decide) (by decide) (by decide) (by decide)
      obtain ⟨b24, gb24⟩ : ∃ z, z = h22.size := ⟨_, rfl⟩
      have g_b24 : n0 ≤ b24 := Nat.le_trans Z22 (Nat.le_of_eq gb24.symm)
      have sz_b24 : h0.size ≤ b24 := Nat.le_trans K22.1 (Nat.le_of_eq gb24.symm)
      have ne_b22_b24 : b22 ≠ b24 := Nat.ne_of_lt (Nat.lt_of_lt_of_le A22.lt (Nat.le_of_eq gb24.symm))
      rw [← gb24] at A24 st24
      have F25 : Safe Z own_EL _ h24 b22 := (Safe.ext E24 hH F23)
      have F26 : Safe Z own_EL _ h24 b24 := (Safe.ext E24 hH (Safe.new (Nat.le_of_eq gb24.symm) : Safe Z own_EL _ h22 b24))
      have V_b24 : Arv Z h24 b24 k24 .char (2 : Int32) [(.int (0 : Int32)), (.int (0 : Int32))] (.int (0 : Int32)) := (Arv.new A24 (by decide)).pad (pad_rep [] (.int (0 : Int32)) 2)
      have K24 : Keep h0 h24 [] := K22.ext E24
      have Z24 : n0 ≤ h24.size := Nat.le_trans Z22 E24.1
      have hk := Nat.le_trans hk E24.1
      have hC := hC.trans (CHr.ext E24 hH)
      have hH := hC.1
      refine own_fw (A' := (T24.setTop (mkF m 42 #[.val (.int p1), .val (.int p2), .val (.int p3)] [(.ref b24), (.ref b22), (.ref b22)]))) (fun t k => st24 _ k) ?_
      refine own_fw (A' := (T24.setTop (mkF m 43 #[.val (.int p1), .val (.int p2), .val (.int p3)] [(.ref b24), (.ref b24), (.ref b22), (.ref b22)]))) (fun t k => XS.dup X24.here hx rfl (hb hby d_method_5_code_42) rfl rfl k) ?_
      refine own_fw (A' := (T24.setTop (mkF m 44 #[.val (.int p1), .val (.int p2), .val (.int p3)] [(.int (0 : Int32)), (.ref b24), (.ref b24), (.ref b22), (.ref b22)]))) (fun t k => XS.iconst X24.here hx rfl (hb hby d_method_5_code_43) k) ?_
      refine own_fw (A' := (T24.setTop (mkF m 45 #[.val (.int p1), .val (.int p2), .val (.int p3)] [(.int p2), (.int (0 : Int32)), (.ref b24), (.ref b24), (.ref b22), (.ref b22)]))) (fun t k => XS.iloadN X24.here hx rfl (hb hby d_method_5_code_44) rfl k) ?_
      obtain ⟨cl27, Ar27, q27, S27, M27, H27, G27⟩ := id V_b24
      have hin27 : ¬ ((0 : Int32) < 0 ∨ cl27.slots.size ≤ ((0 : Int32)).toNatClampNeg) := inb_of S27 ⟨by decide, by decide⟩
      obtain ⟨T27, h27, X27, e27, W27, st27⟩ := stC X24 hx hZ e24 Ar27 (j := (0 : Int32)) hin27 (g := (mkF m 45 #[.val (.int p1), .val (.int p2), .val (.int p3)] [(.int p2), (.int (0 : Int32)), (.ref b24), (.ref b24), (.ref b22), (.ref b22)])) rfl rfl (hb hby d_method_5_code_45)
      rw [(own_narCh h2)] at W27
      have V27 : Arv Z h27 b24 k24 .char (2 : Int32) [(.int p2), (.int (0 : Int32))] (.int (0 : Int32)) := Arv.set Ar27 q27 S27 M27 H27 G27 (by have q := fits_nar_char p2; rw [own_narCh h2] at q; exact q) W27 0 rfl (Nat.le_of_ble_eq_true rfl)
      have F28 : Safe Z own_EL _ h27 b22 := (Safe.wr W27 F26 hH F25)
      have F29 : Safe Z own_EL _ h27 b24 := (Safe.wr W27 F26 hH F26)
      have Nf27 := Fr.snoc X27 N0 g_b24
      have K27 : Keep h0 h27 [] := K24.wr W27 (Or.inr sz_b24)
      have Z27 : n0 ≤ h27.size := Nat.le_trans Z24 (Keep.of_wr W27).1
      have hk := Nat.le_trans hk (Keep.of_wr W27).1
      have hC := hC.trans (CHr.wr W27 F26 hH)
      have hH := hC.1
      refine own_fw (A' := (T27.setTop (mkF m 46 #[.val (.int p1), .val (.int p2), .val (.int p3)] [(.ref b24), (.ref b22), (.ref b22)]))) (fun t k => st27 _ k) ?_
      refine own_fw (A' := (T27.setTop (mkF m 47 #[.val (.int p1), .val (.int p2), .val (.int p3)] [(.ref b24), (.ref b24), (.ref b22), (.ref b22)]))) (fun t k => XS.dup X27.here hx rfl (hb hby d_method_5_code_46) rfl rfl k) ?_
      refine own_fw (A' := (T27.setTop (mkF m 48 #[.val (.int p1), .val (.int p2), .val (.int p3)] [(.int (1 : Int32)), (.ref b24), (.ref b24), (.ref b22), (.ref b22)]))) (fun t k => XS.iconst X27.here hx rfl (hb hby d_method_5_code_47) k) ?_
      refine own_fw (A' := (T27.setTop (mkF m 49 #[.val (.int p1), .val (.int p2), .val (.int p3)] [(.int p3), (.int (1 : Int32)), (.ref b24), (.ref b24), (.ref b22), (.ref b22)]))) (fun t k => XS.iloadN X27.here hx rfl (hb hby d_method_5_code_48) rfl k) ?_
      obtain ⟨cl30, Ar30, q30, S30, M30, H30, G30⟩ := id V27
      have hin30 : ¬ ((1 : Int32) < 0 ∨ cl30.slots.size ≤ ((1 : Int32)).toNatClampNeg) := inb_of S30 ⟨by decide, by decide⟩
      obtain ⟨T30, h30, X30, e30, W30, st30⟩ := stC X27 hx hZ e27 Ar30 (j := (1 : Int32)) hin30 (g := (mkF m 49 #[.val (.int p1), .val (.int p2), .val (.int p3)] [(.int p3), (.int (1 : Int32)), (.ref b24), (.ref b24), (.ref b22), (.ref b22)])) rfl rfl (hb hby d_method_5_code_49)
      rw [(own_narCh h3)] at W30
      have V30 : Arv Z h30 b24 k24 .char (2 : Int32) [(.int p2), (.int p3)] (.int (0 : Int32)) := Arv.set Ar30 q30 S30 M30 H30 G30 (by have q := fits_nar_char p3; rw [own_narCh h3] at q; exact q) W30 1 rfl (Nat.le_of_ble_eq_true rfl)
      have F31 : Safe Z own_EL _ h30 b22 := (Safe.wr W30 F29 hH F28)
      have F32 : Safe Z own_EL _ h30 b24 := (Safe.wr W30 F29 hH F29)
      have Nf30 := Fr.snoc X30 Nf27 g_b24
      have K30 : Keep h0 h30 [] := K27.wr W30 (Or.inr sz_b24)
      have Z30 : n0 ≤ h30.size := Nat.le_trans Z27 (Keep.of_wr W30).1
      have hk := Nat.le_trans hk (Keep.of_wr W30).1
      have hC := hC.trans (CHr.wr W30 F29 hH)
      have hH := hC.1
      refine own_fw (A' := (T30.setTop (mkF m 50 #[.val (.int p1), .val (.int p2), .val (.int p3)] [(.ref b24), (.ref b22), (.ref b22)]))) (fun t k => st30 _ k) ?_
      obtain ⟨_, _, ⟨T33, L33, k33, n33⟩, -, X33, ⟨Lc33, hQ33, l33, y33, z33⟩, st33⟩ := X30.specialBack hx (y := (⟨"java/lang/String", "<init>", "([C)V"⟩ : MethodName)) rfl hown (mvT hZ (hw _ (List.mem_of_getElem? (i := 14) rfl))) (mvT hZ (hw _ (List.mem_of_getElem? (i := 15) rfl))) (mvT hZ (hw _ (List.mem_of_getElem? (i := 16) rfl))) (by decide) (backOf (W := 1) (rmStrA2 l Z a0 hw [] b22 b24 k24 cs p2 p3 h30 n0 Z30 (((A22.ext E24).wr W27).wr W30) (((F_coder_b22.ext E24).other W27 (Or.inl ne_b22_b24)).other W30 (Or.inl ne_b22_b24)) (((F_value_b22.ext E24).other W27 (Or.inl ne_b22_b24)).other W30 (Or.inl ne_b22_b24)) V30 g_b22 ne_b22_b24 ((((P0.ext E22).ext E24).wr W27).wr W30) hcs (own_le255 h2) (own_le255 h3)) hZ (hw _ (List.mem_of_getElem? (i := 16) rfl)) (hw _ (List.mem_of_getElem? (i := 12) rfl)) (by decide) (by decide)) (g := (mkF m 50 #[.val (.int p1), .val (.int p2), .val (.int p3)] [(.ref b24), (.ref b22), (.ref b22)])) rfl (by rw [hml]; rfl) (Steps.refl _) (a := b22) (argsL := [(.ref b24)]) (rest := [(.ref b22)]) (lenOf pd___C_V rfl) rfl (by show 2 * 0 + _ ≤ _; exact Nat.le_of_eq rfl) (hb hby d_method_5_code_50) (fun _ _ => ⟨rfl, e30, (by decide : 2 + 1 ≤ _), (by decide : 6 + 2 ≤ _)⟩)
      dsimp only [Pt.U, Pt.locs, Pt.cells, Pt.slots] at X33 l33 y33 z33 st33 hQ33
      subst l33 y33 z33
      obtain ⟨b_33, kb_33, rfl, Nq33, Kq33, Fq33_0, Fq33_1, Fq33_2, Fq33_3⟩ := hQ33
      have Nf33 := Fr.app Nf30 Nq33
      have hk := Nat.le_trans hk Kq33.1
      have F34 : Safe Z own_EL _ T33.heap b22 := (Safe.keep Kq33 (sfS F31 sf0) hH F31)
      have F35 : Safe Z own_EL _ T33.heap b24 := (Safe.keep Kq33 (sfS F31 sf0) hH F32)
      have hC := hC.trans (CHr.keep Kq33 (sfS F31 sf0) hH)
      have hH := hC.1
      have K33 : Keep h0 T33.heap [] := K30.trans Kq33 (allS (Or.inr sz_b22) all0)
      have Z33 : n0 ≤ T33.heap.size := Nat.le_trans Z30 Kq33.1
      refine own_fw (A' := (T33.setTop (mkF m 53 #[.val (.int p1), .val (.int p2), .val (.int p3)] [(.ref b22)]))) (fun t k => st33.trans k) ?_
      obtain ⟨fs, hr, hrun, hended, hWE⟩ := X33.leaveW hS hk (v := some (.ref b22)) (fun h => by rw [Bd.returns] at h; cases h)
      have hCE : CHr Z own_EL s.vm s.heap (T33.setFrames fs).vm (T33.setFrames fs).heap := by rw [hh]; show CHr Z own_EL s.vm h0 T33.vm T33.heap; exact hC.trans (CHv.at X33 hZ (own_EW hw) hH)
      refine ⟨_, _, ?_, hrun, hended, _, _, rfl, ?_, hCE, own_widen hWE (by decide) (by decide)⟩
      · exact retOut X33 hx Bd.returns rfl (Or.inr (Or.inr (Or.inr (Or.inr ⟨rfl, rfl, rfl⟩)))) (hb hby d_method_5_code_53) hr
      · show Q_rmMake Z p1 p2 p3 cs h0 n0 _ T33.heap _
        exact ⟨b22, rfl, Nf33, K33, (by rw [show own_ch3 p1 p2 p3 = [p2, p3] from by simp only [own_ch3, if_neg hc1, if_neg hc10]]; exact ⟨b_33, kb_33, Fq33_0, Fq33_1, Fq33_2, Fq33_3⟩), sz_b22⟩
theorem d_method_6_code_0 : decode method_6_code 0 = .ok (.iload_n 0, 1) := by decide +kernel
theorem d_method_6_code_1 : decode method_6_code 1 = .ok (.iload_n 3, 1) := by decide +kernel
theorem d_method_6_code_2 : decode method_6_code 2 = .ok (.if_icmp .eq 5, 3) := by decide +kernel
theorem d_method_6_code_7 : decode method_6_code 7 = .ok (.iload_n 0, 1) := by decide +kernel
theorem d_method_6_code_8 : decode method_6_code 8 = .ok (.iconst 1, 1) := by decide +kernel
theorem d_method_6_code_9 : decode method_6_code 9 = .ok (.if_icmp .lt 11, 3) := by decide +kernel
theorem d_method_6_code_20 : decode method_6_code 20 = .ok (.iload_n 0, 1) := by decide +kernel
theorem d_method_6_code_21 : decode method_6_code 21 = .ok (.iconst 2, 1) := by decide +kernel
theorem d_method_6_code_22 : decode method_6_code 22 = .ok (.if_icmp .lt 11, 3) := by decide +kernel
theorem d_method_6_code_33 : decode method_6_code 33 = .ok (.iconst 1, 1) := by decide +kernel
theorem d_method_6_code_34 : decode method_6_code 34 = .ok (.ireturn, 1) := by decide +kernel
theorem d_method_6_code_25 : decode method_6_code 25 = .ok (.iload_n 2, 1) := by decide +kernel
theorem d_method_6_code_26 : decode method_6_code 26 = .ok (.iload 5, 2) := by decide +kernel
theorem d_method_6_code_28 : decode method_6_code 28 = .ok (.if_icmp .eq 5, 3) := by decide +kernel
theorem d_method_6_code_31 : decode method_6_code 31 = .ok (.iconst 0, 1) := by decide +kernel
theorem d_method_6_code_32 : decode method_6_code 32 = .ok (.ireturn, 1) := by decide +kernel
theorem d_method_6_code_12 : decode method_6_code 12 = .ok (.iload_n 1, 1) := by decide +kernel
theorem d_method_6_code_13 : decode method_6_code 13 = .ok (.iload 4, 2) := by decide +kernel
theorem d_method_6_code_15 : decode method_6_code 15 = .ok (.if_icmp .eq 5, 3) := by decide +kernel
theorem d_method_6_code_18 : decode method_6_code 18 = .ok (.iconst 0, 1) := by decide +kernel
theorem d_method_6_code_19 : decode method_6_code 19 = .ok (.ireturn, 1) := by decide +kernel
theorem d_method_6_code_5 : decode method_6_code 5 = .ok (.iconst 0, 1) := by decide +kernel
theorem d_method_6_code_6 : decode method_6_code 6 = .ok (.ireturn, 1) := by decide +kernel
theorem ef_rmE3 (m : MethodId) (p1 : Int32) (p2 : Int32) (p3 : Int32) (p4 : Int32) (p5 : Int32) (p6 : Int32) : entryFrame m #[(.int p1), (.int p2), (.int p3), (.int p4), (.int p5), (.int p6)] 6 = mkF m 0 #[.val (.int p1), .val (.int p2), .val (.int p3), .val (.int p4), .val (.int p5), .val (.int p6)] [] := by first | (simp [entryFrame, mkF, argsToLocals, Value.category]; done) | rfl
def Q_rmE3 (Z : State) (p1 : Int32) (p2 : Int32) (p3 : Int32) (p4 : Int32) (p5 : Int32) (p6 : Int32) (h0 : Heap) (n0 : Nat) (v : Option Value) (h : Heap) (L : List Loc) : Prop := v = some (.int (own_eq3 p1 p2 p3 p4 p5 p6)) ∧ Fr n0 L ∧ h = h0
set_option maxRecDepth 65536 in
set_option maxHeartbeats 40000000 in
theorem rmE3 (l : Launch) (Z : State) (a0 : Array Value) (hw : ∀ d ∈ tables_1, d.before a0 Z = true) (ws : List Jvm.Cond) (p1 : Int32) (p2 : Int32) (p3 : Int32) (p4 : Int32) (p5 : Int32) (p6 : Int32) (h0 : Heap) (n0 : Nat) (Z0 : n0 ≤ h0.size)  :
    MetFree l (⟨"com/example/kodnik/kodnik/store/MappingJoinsPinLaw", "eq", "(ICCICC)Z"⟩ : MethodName) (head1 (Jvm.Cond.code (⟨"com/example/kodnik/kodnik/store/MappingJoinsPinLaw", "eq", "(ICCICC)Z"⟩ : MethodName) method_6_code 6 (some .boolean) :: ws) ({ frames := 0, cells := 0, slots := 0, locals := 0 } : Room)) (fun a U => a = #[(.int p1), (.int p2), (.int p3), (.int p4), (.int p5), (.int p6)] ∧ Z.Warmed39 U.vm ∧ U.heap = h0) (fun _ _ _ _ _ => True) (fun _ U o U' => ∃ v L, o = .returned v ∧ Q_rmE3 Z p1 p2 p3 p4 p5 p6 h0 n0 v U'.heap L ∧ FrameEnd U o U' L ({ frames := 0, cells := 0, slots := 0, locals := 0 } : Room).cells ({ frames := 0, cells := 0, slots := 0, locals := 0 } : Room).slots) := by
  refine MetFree.of_bodySF (plainFor_of_name pn_com_example_kodnik_kodnik_store_MappingJoinsPinLaw) hisR ?_
  intro p e s m args below meth c s₁ Bd hml0 hP hK
  obtain ⟨rfl, hZ, hh⟩ := hP
  have hx := Bd.exec
  have hby := Bd.bytes
  have hml : c.maxLocals = 6 := hml0
  have hown : s.vm.findClass "com/example/kodnik/kodnik/store/MappingJoinsPinLaw" = some m.cls := findClass_of_methodNamed Bd.named
  have hnm := (name_of_methodNamed Bd.named Bd.method).1
  have X0 : Stand p l e ({ frames := 0, cells := 0, slots := 0, locals := 0 } : Room) s m #[(.int p1), (.int p2), (.int p3), (.int p4), (.int p5), (.int p6)] below meth c s₁ [] 0 0 := Stand.of_body Bd
  have e0 : s₁.heap = h0 := by rw [← hh, Bd.state]; rfl
  have N0 := Fr.nil n0
  refine own_fw (A' := (s₁.setTop (mkF m 0 #[.val (.int p1), .val (.int p2), .val (.int p3), .val (.int p4), .val (.int p5), .val (.int p6)] []))) (fun t k => castTop (ef_rmE3 m p1 p2 p3 p4 p5 p6) k) ?_
  refine own_fw (A' := (s₁.setTop (mkF m 1 #[.val (.int p1), .val (.int p2), .val (.int p3), .val (.int p4), .val (.int p5), .val (.int p6)] [(.int p1)]))) (fun t k => XS.iloadN X0.here hx rfl (hb hby d_method_6_code_0) rfl k) ?_
  refine own_fw (A' := (s₁.setTop (mkF m 2 #[.val (.int p1), .val (.int p2), .val (.int p3), .val (.int p4), .val (.int p5), .val (.int p6)] [(.int p4), (.int p1)]))) (fun t k => XS.iloadN X0.here hx rfl (hb hby d_method_6_code_1) rfl k) ?_
  by_cases hc1 : p1 = p4
  · refine own_fw (A' := (s₁.setTop (mkF m 7 #[.val (.int p1), .val (.int p2), .val (.int p3), .val (.int p4), .val (.int p5), .val (.int p6)] []))) (fun t k => XS.icmpYes X0.here hx rfl (pc0 := 2) (pc' := 7) rfl (hb hby d_method_6_code_2) rfl (XT.ii_eq_t hc1) (by decide) (by decide) k) ?_
    refine own_fw (A' := (s₁.setTop (mkF m 8 #[.val (.int p1), .val (.int p2), .val (.int p3), .val (.int p4), .val (.int p5), .val (.int p6)] [(.int p1)]))) (fun t k => XS.iloadN X0.here hx rfl (hb hby d_method_6_code_7) rfl k) ?_
    refine own_fw (A' := (s₁.setTop (mkF m 9 #[.val (.int p1), .val (.int p2), .val (.int p3), .val (.int p4), .val (.int p5), .val (.int p6)] [(.int (1 : Int32)), (.int p1)]))) (fun t k => XS.iconst X0.here hx rfl (hb hby d_method_6_code_8) k) ?_
    by_cases hc2 : p1 < (1 : Int32)
    · refine own_fw (A' := (s₁.setTop (mkF m 20 #[.val (.int p1), .val (.int p2), .val (.int p3), .val (.int p4), .val (.int p5), .val (.int p6)] []))) (fun t k => XS.icmpYes X0.here hx rfl (pc0 := 9) (pc' := 20) rfl (hb hby d_method_6_code_9) rfl (XT.ii_lt_t hc2) (by decide) (by decide) k) ?_
      refine own_fw (A' := (s₁.setTop (mkF m 21 #[.val (.int p1), .val (.int p2), .val (.int p3), .val (.int p4), .val (.int p5), .val (.int p6)] [(.int p1)]))) (fun t k => XS.iloadN X0.here hx rfl (hb hby d_method_6_code_20) rfl k) ?_
      refine own_fw (A' := (s₁.setTop (mkF m 22 #[.val (.int p1), .val (.int p2), .val (.int p3), .val (.int p4), .val (.int p5), .val (.int p6)] [(.int (2 : Int32)), (.int p1)]))) (fun t k => XS.iconst X0.here hx rfl (hb hby d_method_6_code_21) k) ?_
      by_cases hc3 : p1 < (2 : Int32)
      · refine own_fw (A' := (s₁.setTop (mkF m 33 #[.val (.int p1), .val (.int p2), .val (.int p3), .val (.int p4), .val (.int p5), .val (.int p6)] []))) (fun t k => XS.icmpYes X0.here hx rfl (pc0 := 22) (pc' := 33) rfl (hb hby d_method_6_code_22) rfl (XT.ii_lt_t hc3) (by decide) (by decide) k) ?_
        refine own_fw (A' := (s₁.setTop (mkF m 34 #[.val (.int p1), .val (.int p2), .val (.int p3), .val (.int p4), .val (.int p5), .val (.int p6)] [(.int (1 : Int32))]))) (fun t k => XS.iconst X0.here hx rfl (hb hby d_method_6_code_33) k) ?_
        obtain ⟨fs, hr, hrun, hended, hW, hsame⟩ := X0.leave (v := some (.int (1 : Int32))) (fun h => by rw [Bd.returns] at h; cases h)
        refine ⟨_, _, ?_, hrun, hended, _, _, rfl, ?_, ⟨_, rfl⟩, hW, hsame.mono (by decide) (by decide)⟩
        · exact retOut X0 hx Bd.returns rfl (Or.inl ⟨rfl, by simp, _, rfl⟩) (hb hby d_method_6_code_34) hr
        · show Q_rmE3 Z p1 p2 p3 p4 p5 p6 h0 n0 _ s₁.heap _
          rw [e0]
          exact ⟨(by simp only [own_eq3, own_tl, if_pos hc1, if_pos hc2, if_pos hc3]), N0, rfl⟩
      · refine own_fw (A' := (s₁.setTop (mkF m 25 #[.val (.int p1), .val (.int p2), .val (.int p3), .val (.int p4), .val (.int p5), .val (.int p6)] []))) (fun t k => XS.icmpNo X0.here hx rfl (hb hby d_method_6_code_22) rfl (XT.ii_lt_f hc3) k) ?_
        refine own_fw (A' := (s₁.setTop (mkF m 26 #[.val (.int p1), .val (.int p2), .val (.int p3), .val (.int p4), .val (.int p5), .val (.int p6)] [(.int p3)]))) (fun t k => XS.iloadN X0.here hx rfl (hb hby d_method_6_code_25) rfl k) ?_
        refine own_fw (A' := (s₁.setTop (mkF m 28 #[.val (.int p1), .val (.int p2), .val (.int p3), .val (.int p4), .val (.int p5), .val (.int p6)] [(.int p6), (.int p3)]))) (fun t k => XS.iload X0.here hx rfl (hb hby d_method_6_code_26) rfl k) ?_
        by_cases hc4 : p3 = p6
        · refine own_fw (A' := (s₁.setTop (mkF m 33 #[.val (.int p1), .val (.int p2), .val (.int p3), .val (.int p4), .val (.int p5), .val (.int p6)] []))) (fun t k => XS.icmpYes X0.here hx rfl (pc0 := 28) (pc' := 33) rfl (hb hby d_method_6_code_28) rfl (XT.ii_eq_t hc4) (by decide) (by decide) k) ?_
          refine own_fw (A' := (s₁.setTop (mkF m 34 #[.val (.int p1), .val (.int p2), .val (.int p3), .val (.int p4), .val (.int p5), .val (.int p6)] [(.int (1 : Int32))]))) (fun t k => XS.iconst X0.here hx rfl (hb hby d_method_6_code_33) k) ?_
          obtain ⟨fs, hr, hrun, hended, hW, hsame⟩ := X0.leave (v := some (.int (1 : Int32))) (fun h => by rw [Bd.returns] at h; cases h)
          refine ⟨_, _, ?_, hrun, hended, _, _, rfl, ?_, ⟨_, rfl⟩, hW, hsame.mono (by decide) (by decide)⟩
          · exact retOut X0 hx Bd.returns rfl (Or.inl ⟨rfl, by simp, _, rfl⟩) (hb hby d_method_6_code_34) hr
          · show Q_rmE3 Z p1 p2 p3 p4 p5 p6 h0 n0 _ s₁.heap _
            rw [e0]
            exact ⟨(by simp only [own_eq3, own_tl, if_pos hc1, if_pos hc2, if_neg hc3, if_pos hc4]), N0, rfl⟩
        · refine own_fw (A' := (s₁.setTop (mkF m 31 #[.val (.int p1), .val (.int p2), .val (.int p3), .val (.int p4), .val (.int p5), .val (.int p6)] []))) (fun t k => XS.icmpNo X0.here hx rfl (hb hby d_method_6_code_28) rfl (XT.ii_eq_f hc4) k) ?_
          refine own_fw (A' := (s₁.setTop (mkF m 32 #[.val (.int p1), .val (.int p2), .val (.int p3), .val (.int p4), .val (.int p5), .val (.int p6)] [(.int (0 : Int32))]))) (fun t k => XS.iconst X0.here hx rfl (hb hby d_method_6_code_31) k) ?_
          obtain ⟨fs, hr, hrun, hended, hW, hsame⟩ := X0.leave (v := some (.int (0 : Int32))) (fun h => by rw [Bd.returns] at h; cases h)
          refine ⟨_, _, ?_, hrun, hended, _, _, rfl, ?_, ⟨_, rfl⟩, hW, hsame.mono (by decide) (by decide)⟩
          · exact retOut X0 hx Bd.returns rfl (Or.inl ⟨rfl, by simp, _, rfl⟩) (hb hby d_method_6_code_32) hr
          · show Q_rmE3 Z p1 p2 p3 p4 p5 p6 h0 n0 _ s₁.heap _
            rw [e0]
            exact ⟨(by simp only [own_eq3, own_tl, if_pos hc1, if_pos hc2, if_neg hc3, if_neg hc4]), N0, rfl⟩
    · refine own_fw (A' := (s₁.setTop (mkF m 12 #[.val (.int p1), .val (.int p2), .val (.int p3), .val (.int p4), .val (.int p5), .val (.int p6)] []))) (fun t k => XS.icmpNo X0.here hx rfl (hb hby d_method_6_code_9) rfl (XT.ii_lt_f hc2) k) ?_
      refine own_fw (A' := (s₁.setTop (mkF m 13 #[.val (.int p1), .val (.int p2), .val (.int p3), .val (.int p4), .val (.int p5), .val (.int p6)] [(.int p2)]))) (fun t k => XS.iloadN X0.here hx rfl (hb hby d_method_6_code_12) rfl k) ?_
      refine own_fw (A' := (s₁.setTop (mkF m 15 #[.val (.int p1), .val (.int p2), .val (.int p3), .val (.int p4), .val (.int p5), .val (.int p6)] [(.int p5), (.int p2)]))) (fun t k => XS.iload X0.here hx rfl (hb hby d_method_6_code_13) rfl k) ?_
      by_cases hc5 : p2 = p5
      · refine own_fw (A' := (s₁.setTop (mkF m 20 #[.val (.int p1), .val (.int p2), .val (.int p3), .val (.int p4), .val (.int p5), .val (.int p6)] []))) (fun t k => XS.icmpYes X0.here hx rfl (pc0 := 15) (pc' := 20) rfl (hb hby d_method_6_code_15) rfl (XT.ii_eq_t hc5) (by decide) (by decide) k) ?_
        refine own_fw (A' := (s₁.setTop (mkF m 21 #[.val (.int p1), .val (.int p2), .val (.int p3), .val (.int p4), .val (.int p5), .val (.int p6)] [(.int p1)]))) (fun t k => XS.iloadN X0.here hx rfl (hb hby d_method_6_code_20) rfl k) ?_
        refine own_fw (A' := (s₁.setTop (mkF m 22 #[.val (.int p1), .val (.int p2), .val (.int p3), .val (.int p4), .val (.int p5), .val (.int p6)] [(.int (2 : Int32)), (.int p1)]))) (fun t k => XS.iconst X0.here hx rfl (hb hby d_method_6_code_21) k) ?_
        by_cases hc6 : p1 < (2 : Int32)
        · refine own_fw (A' := (s₁.setTop (mkF m 33 #[.val (.int p1), .val (.int p2), .val (.int p3), .val (.int p4), .val (.int p5), .val (.int p6)] []))) (fun t k => XS.icmpYes X0.here hx rfl (pc0 := 22) (pc' := 33) rfl (hb hby d_method_6_code_22) rfl (XT.ii_lt_t hc6) (by decide) (by decide) k) ?_
          refine own_fw (A' := (s₁.setTop (mkF m 34 #[.val (.int p1), .val (.int p2), .val (.int p3), .val (.int p4), .val (.int p5), .val (.int p6)] [(.int (1 : Int32))]))) (fun t k => XS.iconst X0.here hx rfl (hb hby d_method_6_code_33) k) ?_
          obtain ⟨fs, hr, hrun, hended, hW, hsame⟩ := X0.leave (v := some (.int (1 : Int32))) (fun h => by rw [Bd.returns] at h; cases h)
          refine ⟨_, _, ?_, hrun, hended, _, _, rfl, ?_, ⟨_, rfl⟩, hW, hsame.mono (by decide) (by decide)⟩
          · exact retOut X0 hx Bd.returns rfl (Or.inl ⟨rfl, by simp, _, rfl⟩) (hb hby d_method_6_code_34) hr
          · show Q_rmE3 Z p1 p2 p3 p4 p5 p6 h0 n0 _ s₁.heap _
            rw [e0]
            exact ⟨(by simp only [own_eq3, own_tl, if_pos hc1, if_neg hc2, if_pos hc5, if_pos hc6]), N0, rfl⟩
        · refine own_fw (A' := (s₁.setTop (mkF m 25 #[.val (.int p1), .val (.int p2), .val (.int p3), .val (.int p4), .val (.int p5), .val (.int p6)] []))) (fun t k => XS.icmpNo X0.here hx rfl (hb hby d_method_6_code_22) rfl (XT.ii_lt_f hc6) k) ?_
          refine own_fw (A' := (s₁.setTop (mkF m 26 #[.val (.int p1), .val (.int p2), .val (.int p3), .val (.int p4), .val (.int p5), .val (.int p6)] [(.int p3)]))) (fun t k => XS.iloadN X0.here hx rfl (hb hby d_method_6_code_25) rfl k) ?_
          refine own_fw (A' := (s₁.setTop (mkF m 28 #[.val (.int p1), .val (.int p2), .val (.int p3), .val (.int p4), .val (.int p5), .val (.int p6)] [(.int p6), (.int p3)]))) (fun t k => XS.iload X0.here hx rfl (hb hby d_method_6_code_26) rfl k) ?_
          by_cases hc7 : p3 = p6
          · refine own_fw (A' := (s₁.setTop (mkF m 33 #[.val (.int p1), .val (.int p2), .val (.int p3), .val (.int p4), .val (.int p5), .val (.int p6)] []))) (fun t k => XS.icmpYes X0.here hx rfl (pc0 := 28) (pc' := 33) rfl (hb hby d_method_6_code_28) rfl (XT.ii_eq_t hc7) (by decide) (by decide) k) ?_
            refine own_fw (A' := (s₁.setTop (mkF m 34 #[.val (.int p1), .val (.int p2), .val (.int p3), .val (.int p4), .val (.int p5), .val (.int p6)] [(.int (1 : Int32))]))) (fun t k => XS.iconst X0.here hx rfl (hb hby d_method_6_code_33) k) ?_
            obtain ⟨fs, hr, hrun, hended, hW, hsame⟩ := X0.leave (v := some (.int (1 : Int32))) (fun h => by rw [Bd.returns] at h; cases h)
            refine ⟨_, _, ?_, hrun, hended, _, _, rfl, ?_, ⟨_, rfl⟩, hW, hsame.mono (by decide) (by decide)⟩
            · exact retOut X0 hx Bd.returns rfl (Or.inl ⟨rfl, by simp, _, rfl⟩) (hb hby d_method_6_code_34) hr
            · show Q_rmE3 Z p1 p2 p3 p4 p5 p6 h0 n0 _ s₁.heap _
              rw [e0]
              exact ⟨(by simp only [own_eq3, own_tl, if_pos hc1, if_neg hc2, if_pos hc5, if_neg hc6, if_pos hc7]), N0, rfl⟩
          · refine own_fw (A' := (s₁.setTop (mkF m 31 #[.val (.int p1), .val (.int p2), .val (.int p3), .val (.int p4), .val (.int p5), .val (.int p6)] []))) (fun t k => XS.icmpNo X0.here hx rfl (hb hby d_method_6_code_28) rfl (XT.ii_eq_f hc7) k) ?_
            refine own_fw (A' := (s₁.setTop (mkF m 32 #[.val (.int p1), .val (.int p2), .val (.int p3), .val (.int p4), .val (.int p5), .val (.int p6)] [(.int (0 : Int32))]))) (fun t k => XS.iconst X0.here hx rfl (hb hby d_method_6_code_31) k) ?_
            obtain ⟨fs, hr, hrun, hended, hW, hsame⟩ := X0.leave (v := some (.int (0 : Int32))) (fun h => by rw [Bd.returns] at h; cases h)
            refine ⟨_, _, ?_, hrun, hended, _, _, rfl, ?_, ⟨_, rfl⟩, hW, hsame.mono (by decide) (by decide)⟩
            · exact retOut X0 hx Bd.returns rfl (Or.inl ⟨rfl, by simp, _, rfl⟩) (hb hby d_method_6_code_32) hr
            · show Q_rmE3 Z p1 p2 p3 p4 p5 p6 h0 n0 _ s₁.heap _
              rw [e0]
              exact ⟨(by simp only [own_eq3, own_tl, if_pos hc1, if_neg hc2, if_pos hc5, if_neg hc6, if_neg hc7]), N0, rfl⟩
      · refine own_fw (A' := (s₁.setTop (mkF m 18 #[.val (.int p1), .val (.int p2), .val (.int p3), .val (.int p4), .val (.int p5), .val (.int p6)] []))) (fun t k => XS.icmpNo X0.here hx rfl (hb hby d_method_6_code_15) rfl (XT.ii_eq_f hc5) k) ?_
        refine own_fw (A' := (s₁.setTop (mkF m 19 #[.val (.int p1), .val (.int p2), .val (.int p3), .val (.int p4), .val (.int p5), .val (.int p6)] [(.int (0 : Int32))]))) (fun t k => XS.iconst X0.here hx rfl (hb hby d_method_6_code_18) k) ?_
        obtain ⟨fs, hr, hrun, hended, hW, hsame⟩ := X0.leave (v := some (.int (0 : Int32))) (fun h => by rw [Bd.returns] at h; cases h)
        refine ⟨_, _, ?_, hrun, hended, _, _, rfl, ?_, ⟨_, rfl⟩, hW, hsame.mono (by decide) (by decide)⟩
        · exact retOut X0 hx Bd.returns rfl (Or.inl ⟨rfl, by simp, _, rfl⟩) (hb hby d_method_6_code_19) hr
        · show Q_rmE3 Z p1 p2 p3 p4 p5 p6 h0 n0 _ s₁.heap _
          rw [e0]
          exact ⟨(by simp only [own_eq3, own_tl, if_pos hc1, if_neg hc2, if_neg hc5]), N0, rfl⟩
  · refine own_fw (A' := (s₁.setTop (mkF m 5 #[.val (.int p1), .val (.int p2), .val (.int p3), .val (.int p4), .val (.int p5), .val (.int p6)] []))) (fun t k => XS.icmpNo X0.here hx rfl (hb hby d_method_6_code_2) rfl (XT.ii_eq_f hc1) k) ?_
    refine own_fw (A' := (s₁.setTop (mkF m 6 #[.val (.int p1), .val (.int p2), .val (.int p3), .val (.int p4), .val (.int p5), .val (.int p6)] [(.int (0 : Int32))]))) (fun t k => XS.iconst X0.here hx rfl (hb hby d_method_6_code_5) k) ?_
    obtain ⟨fs, hr, hrun, hended, hW, hsame⟩ := X0.leave (v := some (.int (0 : Int32))) (fun h => by rw [Bd.returns] at h; cases h)
    refine ⟨_, _, ?_, hrun, hended, _, _, rfl, ?_, ⟨_, rfl⟩, hW, hsame.mono (by decide) (by decide)⟩
    · exact retOut X0 hx Bd.returns rfl (Or.inl ⟨rfl, by simp, _, rfl⟩) (hb hby d_method_6_code_6) hr
    · show Q_rmE3 Z p1 p2 p3 p4 p5 p6 h0 n0 _ s₁.heap _
      rw [e0]
      exact ⟨(by simp only [own_eq3, own_tl, if_neg hc1]), N0, rfl⟩
theorem pn_java_lang_Record : plainName "java/lang/Record" = true := by first | (simp [plainName, overriddenIn]; done) | decide +kernel
theorem d_jdk_30_method_1_code_0 : decode jdk_30_method_1_code 0 = .ok (.aload_n 0, 1) := by decide +kernel
theorem d_jdk_30_method_1_code_1 : decode jdk_30_method_1_code 1 = .ok (.invokespecial 1, 3) := by decide +kernel
theorem d_jdk_30_method_1_code_4 : decode jdk_30_method_1_code 4 = .ok (.return_, 1) := by decide +kernel
theorem ef_rmRecord (m : MethodId) (a1 : Addr) : entryFrame m #[(.ref a1)] 1 = mkF m 0 #[.val (.ref a1)] [] := by first | (simp [entryFrame, mkF, argsToLocals, Value.category]; done) | rfl
def Q_rmRecord (Z : State) (a1 : Addr) (h0 : Heap) (n0 : Nat) (v : Option Value) (h : Heap) (L : List Loc) : Prop := v = none ∧ Fr n0 L ∧ h = h0
set_option maxRecDepth 65536 in
set_option maxHeartbeats 40000000 in
theorem rmRecord (l : Launch) (Z : State) (a0 : Array Value) (hw : ∀ d ∈ tables_1, d.before a0 Z = true) (ws : List Jvm.Cond) (a1 : Addr) (h0 : Heap) (n0 : Nat) (Z0 : n0 ≤ h0.size)  :
    MetFree l (⟨"java/lang/Record", "<init>", "()V"⟩ : MethodName) (head1 (Jvm.Cond.code (⟨"java/lang/Record", "<init>", "()V"⟩ : MethodName) jdk_30_method_1_code 1 none :: ws) ({ frames := 1, cells := 0, slots := 0, locals := 12 } : Room)) (fun a U => a = #[(.ref a1)] ∧ Z.Warmed39 U.vm ∧ U.heap = h0) (fun _ _ _ _ _ => True) (fun _ U o U' => ∃ v L, o = .returned v ∧ Q_rmRecord Z a1 h0 n0 v U'.heap L ∧ FrameEnd U o U' L ({ frames := 1, cells := 0, slots := 0, locals := 12 } : Room).cells ({ frames := 1, cells := 0, slots := 0, locals := 12 } : Room).slots) := by
  refine MetFree.of_bodySF (plainFor_of_name pn_java_lang_Record) hisR ?_
  intro p e s m args below meth c s₁ Bd hml0 hP hK
  obtain ⟨rfl, hZ, hh⟩ := hP
  have hx := Bd.exec
  have hby := Bd.bytes
  have hml : c.maxLocals = 1 := hml0
  have hown : s.vm.findClass "java/lang/Record" = some m.cls := findClass_of_methodNamed Bd.named
  have hnm := (name_of_methodNamed Bd.named Bd.method).1
  have X0 : Stand p l e ({ frames := 1, cells := 0, slots := 0, locals := 12 } : Room) s m #[(.ref a1)] below meth c s₁ [] 0 0 := Stand.of_body Bd
  have e0 : s₁.heap = h0 := by rw [← hh, Bd.state]; rfl
  have N0 := Fr.nil n0
  refine own_fw (A' := (s₁.setTop (mkF m 0 #[.val (.ref a1)] []))) (fun t k => castTop (ef_rmRecord m a1) k) ?_
  refine own_fw (A' := (s₁.setTop (mkF m 1 #[.val (.ref a1)] [(.ref a1)]))) (fun t k => XS.aloadN X0.here hx rfl (hb hby d_jdk_30_method_1_code_0) rfl rfl k) ?_
  obtain ⟨T1, X1, e1, st1⟩ := initO X0 hx hZ hown (hw _ (List.mem_of_getElem? (i := 56) rfl)) (hw _ (List.mem_of_getElem? (i := 22) rfl)) (hw _ (List.mem_of_getElem? (i := 23) rfl)) e0 (g := (mkF m 1 #[.val (.ref a1)] [(.ref a1)])) rfl (by rw [hml]; rfl) rfl (hb hby d_jdk_30_method_1_code_1) (by decide) (W := 0) (by show 2 * 0 + _ ≤ _; exact Nat.le_of_eq rfl) (by decide)
  refine own_fw (A' := (T1.setTop (mkF m 4 #[.val (.ref a1)] []))) (fun t k => st1 _ k) ?_
  obtain ⟨fs, hr, hrun, hended, hW, hsame⟩ := X1.leave (v := none) (fun _ => rfl)
  refine ⟨_, _, ?_, hrun, hended, _, _, rfl, ?_, ⟨_, rfl⟩, hW, hsame.mono (by decide) (by decide)⟩
  · exact X1.returnOut hx Bd.returns (hb hby d_jdk_30_method_1_code_4) hr
  · show Q_rmRecord Z a1 h0 n0 _ T1.heap _
    rw [e1]
    exact ⟨rfl, N0, rfl⟩
theorem pn_com_example_kodnik_kodnik_store_Mapping : plainName "com/example/kodnik/kodnik/store/Mapping" = true := by first | (simp [plainName, overriddenIn]; done) | decide +kernel
theorem d_prog_44_method_1_code_0 : decode prog_44_method_1_code 0 = .ok (.aload_n 0, 1) := by decide +kernel
theorem d_prog_44_method_1_code_1 : decode prog_44_method_1_code 1 = .ok (.invokespecial 1, 3) := by decide +kernel
theorem pd___V : parseMethodDescriptor "()V" = some ⟨[], none⟩ := by decide +kernel
theorem d_prog_44_method_1_code_4 : decode prog_44_method_1_code 4 = .ok (.aload_n 0, 1) := by decide +kernel
theorem d_prog_44_method_1_code_5 : decode prog_44_method_1_code 5 = .ok (.aload_n 1, 1) := by decide +kernel
theorem d_prog_44_method_1_code_6 : decode prog_44_method_1_code 6 = .ok (.putfield 7, 3) := by decide +kernel
theorem d_prog_44_method_1_code_9 : decode prog_44_method_1_code 9 = .ok (.aload_n 0, 1) := by decide +kernel
theorem d_prog_44_method_1_code_10 : decode prog_44_method_1_code 10 = .ok (.aload_n 2, 1) := by decide +kernel
theorem d_prog_44_method_1_code_11 : decode prog_44_method_1_code 11 = .ok (.putfield 13, 3) := by decide +kernel
theorem d_prog_44_method_1_code_14 : decode prog_44_method_1_code 14 = .ok (.aload_n 0, 1) := by decide +kernel
theorem d_prog_44_method_1_code_15 : decode prog_44_method_1_code 15 = .ok (.aload_n 3, 1) := by decide +kernel
theorem d_prog_44_method_1_code_16 : decode prog_44_method_1_code 16 = .ok (.putfield 16, 3) := by decide +kernel
theorem d_prog_44_method_1_code_19 : decode prog_44_method_1_code 19 = .ok (.aload_n 0, 1) := by decide +kernel
theorem d_prog_44_method_1_code_20 : decode prog_44_method_1_code 20 = .ok (.aload 4, 2) := by decide +kernel
theorem d_prog_44_method_1_code_22 : decode prog_44_method_1_code 22 = .ok (.putfield 19, 3) := by decide +kernel
theorem d_prog_44_method_1_code_25 : decode prog_44_method_1_code 25 = .ok (.return_, 1) := by decide +kernel
theorem ef_rmMap (m : MethodId) (a1 : Addr) (a2 : Addr) (a3 : Addr) (a4 : Addr) (a5 : Addr) : entryFrame m #[(.ref a1), (.ref a2), (.ref a3), (.ref a4), (.ref a5)] 5 = mkF m 0 #[.val (.ref a1), .val (.ref a2), .val (.ref a3), .val (.ref a4), .val (.ref a5)] [] := by first | (simp [entryFrame, mkF, argsToLocals, Value.category]; done) | rfl
def Q_rmMap (Z : State) (a1 : Addr) (a2 : Addr) (a3 : Addr) (a4 : Addr) (a5 : Addr) (h0 : Heap) (n0 : Nat) (v : Option Value) (h : Heap) (L : List Loc) : Prop := v = none ∧ Fr n0 L ∧ Keep h0 h [a1] ∧ Exa Z h a1 "com/example/kodnik/kodnik/store/Mapping" ∧ Fld Z h a1 "com/example/kodnik/kodnik/store/Mapping" "sourceSystem" "Ljava/lang/String;" (.ref a2) ∧ Fld Z h a1 "com/example/kodnik/kodnik/store/Mapping" "sourceColumn" "Ljava/lang/String;" (.ref a3) ∧ Fld Z h a1 "com/example/kodnik/kodnik/store/Mapping" "targetSystem" "Ljava/lang/String;" (.ref a4) ∧ Fld Z h a1 "com/example/kodnik/kodnik/store/Mapping" "targetColumn" "Ljava/lang/String;" (.ref a5)
set_option maxRecDepth 65536 in
set_option maxHeartbeats 40000000 in
theorem rmMap (l : Launch) (Z : State) (a0 : Array Value) (hw : ∀ d ∈ tables_1, d.before a0 Z = true) (ws : List Jvm.Cond) (a1 : Addr) (a2 : Addr) (a3 : Addr) (a4 : Addr) (a5 : Addr) (h0 : Heap) (n0 : Nat) (Z0 : n0 ≤ h0.size) (P0 : Exa Z h0 a1 "com/example/kodnik/kodnik/store/Mapping") (P1 : Fld Z h0 a1 "com/example/kodnik/kodnik/store/Mapping" "sourceSystem" "Ljava/lang/String;" .null) (P2 : Fld Z h0 a1 "com/example/kodnik/kodnik/store/Mapping" "sourceColumn" "Ljava/lang/String;" .null) (P3 : Fld Z h0 a1 "com/example/kodnik/kodnik/store/Mapping" "targetSystem" "Ljava/lang/String;" .null) (P4 : Fld Z h0 a1 "com/example/kodnik/kodnik/store/Mapping" "targetColumn" "Ljava/lang/String;" .null) (g_a1 : n0 ≤ a1) :
    MetFree l (⟨"com/example/kodnik/kodnik/store/Mapping", "<init>", "(Ljava/lang/String;Ljava/lang/String;Ljava/lang/String;Ljava/lang/String;)V"⟩ : MethodName) (head1 (Jvm.Cond.code (⟨"com/example/kodnik/kodnik/store/Mapping", "<init>", "(Ljava/lang/String;Ljava/lang/String;Ljava/lang/String;Ljava/lang/String;)V"⟩ : MethodName) prog_44_method_1_code 5 none :: ws) ({ frames := 2, cells := 0, slots := 0, locals := 24 } : Room)) (fun a U => a = #[(.ref a1), (.ref a2), (.ref a3), (.ref a4), (.ref a5)] ∧ Z.Warmed39 U.vm ∧ U.heap = h0) (fun _ _ _ _ _ => True) (fun _ U o U' => ∃ v L, o = .returned v ∧ Q_rmMap Z a1 a2 a3 a4 a5 h0 n0 v U'.heap L ∧ FrameEnd U o U' L ({ frames := 2, cells := 0, slots := 0, locals := 24 } : Room).cells ({ frames := 2, cells := 0, slots := 0, locals := 24 } : Room).slots) := by
  refine MetFree.of_bodySF (plainFor_of_name pn_com_example_kodnik_kodnik_store_Mapping) hisR ?_
  intro p e s m args below meth c s₁ Bd hml0 hP hK
  obtain ⟨rfl, hZ, hh⟩ := hP
  have hx := Bd.exec
  have hby := Bd.bytes
  have hml : c.maxLocals = 5 := hml0
  have hown : s.vm.findClass "com/example/kodnik/kodnik/store/Mapping" = some m.cls := findClass_of_methodNamed Bd.named
  have hnm := (name_of_methodNamed Bd.named Bd.method).1
  have X0 : Stand p l e ({ frames := 2, cells := 0, slots := 0, locals := 24 } : Room) s m #[(.ref a1), (.ref a2), (.ref a3), (.ref a4), (.ref a5)] below meth c s₁ [] 0 0 := Stand.of_body Bd
  have e0 : s₁.heap = h0 := by rw [← hh, Bd.state]; rfl
  have N0 := Fr.nil n0
  refine own_fw (A' := (s₁.setTop (mkF m 0 #[.val (.ref a1), .val (.ref a2), .val (.ref a3), .val (.ref a4), .val (.ref a5)] []))) (fun t k => castTop (ef_rmMap m a1 a2 a3 a4 a5) k) ?_
  refine own_fw (A' := (s₁.setTop (mkF m 1 #[.val (.ref a1), .val (.ref a2), .val (.ref a3), .val (.ref a4), .val (.ref a5)] [(.ref a1)]))) (fun t k => XS.aloadN X0.here hx rfl (hb hby d_prog_44_method_1_code_0) rfl rfl k) ?_
  obtain ⟨_, _, ⟨T1, L1, k1, n1⟩, -, X1, ⟨Lc1, hQ1, l1, y1, z1⟩, st1⟩ := X0.specialBack hx (y := (⟨"java/lang/Record", "<init>", "()V"⟩ : MethodName)) rfl hown (mvT hZ (hw _ (List.mem_of_getElem? (i := 51) rfl))) (mvT hZ (hw _ (List.mem_of_getElem? (i := 52) rfl))) (mvT hZ (hw _ (List.mem_of_getElem? (i := 55) rfl))) (by decide) (backOf (W := 0) (rmRecord l Z a0 hw [] a1 h0 n0 Z0 ) hZ (hw _ (List.mem_of_getElem? (i := 55) rfl)) (hw _ (List.mem_of_getElem? (i := 54) rfl)) (by decide) (by decide)) (g := (mkF m 1 #[.val (.ref a1), .val (.ref a2), .val (.ref a3), .val (.ref a4), .val (.ref a5)] [(.ref a1)])) rfl (by rw [hml]; rfl) (Steps.refl _) (a := a1) (argsL := []) (rest := []) (lenOf pd___V rfl) rfl (by show 2 * 0 + _ ≤ _; exact Nat.le_of_eq rfl) (hb hby d_prog_44_method_1_code_1) (fun _ _ => ⟨rfl, e0, (by decide : 0 + 0 ≤ _), (by decide : 0 + 0 ≤ _)⟩)
  dsimp only [Pt.U, Pt.locs, Pt.cells, Pt.slots] at X1 l1 y1 z1 st1 hQ1
  subst l1 y1 z1
  obtain ⟨rfl, Nq1, e1⟩ := hQ1
  have Nf1 := Fr.app N0 Nq1
  refine own_fw (A' := (T1.setTop (mkF m 4 #[.val (.ref a1), .val (.ref a2), .val (.ref a3), .val (.ref a4), .val (.ref a5)] []))) (fun t k => st1.trans k) ?_
  refine own_fw (A' := (T1.setTop (mkF m 5 #[.val (.ref a1), .val (.ref a2), .val (.ref a3), .val (.ref a4), .val (.ref a5)] [(.ref a1)]))) (fun t k => XS.aloadN X1.here hx rfl (hb hby d_prog_44_method_1_code_4) rfl rfl k) ?_
  refine own_fw (A' := (T1.setTop (mkF m 6 #[.val (.ref a1), .val (.ref a2), .val (.ref a3), .val (.ref a4), .val (.ref a5)] [(.ref a2), (.ref a1)]))) (fun t k => XS.aloadN X1.here hx rfl (hb hby d_prog_44_method_1_code_5) rfl rfl k) ?_
  obtain ⟨T2, h2, X2, e2, W2, st2⟩ := putF X1 hx hZ hown (host := "") (Or.inl (hw _ (List.mem_of_getElem? (i := 57) rfl))) Via.refl e1 P1 P0 (Or.inr ⟨(hw _ (List.mem_of_getElem? (i := 58) rfl)), rfl, hnm⟩) (hw _ (List.mem_of_getElem? (i := 44) rfl)) (ty := (.object "java/lang/String")) (by decide) rfl rfl (g := (mkF m 6 #[.val (.ref a1), .val (.ref a2), .val (.ref a3), .val (.ref a4), .val (.ref a5)] [(.ref a2), (.ref a1)])) rfl rfl (hb hby d_prog_44_method_1_code_6)
  have Fw2 : Fld Z h2 a1 "com/example/kodnik/kodnik/store/Mapping" "sourceSystem" "Ljava/lang/String;" (.ref a2) := P1.same W2
  have Nf2 := Fr.snoc X2 Nf1 g_a1
  have K2 : Keep h0 h2 [a1] := (Keep.refl h0 [a1]).wr W2 (Or.inl (List.mem_of_getElem? (i := 0) rfl))
  have Z2 : n0 ≤ h2.size := Nat.le_trans Z0 (Keep.of_wr W2).1
  refine own_fw (A' := (T2.setTop (mkF m 9 #[.val (.ref a1), .val (.ref a2), .val (.ref a3), .val (.ref a4), .val (.ref a5)] []))) (fun t k => st2 _ k) ?_
  refine own_fw (A' := (T2.setTop (mkF m 10 #[.val (.ref a1), .val (.ref a2), .val (.ref a3), .val (.ref a4), .val (.ref a5)] [(.ref a1)]))) (fun t k => XS.aloadN X2.here hx rfl (hb hby d_prog_44_method_1_code_9) rfl rfl k) ?_
  refine own_fw (A' := (T2.setTop (mkF m 11 #[.val (.ref a1), .val (.ref a2), .val (.ref a3), .val (.ref a4), .val (.ref a5)] [(.ref a3), (.ref a1)]))) (fun t k => XS.aloadN X2.here hx rfl (hb hby d_prog_44_method_1_code_10) rfl rfl k) ?_
  obtain ⟨T3, h3, X3, e3, W3, st3⟩ := putF X2 hx hZ hown (host := "") (Or.inl (hw _ (List.mem_of_getElem? (i := 59) rfl))) Via.refl e2 (P2.other W2 (Or.inr (slot_ne (Or.inr (hw _ (List.mem_of_getElem? (i := 60) rfl))) (Or.inr (hw _ (List.mem_of_getElem? (i := 58) rfl))) (by decide) (t := (.object "java/lang/String")) (t' := (.object "java/lang/String")) (by decide) (by decide)))) (P0.wr W2) (Or.inr ⟨(hw _ (List.mem_of_getElem? (i := 60) rfl)), rfl, hnm⟩) (hw _ (List.mem_of_getElem? (i := 44) rfl)) (ty := (.object "java/lang/String")) (by decide) rfl rfl (g := (mkF m 11 #[.val (.ref a1), .val (.ref a2), .val (.ref a3), .val (.ref a4), .val (.ref a5)] [(.ref a3), (.ref a1)])) rfl rfl (hb hby d_prog_44_method_1_code_11)
  have Fw3 : Fld Z h3 a1 "com/example/kodnik/kodnik/store/Mapping" "sourceColumn" "Ljava/lang/String;" (.ref a3) := (P2.other W2 (Or.inr (slot_ne (Or.inr (hw _ (List.mem_of_getElem? (i := 60) rfl))) (Or.inr (hw _ (List.mem_of_getElem? (i := 58) rfl))) (by decide) (t := (.object "java/lang/String")) (t' := (.object "java/lang/String")) (by decide) (by decide)))).same W3
  have F4 : Fld Z h3 a1 "com/example/kodnik/kodnik/store/Mapping" "targetSystem" "Ljava/lang/String;" .null := ((P3.other W2 (Or.inr (slot_ne (Or.inr (hw _ (List.mem_of_getElem? (i := 62) rfl))) (Or.inr (hw _ (List.mem_of_getElem? (i := 58) rfl))) (by decide) (t := (.object "java/lang/String")) (t' := (.object "java/lang/String")) (by decide) (by decide)))).other W3 (Or.inr (slot_ne (Or.inr (hw _ (List.mem_of_getElem? (i := 62) rfl))) (Or.inr (hw _ (List.mem_of_getElem? (i := 60) rfl))) (by decide) (t := (.object "java/lang/String")) (t' := (.object "java/lang/String")) (by decide) (by decide))))
  have F5 : Fld Z h3 a1 "com/example/kodnik/kodnik/store/Mapping" "targetColumn" "Ljava/lang/String;" .null := ((P4.other W2 (Or.inr (slot_ne (Or.inr (hw _ (List.mem_of_getElem? (i := 64) rfl))) (Or.inr (hw _ (List.mem_of_getElem? (i := 58) rfl))) (by decide) (t := (.object "java/lang/String")) (t' := (.object "java/lang/String")) (by decide) (by decide)))).other W3 (Or.inr (slot_ne (Or.inr (hw _ (List.mem_of_getElem? (i := 64) rfl))) (Or.inr (hw _ (List.mem_of_getElem? (i := 60) rfl))) (by decide) (t := (.object "java/lang/String")) (t' := (.object "java/lang/String")) (by decide) (by decide))))
  have Nf3 := Fr.snoc X3 Nf2 g_a1
  have K3 : Keep h0 h3 [a1] := K2.wr W3 (Or.inl (List.mem_of_getElem? (i := 0) rfl))
  have Z3 : n0 ≤ h3.size := Nat.le_trans Z2 (Keep.of_wr W3).1
  refine own_fw (A' := (T3.setTop (mkF m 14 #[.val (.ref a1), .val (.ref a2), .val (.ref a3), .val (.ref a4), .val (.ref a5)] []))) (fun t k => st3 _ k) ?_
  refine own_fw (A' := (T3.setTop (mkF m 15 #[.val (.ref a1), .val (.ref a2), .val (.ref a3), .val (.ref a4), .val (.ref a5)] [(.ref a1)]))) (fun t k => XS.aloadN X3.here hx rfl (hb hby d_prog_44_method_1_code_14) rfl rfl k) ?_
  refine own_fw (A' := (T3.setTop (mkF m 16 #[.val (.ref a1), .val (.ref a2), .val (.ref a3), .val (.ref a4), .val (.ref a5)] [(.ref a4), (.ref a1)]))) (fun t k => XS.aloadN X3.here hx rfl (hb hby d_prog_44_method_1_code_15) rfl rfl k) ?_
  obtain ⟨T6, h6, X6, e6, W6, st6⟩ := putF X3 hx hZ hown (host := "") (Or.inl (hw _ (List.mem_of_getElem? (i := 61) rfl))) Via.refl e3 F4 ((P0.wr W2).wr W3) (Or.inr ⟨(hw _ (List.mem_of_getElem? (i := 62) rfl)), rfl, hnm⟩) (hw _ (List.mem_of_getElem? (i := 44) rfl)) (ty := (.object "java/lang/String")) (by decide) rfl rfl (g := (mkF m 16 #[.val (.ref a1), .val (.ref a2), .val (.ref a3), .val (.ref a4), .val (.ref a5)] [(.ref a4), (.ref a1)])) rfl rfl (hb hby d_prog_44_method_1_code_16)
  have Fw6 : Fld Z h6 a1 "com/example/kodnik/kodnik/store/Mapping" "targetSystem" "Ljava/lang/String;" (.ref a4) := F4.same W6
  have F7 : Fld Z h6 a1 "com/example/kodnik/kodnik/store/Mapping" "sourceSystem" "Ljava/lang/String;" (.ref a2) := ((Fw2.other W3 (Or.inr (slot_ne (Or.inr (hw _ (List.mem_of_getElem? (i := 58) rfl))) (Or.inr (hw _ (List.mem_of_getElem? (i := 60) rfl))) (by decide) (t := (.object "java/lang/String")) (t' := (.object "java/lang/String")) (by decide) (by decide)))).other W6 (Or.inr (slot_ne (Or.inr (hw _ (List.mem_of_getElem? (i := 58) rfl))) (Or.inr (hw _ (List.mem_of_getElem? (i := 62) rfl))) (by decide) (t := (.object "java/lang/String")) (t' := (.object "java/lang/String")) (by decide) (by decide))))
  have Nf6 := Fr.snoc X6 Nf3 g_a1
  have K6 : Keep h0 h6 [a1] := K3.wr W6 (Or.inl (List.mem_of_getElem? (i := 0) rfl))
  have Z6 : n0 ≤ h6.size := Nat.le_trans Z3 (Keep.of_wr W6).1
  refine own_fw (A' := (T6.setTop (mkF m 19 #[.val (.ref a1), .val (.ref a2), .val (.ref a3), .val (.ref a4), .val (.ref a5)] []))) (fun t k => st6 _ k) ?_
  refine own_fw (A' := (T6.setTop (mkF m 20 #[.val (.ref a1), .val (.ref a2), .val (.ref a3), .val (.ref a4), .val (.ref a5)] [(.ref a1)]))) (fun t k => XS.aloadN X6.here hx rfl (hb hby d_prog_44_method_1_code_19) rfl rfl k) ?_
  refine own_fw (A' := (T6.setTop (mkF m 22 #[.val (.ref a1), .val (.ref a2), .val (.ref a3), .val (.ref a4), .val (.ref a5)] [(.ref a5), (.ref a1)]))) (fun t k => XS.aload X6.here hx rfl (hb hby d_prog_44_method_1_code_20) rfl rfl k) ?_
  obtain ⟨T8, h8, X8, e8, W8, st8⟩ := putF X6 hx hZ hown (host := "") (Or.inl (hw _ (List.mem_of_getElem? (i := 63) rfl))) Via.refl e6 (F5.other W6 (Or.inr (slot_ne (Or.inr (hw _ (List.mem_of_getElem? (i := 64) rfl))) (Or.inr (hw _ (List.mem_of_getElem? (i := 62) rfl))) (by decide) (t := (.object "java/lang/String")) (t' := (.object "java/lang/String")) (by decide) (by decide)))) (((P0.wr W2).wr W3).wr W6) (Or.inr ⟨(hw _ (List.mem_of_getElem? (i := 64) rfl)), rfl, hnm⟩) (hw _ (List.mem_of_getElem? (i := 44) rfl)) (ty := (.object "java/lang/String")) (by decide) rfl rfl (g := (mkF m 22 #[.val (.ref a1), .val (.ref a2), .val (.ref a3), .val (.ref a4), .val (.ref a5)] [(.ref a5), (.ref a1)])) rfl rfl (hb hby d_prog_44_method_1_code_22)
  have Fw8 : Fld Z h8 a1 "com/example/kodnik/kodnik/store/Mapping" "targetColumn" "Ljava/lang/String;" (.ref a5) := (F5.other W6 (Or.inr (slot_ne (Or.inr (hw _ (List.mem_of_getElem? (i := 64) rfl))) (Or.inr (hw _ (List.mem_of_getElem? (i := 62) rfl))) (by decide) (t := (.object "java/lang/String")) (t' := (.object "java/lang/String")) (by decide) (by decide)))).same W8
  have F9 : Fld Z h8 a1 "com/example/kodnik/kodnik/store/Mapping" "sourceColumn" "Ljava/lang/String;" (.ref a3) := ((Fw3.other W6 (Or.inr (slot_ne (Or.inr (hw _ (List.mem_of_getElem? (i := 60) rfl))) (Or.inr (hw _ (List.mem_of_getElem? (i := 62) rfl))) (by decide) (t := (.object "java/lang/String")) (t' := (.object "java/lang/String")) (by decide) (by decide)))).other W8 (Or.inr (slot_ne (Or.inr (hw _ (List.mem_of_getElem? (i := 60) rfl))) (Or.inr (hw _ (List.mem_of_getElem? (i := 64) rfl))) (by decide) (t := (.object "java/lang/String")) (t' := (.object "java/lang/String")) (by decide) (by decide))))
  have Nf8 := Fr.snoc X8 Nf6 g_a1
  have K8 : Keep h0 h8 [a1] := K6.wr W8 (Or.inl (List.mem_of_getElem? (i := 0) rfl))
  have Z8 : n0 ≤ h8.size := Nat.le_trans Z6 (Keep.of_wr W8).1
  refine own_fw (A' := (T8.setTop (mkF m 25 #[.val (.ref a1), .val (.ref a2), .val (.ref a3), .val (.ref a4), .val (.ref a5)] []))) (fun t k => st8 _ k) ?_
  obtain ⟨fs, hr, hrun, hended, hW, hsame⟩ := X8.leave (v := none) (fun _ => rfl)
  refine ⟨_, _, ?_, hrun, hended, _, _, rfl, ?_, ⟨_, rfl⟩, hW, hsame.mono (by decide) (by decide)⟩
  · exact X8.returnOut hx Bd.returns (hb hby d_prog_44_method_1_code_25) hr
  · show Q_rmMap Z a1 a2 a3 a4 a5 h0 n0 _ T8.heap _
    rw [e8]
    exact ⟨rfl, Nf8, K8, ((((P0.wr W2).wr W3).wr W6).wr W8), (F7.other W8 (Or.inr (slot_ne (Or.inr (hw _ (List.mem_of_getElem? (i := 58) rfl))) (Or.inr (hw _ (List.mem_of_getElem? (i := 64) rfl))) (by decide) (t := (.object "java/lang/String")) (t' := (.object "java/lang/String")) (by decide) (by decide)))), F9, (Fw6.other W8 (Or.inr (slot_ne (Or.inr (hw _ (List.mem_of_getElem? (i := 62) rfl))) (Or.inr (hw _ (List.mem_of_getElem? (i := 64) rfl))) (by decide) (t := (.object "java/lang/String")) (t' := (.object "java/lang/String")) (by decide) (by decide)))), Fw8⟩
theorem d_prog_44_method_2_code_0 : decode prog_44_method_2_code 0 = .ok (.aload_n 0, 1) := by decide +kernel
theorem d_prog_44_method_2_code_1 : decode prog_44_method_2_code 1 = .ok (.getfield 7, 3) := by decide +kernel
theorem d_prog_44_method_2_code_4 : decode prog_44_method_2_code 4 = .ok (.aload_n 1, 1) := by decide +kernel
theorem d_prog_44_method_2_code_5 : decode prog_44_method_2_code 5 = .ok (.invokevirtual 22, 3) := by decide +kernel
theorem pd__Ljava_lang_Object__Z : parseMethodDescriptor "(Ljava/lang/Object;)Z" = some ⟨[(.object "java/lang/Object")], some .boolean⟩ := by decide +kernel
theorem d_prog_44_method_2_code_8 : decode prog_44_method_2_code 8 = .ok (.ifCond .eq 14, 3) := by decide +kernel
theorem d_prog_44_method_2_code_22 : decode prog_44_method_2_code 22 = .ok (.aload_n 0, 1) := by decide +kernel
theorem d_prog_44_method_2_code_23 : decode prog_44_method_2_code 23 = .ok (.getfield 16, 3) := by decide +kernel
theorem d_prog_44_method_2_code_26 : decode prog_44_method_2_code 26 = .ok (.aload_n 1, 1) := by decide +kernel
theorem d_prog_44_method_2_code_27 : decode prog_44_method_2_code 27 = .ok (.invokevirtual 22, 3) := by decide +kernel
theorem d_prog_44_method_2_code_30 : decode prog_44_method_2_code 30 = .ok (.ifCond .eq 18, 3) := by decide +kernel
theorem d_prog_44_method_2_code_48 : decode prog_44_method_2_code 48 = .ok (.iconst 0, 1) := by decide +kernel
theorem d_prog_44_method_2_code_49 : decode prog_44_method_2_code 49 = .ok (.ireturn, 1) := by decide +kernel
theorem d_prog_44_method_2_code_33 : decode prog_44_method_2_code 33 = .ok (.aload_n 0, 1) := by decide +kernel
theorem d_prog_44_method_2_code_34 : decode prog_44_method_2_code 34 = .ok (.getfield 7, 3) := by decide +kernel
theorem d_prog_44_method_2_code_37 : decode prog_44_method_2_code 37 = .ok (.aload_n 2, 1) := by decide +kernel
theorem d_prog_44_method_2_code_38 : decode prog_44_method_2_code 38 = .ok (.invokevirtual 22, 3) := by decide +kernel
theorem d_prog_44_method_2_code_41 : decode prog_44_method_2_code 41 = .ok (.ifCond .eq 7, 3) := by decide +kernel
theorem d_prog_44_method_2_code_44 : decode prog_44_method_2_code 44 = .ok (.iconst 1, 1) := by decide +kernel
theorem d_prog_44_method_2_code_45 : decode prog_44_method_2_code 45 = .ok (.goto 4, 3) := by decide +kernel
theorem d_prog_44_method_2_code_11 : decode prog_44_method_2_code 11 = .ok (.aload_n 0, 1) := by decide +kernel
theorem d_prog_44_method_2_code_12 : decode prog_44_method_2_code 12 = .ok (.getfield 16, 3) := by decide +kernel
theorem d_prog_44_method_2_code_15 : decode prog_44_method_2_code 15 = .ok (.aload_n 2, 1) := by decide +kernel
theorem d_prog_44_method_2_code_16 : decode prog_44_method_2_code 16 = .ok (.invokevirtual 22, 3) := by decide +kernel
theorem d_prog_44_method_2_code_19 : decode prog_44_method_2_code 19 = .ok (.ifCond .ne 25, 3) := by decide +kernel
theorem ef_rmJoins (m : MethodId) (a1 : Addr) (a2 : Addr) (a3 : Addr) : entryFrame m #[(.ref a1), (.ref a2), (.ref a3)] 3 = mkF m 0 #[.val (.ref a1), .val (.ref a2), .val (.ref a3)] [] := by first | (simp [entryFrame, mkF, argsToLocals, Value.category]; done) | rfl
def Q_rmJoins (Z : State) (a1 : Addr) (a2 : Addr) (a3 : Addr) (x1 : Addr) (x2 : Addr) (d1 : List Int32) (d2 : List Int32) (d3 : List Int32) (d4 : List Int32) (cs : Int32) (h0 : Heap) (n0 : Nat) (v : Option Value) (h : Heap) (L : List Loc) : Prop := v = some (.int (own_join d1 d2 d3 d4)) ∧ Fr n0 L ∧ h = h0
set_option maxRecDepth 65536 in
set_option maxHeartbeats 40000000 in
theorem rmJoins (l : Launch) (Z : State) (a0 : Array Value) (hw : ∀ d ∈ tables_1, d.before a0 Z = true) (ws : List Jvm.Cond) (a1 : Addr) (a2 : Addr) (a3 : Addr) (x1 : Addr) (x2 : Addr) (d1 : List Int32) (d2 : List Int32) (d3 : List Int32) (d4 : List Int32) (cs : Int32) (h0 : Heap) (n0 : Nat) (Z0 : n0 ≤ h0.size) (P0 : Fld Z h0 a1 "com/example/kodnik/kodnik/store/Mapping" "sourceSystem" "Ljava/lang/String;" (.ref x1)) (P1 : Fld Z h0 a1 "com/example/kodnik/kodnik/store/Mapping" "targetSystem" "Ljava/lang/String;" (.ref x2)) (P2 : own_Str Z h0 x1 d1) (P3 : own_Str Z h0 x2 d2) (P4 : own_Str Z h0 a2 d3) (P5 : own_Str Z h0 a3 d4) (ne_x1_a2 : x1 ≠ a2) (ne_x1_a3 : x1 ≠ a3) (ne_x2_a2 : x2 ≠ a2) (ne_x2_a3 : x2 ≠ a3) (P10 : Sta Z h0 "java/lang/String" "COMPACT_STRINGS" "Z" (.int cs)) (hcs : ¬ (cs = (0 : Int32))) (s1 : own_small d1) (s2 : own_small d2) (s3 : own_small d3) (s4 : own_small d4) :
    MetFree l (⟨"com/example/kodnik/kodnik/store/Mapping", "joins", "(Ljava/lang/String;Ljava/lang/String;)Z"⟩ : MethodName) (head1 (Jvm.Cond.code (⟨"com/example/kodnik/kodnik/store/Mapping", "joins", "(Ljava/lang/String;Ljava/lang/String;)Z"⟩ : MethodName) prog_44_method_2_code 3 (some .boolean) :: ws) ({ frames := 2, cells := 0, slots := 0, locals := 28 } : Room)) (fun a U => a = #[(.ref a1), (.ref a2), (.ref a3)] ∧ Z.Warmed39 U.vm ∧ U.heap = h0) (fun _ _ _ _ _ => True) (fun _ U o U' => ∃ v L, o = .returned v ∧ Q_rmJoins Z a1 a2 a3 x1 x2 d1 d2 d3 d4 cs h0 n0 v U'.heap L ∧ FrameEnd U o U' L ({ frames := 2, cells := 0, slots := 0, locals := 28 } : Room).cells ({ frames := 2, cells := 0, slots := 0, locals := 28 } : Room).slots) := by
  refine MetFree.of_bodySF (plainFor_of_name pn_com_example_kodnik_kodnik_store_Mapping) hisR ?_
  intro p e s m args below meth c s₁ Bd hml0 hP hK
  obtain ⟨rfl, hZ, hh⟩ := hP
  have hx := Bd.exec
  have hby := Bd.bytes
  have hml : c.maxLocals = 3 := hml0
  have hown : s.vm.findClass "com/example/kodnik/kodnik/store/Mapping" = some m.cls := findClass_of_methodNamed Bd.named
  have hnm := (name_of_methodNamed Bd.named Bd.method).1
  have X0 : Stand p l e ({ frames := 2, cells := 0, slots := 0, locals := 28 } : Room) s m #[(.ref a1), (.ref a2), (.ref a3)] below meth c s₁ [] 0 0 := Stand.of_body Bd
  have e0 : s₁.heap = h0 := by rw [← hh, Bd.state]; rfl
  have N0 := Fr.nil n0
  refine own_fw (A' := (s₁.setTop (mkF m 0 #[.val (.ref a1), .val (.ref a2), .val (.ref a3)] []))) (fun t k => castTop (ef_rmJoins m a1 a2 a3) k) ?_
  refine own_fw (A' := (s₁.setTop (mkF m 1 #[.val (.ref a1), .val (.ref a2), .val (.ref a3)] [(.ref a1)]))) (fun t k => XS.aloadN X0.here hx rfl (hb hby d_prog_44_method_2_code_0) rfl rfl k) ?_
  obtain ⟨T1, X1, e1, st1⟩ := getF X0 hx hZ hown (host := "") (Or.inl (hw _ (List.mem_of_getElem? (i := 57) rfl))) Via.refl e0 P0 (g := (mkF m 1 #[.val (.ref a1), .val (.ref a2), .val (.ref a3)] [(.ref a1)])) rfl rfl (hb hby d_prog_44_method_2_code_1)
  refine own_fw (A' := (T1.setTop (mkF m 4 #[.val (.ref a1), .val (.ref a2), .val (.ref a3)] [(.ref x1)]))) (fun t k => st1 _ k) ?_
  refine own_fw (A' := (T1.setTop (mkF m 5 #[.val (.ref a1), .val (.ref a2), .val (.ref a3)] [(.ref a2), (.ref x1)]))) (fun t k => XS.aloadN X1.here hx rfl (hb hby d_prog_44_method_2_code_4) rfl rfl k) ?_
  obtain ⟨cq2, kq2, qa2, qb2, qc2⟩ := isOf hZ e1 (own_strE P2)
  obtain ⟨_, _, ⟨T2, L2, k2, n2⟩, -, X2, ⟨Lc2, hQ2, l2, y2, z2⟩, st2⟩ := X1.virtualBack hx (y := (⟨"java/lang/String", "equals", "(Ljava/lang/Object;)Z"⟩ : MethodName)) (z := (⟨"java/lang/String", "equals", "(Ljava/lang/Object;)Z"⟩ : MethodName)) hown (mvT hZ (hw _ (List.mem_of_getElem? (i := 70) rfl))) (mvT hZ (hw _ (List.mem_of_getElem? (i := 71) rfl))) (notFace_of_selects (args := #[]) (mvT hZ (hw _ (List.mem_of_getElem? (i := 73) rfl)))) (mvT hZ (hw _ (List.mem_of_getElem? (i := 73) rfl))) (mvT hZ (hw _ (List.mem_of_getElem? (i := 72) rfl))) (by decide) (backOf (W := 0) (rmEq l Z a0 hw [] x1 a2 d1 d3 cs h0 n0 Z0 P2 P4 ne_x1_a2 P10 hcs s1 s3) hZ (hw _ (List.mem_of_getElem? (i := 74) rfl)) (hw _ (List.mem_of_getElem? (i := 12) rfl)) (by decide) (by decide)) qa2 qc2 (g := (mkF m 5 #[.val (.ref a1), .val (.ref a2), .val (.ref a3)] [(.ref a2), (.ref x1)])) rfl (by rw [hml]; rfl) (Steps.refl _) (argsL := [(.ref a2)]) (rest := []) (lenOf pd__Ljava_lang_Object__Z rfl) rfl (by show 2 * 0 + _ ≤ _; exact Nat.le_of_eq rfl) (hb hby d_prog_44_method_2_code_5) (fun _ _ => ⟨rfl, e1, (by decide : 0 + 0 ≤ _), (by decide : 0 + 0 ≤ _)⟩)
  dsimp only [Pt.U, Pt.locs, Pt.cells, Pt.slots] at X2 l2 y2 z2 st2 hQ2
  subst l2 y2 z2
  obtain ⟨rfl, Nq2, e2⟩ := hQ2
  have Nf2 := Fr.app N0 Nq2
  refine own_fw (A' := (T2.setTop (mkF m 8 #[.val (.ref a1), .val (.ref a2), .val (.ref a3)] [(.int (own_leq d1 d3))]))) (fun t k => st2.trans k) ?_
  by_cases hc3 : (own_leq d1 d3) = (0 : Int32)
  · refine own_fw (A' := (T2.setTop (mkF m 22 #[.val (.ref a1), .val (.ref a2), .val (.ref a3)] []))) (fun t k => XS.ifYes X2.here hx rfl (pc0 := 8) (pc' := 22) rfl (hb hby d_prog_44_method_2_code_8) rfl (XT.i0_eq_t hc3) (by decide) (by decide) k) ?_
    refine own_fw (A' := (T2.setTop (mkF m 23 #[.val (.ref a1), .val (.ref a2), .val (.ref a3)] [(.ref a1)]))) (fun t k => XS.aloadN X2.here hx rfl (hb hby d_prog_44_method_2_code_22) rfl rfl k) ?_
    obtain ⟨T4, X4, e4, st4⟩ := getF X2 hx hZ hown (host := "") (Or.inl (hw _ (List.mem_of_getElem? (i := 61) rfl))) Via.refl e2 P1 (g := (mkF m 23 #[.val (.ref a1), .val (.ref a2), .val (.ref a3)] [(.ref a1)])) rfl rfl (hb hby d_prog_44_method_2_code_23)
    refine own_fw (A' := (T4.setTop (mkF m 26 #[.val (.ref a1), .val (.ref a2), .val (.ref a3)] [(.ref x2)]))) (fun t k => st4 _ k) ?_
    refine own_fw (A' := (T4.setTop (mkF m 27 #[.val (.ref a1), .val (.ref a2), .val (.ref a3)] [(.ref a2), (.ref x2)]))) (fun t k => XS.aloadN X4.here hx rfl (hb hby d_prog_44_method_2_code_26) rfl rfl k) ?_
    obtain ⟨cq5, kq5, qa5, qb5, qc5⟩ := isOf hZ e4 (own_strE P3)
    obtain ⟨_, _, ⟨T5, L5, k5, n5⟩, -, X5, ⟨Lc5, hQ5, l5, y5, z5⟩, st5⟩ := X4.virtualBack hx (y := (⟨"java/lang/String", "equals", "(Ljava/lang/Object;)Z"⟩ : MethodName)) (z := (⟨"java/lang/String", "equals", "(Ljava/lang/Object;)Z"⟩ : MethodName)) hown (mvT hZ (hw _ (List.mem_of_getElem? (i := 70) rfl))) (mvT hZ (hw _ (List.mem_of_getElem? (i := 71) rfl))) (notFace_of_selects (args := #[]) (mvT hZ (hw _ (List.mem_of_getElem? (i := 73) rfl)))) (mvT hZ (hw _ (List.mem_of_getElem? (i := 73) rfl))) (mvT hZ (hw _ (List.mem_of_getElem? (i := 72) rfl))) (by decide) (backOf (W := 0) (rmEq l Z a0 hw [] x2 a2 d2 d3 cs h0 n0 Z0 P3 P4 ne_x2_a2 P10 hcs s2 s3) hZ (hw _ (List.mem_of_getElem? (i := 74) rfl)) (hw _ (List.mem_of_getElem? (i := 12) rfl)) (by decide) (by decide)) qa5 qc5 (g := (mkF m 27 #[.val (.ref a1), .val (.ref a2), .val (.ref a3)] [(.ref a2), (.ref x2)])) rfl (by rw [hml]; rfl) (Steps.refl _) (argsL := [(.ref a2)]) (rest := []) (lenOf pd__Ljava_lang_Object__Z rfl) rfl (by show 2 * 0 + _ ≤ _; exact Nat.le_of_eq rfl) (hb hby d_prog_44_method_2_code_27) (fun _ _ => ⟨rfl, e4, (by decide : 0 + 0 ≤ _), (by decide : 0 + 0 ≤ _)⟩)
    dsimp only [Pt.U, Pt.locs, Pt.cells, Pt.slots] at X5 l5 y5 z5 st5 hQ5
    subst l5 y5 z5
    obtain ⟨rfl, Nq5, e5⟩ := hQ5
    have Nf5 := Fr.app Nf2 Nq5
    refine own_fw (A' := (T5.setTop (mkF m 30 #[.val (.ref a1), .val (.ref a2), .val (.ref a3)] [(.int (own_leq d2 d3))]))) (fun t k => st5.trans k) ?_
    by_cases hc6 : (own_leq d2 d3) = (0 : Int32)
    · refine own_fw (A' := (T5.setTop (mkF m 48 #[.val (.ref a1), .val (.ref a2), .val (.ref a3)] []))) (fun t k => XS.ifYes X5.here hx rfl (pc0 := 30) (pc' := 48) rfl (hb hby d_prog_44_method_2_code_30) rfl (XT.i0_eq_t hc6) (by decide) (by decide) k) ?_
      refine own_fw (A' := (T5.setTop (mkF m 49 #[.val (.ref a1), .val (.ref a2), .val (.ref a3)] [(.int (0 : Int32))]))) (fun t k => XS.iconst X5.here hx rfl (hb hby d_prog_44_method_2_code_48) k) ?_
      obtain ⟨fs, hr, hrun, hended, hW, hsame⟩ := X5.leave (v := some (.int (0 : Int32))) (fun h => by rw [Bd.returns] at h; cases h)
      refine ⟨_, _, ?_, hrun, hended, _, _, rfl, ?_, ⟨_, rfl⟩, hW, hsame.mono (by decide) (by decide)⟩
      · exact retOut X5 hx Bd.returns rfl (Or.inl ⟨rfl, by simp, _, rfl⟩) (hb hby d_prog_44_method_2_code_49) hr
      · show Q_rmJoins Z a1 a2 a3 x1 x2 d1 d2 d3 d4 cs h0 n0 _ T5.heap _
        rw [e5]
        exact ⟨(by simp only [own_join, own_jt, if_neg hcs, if_pos s1, if_pos s2, if_pos s3, if_pos s4, if_pos hc3, if_pos hc6]), Nf5, rfl⟩
    · refine own_fw (A' := (T5.setTop (mkF m 33 #[.val (.ref a1), .val (.ref a2), .val (.ref a3)] []))) (fun t k => XS.ifNo X5.here hx rfl (hb hby d_prog_44_method_2_code_30) rfl (XT.i0_eq_f hc6) k) ?_
      refine own_fw (A' := (T5.setTop (mkF m 34 #[.val (.ref a1), .val (.ref a2), .val (.ref a3)] [(.ref a1)]))) (fun t k => XS.aloadN X5.here hx rfl (hb hby d_prog_44_method_2_code_33) rfl rfl k) ?_
      obtain ⟨T7, X7, e7, st7⟩ := getF X5 hx hZ hown (host := "") (Or.inl (hw _ (List.mem_of_getElem? (i := 57) rfl))) Via.refl e5 P0 (g := (mkF m 34 #[.val (.ref a1), .val (.ref a2), .val (.ref a3)] [(.ref a1)])) rfl rfl (hb hby d_prog_44_method_2_code_34)
      refine own_fw (A' := (T7.setTop (mkF m 37 #[.val (.ref a1), .val (.ref a2), .val (.ref a3)] [(.ref x1)]))) (fun t k => st7 _ k) ?_
      refine own_fw (A' := (T7.setTop (mkF m 38 #[.val (.ref a1), .val (.ref a2), .val (.ref a3)] [(.ref a3), (.ref x1)]))) (fun t k => XS.aloadN X7.here hx rfl (hb hby d_prog_44_method_2_code_37) rfl rfl k) ?_
      obtain ⟨cq8, kq8, qa8, qb8, qc8⟩ := isOf hZ e7 (own_strE P2)
      obtain ⟨_, _, ⟨T8, L8, k8, n8⟩, -, X8, ⟨Lc8, hQ8, l8, y8, z8⟩, st8⟩ := X7.virtualBack hx (y := (⟨"java/lang/String", "equals", "(Ljava/lang/Object;)Z"⟩ : MethodName)) (z := (⟨"java/lang/String", "equals", "(Ljava/lang/Object;)Z"⟩ : MethodName)) hown (mvT hZ (hw _ (List.mem_of_getElem? (i := 70) rfl))) (mvT hZ (hw _ (List.mem_of_getElem? (i := 71) rfl))) (notFace_of_selects (args := #[]) (mvT hZ (hw _ (List.mem_of_getElem? (i := 73) rfl)))) (mvT hZ (hw _ (List.mem_of_getElem? (i := 73) rfl))) (mvT hZ (hw _ (List.mem_of_getElem? (i := 72) rfl))) (by decide) (backOf (W := 0) (rmEq l Z a0 hw [] x1 a3 d1 d4 cs h0 n0 Z0 P2 P5 ne_x1_a3 P10 hcs s1 s4) hZ (hw _ (List.mem_of_getElem? (i := 74) rfl)) (hw _ (List.mem_of_getElem? (i := 12) rfl)) (by decide) (by decide)) qa8 qc8 (g := (mkF m 38 #[.val (.ref a1), .val (.ref a2), .val (.ref a3)] [(.ref a3), (.ref x1)])) rfl (by rw [hml]; rfl) (Steps.refl _) (argsL := [(.ref a3)]) (rest := []) (lenOf pd__Ljava_lang_Object__Z rfl) rfl (by show 2 * 0 + _ ≤ _; exact Nat.le_of_eq rfl) (hb hby d_prog_44_method_2_code_38) (fun _ _ => ⟨rfl, e7, (by decide : 0 + 0 ≤ _), (by decide : 0 + 0 ≤ _)⟩)
      dsimp only [Pt.U, Pt.locs, Pt.cells, Pt.slots] at X8 l8 y8 z8 st8 hQ8
      subst l8 y8 z8
      obtain ⟨rfl, Nq8, e8⟩ := hQ8
      have Nf8 := Fr.app Nf5 Nq8
      refine own_fw (A' := (T8.setTop (mkF m 41 #[.val (.ref a1), .val (.ref a2), .val (.ref a3)] [(.int (own_leq d1 d4))]))) (fun t k => st8.trans k) ?_
      by_cases hc9 : (own_leq d1 d4) = (0 : Int32)
      · refine own_fw (A' := (T8.setTop (mkF m 48 #[.val (.ref a1), .val (.ref a2), .val (.ref a3)] []))) (fun t k => XS.ifYes X8.here hx rfl (pc0 := 41) (pc' := 48) rfl (hb hby d_prog_44_method_2_code_41) rfl (XT.i0_eq_t hc9) (by decide) (by decide) k) ?_
        refine own_fw (A' := (T8.setTop (mkF m 49 #[.val (.ref a1), .val (.ref a2), .val (.ref a3)] [(.int (0 : Int32))]))) (fun t k => XS.iconst X8.here hx rfl (hb hby d_prog_44_method_2_code_48) k) ?_
        obtain ⟨fs, hr, hrun, hended, hW, hsame⟩ := X8.leave (v := some (.int (0 : Int32))) (fun h => by rw [Bd.returns] at h; cases h)
        refine ⟨_, _, ?_, hrun, hended, _, _, rfl, ?_, ⟨_, rfl⟩, hW, hsame.mono (by decide) (by decide)⟩
        · exact retOut X8 hx Bd.returns rfl (Or.inl ⟨rfl, by simp, _, rfl⟩) (hb hby d_prog_44_method_2_code_49) hr
        · show Q_rmJoins Z a1 a2 a3 x1 x2 d1 d2 d3 d4 cs h0 n0 _ T8.heap _
          rw [e8]
          exact ⟨(by simp only [own_join, own_jt, if_neg hcs, if_pos s1, if_pos s2, if_pos s3, if_pos s4, if_pos hc3, if_neg hc6, if_pos hc9]), Nf8, rfl⟩
      · refine own_fw (A' := (T8.setTop (mkF m 44 #[.val (.ref a1), .val (.ref a2), .val (.ref a3)] []))) (fun t k => XS.ifNo X8.here hx rfl (hb hby d_prog_44_method_2_code_41) rfl (XT.i0_eq_f hc9) k) ?_
        refine own_fw (A' := (T8.setTop (mkF m 45 #[.val (.ref a1), .val (.ref a2), .val (.ref a3)] [(.int (1 : Int32))]))) (fun t k => XS.iconst X8.here hx rfl (hb hby d_prog_44_method_2_code_44) k) ?_
        refine own_fw (A' := (T8.setTop (mkF m 49 #[.val (.ref a1), .val (.ref a2), .val (.ref a3)] [(.int (1 : Int32))]))) (fun t k => XS.goto X8.here hx rfl (pc0 := 45) (pc' := 49) rfl (hb hby d_prog_44_method_2_code_45) (by decide) (by decide) k) ?_
        obtain ⟨fs, hr, hrun, hended, hW, hsame⟩ := X8.leave (v := some (.int (1 : Int32))) (fun h => by rw [Bd.returns] at h; cases h)
        refine ⟨_, _, ?_, hrun, hended, _, _, rfl, ?_, ⟨_, rfl⟩, hW, hsame.mono (by decide) (by decide)⟩
        · exact retOut X8 hx Bd.returns rfl (Or.inl ⟨rfl, by simp, _, rfl⟩) (hb hby d_prog_44_method_2_code_49) hr
        · show Q_rmJoins Z a1 a2 a3 x1 x2 d1 d2 d3 d4 cs h0 n0 _ T8.heap _
          rw [e8]
          exact ⟨(by simp only [own_join, own_jt, if_neg hcs, if_pos s1, if_pos s2, if_pos s3, if_pos s4, if_pos hc3, if_neg hc6, if_neg hc9]), Nf8, rfl⟩
  · refine own_fw (A' := (T2.setTop (mkF m 11 #[.val (.ref a1), .val (.ref a2), .val (.ref a3)] []))) (fun t k => XS.ifNo X2.here hx rfl (hb hby d_prog_44_method_2_code_8) rfl (XT.i0_eq_f hc3) k) ?_
    refine own_fw (A' := (T2.setTop (mkF m 12 #[.val (.ref a1), .val (.ref a2), .val (.ref a3)] [(.ref a1)]))) (fun t k => XS.aloadN X2.here hx rfl (hb hby d_prog_44_method_2_code_11) rfl rfl k) ?_
    obtain ⟨T10, X10, e10, st10⟩ := getF X2 hx hZ hown (host := "") (Or.inl (hw _ (List.mem_of_getElem? (i := 61) rfl))) Via.refl e2 P1 (g := (mkF m 12 #[.val (.ref a1), .val (.ref a2), .val (.ref a3)] [(.ref a1)])) rfl rfl (hb hby d_prog_44_method_2_code_12)
    refine own_fw (A' := (T10.setTop (mkF m 15 #[.val (.ref a1), .val (.ref a2), .val (.ref a3)] [(.ref x2)]))) (fun t k => st10 _ k) ?_
    refine own_fw (A' := (T10.setTop (mkF m 16 #[.val (.ref a1), .val (.ref a2), .val (.ref a3)] [(.ref a3), (.ref x2)]))) (fun t k => XS.aloadN X10.here hx rfl (hb hby d_prog_44_method_2_code_15) rfl rfl k) ?_
    obtain ⟨cq11, kq11, qa11, qb11, qc11⟩ := isOf hZ e10 (own_strE P3)
    obtain ⟨_, _, ⟨T11, L11, k11, n11⟩, -, X11, ⟨Lc11, hQ11, l11, y11, z11⟩, st11⟩ := X10.virtualBack hx (y := (⟨"java/lang/String", "equals", "(Ljava/lang/Object;)Z"⟩ : MethodName)) (z := (⟨"java/lang/String", "equals", "(Ljava/lang/Object;)Z"⟩ : MethodName)) hown (mvT hZ (hw _ (List.mem_of_getElem? (i := 70) rfl))) (mvT hZ (hw _ (List.mem_of_getElem? (i := 71) rfl))) (notFace_of_selects (args := #[]) (mvT hZ (hw _ (List.mem_of_getElem? (i := 73) rfl)))) (mvT hZ (hw _ (List.mem_of_getElem? (i := 73) rfl))) (mvT hZ (hw _ (List.mem_of_getElem? (i := 72) rfl))) (by decide) (backOf (W := 0) (rmEq l Z a0 hw [] x2 a3 d2 d4 cs h0 n0 Z0 P3 P5 ne_x2_a3 P10 hcs s2 s4) hZ (hw _ (List.mem_of_getElem? (i := 74) rfl)) (hw _ (List.mem_of_getElem? (i := 12) rfl)) (by decide) (by decide)) qa11 qc11 (g := (mkF m 16 #[.val (.ref a1), .val (.ref a2), .val (.ref a3)] [(.ref a3), (.ref x2)])) rfl (by rw [hml]; rfl) (Steps.refl _) (argsL := [(.ref a3)]) (rest := []) (lenOf pd__Ljava_lang_Object__Z rfl) rfl (by show 2 * 0 + _ ≤ _; exact Nat.le_of_eq rfl) (hb hby d_prog_44_method_2_code_16) (fun _ _ => ⟨rfl, e10, (by decide : 0 + 0 ≤ _), (by decide : 0 + 0 ≤ _)⟩)
    dsimp only [Pt.U, Pt.locs, Pt.cells, Pt.slots] at X11 l11 y11 z11 st11 hQ11
    subst l11 y11 z11
    obtain ⟨rfl, Nq11, e11⟩ := hQ11
    have Nf11 := Fr.app Nf2 Nq11
    refine own_fw (A' := (T11.setTop (mkF m 19 #[.val (.ref a1), .val (.ref a2), .val (.ref a3)] [(.int (own_leq d2 d4))]))) (fun t k => st11.trans k) ?_
    by_cases hc12 : (own_leq d2 d4) = (0 : Int32)
    · refine own_fw (A' := (T11.setTop (mkF m 22 #[.val (.ref a1), .val (.ref a2), .val (.ref a3)] []))) (fun t k => XS.ifNo X11.here hx rfl (hb hby d_prog_44_method_2_code_19) rfl (XT.i0_ne_f hc12) k) ?_
      refine own_fw (A' := (T11.setTop (mkF m 23 #[.val (.ref a1), .val (.ref a2), .val (.ref a3)] [(.ref a1)]))) (fun t k => XS.aloadN X11.here hx rfl (hb hby d_prog_44_method_2_code_22) rfl rfl k) ?_
      obtain ⟨T13, X13, e13, st13⟩ := getF X11 hx hZ hown (host := "") (Or.inl (hw _ (List.mem_of_getElem? (i := 61) rfl))) Via.refl e11 P1 (g := (mkF m 23 #[.val (.ref a1), .val (.ref a2), .val (.ref a3)] [(.ref a1)])) rfl rfl (hb hby d_prog_44_method_2_code_23)
      refine own_fw (A' := (T13.setTop (mkF m 26 #[.val (.ref a1), .val (.ref a2), .val (.ref a3)] [(.ref x2)]))) (fun t k => st13 _ k) ?_
      refine own_fw (A' := (T13.setTop (mkF m 27 #[.val (.ref a1), .val (.ref a2), .val (.ref a3)] [(.ref a2), (.ref x2)]))) (fun t k => XS.aloadN X13.here hx rfl (hb hby d_prog_44_method_2_code_26) rfl rfl k) ?_
      obtain ⟨cq14, kq14, qa14, qb14, qc14⟩ := isOf hZ e13 (own_strE P3)
      obtain ⟨_, _, ⟨T14, L14, k14, n14⟩, -, X14, ⟨Lc14, hQ14, l14, y14, z14⟩, st14⟩ := X13.virtualBack hx (y := (⟨"java/lang/String", "equals", "(Ljava/lang/Object;)Z"⟩ : MethodName)) (z := (⟨"java/lang/String", "equals", "(Ljava/lang/Object;)Z"⟩ : MethodName)) hown (mvT hZ (hw _ (List.mem_of_getElem? (i := 70) rfl))) (mvT hZ (hw _ (List.mem_of_getElem? (i := 71) rfl))) (notFace_of_selects (args := #[]) (mvT hZ (hw _ (List.mem_of_getElem? (i := 73) rfl)))) (mvT hZ (hw _ (List.mem_of_getElem? (i := 73) rfl))) (mvT hZ (hw _ (List.mem_of_getElem? (i := 72) rfl))) (by decide) (backOf (W := 0) (rmEq l Z a0 hw [] x2 a2 d2 d3 cs h0 n0 Z0 P3 P4 ne_x2_a2 P10 hcs s2 s3) hZ (hw _ (List.mem_of_getElem? (i := 74) rfl)) (hw _ (List.mem_of_getElem? (i := 12) rfl)) (by decide) (by decide)) qa14 qc14 (g := (mkF m 27 #[.val (.ref a1), .val (.ref a2), .val (.ref a3)] [(.ref a2), (.ref x2)])) rfl (by rw [hml]; rfl) (Steps.refl _) (argsL := [(.ref a2)]) (rest := []) (lenOf pd__Ljava_lang_Object__Z rfl) rfl (by show 2 * 0 + _ ≤ _; exact Nat.le_of_eq rfl) (hb hby d_prog_44_method_2_code_27) (fun _ _ => ⟨rfl, e13, (by decide : 0 + 0 ≤ _), (by decide : 0 + 0 ≤ _)⟩)
      dsimp only [Pt.U, Pt.locs, Pt.cells, Pt.slots] at X14 l14 y14 z14 st14 hQ14
      subst l14 y14 z14
      obtain ⟨rfl, Nq14, e14⟩ := hQ14
      have Nf14 := Fr.app Nf11 Nq14
      refine own_fw (A' := (T14.setTop (mkF m 30 #[.val (.ref a1), .val (.ref a2), .val (.ref a3)] [(.int (own_leq d2 d3))]))) (fun t k => st14.trans k) ?_
      by_cases hc15 : (own_leq d2 d3) = (0 : Int32)
      · refine own_fw (A' := (T14.setTop (mkF m 48 #[.val (.ref a1), .val (.ref a2), .val (.ref a3)] []))) (fun t k => XS.ifYes X14.here hx rfl (pc0 := 30) (pc' := 48) rfl (hb hby d_prog_44_method_2_code_30) rfl (XT.i0_eq_t hc15) (by decide) (by decide) k) ?_
        refine own_fw (A' := (T14.setTop (mkF m 49 #[.val (.ref a1), .val (.ref a2), .val (.ref a3)] [(.int (0 : Int32))]))) (fun t k => XS.iconst X14.here hx rfl (hb hby d_prog_44_method_2_code_48) k) ?_
        obtain ⟨fs, hr, hrun, hended, hW, hsame⟩ := X14.leave (v := some (.int (0 : Int32))) (fun h => by rw [Bd.returns] at h; cases h)
        refine ⟨_, _, ?_, hrun, hended, _, _, rfl, ?_, ⟨_, rfl⟩, hW, hsame.mono (by decide) (by decide)⟩
        · exact retOut X14 hx Bd.returns rfl (Or.inl ⟨rfl, by simp, _, rfl⟩) (hb hby d_prog_44_method_2_code_49) hr
        · show Q_rmJoins Z a1 a2 a3 x1 x2 d1 d2 d3 d4 cs h0 n0 _ T14.heap _
          rw [e14]
          exact ⟨(by simp only [own_join, own_jt, if_neg hcs, if_pos s1, if_pos s2, if_pos s3, if_pos s4, if_neg hc3, if_pos hc12, if_pos hc15]), Nf14, rfl⟩
      · refine own_fw (A' := (T14.setTop (mkF m 33 #[.val (.ref a1), .val (.ref a2), .val (.ref a3)] []))) (fun t k => XS.ifNo X14.here hx rfl (hb hby d_prog_44_method_2_code_30) rfl (XT.i0_eq_f hc15) k) ?_
        refine own_fw (A' := (T14.setTop (mkF m 34 #[.val (.ref a1), .val (.ref a2), .val (.ref a3)] [(.ref a1)]))) (fun t k => XS.aloadN X14.here hx rfl (hb hby d_prog_44_method_2_code_33) rfl rfl k) ?_
        obtain ⟨T16, X16, e16, st16⟩ := getF X14 hx hZ hown (host := "") (Or.inl (hw _ (List.mem_of_getElem? (i := 57) rfl))) Via.refl e14 P0 (g := (mkF m 34 #[.val (.ref a1), .val (.ref a2), .val (.ref a3)] [(.ref a1)])) rfl rfl (hb hby d_prog_44_method_2_code_34)
        refine own_fw (A' := (T16.setTop (mkF m 37 #[.val (.ref a1), .val (.ref a2), .val (.ref a3)] [(.ref x1)]))) (fun t k => st16 _ k) ?_
        refine own_fw (A' := (T16.setTop (mkF m 38 #[.val (.ref a1), .val (.ref a2), .val (.ref a3)] [(.ref a3), (.ref x1)]))) (fun t k => XS.aloadN X16.here hx rfl (hb hby d_prog_44_method_2_code_37) rfl rfl k) ?_
        obtain ⟨cq17, kq17, qa17, qb17, qc17⟩ := isOf hZ e16 (own_strE P2)
        obtain ⟨_, _, ⟨T17, L17, k17, n17⟩, -, X17, ⟨Lc17, hQ17, l17, y17, z17⟩, st17⟩ := X16.virtualBack hx (y := (⟨"java/lang/String", "equals", "(Ljava/lang/Object;)Z"⟩ : MethodName)) (z := (⟨"java/lang/String", "equals", "(Ljava/lang/Object;)Z"⟩ : MethodName)) hown (mvT hZ (hw _ (List.mem_of_getElem? (i := 70) rfl))) (mvT hZ (hw _ (List.mem_of_getElem? (i := 71) rfl))) (notFace_of_selects (args := #[]) (mvT hZ (hw _ (List.mem_of_getElem? (i := 73) rfl)))) (mvT hZ (hw _ (List.mem_of_getElem? (i := 73) rfl))) (mvT hZ (hw _ (List.mem_of_getElem? (i := 72) rfl))) (by decide) (backOf (W := 0) (rmEq l Z a0 hw [] x1 a3 d1 d4 cs h0 n0 Z0 P2 P5 ne_x1_a3 P10 hcs s1 s4) hZ (hw _ (List.mem_of_getElem? (i := 74) rfl)) (hw _ (List.mem_of_getElem? (i := 12) rfl)) (by decide) (by decide)) qa17 qc17 (g := (mkF m 38 #[.val (.ref a1), .val (.ref a2), .val (.ref a3)] [(.ref a3), (.ref x1)])) rfl (by rw [hml]; rfl) (Steps.refl _) (argsL := [(.ref a3)]) (rest := []) (lenOf pd__Ljava_lang_Object__Z rfl) rfl (by show 2 * 0 + _ ≤ _; exact Nat.le_of_eq rfl) (hb hby d_prog_44_method_2_code_38) (fun _ _ => ⟨rfl, e16, (by decide : 0 + 0 ≤ _), (by decide : 0 + 0 ≤ _)⟩)
        dsimp only [Pt.U, Pt.locs, Pt.cells, Pt.slots] at X17 l17 y17 z17 st17 hQ17
        subst l17 y17 z17
        obtain ⟨rfl, Nq17, e17⟩ := hQ17
        have Nf17 := Fr.app Nf14 Nq17
        refine own_fw (A' := (T17.setTop (mkF m 41 #[.val (.ref a1), .val (.ref a2), .val (.ref a3)] [(.int (own_leq d1 d4))]))) (fun t k => st17.trans k) ?_
        by_cases hc18 : (own_leq d1 d4) = (0 : Int32)
        · refine own_fw (A' := (T17.setTop (mkF m 48 #[.val (.ref a1), .val (.ref a2), .val (.ref a3)] []))) (fun t k => XS.ifYes X17.here hx rfl (pc0 := 41) (pc' := 48) rfl (hb hby d_prog_44_method_2_code_41) rfl (XT.i0_eq_t hc18) (by decide) (by decide) k) ?_
          refine own_fw (A' := (T17.setTop (mkF m 49 #[.val (.ref a1), .val (.ref a2), .val (.ref a3)] [(.int (0 : Int32))]))) (fun t k => XS.iconst X17.here hx rfl (hb hby d_prog_44_method_2_code_48) k) ?_
          obtain ⟨fs, hr, hrun, hended, hW, hsame⟩ := X17.leave (v := some (.int (0 : Int32))) (fun h => by rw [Bd.returns] at h; cases h)
          refine ⟨_, _, ?_, hrun, hended, _, _, rfl, ?_, ⟨_, rfl⟩, hW, hsame.mono (by decide) (by decide)⟩
          · exact retOut X17 hx Bd.returns rfl (Or.inl ⟨rfl, by simp, _, rfl⟩) (hb hby d_prog_44_method_2_code_49) hr
          · show Q_rmJoins Z a1 a2 a3 x1 x2 d1 d2 d3 d4 cs h0 n0 _ T17.heap _
            rw [e17]
            exact ⟨(by simp only [own_join, own_jt, if_neg hcs, if_pos s1, if_pos s2, if_pos s3, if_pos s4, if_neg hc3, if_pos hc12, if_neg hc15, if_pos hc18]), Nf17, rfl⟩
        · refine own_fw (A' := (T17.setTop (mkF m 44 #[.val (.ref a1), .val (.ref a2), .val (.ref a3)] []))) (fun t k => XS.ifNo X17.here hx rfl (hb hby d_prog_44_method_2_code_41) rfl (XT.i0_eq_f hc18) k) ?_
          refine own_fw (A' := (T17.setTop (mkF m 45 #[.val (.ref a1), .val (.ref a2), .val (.ref a3)] [(.int (1 : Int32))]))) (fun t k => XS.iconst X17.here hx rfl (hb hby d_prog_44_method_2_code_44) k) ?_
          refine own_fw (A' := (T17.setTop (mkF m 49 #[.val (.ref a1), .val (.ref a2), .val (.ref a3)] [(.int (1 : Int32))]))) (fun t k => XS.goto X17.here hx rfl (pc0 := 45) (pc' := 49) rfl (hb hby d_prog_44_method_2_code_45) (by decide) (by decide) k) ?_
          obtain ⟨fs, hr, hrun, hended, hW, hsame⟩ := X17.leave (v := some (.int (1 : Int32))) (fun h => by rw [Bd.returns] at h; cases h)
          refine ⟨_, _, ?_, hrun, hended, _, _, rfl, ?_, ⟨_, rfl⟩, hW, hsame.mono (by decide) (by decide)⟩
          · exact retOut X17 hx Bd.returns rfl (Or.inl ⟨rfl, by simp, _, rfl⟩) (hb hby d_prog_44_method_2_code_49) hr
          · show Q_rmJoins Z a1 a2 a3 x1 x2 d1 d2 d3 d4 cs h0 n0 _ T17.heap _
            rw [e17]
            exact ⟨(by simp only [own_join, own_jt, if_neg hcs, if_pos s1, if_pos s2, if_pos s3, if_pos s4, if_neg hc3, if_pos hc12, if_neg hc15, if_neg hc18]), Nf17, rfl⟩
    · refine own_fw (A' := (T11.setTop (mkF m 44 #[.val (.ref a1), .val (.ref a2), .val (.ref a3)] []))) (fun t k => XS.ifYes X11.here hx rfl (pc0 := 19) (pc' := 44) rfl (hb hby d_prog_44_method_2_code_19) rfl (XT.i0_ne_t hc12) (by decide) (by decide) k) ?_
      refine own_fw (A' := (T11.setTop (mkF m 45 #[.val (.ref a1), .val (.ref a2), .val (.ref a3)] [(.int (1 : Int32))]))) (fun t k => XS.iconst X11.here hx rfl (hb hby d_prog_44_method_2_code_44) k) ?_
      refine own_fw (A' := (T11.setTop (mkF m 49 #[.val (.ref a1), .val (.ref a2), .val (.ref a3)] [(.int (1 : Int32))]))) (fun t k => XS.goto X11.here hx rfl (pc0 := 45) (pc' := 49) rfl (hb hby d_prog_44_method_2_code_45) (by decide) (by decide) k) ?_
      obtain ⟨fs, hr, hrun, hended, hW, hsame⟩ := X11.leave (v := some (.int (1 : Int32))) (fun h => by rw [Bd.returns] at h; cases h)
      refine ⟨_, _, ?_, hrun, hended, _, _, rfl, ?_, ⟨_, rfl⟩, hW, hsame.mono (by decide) (by decide)⟩
      · exact retOut X11 hx Bd.returns rfl (Or.inl ⟨rfl, by simp, _, rfl⟩) (hb hby d_prog_44_method_2_code_49) hr
      · show Q_rmJoins Z a1 a2 a3 x1 x2 d1 d2 d3 d4 cs h0 n0 _ T11.heap _
        rw [e11]
        exact ⟨(by simp only [own_join, own_jt, if_neg hcs, if_pos s1, if_pos s2, if_pos s3, if_pos s4, if_neg hc3, if_neg hc12]), Nf11, rfl⟩
theorem pd__I_I : parseMethodDescriptor "(I)I" = some ⟨[.int], some .int⟩ := by decide +kernel
theorem pd__IICC_C : parseMethodDescriptor "(IICC)C" = some ⟨[.int, .int, .char, .char], some .char⟩ := by decide +kernel
theorem pd__ICC_Ljava_lang_String_ : parseMethodDescriptor "(ICC)Ljava/lang/String;" = some ⟨[.int, .char, .char], some (.object "java/lang/String")⟩ := by decide +kernel
theorem pd__Ljava_lang_String_Ljava_lang_String_Ljava_lang_String_Ljava_lang_String__V : parseMethodDescriptor "(Ljava/lang/String;Ljava/lang/String;Ljava/lang/String;Ljava/lang/String;)V" = some ⟨[(.object "java/lang/String"), (.object "java/lang/String"), (.object "java/lang/String"), (.object "java/lang/String")], none⟩ := by decide +kernel
theorem pd__Ljava_lang_String_Ljava_lang_String__Z : parseMethodDescriptor "(Ljava/lang/String;Ljava/lang/String;)Z" = some ⟨[(.object "java/lang/String"), (.object "java/lang/String")], some .boolean⟩ := by decide +kernel
theorem pd__ICCICC_Z : parseMethodDescriptor "(ICCICC)Z" = some ⟨[.int, .char, .char, .int, .char, .char], some .boolean⟩ := by decide +kernel
theorem ef_rm0 (m : MethodId) (p1 : Int32) (p2 : Int32) (p3 : Int32) (p4 : Int32) (p5 : Int32) : entryFrame m #[(.int p1), (.int p2), (.int p3), (.int p4), (.int p5)] maxLocals = mkF m 0 #[.val (.int p1), .val (.int p2), .val (.int p3), .val (.int p4), .val (.int p5), .unset, .unset, .unset, .unset, .unset, .unset, .unset, .unset, .unset, .unset, .unset, .unset, .unset, .unset, .unset, .unset, .unset, .unset, .unset, .unset, .unset, .unset, .unset] [] := by first | (simp [entryFrame, mkF, argsToLocals, Value.category, maxLocals]; done) | rfl
def Q_rm0 (Z : State) (p1 : Int32) (p2 : Int32) (p3 : Int32) (p4 : Int32) (p5 : Int32) (cs : Int32) (h0 : Heap) (n0 : Nat) (v : Option Value) (h : Heap) (L : List Loc) : Prop := v = some (.int (1 : Int32)) ∧ Fr n0 L
set_option maxRecDepth 65536 in
set_option maxHeartbeats 40000000 in
theorem rm0 (l : Launch) (Z : State) (a0 : Array Value) (hw : ∀ d ∈ tables_1, d.before a0 Z = true) (ws : List Jvm.Cond) (p1 : Int32) (p2 : Int32) (p3 : Int32) (p4 : Int32) (p5 : Int32) (cs : Int32) (h0 : Heap) (n0 : Nat) (Z0 : n0 ≤ h0.size) (P0 : Sta Z h0 "java/lang/String" "COMPACT_STRINGS" "Z" (.int cs)) (hcs : ¬ (cs = (0 : Int32))) :
    MetFree l x (head1 (Jvm.Cond.code x code maxLocals ret :: ws) room_1) (fun a U => a = #[(.int p1), (.int p2), (.int p3), (.int p4), (.int p5)] ∧ Z.Warmed39 U.vm ∧ U.heap = h0 ∧ CHv Z own_EL U.vm h0) (fun _ _ _ _ _ => True) (fun _ U o U' => ∃ v L, o = .returned v ∧ Q_rm0 Z p1 p2 p3 p4 p5 cs h0 n0 v U'.heap L ∧ ReturnedEndW U o U' L room_1.cells room_1.slots) := by
  refine MetFree.of_bodySF (plainFor_of_name pn_com_example_kodnik_kodnik_store_MappingJoinsPinLaw) hisR ?_
  intro p e s m args below meth c s₁ Bd hml0 hP hK
  obtain ⟨rfl, hZ, hh, hH⟩ := hP
  have hx := Bd.exec
  have hby := Bd.bytes
  have hml : c.maxLocals = 28 := hml0
  have hown : s.vm.findClass "com/example/kodnik/kodnik/store/MappingJoinsPinLaw" = some m.cls := findClass_of_methodNamed Bd.named
  have hnm := (name_of_methodNamed Bd.named Bd.method).1
  have X0 : Stand p l e room_1 (s.setVm s.vm) m #[(.int p1), (.int p2), (.int p3), (.int p4), (.int p5)] below meth c s₁ [] 0 0 := Stand.of_body Bd
  have e0 : s₁.heap = h0 := by rw [← hh, Bd.state]; rfl
  have N0 := Fr.nil n0
  refine own_fw (A' := (s₁.setTop (mkF m 0 #[.val (.int p1), .val (.int p2), .val (.int p3), .val (.int p4), .val (.int p5), .unset, .unset, .unset, .unset, .unset, .unset, .unset, .unset, .unset, .unset, .unset, .unset, .unset, .unset, .unset, .unset, .unset, .unset, .unset, .unset, .unset, .unset, .unset] []))) (fun t k => castTop (ef_rm0 m p1 p2 p3 p4 p5) k) ?_
  have hS : s.Since s.vm h0.size := (State.WarmedH.refl s).since _
  have hk : h0.size ≤ h0.size := Nat.le_refl _
  have hC : CHr Z own_EL s.vm h0 s.vm h0 := CHr.refl hH
  refine own_fw (A' := (s₁.setTop (mkF m 2 #[.val (.int p1), .val (.int p2), .val (.int p3), .val (.int p4), .val (.int p5), .unset, .unset, .unset, .unset, .unset, .unset, .unset, .unset, .unset, .unset, .unset, .unset, .unset, .unset, .unset, .unset, .unset, .unset, .unset, .unset, .unset, .unset, .unset] [(.int p5)]))) (fun t k => XS.iload X0.here hx rfl (hb hby at_0) rfl k) ?_
  refine own_fw (A' := (s₁.setTop (mkF m 5 #[.val (.int p1), .val (.int p2), .val (.int p3), .val (.int p4), .val (.int p5), .unset, .unset, .unset, .unset, .unset, .unset, .unset, .unset, .unset, .unset, .unset, .unset, .unset, .unset, .unset, .unset, .unset, .unset, .unset, .unset, .unset, .unset, .unset] [(.int (255 : Int32)), (.int p5)]))) (fun t k => XS.sipush X0.here hx rfl (hb hby at_2) k) ?_
  refine own_fw (A' := (s₁.setTop (mkF m 6 #[.val (.int p1), .val (.int p2), .val (.int p3), .val (.int p4), .val (.int p5), .unset, .unset, .unset, .unset, .unset, .unset, .unset, .unset, .unset, .unset, .unset, .unset, .unset, .unset, .unset, .unset, .unset, .unset, .unset, .unset, .unset, .unset, .unset] [(.int (p5 &&& (255 : Int32)))]))) (fun t k => XS.iand X0.here hx rfl (hb hby at_5) rfl k) ?_
  refine own_fw (A' := (s₁.setTop (mkF m 7 #[.val (.int p1), .val (.int p2), .val (.int p3), .val (.int p4), .val (.int p5), .unset, .unset, .unset, .unset, .unset, .unset, .unset, .unset, .unset, .unset, .unset, .unset, .unset, .unset, .unset, .unset, .unset, .unset, .unset, .unset, .unset, .unset, .unset] [(.int ((p5 &&& (255 : Int32)).toUInt32.toUInt16.toUInt32.toInt32))]))) (fun t k => XS.i2c X0.here hx rfl (hb hby at_6) rfl k) ?_
  rw [i2c_mask]
  refine own_fw (A' := (s₁.setTop (mkF m 9 #[.val (.int p1), .val (.int p2), .val (.int p3), .val (.int p4), .val (.int p5), .val (.int (p5 &&& (255 : Int32))), .unset, .unset, .unset, .unset, .unset, .unset, .unset, .unset, .unset, .unset, .unset, .unset, .unset, .unset, .unset, .unset, .unset, .unset, .unset, .unset, .unset, .unset] []))) (fun t k => XS.istore X0.here hx rfl (hb hby at_7) rfl (l' := #[.val (.int p1), .val (.int p2), .val (.int p3), .val (.int p4), .val (.int p5), .val (.int (p5 &&& (255 : Int32))), .unset, .unset, .unset, .unset, .unset, .unset, .unset, .unset, .unset, .unset, .unset, .unset, .unset, .unset, .unset, .unset, .unset, .unset, .unset, .unset, .unset, .unset]) rfl k) ?_
  refine own_fw (A' := (s₁.setTop (mkF m 11 #[.val (.int p1), .val (.int p2), .val (.int p3), .val (.int p4), .val (.int p5), .val (.int (p5 &&& (255 : Int32))), .unset, .unset, .unset, .unset, .unset, .unset, .unset, .unset, .unset, .unset, .unset, .unset, .unset, .unset, .unset, .unset, .unset, .unset, .unset, .unset, .unset, .unset] [(.int p5)]))) (fun t k => XS.iload X0.here hx rfl (hb hby at_9) rfl k) ?_
  refine own_fw (A' := (s₁.setTop (mkF m 13 #[.val (.int p1), .val (.int p2), .val (.int p3), .val (.int p4), .val (.int p5), .val (.int (p5 &&& (255 : Int32))), .unset, .unset, .unset, .unset, .unset, .unset, .unset, .unset, .unset, .unset, .unset, .unset, .unset, .unset, .unset, .unset, .unset, .unset, .unset, .unset, .unset, .unset] [(.int (8 : Int32)), (.int p5)]))) (fun t k => XS.bipush X0.here hx rfl (hb hby at_11) k) ?_
  refine own_fw (A' := (s₁.setTop (mkF m 14 #[.val (.int p1), .val (.int p2), .val (.int p3), .val (.int p4), .val (.int p5), .val (.int (p5 &&& (255 : Int32))), .unset, .unset, .unset, .unset, .unset, .unset, .unset, .unset, .unset, .unset, .unset, .unset, .unset, .unset, .unset, .unset, .unset, .unset, .unset, .unset, .unset, .unset] [(.int ((p5.toUInt32 >>> ((8 : Int32) &&& 31).toUInt32).toInt32))]))) (fun t k => XS.iushr X0.here hx rfl (hb hby at_13) rfl k) ?_
  refine own_fw (A' := (s₁.setTop (mkF m 17 #[.val (.int p1), .val (.int p2), .val (.int p3), .val (.int p4), .val (.int p5), .val (.int (p5 &&& (255 : Int32))), .unset, .unset, .unset, .unset, .unset, .unset, .unset, .unset, .unset, .unset, .unset, .unset, .unset, .unset, .unset, .unset, .unset, .unset, .unset, .unset, .unset, .unset] [(.int (255 : Int32)), (.int ((p5.toUInt32 >>> ((8 : Int32) &&& 31).toUInt32).toInt32))]))) (fun t k => XS.sipush X0.here hx rfl (hb hby at_14) k) ?_
  refine own_fw (A' := (s₁.setTop (mkF m 18 #[.val (.int p1), .val (.int p2), .val (.int p3), .val (.int p4), .val (.int p5), .val (.int (p5 &&& (255 : Int32))), .unset, .unset, .unset, .unset, .unset, .unset, .unset, .unset, .unset, .unset, .unset, .unset, .unset, .unset, .unset, .unset, .unset, .unset, .unset, .unset, .unset, .unset] [(.int (((p5.toUInt32 >>> ((8 : Int32) &&& 31).toUInt32).toInt32) &&& (255 : Int32)))]))) (fun t k => XS.iand X0.here hx rfl (hb hby at_17) rfl k) ?_
  refine own_fw (A' := (s₁.setTop (mkF m 19 #[.val (.int p1), .val (.int p2), .val (.int p3), .val (.int p4), .val (.int p5), .val (.int (p5 &&& (255 : Int32))), .unset, .unset, .unset, .unset, .unset, .unset, .unset, .unset, .unset, .unset, .unset, .unset, .unset, .unset, .unset, .unset, .unset, .unset, .unset, .unset, .unset, .unset] [(.int ((((p5.toUInt32 >>> ((8 : Int32) &&& 31).toUInt32).toInt32) &&& (255 : Int32)).toUInt32.toUInt16.toUInt32.toInt32))]))) (fun t k => XS.i2c X0.here hx rfl (hb hby at_18) rfl k) ?_
  rw [i2c_mask]
  refine own_fw (A' := (s₁.setTop (mkF m 21 #[.val (.int p1), .val (.int p2), .val (.int p3), .val (.int p4), .val (.int p5), .val (.int (p5 &&& (255 : Int32))), .val (.int (((p5.toUInt32 >>> ((8 : Int32) &&& 31).toUInt32).toInt32) &&& (255 : Int32))), .unset, .unset, .unset, .unset, .unset, .unset, .unset, .unset, .unset, .unset, .unset, .unset, .unset, .unset, .unset, .unset, .unset, .unset, .unset, .unset, .unset] []))) (fun t k => XS.istore X0.here hx rfl (hb hby at_19) rfl (l' := #[.val (.int p1), .val (.int p2), .val (.int p3), .val (.int p4), .val (.int p5), .val (.int (p5 &&& (255 : Int32))), .val (.int (((p5.toUInt32 >>> ((8 : Int32) &&& 31).toUInt32).toInt32) &&& (255 : Int32))), .unset, .unset, .unset, .unset, .unset, .unset, .unset, .unset, .unset, .unset, .unset, .unset, .unset, .unset, .unset, .unset, .unset, .unset, .unset, .unset, .unset]) rfl k) ?_
  obtain ⟨cx, h_cx⟩ : ∃ z : Int32, z = (p5 &&& (255 : Int32)) := ⟨_, rfl⟩
  rw [← h_cx]
  obtain ⟨cy, h_cy⟩ : ∃ z : Int32, z = (((p5.toUInt32 >>> ((8 : Int32) &&& 31).toUInt32).toInt32) &&& (255 : Int32)) := ⟨_, rfl⟩
  rw [← h_cy]
  have hcx : own_ch cx := by rw [h_cx]; exact own_chM _
  have hcy : own_ch cy := by rw [h_cy]; exact own_chM _
  refine own_fw (A' := (s₁.setTop (mkF m 22 #[.val (.int p1), .val (.int p2), .val (.int p3), .val (.int p4), .val (.int p5), .val (.int cx), .val (.int cy), .unset, .unset, .unset, .unset, .unset, .unset, .unset, .unset, .unset, .unset, .unset, .unset, .unset, .unset, .unset, .unset, .unset, .unset, .unset, .unset, .unset] [(.int p1)]))) (fun t k => XS.iloadN X0.here hx rfl (hb hby at_21) rfl k) ?_
  obtain ⟨_, _, ⟨T1, L1, k1, n1⟩, -, X1, ⟨Lc1, hQ1, l1, y1, z1⟩, st1⟩ := Jvm.LawKit.callS X0 hx (y := (⟨"com/example/kodnik/kodnik/store/MappingJoinsPinLaw", "len", "(I)I"⟩ : MethodName)) hown (mvT hZ (hw _ (List.mem_of_getElem? (i := 0) rfl))) (mvT hZ (hw _ (List.mem_of_getElem? (i := 1) rfl))) (mvT hZ (hw _ (List.mem_of_getElem? (i := 2) rfl))) (mvT hZ (hw _ (List.mem_of_getElem? (i := 3) rfl))) (by decide) (backOf (W := 0) (rmLen l Z a0 hw [] p1 h0 n0 Z0 ) hZ (hw _ (List.mem_of_getElem? (i := 3) rfl)) (hw _ (List.mem_of_getElem? (i := 2) rfl)) (by decide) (by decide)) (g := (mkF m 22 #[.val (.int p1), .val (.int p2), .val (.int p3), .val (.int p4), .val (.int p5), .val (.int cx), .val (.int cy), .unset, .unset, .unset, .unset, .unset, .unset, .unset, .unset, .unset, .unset, .unset, .unset, .unset, .unset, .unset, .unset, .unset, .unset, .unset, .unset, .unset] [(.int p1)])) rfl (by rw [hml]; rfl) (argsL := [(.int p1)]) (rest := []) (lenOf pd__I_I rfl) rfl (by show 2 * 0 + _ ≤ _; exact Nat.le_of_eq rfl) (hb hby at_22) (fun _ _ => ⟨rfl, e0, (by decide : 0 + 0 ≤ _), (by decide : 0 + 0 ≤ _)⟩)
  dsimp only [Pt.U, Pt.locs, Pt.cells, Pt.slots] at X1 l1 y1 z1 st1 hQ1
  subst l1 y1 z1
  obtain ⟨rfl, Nq1, e1⟩ := hQ1
  have Nf1 := Fr.app N0 Nq1
  refine own_fw (A' := (T1.setTop (mkF m 25 #[.val (.int p1), .val (.int p2), .val (.int p3), .val (.int p4), .val (.int p5), .val (.int cx), .val (.int cy), .unset, .unset, .unset, .unset, .unset, .unset, .unset, .unset, .unset, .unset, .unset, .unset, .unset, .unset, .unset, .unset, .unset, .unset, .unset, .unset, .unset] [(.int (own_ln p1))]))) (fun t k => st1 _ k) ?_
  refine own_fw (A' := (T1.setTop (mkF m 27 #[.val (.int p1), .val (.int p2), .val (.int p3), .val (.int p4), .val (.int p5), .val (.int cx), .val (.int cy), .val (.int (own_ln p1)), .unset, .unset, .unset, .unset, .unset, .unset, .unset, .unset, .unset, .unset, .unset, .unset, .unset, .unset, .unset, .unset, .unset, .unset, .unset, .unset] []))) (fun t k => XS.istore X1.here hx rfl (hb hby at_25) rfl (l' := #[.val (.int p1), .val (.int p2), .val (.int p3), .val (.int p4), .val (.int p5), .val (.int cx), .val (.int cy), .val (.int (own_ln p1)), .unset, .unset, .unset, .unset, .unset, .unset, .unset, .unset, .unset, .unset, .unset, .unset, .unset, .unset, .unset, .unset, .unset, .unset, .unset, .unset]) rfl k) ?_
  refine own_fw (A' := (T1.setTop (mkF m 28 #[.val (.int p1), .val (.int p2), .val (.int p3), .val (.int p4), .val (.int p5), .val (.int cx), .val (.int cy), .val (.int (own_ln p1)), .unset, .unset, .unset, .unset, .unset, .unset, .unset, .unset, .unset, .unset, .unset, .unset, .unset, .unset, .unset, .unset, .unset, .unset, .unset, .unset] [(.int p1)]))) (fun t k => XS.iloadN X1.here hx rfl (hb hby at_27) rfl k) ?_
  refine own_fw (A' := (T1.setTop (mkF m 29 #[.val (.int p1), .val (.int p2), .val (.int p3), .val (.int p4), .val (.int p5), .val (.int cx), .val (.int cy), .val (.int (own_ln p1)), .unset, .unset, .unset, .unset, .unset, .unset, .unset, .unset, .unset, .unset, .unset, .unset, .unset, .unset, .unset, .unset, .unset, .unset, .unset, .unset] [(.int (0 : Int32)), (.int p1)]))) (fun t k => XS.iconst X1.here hx rfl (hb hby at_28) k) ?_
  refine own_fw (A' := (T1.setTop (mkF m 31 #[.val (.int p1), .val (.int p2), .val (.int p3), .val (.int p4), .val (.int p5), .val (.int cx), .val (.int cy), .val (.int (own_ln p1)), .unset, .unset, .unset, .unset, .unset, .unset, .unset, .unset, .unset, .unset, .unset, .unset, .unset, .unset, .unset, .unset, .unset, .unset, .unset, .unset] [(.int cx), (.int (0 : Int32)), (.int p1)]))) (fun t k => XS.iload X1.here hx rfl (hb hby at_29) rfl k) ?_
  refine own_fw (A' := (T1.setTop (mkF m 33 #[.val (.int p1), .val (.int p2), .val (.int p3), .val (.int p4), .val (.int p5), .val (.int cx), .val (.int cy), .val (.int (own_ln p1)), .unset, .unset, .unset, .unset, .unset, .unset, .unset, .unset, .unset, .unset, .unset, .unset, .unset, .unset, .unset, .unset, .unset, .unset, .unset, .unset] [(.int cy), (.int cx), (.int (0 : Int32)), (.int p1)]))) (fun t k => XS.iload X1.here hx rfl (hb hby at_31) rfl k) ?_
  obtain ⟨_, _, ⟨T2, L2, k2, n2⟩, -, X2, ⟨Lc2, hQ2, l2, y2, z2⟩, st2⟩ := Jvm.LawKit.callS X1 hx (y := (⟨"com/example/kodnik/kodnik/store/MappingJoinsPinLaw", "pick", "(IICC)C"⟩ : MethodName)) hown (mvT hZ (hw _ (List.mem_of_getElem? (i := 4) rfl))) (mvT hZ (hw _ (List.mem_of_getElem? (i := 5) rfl))) (mvT hZ (hw _ (List.mem_of_getElem? (i := 2) rfl))) (mvT hZ (hw _ (List.mem_of_getElem? (i := 6) rfl))) (by decide) (backOf (W := 0) (rmPick l Z a0 hw [] p1 (0 : Int32) cx cy h0 n0 Z0 hcx hcy) hZ (hw _ (List.mem_of_getElem? (i := 6) rfl)) (hw _ (List.mem_of_getElem? (i := 2) rfl)) (by decide) (by decide)) (g := (mkF m 33 #[.val (.int p1), .val (.int p2), .val (.int p3), .val (.int p4), .val (.int p5), .val (.int cx), .val (.int cy), .val (.int (own_ln p1)), .unset, .unset, .unset, .unset, .unset, .unset, .unset, .unset, .unset, .unset, .unset, .unset, .unset, .unset, .unset, .unset, .unset, .unset, .unset, .unset] [(.int cy), (.int cx), (.int (0 : Int32)), (.int p1)])) rfl (by rw [hml]; rfl) (argsL := [(.int p1), (.int (0 : Int32)), (.int cx), (.int cy)]) (rest := []) (lenOf pd__IICC_C rfl) rfl (by show 2 * 0 + _ ≤ _; exact Nat.le_of_eq rfl) (hb hby at_33) (fun _ _ => ⟨rfl, e1, (by decide : 0 + 0 ≤ _), (by decide : 0 + 0 ≤ _)⟩)
  dsimp only [Pt.U, Pt.locs, Pt.cells, Pt.slots] at X2 l2 y2 z2 st2 hQ2
  subst l2 y2 z2
  obtain ⟨r_2, rfl, Nq2, e2, hr_2⟩ := hQ2
  have Nf2 := Fr.app Nf1 Nq2
  refine own_fw (A' := (T2.setTop (mkF m 36 #[.val (.int p1), .val (.int p2), .val (.int p3), .val (.int p4), .val (.int p5), .val (.int cx), .val (.int cy), .val (.int (own_ln p1)), .unset, .unset, .unset, .unset, .unset, .unset, .unset, .unset, .unset, .unset, .unset, .unset, .unset, .unset, .unset, .unset, .unset, .unset, .unset, .unset] [(.int r_2)]))) (fun t k => st2 _ k) ?_
  refine own_fw (A' := (T2.setTop (mkF m 38 #[.val (.int p1), .val (.int p2), .val (.int p3), .val (.int p4), .val (.int p5), .val (.int cx), .val (.int cy), .val (.int (own_ln p1)), .val (.int r_2), .unset, .unset, .unset, .unset, .unset, .unset, .unset, .unset, .unset, .unset, .unset, .unset, .unset, .unset, .unset, .unset, .unset, .unset, .unset] []))) (fun t k => XS.istore X2.here hx rfl (hb hby at_36) rfl (l' := #[.val (.int p1), .val (.int p2), .val (.int p3), .val (.int p4), .val (.int p5), .val (.int cx), .val (.int cy), .val (.int (own_ln p1)), .val (.int r_2), .unset, .unset, .unset, .unset, .unset, .unset, .unset, .unset, .unset, .unset, .unset, .unset, .unset, .unset, .unset, .unset, .unset, .unset, .unset]) rfl k) ?_
  refine own_fw (A' := (T2.setTop (mkF m 39 #[.val (.int p1), .val (.int p2), .val (.int p3), .val (.int p4), .val (.int p5), .val (.int cx), .val (.int cy), .val (.int (own_ln p1)), .val (.int r_2), .unset, .unset, .unset, .unset, .unset, .unset, .unset, .unset, .unset, .unset, .unset, .unset, .unset, .unset, .unset, .unset, .unset, .unset, .unset] [(.int p1)]))) (fun t k => XS.iloadN X2.here hx rfl (hb hby at_38) rfl k) ?_
  refine own_fw (A' := (T2.setTop (mkF m 40 #[.val (.int p1), .val (.int p2), .val (.int p3), .val (.int p4), .val (.int p5), .val (.int cx), .val (.int cy), .val (.int (own_ln p1)), .val (.int r_2), .unset, .unset, .unset, .unset, .unset, .unset, .unset, .unset, .unset, .unset, .unset, .unset, .unset, .unset, .unset, .unset, .unset, .unset, .unset] [(.int (1 : Int32)), (.int p1)]))) (fun t k => XS.iconst X2.here hx rfl (hb hby at_39) k) ?_
  refine own_fw (A' := (T2.setTop (mkF m 42 #[.val (.int p1), .val (.int p2), .val (.int p3), .val (.int p4), .val (.int p5), .val (.int cx), .val (.int cy), .val (.int (own_ln p1)), .val (.int r_2), .unset, .unset, .unset, .unset, .unset, .unset, .unset, .unset, .unset, .unset, .unset, .unset, .unset, .unset, .unset, .unset, .unset, .unset, .unset] [(.int cx), (.int (1 : Int32)), (.int p1)]))) (fun t k => XS.iload X2.here hx rfl (hb hby at_40) rfl k) ?_
  refine own_fw (A' := (T2.setTop (mkF m 44 #[.val (.int p1), .val (.int p2), .val (.int p3), .val (.int p4), .val (.int p5), .val (.int cx), .val (.int cy), .val (.int (own_ln p1)), .val (.int r_2), .unset, .unset, .unset, .unset, .unset, .unset, .unset, .unset, .unset, .unset, .unset, .unset, .unset, .unset, .unset, .unset, .unset, .unset, .unset] [(.int cy), (.int cx), (.int (1 : Int32)), (.int p1)]))) (fun t k => XS.iload X2.here hx rfl (hb hby at_42) rfl k) ?_
  obtain ⟨_, _, ⟨T3, L3, k3, n3⟩, -, X3, ⟨Lc3, hQ3, l3, y3, z3⟩, st3⟩ := Jvm.LawKit.callS X2 hx (y := (⟨"com/example/kodnik/kodnik/store/MappingJoinsPinLaw", "pick", "(IICC)C"⟩ : MethodName)) hown (mvT hZ (hw _ (List.mem_of_getElem? (i := 4) rfl))) (mvT hZ (hw _ (List.mem_of_getElem? (i := 5) rfl))) (mvT hZ (hw _ (List.mem_of_getElem? (i := 2) rfl))) (mvT hZ (hw _ (List.mem_of_getElem? (i := 6) rfl))) (by decide) (backOf (W := 0) (rmPick l Z a0 hw [] p1 (1 : Int32) cx cy h0 n0 Z0 hcx hcy) hZ (hw _ (List.mem_of_getElem? (i := 6) rfl)) (hw _ (List.mem_of_getElem? (i := 2) rfl)) (by decide) (by decide)) (g := (mkF m 44 #[.val (.int p1), .val (.int p2), .val (.int p3), .val (.int p4), .val (.int p5), .val (.int cx), .val (.int cy), .val (.int (own_ln p1)), .val (.int r_2), .unset, .unset, .unset, .unset, .unset, .unset, .unset, .unset, .unset, .unset, .unset, .unset, .unset, .unset, .unset, .unset, .unset, .unset, .unset] [(.int cy), (.int cx), (.int (1 : Int32)), (.int p1)])) rfl (by rw [hml]; rfl) (argsL := [(.int p1), (.int (1 : Int32)), (.int cx), (.int cy)]) (rest := []) (lenOf pd__IICC_C rfl) rfl (by show 2 * 0 + _ ≤ _; exact Nat.le_of_eq rfl) (hb hby at_44) (fun _ _ => ⟨rfl, e2, (by decide : 0 + 0 ≤ _), (by decide : 0 + 0 ≤ _)⟩)
  dsimp only [Pt.U, Pt.locs, Pt.cells, Pt.slots] at X3 l3 y3 z3 st3 hQ3
  subst l3 y3 z3
  obtain ⟨r_3, rfl, Nq3, e3, hr_3⟩ := hQ3
  have Nf3 := Fr.app Nf2 Nq3
  refine own_fw (A' := (T3.setTop (mkF m 47 #[.val (.int p1), .val (.int p2), .val (.int p3), .val (.int p4), .val (.int p5), .val (.int cx), .val (.int cy), .val (.int (own_ln p1)), .val (.int r_2), .unset, .unset, .unset, .unset, .unset, .unset, .unset, .unset, .unset, .unset, .unset, .unset, .unset, .unset, .unset, .unset, .unset, .unset, .unset] [(.int r_3)]))) (fun t k => st3 _ k) ?_
  refine own_fw (A' := (T3.setTop (mkF m 49 #[.val (.int p1), .val (.int p2), .val (.int p3), .val (.int p4), .val (.int p5), .val (.int cx), .val (.int cy), .val (.int (own_ln p1)), .val (.int r_2), .val (.int r_3), .unset, .unset, .unset, .unset, .unset, .unset, .unset, .unset, .unset, .unset, .unset, .unset, .unset, .unset, .unset, .unset, .unset, .unset] []))) (fun t k => XS.istore X3.here hx rfl (hb hby at_47) rfl (l' := #[.val (.int p1), .val (.int p2), .val (.int p3), .val (.int p4), .val (.int p5), .val (.int cx), .val (.int cy), .val (.int (own_ln p1)), .val (.int r_2), .val (.int r_3), .unset, .unset, .unset, .unset, .unset, .unset, .unset, .unset, .unset, .unset, .unset, .unset, .unset, .unset, .unset, .unset, .unset, .unset]) rfl k) ?_
  refine own_fw (A' := (T3.setTop (mkF m 50 #[.val (.int p1), .val (.int p2), .val (.int p3), .val (.int p4), .val (.int p5), .val (.int cx), .val (.int cy), .val (.int (own_ln p1)), .val (.int r_2), .val (.int r_3), .unset, .unset, .unset, .unset, .unset, .unset, .unset, .unset, .unset, .unset, .unset, .unset, .unset, .unset, .unset, .unset, .unset, .unset] [(.int p2)]))) (fun t k => XS.iloadN X3.here hx rfl (hb hby at_49) rfl k) ?_
  obtain ⟨_, _, ⟨T4, L4, k4, n4⟩, -, X4, ⟨Lc4, hQ4, l4, y4, z4⟩, st4⟩ := Jvm.LawKit.callS X3 hx (y := (⟨"com/example/kodnik/kodnik/store/MappingJoinsPinLaw", "len", "(I)I"⟩ : MethodName)) hown (mvT hZ (hw _ (List.mem_of_getElem? (i := 0) rfl))) (mvT hZ (hw _ (List.mem_of_getElem? (i := 1) rfl))) (mvT hZ (hw _ (List.mem_of_getElem? (i := 2) rfl))) (mvT hZ (hw _ (List.mem_of_getElem? (i := 3) rfl))) (by decide) (backOf (W := 0) (rmLen l Z a0 hw [] p2 h0 n0 Z0 ) hZ (hw _ (List.mem_of_getElem? (i := 3) rfl)) (hw _ (List.mem_of_getElem? (i := 2) rfl)) (by decide) (by decide)) (g := (mkF m 50 #[.val (.int p1), .val (.int p2), .val (.int p3), .val (.int p4), .val (.int p5), .val (.int cx), .val (.int cy), .val (.int (own_ln p1)), .val (.int r_2), .val (.int r_3), .unset, .unset, .unset, .unset, .unset, .unset, .unset, .unset, .unset, .unset, .unset, .unset, .unset, .unset, .unset, .unset, .unset, .unset] [(.int p2)])) rfl (by rw [hml]; rfl) (argsL := [(.int p2)]) (rest := []) (lenOf pd__I_I rfl) rfl (by show 2 * 0 + _ ≤ _; exact Nat.le_of_eq rfl) (hb hby at_50) (fun _ _ => ⟨rfl, e3, (by decide : 0 + 0 ≤ _), (by decide : 0 + 0 ≤ _)⟩)
  dsimp only [Pt.U, Pt.locs, Pt.cells, Pt.slots] at X4 l4 y4 z4 st4 hQ4
  subst l4 y4 z4
  obtain ⟨rfl, Nq4, e4⟩ := hQ4
  have Nf4 := Fr.app Nf3 Nq4
  refine own_fw (A' := (T4.setTop (mkF m 53 #[.val (.int p1), .val (.int p2), .val (.int p3), .val (.int p4), .val (.int p5), .val (.int cx), .val (.int cy), .val (.int (own_ln p1)), .val (.int r_2), .val (.int r_3), .unset, .unset, .unset, .unset, .unset, .unset, .unset, .unset, .unset, .unset, .unset, .unset, .unset, .unset, .unset, .unset, .unset, .unset] [(.int (own_ln p2))]))) (fun t k => st4 _ k) ?_
  refine own_fw (A' := (T4.setTop (mkF m 55 #[.val (.int p1), .val (.int p2), .val (.int p3), .val (.int p4), .val (.int p5), .val (.int cx), .val (.int cy), .val (.int (own_ln p1)), .val (.int r_2), .val (.int r_3), .val (.int (own_ln p2)), .unset, .unset, .unset, .unset, .unset, .unset, .unset, .unset, .unset, .unset, .unset, .unset, .unset, .unset, .unset, .unset, .unset] []))) (fun t k => XS.istore X4.here hx rfl (hb hby at_53) rfl (l' := #[.val (.int p1), .val (.int p2), .val (.int p3), .val (.int p4), .val (.int p5), .val (.int cx), .val (.int cy), .val (.int (own_ln p1)), .val (.int r_2), .val (.int r_3), .val (.int (own_ln p2)), .unset, .unset, .unset, .unset, .unset, .unset, .unset, .unset, .unset, .unset, .unset, .unset, .unset, .unset, .unset, .unset, .unset]) rfl k) ?_
  refine own_fw (A' := (T4.setTop (mkF m 56 #[.val (.int p1), .val (.int p2), .val (.int p3), .val (.int p4), .val (.int p5), .val (.int cx), .val (.int cy), .val (.int (own_ln p1)), .val (.int r_2), .val (.int r_3), .val (.int (own_ln p2)), .unset, .unset, .unset, .unset, .unset, .unset, .unset, .unset, .unset, .unset, .unset, .unset, .unset, .unset, .unset, .unset, .unset] [(.int p2)]))) (fun t k => XS.iloadN X4.here hx rfl (hb hby at_55) rfl k) ?_
  refine own_fw (A' := (T4.setTop (mkF m 57 #[.val (.int p1), .val (.int p2), .val (.int p3), .val (.int p4), .val (.int p5), .val (.int cx), .val (.int cy), .val (.int (own_ln p1)), .val (.int r_2), .val (.int r_3), .val (.int (own_ln p2)), .unset, .unset, .unset, .unset, .unset, .unset, .unset, .unset, .unset, .unset, .unset, .unset, .unset, .unset, .unset, .unset, .unset] [(.int (0 : Int32)), (.int p2)]))) (fun t k => XS.iconst X4.here hx rfl (hb hby at_56) k) ?_
  refine own_fw (A' := (T4.setTop (mkF m 59 #[.val (.int p1), .val (.int p2), .val (.int p3), .val (.int p4), .val (.int p5), .val (.int cx), .val (.int cy), .val (.int (own_ln p1)), .val (.int r_2), .val (.int r_3), .val (.int (own_ln p2)), .unset, .unset, .unset, .unset, .unset, .unset, .unset, .unset, .unset, .unset, .unset, .unset, .unset, .unset, .unset, .unset, .unset] [(.int cx), (.int (0 : Int32)), (.int p2)]))) (fun t k => XS.iload X4.here hx rfl (hb hby at_57) rfl k) ?_
  refine own_fw (A' := (T4.setTop (mkF m 61 #[.val (.int p1), .val (.int p2), .val (.int p3), .val (.int p4), .val (.int p5), .val (.int cx), .val (.int cy), .val (.int (own_ln p1)), .val (.int r_2), .val (.int r_3), .val (.int (own_ln p2)), .unset, .unset, .unset, .unset, .unset, .unset, .unset, .unset, .unset, .unset, .unset, .unset, .unset, .unset, .unset, .unset, .unset] [(.int cy), (.int cx), (.int (0 : Int32)), (.int p2)]))) (fun t k => XS.iload X4.here hx rfl (hb hby at_59) rfl k) ?_
  obtain ⟨_, _, ⟨T5, L5, k5, n5⟩, -, X5, ⟨Lc5, hQ5, l5, y5, z5⟩, st5⟩ := Jvm.LawKit.callS X4 hx (y := (⟨"com/example/kodnik/kodnik/store/MappingJoinsPinLaw", "pick", "(IICC)C"⟩ : MethodName)) hown (mvT hZ (hw _ (List.mem_of_getElem? (i := 4) rfl))) (mvT hZ (hw _ (List.mem_of_getElem? (i := 5) rfl))) (mvT hZ (hw _ (List.mem_of_getElem? (i := 2) rfl))) (mvT hZ (hw _ (List.mem_of_getElem? (i := 6) rfl))) (by decide) (backOf (W := 0) (rmPick l Z a0 hw [] p2 (0 : Int32) cx cy h0 n0 Z0 hcx hcy) hZ (hw _ (List.mem_of_getElem? (i := 6) rfl)) (hw _ (List.mem_of_getElem? (i := 2) rfl)) (by decide) (by decide)) (g := (mkF m 61 #[.val (.int p1), .val (.int p2), .val (.int p3), .val (.int p4), .val (.int p5), .val (.int cx), .val (.int cy), .val (.int (own_ln p1)), .val (.int r_2), .val (.int r_3), .val (.int (own_ln p2)), .unset, .unset, .unset, .unset, .unset, .unset, .unset, .unset, .unset, .unset, .unset, .unset, .unset, .unset, .unset, .unset, .unset] [(.int cy), (.int cx), (.int (0 : Int32)), (.int p2)])) rfl (by rw [hml]; rfl) (argsL := [(.int p2), (.int (0 : Int32)), (.int cx), (.int cy)]) (rest := []) (lenOf pd__IICC_C rfl) rfl (by show 2 * 0 + _ ≤ _; exact Nat.le_of_eq rfl) (hb hby at_61) (fun _ _ => ⟨rfl, e4, (by decide : 0 + 0 ≤ _), (by decide : 0 + 0 ≤ _)⟩)
  dsimp only [Pt.U, Pt.locs, Pt.cells, Pt.slots] at X5 l5 y5 z5 st5 hQ5
  subst l5 y5 z5
  obtain ⟨r_5, rfl, Nq5, e5, hr_5⟩ := hQ5
  have Nf5 := Fr.app Nf4 Nq5
  refine own_fw (A' := (T5.setTop (mkF m 64 #[.val (.int p1), .val (.int p2), .val (.int p3), .val (.int p4), .val (.int p5), .val (.int cx), .val (.int cy), .val (.int (own_ln p1)), .val (.int r_2), .val (.int r_3), .val (.int (own_ln p2)), .unset, .unset, .unset, .unset, .unset, .unset, .unset, .unset, .unset, .unset, .unset, .unset, .unset, .unset, .unset, .unset, .unset] [(.int r_5)]))) (fun t k => st5 _ k) ?_
  refine own_fw (A' := (T5.setTop (mkF m 66 #[.val (.int p1), .val (.int p2), .val (.int p3), .val (.int p4), .val (.int p5), .val (.int cx), .val (.int cy), .val (.int (own_ln p1)), .val (.int r_2), .val (.int r_3), .val (.int (own_ln p2)), .val (.int r_5), .unset, .unset, .unset, .unset, .unset, .unset, .unset, .unset, .unset, .unset, .unset, .unset, .unset, .unset, .unset, .unset] []))) (fun t k => XS.istore X5.here hx rfl (hb hby at_64) rfl (l' := #[.val (.int p1), .val (.int p2), .val (.int p3), .val (.int p4), .val (.int p5), .val (.int cx), .val (.int cy), .val (.int (own_ln p1)), .val (.int r_2), .val (.int r_3), .val (.int (own_ln p2)), .val (.int r_5), .unset, .unset, .unset, .unset, .unset, .unset, .unset, .unset, .unset, .unset, .unset, .unset, .unset, .unset, .unset, .unset]) rfl k) ?_
  refine own_fw (A' := (T5.setTop (mkF m 67 #[.val (.int p1), .val (.int p2), .val (.int p3), .val (.int p4), .val (.int p5), .val (.int cx), .val (.int cy), .val (.int (own_ln p1)), .val (.int r_2), .val (.int r_3), .val (.int (own_ln p2)), .val (.int r_5), .unset, .unset, .unset, .unset, .unset, .unset, .unset, .unset, .unset, .unset, .unset, .unset, .unset, .unset, .unset, .unset] [(.int p2)]))) (fun t k => XS.iloadN X5.here hx rfl (hb hby at_66) rfl k) ?_
  refine own_fw (A' := (T5.setTop (mkF m 68 #[.val (.int p1), .val (.int p2), .val (.int p3), .val (.int p4), .val (.int p5), .val (.int cx), .val (.int cy), .val (.int (own_ln p1)), .val (.int r_2), .val (.int r_3), .val (.int (own_ln p2)), .val (.int r_5), .unset, .unset, .unset, .unset, .unset, .unset, .unset, .unset, .unset, .unset, .unset, .unset, .unset, .unset, .unset, .unset] [(.int (1 : Int32)), (.int p2)]))) (fun t k => XS.iconst X5.here hx rfl (hb hby at_67) k) ?_
  refine own_fw (A' := (T5.setTop (mkF m 70 #[.val (.int p1), .val (.int p2), .val (.int p3), .val (.int p4), .val (.int p5), .val (.int cx), .val (.int cy), .val (.int (own_ln p1)), .val (.int r_2), .val (.int r_3), .val (.int (own_ln p2)), .val (.int r_5), .unset, .unset, .unset, .unset, .unset, .unset, .unset, .unset, .unset, .unset, .unset, .unset, .unset, .unset, .unset, .unset] [(.int cx), (.int (1 : Int32)), (.int p2)]))) (fun t k => XS.iload X5.here hx rfl (hb hby at_68) rfl k) ?_
  refine own_fw (A' := (T5.setTop (mkF m 72 #[.val (.int p1), .val (.int p2), .val (.int p3), .val (.int p4), .val (.int p5), .val (.int cx), .val (.int cy), .val (.int (own_ln p1)), .val (.int r_2), .val (.int r_3), .val (.int (own_ln p2)), .val (.int r_5), .unset, .unset, .unset, .unset, .unset, .unset, .unset, .unset, .unset, .unset, .unset, .unset, .unset, .unset, .unset, .unset] [(.int cy), (.int cx), (.int (1 : Int32)), (.int p2)]))) (fun t k => XS.iload X5.here hx rfl (hb hby at_70) rfl k) ?_
  obtain ⟨_, _, ⟨T6, L6, k6, n6⟩, -, X6, ⟨Lc6, hQ6, l6, y6, z6⟩, st6⟩ := Jvm.LawKit.callS X5 hx (y := (⟨"com/example/kodnik/kodnik/store/MappingJoinsPinLaw", "pick", "(IICC)C"⟩ : MethodName)) hown (mvT hZ (hw _ (List.mem_of_getElem? (i := 4) rfl))) (mvT hZ (hw _ (List.mem_of_getElem? (i := 5) rfl))) (mvT hZ (hw _ (List.mem_of_getElem? (i := 2) rfl))) (mvT hZ (hw _ (List.mem_of_getElem? (i := 6) rfl))) (by decide) (backOf (W := 0) (rmPick l Z a0 hw [] p2 (1 : Int32) cx cy h0 n0 Z0 hcx hcy) hZ (hw _ (List.mem_of_getElem? (i := 6) rfl)) (hw _ (List.mem_of_getElem? (i := 2) rfl)) (by decide) (by decide)) (g := (mkF m 72 #[.val (.int p1), .val (.int p2), .val (.int p3), .val (.int p4), .val (.int p5), .val (.int cx), .val (.int cy), .val (.int (own_ln p1)), .val (.int r_2), .val (.int r_3), .val (.int (own_ln p2)), .val (.int r_5), .unset, .unset, .unset, .unset, .unset, .unset, .unset, .unset, .unset, .unset, .unset, .unset, .unset, .unset, .unset, .unset] [(.int cy), (.int cx), (.int (1 : Int32)), (.int p2)])) rfl (by rw [hml]; rfl) (argsL := [(.int p2), (.int (1 : Int32)), (.int cx), (.int cy)]) (rest := []) (lenOf pd__IICC_C rfl) rfl (by show 2 * 0 + _ ≤ _; exact Nat.le_of_eq rfl) (hb hby at_72) (fun _ _ => ⟨rfl, e5, (by decide : 0 + 0 ≤ _), (by decide : 0 + 0 ≤ _)⟩)
  dsimp only [Pt.U, Pt.locs, Pt.cells, Pt.slots] at X6 l6 y6 z6 st6 hQ6
  subst l6 y6 z6
  obtain ⟨r_6, rfl, Nq6, e6, hr_6⟩ := hQ6
  have Nf6 := Fr.app Nf5 Nq6
  refine own_fw (A' := (T6.setTop (mkF m 75 #[.val (.int p1), .val (.int p2), .val (.int p3), .val (.int p4), .val (.int p5), .val (.int cx), .val (.int cy), .val (.int (own_ln p1)), .val (.int r_2), .val (.int r_3), .val (.int (own_ln p2)), .val (.int r_5), .unset, .unset, .unset, .unset, .unset, .unset, .unset, .unset, .unset, .unset, .unset, .unset, .unset, .unset, .unset, .unset] [(.int r_6)]))) (fun t k => st6 _ k) ?_
  refine own_fw (A' := (T6.setTop (mkF m 77 #[.val (.int p1), .val (.int p2), .val (.int p3), .val (.int p4), .val (.int p5), .val (.int cx), .val (.int cy), .val (.int (own_ln p1)), .val (.int r_2), .val (.int r_3), .val (.int (own_ln p2)), .val (.int r_5), .val (.int r_6), .unset, .unset, .unset, .unset, .unset, .unset, .unset, .unset, .unset, .unset, .unset, .unset, .unset, .unset, .unset] []))) (fun t k => XS.istore X6.here hx rfl (hb hby at_75) rfl (l' := #[.val (.int p1), .val (.int p2), .val (.int p3), .val (.int p4), .val (.int p5), .val (.int cx), .val (.int cy), .val (.int (own_ln p1)), .val (.int r_2), .val (.int r_3), .val (.int (own_ln p2)), .val (.int r_5), .val (.int r_6), .unset, .unset, .unset, .unset, .unset, .unset, .unset, .unset, .unset, .unset, .unset, .unset, .unset, .unset, .unset]) rfl k) ?_
  refine own_fw (A' := (T6.setTop (mkF m 78 #[.val (.int p1), .val (.int p2), .val (.int p3), .val (.int p4), .val (.int p5), .val (.int cx), .val (.int cy), .val (.int (own_ln p1)), .val (.int r_2), .val (.int r_3), .val (.int (own_ln p2)), .val (.int r_5), .val (.int r_6), .unset, .unset, .unset, .unset, .unset, .unset, .unset, .unset, .unset, .unset, .unset, .unset, .unset, .unset, .unset] [(.int p3)]))) (fun t k => XS.iloadN X6.here hx rfl (hb hby at_77) rfl k) ?_
  obtain ⟨_, _, ⟨T7, L7, k7, n7⟩, -, X7, ⟨Lc7, hQ7, l7, y7, z7⟩, st7⟩ := Jvm.LawKit.callS X6 hx (y := (⟨"com/example/kodnik/kodnik/store/MappingJoinsPinLaw", "len", "(I)I"⟩ : MethodName)) hown (mvT hZ (hw _ (List.mem_of_getElem? (i := 0) rfl))) (mvT hZ (hw _ (List.mem_of_getElem? (i := 1) rfl))) (mvT hZ (hw _ (List.mem_of_getElem? (i := 2) rfl))) (mvT hZ (hw _ (List.mem_of_getElem? (i := 3) rfl))) (by decide) (backOf (W := 0) (rmLen l Z a0 hw [] p3 h0 n0 Z0 ) hZ (hw _ (List.mem_of_getElem? (i := 3) rfl)) (hw _ (List.mem_of_getElem? (i := 2) rfl)) (by decide) (by decide)) (g := (mkF m 78 #[.val (.int p1), .val (.int p2), .val (.int p3), .val (.int p4), .val (.int p5), .val (.int cx), .val (.int cy), .val (.int (own_ln p1)), .val (.int r_2), .val (.int r_3), .val (.int (own_ln p2)), .val (.int r_5), .val (.int r_6), .unset, .unset, .unset, .unset, .unset, .unset, .unset, .unset, .unset, .unset, .unset, .unset, .unset, .unset, .unset] [(.int p3)])) rfl (by rw [hml]; rfl) (argsL := [(.int p3)]) (rest := []) (lenOf pd__I_I rfl) rfl (by show 2 * 0 + _ ≤ _; exact Nat.le_of_eq rfl) (hb hby at_78) (fun _ _ => ⟨rfl, e6, (by decide : 0 + 0 ≤ _), (by decide : 0 + 0 ≤ _)⟩)
  dsimp only [Pt.U, Pt.locs, Pt.cells, Pt.slots] at X7 l7 y7 z7 st7 hQ7
  subst l7 y7 z7
  obtain ⟨rfl, Nq7, e7⟩ := hQ7
  have Nf7 := Fr.app Nf6 Nq7
  refine own_fw (A' := (T7.setTop (mkF m 81 #[.val (.int p1), .val (.int p2), .val (.int p3), .val (.int p4), .val (.int p5), .val (.int cx), .val (.int cy), .val (.int (own_ln p1)), .val (.int r_2), .val (.int r_3), .val (.int (own_ln p2)), .val (.int r_5), .val (.int r_6), .unset, .unset, .unset, .unset, .unset, .unset, .unset, .unset, .unset, .unset, .unset, .unset, .unset, .unset, .unset] [(.int (own_ln p3))]))) (fun t k => st7 _ k) ?_
  refine own_fw (A' := (T7.setTop (mkF m 83 #[.val (.int p1), .val (.int p2), .val (.int p3), .val (.int p4), .val (.int p5), .val (.int cx), .val (.int cy), .val (.int (own_ln p1)), .val (.int r_2), .val (.int r_3), .val (.int (own_ln p2)), .val (.int r_5), .val (.int r_6), .val (.int (own_ln p3)), .unset, .unset, .unset, .unset, .unset, .unset, .unset, .unset, .unset, .unset, .unset, .unset, .unset, .unset] []))) (fun t k => XS.istore X7.here hx rfl (hb hby at_81) rfl (l' := #[.val (.int p1), .val (.int p2), .val (.int p3), .val (.int p4), .val (.int p5), .val (.int cx), .val (.int cy), .val (.int (own_ln p1)), .val (.int r_2), .val (.int r_3), .val (.int (own_ln p2)), .val (.int r_5), .val (.int r_6), .val (.int (own_ln p3)), .unset, .unset, .unset, .unset, .unset, .unset, .unset, .unset, .unset, .unset, .unset, .unset, .unset, .unset]) rfl k) ?_
  refine own_fw (A' := (T7.setTop (mkF m 84 #[.val (.int p1), .val (.int p2), .val (.int p3), .val (.int p4), .val (.int p5), .val (.int cx), .val (.int cy), .val (.int (own_ln p1)), .val (.int r_2), .val (.int r_3), .val (.int (own_ln p2)), .val (.int r_5), .val (.int r_6), .val (.int (own_ln p3)), .unset, .unset, .unset, .unset, .unset, .unset, .unset, .unset, .unset, .unset, .unset, .unset, .unset, .unset] [(.int p3)]))) (fun t k => XS.iloadN X7.here hx rfl (hb hby at_83) rfl k) ?_
  refine own_fw (A' := (T7.setTop (mkF m 85 #[.val (.int p1), .val (.int p2), .val (.int p3), .val (.int p4), .val (.int p5), .val (.int cx), .val (.int cy), .val (.int (own_ln p1)), .val (.int r_2), .val (.int r_3), .val (.int (own_ln p2)), .val (.int r_5), .val (.int r_6), .val (.int (own_ln p3)), .unset, .unset, .unset, .unset, .unset, .unset, .unset, .unset, .unset, .unset, .unset, .unset, .unset, .unset] [(.int (0 : Int32)), (.int p3)]))) (fun t k => XS.iconst X7.here hx rfl (hb hby at_84) k) ?_
  refine own_fw (A' := (T7.setTop (mkF m 87 #[.val (.int p1), .val (.int p2), .val (.int p3), .val (.int p4), .val (.int p5), .val (.int cx), .val (.int cy), .val (.int (own_ln p1)), .val (.int r_2), .val (.int r_3), .val (.int (own_ln p2)), .val (.int r_5), .val (.int r_6), .val (.int (own_ln p3)), .unset, .unset, .unset, .unset, .unset, .unset, .unset, .unset, .unset, .unset, .unset, .unset, .unset, .unset] [(.int cx), (.int (0 : Int32)), (.int p3)]))) (fun t k => XS.iload X7.here hx rfl (hb hby at_85) rfl k) ?_
  refine own_fw (A' := (T7.setTop (mkF m 89 #[.val (.int p1), .val (.int p2), .val (.int p3), .val (.int p4), .val (.int p5), .val (.int cx), .val (.int cy), .val (.int (own_ln p1)), .val (.int r_2), .val (.int r_3), .val (.int (own_ln p2)), .val (.int r_5), .val (.int r_6), .val (.int (own_ln p3)), .unset, .unset, .unset, .unset, .unset, .unset, .unset, .unset, .unset, .unset, .unset, .unset, .unset, .unset] [(.int cy), (.int cx), (.int (0 : Int32)), (.int p3)]))) (fun t k => XS.iload X7.here hx rfl (hb hby at_87) rfl k) ?_
  obtain ⟨_, _, ⟨T8, L8, k8, n8⟩, -, X8, ⟨Lc8, hQ8, l8, y8, z8⟩, st8⟩ := Jvm.LawKit.callS X7 hx (y := (⟨"com/example/kodnik/kodnik/store/MappingJoinsPinLaw", "pick", "(IICC)C"⟩ : MethodName)) hown (mvT hZ (hw _ (List.mem_of_getElem? (i := 4) rfl))) (mvT hZ (hw _ (List.mem_of_getElem? (i := 5) rfl))) (mvT hZ (hw _ (List.mem_of_getElem? (i := 2) rfl))) (mvT hZ (hw _ (List.mem_of_getElem? (i := 6) rfl))) (by decide) (backOf (W := 0) (rmPick l Z a0 hw [] p3 (0 : Int32) cx cy h0 n0 Z0 hcx hcy) hZ (hw _ (List.mem_of_getElem? (i := 6) rfl)) (hw _ (List.mem_of_getElem? (i := 2) rfl)) (by decide) (by decide)) (g := (mkF m 89 #[.val (.int p1), .val (.int p2), .val (.int p3), .val (.int p4), .val (.int p5), .val (.int cx), .val (.int cy), .val (.int (own_ln p1)), .val (.int r_2), .val (.int r_3), .val (.int (own_ln p2)), .val (.int r_5), .val (.int r_6), .val (.int (own_ln p3)), .unset, .unset, .unset, .unset, .unset, .unset, .unset, .unset, .unset, .unset, .unset, .unset, .unset, .unset] [(.int cy), (.int cx), (.int (0 : Int32)), (.int p3)])) rfl (by rw [hml]; rfl) (argsL := [(.int p3), (.int (0 : Int32)), (.int cx), (.int cy)]) (rest := []) (lenOf pd__IICC_C rfl) rfl (by show 2 * 0 + _ ≤ _; exact Nat.le_of_eq rfl) (hb hby at_89) (fun _ _ => ⟨rfl, e7, (by decide : 0 + 0 ≤ _), (by decide : 0 + 0 ≤ _)⟩)
  dsimp only [Pt.U, Pt.locs, Pt.cells, Pt.slots] at X8 l8 y8 z8 st8 hQ8
  subst l8 y8 z8
  obtain ⟨r_8, rfl, Nq8, e8, hr_8⟩ := hQ8
  have Nf8 := Fr.app Nf7 Nq8
  refine own_fw (A' := (T8.setTop (mkF m 92 #[.val (.int p1), .val (.int p2), .val (.int p3), .val (.int p4), .val (.int p5), .val (.int cx), .val (.int cy), .val (.int (own_ln p1)), .val (.int r_2), .val (.int r_3), .val (.int (own_ln p2)), .val (.int r_5), .val (.int r_6), .val (.int (own_ln p3)), .unset, .unset, .unset, .unset, .unset, .unset, .unset, .unset, .unset, .unset, .unset, .unset, .unset, .unset] [(.int r_8)]))) (fun t k => st8 _ k) ?_
  refine own_fw (A' := (T8.setTop (mkF m 94 #[.val (.int p1), .val (.int p2), .val (.int p3), .val (.int p4), .val (.int p5), .val (.int cx), .val (.int cy), .val (.int (own_ln p1)), .val (.int r_2), .val (.int r_3), .val (.int (own_ln p2)), .val (.int r_5), .val (.int r_6), .val (.int (own_ln p3)), .val (.int r_8), .unset, .unset, .unset, .unset, .unset, .unset, .unset, .unset, .unset, .unset, .unset, .unset, .unset] []))) (fun t k => XS.istore X8.here hx rfl (hb hby at_92) rfl (l' := #[.val (.int p1), .val (.int p2), .val (.int p3), .val (.int p4), .val (.int p5), .val (.int cx), .val (.int cy), .val (.int (own_ln p1)), .val (.int r_2), .val (.int r_3), .val (.int (own_ln p2)), .val (.int r_5), .val (.int r_6), .val (.int (own_ln p3)), .val (.int r_8), .unset, .unset, .unset, .unset, .unset, .unset, .unset, .unset, .unset, .unset, .unset, .unset, .unset]) rfl k) ?_
  refine own_fw (A' := (T8.setTop (mkF m 95 #[.val (.int p1), .val (.int p2), .val (.int p3), .val (.int p4), .val (.int p5), .val (.int cx), .val (.int cy), .val (.int (own_ln p1)), .val (.int r_2), .val (.int r_3), .val (.int (own_ln p2)), .val (.int r_5), .val (.int r_6), .val (.int (own_ln p3)), .val (.int r_8), .unset, .unset, .unset, .unset, .unset, .unset, .unset, .unset, .unset, .unset, .unset, .unset, .unset] [(.int p3)]))) (fun t k => XS.iloadN X8.here hx rfl (hb hby at_94) rfl k) ?_
  refine own_fw (A' := (T8.setTop (mkF m 96 #[.val (.int p1), .val (.int p2), .val (.int p3), .val (.int p4), .val (.int p5), .val (.int cx), .val (.int cy), .val (.int (own_ln p1)), .val (.int r_2), .val (.int r_3), .val (.int (own_ln p2)), .val (.int r_5), .val (.int r_6), .val (.int (own_ln p3)), .val (.int r_8), .unset, .unset, .unset, .unset, .unset, .unset, .unset, .unset, .unset, .unset, .unset, .unset, .unset] [(.int (1 : Int32)), (.int p3)]))) (fun t k => XS.iconst X8.here hx rfl (hb hby at_95) k) ?_
  refine own_fw (A' := (T8.setTop (mkF m 98 #[.val (.int p1), .val (.int p2), .val (.int p3), .val (.int p4), .val (.int p5), .val (.int cx), .val (.int cy), .val (.int (own_ln p1)), .val (.int r_2), .val (.int r_3), .val (.int (own_ln p2)), .val (.int r_5), .val (.int r_6), .val (.int (own_ln p3)), .val (.int r_8), .unset, .unset, .unset, .unset, .unset, .unset, .unset, .unset, .unset, .unset, .unset, .unset, .unset] [(.int cx), (.int (1 : Int32)), (.int p3)]))) (fun t k => XS.iload X8.here hx rfl (hb hby at_96) rfl k) ?_
  refine own_fw (A' := (T8.setTop (mkF m 100 #[.val (.int p1), .val (.int p2), .val (.int p3), .val (.int p4), .val (.int p5), .val (.int cx), .val (.int cy), .val (.int (own_ln p1)), .val (.int r_2), .val (.int r_3), .val (.int (own_ln p2)), .val (.int r_5), .val (.int r_6), .val (.int (own_ln p3)), .val (.int r_8), .unset, .unset, .unset, .unset, .unset, .unset, .unset, .unset, .unset, .unset, .unset, .unset, .unset] [(.int cy), (.int cx), (.int (1 : Int32)), (.int p3)]))) (fun t k => XS.iload X8.here hx rfl (hb hby at_98) rfl k) ?_
  obtain ⟨_, _, ⟨T9, L9, k9, n9⟩, -, X9, ⟨Lc9, hQ9, l9, y9, z9⟩, st9⟩ := Jvm.LawKit.callS X8 hx (y := (⟨"com/example/kodnik/kodnik/store/MappingJoinsPinLaw", "pick", "(IICC)C"⟩ : MethodName)) hown (mvT hZ (hw _ (List.mem_of_getElem? (i := 4) rfl))) (mvT hZ (hw _ (List.mem_of_getElem? (i := 5) rfl))) (mvT hZ (hw _ (List.mem_of_getElem? (i := 2) rfl))) (mvT hZ (hw _ (List.mem_of_getElem? (i := 6) rfl))) (by decide) (backOf (W := 0) (rmPick l Z a0 hw [] p3 (1 : Int32) cx cy h0 n0 Z0 hcx hcy) hZ (hw _ (List.mem_of_getElem? (i := 6) rfl)) (hw _ (List.mem_of_getElem? (i := 2) rfl)) (by decide) (by decide)) (g := (mkF m 100 #[.val (.int p1), .val (.int p2), .val (.int p3), .val (.int p4), .val (.int p5), .val (.int cx), .val (.int cy), .val (.int (own_ln p1)), .val (.int r_2), .val (.int r_3), .val (.int (own_ln p2)), .val (.int r_5), .val (.int r_6), .val (.int (own_ln p3)), .val (.int r_8), .unset, .unset, .unset, .unset, .unset, .unset, .unset, .unset, .unset, .unset, .unset, .unset, .unset] [(.int cy), (.int cx), (.int (1 : Int32)), (.int p3)])) rfl (by rw [hml]; rfl) (argsL := [(.int p3), (.int (1 : Int32)), (.int cx), (.int cy)]) (rest := []) (lenOf pd__IICC_C rfl) rfl (by show 2 * 0 + _ ≤ _; exact Nat.le_of_eq rfl) (hb hby at_100) (fun _ _ => ⟨rfl, e8, (by decide : 0 + 0 ≤ _), (by decide : 0 + 0 ≤ _)⟩)
  dsimp only [Pt.U, Pt.locs, Pt.cells, Pt.slots] at X9 l9 y9 z9 st9 hQ9
  subst l9 y9 z9
  obtain ⟨r_9, rfl, Nq9, e9, hr_9⟩ := hQ9
  have Nf9 := Fr.app Nf8 Nq9
  refine own_fw (A' := (T9.setTop (mkF m 103 #[.val (.int p1), .val (.int p2), .val (.int p3), .val (.int p4), .val (.int p5), .val (.int cx), .val (.int cy), .val (.int (own_ln p1)), .val (.int r_2), .val (.int r_3), .val (.int (own_ln p2)), .val (.int r_5), .val (.int r_6), .val (.int (own_ln p3)), .val (.int r_8), .unset, .unset, .unset, .unset, .unset, .unset, .unset, .unset, .unset, .unset, .unset, .unset, .unset] [(.int r_9)]))) (fun t k => st9 _ k) ?_
  refine own_fw (A' := (T9.setTop (mkF m 105 #[.val (.int p1), .val (.int p2), .val (.int p3), .val (.int p4), .val (.int p5), .val (.int cx), .val (.int cy), .val (.int (own_ln p1)), .val (.int r_2), .val (.int r_3), .val (.int (own_ln p2)), .val (.int r_5), .val (.int r_6), .val (.int (own_ln p3)), .val (.int r_8), .val (.int r_9), .unset, .unset, .unset, .unset, .unset, .unset, .unset, .unset, .unset, .unset, .unset, .unset] []))) (fun t k => XS.istore X9.here hx rfl (hb hby at_103) rfl (l' := #[.val (.int p1), .val (.int p2), .val (.int p3), .val (.int p4), .val (.int p5), .val (.int cx), .val (.int cy), .val (.int (own_ln p1)), .val (.int r_2), .val (.int r_3), .val (.int (own_ln p2)), .val (.int r_5), .val (.int r_6), .val (.int (own_ln p3)), .val (.int r_8), .val (.int r_9), .unset, .unset, .unset, .unset, .unset, .unset, .unset, .unset, .unset, .unset, .unset, .unset]) rfl k) ?_
  refine own_fw (A' := (T9.setTop (mkF m 106 #[.val (.int p1), .val (.int p2), .val (.int p3), .val (.int p4), .val (.int p5), .val (.int cx), .val (.int cy), .val (.int (own_ln p1)), .val (.int r_2), .val (.int r_3), .val (.int (own_ln p2)), .val (.int r_5), .val (.int r_6), .val (.int (own_ln p3)), .val (.int r_8), .val (.int r_9), .unset, .unset, .unset, .unset, .unset, .unset, .unset, .unset, .unset, .unset, .unset, .unset] [(.int p4)]))) (fun t k => XS.iloadN X9.here hx rfl (hb hby at_105) rfl k) ?_
  obtain ⟨_, _, ⟨T10, L10, k10, n10⟩, -, X10, ⟨Lc10, hQ10, l10, y10, z10⟩, st10⟩ := Jvm.LawKit.callS X9 hx (y := (⟨"com/example/kodnik/kodnik/store/MappingJoinsPinLaw", "len", "(I)I"⟩ : MethodName)) hown (mvT hZ (hw _ (List.mem_of_getElem? (i := 0) rfl))) (mvT hZ (hw _ (List.mem_of_getElem? (i := 1) rfl))) (mvT hZ (hw _ (List.mem_of_getElem? (i := 2) rfl))) (mvT hZ (hw _ (List.mem_of_getElem? (i := 3) rfl))) (by decide) (backOf (W := 0) (rmLen l Z a0 hw [] p4 h0 n0 Z0 ) hZ (hw _ (List.mem_of_getElem? (i := 3) rfl)) (hw _ (List.mem_of_getElem? (i := 2) rfl)) (by decide) (by decide)) (g := (mkF m 106 #[.val (.int p1), .val (.int p2), .val (.int p3), .val (.int p4), .val (.int p5), .val (.int cx), .val (.int cy), .val (.int (own_ln p1)), .val (.int r_2), .val (.int r_3), .val (.int (own_ln p2)), .val (.int r_5), .val (.int r_6), .val (.int (own_ln p3)), .val (.int r_8), .val (.int r_9), .unset, .unset, .unset, .unset, .unset, .unset, .unset, .unset, .unset, .unset, .unset, .unset] [(.int p4)])) rfl (by rw [hml]; rfl) (argsL := [(.int p4)]) (rest := []) (lenOf pd__I_I rfl) rfl (by show 2 * 0 + _ ≤ _; exact Nat.le_of_eq rfl) (hb hby at_106) (fun _ _ => ⟨rfl, e9, (by decide : 0 + 0 ≤ _), (by decide : 0 + 0 ≤ _)⟩)
  dsimp only [Pt.U, Pt.locs, Pt.cells, Pt.slots] at X10 l10 y10 z10 st10 hQ10
  subst l10 y10 z10
  obtain ⟨rfl, Nq10, e10⟩ := hQ10
  have Nf10 := Fr.app Nf9 Nq10
  refine own_fw (A' := (T10.setTop (mkF m 109 #[.val (.int p1), .val (.int p2), .val (.int p3), .val (.int p4), .val (.int p5), .val (.int cx), .val (.int cy), .val (.int (own_ln p1)), .val (.int r_2), .val (.int r_3), .val (.int (own_ln p2)), .val (.int r_5), .val (.int r_6), .val (.int (own_ln p3)), .val (.int r_8), .val (.int r_9), .unset, .unset, .unset, .unset, .unset, .unset, .unset, .unset, .unset, .unset, .unset, .unset] [(.int (own_ln p4))]))) (fun t k => st10 _ k) ?_
  refine own_fw (A' := (T10.setTop (mkF m 111 #[.val (.int p1), .val (.int p2), .val (.int p3), .val (.int p4), .val (.int p5), .val (.int cx), .val (.int cy), .val (.int (own_ln p1)), .val (.int r_2), .val (.int r_3), .val (.int (own_ln p2)), .val (.int r_5), .val (.int r_6), .val (.int (own_ln p3)), .val (.int r_8), .val (.int r_9), .val (.int (own_ln p4)), .unset, .unset, .unset, .unset, .unset, .unset, .unset, .unset, .unset, .unset, .unset] []))) (fun t k => XS.istore X10.here hx rfl (hb hby at_109) rfl (l' := #[.val (.int p1), .val (.int p2), .val (.int p3), .val (.int p4), .val (.int p5), .val (.int cx), .val (.int cy), .val (.int (own_ln p1)), .val (.int r_2), .val (.int r_3), .val (.int (own_ln p2)), .val (.int r_5), .val (.int r_6), .val (.int (own_ln p3)), .val (.int r_8), .val (.int r_9), .val (.int (own_ln p4)), .unset, .unset, .unset, .unset, .unset, .unset, .unset, .unset, .unset, .unset, .unset]) rfl k) ?_
  refine own_fw (A' := (T10.setTop (mkF m 112 #[.val (.int p1), .val (.int p2), .val (.int p3), .val (.int p4), .val (.int p5), .val (.int cx), .val (.int cy), .val (.int (own_ln p1)), .val (.int r_2), .val (.int r_3), .val (.int (own_ln p2)), .val (.int r_5), .val (.int r_6), .val (.int (own_ln p3)), .val (.int r_8), .val (.int r_9), .val (.int (own_ln p4)), .unset, .unset, .unset, .unset, .unset, .unset, .unset, .unset, .unset, .unset, .unset] [(.int p4)]))) (fun t k => XS.iloadN X10.here hx rfl (hb hby at_111) rfl k) ?_
  refine own_fw (A' := (T10.setTop (mkF m 113 #[.val (.int p1), .val (.int p2), .val (.int p3), .val (.int p4), .val (.int p5), .val (.int cx), .val (.int cy), .val (.int (own_ln p1)), .val (.int r_2), .val (.int r_3), .val (.int (own_ln p2)), .val (.int r_5), .val (.int r_6), .val (.int (own_ln p3)), .val (.int r_8), .val (.int r_9), .val (.int (own_ln p4)), .unset, .unset, .unset, .unset, .unset, .unset, .unset, .unset, .unset, .unset, .unset] [(.int (0 : Int32)), (.int p4)]))) (fun t k => XS.iconst X10.here hx rfl (hb hby at_112) k) ?_
  refine own_fw (A' := (T10.setTop (mkF m 115 #[.val (.int p1), .val (.int p2), .val (.int p3), .val (.int p4), .val (.int p5), .val (.int cx), .val (.int cy), .val (.int (own_ln p1)), .val (.int r_2), .val (.int r_3), .val (.int (own_ln p2)), .val (.int r_5), .val (.int r_6), .val (.int (own_ln p3)), .val (.int r_8), .val (.int r_9), .val (.int (own_ln p4)), .unset, .unset, .unset, .unset, .unset, .unset, .unset, .unset, .unset, .unset, .unset] [(.int cx), (.int (0 : Int32)), (.int p4)]))) (fun t k => XS.iload X10.here hx rfl (hb hby at_113) rfl k) ?_
  refine own_fw (A' := (T10.setTop (mkF m 117 #[.val (.int p1), .val (.int p2), .val (.int p3), .val (.int p4), .val (.int p5), .val (.int cx), .val (.int cy), .val (.int (own_ln p1)), .val (.int r_2), .val (.int r_3), .val (.int (own_ln p2)), .val (.int r_5), .val (.int r_6), .val (.int (own_ln p3)), .val (.int r_8), .val (.int r_9), .val (.int (own_ln p4)), .unset, .unset, .unset, .unset, .unset, .unset, .unset, .unset, .unset, .unset, .unset] [(.int cy), (.int cx), (.int (0 : Int32)), (.int p4)]))) (fun t k => XS.iload X10.here hx rfl (hb hby at_115) rfl k) ?_
  obtain ⟨_, _, ⟨T11, L11, k11, n11⟩, -, X11, ⟨Lc11, hQ11, l11, y11, z11⟩, st11⟩ := Jvm.LawKit.callS X10 hx (y := (⟨"com/example/kodnik/kodnik/store/MappingJoinsPinLaw", "pick", "(IICC)C"⟩ : MethodName)) hown (mvT hZ (hw _ (List.mem_of_getElem? (i := 4) rfl))) (mvT hZ (hw _ (List.mem_of_getElem? (i := 5) rfl))) (mvT hZ (hw _ (List.mem_of_getElem? (i := 2) rfl))) (mvT hZ (hw _ (List.mem_of_getElem? (i := 6) rfl))) (by decide) (backOf (W := 0) (rmPick l Z a0 hw [] p4 (0 : Int32) cx cy h0 n0 Z0 hcx hcy) hZ (hw _ (List.mem_of_getElem? (i := 6) rfl)) (hw _ (List.mem_of_getElem? (i := 2) rfl)) (by decide) (by decide)) (g := (mkF m 117 #[.val (.int p1), .val (.int p2), .val (.int p3), .val (.int p4), .val (.int p5), .val (.int cx), .val (.int cy), .val (.int (own_ln p1)), .val (.int r_2), .val (.int r_3), .val (.int (own_ln p2)), .val (.int r_5), .val (.int r_6), .val (.int (own_ln p3)), .val (.int r_8), .val (.int r_9), .val (.int (own_ln p4)), .unset, .unset, .unset, .unset, .unset, .unset, .unset, .unset, .unset, .unset, .unset] [(.int cy), (.int cx), (.int (0 : Int32)), (.int p4)])) rfl (by rw [hml]; rfl) (argsL := [(.int p4), (.int (0 : Int32)), (.int cx), (.int cy)]) (rest := []) (lenOf pd__IICC_C rfl) rfl (by show 2 * 0 + _ ≤ _; exact Nat.le_of_eq rfl) (hb hby at_117) (fun _ _ => ⟨rfl, e10, (by decide : 0 + 0 ≤ _), (by decide : 0 + 0 ≤ _)⟩)
  dsimp only [Pt.U, Pt.locs, Pt.cells, Pt.slots] at X11 l11 y11 z11 st11 hQ11
  subst l11 y11 z11
  obtain ⟨r_11, rfl, Nq11, e11, hr_11⟩ := hQ11
  have Nf11 := Fr.app Nf10 Nq11
  refine own_fw (A' := (T11.setTop (mkF m 120 #[.val (.int p1), .val (.int p2), .val (.int p3), .val (.int p4), .val (.int p5), .val (.int cx), .val (.int cy), .val (.int (own_ln p1)), .val (.int r_2), .val (.int r_3), .val (.int (own_ln p2)), .val (.int r_5), .val (.int r_6), .val (.int (own_ln p3)), .val (.int r_8), .val (.int r_9), .val (.int (own_ln p4)), .unset, .unset, .unset, .unset, .unset, .unset, .unset, .unset, .unset, .unset, .unset] [(.int r_11)]))) (fun t k => st11 _ k) ?_
  refine own_fw (A' := (T11.setTop (mkF m 122 #[.val (.int p1), .val (.int p2), .val (.int p3), .val (.int p4), .val (.int p5), .val (.int cx), .val (.int cy), .val (.int (own_ln p1)), .val (.int r_2), .val (.int r_3), .val (.int (own_ln p2)), .val (.int r_5), .val (.int r_6), .val (.int (own_ln p3)), .val (.int r_8), .val (.int r_9), .val (.int (own_ln p4)), .val (.int r_11), .unset, .unset, .unset, .unset, .unset, .unset, .unset, .unset, .unset, .unset] []))) (fun t k => XS.istore X11.here hx rfl (hb hby at_120) rfl (l' := #[.val (.int p1), .val (.int p2), .val (.int p3), .val (.int p4), .val (.int p5), .val (.int cx), .val (.int cy), .val (.int (own_ln p1)), .val (.int r_2), .val (.int r_3), .val (.int (own_ln p2)), .val (.int r_5), .val (.int r_6), .val (.int (own_ln p3)), .val (.int r_8), .val (.int r_9), .val (.int (own_ln p4)), .val (.int r_11), .unset, .unset, .unset, .unset, .unset, .unset, .unset, .unset, .unset, .unset]) rfl k) ?_
  refine own_fw (A' := (T11.setTop (mkF m 123 #[.val (.int p1), .val (.int p2), .val (.int p3), .val (.int p4), .val (.int p5), .val (.int cx), .val (.int cy), .val (.int (own_ln p1)), .val (.int r_2), .val (.int r_3), .val (.int (own_ln p2)), .val (.int r_5), .val (.int r_6), .val (.int (own_ln p3)), .val (.int r_8), .val (.int r_9), .val (.int (own_ln p4)), .val (.int r_11), .unset, .unset, .unset, .unset, .unset, .unset, .unset, .unset, .unset, .unset] [(.int p4)]))) (fun t k => XS.iloadN X11.here hx rfl (hb hby at_122) rfl k) ?_
  refine own_fw (A' := (T11.setTop (mkF m 124 #[.val (.int p1), .val (.int p2), .val (.int p3), .val (.int p4), .val (.int p5), .val (.int cx), .val (.int cy), .val (.int (own_ln p1)), .val (.int r_2), .val (.int r_3), .val (.int (own_ln p2)), .val (.int r_5), .val (.int r_6), .val (.int (own_ln p3)), .val (.int r_8), .val (.int r_9), .val (.int (own_ln p4)), .val (.int r_11), .unset, .unset, .unset, .unset, .unset, .unset, .unset, .unset, .unset, .unset] [(.int (1 : Int32)), (.int p4)]))) (fun t k => XS.iconst X11.here hx rfl (hb hby at_123) k) ?_
  refine own_fw (A' := (T11.setTop (mkF m 126 #[.val (.int p1), .val (.int p2), .val (.int p3), .val (.int p4), .val (.int p5), .val (.int cx), .val (.int cy), .val (.int (own_ln p1)), .val (.int r_2), .val (.int r_3), .val (.int (own_ln p2)), .val (.int r_5), .val (.int r_6), .val (.int (own_ln p3)), .val (.int r_8), .val (.int r_9), .val (.int (own_ln p4)), .val (.int r_11), .unset, .unset, .unset, .unset, .unset, .unset, .unset, .unset, .unset, .unset] [(.int cx), (.int (1 : Int32)), (.int p4)]))) (fun t k => XS.iload X11.here hx rfl (hb hby at_124) rfl k) ?_
  refine own_fw (A' := (T11.setTop (mkF m 128 #[.val (.int p1), .val (.int p2), .val (.int p3), .val (.int p4), .val (.int p5), .val (.int cx), .val (.int cy), .val (.int (own_ln p1)), .val (.int r_2), .val (.int r_3), .val (.int (own_ln p2)), .val (.int r_5), .val (.int r_6), .val (.int (own_ln p3)), .val (.int r_8), .val (.int r_9), .val (.int (own_ln p4)), .val (.int r_11), .unset, .unset, .unset, .unset, .unset, .unset, .unset, .unset, .unset, .unset] [(.int cy), (.int cx), (.int (1 : Int32)), (.int p4)]))) (fun t k => XS.iload X11.here hx rfl (hb hby at_126) rfl k) ?_
  obtain ⟨_, _, ⟨T12, L12, k12, n12⟩, -, X12, ⟨Lc12, hQ12, l12, y12, z12⟩, st12⟩ := Jvm.LawKit.callS X11 hx (y := (⟨"com/example/kodnik/kodnik/store/MappingJoinsPinLaw", "pick", "(IICC)C"⟩ : MethodName)) hown (mvT hZ (hw _ (List.mem_of_getElem? (i := 4) rfl))) (mvT hZ (hw _ (List.mem_of_getElem? (i := 5) rfl))) (mvT hZ (hw _ (List.mem_of_getElem? (i := 2) rfl))) (mvT hZ (hw _ (List.mem_of_getElem? (i := 6) rfl))) (by decide) (backOf (W := 0) (rmPick l Z a0 hw [] p4 (1 : Int32) cx cy h0 n0 Z0 hcx hcy) hZ (hw _ (List.mem_of_getElem? (i := 6) rfl)) (hw _ (List.mem_of_getElem? (i := 2) rfl)) (by decide) (by decide)) (g := (mkF m 128 #[.val (.int p1), .val (.int p2), .val (.int p3), .val (.int p4), .val (.int p5), .val (.int cx), .val (.int cy), .val (.int (own_ln p1)), .val (.int r_2), .val (.int r_3), .val (.int (own_ln p2)), .val (.int r_5), .val (.int r_6), .val (.int (own_ln p3)), .val (.int r_8), .val (.int r_9), .val (.int (own_ln p4)), .val (.int r_11), .unset, .unset, .unset, .unset, .unset, .unset, .unset, .unset, .unset, .unset] [(.int cy), (.int cx), (.int (1 : Int32)), (.int p4)])) rfl (by rw [hml]; rfl) (argsL := [(.int p4), (.int (1 : Int32)), (.int cx), (.int cy)]) (rest := []) (lenOf pd__IICC_C rfl) rfl (by show 2 * 0 + _ ≤ _; exact Nat.le_of_eq rfl) (hb hby at_128) (fun _ _ => ⟨rfl, e11, (by decide : 0 + 0 ≤ _), (by decide : 0 + 0 ≤ _)⟩)
  dsimp only [Pt.U, Pt.locs, Pt.cells, Pt.slots] at X12 l12 y12 z12 st12 hQ12
  subst l12 y12 z12
  obtain ⟨r_12, rfl, Nq12, e12, hr_12⟩ := hQ12
  have Nf12 := Fr.app Nf11 Nq12
  refine own_fw (A' := (T12.setTop (mkF m 131 #[.val (.int p1), .val (.int p2), .val (.int p3), .val (.int p4), .val (.int p5), .val (.int cx), .val (.int cy), .val (.int (own_ln p1)), .val (.int r_2), .val (.int r_3), .val (.int (own_ln p2)), .val (.int r_5), .val (.int r_6), .val (.int (own_ln p3)), .val (.int r_8), .val (.int r_9), .val (.int (own_ln p4)), .val (.int r_11), .unset, .unset, .unset, .unset, .unset, .unset, .unset, .unset, .unset, .unset] [(.int r_12)]))) (fun t k => st12 _ k) ?_
  refine own_fw (A' := (T12.setTop (mkF m 133 #[.val (.int p1), .val (.int p2), .val (.int p3), .val (.int p4), .val (.int p5), .val (.int cx), .val (.int cy), .val (.int (own_ln p1)), .val (.int r_2), .val (.int r_3), .val (.int (own_ln p2)), .val (.int r_5), .val (.int r_6), .val (.int (own_ln p3)), .val (.int r_8), .val (.int r_9), .val (.int (own_ln p4)), .val (.int r_11), .val (.int r_12), .unset, .unset, .unset, .unset, .unset, .unset, .unset, .unset, .unset] []))) (fun t k => XS.istore X12.here hx rfl (hb hby at_131) rfl (l' := #[.val (.int p1), .val (.int p2), .val (.int p3), .val (.int p4), .val (.int p5), .val (.int cx), .val (.int cy), .val (.int (own_ln p1)), .val (.int r_2), .val (.int r_3), .val (.int (own_ln p2)), .val (.int r_5), .val (.int r_6), .val (.int (own_ln p3)), .val (.int r_8), .val (.int r_9), .val (.int (own_ln p4)), .val (.int r_11), .val (.int r_12), .unset, .unset, .unset, .unset, .unset, .unset, .unset, .unset, .unset]) rfl k) ?_
  refine own_fw (A' := (T12.setTop (mkF m 135 #[.val (.int p1), .val (.int p2), .val (.int p3), .val (.int p4), .val (.int p5), .val (.int cx), .val (.int cy), .val (.int (own_ln p1)), .val (.int r_2), .val (.int r_3), .val (.int (own_ln p2)), .val (.int r_5), .val (.int r_6), .val (.int (own_ln p3)), .val (.int r_8), .val (.int r_9), .val (.int (own_ln p4)), .val (.int r_11), .val (.int r_12), .unset, .unset, .unset, .unset, .unset, .unset, .unset, .unset, .unset] [(.int (own_ln p1))]))) (fun t k => XS.iload X12.here hx rfl (hb hby at_133) rfl k) ?_
  refine own_fw (A' := (T12.setTop (mkF m 137 #[.val (.int p1), .val (.int p2), .val (.int p3), .val (.int p4), .val (.int p5), .val (.int cx), .val (.int cy), .val (.int (own_ln p1)), .val (.int r_2), .val (.int r_3), .val (.int (own_ln p2)), .val (.int r_5), .val (.int r_6), .val (.int (own_ln p3)), .val (.int r_8), .val (.int r_9), .val (.int (own_ln p4)), .val (.int r_11), .val (.int r_12), .unset, .unset, .unset, .unset, .unset, .unset, .unset, .unset, .unset] [(.int r_2), (.int (own_ln p1))]))) (fun t k => XS.iload X12.here hx rfl (hb hby at_135) rfl k) ?_
  refine own_fw (A' := (T12.setTop (mkF m 139 #[.val (.int p1), .val (.int p2), .val (.int p3), .val (.int p4), .val (.int p5), .val (.int cx), .val (.int cy), .val (.int (own_ln p1)), .val (.int r_2), .val (.int r_3), .val (.int (own_ln p2)), .val (.int r_5), .val (.int r_6), .val (.int (own_ln p3)), .val (.int r_8), .val (.int r_9), .val (.int (own_ln p4)), .val (.int r_11), .val (.int r_12), .unset, .unset, .unset, .unset, .unset, .unset, .unset, .unset, .unset] [(.int r_3), (.int r_2), (.int (own_ln p1))]))) (fun t k => XS.iload X12.here hx rfl (hb hby at_137) rfl k) ?_
  obtain ⟨_, _, ⟨T13, L13, k13, n13⟩, -, X13, hS13, gS13, ⟨Lc13, hQ13, l13, y13, z13, r13⟩, st13⟩ := callSS X12 hx (y := (⟨"com/example/kodnik/kodnik/store/MappingJoinsPinLaw", "make", "(ICC)Ljava/lang/String;"⟩ : MethodName)) hown (mvT hZ (hw _ (List.mem_of_getElem? (i := 7) rfl))) (mvT hZ (hw _ (List.mem_of_getElem? (i := 8) rfl))) (mvT hZ (hw _ (List.mem_of_getElem? (i := 2) rfl))) (mvT hZ (hw _ (List.mem_of_getElem? (i := 9) rfl))) (by decide) (backOfSH (W := 0) (rmMake l Z a0 hw [] (own_ln p1) r_2 r_3 cs h0 n0 Z0 P0 hcs hr_2 hr_3) hZ (hw _ (List.mem_of_getElem? (i := 9) rfl)) (hw _ (List.mem_of_getElem? (i := 2) rfl)) (by decide) (by decide) (own_EW hw) hH) (g := (mkF m 139 #[.val (.int p1), .val (.int p2), .val (.int p3), .val (.int p4), .val (.int p5), .val (.int cx), .val (.int cy), .val (.int (own_ln p1)), .val (.int r_2), .val (.int r_3), .val (.int (own_ln p2)), .val (.int r_5), .val (.int r_6), .val (.int (own_ln p3)), .val (.int r_8), .val (.int r_9), .val (.int (own_ln p4)), .val (.int r_11), .val (.int r_12), .unset, .unset, .unset, .unset, .unset, .unset, .unset, .unset, .unset] [(.int r_3), (.int r_2), (.int (own_ln p1))])) rfl (by rw [hml]; rfl) (argsL := [(.int (own_ln p1)), (.int r_2), (.int r_3)]) (rest := []) (lenOf pd__ICC_Ljava_lang_String_ rfl) rfl (by show 2 * 0 + _ ≤ _; exact Nat.le_of_eq rfl) (hb hby at_139) (fun _ _ => ⟨rfl, e12, (by decide : 0 + 6 ≤ _), (by decide : 0 + 12 ≤ _)⟩)
  dsimp only [Pt.U, Pt.locs, Pt.cells, Pt.slots] at X13 l13 y13 z13 st13 hQ13 hS13 gS13 r13
  subst l13 y13 z13
  obtain ⟨X13, hS, hZ', hown⟩ := rebS hS (by rw [e12]; exact hk : _ ≤ T12.heap.size) X13 hS13 gS13 hZ hown
  have hk : T13.heap.size ≤ T13.heap.size := Nat.le_refl _
  obtain ⟨b_13, rfl, Nq13, Kq13, Fq13_0, gb_13⟩ := hQ13
  have Nf13 := Fr.app Nf12 Nq13
  have hC := hC.trans r13
  have hH := hC.1
  have hZ := hZ'
  have K13 : Keep h0 T13.heap [] := (Keep.refl h0 []).trans Kq13 all0
  have sz_b_13 : h0.size ≤ b_13 := Nat.le_trans (Keep.refl h0 []).1 gb_13
  have g_b_13 : n0 ≤ b_13 := Nat.le_trans Z0 gb_13
  have Z13 : n0 ≤ T13.heap.size := Nat.le_trans Z0 Kq13.1
  refine own_fw (A' := (T13.setTop (mkF m 142 #[.val (.int p1), .val (.int p2), .val (.int p3), .val (.int p4), .val (.int p5), .val (.int cx), .val (.int cy), .val (.int (own_ln p1)), .val (.int r_2), .val (.int r_3), .val (.int (own_ln p2)), .val (.int r_5), .val (.int r_6), .val (.int (own_ln p3)), .val (.int r_8), .val (.int r_9), .val (.int (own_ln p4)), .val (.int r_11), .val (.int r_12), .unset, .unset, .unset, .unset, .unset, .unset, .unset, .unset, .unset] [(.ref b_13)]))) (fun t k => st13.trans k) ?_
  refine own_fw (A' := (T13.setTop (mkF m 144 #[.val (.int p1), .val (.int p2), .val (.int p3), .val (.int p4), .val (.int p5), .val (.int cx), .val (.int cy), .val (.int (own_ln p1)), .val (.int r_2), .val (.int r_3), .val (.int (own_ln p2)), .val (.int r_5), .val (.int r_6), .val (.int (own_ln p3)), .val (.int r_8), .val (.int r_9), .val (.int (own_ln p4)), .val (.int r_11), .val (.int r_12), .val (.ref b_13), .unset, .unset, .unset, .unset, .unset, .unset, .unset, .unset] []))) (fun t k => XS.astore X13.here hx rfl (hb hby at_142) rfl rfl (l' := #[.val (.int p1), .val (.int p2), .val (.int p3), .val (.int p4), .val (.int p5), .val (.int cx), .val (.int cy), .val (.int (own_ln p1)), .val (.int r_2), .val (.int r_3), .val (.int (own_ln p2)), .val (.int r_5), .val (.int r_6), .val (.int (own_ln p3)), .val (.int r_8), .val (.int r_9), .val (.int (own_ln p4)), .val (.int r_11), .val (.int r_12), .val (.ref b_13), .unset, .unset, .unset, .unset, .unset, .unset, .unset, .unset]) rfl k) ?_
  refine own_fw (A' := (T13.setTop (mkF m 146 #[.val (.int p1), .val (.int p2), .val (.int p3), .val (.int p4), .val (.int p5), .val (.int cx), .val (.int cy), .val (.int (own_ln p1)), .val (.int r_2), .val (.int r_3), .val (.int (own_ln p2)), .val (.int r_5), .val (.int r_6), .val (.int (own_ln p3)), .val (.int r_8), .val (.int r_9), .val (.int (own_ln p4)), .val (.int r_11), .val (.int r_12), .val (.ref b_13), .unset, .unset, .unset, .unset, .unset, .unset, .unset, .unset] [(.int (own_ln p2))]))) (fun t k => XS.iload X13.here hx rfl (hb hby at_144) rfl k) ?_
  refine own_fw (A' := (T13.setTop (mkF m 148 #[.val (.int p1), .val (.int p2), .val (.int p3), .val (.int p4), .val (.int p5), .val (.int cx), .val (.int cy), .val (.int (own_ln p1)), .val (.int r_2), .val (.int r_3), .val (.int (own_ln p2)), .val (.int r_5), .val (.int r_6), .val (.int (own_ln p3)), .val (.int r_8), .val (.int r_9), .val (.int (own_ln p4)), .val (.int r_11), .val (.int r_12), .val (.ref b_13), .unset, .unset, .unset, .unset, .unset, .unset, .unset, .unset] [(.int r_5), (.int (own_ln p2))]))) (fun t k => XS.iload X13.here hx rfl (hb hby at_146) rfl k) ?_
  refine own_fw (A' := (T13.setTop (mkF m 150 #[.val (.int p1), .val (.int p2), .val (.int p3), .val (.int p4), .val (.int p5), .val (.int cx), .val (.int cy), .val (.int (own_ln p1)), .val (.int r_2), .val (.int r_3), .val (.int (own_ln p2)), .val (.int r_5), .val (.int r_6), .val (.int (own_ln p3)), .val (.int r_8), .val (.int r_9), .val (.int (own_ln p4)), .val (.int r_11), .val (.int r_12), .val (.ref b_13), .unset, .unset, .unset, .unset, .unset, .unset, .unset, .unset] [(.int r_6), (.int r_5), (.int (own_ln p2))]))) (fun t k => XS.iload X13.here hx rfl (hb hby at_148) rfl k) ?_
  obtain ⟨_, _, ⟨T14, L14, k14, n14⟩, -, X14, hS14, gS14, ⟨Lc14, hQ14, l14, y14, z14, r14⟩, st14⟩ := callSS X13 hx (y := (⟨"com/example/kodnik/kodnik/store/MappingJoinsPinLaw", "make", "(ICC)Ljava/lang/String;"⟩ : MethodName)) hown (mvT hZ (hw _ (List.mem_of_getElem? (i := 7) rfl))) (mvT hZ (hw _ (List.mem_of_getElem? (i := 8) rfl))) (mvT hZ (hw _ (List.mem_of_getElem? (i := 2) rfl))) (mvT hZ (hw _ (List.mem_of_getElem? (i := 9) rfl))) (by decide) (backOfSH (W := 0) (rmMake l Z a0 hw [] (own_ln p2) r_5 r_6 cs T13.heap n0 Z13 (own_staKeep P0 Kq13 all0) hcs hr_5 hr_6) hZ (hw _ (List.mem_of_getElem? (i := 9) rfl)) (hw _ (List.mem_of_getElem? (i := 2) rfl)) (by decide) (by decide) (own_EW hw) hH) (g := (mkF m 150 #[.val (.int p1), .val (.int p2), .val (.int p3), .val (.int p4), .val (.int p5), .val (.int cx), .val (.int cy), .val (.int (own_ln p1)), .val (.int r_2), .val (.int r_3), .val (.int (own_ln p2)), .val (.int r_5), .val (.int r_6), .val (.int (own_ln p3)), .val (.int r_8), .val (.int r_9), .val (.int (own_ln p4)), .val (.int r_11), .val (.int r_12), .val (.ref b_13), .unset, .unset, .unset, .unset, .unset, .unset, .unset, .unset] [(.int r_6), (.int r_5), (.int (own_ln p2))])) rfl (by rw [hml]; rfl) (argsL := [(.int (own_ln p2)), (.int r_5), (.int r_6)]) (rest := []) (lenOf pd__ICC_Ljava_lang_String_ rfl) rfl (by show 2 * 0 + _ ≤ _; exact Nat.le_of_eq rfl) (hb hby at_150) (fun _ _ => ⟨rfl, rfl, (by decide : 6 + 6 ≤ _), (by decide : 12 + 12 ≤ _)⟩)
  dsimp only [Pt.U, Pt.locs, Pt.cells, Pt.slots] at X14 l14 y14 z14 st14 hQ14 hS14 gS14 r14
  subst l14 y14 z14
  obtain ⟨X14, hS, hZ', hown⟩ := rebS hS hk X14 hS14 gS14 hZ hown
  have hk : T14.heap.size ≤ T14.heap.size := Nat.le_refl _
  obtain ⟨b_14, rfl, Nq14, Kq14, Fq14_0, gb_14⟩ := hQ14
  have Nf14 := Fr.app Nf13 Nq14
  have hC := hC.trans r14
  have hH := hC.1
  have hZ := hZ'
  have K14 : Keep h0 T14.heap [] := K13.trans Kq14 all0
  have sz_b_14 : h0.size ≤ b_14 := Nat.le_trans K13.1 gb_14
  have g_b_14 : n0 ≤ b_14 := Nat.le_trans Z13 gb_14
  have ne_b_13_b_14 : b_13 ≠ b_14 := Nat.ne_of_lt (Nat.lt_of_lt_of_le (own_strLt Fq13_0) gb_14)
  have Z14 : n0 ≤ T14.heap.size := Nat.le_trans Z13 Kq14.1
  refine own_fw (A' := (T14.setTop (mkF m 153 #[.val (.int p1), .val (.int p2), .val (.int p3), .val (.int p4), .val (.int p5), .val (.int cx), .val (.int cy), .val (.int (own_ln p1)), .val (.int r_2), .val (.int r_3), .val (.int (own_ln p2)), .val (.int r_5), .val (.int r_6), .val (.int (own_ln p3)), .val (.int r_8), .val (.int r_9), .val (.int (own_ln p4)), .val (.int r_11), .val (.int r_12), .val (.ref b_13), .unset, .unset, .unset, .unset, .unset, .unset, .unset, .unset] [(.ref b_14)]))) (fun t k => st14.trans k) ?_
  refine own_fw (A' := (T14.setTop (mkF m 155 #[.val (.int p1), .val (.int p2), .val (.int p3), .val (.int p4), .val (.int p5), .val (.int cx), .val (.int cy), .val (.int (own_ln p1)), .val (.int r_2), .val (.int r_3), .val (.int (own_ln p2)), .val (.int r_5), .val (.int r_6), .val (.int (own_ln p3)), .val (.int r_8), .val (.int r_9), .val (.int (own_ln p4)), .val (.int r_11), .val (.int r_12), .val (.ref b_13), .val (.ref b_14), .unset, .unset, .unset, .unset, .unset, .unset, .unset] []))) (fun t k => XS.astore X14.here hx rfl (hb hby at_153) rfl rfl (l' := #[.val (.int p1), .val (.int p2), .val (.int p3), .val (.int p4), .val (.int p5), .val (.int cx), .val (.int cy), .val (.int (own_ln p1)), .val (.int r_2), .val (.int r_3), .val (.int (own_ln p2)), .val (.int r_5), .val (.int r_6), .val (.int (own_ln p3)), .val (.int r_8), .val (.int r_9), .val (.int (own_ln p4)), .val (.int r_11), .val (.int r_12), .val (.ref b_13), .val (.ref b_14), .unset, .unset, .unset, .unset, .unset, .unset, .unset]) rfl k) ?_
  refine own_fw (A' := (T14.setTop (mkF m 157 #[.val (.int p1), .val (.int p2), .val (.int p3), .val (.int p4), .val (.int p5), .val (.int cx), .val (.int cy), .val (.int (own_ln p1)), .val (.int r_2), .val (.int r_3), .val (.int (own_ln p2)), .val (.int r_5), .val (.int r_6), .val (.int (own_ln p3)), .val (.int r_8), .val (.int r_9), .val (.int (own_ln p4)), .val (.int r_11), .val (.int r_12), .val (.ref b_13), .val (.ref b_14), .unset, .unset, .unset, .unset, .unset, .unset, .unset] [(.int (own_ln p3))]))) (fun t k => XS.iload X14.here hx rfl (hb hby at_155) rfl k) ?_
  refine own_fw (A' := (T14.setTop (mkF m 159 #[.val (.int p1), .val (.int p2), .val (.int p3), .val (.int p4), .val (.int p5), .val (.int cx), .val (.int cy), .val (.int (own_ln p1)), .val (.int r_2), .val (.int r_3), .val (.int (own_ln p2)), .val (.int r_5), .val (.int r_6), .val (.int (own_ln p3)), .val (.int r_8), .val (.int r_9), .val (.int (own_ln p4)), .val (.int r_11), .val (.int r_12), .val (.ref b_13), .val (.ref b_14), .unset, .unset, .unset, .unset, .unset, .unset, .unset] [(.int r_8), (.int (own_ln p3))]))) (fun t k => XS.iload X14.here hx rfl (hb hby at_157) rfl k) ?_
  refine own_fw (A' := (T14.setTop (mkF m 161 #[.val (.int p1), .val (.int p2), .val (.int p3), .val (.int p4), .val (.int p5), .val (.int cx), .val (.int cy), .val (.int (own_ln p1)), .val (.int r_2), .val (.int r_3), .val (.int (own_ln p2)), .val (.int r_5), .val (.int r_6), .val (.int (own_ln p3)), .val (.int r_8), .val (.int r_9), .val (.int (own_ln p4)), .val (.int r_11), .val (.int r_12), .val (.ref b_13), .val (.ref b_14), .unset, .unset, .unset, .unset, .unset, .unset, .unset] [(.int r_9), (.int r_8), (.int (own_ln p3))]))) (fun t k => XS.iload X14.here hx rfl (hb hby at_159) rfl k) ?_
  obtain ⟨_, _, ⟨T15, L15, k15, n15⟩, -, X15, hS15, gS15, ⟨Lc15, hQ15, l15, y15, z15, r15⟩, st15⟩ := callSS X14 hx (y := (⟨"com/example/kodnik/kodnik/store/MappingJoinsPinLaw", "make", "(ICC)Ljava/lang/String;"⟩ : MethodName)) hown (mvT hZ (hw _ (List.mem_of_getElem? (i := 7) rfl))) (mvT hZ (hw _ (List.mem_of_getElem? (i := 8) rfl))) (mvT hZ (hw _ (List.mem_of_getElem? (i := 2) rfl))) (mvT hZ (hw _ (List.mem_of_getElem? (i := 9) rfl))) (by decide) (backOfSH (W := 0) (rmMake l Z a0 hw [] (own_ln p3) r_8 r_9 cs T14.heap n0 Z14 (own_staKeep (own_staKeep P0 Kq13 all0) Kq14 all0) hcs hr_8 hr_9) hZ (hw _ (List.mem_of_getElem? (i := 9) rfl)) (hw _ (List.mem_of_getElem? (i := 2) rfl)) (by decide) (by decide) (own_EW hw) hH) (g := (mkF m 161 #[.val (.int p1), .val (.int p2), .val (.int p3), .val (.int p4), .val (.int p5), .val (.int cx), .val (.int cy), .val (.int (own_ln p1)), .val (.int r_2), .val (.int r_3), .val (.int (own_ln p2)), .val (.int r_5), .val (.int r_6), .val (.int (own_ln p3)), .val (.int r_8), .val (.int r_9), .val (.int (own_ln p4)), .val (.int r_11), .val (.int r_12), .val (.ref b_13), .val (.ref b_14), .unset, .unset, .unset, .unset, .unset, .unset, .unset] [(.int r_9), (.int r_8), (.int (own_ln p3))])) rfl (by rw [hml]; rfl) (argsL := [(.int (own_ln p3)), (.int r_8), (.int r_9)]) (rest := []) (lenOf pd__ICC_Ljava_lang_String_ rfl) rfl (by show 2 * 0 + _ ≤ _; exact Nat.le_of_eq rfl) (hb hby at_161) (fun _ _ => ⟨rfl, rfl, (by decide : 12 + 6 ≤ _), (by decide : 24 + 12 ≤ _)⟩)
  dsimp only [Pt.U, Pt.locs, Pt.cells, Pt.slots] at X15 l15 y15 z15 st15 hQ15 hS15 gS15 r15
  subst l15 y15 z15
  obtain ⟨X15, hS, hZ', hown⟩ := rebS hS hk X15 hS15 gS15 hZ hown
  have hk : T15.heap.size ≤ T15.heap.size := Nat.le_refl _
  obtain ⟨b_15, rfl, Nq15, Kq15, Fq15_0, gb_15⟩ := hQ15
  have Nf15 := Fr.app Nf14 Nq15
  have hC := hC.trans r15
  have hH := hC.1
  have hZ := hZ'
  have K15 : Keep h0 T15.heap [] := K14.trans Kq15 all0
  have sz_b_15 : h0.size ≤ b_15 := Nat.le_trans K14.1 gb_15
  have g_b_15 : n0 ≤ b_15 := Nat.le_trans Z14 gb_15
  have ne_b_13_b_15 : b_13 ≠ b_15 := Nat.ne_of_lt (Nat.lt_of_lt_of_le (own_strLt (own_strKeep0 Fq13_0 Kq14)) gb_15)
  have ne_b_14_b_15 : b_14 ≠ b_15 := Nat.ne_of_lt (Nat.lt_of_lt_of_le (own_strLt Fq14_0) gb_15)
  have Z15 : n0 ≤ T15.heap.size := Nat.le_trans Z14 Kq15.1
  refine own_fw (A' := (T15.setTop (mkF m 164 #[.val (.int p1), .val (.int p2), .val (.int p3), .val (.int p4), .val (.int p5), .val (.int cx), .val (.int cy), .val (.int (own_ln p1)), .val (.int r_2), .val (.int r_3), .val (.int (own_ln p2)), .val (.int r_5), .val (.int r_6), .val (.int (own_ln p3)), .val (.int r_8), .val (.int r_9), .val (.int (own_ln p4)), .val (.int r_11), .val (.int r_12), .val (.ref b_13), .val (.ref b_14), .unset, .unset, .unset, .unset, .unset, .unset, .unset] [(.ref b_15)]))) (fun t k => st15.trans k) ?_
  refine own_fw (A' := (T15.setTop (mkF m 166 #[.val (.int p1), .val (.int p2), .val (.int p3), .val (.int p4), .val (.int p5), .val (.int cx), .val (.int cy), .val (.int (own_ln p1)), .val (.int r_2), .val (.int r_3), .val (.int (own_ln p2)), .val (.int r_5), .val (.int r_6), .val (.int (own_ln p3)), .val (.int r_8), .val (.int r_9), .val (.int (own_ln p4)), .val (.int r_11), .val (.int r_12), .val (.ref b_13), .val (.ref b_14), .val (.ref b_15), .unset, .unset, .unset, .unset, .unset, .unset] []))) (fun t k => XS.astore X15.here hx rfl (hb hby at_164) rfl rfl (l' := #[.val (.int p1), .val (.int p2), .val (.int p3), .val (.int p4), .val (.int p5), .val (.int cx), .val (.int cy), .val (.int (own_ln p1)), .val (.int r_2), .val (.int r_3), .val (.int (own_ln p2)), .val (.int r_5), .val (.int r_6), .val (.int (own_ln p3)), .val (.int r_8), .val (.int r_9), .val (.int (own_ln p4)), .val (.int r_11), .val (.int r_12), .val (.ref b_13), .val (.ref b_14), .val (.ref b_15), .unset, .unset, .unset, .unset, .unset, .unset]) rfl k) ?_
  refine own_fw (A' := (T15.setTop (mkF m 168 #[.val (.int p1), .val (.int p2), .val (.int p3), .val (.int p4), .val (.int p5), .val (.int cx), .val (.int cy), .val (.int (own_ln p1)), .val (.int r_2), .val (.int r_3), .val (.int (own_ln p2)), .val (.int r_5), .val (.int r_6), .val (.int (own_ln p3)), .val (.int r_8), .val (.int r_9), .val (.int (own_ln p4)), .val (.int r_11), .val (.int r_12), .val (.ref b_13), .val (.ref b_14), .val (.ref b_15), .unset, .unset, .unset, .unset, .unset, .unset] [(.int (own_ln p4))]))) (fun t k => XS.iload X15.here hx rfl (hb hby at_166) rfl k) ?_
  refine own_fw (A' := (T15.setTop (mkF m 170 #[.val (.int p1), .val (.int p2), .val (.int p3), .val (.int p4), .val (.int p5), .val (.int cx), .val (.int cy), .val (.int (own_ln p1)), .val (.int r_2), .val (.int r_3), .val (.int (own_ln p2)), .val (.int r_5), .val (.int r_6), .val (.int (own_ln p3)), .val (.int r_8), .val (.int r_9), .val (.int (own_ln p4)), .val (.int r_11), .val (.int r_12), .val (.ref b_13), .val (.ref b_14), .val (.ref b_15), .unset, .unset, .unset, .unset, .unset, .unset] [(.int r_11), (.int (own_ln p4))]))) (fun t k => XS.iload X15.here hx rfl (hb hby at_168) rfl k) ?_
  refine own_fw (A' := (T15.setTop (mkF m 172 #[.val (.int p1), .val (.int p2), .val (.int p3), .val (.int p4), .val (.int p5), .val (.int cx), .val (.int cy), .val (.int (own_ln p1)), .val (.int r_2), .val (.int r_3), .val (.int (own_ln p2)), .val (.int r_5), .val (.int r_6), .val (.int (own_ln p3)), .val (.int r_8), .val (.int r_9), .val (.int (own_ln p4)), .val (.int r_11), .val (.int r_12), .val (.ref b_13), .val (.ref b_14), .val (.ref b_15), .unset, .unset, .unset, .unset, .unset, .unset] [(.int r_12), (.int r_11), (.int (own_ln p4))]))) (fun t k => XS.iload X15.here hx rfl (hb hby at_170) rfl k) ?_
  obtain ⟨_, _, ⟨T16, L16, k16, n16⟩, -, X16, hS16, gS16, ⟨Lc16, hQ16, l16, y16, z16, r16⟩, st16⟩ := callSS X15 hx (y := (⟨"com/example/kodnik/kodnik/store/MappingJoinsPinLaw", "make", "(ICC)Ljava/lang/String;"⟩ : MethodName)) hown (mvT hZ (hw _ (List.mem_of_getElem? (i := 7) rfl))) (mvT hZ (hw _ (List.mem_of_getElem? (i := 8) rfl))) (mvT hZ (hw _ (List.mem_of_getElem? (i := 2) rfl))) (mvT hZ (hw _ (List.mem_of_getElem? (i := 9) rfl))) (by decide) (backOfSH (W := 0) (rmMake l Z a0 hw [] (own_ln p4) r_11 r_12 cs T15.heap n0 Z15 (own_staKeep (own_staKeep (own_staKeep P0 Kq13 all0) Kq14 all0) Kq15 all0) hcs hr_11 hr_12) hZ (hw _ (List.mem_of_getElem? (i := 9) rfl)) (hw _ (List.mem_of_getElem? (i := 2) rfl)) (by decide) (by decide) (own_EW hw) hH) (g := (mkF m 172 #[.val (.int p1), .val (.int p2), .val (.int p3), .val (.int p4), .val (.int p5), .val (.int cx), .val (.int cy), .val (.int (own_ln p1)), .val (.int r_2), .val (.int r_3), .val (.int (own_ln p2)), .val (.int r_5), .val (.int r_6), .val (.int (own_ln p3)), .val (.int r_8), .val (.int r_9), .val (.int (own_ln p4)), .val (.int r_11), .val (.int r_12), .val (.ref b_13), .val (.ref b_14), .val (.ref b_15), .unset, .unset, .unset, .unset, .unset, .unset] [(.int r_12), (.int r_11), (.int (own_ln p4))])) rfl (by rw [hml]; rfl) (argsL := [(.int (own_ln p4)), (.int r_11), (.int r_12)]) (rest := []) (lenOf pd__ICC_Ljava_lang_String_ rfl) rfl (by show 2 * 0 + _ ≤ _; exact Nat.le_of_eq rfl) (hb hby at_172) (fun _ _ => ⟨rfl, rfl, (by decide : 18 + 6 ≤ _), (by decide : 36 + 12 ≤ _)⟩)
  dsimp only [Pt.U, Pt.locs, Pt.cells, Pt.slots] at X16 l16 y16 z16 st16 hQ16 hS16 gS16 r16
  subst l16 y16 z16
  obtain ⟨X16, hS, hZ', hown⟩ := rebS hS hk X16 hS16 gS16 hZ hown
  have hk : T16.heap.size ≤ T16.heap.size := Nat.le_refl _
  obtain ⟨b_16, rfl, Nq16, Kq16, Fq16_0, gb_16⟩ := hQ16
  have Nf16 := Fr.app Nf15 Nq16
  have hC := hC.trans r16
  have hH := hC.1
  have hZ := hZ'
  have K16 : Keep h0 T16.heap [] := K15.trans Kq16 all0
  have sz_b_16 : h0.size ≤ b_16 := Nat.le_trans K15.1 gb_16
  have g_b_16 : n0 ≤ b_16 := Nat.le_trans Z15 gb_16
  have ne_b_13_b_16 : b_13 ≠ b_16 := Nat.ne_of_lt (Nat.lt_of_lt_of_le (own_strLt (own_strKeep0 (own_strKeep0 Fq13_0 Kq14) Kq15)) gb_16)
  have ne_b_14_b_16 : b_14 ≠ b_16 := Nat.ne_of_lt (Nat.lt_of_lt_of_le (own_strLt (own_strKeep0 Fq14_0 Kq15)) gb_16)
  have ne_b_15_b_16 : b_15 ≠ b_16 := Nat.ne_of_lt (Nat.lt_of_lt_of_le (own_strLt Fq15_0) gb_16)
  have Z16 : n0 ≤ T16.heap.size := Nat.le_trans Z15 Kq16.1
  refine own_fw (A' := (T16.setTop (mkF m 175 #[.val (.int p1), .val (.int p2), .val (.int p3), .val (.int p4), .val (.int p5), .val (.int cx), .val (.int cy), .val (.int (own_ln p1)), .val (.int r_2), .val (.int r_3), .val (.int (own_ln p2)), .val (.int r_5), .val (.int r_6), .val (.int (own_ln p3)), .val (.int r_8), .val (.int r_9), .val (.int (own_ln p4)), .val (.int r_11), .val (.int r_12), .val (.ref b_13), .val (.ref b_14), .val (.ref b_15), .unset, .unset, .unset, .unset, .unset, .unset] [(.ref b_16)]))) (fun t k => st16.trans k) ?_
  refine own_fw (A' := (T16.setTop (mkF m 177 #[.val (.int p1), .val (.int p2), .val (.int p3), .val (.int p4), .val (.int p5), .val (.int cx), .val (.int cy), .val (.int (own_ln p1)), .val (.int r_2), .val (.int r_3), .val (.int (own_ln p2)), .val (.int r_5), .val (.int r_6), .val (.int (own_ln p3)), .val (.int r_8), .val (.int r_9), .val (.int (own_ln p4)), .val (.int r_11), .val (.int r_12), .val (.ref b_13), .val (.ref b_14), .val (.ref b_15), .val (.ref b_16), .unset, .unset, .unset, .unset, .unset] []))) (fun t k => XS.astore X16.here hx rfl (hb hby at_175) rfl rfl (l' := #[.val (.int p1), .val (.int p2), .val (.int p3), .val (.int p4), .val (.int p5), .val (.int cx), .val (.int cy), .val (.int (own_ln p1)), .val (.int r_2), .val (.int r_3), .val (.int (own_ln p2)), .val (.int r_5), .val (.int r_6), .val (.int (own_ln p3)), .val (.int r_8), .val (.int r_9), .val (.int (own_ln p4)), .val (.int r_11), .val (.int r_12), .val (.ref b_13), .val (.ref b_14), .val (.ref b_15), .val (.ref b_16), .unset, .unset, .unset, .unset, .unset]) rfl k) ?_
  obtain ⟨T17, h17, X17, e17, E17, A17, D17, -, st17⟩ := newO X16 hx hZ hown (hw _ (List.mem_of_getElem? (i := 43) rfl)) (hw _ (List.mem_of_getElem? (i := 44) rfl)) (hw _ (List.mem_of_getElem? (i := 45) rfl)) rfl (g := (mkF m 177 #[.val (.int p1), .val (.int p2), .val (.int p3), .val (.int p4), .val (.int p5), .val (.int cx), .val (.int cy), .val (.int (own_ln p1)), .val (.int r_2), .val (.int r_3), .val (.int (own_ln p2)), .val (.int r_5), .val (.int r_6), .val (.int (own_ln p3)), .val (.int r_8), .val (.int r_9), .val (.int (own_ln p4)), .val (.int r_11), .val (.int r_12), .val (.ref b_13), .val (.ref b_14), .val (.ref b_15), .val (.ref b_16), .unset, .unset, .unset, .unset, .unset] [])) rfl (hb hby at_177) (by decide) (by decide)
  obtain ⟨b17, gb17⟩ : ∃ z, z = T16.heap.size := ⟨_, rfl⟩
  have g_b17 : n0 ≤ b17 := Nat.le_trans Z16 (Nat.le_of_eq gb17.symm)
  have sz_b17 : h0.size ≤ b17 := Nat.le_trans K16.1 (Nat.le_of_eq gb17.symm)
  have ne_b_13_b17 : b_13 ≠ b17 := Nat.ne_of_lt (Nat.lt_of_lt_of_le (own_strLt (own_strKeep0 (own_strKeep0 (own_strKeep0 Fq13_0 Kq14) Kq15) Kq16)) (Nat.le_of_eq gb17.symm))
  have ne_b_14_b17 : b_14 ≠ b17 := Nat.ne_of_lt (Nat.lt_of_lt_of_le (own_strLt (own_strKeep0 (own_strKeep0 Fq14_0 Kq15) Kq16)) (Nat.le_of_eq gb17.symm))
  have ne_b_15_b17 : b_15 ≠ b17 := Nat.ne_of_lt (Nat.lt_of_lt_of_le (own_strLt (own_strKeep0 Fq15_0 Kq16)) (Nat.le_of_eq gb17.symm))
  have ne_b_16_b17 : b_16 ≠ b17 := Nat.ne_of_lt (Nat.lt_of_lt_of_le (own_strLt Fq16_0) (Nat.le_of_eq gb17.symm))
  rw [← gb17] at A17 D17 st17
  have F18 : Safe Z own_EL _ h17 b17 := (Safe.ext E17 hH (Safe.new (Nat.le_of_eq gb17.symm) : Safe Z own_EL _ T16.heap b17))
  have F_sourceSystem_b17 : Fld Z h17 b17 "com/example/kodnik/kodnik/store/Mapping" "sourceSystem" "Ljava/lang/String;" .null := D17 (Or.inr (hw _ (List.mem_of_getElem? (i := 58) rfl))) (ty := (.object "java/lang/String")) (by decide)
  have F_sourceColumn_b17 : Fld Z h17 b17 "com/example/kodnik/kodnik/store/Mapping" "sourceColumn" "Ljava/lang/String;" .null := D17 (Or.inr (hw _ (List.mem_of_getElem? (i := 60) rfl))) (ty := (.object "java/lang/String")) (by decide)
  have F_targetSystem_b17 : Fld Z h17 b17 "com/example/kodnik/kodnik/store/Mapping" "targetSystem" "Ljava/lang/String;" .null := D17 (Or.inr (hw _ (List.mem_of_getElem? (i := 62) rfl))) (ty := (.object "java/lang/String")) (by decide)
  have F_targetColumn_b17 : Fld Z h17 b17 "com/example/kodnik/kodnik/store/Mapping" "targetColumn" "Ljava/lang/String;" .null := D17 (Or.inr (hw _ (List.mem_of_getElem? (i := 64) rfl))) (ty := (.object "java/lang/String")) (by decide)
  have K17 : Keep h0 h17 [] := K16.ext E17
  have Z17 : n0 ≤ h17.size := Nat.le_trans Z16 E17.1
  have hk := Nat.le_trans hk E17.1
  have hC := hC.trans (CHr.ext E17 hH)
  have hH := hC.1
  refine own_fw (A' := (T17.setTop (mkF m 180 #[.val (.int p1), .val (.int p2), .val (.int p3), .val (.int p4), .val (.int p5), .val (.int cx), .val (.int cy), .val (.int (own_ln p1)), .val (.int r_2), .val (.int r_3), .val (.int (own_ln p2)), .val (.int r_5), .val (.int r_6), .val (.int (own_ln p3)), .val (.int r_8), .val (.int r_9), .val (.int (own_ln p4)), .val (.int r_11), .val (.int r_12), .val (.ref b_13), .val (.ref b_14), .val (.ref b_15), .val (.ref b_16), .unset, .unset, .unset, .unset, .unset] [(.ref b17)]))) (fun t k => st17 _ k) ?_
  refine own_fw (A' := (T17.setTop (mkF m 181 #[.val (.int p1), .val (.int p2), .val (.int p3), .val (.int p4), .val (.int p5), .val (.int cx), .val (.int cy), .val (.int (own_ln p1)), .val (.int r_2), .val (.int r_3), .val (.int (own_ln p2)), .val (.int r_5), .val (.int r_6), .val (.int (own_ln p3)), .val (.int r_8), .val (.int r_9), .val (.int (own_ln p4)), .val (.int r_11), .val (.int r_12), .val (.ref b_13), .val (.ref b_14), .val (.ref b_15), .val (.ref b_16), .unset, .unset, .unset, .unset, .unset] [(.ref b17), (.ref b17)]))) (fun t k => XS.dup X17.here hx rfl (hb hby at_180) rfl rfl k) ?_
  refine own_fw (A' := (T17.setTop (mkF m 183 #[.val (.int p1), .val (.int p2), .val (.int p3), .val (.int p4), .val (.int p5), .val (.int cx), .val (.int cy), .val (.int (own_ln p1)), .val (.int r_2), .val (.int r_3), .val (.int (own_ln p2)), .val (.int r_5), .val (.int r_6), .val (.int (own_ln p3)), .val (.int r_8), .val (.int r_9), .val (.int (own_ln p4)), .val (.int r_11), .val (.int r_12), .val (.ref b_13), .val (.ref b_14), .val (.ref b_15), .val (.ref b_16), .unset, .unset, .unset, .unset, .unset] [(.ref b_13), (.ref b17), (.ref b17)]))) (fun t k => XS.aload X17.here hx rfl (hb hby at_181) rfl rfl k) ?_
  obtain ⟨sa19, T19, h19, k19, sb19, kk19, X19, e19, E19, hS, hk, hZ', hown, SE19, SC19, SV19, SA19, -, -, r19, -, sn19, st19⟩ := ldcCH X17 hx hZ hown (hw _ (List.mem_of_getElem? (i := 46) rfl)) (own_wS hw) e17 hS hk (own_EW hw) (List.mem_of_getElem? (i := 0) rfl) hH (vs := [(.int (115 : Int32)), (.int (114 : Int32)), (.int (99 : Int32))]) (z := (3 : Int32)) ⟨by decide, rfl⟩ (by decide) (by decide) (g := (mkF m 183 #[.val (.int p1), .val (.int p2), .val (.int p3), .val (.int p4), .val (.int p5), .val (.int cx), .val (.int cy), .val (.int (own_ln p1)), .val (.int r_2), .val (.int r_3), .val (.int (own_ln p2)), .val (.int r_5), .val (.int r_6), .val (.int (own_ln p3)), .val (.int r_8), .val (.int r_9), .val (.int (own_ln p4)), .val (.int r_11), .val (.int r_12), .val (.ref b_13), .val (.ref b_14), .val (.ref b_15), .val (.ref b_16), .unset, .unset, .unset, .unset, .unset] [(.ref b_13), (.ref b17), (.ref b17)])) rfl (hb hby at_183) (n := 12) (by decide) (by decide) (by decide) (by decide)
  have F20 : Safe Z own_EL _ h19 b17 := (CHr.safe r19 A17.lt F18)
  have hC := hC.trans r19
  have hH := hC.1
  have hZ := hZ'
  have K19 : Keep h0 h19 [] := K17.ext E19
  have Z19 : n0 ≤ h19.size := Nat.le_trans Z17 E19.1
  refine own_fw (A' := (T19.setTop (mkF m 185 #[.val (.int p1), .val (.int p2), .val (.int p3), .val (.int p4), .val (.int p5), .val (.int cx), .val (.int cy), .val (.int (own_ln p1)), .val (.int r_2), .val (.int r_3), .val (.int (own_ln p2)), .val (.int r_5), .val (.int r_6), .val (.int (own_ln p3)), .val (.int r_8), .val (.int r_9), .val (.int (own_ln p4)), .val (.int r_11), .val (.int r_12), .val (.ref b_13), .val (.ref b_14), .val (.ref b_15), .val (.ref b_16), .unset, .unset, .unset, .unset, .unset] [(.ref sa19), (.ref b_13), (.ref b17), (.ref b17)]))) (fun t k => st19 _ k) ?_
  refine own_fw (A' := (T19.setTop (mkF m 187 #[.val (.int p1), .val (.int p2), .val (.int p3), .val (.int p4), .val (.int p5), .val (.int cx), .val (.int cy), .val (.int (own_ln p1)), .val (.int r_2), .val (.int r_3), .val (.int (own_ln p2)), .val (.int r_5), .val (.int r_6), .val (.int (own_ln p3)), .val (.int r_8), .val (.int r_9), .val (.int (own_ln p4)), .val (.int r_11), .val (.int r_12), .val (.ref b_13), .val (.ref b_14), .val (.ref b_15), .val (.ref b_16), .unset, .unset, .unset, .unset, .unset] [(.ref b_14), (.ref sa19), (.ref b_13), (.ref b17), (.ref b17)]))) (fun t k => XS.aload X19.here hx rfl (hb hby at_185) rfl rfl k) ?_
  obtain ⟨sa21, T21, h21, k21, sb21, kk21, X21, e21, E21, hS, hk, hZ', hown, SE21, SC21, SV21, SA21, -, -, r21, -, sn21, st21⟩ := ldcCH X19 hx hZ hown (hw _ (List.mem_of_getElem? (i := 47) rfl)) (own_wS hw) e19 hS hk (own_EW hw) (List.mem_of_getElem? (i := 1) rfl) hH (vs := [(.int (116 : Int32)), (.int (103 : Int32)), (.int (116 : Int32))]) (z := (3 : Int32)) ⟨by decide, rfl⟩ (by decide) (by decide) (g := (mkF m 187 #[.val (.int p1), .val (.int p2), .val (.int p3), .val (.int p4), .val (.int p5), .val (.int cx), .val (.int cy), .val (.int (own_ln p1)), .val (.int r_2), .val (.int r_3), .val (.int (own_ln p2)), .val (.int r_5), .val (.int r_6), .val (.int (own_ln p3)), .val (.int r_8), .val (.int r_9), .val (.int (own_ln p4)), .val (.int r_11), .val (.int r_12), .val (.ref b_13), .val (.ref b_14), .val (.ref b_15), .val (.ref b_16), .unset, .unset, .unset, .unset, .unset] [(.ref b_14), (.ref sa19), (.ref b_13), (.ref b17), (.ref b17)])) rfl (hb hby at_187) (n := 12) (by decide) (by decide) (by decide) (by decide)
  have F22 : Safe Z own_EL _ h21 b17 := (CHr.safe r21 (A17.ext E19).lt F20)
  have hC := hC.trans r21
  have hH := hC.1
  have hZ := hZ'
  have K21 : Keep h0 h21 [] := K19.ext E21
  have Z21 : n0 ≤ h21.size := Nat.le_trans Z19 E21.1
  refine own_fw (A' := (T21.setTop (mkF m 189 #[.val (.int p1), .val (.int p2), .val (.int p3), .val (.int p4), .val (.int p5), .val (.int cx), .val (.int cy), .val (.int (own_ln p1)), .val (.int r_2), .val (.int r_3), .val (.int (own_ln p2)), .val (.int r_5), .val (.int r_6), .val (.int (own_ln p3)), .val (.int r_8), .val (.int r_9), .val (.int (own_ln p4)), .val (.int r_11), .val (.int r_12), .val (.ref b_13), .val (.ref b_14), .val (.ref b_15), .val (.ref b_16), .unset, .unset, .unset, .unset, .unset] [(.ref sa21), (.ref b_14), (.ref sa19), (.ref b_13), (.ref b17), (.ref b17)]))) (fun t k => st21 _ k) ?_
  obtain ⟨_, _, ⟨T23, L23, k23, n23⟩, -, X23, ⟨Lc23, hQ23, l23, y23, z23⟩, st23⟩ := X21.specialBack hx (y := (⟨"com/example/kodnik/kodnik/store/Mapping", "<init>", "(Ljava/lang/String;Ljava/lang/String;Ljava/lang/String;Ljava/lang/String;)V"⟩ : MethodName)) rfl hown (mvT hZ (hw _ (List.mem_of_getElem? (i := 48) rfl))) (mvT hZ (hw _ (List.mem_of_getElem? (i := 49) rfl))) (mvT hZ (hw _ (List.mem_of_getElem? (i := 50) rfl))) (by decide) (backOf (W := 1) (rmMap l Z a0 hw [] b17 b_13 sa19 b_14 sa21 h21 n0 Z21 ((A17.ext E19).ext E21) ((F_sourceSystem_b17.ext E19).ext E21) ((F_sourceColumn_b17.ext E19).ext E21) ((F_targetSystem_b17.ext E19).ext E21) ((F_targetColumn_b17.ext E19).ext E21) g_b17) hZ (hw _ (List.mem_of_getElem? (i := 50) rfl)) (hw _ (List.mem_of_getElem? (i := 45) rfl)) (by decide) (by decide)) (g := (mkF m 189 #[.val (.int p1), .val (.int p2), .val (.int p3), .val (.int p4), .val (.int p5), .val (.int cx), .val (.int cy), .val (.int (own_ln p1)), .val (.int r_2), .val (.int r_3), .val (.int (own_ln p2)), .val (.int r_5), .val (.int r_6), .val (.int (own_ln p3)), .val (.int r_8), .val (.int r_9), .val (.int (own_ln p4)), .val (.int r_11), .val (.int r_12), .val (.ref b_13), .val (.ref b_14), .val (.ref b_15), .val (.ref b_16), .unset, .unset, .unset, .unset, .unset] [(.ref sa21), (.ref b_14), (.ref sa19), (.ref b_13), (.ref b17), (.ref b17)])) rfl (by rw [hml]; rfl) (Steps.refl _) (a := b17) (argsL := [(.ref b_13), (.ref sa19), (.ref b_14), (.ref sa21)]) (rest := [(.ref b17)]) (lenOf pd__Ljava_lang_String_Ljava_lang_String_Ljava_lang_String_Ljava_lang_String__V rfl) rfl (by show 2 * 0 + _ ≤ _; exact Nat.le_of_eq rfl) (hb hby at_189) (fun _ _ => ⟨rfl, e21, (by decide : 29 + 0 ≤ _), (by decide : 84 + 0 ≤ _)⟩)
  dsimp only [Pt.U, Pt.locs, Pt.cells, Pt.slots] at X23 l23 y23 z23 st23 hQ23
  subst l23 y23 z23
  obtain ⟨rfl, Nq23, Kq23, Fq23_0, Fq23_1, Fq23_2, Fq23_3, Fq23_4⟩ := hQ23
  have Nf23 := Fr.app Nf16 Nq23
  have hk := Nat.le_trans hk Kq23.1
  have F24 : Safe Z own_EL _ T23.heap b17 := (Safe.keep Kq23 (sfS F22 sf0) hH F22)
  have hC := hC.trans (CHr.keep Kq23 (sfS F22 sf0) hH)
  have hH := hC.1
  have K23 : Keep h0 T23.heap [] := K21.trans Kq23 (allS (Or.inr sz_b17) all0)
  have Z23 : n0 ≤ T23.heap.size := Nat.le_trans Z21 Kq23.1
  refine own_fw (A' := (T23.setTop (mkF m 192 #[.val (.int p1), .val (.int p2), .val (.int p3), .val (.int p4), .val (.int p5), .val (.int cx), .val (.int cy), .val (.int (own_ln p1)), .val (.int r_2), .val (.int r_3), .val (.int (own_ln p2)), .val (.int r_5), .val (.int r_6), .val (.int (own_ln p3)), .val (.int r_8), .val (.int r_9), .val (.int (own_ln p4)), .val (.int r_11), .val (.int r_12), .val (.ref b_13), .val (.ref b_14), .val (.ref b_15), .val (.ref b_16), .unset, .unset, .unset, .unset, .unset] [(.ref b17)]))) (fun t k => st23.trans k) ?_
  refine own_fw (A' := (T23.setTop (mkF m 194 #[.val (.int p1), .val (.int p2), .val (.int p3), .val (.int p4), .val (.int p5), .val (.int cx), .val (.int cy), .val (.int (own_ln p1)), .val (.int r_2), .val (.int r_3), .val (.int (own_ln p2)), .val (.int r_5), .val (.int r_6), .val (.int (own_ln p3)), .val (.int r_8), .val (.int r_9), .val (.int (own_ln p4)), .val (.int r_11), .val (.int r_12), .val (.ref b_13), .val (.ref b_14), .val (.ref b_15), .val (.ref b_16), .val (.ref b17), .unset, .unset, .unset, .unset] []))) (fun t k => XS.astore X23.here hx rfl (hb hby at_192) rfl rfl (l' := #[.val (.int p1), .val (.int p2), .val (.int p3), .val (.int p4), .val (.int p5), .val (.int cx), .val (.int cy), .val (.int (own_ln p1)), .val (.int r_2), .val (.int r_3), .val (.int (own_ln p2)), .val (.int r_5), .val (.int r_6), .val (.int (own_ln p3)), .val (.int r_8), .val (.int r_9), .val (.int (own_ln p4)), .val (.int r_11), .val (.int r_12), .val (.ref b_13), .val (.ref b_14), .val (.ref b_15), .val (.ref b_16), .val (.ref b17), .unset, .unset, .unset, .unset]) rfl k) ?_
  refine own_fw (A' := (T23.setTop (mkF m 196 #[.val (.int p1), .val (.int p2), .val (.int p3), .val (.int p4), .val (.int p5), .val (.int cx), .val (.int cy), .val (.int (own_ln p1)), .val (.int r_2), .val (.int r_3), .val (.int (own_ln p2)), .val (.int r_5), .val (.int r_6), .val (.int (own_ln p3)), .val (.int r_8), .val (.int r_9), .val (.int (own_ln p4)), .val (.int r_11), .val (.int r_12), .val (.ref b_13), .val (.ref b_14), .val (.ref b_15), .val (.ref b_16), .val (.ref b17), .unset, .unset, .unset, .unset] [(.ref b17)]))) (fun t k => XS.aload X23.here hx rfl (hb hby at_194) rfl rfl k) ?_
  refine own_fw (A' := (T23.setTop (mkF m 198 #[.val (.int p1), .val (.int p2), .val (.int p3), .val (.int p4), .val (.int p5), .val (.int cx), .val (.int cy), .val (.int (own_ln p1)), .val (.int r_2), .val (.int r_3), .val (.int (own_ln p2)), .val (.int r_5), .val (.int r_6), .val (.int (own_ln p3)), .val (.int r_8), .val (.int r_9), .val (.int (own_ln p4)), .val (.int r_11), .val (.int r_12), .val (.ref b_13), .val (.ref b_14), .val (.ref b_15), .val (.ref b_16), .val (.ref b17), .unset, .unset, .unset, .unset] [(.ref b_15), (.ref b17)]))) (fun t k => XS.aload X23.here hx rfl (hb hby at_196) rfl rfl k) ?_
  refine own_fw (A' := (T23.setTop (mkF m 200 #[.val (.int p1), .val (.int p2), .val (.int p3), .val (.int p4), .val (.int p5), .val (.int cx), .val (.int cy), .val (.int (own_ln p1)), .val (.int r_2), .val (.int r_3), .val (.int (own_ln p2)), .val (.int r_5), .val (.int r_6), .val (.int (own_ln p3)), .val (.int r_8), .val (.int r_9), .val (.int (own_ln p4)), .val (.int r_11), .val (.int r_12), .val (.ref b_13), .val (.ref b_14), .val (.ref b_15), .val (.ref b_16), .val (.ref b17), .unset, .unset, .unset, .unset] [(.ref b_16), (.ref b_15), (.ref b17)]))) (fun t k => XS.aload X23.here hx rfl (hb hby at_198) rfl rfl k) ?_
  obtain ⟨cq25, kq25, qa25, qb25, qc25⟩ := isOf hZ rfl Fq23_0
  obtain ⟨_, _, ⟨T25, L25, k25, n25⟩, -, X25, ⟨Lc25, hQ25, l25, y25, z25⟩, st25⟩ := X23.virtualBack hx (y := (⟨"com/example/kodnik/kodnik/store/Mapping", "joins", "(Ljava/lang/String;Ljava/lang/String;)Z"⟩ : MethodName)) (z := (⟨"com/example/kodnik/kodnik/store/Mapping", "joins", "(Ljava/lang/String;Ljava/lang/String;)Z"⟩ : MethodName)) hown (mvT hZ (hw _ (List.mem_of_getElem? (i := 65) rfl))) (mvT hZ (hw _ (List.mem_of_getElem? (i := 66) rfl))) (notFace_of_selects (args := #[]) (mvT hZ (hw _ (List.mem_of_getElem? (i := 68) rfl)))) (mvT hZ (hw _ (List.mem_of_getElem? (i := 68) rfl))) (mvT hZ (hw _ (List.mem_of_getElem? (i := 67) rfl))) (by decide) (backOf (W := 0) (rmJoins l Z a0 hw [] b17 b_15 b_16 b_13 b_14 (own_ch3 (own_ln p1) r_2 r_3) (own_ch3 (own_ln p2) r_5 r_6) (own_ch3 (own_ln p3) r_8 r_9) (own_ch3 (own_ln p4) r_11 r_12) cs T23.heap n0 Z23 Fq23_1 Fq23_3 (own_strKeep1 (own_strExt (own_strExt (own_strExt (own_strKeep0 (own_strKeep0 (own_strKeep0 Fq13_0 Kq14) Kq15) Kq16) E17) E19) E21) Kq23 ((A17.ext E19).ext E21) (by decide) (hw _ (List.mem_of_getElem? (i := 44) rfl))) (own_strKeep1 (own_strExt (own_strExt (own_strExt (own_strKeep0 (own_strKeep0 Fq14_0 Kq15) Kq16) E17) E19) E21) Kq23 ((A17.ext E19).ext E21) (by decide) (hw _ (List.mem_of_getElem? (i := 44) rfl))) (own_strKeep1 (own_strExt (own_strExt (own_strExt (own_strKeep0 Fq15_0 Kq16) E17) E19) E21) Kq23 ((A17.ext E19).ext E21) (by decide) (hw _ (List.mem_of_getElem? (i := 44) rfl))) (own_strKeep1 (own_strExt (own_strExt (own_strExt Fq16_0 E17) E19) E21) Kq23 ((A17.ext E19).ext E21) (by decide) (hw _ (List.mem_of_getElem? (i := 44) rfl))) ne_b_13_b_15 ne_b_13_b_16 ne_b_14_b_15 ne_b_14_b_16 (own_staKeep ((((own_staKeep (own_staKeep (own_staKeep (own_staKeep P0 Kq13 all0) Kq14 all0) Kq15 all0) Kq16 all0).ext E17).ext E19).ext E21) Kq23 (allS (own_plainE ((A17.ext E19).ext E21)) all0)) hcs (own_sm hr_2 hr_3) (own_sm hr_5 hr_6) (own_sm hr_8 hr_9) (own_sm hr_11 hr_12)) hZ (hw _ (List.mem_of_getElem? (i := 69) rfl)) (hw _ (List.mem_of_getElem? (i := 45) rfl)) (by decide) (by decide)) qa25 qc25 (g := (mkF m 200 #[.val (.int p1), .val (.int p2), .val (.int p3), .val (.int p4), .val (.int p5), .val (.int cx), .val (.int cy), .val (.int (own_ln p1)), .val (.int r_2), .val (.int r_3), .val (.int (own_ln p2)), .val (.int r_5), .val (.int r_6), .val (.int (own_ln p3)), .val (.int r_8), .val (.int r_9), .val (.int (own_ln p4)), .val (.int r_11), .val (.int r_12), .val (.ref b_13), .val (.ref b_14), .val (.ref b_15), .val (.ref b_16), .val (.ref b17), .unset, .unset, .unset, .unset] [(.ref b_16), (.ref b_15), (.ref b17)])) rfl (by rw [hml]; rfl) (Steps.refl _) (argsL := [(.ref b_15), (.ref b_16)]) (rest := []) (lenOf pd__Ljava_lang_String_Ljava_lang_String__Z rfl) rfl (by show 2 * 0 + _ ≤ _; exact Nat.le_of_eq rfl) (hb hby at_200) (fun _ _ => ⟨rfl, rfl, (by decide : 29 + 0 ≤ _), (by decide : 84 + 0 ≤ _)⟩)
  dsimp only [Pt.U, Pt.locs, Pt.cells, Pt.slots] at X25 l25 y25 z25 st25 hQ25
  subst l25 y25 z25
  obtain ⟨rfl, Nq25, e25⟩ := hQ25
  have Nf25 := Fr.app Nf23 Nq25
  refine own_fw (A' := (T25.setTop (mkF m 203 #[.val (.int p1), .val (.int p2), .val (.int p3), .val (.int p4), .val (.int p5), .val (.int cx), .val (.int cy), .val (.int (own_ln p1)), .val (.int r_2), .val (.int r_3), .val (.int (own_ln p2)), .val (.int r_5), .val (.int r_6), .val (.int (own_ln p3)), .val (.int r_8), .val (.int r_9), .val (.int (own_ln p4)), .val (.int r_11), .val (.int r_12), .val (.ref b_13), .val (.ref b_14), .val (.ref b_15), .val (.ref b_16), .val (.ref b17), .unset, .unset, .unset, .unset] [(.int (own_join (own_ch3 (own_ln p1) r_2 r_3) (own_ch3 (own_ln p2) r_5 r_6) (own_ch3 (own_ln p3) r_8 r_9) (own_ch3 (own_ln p4) r_11 r_12)))]))) (fun t k => st25.trans k) ?_
  refine own_fw (A' := (T25.setTop (mkF m 205 #[.val (.int p1), .val (.int p2), .val (.int p3), .val (.int p4), .val (.int p5), .val (.int cx), .val (.int cy), .val (.int (own_ln p1)), .val (.int r_2), .val (.int r_3), .val (.int (own_ln p2)), .val (.int r_5), .val (.int r_6), .val (.int (own_ln p3)), .val (.int r_8), .val (.int r_9), .val (.int (own_ln p4)), .val (.int r_11), .val (.int r_12), .val (.ref b_13), .val (.ref b_14), .val (.ref b_15), .val (.ref b_16), .val (.ref b17), .val (.int (own_join (own_ch3 (own_ln p1) r_2 r_3) (own_ch3 (own_ln p2) r_5 r_6) (own_ch3 (own_ln p3) r_8 r_9) (own_ch3 (own_ln p4) r_11 r_12))), .unset, .unset, .unset] []))) (fun t k => XS.istore X25.here hx rfl (hb hby at_203) rfl (l' := #[.val (.int p1), .val (.int p2), .val (.int p3), .val (.int p4), .val (.int p5), .val (.int cx), .val (.int cy), .val (.int (own_ln p1)), .val (.int r_2), .val (.int r_3), .val (.int (own_ln p2)), .val (.int r_5), .val (.int r_6), .val (.int (own_ln p3)), .val (.int r_8), .val (.int r_9), .val (.int (own_ln p4)), .val (.int r_11), .val (.int r_12), .val (.ref b_13), .val (.ref b_14), .val (.ref b_15), .val (.ref b_16), .val (.ref b17), .val (.int (own_join (own_ch3 (own_ln p1) r_2 r_3) (own_ch3 (own_ln p2) r_5 r_6) (own_ch3 (own_ln p3) r_8 r_9) (own_ch3 (own_ln p4) r_11 r_12))), .unset, .unset, .unset]) rfl k) ?_
  refine own_fw (A' := (T25.setTop (mkF m 207 #[.val (.int p1), .val (.int p2), .val (.int p3), .val (.int p4), .val (.int p5), .val (.int cx), .val (.int cy), .val (.int (own_ln p1)), .val (.int r_2), .val (.int r_3), .val (.int (own_ln p2)), .val (.int r_5), .val (.int r_6), .val (.int (own_ln p3)), .val (.int r_8), .val (.int r_9), .val (.int (own_ln p4)), .val (.int r_11), .val (.int r_12), .val (.ref b_13), .val (.ref b_14), .val (.ref b_15), .val (.ref b_16), .val (.ref b17), .val (.int (own_join (own_ch3 (own_ln p1) r_2 r_3) (own_ch3 (own_ln p2) r_5 r_6) (own_ch3 (own_ln p3) r_8 r_9) (own_ch3 (own_ln p4) r_11 r_12))), .unset, .unset, .unset] [(.int (own_ln p3))]))) (fun t k => XS.iload X25.here hx rfl (hb hby at_205) rfl k) ?_
  refine own_fw (A' := (T25.setTop (mkF m 209 #[.val (.int p1), .val (.int p2), .val (.int p3), .val (.int p4), .val (.int p5), .val (.int cx), .val (.int cy), .val (.int (own_ln p1)), .val (.int r_2), .val (.int r_3), .val (.int (own_ln p2)), .val (.int r_5), .val (.int r_6), .val (.int (own_ln p3)), .val (.int r_8), .val (.int r_9), .val (.int (own_ln p4)), .val (.int r_11), .val (.int r_12), .val (.ref b_13), .val (.ref b_14), .val (.ref b_15), .val (.ref b_16), .val (.ref b17), .val (.int (own_join (own_ch3 (own_ln p1) r_2 r_3) (own_ch3 (own_ln p2) r_5 r_6) (own_ch3 (own_ln p3) r_8 r_9) (own_ch3 (own_ln p4) r_11 r_12))), .unset, .unset, .unset] [(.int r_8), (.int (own_ln p3))]))) (fun t k => XS.iload X25.here hx rfl (hb hby at_207) rfl k) ?_
  refine own_fw (A' := (T25.setTop (mkF m 211 #[.val (.int p1), .val (.int p2), .val (.int p3), .val (.int p4), .val (.int p5), .val (.int cx), .val (.int cy), .val (.int (own_ln p1)), .val (.int r_2), .val (.int r_3), .val (.int (own_ln p2)), .val (.int r_5), .val (.int r_6), .val (.int (own_ln p3)), .val (.int r_8), .val (.int r_9), .val (.int (own_ln p4)), .val (.int r_11), .val (.int r_12), .val (.ref b_13), .val (.ref b_14), .val (.ref b_15), .val (.ref b_16), .val (.ref b17), .val (.int (own_join (own_ch3 (own_ln p1) r_2 r_3) (own_ch3 (own_ln p2) r_5 r_6) (own_ch3 (own_ln p3) r_8 r_9) (own_ch3 (own_ln p4) r_11 r_12))), .unset, .unset, .unset] [(.int r_9), (.int r_8), (.int (own_ln p3))]))) (fun t k => XS.iload X25.here hx rfl (hb hby at_209) rfl k) ?_
  refine own_fw (A' := (T25.setTop (mkF m 213 #[.val (.int p1), .val (.int p2), .val (.int p3), .val (.int p4), .val (.int p5), .val (.int cx), .val (.int cy), .val (.int (own_ln p1)), .val (.int r_2), .val (.int r_3), .val (.int (own_ln p2)), .val (.int r_5), .val (.int r_6), .val (.int (own_ln p3)), .val (.int r_8), .val (.int r_9), .val (.int (own_ln p4)), .val (.int r_11), .val (.int r_12), .val (.ref b_13), .val (.ref b_14), .val (.ref b_15), .val (.ref b_16), .val (.ref b17), .val (.int (own_join (own_ch3 (own_ln p1) r_2 r_3) (own_ch3 (own_ln p2) r_5 r_6) (own_ch3 (own_ln p3) r_8 r_9) (own_ch3 (own_ln p4) r_11 r_12))), .unset, .unset, .unset] [(.int (own_ln p1)), (.int r_9), (.int r_8), (.int (own_ln p3))]))) (fun t k => XS.iload X25.here hx rfl (hb hby at_211) rfl k) ?_
  refine own_fw (A' := (T25.setTop (mkF m 215 #[.val (.int p1), .val (.int p2), .val (.int p3), .val (.int p4), .val (.int p5), .val (.int cx), .val (.int cy), .val (.int (own_ln p1)), .val (.int r_2), .val (.int r_3), .val (.int (own_ln p2)), .val (.int r_5), .val (.int r_6), .val (.int (own_ln p3)), .val (.int r_8), .val (.int r_9), .val (.int (own_ln p4)), .val (.int r_11), .val (.int r_12), .val (.ref b_13), .val (.ref b_14), .val (.ref b_15), .val (.ref b_16), .val (.ref b17), .val (.int (own_join (own_ch3 (own_ln p1) r_2 r_3) (own_ch3 (own_ln p2) r_5 r_6) (own_ch3 (own_ln p3) r_8 r_9) (own_ch3 (own_ln p4) r_11 r_12))), .unset, .unset, .unset] [(.int r_2), (.int (own_ln p1)), (.int r_9), (.int r_8), (.int (own_ln p3))]))) (fun t k => XS.iload X25.here hx rfl (hb hby at_213) rfl k) ?_
  refine own_fw (A' := (T25.setTop (mkF m 217 #[.val (.int p1), .val (.int p2), .val (.int p3), .val (.int p4), .val (.int p5), .val (.int cx), .val (.int cy), .val (.int (own_ln p1)), .val (.int r_2), .val (.int r_3), .val (.int (own_ln p2)), .val (.int r_5), .val (.int r_6), .val (.int (own_ln p3)), .val (.int r_8), .val (.int r_9), .val (.int (own_ln p4)), .val (.int r_11), .val (.int r_12), .val (.ref b_13), .val (.ref b_14), .val (.ref b_15), .val (.ref b_16), .val (.ref b17), .val (.int (own_join (own_ch3 (own_ln p1) r_2 r_3) (own_ch3 (own_ln p2) r_5 r_6) (own_ch3 (own_ln p3) r_8 r_9) (own_ch3 (own_ln p4) r_11 r_12))), .unset, .unset, .unset] [(.int r_3), (.int r_2), (.int (own_ln p1)), (.int r_9), (.int r_8), (.int (own_ln p3))]))) (fun t k => XS.iload X25.here hx rfl (hb hby at_215) rfl k) ?_
  obtain ⟨_, _, ⟨T26, L26, k26, n26⟩, -, X26, ⟨Lc26, hQ26, l26, y26, z26⟩, st26⟩ := Jvm.LawKit.callS X25 hx (y := (⟨"com/example/kodnik/kodnik/store/MappingJoinsPinLaw", "eq", "(ICCICC)Z"⟩ : MethodName)) hown (mvT hZ (hw _ (List.mem_of_getElem? (i := 80) rfl))) (mvT hZ (hw _ (List.mem_of_getElem? (i := 81) rfl))) (mvT hZ (hw _ (List.mem_of_getElem? (i := 2) rfl))) (mvT hZ (hw _ (List.mem_of_getElem? (i := 82) rfl))) (by decide) (backOf (W := 0) (rmE3 l Z a0 hw [] (own_ln p3) r_8 r_9 (own_ln p1) r_2 r_3 T23.heap n0 Z23 ) hZ (hw _ (List.mem_of_getElem? (i := 82) rfl)) (hw _ (List.mem_of_getElem? (i := 2) rfl)) (by decide) (by decide)) (g := (mkF m 217 #[.val (.int p1), .val (.int p2), .val (.int p3), .val (.int p4), .val (.int p5), .val (.int cx), .val (.int cy), .val (.int (own_ln p1)), .val (.int r_2), .val (.int r_3), .val (.int (own_ln p2)), .val (.int r_5), .val (.int r_6), .val (.int (own_ln p3)), .val (.int r_8), .val (.int r_9), .val (.int (own_ln p4)), .val (.int r_11), .val (.int r_12), .val (.ref b_13), .val (.ref b_14), .val (.ref b_15), .val (.ref b_16), .val (.ref b17), .val (.int (own_join (own_ch3 (own_ln p1) r_2 r_3) (own_ch3 (own_ln p2) r_5 r_6) (own_ch3 (own_ln p3) r_8 r_9) (own_ch3 (own_ln p4) r_11 r_12))), .unset, .unset, .unset] [(.int r_3), (.int r_2), (.int (own_ln p1)), (.int r_9), (.int r_8), (.int (own_ln p3))])) rfl (by rw [hml]; rfl) (argsL := [(.int (own_ln p3)), (.int r_8), (.int r_9), (.int (own_ln p1)), (.int r_2), (.int r_3)]) (rest := []) (lenOf pd__ICCICC_Z rfl) rfl (by show 2 * 0 + _ ≤ _; exact Nat.le_of_eq rfl) (hb hby at_217) (fun _ _ => ⟨rfl, e25, (by decide : 29 + 0 ≤ _), (by decide : 84 + 0 ≤ _)⟩)
  dsimp only [Pt.U, Pt.locs, Pt.cells, Pt.slots] at X26 l26 y26 z26 st26 hQ26
  subst l26 y26 z26
  obtain ⟨rfl, Nq26, e26⟩ := hQ26
  have Nf26 := Fr.app Nf25 Nq26
  refine own_fw (A' := (T26.setTop (mkF m 220 #[.val (.int p1), .val (.int p2), .val (.int p3), .val (.int p4), .val (.int p5), .val (.int cx), .val (.int cy), .val (.int (own_ln p1)), .val (.int r_2), .val (.int r_3), .val (.int (own_ln p2)), .val (.int r_5), .val (.int r_6), .val (.int (own_ln p3)), .val (.int r_8), .val (.int r_9), .val (.int (own_ln p4)), .val (.int r_11), .val (.int r_12), .val (.ref b_13), .val (.ref b_14), .val (.ref b_15), .val (.ref b_16), .val (.ref b17), .val (.int (own_join (own_ch3 (own_ln p1) r_2 r_3) (own_ch3 (own_ln p2) r_5 r_6) (own_ch3 (own_ln p3) r_8 r_9) (own_ch3 (own_ln p4) r_11 r_12))), .unset, .unset, .unset] [(.int (own_eq3 (own_ln p3) r_8 r_9 (own_ln p1) r_2 r_3))]))) (fun t k => st26 _ k) ?_
  by_cases hc27 : (own_eq3 (own_ln p3) r_8 r_9 (own_ln p1) r_2 r_3) = (0 : Int32)
  · refine own_fw (A' := (T26.setTop (mkF m 245 #[.val (.int p1), .val (.int p2), .val (.int p3), .val (.int p4), .val (.int p5), .val (.int cx), .val (.int cy), .val (.int (own_ln p1)), .val (.int r_2), .val (.int r_3), .val (.int (own_ln p2)), .val (.int r_5), .val (.int r_6), .val (.int (own_ln p3)), .val (.int r_8), .val (.int r_9), .val (.int (own_ln p4)), .val (.int r_11), .val (.int r_12), .val (.ref b_13), .val (.ref b_14), .val (.ref b_15), .val (.ref b_16), .val (.ref b17), .val (.int (own_join (own_ch3 (own_ln p1) r_2 r_3) (own_ch3 (own_ln p2) r_5 r_6) (own_ch3 (own_ln p3) r_8 r_9) (own_ch3 (own_ln p4) r_11 r_12))), .unset, .unset, .unset] []))) (fun t k => XS.ifYes X26.here hx rfl (pc0 := 220) (pc' := 245) rfl (hb hby at_220) rfl (XT.i0_eq_t hc27) (by decide) (by decide) k) ?_
    refine own_fw (A' := (T26.setTop (mkF m 246 #[.val (.int p1), .val (.int p2), .val (.int p3), .val (.int p4), .val (.int p5), .val (.int cx), .val (.int cy), .val (.int (own_ln p1)), .val (.int r_2), .val (.int r_3), .val (.int (own_ln p2)), .val (.int r_5), .val (.int r_6), .val (.int (own_ln p3)), .val (.int r_8), .val (.int r_9), .val (.int (own_ln p4)), .val (.int r_11), .val (.int r_12), .val (.ref b_13), .val (.ref b_14), .val (.ref b_15), .val (.ref b_16), .val (.ref b17), .val (.int (own_join (own_ch3 (own_ln p1) r_2 r_3) (own_ch3 (own_ln p2) r_5 r_6) (own_ch3 (own_ln p3) r_8 r_9) (own_ch3 (own_ln p4) r_11 r_12))), .unset, .unset, .unset] [(.int (0 : Int32))]))) (fun t k => XS.iconst X26.here hx rfl (hb hby at_245) k) ?_
    refine own_fw (A' := (T26.setTop (mkF m 248 #[.val (.int p1), .val (.int p2), .val (.int p3), .val (.int p4), .val (.int p5), .val (.int cx), .val (.int cy), .val (.int (own_ln p1)), .val (.int r_2), .val (.int r_3), .val (.int (own_ln p2)), .val (.int r_5), .val (.int r_6), .val (.int (own_ln p3)), .val (.int r_8), .val (.int r_9), .val (.int (own_ln p4)), .val (.int r_11), .val (.int r_12), .val (.ref b_13), .val (.ref b_14), .val (.ref b_15), .val (.ref b_16), .val (.ref b17), .val (.int (own_join (own_ch3 (own_ln p1) r_2 r_3) (own_ch3 (own_ln p2) r_5 r_6) (own_ch3 (own_ln p3) r_8 r_9) (own_ch3 (own_ln p4) r_11 r_12))), .val (.int (0 : Int32)), .unset, .unset] []))) (fun t k => XS.istore X26.here hx rfl (hb hby at_246) rfl (l' := #[.val (.int p1), .val (.int p2), .val (.int p3), .val (.int p4), .val (.int p5), .val (.int cx), .val (.int cy), .val (.int (own_ln p1)), .val (.int r_2), .val (.int r_3), .val (.int (own_ln p2)), .val (.int r_5), .val (.int r_6), .val (.int (own_ln p3)), .val (.int r_8), .val (.int r_9), .val (.int (own_ln p4)), .val (.int r_11), .val (.int r_12), .val (.ref b_13), .val (.ref b_14), .val (.ref b_15), .val (.ref b_16), .val (.ref b17), .val (.int (own_join (own_ch3 (own_ln p1) r_2 r_3) (own_ch3 (own_ln p2) r_5 r_6) (own_ch3 (own_ln p3) r_8 r_9) (own_ch3 (own_ln p4) r_11 r_12))), .val (.int (0 : Int32)), .unset, .unset]) rfl k) ?_
    refine own_fw (A' := (T26.setTop (mkF m 250 #[.val (.int p1), .val (.int p2), .val (.int p3), .val (.int p4), .val (.int p5), .val (.int cx), .val (.int cy), .val (.int (own_ln p1)), .val (.int r_2), .val (.int r_3), .val (.int (own_ln p2)), .val (.int r_5), .val (.int r_6), .val (.int (own_ln p3)), .val (.int r_8), .val (.int r_9), .val (.int (own_ln p4)), .val (.int r_11), .val (.int r_12), .val (.ref b_13), .val (.ref b_14), .val (.ref b_15), .val (.ref b_16), .val (.ref b17), .val (.int (own_join (own_ch3 (own_ln p1) r_2 r_3) (own_ch3 (own_ln p2) r_5 r_6) (own_ch3 (own_ln p3) r_8 r_9) (own_ch3 (own_ln p4) r_11 r_12))), .val (.int (0 : Int32)), .unset, .unset] [(.int (own_ln p3))]))) (fun t k => XS.iload X26.here hx rfl (hb hby at_248) rfl k) ?_
    refine own_fw (A' := (T26.setTop (mkF m 252 #[.val (.int p1), .val (.int p2), .val (.int p3), .val (.int p4), .val (.int p5), .val (.int cx), .val (.int cy), .val (.int (own_ln p1)), .val (.int r_2), .val (.int r_3), .val (.int (own_ln p2)), .val (.int r_5), .val (.int r_6), .val (.int (own_ln p3)), .val (.int r_8), .val (.int r_9), .val (.int (own_ln p4)), .val (.int r_11), .val (.int r_12), .val (.ref b_13), .val (.ref b_14), .val (.ref b_15), .val (.ref b_16), .val (.ref b17), .val (.int (own_join (own_ch3 (own_ln p1) r_2 r_3) (own_ch3 (own_ln p2) r_5 r_6) (own_ch3 (own_ln p3) r_8 r_9) (own_ch3 (own_ln p4) r_11 r_12))), .val (.int (0 : Int32)), .unset, .unset] [(.int r_8), (.int (own_ln p3))]))) (fun t k => XS.iload X26.here hx rfl (hb hby at_250) rfl k) ?_
    refine own_fw (A' := (T26.setTop (mkF m 254 #[.val (.int p1), .val (.int p2), .val (.int p3), .val (.int p4), .val (.int p5), .val (.int cx), .val (.int cy), .val (.int (own_ln p1)), .val (.int r_2), .val (.int r_3), .val (.int (own_ln p2)), .val (.int r_5), .val (.int r_6), .val (.int (own_ln p3)), .val (.int r_8), .val (.int r_9), .val (.int (own_ln p4)), .val (.int r_11), .val (.int r_12), .val (.ref b_13), .val (.ref b_14), .val (.ref b_15), .val (.ref b_16), .val (.ref b17), .val (.int (own_join (own_ch3 (own_ln p1) r_2 r_3) (own_ch3 (own_ln p2) r_5 r_6) (own_ch3 (own_ln p3) r_8 r_9) (own_ch3 (own_ln p4) r_11 r_12))), .val (.int (0 : Int32)), .unset, .unset] [(.int r_9), (.int r_8), (.int (own_ln p3))]))) (fun t k => XS.iload X26.here hx rfl (hb hby at_252) rfl k) ?_
    refine own_fw (A' := (T26.setTop (mkF m 256 #[.val (.int p1), .val (.int p2), .val (.int p3), .val (.int p4), .val (.int p5), .val (.int cx), .val (.int cy), .val (.int (own_ln p1)), .val (.int r_2), .val (.int r_3), .val (.int (own_ln p2)), .val (.int r_5), .val (.int r_6), .val (.int (own_ln p3)), .val (.int r_8), .val (.int r_9), .val (.int (own_ln p4)), .val (.int r_11), .val (.int r_12), .val (.ref b_13), .val (.ref b_14), .val (.ref b_15), .val (.ref b_16), .val (.ref b17), .val (.int (own_join (own_ch3 (own_ln p1) r_2 r_3) (own_ch3 (own_ln p2) r_5 r_6) (own_ch3 (own_ln p3) r_8 r_9) (own_ch3 (own_ln p4) r_11 r_12))), .val (.int (0 : Int32)), .unset, .unset] [(.int (own_ln p2)), (.int r_9), (.int r_8), (.int (own_ln p3))]))) (fun t k => XS.iload X26.here hx rfl (hb hby at_254) rfl k) ?_
    refine own_fw (A' := (T26.setTop (mkF m 258 #[.val (.int p1), .val (.int p2), .val (.int p3), .val (.int p4), .val (.int p5), .val (.int cx), .val (.int cy), .val (.int (own_ln p1)), .val (.int r_2), .val (.int r_3), .val (.int (own_ln p2)), .val (.int r_5), .val (.int r_6), .val (.int (own_ln p3)), .val (.int r_8), .val (.int r_9), .val (.int (own_ln p4)), .val (.int r_11), .val (.int r_12), .val (.ref b_13), .val (.ref b_14), .val (.ref b_15), .val (.ref b_16), .val (.ref b17), .val (.int (own_join (own_ch3 (own_ln p1) r_2 r_3) (own_ch3 (own_ln p2) r_5 r_6) (own_ch3 (own_ln p3) r_8 r_9) (own_ch3 (own_ln p4) r_11 r_12))), .val (.int (0 : Int32)), .unset, .unset] [(.int r_5), (.int (own_ln p2)), (.int r_9), (.int r_8), (.int (own_ln p3))]))) (fun t k => XS.iload X26.here hx rfl (hb hby at_256) rfl k) ?_
    refine own_fw (A' := (T26.setTop (mkF m 260 #[.val (.int p1), .val (.int p2), .val (.int p3), .val (.int p4), .val (.int p5), .val (.int cx), .val (.int cy), .val (.int (own_ln p1)), .val (.int r_2), .val (.int r_3), .val (.int (own_ln p2)), .val (.int r_5), .val (.int r_6), .val (.int (own_ln p3)), .val (.int r_8), .val (.int r_9), .val (.int (own_ln p4)), .val (.int r_11), .val (.int r_12), .val (.ref b_13), .val (.ref b_14), .val (.ref b_15), .val (.ref b_16), .val (.ref b17), .val (.int (own_join (own_ch3 (own_ln p1) r_2 r_3) (own_ch3 (own_ln p2) r_5 r_6) (own_ch3 (own_ln p3) r_8 r_9) (own_ch3 (own_ln p4) r_11 r_12))), .val (.int (0 : Int32)), .unset, .unset] [(.int r_6), (.int r_5), (.int (own_ln p2)), (.int r_9), (.int r_8), (.int (own_ln p3))]))) (fun t k => XS.iload X26.here hx rfl (hb hby at_258) rfl k) ?_
    obtain ⟨_, _, ⟨T28, L28, k28, n28⟩, -, X28, ⟨Lc28, hQ28, l28, y28, z28⟩, st28⟩ := Jvm.LawKit.callS X26 hx (y := (⟨"com/example/kodnik/kodnik/store/MappingJoinsPinLaw", "eq", "(ICCICC)Z"⟩ : MethodName)) hown (mvT hZ (hw _ (List.mem_of_getElem? (i := 80) rfl))) (mvT hZ (hw _ (List.mem_of_getElem? (i := 81) rfl))) (mvT hZ (hw _ (List.mem_of_getElem? (i := 2) rfl))) (mvT hZ (hw _ (List.mem_of_getElem? (i := 82) rfl))) (by decide) (backOf (W := 0) (rmE3 l Z a0 hw [] (own_ln p3) r_8 r_9 (own_ln p2) r_5 r_6 T23.heap n0 Z23 ) hZ (hw _ (List.mem_of_getElem? (i := 82) rfl)) (hw _ (List.mem_of_getElem? (i := 2) rfl)) (by decide) (by decide)) (g := (mkF m 260 #[.val (.int p1), .val (.int p2), .val (.int p3), .val (.int p4), .val (.int p5), .val (.int cx), .val (.int cy), .val (.int (own_ln p1)), .val (.int r_2), .val (.int r_3), .val (.int (own_ln p2)), .val (.int r_5), .val (.int r_6), .val (.int (own_ln p3)), .val (.int r_8), .val (.int r_9), .val (.int (own_ln p4)), .val (.int r_11), .val (.int r_12), .val (.ref b_13), .val (.ref b_14), .val (.ref b_15), .val (.ref b_16), .val (.ref b17), .val (.int (own_join (own_ch3 (own_ln p1) r_2 r_3) (own_ch3 (own_ln p2) r_5 r_6) (own_ch3 (own_ln p3) r_8 r_9) (own_ch3 (own_ln p4) r_11 r_12))), .val (.int (0 : Int32)), .unset, .unset] [(.int r_6), (.int r_5), (.int (own_ln p2)), (.int r_9), (.int r_8), (.int (own_ln p3))])) rfl (by rw [hml]; rfl) (argsL := [(.int (own_ln p3)), (.int r_8), (.int r_9), (.int (own_ln p2)), (.int r_5), (.int r_6)]) (rest := []) (lenOf pd__ICCICC_Z rfl) rfl (by show 2 * 0 + _ ≤ _; exact Nat.le_of_eq rfl) (hb hby at_260) (fun _ _ => ⟨rfl, e26, (by decide : 29 + 0 ≤ _), (by decide : 84 + 0 ≤ _)⟩)
    dsimp only [Pt.U, Pt.locs, Pt.cells, Pt.slots] at X28 l28 y28 z28 st28 hQ28
    subst l28 y28 z28
    obtain ⟨rfl, Nq28, e28⟩ := hQ28
    have Nf28 := Fr.app Nf26 Nq28
    refine own_fw (A' := (T28.setTop (mkF m 263 #[.val (.int p1), .val (.int p2), .val (.int p3), .val (.int p4), .val (.int p5), .val (.int cx), .val (.int cy), .val (.int (own_ln p1)), .val (.int r_2), .val (.int r_3), .val (.int (own_ln p2)), .val (.int r_5), .val (.int r_6), .val (.int (own_ln p3)), .val (.int r_8), .val (.int r_9), .val (.int (own_ln p4)), .val (.int r_11), .val (.int r_12), .val (.ref b_13), .val (.ref b_14), .val (.ref b_15), .val (.ref b_16), .val (.ref b17), .val (.int (own_join (own_ch3 (own_ln p1) r_2 r_3) (own_ch3 (own_ln p2) r_5 r_6) (own_ch3 (own_ln p3) r_8 r_9) (own_ch3 (own_ln p4) r_11 r_12))), .val (.int (0 : Int32)), .unset, .unset] [(.int (own_eq3 (own_ln p3) r_8 r_9 (own_ln p2) r_5 r_6))]))) (fun t k => st28 _ k) ?_
    by_cases hc29 : (own_eq3 (own_ln p3) r_8 r_9 (own_ln p2) r_5 r_6) = (0 : Int32)
    · refine own_fw (A' := (T28.setTop (mkF m 288 #[.val (.int p1), .val (.int p2), .val (.int p3), .val (.int p4), .val (.int p5), .val (.int cx), .val (.int cy), .val (.int (own_ln p1)), .val (.int r_2), .val (.int r_3), .val (.int (own_ln p2)), .val (.int r_5), .val (.int r_6), .val (.int (own_ln p3)), .val (.int r_8), .val (.int r_9), .val (.int (own_ln p4)), .val (.int r_11), .val (.int r_12), .val (.ref b_13), .val (.ref b_14), .val (.ref b_15), .val (.ref b_16), .val (.ref b17), .val (.int (own_join (own_ch3 (own_ln p1) r_2 r_3) (own_ch3 (own_ln p2) r_5 r_6) (own_ch3 (own_ln p3) r_8 r_9) (own_ch3 (own_ln p4) r_11 r_12))), .val (.int (0 : Int32)), .unset, .unset] []))) (fun t k => XS.ifYes X28.here hx rfl (pc0 := 263) (pc' := 288) rfl (hb hby at_263) rfl (XT.i0_eq_t hc29) (by decide) (by decide) k) ?_
      refine own_fw (A' := (T28.setTop (mkF m 289 #[.val (.int p1), .val (.int p2), .val (.int p3), .val (.int p4), .val (.int p5), .val (.int cx), .val (.int cy), .val (.int (own_ln p1)), .val (.int r_2), .val (.int r_3), .val (.int (own_ln p2)), .val (.int r_5), .val (.int r_6), .val (.int (own_ln p3)), .val (.int r_8), .val (.int r_9), .val (.int (own_ln p4)), .val (.int r_11), .val (.int r_12), .val (.ref b_13), .val (.ref b_14), .val (.ref b_15), .val (.ref b_16), .val (.ref b17), .val (.int (own_join (own_ch3 (own_ln p1) r_2 r_3) (own_ch3 (own_ln p2) r_5 r_6) (own_ch3 (own_ln p3) r_8 r_9) (own_ch3 (own_ln p4) r_11 r_12))), .val (.int (0 : Int32)), .unset, .unset] [(.int (0 : Int32))]))) (fun t k => XS.iconst X28.here hx rfl (hb hby at_288) k) ?_
      refine own_fw (A' := (T28.setTop (mkF m 291 #[.val (.int p1), .val (.int p2), .val (.int p3), .val (.int p4), .val (.int p5), .val (.int cx), .val (.int cy), .val (.int (own_ln p1)), .val (.int r_2), .val (.int r_3), .val (.int (own_ln p2)), .val (.int r_5), .val (.int r_6), .val (.int (own_ln p3)), .val (.int r_8), .val (.int r_9), .val (.int (own_ln p4)), .val (.int r_11), .val (.int r_12), .val (.ref b_13), .val (.ref b_14), .val (.ref b_15), .val (.ref b_16), .val (.ref b17), .val (.int (own_join (own_ch3 (own_ln p1) r_2 r_3) (own_ch3 (own_ln p2) r_5 r_6) (own_ch3 (own_ln p3) r_8 r_9) (own_ch3 (own_ln p4) r_11 r_12))), .val (.int (0 : Int32)), .val (.int (0 : Int32)), .unset] []))) (fun t k => XS.istore X28.here hx rfl (hb hby at_289) rfl (l' := #[.val (.int p1), .val (.int p2), .val (.int p3), .val (.int p4), .val (.int p5), .val (.int cx), .val (.int cy), .val (.int (own_ln p1)), .val (.int r_2), .val (.int r_3), .val (.int (own_ln p2)), .val (.int r_5), .val (.int r_6), .val (.int (own_ln p3)), .val (.int r_8), .val (.int r_9), .val (.int (own_ln p4)), .val (.int r_11), .val (.int r_12), .val (.ref b_13), .val (.ref b_14), .val (.ref b_15), .val (.ref b_16), .val (.ref b17), .val (.int (own_join (own_ch3 (own_ln p1) r_2 r_3) (own_ch3 (own_ln p2) r_5 r_6) (own_ch3 (own_ln p3) r_8 r_9) (own_ch3 (own_ln p4) r_11 r_12))), .val (.int (0 : Int32)), .val (.int (0 : Int32)), .unset]) rfl k) ?_
      refine own_fw (A' := (T28.setTop (mkF m 293 #[.val (.int p1), .val (.int p2), .val (.int p3), .val (.int p4), .val (.int p5), .val (.int cx), .val (.int cy), .val (.int (own_ln p1)), .val (.int r_2), .val (.int r_3), .val (.int (own_ln p2)), .val (.int r_5), .val (.int r_6), .val (.int (own_ln p3)), .val (.int r_8), .val (.int r_9), .val (.int (own_ln p4)), .val (.int r_11), .val (.int r_12), .val (.ref b_13), .val (.ref b_14), .val (.ref b_15), .val (.ref b_16), .val (.ref b17), .val (.int (own_join (own_ch3 (own_ln p1) r_2 r_3) (own_ch3 (own_ln p2) r_5 r_6) (own_ch3 (own_ln p3) r_8 r_9) (own_ch3 (own_ln p4) r_11 r_12))), .val (.int (0 : Int32)), .val (.int (0 : Int32)), .unset] [(.int (0 : Int32))]))) (fun t k => XS.iload X28.here hx rfl (hb hby at_291) rfl k) ?_
      refine own_fw (A' := (T28.setTop (mkF m 296 #[.val (.int p1), .val (.int p2), .val (.int p3), .val (.int p4), .val (.int p5), .val (.int cx), .val (.int cy), .val (.int (own_ln p1)), .val (.int r_2), .val (.int r_3), .val (.int (own_ln p2)), .val (.int r_5), .val (.int r_6), .val (.int (own_ln p3)), .val (.int r_8), .val (.int r_9), .val (.int (own_ln p4)), .val (.int r_11), .val (.int r_12), .val (.ref b_13), .val (.ref b_14), .val (.ref b_15), .val (.ref b_16), .val (.ref b17), .val (.int (own_join (own_ch3 (own_ln p1) r_2 r_3) (own_ch3 (own_ln p2) r_5 r_6) (own_ch3 (own_ln p3) r_8 r_9) (own_ch3 (own_ln p4) r_11 r_12))), .val (.int (0 : Int32)), .val (.int (0 : Int32)), .unset] []))) (fun t k => XS.ifNo X28.here hx rfl (hb hby at_293) rfl (XT.i0_ne_f rfl) k) ?_
      refine own_fw (A' := (T28.setTop (mkF m 298 #[.val (.int p1), .val (.int p2), .val (.int p3), .val (.int p4), .val (.int p5), .val (.int cx), .val (.int cy), .val (.int (own_ln p1)), .val (.int r_2), .val (.int r_3), .val (.int (own_ln p2)), .val (.int r_5), .val (.int r_6), .val (.int (own_ln p3)), .val (.int r_8), .val (.int r_9), .val (.int (own_ln p4)), .val (.int r_11), .val (.int r_12), .val (.ref b_13), .val (.ref b_14), .val (.ref b_15), .val (.ref b_16), .val (.ref b17), .val (.int (own_join (own_ch3 (own_ln p1) r_2 r_3) (own_ch3 (own_ln p2) r_5 r_6) (own_ch3 (own_ln p3) r_8 r_9) (own_ch3 (own_ln p4) r_11 r_12))), .val (.int (0 : Int32)), .val (.int (0 : Int32)), .unset] [(.int (0 : Int32))]))) (fun t k => XS.iload X28.here hx rfl (hb hby at_296) rfl k) ?_
      refine own_fw (A' := (T28.setTop (mkF m 305 #[.val (.int p1), .val (.int p2), .val (.int p3), .val (.int p4), .val (.int p5), .val (.int cx), .val (.int cy), .val (.int (own_ln p1)), .val (.int r_2), .val (.int r_3), .val (.int (own_ln p2)), .val (.int r_5), .val (.int r_6), .val (.int (own_ln p3)), .val (.int r_8), .val (.int r_9), .val (.int (own_ln p4)), .val (.int r_11), .val (.int r_12), .val (.ref b_13), .val (.ref b_14), .val (.ref b_15), .val (.ref b_16), .val (.ref b17), .val (.int (own_join (own_ch3 (own_ln p1) r_2 r_3) (own_ch3 (own_ln p2) r_5 r_6) (own_ch3 (own_ln p3) r_8 r_9) (own_ch3 (own_ln p4) r_11 r_12))), .val (.int (0 : Int32)), .val (.int (0 : Int32)), .unset] []))) (fun t k => XS.ifYes X28.here hx rfl (pc0 := 298) (pc' := 305) rfl (hb hby at_298) rfl (XT.i0_eq_t rfl) (by decide) (by decide) k) ?_
      refine own_fw (A' := (T28.setTop (mkF m 306 #[.val (.int p1), .val (.int p2), .val (.int p3), .val (.int p4), .val (.int p5), .val (.int cx), .val (.int cy), .val (.int (own_ln p1)), .val (.int r_2), .val (.int r_3), .val (.int (own_ln p2)), .val (.int r_5), .val (.int r_6), .val (.int (own_ln p3)), .val (.int r_8), .val (.int r_9), .val (.int (own_ln p4)), .val (.int r_11), .val (.int r_12), .val (.ref b_13), .val (.ref b_14), .val (.ref b_15), .val (.ref b_16), .val (.ref b17), .val (.int (own_join (own_ch3 (own_ln p1) r_2 r_3) (own_ch3 (own_ln p2) r_5 r_6) (own_ch3 (own_ln p3) r_8 r_9) (own_ch3 (own_ln p4) r_11 r_12))), .val (.int (0 : Int32)), .val (.int (0 : Int32)), .unset] [(.int (0 : Int32))]))) (fun t k => XS.iconst X28.here hx rfl (hb hby at_305) k) ?_
      refine own_fw (A' := (T28.setTop (mkF m 308 #[.val (.int p1), .val (.int p2), .val (.int p3), .val (.int p4), .val (.int p5), .val (.int cx), .val (.int cy), .val (.int (own_ln p1)), .val (.int r_2), .val (.int r_3), .val (.int (own_ln p2)), .val (.int r_5), .val (.int r_6), .val (.int (own_ln p3)), .val (.int r_8), .val (.int r_9), .val (.int (own_ln p4)), .val (.int r_11), .val (.int r_12), .val (.ref b_13), .val (.ref b_14), .val (.ref b_15), .val (.ref b_16), .val (.ref b17), .val (.int (own_join (own_ch3 (own_ln p1) r_2 r_3) (own_ch3 (own_ln p2) r_5 r_6) (own_ch3 (own_ln p3) r_8 r_9) (own_ch3 (own_ln p4) r_11 r_12))), .val (.int (0 : Int32)), .val (.int (0 : Int32)), .val (.int (0 : Int32))] []))) (fun t k => XS.istore X28.here hx rfl (hb hby at_306) rfl (l' := #[.val (.int p1), .val (.int p2), .val (.int p3), .val (.int p4), .val (.int p5), .val (.int cx), .val (.int cy), .val (.int (own_ln p1)), .val (.int r_2), .val (.int r_3), .val (.int (own_ln p2)), .val (.int r_5), .val (.int r_6), .val (.int (own_ln p3)), .val (.int r_8), .val (.int r_9), .val (.int (own_ln p4)), .val (.int r_11), .val (.int r_12), .val (.ref b_13), .val (.ref b_14), .val (.ref b_15), .val (.ref b_16), .val (.ref b17), .val (.int (own_join (own_ch3 (own_ln p1) r_2 r_3) (own_ch3 (own_ln p2) r_5 r_6) (own_ch3 (own_ln p3) r_8 r_9) (own_ch3 (own_ln p4) r_11 r_12))), .val (.int (0 : Int32)), .val (.int (0 : Int32)), .val (.int (0 : Int32))]) rfl k) ?_
      refine own_fw (A' := (T28.setTop (mkF m 310 #[.val (.int p1), .val (.int p2), .val (.int p3), .val (.int p4), .val (.int p5), .val (.int cx), .val (.int cy), .val (.int (own_ln p1)), .val (.int r_2), .val (.int r_3), .val (.int (own_ln p2)), .val (.int r_5), .val (.int r_6), .val (.int (own_ln p3)), .val (.int r_8), .val (.int r_9), .val (.int (own_ln p4)), .val (.int r_11), .val (.int r_12), .val (.ref b_13), .val (.ref b_14), .val (.ref b_15), .val (.ref b_16), .val (.ref b17), .val (.int (own_join (own_ch3 (own_ln p1) r_2 r_3) (own_ch3 (own_ln p2) r_5 r_6) (own_ch3 (own_ln p3) r_8 r_9) (own_ch3 (own_ln p4) r_11 r_12))), .val (.int (0 : Int32)), .val (.int (0 : Int32)), .val (.int (0 : Int32))] [(.int (own_join (own_ch3 (own_ln p1) r_2 r_3) (own_ch3 (own_ln p2) r_5 r_6) (own_ch3 (own_ln p3) r_8 r_9) (own_ch3 (own_ln p4) r_11 r_12)))]))) (fun t k => XS.iload X28.here hx rfl (hb hby at_308) rfl k) ?_
      refine own_fw (A' := (T28.setTop (mkF m 312 #[.val (.int p1), .val (.int p2), .val (.int p3), .val (.int p4), .val (.int p5), .val (.int cx), .val (.int cy), .val (.int (own_ln p1)), .val (.int r_2), .val (.int r_3), .val (.int (own_ln p2)), .val (.int r_5), .val (.int r_6), .val (.int (own_ln p3)), .val (.int r_8), .val (.int r_9), .val (.int (own_ln p4)), .val (.int r_11), .val (.int r_12), .val (.ref b_13), .val (.ref b_14), .val (.ref b_15), .val (.ref b_16), .val (.ref b17), .val (.int (own_join (own_ch3 (own_ln p1) r_2 r_3) (own_ch3 (own_ln p2) r_5 r_6) (own_ch3 (own_ln p3) r_8 r_9) (own_ch3 (own_ln p4) r_11 r_12))), .val (.int (0 : Int32)), .val (.int (0 : Int32)), .val (.int (0 : Int32))] [(.int (0 : Int32)), (.int (own_join (own_ch3 (own_ln p1) r_2 r_3) (own_ch3 (own_ln p2) r_5 r_6) (own_ch3 (own_ln p3) r_8 r_9) (own_ch3 (own_ln p4) r_11 r_12)))]))) (fun t k => XS.iload X28.here hx rfl (hb hby at_310) rfl k) ?_
      refine own_fw (A' := (T28.setTop (mkF m 315 #[.val (.int p1), .val (.int p2), .val (.int p3), .val (.int p4), .val (.int p5), .val (.int cx), .val (.int cy), .val (.int (own_ln p1)), .val (.int r_2), .val (.int r_3), .val (.int (own_ln p2)), .val (.int r_5), .val (.int r_6), .val (.int (own_ln p3)), .val (.int r_8), .val (.int r_9), .val (.int (own_ln p4)), .val (.int r_11), .val (.int r_12), .val (.ref b_13), .val (.ref b_14), .val (.ref b_15), .val (.ref b_16), .val (.ref b17), .val (.int (own_join (own_ch3 (own_ln p1) r_2 r_3) (own_ch3 (own_ln p2) r_5 r_6) (own_ch3 (own_ln p3) r_8 r_9) (own_ch3 (own_ln p4) r_11 r_12))), .val (.int (0 : Int32)), .val (.int (0 : Int32)), .val (.int (0 : Int32))] []))) (fun t k => XS.icmpNo X28.here hx rfl (hb hby at_312) rfl (XT.ii_ne_f (by simp only [own_join, own_jt, if_pos (own_q hc27), if_pos (own_q hc29)])) k) ?_
      refine own_fw (A' := (T28.setTop (mkF m 316 #[.val (.int p1), .val (.int p2), .val (.int p3), .val (.int p4), .val (.int p5), .val (.int cx), .val (.int cy), .val (.int (own_ln p1)), .val (.int r_2), .val (.int r_3), .val (.int (own_ln p2)), .val (.int r_5), .val (.int r_6), .val (.int (own_ln p3)), .val (.int r_8), .val (.int r_9), .val (.int (own_ln p4)), .val (.int r_11), .val (.int r_12), .val (.ref b_13), .val (.ref b_14), .val (.ref b_15), .val (.ref b_16), .val (.ref b17), .val (.int (own_join (own_ch3 (own_ln p1) r_2 r_3) (own_ch3 (own_ln p2) r_5 r_6) (own_ch3 (own_ln p3) r_8 r_9) (own_ch3 (own_ln p4) r_11 r_12))), .val (.int (0 : Int32)), .val (.int (0 : Int32)), .val (.int (0 : Int32))] [(.int (1 : Int32))]))) (fun t k => XS.iconst X28.here hx rfl (hb hby at_315) k) ?_
      refine own_fw (A' := (T28.setTop (mkF m 320 #[.val (.int p1), .val (.int p2), .val (.int p3), .val (.int p4), .val (.int p5), .val (.int cx), .val (.int cy), .val (.int (own_ln p1)), .val (.int r_2), .val (.int r_3), .val (.int (own_ln p2)), .val (.int r_5), .val (.int r_6), .val (.int (own_ln p3)), .val (.int r_8), .val (.int r_9), .val (.int (own_ln p4)), .val (.int r_11), .val (.int r_12), .val (.ref b_13), .val (.ref b_14), .val (.ref b_15), .val (.ref b_16), .val (.ref b17), .val (.int (own_join (own_ch3 (own_ln p1) r_2 r_3) (own_ch3 (own_ln p2) r_5 r_6) (own_ch3 (own_ln p3) r_8 r_9) (own_ch3 (own_ln p4) r_11 r_12))), .val (.int (0 : Int32)), .val (.int (0 : Int32)), .val (.int (0 : Int32))] [(.int (1 : Int32))]))) (fun t k => XS.goto X28.here hx rfl (pc0 := 316) (pc' := 320) rfl (hb hby at_316) (by decide) (by decide) k) ?_
      obtain ⟨fs, hr, hrun, hended, hWE⟩ := X28.leaveW hS (by rw [e28]; exact hk : _ ≤ T28.heap.size) (v := some (.int (1 : Int32))) (fun h => by rw [Bd.returns] at h; cases h)
      refine ⟨_, _, ?_, hrun, hended, _, _, rfl, ?_, own_widen hWE (by decide) (by decide)⟩
      · exact retOut X28 hx Bd.returns rfl (Or.inl ⟨rfl, by simp, _, rfl⟩) (hb hby at_320) hr
      · show Q_rm0 Z p1 p2 p3 p4 p5 cs h0 n0 _ T28.heap _
        rw [e28]
        exact ⟨rfl, Nf28⟩
    · refine own_fw (A' := (T28.setTop (mkF m 266 #[.val (.int p1), .val (.int p2), .val (.int p3), .val (.int p4), .val (.int p5), .val (.int cx), .val (.int cy), .val (.int (own_ln p1)), .val (.int r_2), .val (.int r_3), .val (.int (own_ln p2)), .val (.int r_5), .val (.int r_6), .val (.int (own_ln p3)), .val (.int r_8), .val (.int r_9), .val (.int (own_ln p4)), .val (.int r_11), .val (.int r_12), .val (.ref b_13), .val (.ref b_14), .val (.ref b_15), .val (.ref b_16), .val (.ref b17), .val (.int (own_join (own_ch3 (own_ln p1) r_2 r_3) (own_ch3 (own_ln p2) r_5 r_6) (own_ch3 (own_ln p3) r_8 r_9) (own_ch3 (own_ln p4) r_11 r_12))), .val (.int (0 : Int32)), .unset, .unset] []))) (fun t k => XS.ifNo X28.here hx rfl (hb hby at_263) rfl (XT.i0_eq_f hc29) k) ?_
      refine own_fw (A' := (T28.setTop (mkF m 268 #[.val (.int p1), .val (.int p2), .val (.int p3), .val (.int p4), .val (.int p5), .val (.int cx), .val (.int cy), .val (.int (own_ln p1)), .val (.int r_2), .val (.int r_3), .val (.int (own_ln p2)), .val (.int r_5), .val (.int r_6), .val (.int (own_ln p3)), .val (.int r_8), .val (.int r_9), .val (.int (own_ln p4)), .val (.int r_11), .val (.int r_12), .val (.ref b_13), .val (.ref b_14), .val (.ref b_15), .val (.ref b_16), .val (.ref b17), .val (.int (own_join (own_ch3 (own_ln p1) r_2 r_3) (own_ch3 (own_ln p2) r_5 r_6) (own_ch3 (own_ln p3) r_8 r_9) (own_ch3 (own_ln p4) r_11 r_12))), .val (.int (0 : Int32)), .unset, .unset] [(.int (own_ln p4))]))) (fun t k => XS.iload X28.here hx rfl (hb hby at_266) rfl k) ?_
      refine own_fw (A' := (T28.setTop (mkF m 270 #[.val (.int p1), .val (.int p2), .val (.int p3), .val (.int p4), .val (.int p5), .val (.int cx), .val (.int cy), .val (.int (own_ln p1)), .val (.int r_2), .val (.int r_3), .val (.int (own_ln p2)), .val (.int r_5), .val (.int r_6), .val (.int (own_ln p3)), .val (.int r_8), .val (.int r_9), .val (.int (own_ln p4)), .val (.int r_11), .val (.int r_12), .val (.ref b_13), .val (.ref b_14), .val (.ref b_15), .val (.ref b_16), .val (.ref b17), .val (.int (own_join (own_ch3 (own_ln p1) r_2 r_3) (own_ch3 (own_ln p2) r_5 r_6) (own_ch3 (own_ln p3) r_8 r_9) (own_ch3 (own_ln p4) r_11 r_12))), .val (.int (0 : Int32)), .unset, .unset] [(.int r_11), (.int (own_ln p4))]))) (fun t k => XS.iload X28.here hx rfl (hb hby at_268) rfl k) ?_
      refine own_fw (A' := (T28.setTop (mkF m 272 #[.val (.int p1), .val (.int p2), .val (.int p3), .val (.int p4), .val (.int p5), .val (.int cx), .val (.int cy), .val (.int (own_ln p1)), .val (.int r_2), .val (.int r_3), .val (.int (own_ln p2)), .val (.int r_5), .val (.int r_6), .val (.int (own_ln p3)), .val (.int r_8), .val (.int r_9), .val (.int (own_ln p4)), .val (.int r_11), .val (.int r_12), .val (.ref b_13), .val (.ref b_14), .val (.ref b_15), .val (.ref b_16), .val (.ref b17), .val (.int (own_join (own_ch3 (own_ln p1) r_2 r_3) (own_ch3 (own_ln p2) r_5 r_6) (own_ch3 (own_ln p3) r_8 r_9) (own_ch3 (own_ln p4) r_11 r_12))), .val (.int (0 : Int32)), .unset, .unset] [(.int r_12), (.int r_11), (.int (own_ln p4))]))) (fun t k => XS.iload X28.here hx rfl (hb hby at_270) rfl k) ?_
      refine own_fw (A' := (T28.setTop (mkF m 274 #[.val (.int p1), .val (.int p2), .val (.int p3), .val (.int p4), .val (.int p5), .val (.int cx), .val (.int cy), .val (.int (own_ln p1)), .val (.int r_2), .val (.int r_3), .val (.int (own_ln p2)), .val (.int r_5), .val (.int r_6), .val (.int (own_ln p3)), .val (.int r_8), .val (.int r_9), .val (.int (own_ln p4)), .val (.int r_11), .val (.int r_12), .val (.ref b_13), .val (.ref b_14), .val (.ref b_15), .val (.ref b_16), .val (.ref b17), .val (.int (own_join (own_ch3 (own_ln p1) r_2 r_3) (own_ch3 (own_ln p2) r_5 r_6) (own_ch3 (own_ln p3) r_8 r_9) (own_ch3 (own_ln p4) r_11 r_12))), .val (.int (0 : Int32)), .unset, .unset] [(.int (own_ln p1)), (.int r_12), (.int r_11), (.int (own_ln p4))]))) (fun t k => XS.iload X28.here hx rfl (hb hby at_272) rfl k) ?_
      refine own_fw (A' := (T28.setTop (mkF m 276 #[.val (.int p1), .val (.int p2), .val (.int p3), .val (.int p4), .val (.int p5), .val (.int cx), .val (.int cy), .val (.int (own_ln p1)), .val (.int r_2), .val (.int r_3), .val (.int (own_ln p2)), .val (.int r_5), .val (.int r_6), .val (.int (own_ln p3)), .val (.int r_8), .val (.int r_9), .val (.int (own_ln p4)), .val (.int r_11), .val (.int r_12), .val (.ref b_13), .val (.ref b_14), .val (.ref b_15), .val (.ref b_16), .val (.ref b17), .val (.int (own_join (own_ch3 (own_ln p1) r_2 r_3) (own_ch3 (own_ln p2) r_5 r_6) (own_ch3 (own_ln p3) r_8 r_9) (own_ch3 (own_ln p4) r_11 r_12))), .val (.int (0 : Int32)), .unset, .unset] [(.int r_2), (.int (own_ln p1)), (.int r_12), (.int r_11), (.int (own_ln p4))]))) (fun t k => XS.iload X28.here hx rfl (hb hby at_274) rfl k) ?_
      refine own_fw (A' := (T28.setTop (mkF m 278 #[.val (.int p1), .val (.int p2), .val (.int p3), .val (.int p4), .val (.int p5), .val (.int cx), .val (.int cy), .val (.int (own_ln p1)), .val (.int r_2), .val (.int r_3), .val (.int (own_ln p2)), .val (.int r_5), .val (.int r_6), .val (.int (own_ln p3)), .val (.int r_8), .val (.int r_9), .val (.int (own_ln p4)), .val (.int r_11), .val (.int r_12), .val (.ref b_13), .val (.ref b_14), .val (.ref b_15), .val (.ref b_16), .val (.ref b17), .val (.int (own_join (own_ch3 (own_ln p1) r_2 r_3) (own_ch3 (own_ln p2) r_5 r_6) (own_ch3 (own_ln p3) r_8 r_9) (own_ch3 (own_ln p4) r_11 r_12))), .val (.int (0 : Int32)), .unset, .unset] [(.int r_3), (.int r_2), (.int (own_ln p1)), (.int r_12), (.int r_11), (.int (own_ln p4))]))) (fun t k => XS.iload X28.here hx rfl (hb hby at_276) rfl k) ?_
      obtain ⟨_, _, ⟨T30, L30, k30, n30⟩, -, X30, ⟨Lc30, hQ30, l30, y30, z30⟩, st30⟩ := Jvm.LawKit.callS X28 hx (y := (⟨"com/example/kodnik/kodnik/store/MappingJoinsPinLaw", "eq", "(ICCICC)Z"⟩ : MethodName)) hown (mvT hZ (hw _ (List.mem_of_getElem? (i := 80) rfl))) (mvT hZ (hw _ (List.mem_of_getElem? (i := 81) rfl))) (mvT hZ (hw _ (List.mem_of_getElem? (i := 2) rfl))) (mvT hZ (hw _ (List.mem_of_getElem? (i := 82) rfl))) (by decide) (backOf (W := 0) (rmE3 l Z a0 hw [] (own_ln p4) r_11 r_12 (own_ln p1) r_2 r_3 T23.heap n0 Z23 ) hZ (hw _ (List.mem_of_getElem? (i := 82) rfl)) (hw _ (List.mem_of_getElem? (i := 2) rfl)) (by decide) (by decide)) (g := (mkF m 278 #[.val (.int p1), .val (.int p2), .val (.int p3), .val (.int p4), .val (.int p5), .val (.int cx), .val (.int cy), .val (.int (own_ln p1)), .val (.int r_2), .val (.int r_3), .val (.int (own_ln p2)), .val (.int r_5), .val (.int r_6), .val (.int (own_ln p3)), .val (.int r_8), .val (.int r_9), .val (.int (own_ln p4)), .val (.int r_11), .val (.int r_12), .val (.ref b_13), .val (.ref b_14), .val (.ref b_15), .val (.ref b_16), .val (.ref b17), .val (.int (own_join (own_ch3 (own_ln p1) r_2 r_3) (own_ch3 (own_ln p2) r_5 r_6) (own_ch3 (own_ln p3) r_8 r_9) (own_ch3 (own_ln p4) r_11 r_12))), .val (.int (0 : Int32)), .unset, .unset] [(.int r_3), (.int r_2), (.int (own_ln p1)), (.int r_12), (.int r_11), (.int (own_ln p4))])) rfl (by rw [hml]; rfl) (argsL := [(.int (own_ln p4)), (.int r_11), (.int r_12), (.int (own_ln p1)), (.int r_2), (.int r_3)]) (rest := []) (lenOf pd__ICCICC_Z rfl) rfl (by show 2 * 0 + _ ≤ _; exact Nat.le_of_eq rfl) (hb hby at_278) (fun _ _ => ⟨rfl, e28, (by decide : 29 + 0 ≤ _), (by decide : 84 + 0 ≤ _)⟩)
      dsimp only [Pt.U, Pt.locs, Pt.cells, Pt.slots] at X30 l30 y30 z30 st30 hQ30
      subst l30 y30 z30
      obtain ⟨rfl, Nq30, e30⟩ := hQ30
      have Nf30 := Fr.app Nf28 Nq30
      refine own_fw (A' := (T30.setTop (mkF m 281 #[.val (.int p1), .val (.int p2), .val (.int p3), .val (.int p4), .val (.int p5), .val (.int cx), .val (.int cy), .val (.int (own_ln p1)), .val (.int r_2), .val (.int r_3), .val (.int (own_ln p2)), .val (.int r_5), .val (.int r_6), .val (.int (own_ln p3)), .val (.int r_8), .val (.int r_9), .val (.int (own_ln p4)), .val (.int r_11), .val (.int r_12), .val (.ref b_13), .val (.ref b_14), .val (.ref b_15), .val (.ref b_16), .val (.ref b17), .val (.int (own_join (own_ch3 (own_ln p1) r_2 r_3) (own_ch3 (own_ln p2) r_5 r_6) (own_ch3 (own_ln p3) r_8 r_9) (own_ch3 (own_ln p4) r_11 r_12))), .val (.int (0 : Int32)), .unset, .unset] [(.int (own_eq3 (own_ln p4) r_11 r_12 (own_ln p1) r_2 r_3))]))) (fun t k => st30 _ k) ?_
      by_cases hc31 : (own_eq3 (own_ln p4) r_11 r_12 (own_ln p1) r_2 r_3) = (0 : Int32)
      · refine own_fw (A' := (T30.setTop (mkF m 288 #[.val (.int p1), .val (.int p2), .val (.int p3), .val (.int p4), .val (.int p5), .val (.int cx), .val (.int cy), .val (.int (own_ln p1)), .val (.int r_2), .val (.int r_3), .val (.int (own_ln p2)), .val (.int r_5), .val (.int r_6), .val (.int (own_ln p3)), .val (.int r_8), .val (.int r_9), .val (.int (own_ln p4)), .val (.int r_11), .val (.int r_12), .val (.ref b_13), .val (.ref b_14), .val (.ref b_15), .val (.ref b_16), .val (.ref b17), .val (.int (own_join (own_ch3 (own_ln p1) r_2 r_3) (own_ch3 (own_ln p2) r_5 r_6) (own_ch3 (own_ln p3) r_8 r_9) (own_ch3 (own_ln p4) r_11 r_12))), .val (.int (0 : Int32)), .unset, .unset] []))) (fun t k => XS.ifYes X30.here hx rfl (pc0 := 281) (pc' := 288) rfl (hb hby at_281) rfl (XT.i0_eq_t hc31) (by decide) (by decide) k) ?_
        refine own_fw (A' := (T30.setTop (mkF m 289 #[.val (.int p1), .val (.int p2), .val (.int p3), .val (.int p4), .val (.int p5), .val (.int cx), .val (.int cy), .val (.int (own_ln p1)), .val (.int r_2), .val (.int r_3), .val (.int (own_ln p2)), .val (.int r_5), .val (.int r_6), .val (.int (own_ln p3)), .val (.int r_8), .val (.int r_9), .val (.int (own_ln p4)), .val (.int r_11), .val (.int r_12), .val (.ref b_13), .val (.ref b_14), .val (.ref b_15), .val (.ref b_16), .val (.ref b17), .val (.int (own_join (own_ch3 (own_ln p1) r_2 r_3) (own_ch3 (own_ln p2) r_5 r_6) (own_ch3 (own_ln p3) r_8 r_9) (own_ch3 (own_ln p4) r_11 r_12))), .val (.int (0 : Int32)), .unset, .unset] [(.int (0 : Int32))]))) (fun t k => XS.iconst X30.here hx rfl (hb hby at_288) k) ?_
        refine own_fw (A' := (T30.setTop (mkF m 291 #[.val (.int p1), .val (.int p2), .val (.int p3), .val (.int p4), .val (.int p5), .val (.int cx), .val (.int cy), .val (.int (own_ln p1)), .val (.int r_2), .val (.int r_3), .val (.int (own_ln p2)), .val (.int r_5), .val (.int r_6), .val (.int (own_ln p3)), .val (.int r_8), .val (.int r_9), .val (.int (own_ln p4)), .val (.int r_11), .val (.int r_12), .val (.ref b_13), .val (.ref b_14), .val (.ref b_15), .val (.ref b_16), .val (.ref b17), .val (.int (own_join (own_ch3 (own_ln p1) r_2 r_3) (own_ch3 (own_ln p2) r_5 r_6) (own_ch3 (own_ln p3) r_8 r_9) (own_ch3 (own_ln p4) r_11 r_12))), .val (.int (0 : Int32)), .val (.int (0 : Int32)), .unset] []))) (fun t k => XS.istore X30.here hx rfl (hb hby at_289) rfl (l' := #[.val (.int p1), .val (.int p2), .val (.int p3), .val (.int p4), .val (.int p5), .val (.int cx), .val (.int cy), .val (.int (own_ln p1)), .val (.int r_2), .val (.int r_3), .val (.int (own_ln p2)), .val (.int r_5), .val (.int r_6), .val (.int (own_ln p3)), .val (.int r_8), .val (.int r_9), .val (.int (own_ln p4)), .val (.int r_11), .val (.int r_12), .val (.ref b_13), .val (.ref b_14), .val (.ref b_15), .val (.ref b_16), .val (.ref b17), .val (.int (own_join (own_ch3 (own_ln p1) r_2 r_3) (own_ch3 (own_ln p2) r_5 r_6) (own_ch3 (own_ln p3) r_8 r_9) (own_ch3 (own_ln p4) r_11 r_12))), .val (.int (0 : Int32)), .val (.int (0 : Int32)), .unset]) rfl k) ?_
        refine own_fw (A' := (T30.setTop (mkF m 293 #[.val (.int p1), .val (.int p2), .val (.int p3), .val (.int p4), .val (.int p5), .val (.int cx), .val (.int cy), .val (.int (own_ln p1)), .val (.int r_2), .val (.int r_3), .val (.int (own_ln p2)), .val (.int r_5), .val (.int r_6), .val (.int (own_ln p3)), .val (.int r_8), .val (.int r_9), .val (.int (own_ln p4)), .val (.int r_11), .val (.int r_12), .val (.ref b_13), .val (.ref b_14), .val (.ref b_15), .val (.ref b_16), .val (.ref b17), .val (.int (own_join (own_ch3 (own_ln p1) r_2 r_3) (own_ch3 (own_ln p2) r_5 r_6) (own_ch3 (own_ln p3) r_8 r_9) (own_ch3 (own_ln p4) r_11 r_12))), .val (.int (0 : Int32)), .val (.int (0 : Int32)), .unset] [(.int (0 : Int32))]))) (fun t k => XS.iload X30.here hx rfl (hb hby at_291) rfl k) ?_
        refine own_fw (A' := (T30.setTop (mkF m 296 #[.val (.int p1), .val (.int p2), .val (.int p3), .val (.int p4), .val (.int p5), .val (.int cx), .val (.int cy), .val (.int (own_ln p1)), .val (.int r_2), .val (.int r_3), .val (.int (own_ln p2)), .val (.int r_5), .val (.int r_6), .val (.int (own_ln p3)), .val (.int r_8), .val (.int r_9), .val (.int (own_ln p4)), .val (.int r_11), .val (.int r_12), .val (.ref b_13), .val (.ref b_14), .val (.ref b_15), .val (.ref b_16), .val (.ref b17), .val (.int (own_join (own_ch3 (own_ln p1) r_2 r_3) (own_ch3 (own_ln p2) r_5 r_6) (own_ch3 (own_ln p3) r_8 r_9) (own_ch3 (own_ln p4) r_11 r_12))), .val (.int (0 : Int32)), .val (.int (0 : Int32)), .unset] []))) (fun t k => XS.ifNo X30.here hx rfl (hb hby at_293) rfl (XT.i0_ne_f rfl) k) ?_
        refine own_fw (A' := (T30.setTop (mkF m 298 #[.val (.int p1), .val (.int p2), .val (.int p3), .val (.int p4), .val (.int p5), .val (.int cx), .val (.int cy), .val (.int (own_ln p1)), .val (.int r_2), .val (.int r_3), .val (.int (own_ln p2)), .val (.int r_5), .val (.int r_6), .val (.int (own_ln p3)), .val (.int r_8), .val (.int r_9), .val (.int (own_ln p4)), .val (.int r_11), .val (.int r_12), .val (.ref b_13), .val (.ref b_14), .val (.ref b_15), .val (.ref b_16), .val (.ref b17), .val (.int (own_join (own_ch3 (own_ln p1) r_2 r_3) (own_ch3 (own_ln p2) r_5 r_6) (own_ch3 (own_ln p3) r_8 r_9) (own_ch3 (own_ln p4) r_11 r_12))), .val (.int (0 : Int32)), .val (.int (0 : Int32)), .unset] [(.int (0 : Int32))]))) (fun t k => XS.iload X30.here hx rfl (hb hby at_296) rfl k) ?_
        refine own_fw (A' := (T30.setTop (mkF m 305 #[.val (.int p1), .val (.int p2), .val (.int p3), .val (.int p4), .val (.int p5), .val (.int cx), .val (.int cy), .val (.int (own_ln p1)), .val (.int r_2), .val (.int r_3), .val (.int (own_ln p2)), .val (.int r_5), .val (.int r_6), .val (.int (own_ln p3)), .val (.int r_8), .val (.int r_9), .val (.int (own_ln p4)), .val (.int r_11), .val (.int r_12), .val (.ref b_13), .val (.ref b_14), .val (.ref b_15), .val (.ref b_16), .val (.ref b17), .val (.int (own_join (own_ch3 (own_ln p1) r_2 r_3) (own_ch3 (own_ln p2) r_5 r_6) (own_ch3 (own_ln p3) r_8 r_9) (own_ch3 (own_ln p4) r_11 r_12))), .val (.int (0 : Int32)), .val (.int (0 : Int32)), .unset] []))) (fun t k => XS.ifYes X30.here hx rfl (pc0 := 298) (pc' := 305) rfl (hb hby at_298) rfl (XT.i0_eq_t rfl) (by decide) (by decide) k) ?_
        refine own_fw (A' := (T30.setTop (mkF m 306 #[.val (.int p1), .val (.int p2), .val (.int p3), .val (.int p4), .val (.int p5), .val (.int cx), .val (.int cy), .val (.int (own_ln p1)), .val (.int r_2), .val (.int r_3), .val (.int (own_ln p2)), .val (.int r_5), .val (.int r_6), .val (.int (own_ln p3)), .val (.int r_8), .val (.int r_9), .val (.int (own_ln p4)), .val (.int r_11), .val (.int r_12), .val (.ref b_13), .val (.ref b_14), .val (.ref b_15), .val (.ref b_16), .val (.ref b17), .val (.int (own_join (own_ch3 (own_ln p1) r_2 r_3) (own_ch3 (own_ln p2) r_5 r_6) (own_ch3 (own_ln p3) r_8 r_9) (own_ch3 (own_ln p4) r_11 r_12))), .val (.int (0 : Int32)), .val (.int (0 : Int32)), .unset] [(.int (0 : Int32))]))) (fun t k => XS.iconst X30.here hx rfl (hb hby at_305) k) ?_
        refine own_fw (A' := (T30.setTop (mkF m 308 #[.val (.int p1), .val (.int p2), .val (.int p3), .val (.int p4), .val (.int p5), .val (.int cx), .val (.int cy), .val (.int (own_ln p1)), .val (.int r_2), .val (.int r_3), .val (.int (own_ln p2)), .val (.int r_5), .val (.int r_6), .val (.int (own_ln p3)), .val (.int r_8), .val (.int r_9), .val (.int (own_ln p4)), .val (.int r_11), .val (.int r_12), .val (.ref b_13), .val (.ref b_14), .val (.ref b_15), .val (.ref b_16), .val (.ref b17), .val (.int (own_join (own_ch3 (own_ln p1) r_2 r_3) (own_ch3 (own_ln p2) r_5 r_6) (own_ch3 (own_ln p3) r_8 r_9) (own_ch3 (own_ln p4) r_11 r_12))), .val (.int (0 : Int32)), .val (.int (0 : Int32)), .val (.int (0 : Int32))] []))) (fun t k => XS.istore X30.here hx rfl (hb hby at_306) rfl (l' := #[.val (.int p1), .val (.int p2), .val (.int p3), .val (.int p4), .val (.int p5), .val (.int cx), .val (.int cy), .val (.int (own_ln p1)), .val (.int r_2), .val (.int r_3), .val (.int (own_ln p2)), .val (.int r_5), .val (.int r_6), .val (.int (own_ln p3)), .val (.int r_8), .val (.int r_9), .val (.int (own_ln p4)), .val (.int r_11), .val (.int r_12), .val (.ref b_13), .val (.ref b_14), .val (.ref b_15), .val (.ref b_16), .val (.ref b17), .val (.int (own_join (own_ch3 (own_ln p1) r_2 r_3) (own_ch3 (own_ln p2) r_5 r_6) (own_ch3 (own_ln p3) r_8 r_9) (own_ch3 (own_ln p4) r_11 r_12))), .val (.int (0 : Int32)), .val (.int (0 : Int32)), .val (.int (0 : Int32))]) rfl k) ?_
        refine own_fw (A' := (T30.setTop (mkF m 310 #[.val (.int p1), .val (.int p2), .val (.int p3), .val (.int p4), .val (.int p5), .val (.int cx), .val (.int cy), .val (.int (own_ln p1)), .val (.int r_2), .val (.int r_3), .val (.int (own_ln p2)), .val (.int r_5), .val (.int r_6), .val (.int (own_ln p3)), .val (.int r_8), .val (.int r_9), .val (.int (own_ln p4)), .val (.int r_11), .val (.int r_12), .val (.ref b_13), .val (.ref b_14), .val (.ref b_15), .val (.ref b_16), .val (.ref b17), .val (.int (own_join (own_ch3 (own_ln p1) r_2 r_3) (own_ch3 (own_ln p2) r_5 r_6) (own_ch3 (own_ln p3) r_8 r_9) (own_ch3 (own_ln p4) r_11 r_12))), .val (.int (0 : Int32)), .val (.int (0 : Int32)), .val (.int (0 : Int32))] [(.int (own_join (own_ch3 (own_ln p1) r_2 r_3) (own_ch3 (own_ln p2) r_5 r_6) (own_ch3 (own_ln p3) r_8 r_9) (own_ch3 (own_ln p4) r_11 r_12)))]))) (fun t k => XS.iload X30.here hx rfl (hb hby at_308) rfl k) ?_
        refine own_fw (A' := (T30.setTop (mkF m 312 #[.val (.int p1), .val (.int p2), .val (.int p3), .val (.int p4), .val (.int p5), .val (.int cx), .val (.int cy), .val (.int (own_ln p1)), .val (.int r_2), .val (.int r_3), .val (.int (own_ln p2)), .val (.int r_5), .val (.int r_6), .val (.int (own_ln p3)), .val (.int r_8), .val (.int r_9), .val (.int (own_ln p4)), .val (.int r_11), .val (.int r_12), .val (.ref b_13), .val (.ref b_14), .val (.ref b_15), .val (.ref b_16), .val (.ref b17), .val (.int (own_join (own_ch3 (own_ln p1) r_2 r_3) (own_ch3 (own_ln p2) r_5 r_6) (own_ch3 (own_ln p3) r_8 r_9) (own_ch3 (own_ln p4) r_11 r_12))), .val (.int (0 : Int32)), .val (.int (0 : Int32)), .val (.int (0 : Int32))] [(.int (0 : Int32)), (.int (own_join (own_ch3 (own_ln p1) r_2 r_3) (own_ch3 (own_ln p2) r_5 r_6) (own_ch3 (own_ln p3) r_8 r_9) (own_ch3 (own_ln p4) r_11 r_12)))]))) (fun t k => XS.iload X30.here hx rfl (hb hby at_310) rfl k) ?_
        refine own_fw (A' := (T30.setTop (mkF m 315 #[.val (.int p1), .val (.int p2), .val (.int p3), .val (.int p4), .val (.int p5), .val (.int cx), .val (.int cy), .val (.int (own_ln p1)), .val (.int r_2), .val (.int r_3), .val (.int (own_ln p2)), .val (.int r_5), .val (.int r_6), .val (.int (own_ln p3)), .val (.int r_8), .val (.int r_9), .val (.int (own_ln p4)), .val (.int r_11), .val (.int r_12), .val (.ref b_13), .val (.ref b_14), .val (.ref b_15), .val (.ref b_16), .val (.ref b17), .val (.int (own_join (own_ch3 (own_ln p1) r_2 r_3) (own_ch3 (own_ln p2) r_5 r_6) (own_ch3 (own_ln p3) r_8 r_9) (own_ch3 (own_ln p4) r_11 r_12))), .val (.int (0 : Int32)), .val (.int (0 : Int32)), .val (.int (0 : Int32))] []))) (fun t k => XS.icmpNo X30.here hx rfl (hb hby at_312) rfl (XT.ii_ne_f (by simp only [own_join, own_jt, if_pos (own_q hc27), if_neg (own_qn hc29), if_pos (own_q hc31)])) k) ?_
        refine own_fw (A' := (T30.setTop (mkF m 316 #[.val (.int p1), .val (.int p2), .val (.int p3), .val (.int p4), .val (.int p5), .val (.int cx), .val (.int cy), .val (.int (own_ln p1)), .val (.int r_2), .val (.int r_3), .val (.int (own_ln p2)), .val (.int r_5), .val (.int r_6), .val (.int (own_ln p3)), .val (.int r_8), .val (.int r_9), .val (.int (own_ln p4)), .val (.int r_11), .val (.int r_12), .val (.ref b_13), .val (.ref b_14), .val (.ref b_15), .val (.ref b_16), .val (.ref b17), .val (.int (own_join (own_ch3 (own_ln p1) r_2 r_3) (own_ch3 (own_ln p2) r_5 r_6) (own_ch3 (own_ln p3) r_8 r_9) (own_ch3 (own_ln p4) r_11 r_12))), .val (.int (0 : Int32)), .val (.int (0 : Int32)), .val (.int (0 : Int32))] [(.int (1 : Int32))]))) (fun t k => XS.iconst X30.here hx rfl (hb hby at_315) k) ?_
        refine own_fw (A' := (T30.setTop (mkF m 320 #[.val (.int p1), .val (.int p2), .val (.int p3), .val (.int p4), .val (.int p5), .val (.int cx), .val (.int cy), .val (.int (own_ln p1)), .val (.int r_2), .val (.int r_3), .val (.int (own_ln p2)), .val (.int r_5), .val (.int r_6), .val (.int (own_ln p3)), .val (.int r_8), .val (.int r_9), .val (.int (own_ln p4)), .val (.int r_11), .val (.int r_12), .val (.ref b_13), .val (.ref b_14), .val (.ref b_15), .val (.ref b_16), .val (.ref b17), .val (.int (own_join (own_ch3 (own_ln p1) r_2 r_3) (own_ch3 (own_ln p2) r_5 r_6) (own_ch3 (own_ln p3) r_8 r_9) (own_ch3 (own_ln p4) r_11 r_12))), .val (.int (0 : Int32)), .val (.int (0 : Int32)), .val (.int (0 : Int32))] [(.int (1 : Int32))]))) (fun t k => XS.goto X30.here hx rfl (pc0 := 316) (pc' := 320) rfl (hb hby at_316) (by decide) (by decide) k) ?_
        obtain ⟨fs, hr, hrun, hended, hWE⟩ := X30.leaveW hS (by rw [e30]; exact hk : _ ≤ T30.heap.size) (v := some (.int (1 : Int32))) (fun h => by rw [Bd.returns] at h; cases h)
        refine ⟨_, _, ?_, hrun, hended, _, _, rfl, ?_, own_widen hWE (by decide) (by decide)⟩
        · exact retOut X30 hx Bd.returns rfl (Or.inl ⟨rfl, by simp, _, rfl⟩) (hb hby at_320) hr
        · show Q_rm0 Z p1 p2 p3 p4 p5 cs h0 n0 _ T30.heap _
          rw [e30]
          exact ⟨rfl, Nf30⟩
      · refine own_fw (A' := (T30.setTop (mkF m 284 #[.val (.int p1), .val (.int p2), .val (.int p3), .val (.int p4), .val (.int p5), .val (.int cx), .val (.int cy), .val (.int (own_ln p1)), .val (.int r_2), .val (.int r_3), .val (.int (own_ln p2)), .val (.int r_5), .val (.int r_6), .val (.int (own_ln p3)), .val (.int r_8), .val (.int r_9), .val (.int (own_ln p4)), .val (.int r_11), .val (.int r_12), .val (.ref b_13), .val (.ref b_14), .val (.ref b_15), .val (.ref b_16), .val (.ref b17), .val (.int (own_join (own_ch3 (own_ln p1) r_2 r_3) (own_ch3 (own_ln p2) r_5 r_6) (own_ch3 (own_ln p3) r_8 r_9) (own_ch3 (own_ln p4) r_11 r_12))), .val (.int (0 : Int32)), .unset, .unset] []))) (fun t k => XS.ifNo X30.here hx rfl (hb hby at_281) rfl (XT.i0_eq_f hc31) k) ?_
        refine own_fw (A' := (T30.setTop (mkF m 285 #[.val (.int p1), .val (.int p2), .val (.int p3), .val (.int p4), .val (.int p5), .val (.int cx), .val (.int cy), .val (.int (own_ln p1)), .val (.int r_2), .val (.int r_3), .val (.int (own_ln p2)), .val (.int r_5), .val (.int r_6), .val (.int (own_ln p3)), .val (.int r_8), .val (.int r_9), .val (.int (own_ln p4)), .val (.int r_11), .val (.int r_12), .val (.ref b_13), .val (.ref b_14), .val (.ref b_15), .val (.ref b_16), .val (.ref b17), .val (.int (own_join (own_ch3 (own_ln p1) r_2 r_3) (own_ch3 (own_ln p2) r_5 r_6) (own_ch3 (own_ln p3) r_8 r_9) (own_ch3 (own_ln p4) r_11 r_12))), .val (.int (0 : Int32)), .unset, .unset] [(.int (1 : Int32))]))) (fun t k => XS.iconst X30.here hx rfl (hb hby at_284) k) ?_
        refine own_fw (A' := (T30.setTop (mkF m 289 #[.val (.int p1), .val (.int p2), .val (.int p3), .val (.int p4), .val (.int p5), .val (.int cx), .val (.int cy), .val (.int (own_ln p1)), .val (.int r_2), .val (.int r_3), .val (.int (own_ln p2)), .val (.int r_5), .val (.int r_6), .val (.int (own_ln p3)), .val (.int r_8), .val (.int r_9), .val (.int (own_ln p4)), .val (.int r_11), .val (.int r_12), .val (.ref b_13), .val (.ref b_14), .val (.ref b_15), .val (.ref b_16), .val (.ref b17), .val (.int (own_join (own_ch3 (own_ln p1) r_2 r_3) (own_ch3 (own_ln p2) r_5 r_6) (own_ch3 (own_ln p3) r_8 r_9) (own_ch3 (own_ln p4) r_11 r_12))), .val (.int (0 : Int32)), .unset, .unset] [(.int (1 : Int32))]))) (fun t k => XS.goto X30.here hx rfl (pc0 := 285) (pc' := 289) rfl (hb hby at_285) (by decide) (by decide) k) ?_
        refine own_fw (A' := (T30.setTop (mkF m 291 #[.val (.int p1), .val (.int p2), .val (.int p3), .val (.int p4), .val (.int p5), .val (.int cx), .val (.int cy), .val (.int (own_ln p1)), .val (.int r_2), .val (.int r_3), .val (.int (own_ln p2)), .val (.int r_5), .val (.int r_6), .val (.int (own_ln p3)), .val (.int r_8), .val (.int r_9), .val (.int (own_ln p4)), .val (.int r_11), .val (.int r_12), .val (.ref b_13), .val (.ref b_14), .val (.ref b_15), .val (.ref b_16), .val (.ref b17), .val (.int (own_join (own_ch3 (own_ln p1) r_2 r_3) (own_ch3 (own_ln p2) r_5 r_6) (own_ch3 (own_ln p3) r_8 r_9) (own_ch3 (own_ln p4) r_11 r_12))), .val (.int (0 : Int32)), .val (.int (1 : Int32)), .unset] []))) (fun t k => XS.istore X30.here hx rfl (hb hby at_289) rfl (l' := #[.val (.int p1), .val (.int p2), .val (.int p3), .val (.int p4), .val (.int p5), .val (.int cx), .val (.int cy), .val (.int (own_ln p1)), .val (.int r_2), .val (.int r_3), .val (.int (own_ln p2)), .val (.int r_5), .val (.int r_6), .val (.int (own_ln p3)), .val (.int r_8), .val (.int r_9), .val (.int (own_ln p4)), .val (.int r_11), .val (.int r_12), .val (.ref b_13), .val (.ref b_14), .val (.ref b_15), .val (.ref b_16), .val (.ref b17), .val (.int (own_join (own_ch3 (own_ln p1) r_2 r_3) (own_ch3 (own_ln p2) r_5 r_6) (own_ch3 (own_ln p3) r_8 r_9) (own_ch3 (own_ln p4) r_11 r_12))), .val (.int (0 : Int32)), .val (.int (1 : Int32)), .unset]) rfl k) ?_
        refine own_fw (A' := (T30.setTop (mkF m 293 #[.val (.int p1), .val (.int p2), .val (.int p3), .val (.int p4), .val (.int p5), .val (.int cx), .val (.int cy), .val (.int (own_ln p1)), .val (.int r_2), .val (.int r_3), .val (.int (own_ln p2)), .val (.int r_5), .val (.int r_6), .val (.int (own_ln p3)), .val (.int r_8), .val (.int r_9), .val (.int (own_ln p4)), .val (.int r_11), .val (.int r_12), .val (.ref b_13), .val (.ref b_14), .val (.ref b_15), .val (.ref b_16), .val (.ref b17), .val (.int (own_join (own_ch3 (own_ln p1) r_2 r_3) (own_ch3 (own_ln p2) r_5 r_6) (own_ch3 (own_ln p3) r_8 r_9) (own_ch3 (own_ln p4) r_11 r_12))), .val (.int (0 : Int32)), .val (.int (1 : Int32)), .unset] [(.int (0 : Int32))]))) (fun t k => XS.iload X30.here hx rfl (hb hby at_291) rfl k) ?_
        refine own_fw (A' := (T30.setTop (mkF m 296 #[.val (.int p1), .val (.int p2), .val (.int p3), .val (.int p4), .val (.int p5), .val (.int cx), .val (.int cy), .val (.int (own_ln p1)), .val (.int r_2), .val (.int r_3), .val (.int (own_ln p2)), .val (.int r_5), .val (.int r_6), .val (.int (own_ln p3)), .val (.int r_8), .val (.int r_9), .val (.int (own_ln p4)), .val (.int r_11), .val (.int r_12), .val (.ref b_13), .val (.ref b_14), .val (.ref b_15), .val (.ref b_16), .val (.ref b17), .val (.int (own_join (own_ch3 (own_ln p1) r_2 r_3) (own_ch3 (own_ln p2) r_5 r_6) (own_ch3 (own_ln p3) r_8 r_9) (own_ch3 (own_ln p4) r_11 r_12))), .val (.int (0 : Int32)), .val (.int (1 : Int32)), .unset] []))) (fun t k => XS.ifNo X30.here hx rfl (hb hby at_293) rfl (XT.i0_ne_f rfl) k) ?_
        refine own_fw (A' := (T30.setTop (mkF m 298 #[.val (.int p1), .val (.int p2), .val (.int p3), .val (.int p4), .val (.int p5), .val (.int cx), .val (.int cy), .val (.int (own_ln p1)), .val (.int r_2), .val (.int r_3), .val (.int (own_ln p2)), .val (.int r_5), .val (.int r_6), .val (.int (own_ln p3)), .val (.int r_8), .val (.int r_9), .val (.int (own_ln p4)), .val (.int r_11), .val (.int r_12), .val (.ref b_13), .val (.ref b_14), .val (.ref b_15), .val (.ref b_16), .val (.ref b17), .val (.int (own_join (own_ch3 (own_ln p1) r_2 r_3) (own_ch3 (own_ln p2) r_5 r_6) (own_ch3 (own_ln p3) r_8 r_9) (own_ch3 (own_ln p4) r_11 r_12))), .val (.int (0 : Int32)), .val (.int (1 : Int32)), .unset] [(.int (1 : Int32))]))) (fun t k => XS.iload X30.here hx rfl (hb hby at_296) rfl k) ?_
        refine own_fw (A' := (T30.setTop (mkF m 301 #[.val (.int p1), .val (.int p2), .val (.int p3), .val (.int p4), .val (.int p5), .val (.int cx), .val (.int cy), .val (.int (own_ln p1)), .val (.int r_2), .val (.int r_3), .val (.int (own_ln p2)), .val (.int r_5), .val (.int r_6), .val (.int (own_ln p3)), .val (.int r_8), .val (.int r_9), .val (.int (own_ln p4)), .val (.int r_11), .val (.int r_12), .val (.ref b_13), .val (.ref b_14), .val (.ref b_15), .val (.ref b_16), .val (.ref b17), .val (.int (own_join (own_ch3 (own_ln p1) r_2 r_3) (own_ch3 (own_ln p2) r_5 r_6) (own_ch3 (own_ln p3) r_8 r_9) (own_ch3 (own_ln p4) r_11 r_12))), .val (.int (0 : Int32)), .val (.int (1 : Int32)), .unset] []))) (fun t k => XS.ifNo X30.here hx rfl (hb hby at_298) rfl (XT.i0_eq_f (by decide)) k) ?_
        refine own_fw (A' := (T30.setTop (mkF m 302 #[.val (.int p1), .val (.int p2), .val (.int p3), .val (.int p4), .val (.int p5), .val (.int cx), .val (.int cy), .val (.int (own_ln p1)), .val (.int r_2), .val (.int r_3), .val (.int (own_ln p2)), .val (.int r_5), .val (.int r_6), .val (.int (own_ln p3)), .val (.int r_8), .val (.int r_9), .val (.int (own_ln p4)), .val (.int r_11), .val (.int r_12), .val (.ref b_13), .val (.ref b_14), .val (.ref b_15), .val (.ref b_16), .val (.ref b17), .val (.int (own_join (own_ch3 (own_ln p1) r_2 r_3) (own_ch3 (own_ln p2) r_5 r_6) (own_ch3 (own_ln p3) r_8 r_9) (own_ch3 (own_ln p4) r_11 r_12))), .val (.int (0 : Int32)), .val (.int (1 : Int32)), .unset] [(.int (1 : Int32))]))) (fun t k => XS.iconst X30.here hx rfl (hb hby at_301) k) ?_
        refine own_fw (A' := (T30.setTop (mkF m 306 #[.val (.int p1), .val (.int p2), .val (.int p3), .val (.int p4), .val (.int p5), .val (.int cx), .val (.int cy), .val (.int (own_ln p1)), .val (.int r_2), .val (.int r_3), .val (.int (own_ln p2)), .val (.int r_5), .val (.int r_6), .val (.int (own_ln p3)), .val (.int r_8), .val (.int r_9), .val (.int (own_ln p4)), .val (.int r_11), .val (.int r_12), .val (.ref b_13), .val (.ref b_14), .val (.ref b_15), .val (.ref b_16), .val (.ref b17), .val (.int (own_join (own_ch3 (own_ln p1) r_2 r_3) (own_ch3 (own_ln p2) r_5 r_6) (own_ch3 (own_ln p3) r_8 r_9) (own_ch3 (own_ln p4) r_11 r_12))), .val (.int (0 : Int32)), .val (.int (1 : Int32)), .unset] [(.int (1 : Int32))]))) (fun t k => XS.goto X30.here hx rfl (pc0 := 302) (pc' := 306) rfl (hb hby at_302) (by decide) (by decide) k) ?_
        refine own_fw (A' := (T30.setTop (mkF m 308 #[.val (.int p1), .val (.int p2), .val (.int p3), .val (.int p4), .val (.int p5), .val (.int cx), .val (.int cy), .val (.int (own_ln p1)), .val (.int r_2), .val (.int r_3), .val (.int (own_ln p2)), .val (.int r_5), .val (.int r_6), .val (.int (own_ln p3)), .val (.int r_8), .val (.int r_9), .val (.int (own_ln p4)), .val (.int r_11), .val (.int r_12), .val (.ref b_13), .val (.ref b_14), .val (.ref b_15), .val (.ref b_16), .val (.ref b17), .val (.int (own_join (own_ch3 (own_ln p1) r_2 r_3) (own_ch3 (own_ln p2) r_5 r_6) (own_ch3 (own_ln p3) r_8 r_9) (own_ch3 (own_ln p4) r_11 r_12))), .val (.int (0 : Int32)), .val (.int (1 : Int32)), .val (.int (1 : Int32))] []))) (fun t k => XS.istore X30.here hx rfl (hb hby at_306) rfl (l' := #[.val (.int p1), .val (.int p2), .val (.int p3), .val (.int p4), .val (.int p5), .val (.int cx), .val (.int cy), .val (.int (own_ln p1)), .val (.int r_2), .val (.int r_3), .val (.int (own_ln p2)), .val (.int r_5), .val (.int r_6), .val (.int (own_ln p3)), .val (.int r_8), .val (.int r_9), .val (.int (own_ln p4)), .val (.int r_11), .val (.int r_12), .val (.ref b_13), .val (.ref b_14), .val (.ref b_15), .val (.ref b_16), .val (.ref b17), .val (.int (own_join (own_ch3 (own_ln p1) r_2 r_3) (own_ch3 (own_ln p2) r_5 r_6) (own_ch3 (own_ln p3) r_8 r_9) (own_ch3 (own_ln p4) r_11 r_12))), .val (.int (0 : Int32)), .val (.int (1 : Int32)), .val (.int (1 : Int32))]) rfl k) ?_
        refine own_fw (A' := (T30.setTop (mkF m 310 #[.val (.int p1), .val (.int p2), .val (.int p3), .val (.int p4), .val (.int p5), .val (.int cx), .val (.int cy), .val (.int (own_ln p1)), .val (.int r_2), .val (.int r_3), .val (.int (own_ln p2)), .val (.int r_5), .val (.int r_6), .val (.int (own_ln p3)), .val (.int r_8), .val (.int r_9), .val (.int (own_ln p4)), .val (.int r_11), .val (.int r_12), .val (.ref b_13), .val (.ref b_14), .val (.ref b_15), .val (.ref b_16), .val (.ref b17), .val (.int (own_join (own_ch3 (own_ln p1) r_2 r_3) (own_ch3 (own_ln p2) r_5 r_6) (own_ch3 (own_ln p3) r_8 r_9) (own_ch3 (own_ln p4) r_11 r_12))), .val (.int (0 : Int32)), .val (.int (1 : Int32)), .val (.int (1 : Int32))] [(.int (own_join (own_ch3 (own_ln p1) r_2 r_3) (own_ch3 (own_ln p2) r_5 r_6) (own_ch3 (own_ln p3) r_8 r_9) (own_ch3 (own_ln p4) r_11 r_12)))]))) (fun t k => XS.iload X30.here hx rfl (hb hby at_308) rfl k) ?_
        refine own_fw (A' := (T30.setTop (mkF m 312 #[.val (.int p1), .val (.int p2), .val (.int p3), .val (.int p4), .val (.int p5), .val (.int cx), .val (.int cy), .val (.int (own_ln p1)), .val (.int r_2), .val (.int r_3), .val (.int (own_ln p2)), .val (.int r_5), .val (.int r_6), .val (.int (own_ln p3)), .val (.int r_8), .val (.int r_9), .val (.int (own_ln p4)), .val (.int r_11), .val (.int r_12), .val (.ref b_13), .val (.ref b_14), .val (.ref b_15), .val (.ref b_16), .val (.ref b17), .val (.int (own_join (own_ch3 (own_ln p1) r_2 r_3) (own_ch3 (own_ln p2) r_5 r_6) (own_ch3 (own_ln p3) r_8 r_9) (own_ch3 (own_ln p4) r_11 r_12))), .val (.int (0 : Int32)), .val (.int (1 : Int32)), .val (.int (1 : Int32))] [(.int (1 : Int32)), (.int (own_join (own_ch3 (own_ln p1) r_2 r_3) (own_ch3 (own_ln p2) r_5 r_6) (own_ch3 (own_ln p3) r_8 r_9) (own_ch3 (own_ln p4) r_11 r_12)))]))) (fun t k => XS.iload X30.here hx rfl (hb hby at_310) rfl k) ?_
        refine own_fw (A' := (T30.setTop (mkF m 315 #[.val (.int p1), .val (.int p2), .val (.int p3), .val (.int p4), .val (.int p5), .val (.int cx), .val (.int cy), .val (.int (own_ln p1)), .val (.int r_2), .val (.int r_3), .val (.int (own_ln p2)), .val (.int r_5), .val (.int r_6), .val (.int (own_ln p3)), .val (.int r_8), .val (.int r_9), .val (.int (own_ln p4)), .val (.int r_11), .val (.int r_12), .val (.ref b_13), .val (.ref b_14), .val (.ref b_15), .val (.ref b_16), .val (.ref b17), .val (.int (own_join (own_ch3 (own_ln p1) r_2 r_3) (own_ch3 (own_ln p2) r_5 r_6) (own_ch3 (own_ln p3) r_8 r_9) (own_ch3 (own_ln p4) r_11 r_12))), .val (.int (0 : Int32)), .val (.int (1 : Int32)), .val (.int (1 : Int32))] []))) (fun t k => XS.icmpNo X30.here hx rfl (hb hby at_312) rfl (XT.ii_ne_f (by simp only [own_join, own_jt, if_pos (own_q hc27), if_neg (own_qn hc29), if_neg (own_qn hc31)])) k) ?_
        refine own_fw (A' := (T30.setTop (mkF m 316 #[.val (.int p1), .val (.int p2), .val (.int p3), .val (.int p4), .val (.int p5), .val (.int cx), .val (.int cy), .val (.int (own_ln p1)), .val (.int r_2), .val (.int r_3), .val (.int (own_ln p2)), .val (.int r_5), .val (.int r_6), .val (.int (own_ln p3)), .val (.int r_8), .val (.int r_9), .val (.int (own_ln p4)), .val (.int r_11), .val (.int r_12), .val (.ref b_13), .val (.ref b_14), .val (.ref b_15), .val (.ref b_16), .val (.ref b17), .val (.int (own_join (own_ch3 (own_ln p1) r_2 r_3) (own_ch3 (own_ln p2) r_5 r_6) (own_ch3 (own_ln p3) r_8 r_9) (own_ch3 (own_ln p4) r_11 r_12))), .val (.int (0 : Int32)), .val (.int (1 : Int32)), .val (.int (1 : Int32))] [(.int (1 : Int32))]))) (fun t k => XS.iconst X30.here hx rfl (hb hby at_315) k) ?_
        refine own_fw (A' := (T30.setTop (mkF m 320 #[.val (.int p1), .val (.int p2), .val (.int p3), .val (.int p4), .val (.int p5), .val (.int cx), .val (.int cy), .val (.int (own_ln p1)), .val (.int r_2), .val (.int r_3), .val (.int (own_ln p2)), .val (.int r_5), .val (.int r_6), .val (.int (own_ln p3)), .val (.int r_8), .val (.int r_9), .val (.int (own_ln p4)), .val (.int r_11), .val (.int r_12), .val (.ref b_13), .val (.ref b_14), .val (.ref b_15), .val (.ref b_16), .val (.ref b17), .val (.int (own_join (own_ch3 (own_ln p1) r_2 r_3) (own_ch3 (own_ln p2) r_5 r_6) (own_ch3 (own_ln p3) r_8 r_9) (own_ch3 (own_ln p4) r_11 r_12))), .val (.int (0 : Int32)), .val (.int (1 : Int32)), .val (.int (1 : Int32))] [(.int (1 : Int32))]))) (fun t k => XS.goto X30.here hx rfl (pc0 := 316) (pc' := 320) rfl (hb hby at_316) (by decide) (by decide) k) ?_
        obtain ⟨fs, hr, hrun, hended, hWE⟩ := X30.leaveW hS (by rw [e30]; exact hk : _ ≤ T30.heap.size) (v := some (.int (1 : Int32))) (fun h => by rw [Bd.returns] at h; cases h)
        refine ⟨_, _, ?_, hrun, hended, _, _, rfl, ?_, own_widen hWE (by decide) (by decide)⟩
        · exact retOut X30 hx Bd.returns rfl (Or.inl ⟨rfl, by simp, _, rfl⟩) (hb hby at_320) hr
        · show Q_rm0 Z p1 p2 p3 p4 p5 cs h0 n0 _ T30.heap _
          rw [e30]
          exact ⟨rfl, Nf30⟩
  · refine own_fw (A' := (T26.setTop (mkF m 223 #[.val (.int p1), .val (.int p2), .val (.int p3), .val (.int p4), .val (.int p5), .val (.int cx), .val (.int cy), .val (.int (own_ln p1)), .val (.int r_2), .val (.int r_3), .val (.int (own_ln p2)), .val (.int r_5), .val (.int r_6), .val (.int (own_ln p3)), .val (.int r_8), .val (.int r_9), .val (.int (own_ln p4)), .val (.int r_11), .val (.int r_12), .val (.ref b_13), .val (.ref b_14), .val (.ref b_15), .val (.ref b_16), .val (.ref b17), .val (.int (own_join (own_ch3 (own_ln p1) r_2 r_3) (own_ch3 (own_ln p2) r_5 r_6) (own_ch3 (own_ln p3) r_8 r_9) (own_ch3 (own_ln p4) r_11 r_12))), .unset, .unset, .unset] []))) (fun t k => XS.ifNo X26.here hx rfl (hb hby at_220) rfl (XT.i0_eq_f hc27) k) ?_
    refine own_fw (A' := (T26.setTop (mkF m 225 #[.val (.int p1), .val (.int p2), .val (.int p3), .val (.int p4), .val (.int p5), .val (.int cx), .val (.int cy), .val (.int (own_ln p1)), .val (.int r_2), .val (.int r_3), .val (.int (own_ln p2)), .val (.int r_5), .val (.int r_6), .val (.int (own_ln p3)), .val (.int r_8), .val (.int r_9), .val (.int (own_ln p4)), .val (.int r_11), .val (.int r_12), .val (.ref b_13), .val (.ref b_14), .val (.ref b_15), .val (.ref b_16), .val (.ref b17), .val (.int (own_join (own_ch3 (own_ln p1) r_2 r_3) (own_ch3 (own_ln p2) r_5 r_6) (own_ch3 (own_ln p3) r_8 r_9) (own_ch3 (own_ln p4) r_11 r_12))), .unset, .unset, .unset] [(.int (own_ln p4))]))) (fun t k => XS.iload X26.here hx rfl (hb hby at_223) rfl k) ?_
    refine own_fw (A' := (T26.setTop (mkF m 227 #[.val (.int p1), .val (.int p2), .val (.int p3), .val (.int p4), .val (.int p5), .val (.int cx), .val (.int cy), .val (.int (own_ln p1)), .val (.int r_2), .val (.int r_3), .val (.int (own_ln p2)), .val (.int r_5), .val (.int r_6), .val (.int (own_ln p3)), .val (.int r_8), .val (.int r_9), .val (.int (own_ln p4)), .val (.int r_11), .val (.int r_12), .val (.ref b_13), .val (.ref b_14), .val (.ref b_15), .val (.ref b_16), .val (.ref b17), .val (.int (own_join (own_ch3 (own_ln p1) r_2 r_3) (own_ch3 (own_ln p2) r_5 r_6) (own_ch3 (own_ln p3) r_8 r_9) (own_ch3 (own_ln p4) r_11 r_12))), .unset, .unset, .unset] [(.int r_11), (.int (own_ln p4))]))) (fun t k => XS.iload X26.here hx rfl (hb hby at_225) rfl k) ?_
    refine own_fw (A' := (T26.setTop (mkF m 229 #[.val (.int p1), .val (.int p2), .val (.int p3), .val (.int p4), .val (.int p5), .val (.int cx), .val (.int cy), .val (.int (own_ln p1)), .val (.int r_2), .val (.int r_3), .val (.int (own_ln p2)), .val (.int r_5), .val (.int r_6), .val (.int (own_ln p3)), .val (.int r_8), .val (.int r_9), .val (.int (own_ln p4)), .val (.int r_11), .val (.int r_12), .val (.ref b_13), .val (.ref b_14), .val (.ref b_15), .val (.ref b_16), .val (.ref b17), .val (.int (own_join (own_ch3 (own_ln p1) r_2 r_3) (own_ch3 (own_ln p2) r_5 r_6) (own_ch3 (own_ln p3) r_8 r_9) (own_ch3 (own_ln p4) r_11 r_12))), .unset, .unset, .unset] [(.int r_12), (.int r_11), (.int (own_ln p4))]))) (fun t k => XS.iload X26.here hx rfl (hb hby at_227) rfl k) ?_
    refine own_fw (A' := (T26.setTop (mkF m 231 #[.val (.int p1), .val (.int p2), .val (.int p3), .val (.int p4), .val (.int p5), .val (.int cx), .val (.int cy), .val (.int (own_ln p1)), .val (.int r_2), .val (.int r_3), .val (.int (own_ln p2)), .val (.int r_5), .val (.int r_6), .val (.int (own_ln p3)), .val (.int r_8), .val (.int r_9), .val (.int (own_ln p4)), .val (.int r_11), .val (.int r_12), .val (.ref b_13), .val (.ref b_14), .val (.ref b_15), .val (.ref b_16), .val (.ref b17), .val (.int (own_join (own_ch3 (own_ln p1) r_2 r_3) (own_ch3 (own_ln p2) r_5 r_6) (own_ch3 (own_ln p3) r_8 r_9) (own_ch3 (own_ln p4) r_11 r_12))), .unset, .unset, .unset] [(.int (own_ln p2)), (.int r_12), (.int r_11), (.int (own_ln p4))]))) (fun t k => XS.iload X26.here hx rfl (hb hby at_229) rfl k) ?_
    refine own_fw (A' := (T26.setTop (mkF m 233 #[.val (.int p1), .val (.int p2), .val (.int p3), .val (.int p4), .val (.int p5), .val (.int cx), .val (.int cy), .val (.int (own_ln p1)), .val (.int r_2), .val (.int r_3), .val (.int (own_ln p2)), .val (.int r_5), .val (.int r_6), .val (.int (own_ln p3)), .val (.int r_8), .val (.int r_9), .val (.int (own_ln p4)), .val (.int r_11), .val (.int r_12), .val (.ref b_13), .val (.ref b_14), .val (.ref b_15), .val (.ref b_16), .val (.ref b17), .val (.int (own_join (own_ch3 (own_ln p1) r_2 r_3) (own_ch3 (own_ln p2) r_5 r_6) (own_ch3 (own_ln p3) r_8 r_9) (own_ch3 (own_ln p4) r_11 r_12))), .unset, .unset, .unset] [(.int r_5), (.int (own_ln p2)), (.int r_12), (.int r_11), (.int (own_ln p4))]))) (fun t k => XS.iload X26.here hx rfl (hb hby at_231) rfl k) ?_
    refine own_fw (A' := (T26.setTop (mkF m 235 #[.val (.int p1), .val (.int p2), .val (.int p3), .val (.int p4), .val (.int p5), .val (.int cx), .val (.int cy), .val (.int (own_ln p1)), .val (.int r_2), .val (.int r_3), .val (.int (own_ln p2)), .val (.int r_5), .val (.int r_6), .val (.int (own_ln p3)), .val (.int r_8), .val (.int r_9), .val (.int (own_ln p4)), .val (.int r_11), .val (.int r_12), .val (.ref b_13), .val (.ref b_14), .val (.ref b_15), .val (.ref b_16), .val (.ref b17), .val (.int (own_join (own_ch3 (own_ln p1) r_2 r_3) (own_ch3 (own_ln p2) r_5 r_6) (own_ch3 (own_ln p3) r_8 r_9) (own_ch3 (own_ln p4) r_11 r_12))), .unset, .unset, .unset] [(.int r_6), (.int r_5), (.int (own_ln p2)), (.int r_12), (.int r_11), (.int (own_ln p4))]))) (fun t k => XS.iload X26.here hx rfl (hb hby at_233) rfl k) ?_
    obtain ⟨_, _, ⟨T32, L32, k32, n32⟩, -, X32, ⟨Lc32, hQ32, l32, y32, z32⟩, st32⟩ := Jvm.LawKit.callS X26 hx (y := (⟨"com/example/kodnik/kodnik/store/MappingJoinsPinLaw", "eq", "(ICCICC)Z"⟩ : MethodName)) hown (mvT hZ (hw _ (List.mem_of_getElem? (i := 80) rfl))) (mvT hZ (hw _ (List.mem_of_getElem? (i := 81) rfl))) (mvT hZ (hw _ (List.mem_of_getElem? (i := 2) rfl))) (mvT hZ (hw _ (List.mem_of_getElem? (i := 82) rfl))) (by decide) (backOf (W := 0) (rmE3 l Z a0 hw [] (own_ln p4) r_11 r_12 (own_ln p2) r_5 r_6 T23.heap n0 Z23 ) hZ (hw _ (List.mem_of_getElem? (i := 82) rfl)) (hw _ (List.mem_of_getElem? (i := 2) rfl)) (by decide) (by decide)) (g := (mkF m 235 #[.val (.int p1), .val (.int p2), .val (.int p3), .val (.int p4), .val (.int p5), .val (.int cx), .val (.int cy), .val (.int (own_ln p1)), .val (.int r_2), .val (.int r_3), .val (.int (own_ln p2)), .val (.int r_5), .val (.int r_6), .val (.int (own_ln p3)), .val (.int r_8), .val (.int r_9), .val (.int (own_ln p4)), .val (.int r_11), .val (.int r_12), .val (.ref b_13), .val (.ref b_14), .val (.ref b_15), .val (.ref b_16), .val (.ref b17), .val (.int (own_join (own_ch3 (own_ln p1) r_2 r_3) (own_ch3 (own_ln p2) r_5 r_6) (own_ch3 (own_ln p3) r_8 r_9) (own_ch3 (own_ln p4) r_11 r_12))), .unset, .unset, .unset] [(.int r_6), (.int r_5), (.int (own_ln p2)), (.int r_12), (.int r_11), (.int (own_ln p4))])) rfl (by rw [hml]; rfl) (argsL := [(.int (own_ln p4)), (.int r_11), (.int r_12), (.int (own_ln p2)), (.int r_5), (.int r_6)]) (rest := []) (lenOf pd__ICCICC_Z rfl) rfl (by show 2 * 0 + _ ≤ _; exact Nat.le_of_eq rfl) (hb hby at_235) (fun _ _ => ⟨rfl, e26, (by decide : 29 + 0 ≤ _), (by decide : 84 + 0 ≤ _)⟩)
    dsimp only [Pt.U, Pt.locs, Pt.cells, Pt.slots] at X32 l32 y32 z32 st32 hQ32
    subst l32 y32 z32
    obtain ⟨rfl, Nq32, e32⟩ := hQ32
    have Nf32 := Fr.app Nf26 Nq32
    refine own_fw (A' := (T32.setTop (mkF m 238 #[.val (.int p1), .val (.int p2), .val (.int p3), .val (.int p4), .val (.int p5), .val (.int cx), .val (.int cy), .val (.int (own_ln p1)), .val (.int r_2), .val (.int r_3), .val (.int (own_ln p2)), .val (.int r_5), .val (.int r_6), .val (.int (own_ln p3)), .val (.int r_8), .val (.int r_9), .val (.int (own_ln p4)), .val (.int r_11), .val (.int r_12), .val (.ref b_13), .val (.ref b_14), .val (.ref b_15), .val (.ref b_16), .val (.ref b17), .val (.int (own_join (own_ch3 (own_ln p1) r_2 r_3) (own_ch3 (own_ln p2) r_5 r_6) (own_ch3 (own_ln p3) r_8 r_9) (own_ch3 (own_ln p4) r_11 r_12))), .unset, .unset, .unset] [(.int (own_eq3 (own_ln p4) r_11 r_12 (own_ln p2) r_5 r_6))]))) (fun t k => st32 _ k) ?_
    by_cases hc33 : (own_eq3 (own_ln p4) r_11 r_12 (own_ln p2) r_5 r_6) = (0 : Int32)
    · refine own_fw (A' := (T32.setTop (mkF m 245 #[.val (.int p1), .val (.int p2), .val (.int p3), .val (.int p4), .val (.int p5), .val (.int cx), .val (.int cy), .val (.int (own_ln p1)), .val (.int r_2), .val (.int r_3), .val (.int (own_ln p2)), .val (.int r_5), .val (.int r_6), .val (.int (own_ln p3)), .val (.int r_8), .val (.int r_9), .val (.int (own_ln p4)), .val (.int r_11), .val (.int r_12), .val (.ref b_13), .val (.ref b_14), .val (.ref b_15), .val (.ref b_16), .val (.ref b17), .val (.int (own_join (own_ch3 (own_ln p1) r_2 r_3) (own_ch3 (own_ln p2) r_5 r_6) (own_ch3 (own_ln p3) r_8 r_9) (own_ch3 (own_ln p4) r_11 r_12))), .unset, .unset, .unset] []))) (fun t k => XS.ifYes X32.here hx rfl (pc0 := 238) (pc' := 245) rfl (hb hby at_238) rfl (XT.i0_eq_t hc33) (by decide) (by decide) k) ?_
      refine own_fw (A' := (T32.setTop (mkF m 246 #[.val (.int p1), .val (.int p2), .val (.int p3), .val (.int p4), .val (.int p5), .val (.int cx), .val (.int cy), .val (.int (own_ln p1)), .val (.int r_2), .val (.int r_3), .val (.int (own_ln p2)), .val (.int r_5), .val (.int r_6), .val (.int (own_ln p3)), .val (.int r_8), .val (.int r_9), .val (.int (own_ln p4)), .val (.int r_11), .val (.int r_12), .val (.ref b_13), .val (.ref b_14), .val (.ref b_15), .val (.ref b_16), .val (.ref b17), .val (.int (own_join (own_ch3 (own_ln p1) r_2 r_3) (own_ch3 (own_ln p2) r_5 r_6) (own_ch3 (own_ln p3) r_8 r_9) (own_ch3 (own_ln p4) r_11 r_12))), .unset, .unset, .unset] [(.int (0 : Int32))]))) (fun t k => XS.iconst X32.here hx rfl (hb hby at_245) k) ?_
      refine own_fw (A' := (T32.setTop (mkF m 248 #[.val (.int p1), .val (.int p2), .val (.int p3), .val (.int p4), .val (.int p5), .val (.int cx), .val (.int cy), .val (.int (own_ln p1)), .val (.int r_2), .val (.int r_3), .val (.int (own_ln p2)), .val (.int r_5), .val (.int r_6), .val (.int (own_ln p3)), .val (.int r_8), .val (.int r_9), .val (.int (own_ln p4)), .val (.int r_11), .val (.int r_12), .val (.ref b_13), .val (.ref b_14), .val (.ref b_15), .val (.ref b_16), .val (.ref b17), .val (.int (own_join (own_ch3 (own_ln p1) r_2 r_3) (own_ch3 (own_ln p2) r_5 r_6) (own_ch3 (own_ln p3) r_8 r_9) (own_ch3 (own_ln p4) r_11 r_12))), .val (.int (0 : Int32)), .unset, .unset] []))) (fun t k => XS.istore X32.here hx rfl (hb hby at_246) rfl (l' := #[.val (.int p1), .val (.int p2), .val (.int p3), .val (.int p4), .val (.int p5), .val (.int cx), .val (.int cy), .val (.int (own_ln p1)), .val (.int r_2), .val (.int r_3), .val (.int (own_ln p2)), .val (.int r_5), .val (.int r_6), .val (.int (own_ln p3)), .val (.int r_8), .val (.int r_9), .val (.int (own_ln p4)), .val (.int r_11), .val (.int r_12), .val (.ref b_13), .val (.ref b_14), .val (.ref b_15), .val (.ref b_16), .val (.ref b17), .val (.int (own_join (own_ch3 (own_ln p1) r_2 r_3) (own_ch3 (own_ln p2) r_5 r_6) (own_ch3 (own_ln p3) r_8 r_9) (own_ch3 (own_ln p4) r_11 r_12))), .val (.int (0 : Int32)), .unset, .unset]) rfl k) ?_
      refine own_fw (A' := (T32.setTop (mkF m 250 #[.val (.int p1), .val (.int p2), .val (.int p3), .val (.int p4), .val (.int p5), .val (.int cx), .val (.int cy), .val (.int (own_ln p1)), .val (.int r_2), .val (.int r_3), .val (.int (own_ln p2)), .val (.int r_5), .val (.int r_6), .val (.int (own_ln p3)), .val (.int r_8), .val (.int r_9), .val (.int (own_ln p4)), .val (.int r_11), .val (.int r_12), .val (.ref b_13), .val (.ref b_14), .val (.ref b_15), .val (.ref b_16), .val (.ref b17), .val (.int (own_join (own_ch3 (own_ln p1) r_2 r_3) (own_ch3 (own_ln p2) r_5 r_6) (own_ch3 (own_ln p3) r_8 r_9) (own_ch3 (own_ln p4) r_11 r_12))), .val (.int (0 : Int32)), .unset, .unset] [(.int (own_ln p3))]))) (fun t k => XS.iload X32.here hx rfl (hb hby at_248) rfl k) ?_
      refine own_fw (A' := (T32.setTop (mkF m 252 #[.val (.int p1), .val (.int p2), .val (.int p3), .val (.int p4), .val (.int p5), .val (.int cx), .val (.int cy), .val (.int (own_ln p1)), .val (.int r_2), .val (.int r_3), .val (.int (own_ln p2)), .val (.int r_5), .val (.int r_6), .val (.int (own_ln p3)), .val (.int r_8), .val (.int r_9), .val (.int (own_ln p4)), .val (.int r_11), .val (.int r_12), .val (.ref b_13), .val (.ref b_14), .val (.ref b_15), .val (.ref b_16), .val (.ref b17), .val (.int (own_join (own_ch3 (own_ln p1) r_2 r_3) (own_ch3 (own_ln p2) r_5 r_6) (own_ch3 (own_ln p3) r_8 r_9) (own_ch3 (own_ln p4) r_11 r_12))), .val (.int (0 : Int32)), .unset, .unset] [(.int r_8), (.int (own_ln p3))]))) (fun t k => XS.iload X32.here hx rfl (hb hby at_250) rfl k) ?_
      refine own_fw (A' := (T32.setTop (mkF m 254 #[.val (.int p1), .val (.int p2), .val (.int p3), .val (.int p4), .val (.int p5), .val (.int cx), .val (.int cy), .val (.int (own_ln p1)), .val (.int r_2), .val (.int r_3), .val (.int (own_ln p2)), .val (.int r_5), .val (.int r_6), .val (.int (own_ln p3)), .val (.int r_8), .val (.int r_9), .val (.int (own_ln p4)), .val (.int r_11), .val (.int r_12), .val (.ref b_13), .val (.ref b_14), .val (.ref b_15), .val (.ref b_16), .val (.ref b17), .val (.int (own_join (own_ch3 (own_ln p1) r_2 r_3) (own_ch3 (own_ln p2) r_5 r_6) (own_ch3 (own_ln p3) r_8 r_9) (own_ch3 (own_ln p4) r_11 r_12))), .val (.int (0 : Int32)), .unset, .unset] [(.int r_9), (.int r_8), (.int (own_ln p3))]))) (fun t k => XS.iload X32.here hx rfl (hb hby at_252) rfl k) ?_
      refine own_fw (A' := (T32.setTop (mkF m 256 #[.val (.int p1), .val (.int p2), .val (.int p3), .val (.int p4), .val (.int p5), .val (.int cx), .val (.int cy), .val (.int (own_ln p1)), .val (.int r_2), .val (.int r_3), .val (.int (own_ln p2)), .val (.int r_5), .val (.int r_6), .val (.int (own_ln p3)), .val (.int r_8), .val (.int r_9), .val (.int (own_ln p4)), .val (.int r_11), .val (.int r_12), .val (.ref b_13), .val (.ref b_14), .val (.ref b_15), .val (.ref b_16), .val (.ref b17), .val (.int (own_join (own_ch3 (own_ln p1) r_2 r_3) (own_ch3 (own_ln p2) r_5 r_6) (own_ch3 (own_ln p3) r_8 r_9) (own_ch3 (own_ln p4) r_11 r_12))), .val (.int (0 : Int32)), .unset, .unset] [(.int (own_ln p2)), (.int r_9), (.int r_8), (.int (own_ln p3))]))) (fun t k => XS.iload X32.here hx rfl (hb hby at_254) rfl k) ?_
      refine own_fw (A' := (T32.setTop (mkF m 258 #[.val (.int p1), .val (.int p2), .val (.int p3), .val (.int p4), .val (.int p5), .val (.int cx), .val (.int cy), .val (.int (own_ln p1)), .val (.int r_2), .val (.int r_3), .val (.int (own_ln p2)), .val (.int r_5), .val (.int r_6), .val (.int (own_ln p3)), .val (.int r_8), .val (.int r_9), .val (.int (own_ln p4)), .val (.int r_11), .val (.int r_12), .val (.ref b_13), .val (.ref b_14), .val (.ref b_15), .val (.ref b_16), .val (.ref b17), .val (.int (own_join (own_ch3 (own_ln p1) r_2 r_3) (own_ch3 (own_ln p2) r_5 r_6) (own_ch3 (own_ln p3) r_8 r_9) (own_ch3 (own_ln p4) r_11 r_12))), .val (.int (0 : Int32)), .unset, .unset] [(.int r_5), (.int (own_ln p2)), (.int r_9), (.int r_8), (.int (own_ln p3))]))) (fun t k => XS.iload X32.here hx rfl (hb hby at_256) rfl k) ?_
      refine own_fw (A' := (T32.setTop (mkF m 260 #[.val (.int p1), .val (.int p2), .val (.int p3), .val (.int p4), .val (.int p5), .val (.int cx), .val (.int cy), .val (.int (own_ln p1)), .val (.int r_2), .val (.int r_3), .val (.int (own_ln p2)), .val (.int r_5), .val (.int r_6), .val (.int (own_ln p3)), .val (.int r_8), .val (.int r_9), .val (.int (own_ln p4)), .val (.int r_11), .val (.int r_12), .val (.ref b_13), .val (.ref b_14), .val (.ref b_15), .val (.ref b_16), .val (.ref b17), .val (.int (own_join (own_ch3 (own_ln p1) r_2 r_3) (own_ch3 (own_ln p2) r_5 r_6) (own_ch3 (own_ln p3) r_8 r_9) (own_ch3 (own_ln p4) r_11 r_12))), .val (.int (0 : Int32)), .unset, .unset] [(.int r_6), (.int r_5), (.int (own_ln p2)), (.int r_9), (.int r_8), (.int (own_ln p3))]))) (fun t k => XS.iload X32.here hx rfl (hb hby at_258) rfl k) ?_
      obtain ⟨_, _, ⟨T34, L34, k34, n34⟩, -, X34, ⟨Lc34, hQ34, l34, y34, z34⟩, st34⟩ := Jvm.LawKit.callS X32 hx (y := (⟨"com/example/kodnik/kodnik/store/MappingJoinsPinLaw", "eq", "(ICCICC)Z"⟩ : MethodName)) hown (mvT hZ (hw _ (List.mem_of_getElem? (i := 80) rfl))) (mvT hZ (hw _ (List.mem_of_getElem? (i := 81) rfl))) (mvT hZ (hw _ (List.mem_of_getElem? (i := 2) rfl))) (mvT hZ (hw _ (List.mem_of_getElem? (i := 82) rfl))) (by decide) (backOf (W := 0) (rmE3 l Z a0 hw [] (own_ln p3) r_8 r_9 (own_ln p2) r_5 r_6 T23.heap n0 Z23 ) hZ (hw _ (List.mem_of_getElem? (i := 82) rfl)) (hw _ (List.mem_of_getElem? (i := 2) rfl)) (by decide) (by decide)) (g := (mkF m 260 #[.val (.int p1), .val (.int p2), .val (.int p3), .val (.int p4), .val (.int p5), .val (.int cx), .val (.int cy), .val (.int (own_ln p1)), .val (.int r_2), .val (.int r_3), .val (.int (own_ln p2)), .val (.int r_5), .val (.int r_6), .val (.int (own_ln p3)), .val (.int r_8), .val (.int r_9), .val (.int (own_ln p4)), .val (.int r_11), .val (.int r_12), .val (.ref b_13), .val (.ref b_14), .val (.ref b_15), .val (.ref b_16), .val (.ref b17), .val (.int (own_join (own_ch3 (own_ln p1) r_2 r_3) (own_ch3 (own_ln p2) r_5 r_6) (own_ch3 (own_ln p3) r_8 r_9) (own_ch3 (own_ln p4) r_11 r_12))), .val (.int (0 : Int32)), .unset, .unset] [(.int r_6), (.int r_5), (.int (own_ln p2)), (.int r_9), (.int r_8), (.int (own_ln p3))])) rfl (by rw [hml]; rfl) (argsL := [(.int (own_ln p3)), (.int r_8), (.int r_9), (.int (own_ln p2)), (.int r_5), (.int r_6)]) (rest := []) (lenOf pd__ICCICC_Z rfl) rfl (by show 2 * 0 + _ ≤ _; exact Nat.le_of_eq rfl) (hb hby at_260) (fun _ _ => ⟨rfl, e32, (by decide : 29 + 0 ≤ _), (by decide : 84 + 0 ≤ _)⟩)
      dsimp only [Pt.U, Pt.locs, Pt.cells, Pt.slots] at X34 l34 y34 z34 st34 hQ34
      subst l34 y34 z34
      obtain ⟨rfl, Nq34, e34⟩ := hQ34
      have Nf34 := Fr.app Nf32 Nq34
      refine own_fw (A' := (T34.setTop (mkF m 263 #[.val (.int p1), .val (.int p2), .val (.int p3), .val (.int p4), .val (.int p5), .val (.int cx), .val (.int cy), .val (.int (own_ln p1)), .val (.int r_2), .val (.int r_3), .val (.int (own_ln p2)), .val (.int r_5), .val (.int r_6), .val (.int (own_ln p3)), .val (.int r_8), .val (.int r_9), .val (.int (own_ln p4)), .val (.int r_11), .val (.int r_12), .val (.ref b_13), .val (.ref b_14), .val (.ref b_15), .val (.ref b_16), .val (.ref b17), .val (.int (own_join (own_ch3 (own_ln p1) r_2 r_3) (own_ch3 (own_ln p2) r_5 r_6) (own_ch3 (own_ln p3) r_8 r_9) (own_ch3 (own_ln p4) r_11 r_12))), .val (.int (0 : Int32)), .unset, .unset] [(.int (own_eq3 (own_ln p3) r_8 r_9 (own_ln p2) r_5 r_6))]))) (fun t k => st34 _ k) ?_
      by_cases hc35 : (own_eq3 (own_ln p3) r_8 r_9 (own_ln p2) r_5 r_6) = (0 : Int32)
      · refine own_fw (A' := (T34.setTop (mkF m 288 #[.val (.int p1), .val (.int p2), .val (.int p3), .val (.int p4), .val (.int p5), .val (.int cx), .val (.int cy), .val (.int (own_ln p1)), .val (.int r_2), .val (.int r_3), .val (.int (own_ln p2)), .val (.int r_5), .val (.int r_6), .val (.int (own_ln p3)), .val (.int r_8), .val (.int r_9), .val (.int (own_ln p4)), .val (.int r_11), .val (.int r_12), .val (.ref b_13), .val (.ref b_14), .val (.ref b_15), .val (.ref b_16), .val (.ref b17), .val (.int (own_join (own_ch3 (own_ln p1) r_2 r_3) (own_ch3 (own_ln p2) r_5 r_6) (own_ch3 (own_ln p3) r_8 r_9) (own_ch3 (own_ln p4) r_11 r_12))), .val (.int (0 : Int32)), .unset, .unset] []))) (fun t k => XS.ifYes X34.here hx rfl (pc0 := 263) (pc' := 288) rfl (hb hby at_263) rfl (XT.i0_eq_t hc35) (by decide) (by decide) k) ?_
        refine own_fw (A' := (T34.setTop (mkF m 289 #[.val (.int p1), .val (.int p2), .val (.int p3), .val (.int p4), .val (.int p5), .val (.int cx), .val (.int cy), .val (.int (own_ln p1)), .val (.int r_2), .val (.int r_3), .val (.int (own_ln p2)), .val (.int r_5), .val (.int r_6), .val (.int (own_ln p3)), .val (.int r_8), .val (.int r_9), .val (.int (own_ln p4)), .val (.int r_11), .val (.int r_12), .val (.ref b_13), .val (.ref b_14), .val (.ref b_15), .val (.ref b_16), .val (.ref b17), .val (.int (own_join (own_ch3 (own_ln p1) r_2 r_3) (own_ch3 (own_ln p2) r_5 r_6) (own_ch3 (own_ln p3) r_8 r_9) (own_ch3 (own_ln p4) r_11 r_12))), .val (.int (0 : Int32)), .unset, .unset] [(.int (0 : Int32))]))) (fun t k => XS.iconst X34.here hx rfl (hb hby at_288) k) ?_
        refine own_fw (A' := (T34.setTop (mkF m 291 #[.val (.int p1), .val (.int p2), .val (.int p3), .val (.int p4), .val (.int p5), .val (.int cx), .val (.int cy), .val (.int (own_ln p1)), .val (.int r_2), .val (.int r_3), .val (.int (own_ln p2)), .val (.int r_5), .val (.int r_6), .val (.int (own_ln p3)), .val (.int r_8), .val (.int r_9), .val (.int (own_ln p4)), .val (.int r_11), .val (.int r_12), .val (.ref b_13), .val (.ref b_14), .val (.ref b_15), .val (.ref b_16), .val (.ref b17), .val (.int (own_join (own_ch3 (own_ln p1) r_2 r_3) (own_ch3 (own_ln p2) r_5 r_6) (own_ch3 (own_ln p3) r_8 r_9) (own_ch3 (own_ln p4) r_11 r_12))), .val (.int (0 : Int32)), .val (.int (0 : Int32)), .unset] []))) (fun t k => XS.istore X34.here hx rfl (hb hby at_289) rfl (l' := #[.val (.int p1), .val (.int p2), .val (.int p3), .val (.int p4), .val (.int p5), .val (.int cx), .val (.int cy), .val (.int (own_ln p1)), .val (.int r_2), .val (.int r_3), .val (.int (own_ln p2)), .val (.int r_5), .val (.int r_6), .val (.int (own_ln p3)), .val (.int r_8), .val (.int r_9), .val (.int (own_ln p4)), .val (.int r_11), .val (.int r_12), .val (.ref b_13), .val (.ref b_14), .val (.ref b_15), .val (.ref b_16), .val (.ref b17), .val (.int (own_join (own_ch3 (own_ln p1) r_2 r_3) (own_ch3 (own_ln p2) r_5 r_6) (own_ch3 (own_ln p3) r_8 r_9) (own_ch3 (own_ln p4) r_11 r_12))), .val (.int (0 : Int32)), .val (.int (0 : Int32)), .unset]) rfl k) ?_
        refine own_fw (A' := (T34.setTop (mkF m 293 #[.val (.int p1), .val (.int p2), .val (.int p3), .val (.int p4), .val (.int p5), .val (.int cx), .val (.int cy), .val (.int (own_ln p1)), .val (.int r_2), .val (.int r_3), .val (.int (own_ln p2)), .val (.int r_5), .val (.int r_6), .val (.int (own_ln p3)), .val (.int r_8), .val (.int r_9), .val (.int (own_ln p4)), .val (.int r_11), .val (.int r_12), .val (.ref b_13), .val (.ref b_14), .val (.ref b_15), .val (.ref b_16), .val (.ref b17), .val (.int (own_join (own_ch3 (own_ln p1) r_2 r_3) (own_ch3 (own_ln p2) r_5 r_6) (own_ch3 (own_ln p3) r_8 r_9) (own_ch3 (own_ln p4) r_11 r_12))), .val (.int (0 : Int32)), .val (.int (0 : Int32)), .unset] [(.int (0 : Int32))]))) (fun t k => XS.iload X34.here hx rfl (hb hby at_291) rfl k) ?_
        refine own_fw (A' := (T34.setTop (mkF m 296 #[.val (.int p1), .val (.int p2), .val (.int p3), .val (.int p4), .val (.int p5), .val (.int cx), .val (.int cy), .val (.int (own_ln p1)), .val (.int r_2), .val (.int r_3), .val (.int (own_ln p2)), .val (.int r_5), .val (.int r_6), .val (.int (own_ln p3)), .val (.int r_8), .val (.int r_9), .val (.int (own_ln p4)), .val (.int r_11), .val (.int r_12), .val (.ref b_13), .val (.ref b_14), .val (.ref b_15), .val (.ref b_16), .val (.ref b17), .val (.int (own_join (own_ch3 (own_ln p1) r_2 r_3) (own_ch3 (own_ln p2) r_5 r_6) (own_ch3 (own_ln p3) r_8 r_9) (own_ch3 (own_ln p4) r_11 r_12))), .val (.int (0 : Int32)), .val (.int (0 : Int32)), .unset] []))) (fun t k => XS.ifNo X34.here hx rfl (hb hby at_293) rfl (XT.i0_ne_f rfl) k) ?_
        refine own_fw (A' := (T34.setTop (mkF m 298 #[.val (.int p1), .val (.int p2), .val (.int p3), .val (.int p4), .val (.int p5), .val (.int cx), .val (.int cy), .val (.int (own_ln p1)), .val (.int r_2), .val (.int r_3), .val (.int (own_ln p2)), .val (.int r_5), .val (.int r_6), .val (.int (own_ln p3)), .val (.int r_8), .val (.int r_9), .val (.int (own_ln p4)), .val (.int r_11), .val (.int r_12), .val (.ref b_13), .val (.ref b_14), .val (.ref b_15), .val (.ref b_16), .val (.ref b17), .val (.int (own_join (own_ch3 (own_ln p1) r_2 r_3) (own_ch3 (own_ln p2) r_5 r_6) (own_ch3 (own_ln p3) r_8 r_9) (own_ch3 (own_ln p4) r_11 r_12))), .val (.int (0 : Int32)), .val (.int (0 : Int32)), .unset] [(.int (0 : Int32))]))) (fun t k => XS.iload X34.here hx rfl (hb hby at_296) rfl k) ?_
        refine own_fw (A' := (T34.setTop (mkF m 305 #[.val (.int p1), .val (.int p2), .val (.int p3), .val (.int p4), .val (.int p5), .val (.int cx), .val (.int cy), .val (.int (own_ln p1)), .val (.int r_2), .val (.int r_3), .val (.int (own_ln p2)), .val (.int r_5), .val (.int r_6), .val (.int (own_ln p3)), .val (.int r_8), .val (.int r_9), .val (.int (own_ln p4)), .val (.int r_11), .val (.int r_12), .val (.ref b_13), .val (.ref b_14), .val (.ref b_15), .val (.ref b_16), .val (.ref b17), .val (.int (own_join (own_ch3 (own_ln p1) r_2 r_3) (own_ch3 (own_ln p2) r_5 r_6) (own_ch3 (own_ln p3) r_8 r_9) (own_ch3 (own_ln p4) r_11 r_12))), .val (.int (0 : Int32)), .val (.int (0 : Int32)), .unset] []))) (fun t k => XS.ifYes X34.here hx rfl (pc0 := 298) (pc' := 305) rfl (hb hby at_298) rfl (XT.i0_eq_t rfl) (by decide) (by decide) k) ?_
        refine own_fw (A' := (T34.setTop (mkF m 306 #[.val (.int p1), .val (.int p2), .val (.int p3), .val (.int p4), .val (.int p5), .val (.int cx), .val (.int cy), .val (.int (own_ln p1)), .val (.int r_2), .val (.int r_3), .val (.int (own_ln p2)), .val (.int r_5), .val (.int r_6), .val (.int (own_ln p3)), .val (.int r_8), .val (.int r_9), .val (.int (own_ln p4)), .val (.int r_11), .val (.int r_12), .val (.ref b_13), .val (.ref b_14), .val (.ref b_15), .val (.ref b_16), .val (.ref b17), .val (.int (own_join (own_ch3 (own_ln p1) r_2 r_3) (own_ch3 (own_ln p2) r_5 r_6) (own_ch3 (own_ln p3) r_8 r_9) (own_ch3 (own_ln p4) r_11 r_12))), .val (.int (0 : Int32)), .val (.int (0 : Int32)), .unset] [(.int (0 : Int32))]))) (fun t k => XS.iconst X34.here hx rfl (hb hby at_305) k) ?_
        refine own_fw (A' := (T34.setTop (mkF m 308 #[.val (.int p1), .val (.int p2), .val (.int p3), .val (.int p4), .val (.int p5), .val (.int cx), .val (.int cy), .val (.int (own_ln p1)), .val (.int r_2), .val (.int r_3), .val (.int (own_ln p2)), .val (.int r_5), .val (.int r_6), .val (.int (own_ln p3)), .val (.int r_8), .val (.int r_9), .val (.int (own_ln p4)), .val (.int r_11), .val (.int r_12), .val (.ref b_13), .val (.ref b_14), .val (.ref b_15), .val (.ref b_16), .val (.ref b17), .val (.int (own_join (own_ch3 (own_ln p1) r_2 r_3) (own_ch3 (own_ln p2) r_5 r_6) (own_ch3 (own_ln p3) r_8 r_9) (own_ch3 (own_ln p4) r_11 r_12))), .val (.int (0 : Int32)), .val (.int (0 : Int32)), .val (.int (0 : Int32))] []))) (fun t k => XS.istore X34.here hx rfl (hb hby at_306) rfl (l' := #[.val (.int p1), .val (.int p2), .val (.int p3), .val (.int p4), .val (.int p5), .val (.int cx), .val (.int cy), .val (.int (own_ln p1)), .val (.int r_2), .val (.int r_3), .val (.int (own_ln p2)), .val (.int r_5), .val (.int r_6), .val (.int (own_ln p3)), .val (.int r_8), .val (.int r_9), .val (.int (own_ln p4)), .val (.int r_11), .val (.int r_12), .val (.ref b_13), .val (.ref b_14), .val (.ref b_15), .val (.ref b_16), .val (.ref b17), .val (.int (own_join (own_ch3 (own_ln p1) r_2 r_3) (own_ch3 (own_ln p2) r_5 r_6) (own_ch3 (own_ln p3) r_8 r_9) (own_ch3 (own_ln p4) r_11 r_12))), .val (.int (0 : Int32)), .val (.int (0 : Int32)), .val (.int (0 : Int32))]) rfl k) ?_
        refine own_fw (A' := (T34.setTop (mkF m 310 #[.val (.int p1), .val (.int p2), .val (.int p3), .val (.int p4), .val (.int p5), .val (.int cx), .val (.int cy), .val (.int (own_ln p1)), .val (.int r_2), .val (.int r_3), .val (.int (own_ln p2)), .val (.int r_5), .val (.int r_6), .val (.int (own_ln p3)), .val (.int r_8), .val (.int r_9), .val (.int (own_ln p4)), .val (.int r_11), .val (.int r_12), .val (.ref b_13), .val (.ref b_14), .val (.ref b_15), .val (.ref b_16), .val (.ref b17), .val (.int (own_join (own_ch3 (own_ln p1) r_2 r_3) (own_ch3 (own_ln p2) r_5 r_6) (own_ch3 (own_ln p3) r_8 r_9) (own_ch3 (own_ln p4) r_11 r_12))), .val (.int (0 : Int32)), .val (.int (0 : Int32)), .val (.int (0 : Int32))] [(.int (own_join (own_ch3 (own_ln p1) r_2 r_3) (own_ch3 (own_ln p2) r_5 r_6) (own_ch3 (own_ln p3) r_8 r_9) (own_ch3 (own_ln p4) r_11 r_12)))]))) (fun t k => XS.iload X34.here hx rfl (hb hby at_308) rfl k) ?_
        refine own_fw (A' := (T34.setTop (mkF m 312 #[.val (.int p1), .val (.int p2), .val (.int p3), .val (.int p4), .val (.int p5), .val (.int cx), .val (.int cy), .val (.int (own_ln p1)), .val (.int r_2), .val (.int r_3), .val (.int (own_ln p2)), .val (.int r_5), .val (.int r_6), .val (.int (own_ln p3)), .val (.int r_8), .val (.int r_9), .val (.int (own_ln p4)), .val (.int r_11), .val (.int r_12), .val (.ref b_13), .val (.ref b_14), .val (.ref b_15), .val (.ref b_16), .val (.ref b17), .val (.int (own_join (own_ch3 (own_ln p1) r_2 r_3) (own_ch3 (own_ln p2) r_5 r_6) (own_ch3 (own_ln p3) r_8 r_9) (own_ch3 (own_ln p4) r_11 r_12))), .val (.int (0 : Int32)), .val (.int (0 : Int32)), .val (.int (0 : Int32))] [(.int (0 : Int32)), (.int (own_join (own_ch3 (own_ln p1) r_2 r_3) (own_ch3 (own_ln p2) r_5 r_6) (own_ch3 (own_ln p3) r_8 r_9) (own_ch3 (own_ln p4) r_11 r_12)))]))) (fun t k => XS.iload X34.here hx rfl (hb hby at_310) rfl k) ?_
        refine own_fw (A' := (T34.setTop (mkF m 315 #[.val (.int p1), .val (.int p2), .val (.int p3), .val (.int p4), .val (.int p5), .val (.int cx), .val (.int cy), .val (.int (own_ln p1)), .val (.int r_2), .val (.int r_3), .val (.int (own_ln p2)), .val (.int r_5), .val (.int r_6), .val (.int (own_ln p3)), .val (.int r_8), .val (.int r_9), .val (.int (own_ln p4)), .val (.int r_11), .val (.int r_12), .val (.ref b_13), .val (.ref b_14), .val (.ref b_15), .val (.ref b_16), .val (.ref b17), .val (.int (own_join (own_ch3 (own_ln p1) r_2 r_3) (own_ch3 (own_ln p2) r_5 r_6) (own_ch3 (own_ln p3) r_8 r_9) (own_ch3 (own_ln p4) r_11 r_12))), .val (.int (0 : Int32)), .val (.int (0 : Int32)), .val (.int (0 : Int32))] []))) (fun t k => XS.icmpNo X34.here hx rfl (hb hby at_312) rfl (XT.ii_ne_f (by simp only [own_join, own_jt, if_neg (own_qn hc27), if_pos (own_q hc33), if_pos (own_q hc35)])) k) ?_
        refine own_fw (A' := (T34.setTop (mkF m 316 #[.val (.int p1), .val (.int p2), .val (.int p3), .val (.int p4), .val (.int p5), .val (.int cx), .val (.int cy), .val (.int (own_ln p1)), .val (.int r_2), .val (.int r_3), .val (.int (own_ln p2)), .val (.int r_5), .val (.int r_6), .val (.int (own_ln p3)), .val (.int r_8), .val (.int r_9), .val (.int (own_ln p4)), .val (.int r_11), .val (.int r_12), .val (.ref b_13), .val (.ref b_14), .val (.ref b_15), .val (.ref b_16), .val (.ref b17), .val (.int (own_join (own_ch3 (own_ln p1) r_2 r_3) (own_ch3 (own_ln p2) r_5 r_6) (own_ch3 (own_ln p3) r_8 r_9) (own_ch3 (own_ln p4) r_11 r_12))), .val (.int (0 : Int32)), .val (.int (0 : Int32)), .val (.int (0 : Int32))] [(.int (1 : Int32))]))) (fun t k => XS.iconst X34.here hx rfl (hb hby at_315) k) ?_
        refine own_fw (A' := (T34.setTop (mkF m 320 #[.val (.int p1), .val (.int p2), .val (.int p3), .val (.int p4), .val (.int p5), .val (.int cx), .val (.int cy), .val (.int (own_ln p1)), .val (.int r_2), .val (.int r_3), .val (.int (own_ln p2)), .val (.int r_5), .val (.int r_6), .val (.int (own_ln p3)), .val (.int r_8), .val (.int r_9), .val (.int (own_ln p4)), .val (.int r_11), .val (.int r_12), .val (.ref b_13), .val (.ref b_14), .val (.ref b_15), .val (.ref b_16), .val (.ref b17), .val (.int (own_join (own_ch3 (own_ln p1) r_2 r_3) (own_ch3 (own_ln p2) r_5 r_6) (own_ch3 (own_ln p3) r_8 r_9) (own_ch3 (own_ln p4) r_11 r_12))), .val (.int (0 : Int32)), .val (.int (0 : Int32)), .val (.int (0 : Int32))] [(.int (1 : Int32))]))) (fun t k => XS.goto X34.here hx rfl (pc0 := 316) (pc' := 320) rfl (hb hby at_316) (by decide) (by decide) k) ?_
        obtain ⟨fs, hr, hrun, hended, hWE⟩ := X34.leaveW hS (by rw [e34]; exact hk : _ ≤ T34.heap.size) (v := some (.int (1 : Int32))) (fun h => by rw [Bd.returns] at h; cases h)
        refine ⟨_, _, ?_, hrun, hended, _, _, rfl, ?_, own_widen hWE (by decide) (by decide)⟩
        · exact retOut X34 hx Bd.returns rfl (Or.inl ⟨rfl, by simp, _, rfl⟩) (hb hby at_320) hr
        · show Q_rm0 Z p1 p2 p3 p4 p5 cs h0 n0 _ T34.heap _
          rw [e34]
          exact ⟨rfl, Nf34⟩
      · refine own_fw (A' := (T34.setTop (mkF m 266 #[.val (.int p1), .val (.int p2), .val (.int p3), .val (.int p4), .val (.int p5), .val (.int cx), .val (.int cy), .val (.int (own_ln p1)), .val (.int r_2), .val (.int r_3), .val (.int (own_ln p2)), .val (.int r_5), .val (.int r_6), .val (.int (own_ln p3)), .val (.int r_8), .val (.int r_9), .val (.int (own_ln p4)), .val (.int r_11), .val (.int r_12), .val (.ref b_13), .val (.ref b_14), .val (.ref b_15), .val (.ref b_16), .val (.ref b17), .val (.int (own_join (own_ch3 (own_ln p1) r_2 r_3) (own_ch3 (own_ln p2) r_5 r_6) (own_ch3 (own_ln p3) r_8 r_9) (own_ch3 (own_ln p4) r_11 r_12))), .val (.int (0 : Int32)), .unset, .unset] []))) (fun t k => XS.ifNo X34.here hx rfl (hb hby at_263) rfl (XT.i0_eq_f hc35) k) ?_
        refine own_fw (A' := (T34.setTop (mkF m 268 #[.val (.int p1), .val (.int p2), .val (.int p3), .val (.int p4), .val (.int p5), .val (.int cx), .val (.int cy), .val (.int (own_ln p1)), .val (.int r_2), .val (.int r_3), .val (.int (own_ln p2)), .val (.int r_5), .val (.int r_6), .val (.int (own_ln p3)), .val (.int r_8), .val (.int r_9), .val (.int (own_ln p4)), .val (.int r_11), .val (.int r_12), .val (.ref b_13), .val (.ref b_14), .val (.ref b_15), .val (.ref b_16), .val (.ref b17), .val (.int (own_join (own_ch3 (own_ln p1) r_2 r_3) (own_ch3 (own_ln p2) r_5 r_6) (own_ch3 (own_ln p3) r_8 r_9) (own_ch3 (own_ln p4) r_11 r_12))), .val (.int (0 : Int32)), .unset, .unset] [(.int (own_ln p4))]))) (fun t k => XS.iload X34.here hx rfl (hb hby at_266) rfl k) ?_
        refine own_fw (A' := (T34.setTop (mkF m 270 #[.val (.int p1), .val (.int p2), .val (.int p3), .val (.int p4), .val (.int p5), .val (.int cx), .val (.int cy), .val (.int (own_ln p1)), .val (.int r_2), .val (.int r_3), .val (.int (own_ln p2)), .val (.int r_5), .val (.int r_6), .val (.int (own_ln p3)), .val (.int r_8), .val (.int r_9), .val (.int (own_ln p4)), .val (.int r_11), .val (.int r_12), .val (.ref b_13), .val (.ref b_14), .val (.ref b_15), .val (.ref b_16), .val (.ref b17), .val (.int (own_join (own_ch3 (own_ln p1) r_2 r_3) (own_ch3 (own_ln p2) r_5 r_6) (own_ch3 (own_ln p3) r_8 r_9) (own_ch3 (own_ln p4) r_11 r_12))), .val (.int (0 : Int32)), .unset, .unset] [(.int r_11), (.int (own_ln p4))]))) (fun t k => XS.iload X34.here hx rfl (hb hby at_268) rfl k) ?_
        refine own_fw (A' := (T34.setTop (mkF m 272 #[.val (.int p1), .val (.int p2), .val (.int p3), .val (.int p4), .val (.int p5), .val (.int cx), .val (.int cy), .val (.int (own_ln p1)), .val (.int r_2), .val (.int r_3), .val (.int (own_ln p2)), .val (.int r_5), .val (.int r_6), .val (.int (own_ln p3)), .val (.int r_8), .val (.int r_9), .val (.int (own_ln p4)), .val (.int r_11), .val (.int r_12), .val (.ref b_13), .val (.ref b_14), .val (.ref b_15), .val (.ref b_16), .val (.ref b17), .val (.int (own_join (own_ch3 (own_ln p1) r_2 r_3) (own_ch3 (own_ln p2) r_5 r_6) (own_ch3 (own_ln p3) r_8 r_9) (own_ch3 (own_ln p4) r_11 r_12))), .val (.int (0 : Int32)), .unset, .unset] [(.int r_12), (.int r_11), (.int (own_ln p4))]))) (fun t k => XS.iload X34.here hx rfl (hb hby at_270) rfl k) ?_
        refine own_fw (A' := (T34.setTop (mkF m 274 #[.val (.int p1), .val (.int p2), .val (.int p3), .val (.int p4), .val (.int p5), .val (.int cx), .val (.int cy), .val (.int (own_ln p1)), .val (.int r_2), .val (.int r_3), .val (.int (own_ln p2)), .val (.int r_5), .val (.int r_6), .val (.int (own_ln p3)), .val (.int r_8), .val (.int r_9), .val (.int (own_ln p4)), .val (.int r_11), .val (.int r_12), .val (.ref b_13), .val (.ref b_14), .val (.ref b_15), .val (.ref b_16), .val (.ref b17), .val (.int (own_join (own_ch3 (own_ln p1) r_2 r_3) (own_ch3 (own_ln p2) r_5 r_6) (own_ch3 (own_ln p3) r_8 r_9) (own_ch3 (own_ln p4) r_11 r_12))), .val (.int (0 : Int32)), .unset, .unset] [(.int (own_ln p1)), (.int r_12), (.int r_11), (.int (own_ln p4))]))) (fun t k => XS.iload X34.here hx rfl (hb hby at_272) rfl k) ?_
        refine own_fw (A' := (T34.setTop (mkF m 276 #[.val (.int p1), .val (.int p2), .val (.int p3), .val (.int p4), .val (.int p5), .val (.int cx), .val (.int cy), .val (.int (own_ln p1)), .val (.int r_2), .val (.int r_3), .val (.int (own_ln p2)), .val (.int r_5), .val (.int r_6), .val (.int (own_ln p3)), .val (.int r_8), .val (.int r_9), .val (.int (own_ln p4)), .val (.int r_11), .val (.int r_12), .val (.ref b_13), .val (.ref b_14), .val (.ref b_15), .val (.ref b_16), .val (.ref b17), .val (.int (own_join (own_ch3 (own_ln p1) r_2 r_3) (own_ch3 (own_ln p2) r_5 r_6) (own_ch3 (own_ln p3) r_8 r_9) (own_ch3 (own_ln p4) r_11 r_12))), .val (.int (0 : Int32)), .unset, .unset] [(.int r_2), (.int (own_ln p1)), (.int r_12), (.int r_11), (.int (own_ln p4))]))) (fun t k => XS.iload X34.here hx rfl (hb hby at_274) rfl k) ?_
        refine own_fw (A' := (T34.setTop (mkF m 278 #[.val (.int p1), .val (.int p2), .val (.int p3), .val (.int p4), .val (.int p5), .val (.int cx), .val (.int cy), .val (.int (own_ln p1)), .val (.int r_2), .val (.int r_3), .val (.int (own_ln p2)), .val (.int r_5), .val (.int r_6), .val (.int (own_ln p3)), .val (.int r_8), .val (.int r_9), .val (.int (own_ln p4)), .val (.int r_11), .val (.int r_12), .val (.ref b_13), .val (.ref b_14), .val (.ref b_15), .val (.ref b_16), .val (.ref b17), .val (.int (own_join (own_ch3 (own_ln p1) r_2 r_3) (own_ch3 (own_ln p2) r_5 r_6) (own_ch3 (own_ln p3) r_8 r_9) (own_ch3 (own_ln p4) r_11 r_12))), .val (.int (0 : Int32)), .unset, .unset] [(.int r_3), (.int r_2), (.int (own_ln p1)), (.int r_12), (.int r_11), (.int (own_ln p4))]))) (fun t k => XS.iload X34.here hx rfl (hb hby at_276) rfl k) ?_
        obtain ⟨_, _, ⟨T36, L36, k36, n36⟩, -, X36, ⟨Lc36, hQ36, l36, y36, z36⟩, st36⟩ := Jvm.LawKit.callS X34 hx (y := (⟨"com/example/kodnik/kodnik/store/MappingJoinsPinLaw", "eq", "(ICCICC)Z"⟩ : MethodName)) hown (mvT hZ (hw _ (List.mem_of_getElem? (i := 80) rfl))) (mvT hZ (hw _ (List.mem_of_getElem? (i := 81) rfl))) (mvT hZ (hw _ (List.mem_of_getElem? (i := 2) rfl))) (mvT hZ (hw _ (List.mem_of_getElem? (i := 82) rfl))) (by decide) (backOf (W := 0) (rmE3 l Z a0 hw [] (own_ln p4) r_11 r_12 (own_ln p1) r_2 r_3 T23.heap n0 Z23 ) hZ (hw _ (List.mem_of_getElem? (i := 82) rfl)) (hw _ (List.mem_of_getElem? (i := 2) rfl)) (by decide) (by decide)) (g := (mkF m 278 #[.val (.int p1), .val (.int p2), .val (.int p3), .val (.int p4), .val (.int p5), .val (.int cx), .val (.int cy), .val (.int (own_ln p1)), .val (.int r_2), .val (.int r_3), .val (.int (own_ln p2)), .val (.int r_5), .val (.int r_6), .val (.int (own_ln p3)), .val (.int r_8), .val (.int r_9), .val (.int (own_ln p4)), .val (.int r_11), .val (.int r_12), .val (.ref b_13), .val (.ref b_14), .val (.ref b_15), .val (.ref b_16), .val (.ref b17), .val (.int (own_join (own_ch3 (own_ln p1) r_2 r_3) (own_ch3 (own_ln p2) r_5 r_6) (own_ch3 (own_ln p3) r_8 r_9) (own_ch3 (own_ln p4) r_11 r_12))), .val (.int (0 : Int32)), .unset, .unset] [(.int r_3), (.int r_2), (.int (own_ln p1)), (.int r_12), (.int r_11), (.int (own_ln p4))])) rfl (by rw [hml]; rfl) (argsL := [(.int (own_ln p4)), (.int r_11), (.int r_12), (.int (own_ln p1)), (.int r_2), (.int r_3)]) (rest := []) (lenOf pd__ICCICC_Z rfl) rfl (by show 2 * 0 + _ ≤ _; exact Nat.le_of_eq rfl) (hb hby at_278) (fun _ _ => ⟨rfl, e34, (by decide : 29 + 0 ≤ _), (by decide : 84 + 0 ≤ _)⟩)
        dsimp only [Pt.U, Pt.locs, Pt.cells, Pt.slots] at X36 l36 y36 z36 st36 hQ36
        subst l36 y36 z36
        obtain ⟨rfl, Nq36, e36⟩ := hQ36
        have Nf36 := Fr.app Nf34 Nq36
        refine own_fw (A' := (T36.setTop (mkF m 281 #[.val (.int p1), .val (.int p2), .val (.int p3), .val (.int p4), .val (.int p5), .val (.int cx), .val (.int cy), .val (.int (own_ln p1)), .val (.int r_2), .val (.int r_3), .val (.int (own_ln p2)), .val (.int r_5), .val (.int r_6), .val (.int (own_ln p3)), .val (.int r_8), .val (.int r_9), .val (.int (own_ln p4)), .val (.int r_11), .val (.int r_12), .val (.ref b_13), .val (.ref b_14), .val (.ref b_15), .val (.ref b_16), .val (.ref b17), .val (.int (own_join (own_ch3 (own_ln p1) r_2 r_3) (own_ch3 (own_ln p2) r_5 r_6) (own_ch3 (own_ln p3) r_8 r_9) (own_ch3 (own_ln p4) r_11 r_12))), .val (.int (0 : Int32)), .unset, .unset] [(.int (own_eq3 (own_ln p4) r_11 r_12 (own_ln p1) r_2 r_3))]))) (fun t k => st36 _ k) ?_
        by_cases hc37 : (own_eq3 (own_ln p4) r_11 r_12 (own_ln p1) r_2 r_3) = (0 : Int32)
        · refine own_fw (A' := (T36.setTop (mkF m 288 #[.val (.int p1), .val (.int p2), .val (.int p3), .val (.int p4), .val (.int p5), .val (.int cx), .val (.int cy), .val (.int (own_ln p1)), .val (.int r_2), .val (.int r_3), .val (.int (own_ln p2)), .val (.int r_5), .val (.int r_6), .val (.int (own_ln p3)), .val (.int r_8), .val (.int r_9), .val (.int (own_ln p4)), .val (.int r_11), .val (.int r_12), .val (.ref b_13), .val (.ref b_14), .val (.ref b_15), .val (.ref b_16), .val (.ref b17), .val (.int (own_join (own_ch3 (own_ln p1) r_2 r_3) (own_ch3 (own_ln p2) r_5 r_6) (own_ch3 (own_ln p3) r_8 r_9) (own_ch3 (own_ln p4) r_11 r_12))), .val (.int (0 : Int32)), .unset, .unset] []))) (fun t k => XS.ifYes X36.here hx rfl (pc0 := 281) (pc' := 288) rfl (hb hby at_281) rfl (XT.i0_eq_t hc37) (by decide) (by decide) k) ?_
          refine own_fw (A' := (T36.setTop (mkF m 289 #[.val (.int p1), .val (.int p2), .val (.int p3), .val (.int p4), .val (.int p5), .val (.int cx), .val (.int cy), .val (.int (own_ln p1)), .val (.int r_2), .val (.int r_3), .val (.int (own_ln p2)), .val (.int r_5), .val (.int r_6), .val (.int (own_ln p3)), .val (.int r_8), .val (.int r_9), .val (.int (own_ln p4)), .val (.int r_11), .val (.int r_12), .val (.ref b_13), .val (.ref b_14), .val (.ref b_15), .val (.ref b_16), .val (.ref b17), .val (.int (own_join (own_ch3 (own_ln p1) r_2 r_3) (own_ch3 (own_ln p2) r_5 r_6) (own_ch3 (own_ln p3) r_8 r_9) (own_ch3 (own_ln p4) r_11 r_12))), .val (.int (0 : Int32)), .unset, .unset] [(.int (0 : Int32))]))) (fun t k => XS.iconst X36.here hx rfl (hb hby at_288) k) ?_
          refine own_fw (A' := (T36.setTop (mkF m 291 #[.val (.int p1), .val (.int p2), .val (.int p3), .val (.int p4), .val (.int p5), .val (.int cx), .val (.int cy), .val (.int (own_ln p1)), .val (.int r_2), .val (.int r_3), .val (.int (own_ln p2)), .val (.int r_5), .val (.int r_6), .val (.int (own_ln p3)), .val (.int r_8), .val (.int r_9), .val (.int (own_ln p4)), .val (.int r_11), .val (.int r_12), .val (.ref b_13), .val (.ref b_14), .val (.ref b_15), .val (.ref b_16), .val (.ref b17), .val (.int (own_join (own_ch3 (own_ln p1) r_2 r_3) (own_ch3 (own_ln p2) r_5 r_6) (own_ch3 (own_ln p3) r_8 r_9) (own_ch3 (own_ln p4) r_11 r_12))), .val (.int (0 : Int32)), .val (.int (0 : Int32)), .unset] []))) (fun t k => XS.istore X36.here hx rfl (hb hby at_289) rfl (l' := #[.val (.int p1), .val (.int p2), .val (.int p3), .val (.int p4), .val (.int p5), .val (.int cx), .val (.int cy), .val (.int (own_ln p1)), .val (.int r_2), .val (.int r_3), .val (.int (own_ln p2)), .val (.int r_5), .val (.int r_6), .val (.int (own_ln p3)), .val (.int r_8), .val (.int r_9), .val (.int (own_ln p4)), .val (.int r_11), .val (.int r_12), .val (.ref b_13), .val (.ref b_14), .val (.ref b_15), .val (.ref b_16), .val (.ref b17), .val (.int (own_join (own_ch3 (own_ln p1) r_2 r_3) (own_ch3 (own_ln p2) r_5 r_6) (own_ch3 (own_ln p3) r_8 r_9) (own_ch3 (own_ln p4) r_11 r_12))), .val (.int (0 : Int32)), .val (.int (0 : Int32)), .unset]) rfl k) ?_
          refine own_fw (A' := (T36.setTop (mkF m 293 #[.val (.int p1), .val (.int p2), .val (.int p3), .val (.int p4), .val (.int p5), .val (.int cx), .val (.int cy), .val (.int (own_ln p1)), .val (.int r_2), .val (.int r_3), .val (.int (own_ln p2)), .val (.int r_5), .val (.int r_6), .val (.int (own_ln p3)), .val (.int r_8), .val (.int r_9), .val (.int (own_ln p4)), .val (.int r_11), .val (.int r_12), .val (.ref b_13), .val (.ref b_14), .val (.ref b_15), .val (.ref b_16), .val (.ref b17), .val (.int (own_join (own_ch3 (own_ln p1) r_2 r_3) (own_ch3 (own_ln p2) r_5 r_6) (own_ch3 (own_ln p3) r_8 r_9) (own_ch3 (own_ln p4) r_11 r_12))), .val (.int (0 : Int32)), .val (.int (0 : Int32)), .unset] [(.int (0 : Int32))]))) (fun t k => XS.iload X36.here hx rfl (hb hby at_291) rfl k) ?_
          refine own_fw (A' := (T36.setTop (mkF m 296 #[.val (.int p1), .val (.int p2), .val (.int p3), .val (.int p4), .val (.int p5), .val (.int cx), .val (.int cy), .val (.int (own_ln p1)), .val (.int r_2), .val (.int r_3), .val (.int (own_ln p2)), .val (.int r_5), .val (.int r_6), .val (.int (own_ln p3)), .val (.int r_8), .val (.int r_9), .val (.int (own_ln p4)), .val (.int r_11), .val (.int r_12), .val (.ref b_13), .val (.ref b_14), .val (.ref b_15), .val (.ref b_16), .val (.ref b17), .val (.int (own_join (own_ch3 (own_ln p1) r_2 r_3) (own_ch3 (own_ln p2) r_5 r_6) (own_ch3 (own_ln p3) r_8 r_9) (own_ch3 (own_ln p4) r_11 r_12))), .val (.int (0 : Int32)), .val (.int (0 : Int32)), .unset] []))) (fun t k => XS.ifNo X36.here hx rfl (hb hby at_293) rfl (XT.i0_ne_f rfl) k) ?_
          refine own_fw (A' := (T36.setTop (mkF m 298 #[.val (.int p1), .val (.int p2), .val (.int p3), .val (.int p4), .val (.int p5), .val (.int cx), .val (.int cy), .val (.int (own_ln p1)), .val (.int r_2), .val (.int r_3), .val (.int (own_ln p2)), .val (.int r_5), .val (.int r_6), .val (.int (own_ln p3)), .val (.int r_8), .val (.int r_9), .val (.int (own_ln p4)), .val (.int r_11), .val (.int r_12), .val (.ref b_13), .val (.ref b_14), .val (.ref b_15), .val (.ref b_16), .val (.ref b17), .val (.int (own_join (own_ch3 (own_ln p1) r_2 r_3) (own_ch3 (own_ln p2) r_5 r_6) (own_ch3 (own_ln p3) r_8 r_9) (own_ch3 (own_ln p4) r_11 r_12))), .val (.int (0 : Int32)), .val (.int (0 : Int32)), .unset] [(.int (0 : Int32))]))) (fun t k => XS.iload X36.here hx rfl (hb hby at_296) rfl k) ?_
          refine own_fw (A' := (T36.setTop (mkF m 305 #[.val (.int p1), .val (.int p2), .val (.int p3), .val (.int p4), .val (.int p5), .val (.int cx), .val (.int cy), .val (.int (own_ln p1)), .val (.int r_2), .val (.int r_3), .val (.int (own_ln p2)), .val (.int r_5), .val (.int r_6), .val (.int (own_ln p3)), .val (.int r_8), .val (.int r_9), .val (.int (own_ln p4)), .val (.int r_11), .val (.int r_12), .val (.ref b_13), .val (.ref b_14), .val (.ref b_15), .val (.ref b_16), .val (.ref b17), .val (.int (own_join (own_ch3 (own_ln p1) r_2 r_3) (own_ch3 (own_ln p2) r_5 r_6) (own_ch3 (own_ln p3) r_8 r_9) (own_ch3 (own_ln p4) r_11 r_12))), .val (.int (0 : Int32)), .val (.int (0 : Int32)), .unset] []))) (fun t k => XS.ifYes X36.here hx rfl (pc0 := 298) (pc' := 305) rfl (hb hby at_298) rfl (XT.i0_eq_t rfl) (by decide) (by decide) k) ?_
          refine own_fw (A' := (T36.setTop (mkF m 306 #[.val (.int p1), .val (.int p2), .val (.int p3), .val (.int p4), .val (.int p5), .val (.int cx), .val (.int cy), .val (.int (own_ln p1)), .val (.int r_2), .val (.int r_3), .val (.int (own_ln p2)), .val (.int r_5), .val (.int r_6), .val (.int (own_ln p3)), .val (.int r_8), .val (.int r_9), .val (.int (own_ln p4)), .val (.int r_11), .val (.int r_12), .val (.ref b_13), .val (.ref b_14), .val (.ref b_15), .val (.ref b_16), .val (.ref b17), .val (.int (own_join (own_ch3 (own_ln p1) r_2 r_3) (own_ch3 (own_ln p2) r_5 r_6) (own_ch3 (own_ln p3) r_8 r_9) (own_ch3 (own_ln p4) r_11 r_12))), .val (.int (0 : Int32)), .val (.int (0 : Int32)), .unset] [(.int (0 : Int32))]))) (fun t k => XS.iconst X36.here hx rfl (hb hby at_305) k) ?_
          refine own_fw (A' := (T36.setTop (mkF m 308 #[.val (.int p1), .val (.int p2), .val (.int p3), .val (.int p4), .val (.int p5), .val (.int cx), .val (.int cy), .val (.int (own_ln p1)), .val (.int r_2), .val (.int r_3), .val (.int (own_ln p2)), .val (.int r_5), .val (.int r_6), .val (.int (own_ln p3)), .val (.int r_8), .val (.int r_9), .val (.int (own_ln p4)), .val (.int r_11), .val (.int r_12), .val (.ref b_13), .val (.ref b_14), .val (.ref b_15), .val (.ref b_16), .val (.ref b17), .val (.int (own_join (own_ch3 (own_ln p1) r_2 r_3) (own_ch3 (own_ln p2) r_5 r_6) (own_ch3 (own_ln p3) r_8 r_9) (own_ch3 (own_ln p4) r_11 r_12))), .val (.int (0 : Int32)), .val (.int (0 : Int32)), .val (.int (0 : Int32))] []))) (fun t k => XS.istore X36.here hx rfl (hb hby at_306) rfl (l' := #[.val (.int p1), .val (.int p2), .val (.int p3), .val (.int p4), .val (.int p5), .val (.int cx), .val (.int cy), .val (.int (own_ln p1)), .val (.int r_2), .val (.int r_3), .val (.int (own_ln p2)), .val (.int r_5), .val (.int r_6), .val (.int (own_ln p3)), .val (.int r_8), .val (.int r_9), .val (.int (own_ln p4)), .val (.int r_11), .val (.int r_12), .val (.ref b_13), .val (.ref b_14), .val (.ref b_15), .val (.ref b_16), .val (.ref b17), .val (.int (own_join (own_ch3 (own_ln p1) r_2 r_3) (own_ch3 (own_ln p2) r_5 r_6) (own_ch3 (own_ln p3) r_8 r_9) (own_ch3 (own_ln p4) r_11 r_12))), .val (.int (0 : Int32)), .val (.int (0 : Int32)), .val (.int (0 : Int32))]) rfl k) ?_
          refine own_fw (A' := (T36.setTop (mkF m 310 #[.val (.int p1), .val (.int p2), .val (.int p3), .val (.int p4), .val (.int p5), .val (.int cx), .val (.int cy), .val (.int (own_ln p1)), .val (.int r_2), .val (.int r_3), .val (.int (own_ln p2)), .val (.int r_5), .val (.int r_6), .val (.int (own_ln p3)), .val (.int r_8), .val (.int r_9), .val (.int (own_ln p4)), .val (.int r_11), .val (.int r_12), .val (.ref b_13), .val (.ref b_14), .val (.ref b_15), .val (.ref b_16), .val (.ref b17), .val (.int (own_join (own_ch3 (own_ln p1) r_2 r_3) (own_ch3 (own_ln p2) r_5 r_6) (own_ch3 (own_ln p3) r_8 r_9) (own_ch3 (own_ln p4) r_11 r_12))), .val (.int (0 : Int32)), .val (.int (0 : Int32)), .val (.int (0 : Int32))] [(.int (own_join (own_ch3 (own_ln p1) r_2 r_3) (own_ch3 (own_ln p2) r_5 r_6) (own_ch3 (own_ln p3) r_8 r_9) (own_ch3 (own_ln p4) r_11 r_12)))]))) (fun t k => XS.iload X36.here hx rfl (hb hby at_308) rfl k) ?_
          refine own_fw (A' := (T36.setTop (mkF m 312 #[.val (.int p1), .val (.int p2), .val (.int p3), .val (.int p4), .val (.int p5), .val (.int cx), .val (.int cy), .val (.int (own_ln p1)), .val (.int r_2), .val (.int r_3), .val (.int (own_ln p2)), .val (.int r_5), .val (.int r_6), .val (.int (own_ln p3)), .val (.int r_8), .val (.int r_9), .val (.int (own_ln p4)), .val (.int r_11), .val (.int r_12), .val (.ref b_13), .val (.ref b_14), .val (.ref b_15), .val (.ref b_16), .val (.ref b17), .val (.int (own_join (own_ch3 (own_ln p1) r_2 r_3) (own_ch3 (own_ln p2) r_5 r_6) (own_ch3 (own_ln p3) r_8 r_9) (own_ch3 (own_ln p4) r_11 r_12))), .val (.int (0 : Int32)), .val (.int (0 : Int32)), .val (.int (0 : Int32))] [(.int (0 : Int32)), (.int (own_join (own_ch3 (own_ln p1) r_2 r_3) (own_ch3 (own_ln p2) r_5 r_6) (own_ch3 (own_ln p3) r_8 r_9) (own_ch3 (own_ln p4) r_11 r_12)))]))) (fun t k => XS.iload X36.here hx rfl (hb hby at_310) rfl k) ?_
          refine own_fw (A' := (T36.setTop (mkF m 315 #[.val (.int p1), .val (.int p2), .val (.int p3), .val (.int p4), .val (.int p5), .val (.int cx), .val (.int cy), .val (.int (own_ln p1)), .val (.int r_2), .val (.int r_3), .val (.int (own_ln p2)), .val (.int r_5), .val (.int r_6), .val (.int (own_ln p3)), .val (.int r_8), .val (.int r_9), .val (.int (own_ln p4)), .val (.int r_11), .val (.int r_12), .val (.ref b_13), .val (.ref b_14), .val (.ref b_15), .val (.ref b_16), .val (.ref b17), .val (.int (own_join (own_ch3 (own_ln p1) r_2 r_3) (own_ch3 (own_ln p2) r_5 r_6) (own_ch3 (own_ln p3) r_8 r_9) (own_ch3 (own_ln p4) r_11 r_12))), .val (.int (0 : Int32)), .val (.int (0 : Int32)), .val (.int (0 : Int32))] []))) (fun t k => XS.icmpNo X36.here hx rfl (hb hby at_312) rfl (XT.ii_ne_f (by simp only [own_join, own_jt, if_neg (own_qn hc27), if_pos (own_q hc33), if_neg (own_qn hc35), if_pos (own_q hc37)])) k) ?_
          refine own_fw (A' := (T36.setTop (mkF m 316 #[.val (.int p1), .val (.int p2), .val (.int p3), .val (.int p4), .val (.int p5), .val (.int cx), .val (.int cy), .val (.int (own_ln p1)), .val (.int r_2), .val (.int r_3), .val (.int (own_ln p2)), .val (.int r_5), .val (.int r_6), .val (.int (own_ln p3)), .val (.int r_8), .val (.int r_9), .val (.int (own_ln p4)), .val (.int r_11), .val (.int r_12), .val (.ref b_13), .val (.ref b_14), .val (.ref b_15), .val (.ref b_16), .val (.ref b17), .val (.int (own_join (own_ch3 (own_ln p1) r_2 r_3) (own_ch3 (own_ln p2) r_5 r_6) (own_ch3 (own_ln p3) r_8 r_9) (own_ch3 (own_ln p4) r_11 r_12))), .val (.int (0 : Int32)), .val (.int (0 : Int32)), .val (.int (0 : Int32))] [(.int (1 : Int32))]))) (fun t k => XS.iconst X36.here hx rfl (hb hby at_315) k) ?_
          refine own_fw (A' := (T36.setTop (mkF m 320 #[.val (.int p1), .val (.int p2), .val (.int p3), .val (.int p4), .val (.int p5), .val (.int cx), .val (.int cy), .val (.int (own_ln p1)), .val (.int r_2), .val (.int r_3), .val (.int (own_ln p2)), .val (.int r_5), .val (.int r_6), .val (.int (own_ln p3)), .val (.int r_8), .val (.int r_9), .val (.int (own_ln p4)), .val (.int r_11), .val (.int r_12), .val (.ref b_13), .val (.ref b_14), .val (.ref b_15), .val (.ref b_16), .val (.ref b17), .val (.int (own_join (own_ch3 (own_ln p1) r_2 r_3) (own_ch3 (own_ln p2) r_5 r_6) (own_ch3 (own_ln p3) r_8 r_9) (own_ch3 (own_ln p4) r_11 r_12))), .val (.int (0 : Int32)), .val (.int (0 : Int32)), .val (.int (0 : Int32))] [(.int (1 : Int32))]))) (fun t k => XS.goto X36.here hx rfl (pc0 := 316) (pc' := 320) rfl (hb hby at_316) (by decide) (by decide) k) ?_
          obtain ⟨fs, hr, hrun, hended, hWE⟩ := X36.leaveW hS (by rw [e36]; exact hk : _ ≤ T36.heap.size) (v := some (.int (1 : Int32))) (fun h => by rw [Bd.returns] at h; cases h)
          refine ⟨_, _, ?_, hrun, hended, _, _, rfl, ?_, own_widen hWE (by decide) (by decide)⟩
          · exact retOut X36 hx Bd.returns rfl (Or.inl ⟨rfl, by simp, _, rfl⟩) (hb hby at_320) hr
          · show Q_rm0 Z p1 p2 p3 p4 p5 cs h0 n0 _ T36.heap _
            rw [e36]
            exact ⟨rfl, Nf36⟩
        · refine own_fw (A' := (T36.setTop (mkF m 284 #[.val (.int p1), .val (.int p2), .val (.int p3), .val (.int p4), .val (.int p5), .val (.int cx), .val (.int cy), .val (.int (own_ln p1)), .val (.int r_2), .val (.int r_3), .val (.int (own_ln p2)), .val (.int r_5), .val (.int r_6), .val (.int (own_ln p3)), .val (.int r_8), .val (.int r_9), .val (.int (own_ln p4)), .val (.int r_11), .val (.int r_12), .val (.ref b_13), .val (.ref b_14), .val (.ref b_15), .val (.ref b_16), .val (.ref b17), .val (.int (own_join (own_ch3 (own_ln p1) r_2 r_3) (own_ch3 (own_ln p2) r_5 r_6) (own_ch3 (own_ln p3) r_8 r_9) (own_ch3 (own_ln p4) r_11 r_12))), .val (.int (0 : Int32)), .unset, .unset] []))) (fun t k => XS.ifNo X36.here hx rfl (hb hby at_281) rfl (XT.i0_eq_f hc37) k) ?_
          refine own_fw (A' := (T36.setTop (mkF m 285 #[.val (.int p1), .val (.int p2), .val (.int p3), .val (.int p4), .val (.int p5), .val (.int cx), .val (.int cy), .val (.int (own_ln p1)), .val (.int r_2), .val (.int r_3), .val (.int (own_ln p2)), .val (.int r_5), .val (.int r_6), .val (.int (own_ln p3)), .val (.int r_8), .val (.int r_9), .val (.int (own_ln p4)), .val (.int r_11), .val (.int r_12), .val (.ref b_13), .val (.ref b_14), .val (.ref b_15), .val (.ref b_16), .val (.ref b17), .val (.int (own_join (own_ch3 (own_ln p1) r_2 r_3) (own_ch3 (own_ln p2) r_5 r_6) (own_ch3 (own_ln p3) r_8 r_9) (own_ch3 (own_ln p4) r_11 r_12))), .val (.int (0 : Int32)), .unset, .unset] [(.int (1 : Int32))]))) (fun t k => XS.iconst X36.here hx rfl (hb hby at_284) k) ?_
          refine own_fw (A' := (T36.setTop (mkF m 289 #[.val (.int p1), .val (.int p2), .val (.int p3), .val (.int p4), .val (.int p5), .val (.int cx), .val (.int cy), .val (.int (own_ln p1)), .val (.int r_2), .val (.int r_3), .val (.int (own_ln p2)), .val (.int r_5), .val (.int r_6), .val (.int (own_ln p3)), .val (.int r_8), .val (.int r_9), .val (.int (own_ln p4)), .val (.int r_11), .val (.int r_12), .val (.ref b_13), .val (.ref b_14), .val (.ref b_15), .val (.ref b_16), .val (.ref b17), .val (.int (own_join (own_ch3 (own_ln p1) r_2 r_3) (own_ch3 (own_ln p2) r_5 r_6) (own_ch3 (own_ln p3) r_8 r_9) (own_ch3 (own_ln p4) r_11 r_12))), .val (.int (0 : Int32)), .unset, .unset] [(.int (1 : Int32))]))) (fun t k => XS.goto X36.here hx rfl (pc0 := 285) (pc' := 289) rfl (hb hby at_285) (by decide) (by decide) k) ?_
          refine own_fw (A' := (T36.setTop (mkF m 291 #[.val (.int p1), .val (.int p2), .val (.int p3), .val (.int p4), .val (.int p5), .val (.int cx), .val (.int cy), .val (.int (own_ln p1)), .val (.int r_2), .val (.int r_3), .val (.int (own_ln p2)), .val (.int r_5), .val (.int r_6), .val (.int (own_ln p3)), .val (.int r_8), .val (.int r_9), .val (.int (own_ln p4)), .val (.int r_11), .val (.int r_12), .val (.ref b_13), .val (.ref b_14), .val (.ref b_15), .val (.ref b_16), .val (.ref b17), .val (.int (own_join (own_ch3 (own_ln p1) r_2 r_3) (own_ch3 (own_ln p2) r_5 r_6) (own_ch3 (own_ln p3) r_8 r_9) (own_ch3 (own_ln p4) r_11 r_12))), .val (.int (0 : Int32)), .val (.int (1 : Int32)), .unset] []))) (fun t k => XS.istore X36.here hx rfl (hb hby at_289) rfl (l' := #[.val (.int p1), .val (.int p2), .val (.int p3), .val (.int p4), .val (.int p5), .val (.int cx), .val (.int cy), .val (.int (own_ln p1)), .val (.int r_2), .val (.int r_3), .val (.int (own_ln p2)), .val (.int r_5), .val (.int r_6), .val (.int (own_ln p3)), .val (.int r_8), .val (.int r_9), .val (.int (own_ln p4)), .val (.int r_11), .val (.int r_12), .val (.ref b_13), .val (.ref b_14), .val (.ref b_15), .val (.ref b_16), .val (.ref b17), .val (.int (own_join (own_ch3 (own_ln p1) r_2 r_3) (own_ch3 (own_ln p2) r_5 r_6) (own_ch3 (own_ln p3) r_8 r_9) (own_ch3 (own_ln p4) r_11 r_12))), .val (.int (0 : Int32)), .val (.int (1 : Int32)), .unset]) rfl k) ?_
          refine own_fw (A' := (T36.setTop (mkF m 293 #[.val (.int p1), .val (.int p2), .val (.int p3), .val (.int p4), .val (.int p5), .val (.int cx), .val (.int cy), .val (.int (own_ln p1)), .val (.int r_2), .val (.int r_3), .val (.int (own_ln p2)), .val (.int r_5), .val (.int r_6), .val (.int (own_ln p3)), .val (.int r_8), .val (.int r_9), .val (.int (own_ln p4)), .val (.int r_11), .val (.int r_12), .val (.ref b_13), .val (.ref b_14), .val (.ref b_15), .val (.ref b_16), .val (.ref b17), .val (.int (own_join (own_ch3 (own_ln p1) r_2 r_3) (own_ch3 (own_ln p2) r_5 r_6) (own_ch3 (own_ln p3) r_8 r_9) (own_ch3 (own_ln p4) r_11 r_12))), .val (.int (0 : Int32)), .val (.int (1 : Int32)), .unset] [(.int (0 : Int32))]))) (fun t k => XS.iload X36.here hx rfl (hb hby at_291) rfl k) ?_
          refine own_fw (A' := (T36.setTop (mkF m 296 #[.val (.int p1), .val (.int p2), .val (.int p3), .val (.int p4), .val (.int p5), .val (.int cx), .val (.int cy), .val (.int (own_ln p1)), .val (.int r_2), .val (.int r_3), .val (.int (own_ln p2)), .val (.int r_5), .val (.int r_6), .val (.int (own_ln p3)), .val (.int r_8), .val (.int r_9), .val (.int (own_ln p4)), .val (.int r_11), .val (.int r_12), .val (.ref b_13), .val (.ref b_14), .val (.ref b_15), .val (.ref b_16), .val (.ref b17), .val (.int (own_join (own_ch3 (own_ln p1) r_2 r_3) (own_ch3 (own_ln p2) r_5 r_6) (own_ch3 (own_ln p3) r_8 r_9) (own_ch3 (own_ln p4) r_11 r_12))), .val (.int (0 : Int32)), .val (.int (1 : Int32)), .unset] []))) (fun t k => XS.ifNo X36.here hx rfl (hb hby at_293) rfl (XT.i0_ne_f rfl) k) ?_
          refine own_fw (A' := (T36.setTop (mkF m 298 #[.val (.int p1), .val (.int p2), .val (.int p3), .val (.int p4), .val (.int p5), .val (.int cx), .val (.int cy), .val (.int (own_ln p1)), .val (.int r_2), .val (.int r_3), .val (.int (own_ln p2)), .val (.int r_5), .val (.int r_6), .val (.int (own_ln p3)), .val (.int r_8), .val (.int r_9), .val (.int (own_ln p4)), .val (.int r_11), .val (.int r_12), .val (.ref b_13), .val (.ref b_14), .val (.ref b_15), .val (.ref b_16), .val (.ref b17), .val (.int (own_join (own_ch3 (own_ln p1) r_2 r_3) (own_ch3 (own_ln p2) r_5 r_6) (own_ch3 (own_ln p3) r_8 r_9) (own_ch3 (own_ln p4) r_11 r_12))), .val (.int (0 : Int32)), .val (.int (1 : Int32)), .unset] [(.int (1 : Int32))]))) (fun t k => XS.iload X36.here hx rfl (hb hby at_296) rfl k) ?_
          refine own_fw (A' := (T36.setTop (mkF m 301 #[.val (.int p1), .val (.int p2), .val (.int p3), .val (.int p4), .val (.int p5), .val (.int cx), .val (.int cy), .val (.int (own_ln p1)), .val (.int r_2), .val (.int r_3), .val (.int (own_ln p2)), .val (.int r_5), .val (.int r_6), .val (.int (own_ln p3)), .val (.int r_8), .val (.int r_9), .val (.int (own_ln p4)), .val (.int r_11), .val (.int r_12), .val (.ref b_13), .val (.ref b_14), .val (.ref b_15), .val (.ref b_16), .val (.ref b17), .val (.int (own_join (own_ch3 (own_ln p1) r_2 r_3) (own_ch3 (own_ln p2) r_5 r_6) (own_ch3 (own_ln p3) r_8 r_9) (own_ch3 (own_ln p4) r_11 r_12))), .val (.int (0 : Int32)), .val (.int (1 : Int32)), .unset] []))) (fun t k => XS.ifNo X36.here hx rfl (hb hby at_298) rfl (XT.i0_eq_f (by decide)) k) ?_
          refine own_fw (A' := (T36.setTop (mkF m 302 #[.val (.int p1), .val (.int p2), .val (.int p3), .val (.int p4), .val (.int p5), .val (.int cx), .val (.int cy), .val (.int (own_ln p1)), .val (.int r_2), .val (.int r_3), .val (.int (own_ln p2)), .val (.int r_5), .val (.int r_6), .val (.int (own_ln p3)), .val (.int r_8), .val (.int r_9), .val (.int (own_ln p4)), .val (.int r_11), .val (.int r_12), .val (.ref b_13), .val (.ref b_14), .val (.ref b_15), .val (.ref b_16), .val (.ref b17), .val (.int (own_join (own_ch3 (own_ln p1) r_2 r_3) (own_ch3 (own_ln p2) r_5 r_6) (own_ch3 (own_ln p3) r_8 r_9) (own_ch3 (own_ln p4) r_11 r_12))), .val (.int (0 : Int32)), .val (.int (1 : Int32)), .unset] [(.int (1 : Int32))]))) (fun t k => XS.iconst X36.here hx rfl (hb hby at_301) k) ?_
          refine own_fw (A' := (T36.setTop (mkF m 306 #[.val (.int p1), .val (.int p2), .val (.int p3), .val (.int p4), .val (.int p5), .val (.int cx), .val (.int cy), .val (.int (own_ln p1)), .val (.int r_2), .val (.int r_3), .val (.int (own_ln p2)), .val (.int r_5), .val (.int r_6), .val (.int (own_ln p3)), .val (.int r_8), .val (.int r_9), .val (.int (own_ln p4)), .val (.int r_11), .val (.int r_12), .val (.ref b_13), .val (.ref b_14), .val (.ref b_15), .val (.ref b_16), .val (.ref b17), .val (.int (own_join (own_ch3 (own_ln p1) r_2 r_3) (own_ch3 (own_ln p2) r_5 r_6) (own_ch3 (own_ln p3) r_8 r_9) (own_ch3 (own_ln p4) r_11 r_12))), .val (.int (0 : Int32)), .val (.int (1 : Int32)), .unset] [(.int (1 : Int32))]))) (fun t k => XS.goto X36.here hx rfl (pc0 := 302) (pc' := 306) rfl (hb hby at_302) (by decide) (by decide) k) ?_
          refine own_fw (A' := (T36.setTop (mkF m 308 #[.val (.int p1), .val (.int p2), .val (.int p3), .val (.int p4), .val (.int p5), .val (.int cx), .val (.int cy), .val (.int (own_ln p1)), .val (.int r_2), .val (.int r_3), .val (.int (own_ln p2)), .val (.int r_5), .val (.int r_6), .val (.int (own_ln p3)), .val (.int r_8), .val (.int r_9), .val (.int (own_ln p4)), .val (.int r_11), .val (.int r_12), .val (.ref b_13), .val (.ref b_14), .val (.ref b_15), .val (.ref b_16), .val (.ref b17), .val (.int (own_join (own_ch3 (own_ln p1) r_2 r_3) (own_ch3 (own_ln p2) r_5 r_6) (own_ch3 (own_ln p3) r_8 r_9) (own_ch3 (own_ln p4) r_11 r_12))), .val (.int (0 : Int32)), .val (.int (1 : Int32)), .val (.int (1 : Int32))] []))) (fun t k => XS.istore X36.here hx rfl (hb hby at_306) rfl (l' := #[.val (.int p1), .val (.int p2), .val (.int p3), .val (.int p4), .val (.int p5), .val (.int cx), .val (.int cy), .val (.int (own_ln p1)), .val (.int r_2), .val (.int r_3), .val (.int (own_ln p2)), .val (.int r_5), .val (.int r_6), .val (.int (own_ln p3)), .val (.int r_8), .val (.int r_9), .val (.int (own_ln p4)), .val (.int r_11), .val (.int r_12), .val (.ref b_13), .val (.ref b_14), .val (.ref b_15), .val (.ref b_16), .val (.ref b17), .val (.int (own_join (own_ch3 (own_ln p1) r_2 r_3) (own_ch3 (own_ln p2) r_5 r_6) (own_ch3 (own_ln p3) r_8 r_9) (own_ch3 (own_ln p4) r_11 r_12))), .val (.int (0 : Int32)), .val (.int (1 : Int32)), .val (.int (1 : Int32))]) rfl k) ?_
          refine own_fw (A' := (T36.setTop (mkF m 310 #[.val (.int p1), .val (.int p2), .val (.int p3), .val (.int p4), .val (.int p5), .val (.int cx), .val (.int cy), .val (.int (own_ln p1)), .val (.int r_2), .val (.int r_3), .val (.int (own_ln p2)), .val (.int r_5), .val (.int r_6), .val (.int (own_ln p3)), .val (.int r_8), .val (.int r_9), .val (.int (own_ln p4)), .val (.int r_11), .val (.int r_12), .val (.ref b_13), .val (.ref b_14), .val (.ref b_15), .val (.ref b_16), .val (.ref b17), .val (.int (own_join (own_ch3 (own_ln p1) r_2 r_3) (own_ch3 (own_ln p2) r_5 r_6) (own_ch3 (own_ln p3) r_8 r_9) (own_ch3 (own_ln p4) r_11 r_12))), .val (.int (0 : Int32)), .val (.int (1 : Int32)), .val (.int (1 : Int32))] [(.int (own_join (own_ch3 (own_ln p1) r_2 r_3) (own_ch3 (own_ln p2) r_5 r_6) (own_ch3 (own_ln p3) r_8 r_9) (own_ch3 (own_ln p4) r_11 r_12)))]))) (fun t k => XS.iload X36.here hx rfl (hb hby at_308) rfl k) ?_
          refine own_fw (A' := (T36.setTop (mkF m 312 #[.val (.int p1), .val (.int p2), .val (.int p3), .val (.int p4), .val (.int p5), .val (.int cx), .val (.int cy), .val (.int (own_ln p1)), .val (.int r_2), .val (.int r_3), .val (.int (own_ln p2)), .val (.int r_5), .val (.int r_6), .val (.int (own_ln p3)), .val (.int r_8), .val (.int r_9), .val (.int (own_ln p4)), .val (.int r_11), .val (.int r_12), .val (.ref b_13), .val (.ref b_14), .val (.ref b_15), .val (.ref b_16), .val (.ref b17), .val (.int (own_join (own_ch3 (own_ln p1) r_2 r_3) (own_ch3 (own_ln p2) r_5 r_6) (own_ch3 (own_ln p3) r_8 r_9) (own_ch3 (own_ln p4) r_11 r_12))), .val (.int (0 : Int32)), .val (.int (1 : Int32)), .val (.int (1 : Int32))] [(.int (1 : Int32)), (.int (own_join (own_ch3 (own_ln p1) r_2 r_3) (own_ch3 (own_ln p2) r_5 r_6) (own_ch3 (own_ln p3) r_8 r_9) (own_ch3 (own_ln p4) r_11 r_12)))]))) (fun t k => XS.iload X36.here hx rfl (hb hby at_310) rfl k) ?_
          refine own_fw (A' := (T36.setTop (mkF m 315 #[.val (.int p1), .val (.int p2), .val (.int p3), .val (.int p4), .val (.int p5), .val (.int cx), .val (.int cy), .val (.int (own_ln p1)), .val (.int r_2), .val (.int r_3), .val (.int (own_ln p2)), .val (.int r_5), .val (.int r_6), .val (.int (own_ln p3)), .val (.int r_8), .val (.int r_9), .val (.int (own_ln p4)), .val (.int r_11), .val (.int r_12), .val (.ref b_13), .val (.ref b_14), .val (.ref b_15), .val (.ref b_16), .val (.ref b17), .val (.int (own_join (own_ch3 (own_ln p1) r_2 r_3) (own_ch3 (own_ln p2) r_5 r_6) (own_ch3 (own_ln p3) r_8 r_9) (own_ch3 (own_ln p4) r_11 r_12))), .val (.int (0 : Int32)), .val (.int (1 : Int32)), .val (.int (1 : Int32))] []))) (fun t k => XS.icmpNo X36.here hx rfl (hb hby at_312) rfl (XT.ii_ne_f (by simp only [own_join, own_jt, if_neg (own_qn hc27), if_pos (own_q hc33), if_neg (own_qn hc35), if_neg (own_qn hc37)])) k) ?_
          refine own_fw (A' := (T36.setTop (mkF m 316 #[.val (.int p1), .val (.int p2), .val (.int p3), .val (.int p4), .val (.int p5), .val (.int cx), .val (.int cy), .val (.int (own_ln p1)), .val (.int r_2), .val (.int r_3), .val (.int (own_ln p2)), .val (.int r_5), .val (.int r_6), .val (.int (own_ln p3)), .val (.int r_8), .val (.int r_9), .val (.int (own_ln p4)), .val (.int r_11), .val (.int r_12), .val (.ref b_13), .val (.ref b_14), .val (.ref b_15), .val (.ref b_16), .val (.ref b17), .val (.int (own_join (own_ch3 (own_ln p1) r_2 r_3) (own_ch3 (own_ln p2) r_5 r_6) (own_ch3 (own_ln p3) r_8 r_9) (own_ch3 (own_ln p4) r_11 r_12))), .val (.int (0 : Int32)), .val (.int (1 : Int32)), .val (.int (1 : Int32))] [(.int (1 : Int32))]))) (fun t k => XS.iconst X36.here hx rfl (hb hby at_315) k) ?_
          refine own_fw (A' := (T36.setTop (mkF m 320 #[.val (.int p1), .val (.int p2), .val (.int p3), .val (.int p4), .val (.int p5), .val (.int cx), .val (.int cy), .val (.int (own_ln p1)), .val (.int r_2), .val (.int r_3), .val (.int (own_ln p2)), .val (.int r_5), .val (.int r_6), .val (.int (own_ln p3)), .val (.int r_8), .val (.int r_9), .val (.int (own_ln p4)), .val (.int r_11), .val (.int r_12), .val (.ref b_13), .val (.ref b_14), .val (.ref b_15), .val (.ref b_16), .val (.ref b17), .val (.int (own_join (own_ch3 (own_ln p1) r_2 r_3) (own_ch3 (own_ln p2) r_5 r_6) (own_ch3 (own_ln p3) r_8 r_9) (own_ch3 (own_ln p4) r_11 r_12))), .val (.int (0 : Int32)), .val (.int (1 : Int32)), .val (.int (1 : Int32))] [(.int (1 : Int32))]))) (fun t k => XS.goto X36.here hx rfl (pc0 := 316) (pc' := 320) rfl (hb hby at_316) (by decide) (by decide) k) ?_
          obtain ⟨fs, hr, hrun, hended, hWE⟩ := X36.leaveW hS (by rw [e36]; exact hk : _ ≤ T36.heap.size) (v := some (.int (1 : Int32))) (fun h => by rw [Bd.returns] at h; cases h)
          refine ⟨_, _, ?_, hrun, hended, _, _, rfl, ?_, own_widen hWE (by decide) (by decide)⟩
          · exact retOut X36 hx Bd.returns rfl (Or.inl ⟨rfl, by simp, _, rfl⟩) (hb hby at_320) hr
          · show Q_rm0 Z p1 p2 p3 p4 p5 cs h0 n0 _ T36.heap _
            rw [e36]
            exact ⟨rfl, Nf36⟩
    · refine own_fw (A' := (T32.setTop (mkF m 241 #[.val (.int p1), .val (.int p2), .val (.int p3), .val (.int p4), .val (.int p5), .val (.int cx), .val (.int cy), .val (.int (own_ln p1)), .val (.int r_2), .val (.int r_3), .val (.int (own_ln p2)), .val (.int r_5), .val (.int r_6), .val (.int (own_ln p3)), .val (.int r_8), .val (.int r_9), .val (.int (own_ln p4)), .val (.int r_11), .val (.int r_12), .val (.ref b_13), .val (.ref b_14), .val (.ref b_15), .val (.ref b_16), .val (.ref b17), .val (.int (own_join (own_ch3 (own_ln p1) r_2 r_3) (own_ch3 (own_ln p2) r_5 r_6) (own_ch3 (own_ln p3) r_8 r_9) (own_ch3 (own_ln p4) r_11 r_12))), .unset, .unset, .unset] []))) (fun t k => XS.ifNo X32.here hx rfl (hb hby at_238) rfl (XT.i0_eq_f hc33) k) ?_
      refine own_fw (A' := (T32.setTop (mkF m 242 #[.val (.int p1), .val (.int p2), .val (.int p3), .val (.int p4), .val (.int p5), .val (.int cx), .val (.int cy), .val (.int (own_ln p1)), .val (.int r_2), .val (.int r_3), .val (.int (own_ln p2)), .val (.int r_5), .val (.int r_6), .val (.int (own_ln p3)), .val (.int r_8), .val (.int r_9), .val (.int (own_ln p4)), .val (.int r_11), .val (.int r_12), .val (.ref b_13), .val (.ref b_14), .val (.ref b_15), .val (.ref b_16), .val (.ref b17), .val (.int (own_join (own_ch3 (own_ln p1) r_2 r_3) (own_ch3 (own_ln p2) r_5 r_6) (own_ch3 (own_ln p3) r_8 r_9) (own_ch3 (own_ln p4) r_11 r_12))), .unset, .unset, .unset] [(.int (1 : Int32))]))) (fun t k => XS.iconst X32.here hx rfl (hb hby at_241) k) ?_
      refine own_fw (A' := (T32.setTop (mkF m 246 #[.val (.int p1), .val (.int p2), .val (.int p3), .val (.int p4), .val (.int p5), .val (.int cx), .val (.int cy), .val (.int (own_ln p1)), .val (.int r_2), .val (.int r_3), .val (.int (own_ln p2)), .val (.int r_5), .val (.int r_6), .val (.int (own_ln p3)), .val (.int r_8), .val (.int r_9), .val (.int (own_ln p4)), .val (.int r_11), .val (.int r_12), .val (.ref b_13), .val (.ref b_14), .val (.ref b_15), .val (.ref b_16), .val (.ref b17), .val (.int (own_join (own_ch3 (own_ln p1) r_2 r_3) (own_ch3 (own_ln p2) r_5 r_6) (own_ch3 (own_ln p3) r_8 r_9) (own_ch3 (own_ln p4) r_11 r_12))), .unset, .unset, .unset] [(.int (1 : Int32))]))) (fun t k => XS.goto X32.here hx rfl (pc0 := 242) (pc' := 246) rfl (hb hby at_242) (by decide) (by decide) k) ?_
      refine own_fw (A' := (T32.setTop (mkF m 248 #[.val (.int p1), .val (.int p2), .val (.int p3), .val (.int p4), .val (.int p5), .val (.int cx), .val (.int cy), .val (.int (own_ln p1)), .val (.int r_2), .val (.int r_3), .val (.int (own_ln p2)), .val (.int r_5), .val (.int r_6), .val (.int (own_ln p3)), .val (.int r_8), .val (.int r_9), .val (.int (own_ln p4)), .val (.int r_11), .val (.int r_12), .val (.ref b_13), .val (.ref b_14), .val (.ref b_15), .val (.ref b_16), .val (.ref b17), .val (.int (own_join (own_ch3 (own_ln p1) r_2 r_3) (own_ch3 (own_ln p2) r_5 r_6) (own_ch3 (own_ln p3) r_8 r_9) (own_ch3 (own_ln p4) r_11 r_12))), .val (.int (1 : Int32)), .unset, .unset] []))) (fun t k => XS.istore X32.here hx rfl (hb hby at_246) rfl (l' := #[.val (.int p1), .val (.int p2), .val (.int p3), .val (.int p4), .val (.int p5), .val (.int cx), .val (.int cy), .val (.int (own_ln p1)), .val (.int r_2), .val (.int r_3), .val (.int (own_ln p2)), .val (.int r_5), .val (.int r_6), .val (.int (own_ln p3)), .val (.int r_8), .val (.int r_9), .val (.int (own_ln p4)), .val (.int r_11), .val (.int r_12), .val (.ref b_13), .val (.ref b_14), .val (.ref b_15), .val (.ref b_16), .val (.ref b17), .val (.int (own_join (own_ch3 (own_ln p1) r_2 r_3) (own_ch3 (own_ln p2) r_5 r_6) (own_ch3 (own_ln p3) r_8 r_9) (own_ch3 (own_ln p4) r_11 r_12))), .val (.int (1 : Int32)), .unset, .unset]) rfl k) ?_
      refine own_fw (A' := (T32.setTop (mkF m 250 #[.val (.int p1), .val (.int p2), .val (.int p3), .val (.int p4), .val (.int p5), .val (.int cx), .val (.int cy), .val (.int (own_ln p1)), .val (.int r_2), .val (.int r_3), .val (.int (own_ln p2)), .val (.int r_5), .val (.int r_6), .val (.int (own_ln p3)), .val (.int r_8), .val (.int r_9), .val (.int (own_ln p4)), .val (.int r_11), .val (.int r_12), .val (.ref b_13), .val (.ref b_14), .val (.ref b_15), .val (.ref b_16), .val (.ref b17), .val (.int (own_join (own_ch3 (own_ln p1) r_2 r_3) (own_ch3 (own_ln p2) r_5 r_6) (own_ch3 (own_ln p3) r_8 r_9) (own_ch3 (own_ln p4) r_11 r_12))), .val (.int (1 : Int32)), .unset, .unset] [(.int (own_ln p3))]))) (fun t k => XS.iload X32.here hx rfl (hb hby at_248) rfl k) ?_
      refine own_fw (A' := (T32.setTop (mkF m 252 #[.val (.int p1), .val (.int p2), .val (.int p3), .val (.int p4), .val (.int p5), .val (.int cx), .val (.int cy), .val (.int (own_ln p1)), .val (.int r_2), .val (.int r_3), .val (.int (own_ln p2)), .val (.int r_5), .val (.int r_6), .val (.int (own_ln p3)), .val (.int r_8), .val (.int r_9), .val (.int (own_ln p4)), .val (.int r_11), .val (.int r_12), .val (.ref b_13), .val (.ref b_14), .val (.ref b_15), .val (.ref b_16), .val (.ref b17), .val (.int (own_join (own_ch3 (own_ln p1) r_2 r_3) (own_ch3 (own_ln p2) r_5 r_6) (own_ch3 (own_ln p3) r_8 r_9) (own_ch3 (own_ln p4) r_11 r_12))), .val (.int (1 : Int32)), .unset, .unset] [(.int r_8), (.int (own_ln p3))]))) (fun t k => XS.iload X32.here hx rfl (hb hby at_250) rfl k) ?_
      refine own_fw (A' := (T32.setTop (mkF m 254 #[.val (.int p1), .val (.int p2), .val (.int p3), .val (.int p4), .val (.int p5), .val (.int cx), .val (.int cy), .val (.int (own_ln p1)), .val (.int r_2), .val (.int r_3), .val (.int (own_ln p2)), .val (.int r_5), .val (.int r_6), .val (.int (own_ln p3)), .val (.int r_8), .val (.int r_9), .val (.int (own_ln p4)), .val (.int r_11), .val (.int r_12), .val (.ref b_13), .val (.ref b_14), .val (.ref b_15), .val (.ref b_16), .val (.ref b17), .val (.int (own_join (own_ch3 (own_ln p1) r_2 r_3) (own_ch3 (own_ln p2) r_5 r_6) (own_ch3 (own_ln p3) r_8 r_9) (own_ch3 (own_ln p4) r_11 r_12))), .val (.int (1 : Int32)), .unset, .unset] [(.int r_9), (.int r_8), (.int (own_ln p3))]))) (fun t k => XS.iload X32.here hx rfl (hb hby at_252) rfl k) ?_
      refine own_fw (A' := (T32.setTop (mkF m 256 #[.val (.int p1), .val (.int p2), .val (.int p3), .val (.int p4), .val (.int p5), .val (.int cx), .val (.int cy), .val (.int (own_ln p1)), .val (.int r_2), .val (.int r_3), .val (.int (own_ln p2)), .val (.int r_5), .val (.int r_6), .val (.int (own_ln p3)), .val (.int r_8), .val (.int r_9), .val (.int (own_ln p4)), .val (.int r_11), .val (.int r_12), .val (.ref b_13), .val (.ref b_14), .val (.ref b_15), .val (.ref b_16), .val (.ref b17), .val (.int (own_join (own_ch3 (own_ln p1) r_2 r_3) (own_ch3 (own_ln p2) r_5 r_6) (own_ch3 (own_ln p3) r_8 r_9) (own_ch3 (own_ln p4) r_11 r_12))), .val (.int (1 : Int32)), .unset, .unset] [(.int (own_ln p2)), (.int r_9), (.int r_8), (.int (own_ln p3))]))) (fun t k => XS.iload X32.here hx rfl (hb hby at_254) rfl k) ?_
      refine own_fw (A' := (T32.setTop (mkF m 258 #[.val (.int p1), .val (.int p2), .val (.int p3), .val (.int p4), .val (.int p5), .val (.int cx), .val (.int cy), .val (.int (own_ln p1)), .val (.int r_2), .val (.int r_3), .val (.int (own_ln p2)), .val (.int r_5), .val (.int r_6), .val (.int (own_ln p3)), .val (.int r_8), .val (.int r_9), .val (.int (own_ln p4)), .val (.int r_11), .val (.int r_12), .val (.ref b_13), .val (.ref b_14), .val (.ref b_15), .val (.ref b_16), .val (.ref b17), .val (.int (own_join (own_ch3 (own_ln p1) r_2 r_3) (own_ch3 (own_ln p2) r_5 r_6) (own_ch3 (own_ln p3) r_8 r_9) (own_ch3 (own_ln p4) r_11 r_12))), .val (.int (1 : Int32)), .unset, .unset] [(.int r_5), (.int (own_ln p2)), (.int r_9), (.int r_8), (.int (own_ln p3))]))) (fun t k => XS.iload X32.here hx rfl (hb hby at_256) rfl k) ?_
      refine own_fw (A' := (T32.setTop (mkF m 260 #[.val (.int p1), .val (.int p2), .val (.int p3), .val (.int p4), .val (.int p5), .val (.int cx), .val (.int cy), .val (.int (own_ln p1)), .val (.int r_2), .val (.int r_3), .val (.int (own_ln p2)), .val (.int r_5), .val (.int r_6), .val (.int (own_ln p3)), .val (.int r_8), .val (.int r_9), .val (.int (own_ln p4)), .val (.int r_11), .val (.int r_12), .val (.ref b_13), .val (.ref b_14), .val (.ref b_15), .val (.ref b_16), .val (.ref b17), .val (.int (own_join (own_ch3 (own_ln p1) r_2 r_3) (own_ch3 (own_ln p2) r_5 r_6) (own_ch3 (own_ln p3) r_8 r_9) (own_ch3 (own_ln p4) r_11 r_12))), .val (.int (1 : Int32)), .unset, .unset] [(.int r_6), (.int r_5), (.int (own_ln p2)), (.int r_9), (.int r_8), (.int (own_ln p3))]))) (fun t k => XS.iload X32.here hx rfl (hb hby at_258) rfl k) ?_
      obtain ⟨_, _, ⟨T38, L38, k38, n38⟩, -, X38, ⟨Lc38, hQ38, l38, y38, z38⟩, st38⟩ := Jvm.LawKit.callS X32 hx (y := (⟨"com/example/kodnik/kodnik/store/MappingJoinsPinLaw", "eq", "(ICCICC)Z"⟩ : MethodName)) hown (mvT hZ (hw _ (List.mem_of_getElem? (i := 80) rfl))) (mvT hZ (hw _ (List.mem_of_getElem? (i := 81) rfl))) (mvT hZ (hw _ (List.mem_of_getElem? (i := 2) rfl))) (mvT hZ (hw _ (List.mem_of_getElem? (i := 82) rfl))) (by decide) (backOf (W := 0) (rmE3 l Z a0 hw [] (own_ln p3) r_8 r_9 (own_ln p2) r_5 r_6 T23.heap n0 Z23 ) hZ (hw _ (List.mem_of_getElem? (i := 82) rfl)) (hw _ (List.mem_of_getElem? (i := 2) rfl)) (by decide) (by decide)) (g := (mkF m 260 #[.val (.int p1), .val (.int p2), .val (.int p3), .val (.int p4), .val (.int p5), .val (.int cx), .val (.int cy), .val (.int (own_ln p1)), .val (.int r_2), .val (.int r_3), .val (.int (own_ln p2)), .val (.int r_5), .val (.int r_6), .val (.int (own_ln p3)), .val (.int r_8), .val (.int r_9), .val (.int (own_ln p4)), .val (.int r_11), .val (.int r_12), .val (.ref b_13), .val (.ref b_14), .val (.ref b_15), .val (.ref b_16), .val (.ref b17), .val (.int (own_join (own_ch3 (own_ln p1) r_2 r_3) (own_ch3 (own_ln p2) r_5 r_6) (own_ch3 (own_ln p3) r_8 r_9) (own_ch3 (own_ln p4) r_11 r_12))), .val (.int (1 : Int32)), .unset, .unset] [(.int r_6), (.int r_5), (.int (own_ln p2)), (.int r_9), (.int r_8), (.int (own_ln p3))])) rfl (by rw [hml]; rfl) (argsL := [(.int (own_ln p3)), (.int r_8), (.int r_9), (.int (own_ln p2)), (.int r_5), (.int r_6)]) (rest := []) (lenOf pd__ICCICC_Z rfl) rfl (by show 2 * 0 + _ ≤ _; exact Nat.le_of_eq rfl) (hb hby at_260) (fun _ _ => ⟨rfl, e32, (by decide : 29 + 0 ≤ _), (by decide : 84 + 0 ≤ _)⟩)
      dsimp only [Pt.U, Pt.locs, Pt.cells, Pt.slots] at X38 l38 y38 z38 st38 hQ38
      subst l38 y38 z38
      obtain ⟨rfl, Nq38, e38⟩ := hQ38
      have Nf38 := Fr.app Nf32 Nq38
      refine own_fw (A' := (T38.setTop (mkF m 263 #[.val (.int p1), .val (.int p2), .val (.int p3), .val (.int p4), .val (.int p5), .val (.int cx), .val (.int cy), .val (.int (own_ln p1)), .val (.int r_2), .val (.int r_3), .val (.int (own_ln p2)), .val (.int r_5), .val (.int r_6), .val (.int (own_ln p3)), .val (.int r_8), .val (.int r_9), .val (.int (own_ln p4)), .val (.int r_11), .val (.int r_12), .val (.ref b_13), .val (.ref b_14), .val (.ref b_15), .val (.ref b_16), .val (.ref b17), .val (.int (own_join (own_ch3 (own_ln p1) r_2 r_3) (own_ch3 (own_ln p2) r_5 r_6) (own_ch3 (own_ln p3) r_8 r_9) (own_ch3 (own_ln p4) r_11 r_12))), .val (.int (1 : Int32)), .unset, .unset] [(.int (own_eq3 (own_ln p3) r_8 r_9 (own_ln p2) r_5 r_6))]))) (fun t k => st38 _ k) ?_
      by_cases hc39 : (own_eq3 (own_ln p3) r_8 r_9 (own_ln p2) r_5 r_6) = (0 : Int32)
      · refine own_fw (A' := (T38.setTop (mkF m 288 #[.val (.int p1), .val (.int p2), .val (.int p3), .val (.int p4), .val (.int p5), .val (.int cx), .val (.int cy), .val (.int (own_ln p1)), .val (.int r_2), .val (.int r_3), .val (.int (own_ln p2)), .val (.int r_5), .val (.int r_6), .val (.int (own_ln p3)), .val (.int r_8), .val (.int r_9), .val (.int (own_ln p4)), .val (.int r_11), .val (.int r_12), .val (.ref b_13), .val (.ref b_14), .val (.ref b_15), .val (.ref b_16), .val (.ref b17), .val (.int (own_join (own_ch3 (own_ln p1) r_2 r_3) (own_ch3 (own_ln p2) r_5 r_6) (own_ch3 (own_ln p3) r_8 r_9) (own_ch3 (own_ln p4) r_11 r_12))), .val (.int (1 : Int32)), .unset, .unset] []))) (fun t k => XS.ifYes X38.here hx rfl (pc0 := 263) (pc' := 288) rfl (hb hby at_263) rfl (XT.i0_eq_t hc39) (by decide) (by decide) k) ?_
        refine own_fw (A' := (T38.setTop (mkF m 289 #[.val (.int p1), .val (.int p2), .val (.int p3), .val (.int p4), .val (.int p5), .val (.int cx), .val (.int cy), .val (.int (own_ln p1)), .val (.int r_2), .val (.int r_3), .val (.int (own_ln p2)), .val (.int r_5), .val (.int r_6), .val (.int (own_ln p3)), .val (.int r_8), .val (.int r_9), .val (.int (own_ln p4)), .val (.int r_11), .val (.int r_12), .val (.ref b_13), .val (.ref b_14), .val (.ref b_15), .val (.ref b_16), .val (.ref b17), .val (.int (own_join (own_ch3 (own_ln p1) r_2 r_3) (own_ch3 (own_ln p2) r_5 r_6) (own_ch3 (own_ln p3) r_8 r_9) (own_ch3 (own_ln p4) r_11 r_12))), .val (.int (1 : Int32)), .unset, .unset] [(.int (0 : Int32))]))) (fun t k => XS.iconst X38.here hx rfl (hb hby at_288) k) ?_
        refine own_fw (A' := (T38.setTop (mkF m 291 #[.val (.int p1), .val (.int p2), .val (.int p3), .val (.int p4), .val (.int p5), .val (.int cx), .val (.int cy), .val (.int (own_ln p1)), .val (.int r_2), .val (.int r_3), .val (.int (own_ln p2)), .val (.int r_5), .val (.int r_6), .val (.int (own_ln p3)), .val (.int r_8), .val (.int r_9), .val (.int (own_ln p4)), .val (.int r_11), .val (.int r_12), .val (.ref b_13), .val (.ref b_14), .val (.ref b_15), .val (.ref b_16), .val (.ref b17), .val (.int (own_join (own_ch3 (own_ln p1) r_2 r_3) (own_ch3 (own_ln p2) r_5 r_6) (own_ch3 (own_ln p3) r_8 r_9) (own_ch3 (own_ln p4) r_11 r_12))), .val (.int (1 : Int32)), .val (.int (0 : Int32)), .unset] []))) (fun t k => XS.istore X38.here hx rfl (hb hby at_289) rfl (l' := #[.val (.int p1), .val (.int p2), .val (.int p3), .val (.int p4), .val (.int p5), .val (.int cx), .val (.int cy), .val (.int (own_ln p1)), .val (.int r_2), .val (.int r_3), .val (.int (own_ln p2)), .val (.int r_5), .val (.int r_6), .val (.int (own_ln p3)), .val (.int r_8), .val (.int r_9), .val (.int (own_ln p4)), .val (.int r_11), .val (.int r_12), .val (.ref b_13), .val (.ref b_14), .val (.ref b_15), .val (.ref b_16), .val (.ref b17), .val (.int (own_join (own_ch3 (own_ln p1) r_2 r_3) (own_ch3 (own_ln p2) r_5 r_6) (own_ch3 (own_ln p3) r_8 r_9) (own_ch3 (own_ln p4) r_11 r_12))), .val (.int (1 : Int32)), .val (.int (0 : Int32)), .unset]) rfl k) ?_
        refine own_fw (A' := (T38.setTop (mkF m 293 #[.val (.int p1), .val (.int p2), .val (.int p3), .val (.int p4), .val (.int p5), .val (.int cx), .val (.int cy), .val (.int (own_ln p1)), .val (.int r_2), .val (.int r_3), .val (.int (own_ln p2)), .val (.int r_5), .val (.int r_6), .val (.int (own_ln p3)), .val (.int r_8), .val (.int r_9), .val (.int (own_ln p4)), .val (.int r_11), .val (.int r_12), .val (.ref b_13), .val (.ref b_14), .val (.ref b_15), .val (.ref b_16), .val (.ref b17), .val (.int (own_join (own_ch3 (own_ln p1) r_2 r_3) (own_ch3 (own_ln p2) r_5 r_6) (own_ch3 (own_ln p3) r_8 r_9) (own_ch3 (own_ln p4) r_11 r_12))), .val (.int (1 : Int32)), .val (.int (0 : Int32)), .unset] [(.int (1 : Int32))]))) (fun t k => XS.iload X38.here hx rfl (hb hby at_291) rfl k) ?_
        refine own_fw (A' := (T38.setTop (mkF m 301 #[.val (.int p1), .val (.int p2), .val (.int p3), .val (.int p4), .val (.int p5), .val (.int cx), .val (.int cy), .val (.int (own_ln p1)), .val (.int r_2), .val (.int r_3), .val (.int (own_ln p2)), .val (.int r_5), .val (.int r_6), .val (.int (own_ln p3)), .val (.int r_8), .val (.int r_9), .val (.int (own_ln p4)), .val (.int r_11), .val (.int r_12), .val (.ref b_13), .val (.ref b_14), .val (.ref b_15), .val (.ref b_16), .val (.ref b17), .val (.int (own_join (own_ch3 (own_ln p1) r_2 r_3) (own_ch3 (own_ln p2) r_5 r_6) (own_ch3 (own_ln p3) r_8 r_9) (own_ch3 (own_ln p4) r_11 r_12))), .val (.int (1 : Int32)), .val (.int (0 : Int32)), .unset] []))) (fun t k => XS.ifYes X38.here hx rfl (pc0 := 293) (pc' := 301) rfl (hb hby at_293) rfl (XT.i0_ne_t (by decide)) (by decide) (by decide) k) ?_
        refine own_fw (A' := (T38.setTop (mkF m 302 #[.val (.int p1), .val (.int p2), .val (.int p3), .val (.int p4), .val (.int p5), .val (.int cx), .val (.int cy), .val (.int (own_ln p1)), .val (.int r_2), .val (.int r_3), .val (.int (own_ln p2)), .val (.int r_5), .val (.int r_6), .val (.int (own_ln p3)), .val (.int r_8), .val (.int r_9), .val (.int (own_ln p4)), .val (.int r_11), .val (.int r_12), .val (.ref b_13), .val (.ref b_14), .val (.ref b_15), .val (.ref b_16), .val (.ref b17), .val (.int (own_join (own_ch3 (own_ln p1) r_2 r_3) (own_ch3 (own_ln p2) r_5 r_6) (own_ch3 (own_ln p3) r_8 r_9) (own_ch3 (own_ln p4) r_11 r_12))), .val (.int (1 : Int32)), .val (.int (0 : Int32)), .unset] [(.int (1 : Int32))]))) (fun t k => XS.iconst X38.here hx rfl (hb hby at_301) k) ?_
        refine own_fw (A' := (T38.setTop (mkF m 306 #[.val (.int p1), .val (.int p2), .val (.int p3), .val (.int p4), .val (.int p5), .val (.int cx), .val (.int cy), .val (.int (own_ln p1)), .val (.int r_2), .val (.int r_3), .val (.int (own_ln p2)), .val (.int r_5), .val (.int r_6), .val (.int (own_ln p3)), .val (.int r_8), .val (.int r_9), .val (.int (own_ln p4)), .val (.int r_11), .val (.int r_12), .val (.ref b_13), .val (.ref b_14), .val (.ref b_15), .val (.ref b_16), .val (.ref b17), .val (.int (own_join (own_ch3 (own_ln p1) r_2 r_3) (own_ch3 (own_ln p2) r_5 r_6) (own_ch3 (own_ln p3) r_8 r_9) (own_ch3 (own_ln p4) r_11 r_12))), .val (.int (1 : Int32)), .val (.int (0 : Int32)), .unset] [(.int (1 : Int32))]))) (fun t k => XS.goto X38.here hx rfl (pc0 := 302) (pc' := 306) rfl (hb hby at_302) (by decide) (by decide) k) ?_
        refine own_fw (A' := (T38.setTop (mkF m 308 #[.val (.int p1), .val (.int p2), .val (.int p3), .val (.int p4), .val (.int p5), .val (.int cx), .val (.int cy), .val (.int (own_ln p1)), .val (.int r_2), .val (.int r_3), .val (.int (own_ln p2)), .val (.int r_5), .val (.int r_6), .val (.int (own_ln p3)), .val (.int r_8), .val (.int r_9), .val (.int (own_ln p4)), .val (.int r_11), .val (.int r_12), .val (.ref b_13), .val (.ref b_14), .val (.ref b_15), .val (.ref b_16), .val (.ref b17), .val (.int (own_join (own_ch3 (own_ln p1) r_2 r_3) (own_ch3 (own_ln p2) r_5 r_6) (own_ch3 (own_ln p3) r_8 r_9) (own_ch3 (own_ln p4) r_11 r_12))), .val (.int (1 : Int32)), .val (.int (0 : Int32)), .val (.int (1 : Int32))] []))) (fun t k => XS.istore X38.here hx rfl (hb hby at_306) rfl (l' := #[.val (.int p1), .val (.int p2), .val (.int p3), .val (.int p4), .val (.int p5), .val (.int cx), .val (.int cy), .val (.int (own_ln p1)), .val (.int r_2), .val (.int r_3), .val (.int (own_ln p2)), .val (.int r_5), .val (.int r_6), .val (.int (own_ln p3)), .val (.int r_8), .val (.int r_9), .val (.int (own_ln p4)), .val (.int r_11), .val (.int r_12), .val (.ref b_13), .val (.ref b_14), .val (.ref b_15), .val (.ref b_16), .val (.ref b17), .val (.int (own_join (own_ch3 (own_ln p1) r_2 r_3) (own_ch3 (own_ln p2) r_5 r_6) (own_ch3 (own_ln p3) r_8 r_9) (own_ch3 (own_ln p4) r_11 r_12))), .val (.int (1 : Int32)), .val (.int (0 : Int32)), .val (.int (1 : Int32))]) rfl k) ?_
        refine own_fw (A' := (T38.setTop (mkF m 310 #[.val (.int p1), .val (.int p2), .val (.int p3), .val (.int p4), .val (.int p5), .val (.int cx), .val (.int cy), .val (.int (own_ln p1)), .val (.int r_2), .val (.int r_3), .val (.int (own_ln p2)), .val (.int r_5), .val (.int r_6), .val (.int (own_ln p3)), .val (.int r_8), .val (.int r_9), .val (.int (own_ln p4)), .val (.int r_11), .val (.int r_12), .val (.ref b_13), .val (.ref b_14), .val (.ref b_15), .val (.ref b_16), .val (.ref b17), .val (.int (own_join (own_ch3 (own_ln p1) r_2 r_3) (own_ch3 (own_ln p2) r_5 r_6) (own_ch3 (own_ln p3) r_8 r_9) (own_ch3 (own_ln p4) r_11 r_12))), .val (.int (1 : Int32)), .val (.int (0 : Int32)), .val (.int (1 : Int32))] [(.int (own_join (own_ch3 (own_ln p1) r_2 r_3) (own_ch3 (own_ln p2) r_5 r_6) (own_ch3 (own_ln p3) r_8 r_9) (own_ch3 (own_ln p4) r_11 r_12)))]))) (fun t k => XS.iload X38.here hx rfl (hb hby at_308) rfl k) ?_
        refine own_fw (A' := (T38.setTop (mkF m 312 #[.val (.int p1), .val (.int p2), .val (.int p3), .val (.int p4), .val (.int p5), .val (.int cx), .val (.int cy), .val (.int (own_ln p1)), .val (.int r_2), .val (.int r_3), .val (.int (own_ln p2)), .val (.int r_5), .val (.int r_6), .val (.int (own_ln p3)), .val (.int r_8), .val (.int r_9), .val (.int (own_ln p4)), .val (.int r_11), .val (.int r_12), .val (.ref b_13), .val (.ref b_14), .val (.ref b_15), .val (.ref b_16), .val (.ref b17), .val (.int (own_join (own_ch3 (own_ln p1) r_2 r_3) (own_ch3 (own_ln p2) r_5 r_6) (own_ch3 (own_ln p3) r_8 r_9) (own_ch3 (own_ln p4) r_11 r_12))), .val (.int (1 : Int32)), .val (.int (0 : Int32)), .val (.int (1 : Int32))] [(.int (1 : Int32)), (.int (own_join (own_ch3 (own_ln p1) r_2 r_3) (own_ch3 (own_ln p2) r_5 r_6) (own_ch3 (own_ln p3) r_8 r_9) (own_ch3 (own_ln p4) r_11 r_12)))]))) (fun t k => XS.iload X38.here hx rfl (hb hby at_310) rfl k) ?_
        refine own_fw (A' := (T38.setTop (mkF m 315 #[.val (.int p1), .val (.int p2), .val (.int p3), .val (.int p4), .val (.int p5), .val (.int cx), .val (.int cy), .val (.int (own_ln p1)), .val (.int r_2), .val (.int r_3), .val (.int (own_ln p2)), .val (.int r_5), .val (.int r_6), .val (.int (own_ln p3)), .val (.int r_8), .val (.int r_9), .val (.int (own_ln p4)), .val (.int r_11), .val (.int r_12), .val (.ref b_13), .val (.ref b_14), .val (.ref b_15), .val (.ref b_16), .val (.ref b17), .val (.int (own_join (own_ch3 (own_ln p1) r_2 r_3) (own_ch3 (own_ln p2) r_5 r_6) (own_ch3 (own_ln p3) r_8 r_9) (own_ch3 (own_ln p4) r_11 r_12))), .val (.int (1 : Int32)), .val (.int (0 : Int32)), .val (.int (1 : Int32))] []))) (fun t k => XS.icmpNo X38.here hx rfl (hb hby at_312) rfl (XT.ii_ne_f (by simp only [own_join, own_jt, if_neg (own_qn hc27), if_neg (own_qn hc33), if_pos (own_q hc39)])) k) ?_
        refine own_fw (A' := (T38.setTop (mkF m 316 #[.val (.int p1), .val (.int p2), .val (.int p3), .val (.int p4), .val (.int p5), .val (.int cx), .val (.int cy), .val (.int (own_ln p1)), .val (.int r_2), .val (.int r_3), .val (.int (own_ln p2)), .val (.int r_5), .val (.int r_6), .val (.int (own_ln p3)), .val (.int r_8), .val (.int r_9), .val (.int (own_ln p4)), .val (.int r_11), .val (.int r_12), .val (.ref b_13), .val (.ref b_14), .val (.ref b_15), .val (.ref b_16), .val (.ref b17), .val (.int (own_join (own_ch3 (own_ln p1) r_2 r_3) (own_ch3 (own_ln p2) r_5 r_6) (own_ch3 (own_ln p3) r_8 r_9) (own_ch3 (own_ln p4) r_11 r_12))), .val (.int (1 : Int32)), .val (.int (0 : Int32)), .val (.int (1 : Int32))] [(.int (1 : Int32))]))) (fun t k => XS.iconst X38.here hx rfl (hb hby at_315) k) ?_
        refine own_fw (A' := (T38.setTop (mkF m 320 #[.val (.int p1), .val (.int p2), .val (.int p3), .val (.int p4), .val (.int p5), .val (.int cx), .val (.int cy), .val (.int (own_ln p1)), .val (.int r_2), .val (.int r_3), .val (.int (own_ln p2)), .val (.int r_5), .val (.int r_6), .val (.int (own_ln p3)), .val (.int r_8), .val (.int r_9), .val (.int (own_ln p4)), .val (.int r_11), .val (.int r_12), .val (.ref b_13), .val (.ref b_14), .val (.ref b_15), .val (.ref b_16), .val (.ref b17), .val (.int (own_join (own_ch3 (own_ln p1) r_2 r_3) (own_ch3 (own_ln p2) r_5 r_6) (own_ch3 (own_ln p3) r_8 r_9) (own_ch3 (own_ln p4) r_11 r_12))), .val (.int (1 : Int32)), .val (.int (0 : Int32)), .val (.int (1 : Int32))] [(.int (1 : Int32))]))) (fun t k => XS.goto X38.here hx rfl (pc0 := 316) (pc' := 320) rfl (hb hby at_316) (by decide) (by decide) k) ?_
        obtain ⟨fs, hr, hrun, hended, hWE⟩ := X38.leaveW hS (by rw [e38]; exact hk : _ ≤ T38.heap.size) (v := some (.int (1 : Int32))) (fun h => by rw [Bd.returns] at h; cases h)
        refine ⟨_, _, ?_, hrun, hended, _, _, rfl, ?_, own_widen hWE (by decide) (by decide)⟩
        · exact retOut X38 hx Bd.returns rfl (Or.inl ⟨rfl, by simp, _, rfl⟩) (hb hby at_320) hr
        · show Q_rm0 Z p1 p2 p3 p4 p5 cs h0 n0 _ T38.heap _
          rw [e38]
          exact ⟨rfl, Nf38⟩
      · refine own_fw (A' := (T38.setTop (mkF m 266 #[.val (.int p1), .val (.int p2), .val (.int p3), .val (.int p4), .val (.int p5), .val (.int cx), .val (.int cy), .val (.int (own_ln p1)), .val (.int r_2), .val (.int r_3), .val (.int (own_ln p2)), .val (.int r_5), .val (.int r_6), .val (.int (own_ln p3)), .val (.int r_8), .val (.int r_9), .val (.int (own_ln p4)), .val (.int r_11), .val (.int r_12), .val (.ref b_13), .val (.ref b_14), .val (.ref b_15), .val (.ref b_16), .val (.ref b17), .val (.int (own_join (own_ch3 (own_ln p1) r_2 r_3) (own_ch3 (own_ln p2) r_5 r_6) (own_ch3 (own_ln p3) r_8 r_9) (own_ch3 (own_ln p4) r_11 r_12))), .val (.int (1 : Int32)), .unset, .unset] []))) (fun t k => XS.ifNo X38.here hx rfl (hb hby at_263) rfl (XT.i0_eq_f hc39) k) ?_
        refine own_fw (A' := (T38.setTop (mkF m 268 #[.val (.int p1), .val (.int p2), .val (.int p3), .val (.int p4), .val (.int p5), .val (.int cx), .val (.int cy), .val (.int (own_ln p1)), .val (.int r_2), .val (.int r_3), .val (.int (own_ln p2)), .val (.int r_5), .val (.int r_6), .val (.int (own_ln p3)), .val (.int r_8), .val (.int r_9), .val (.int (own_ln p4)), .val (.int r_11), .val (.int r_12), .val (.ref b_13), .val (.ref b_14), .val (.ref b_15), .val (.ref b_16), .val (.ref b17), .val (.int (own_join (own_ch3 (own_ln p1) r_2 r_3) (own_ch3 (own_ln p2) r_5 r_6) (own_ch3 (own_ln p3) r_8 r_9) (own_ch3 (own_ln p4) r_11 r_12))), .val (.int (1 : Int32)), .unset, .unset] [(.int (own_ln p4))]))) (fun t k => XS.iload X38.here hx rfl (hb hby at_266) rfl k) ?_
        refine own_fw (A' := (T38.setTop (mkF m 270 #[.val (.int p1), .val (.int p2), .val (.int p3), .val (.int p4), .val (.int p5), .val (.int cx), .val (.int cy), .val (.int (own_ln p1)), .val (.int r_2), .val (.int r_3), .val (.int (own_ln p2)), .val (.int r_5), .val (.int r_6), .val (.int (own_ln p3)), .val (.int r_8), .val (.int r_9), .val (.int (own_ln p4)), .val (.int r_11), .val (.int r_12), .val (.ref b_13), .val (.ref b_14), .val (.ref b_15), .val (.ref b_16), .val (.ref b17), .val (.int (own_join (own_ch3 (own_ln p1) r_2 r_3) (own_ch3 (own_ln p2) r_5 r_6) (own_ch3 (own_ln p3) r_8 r_9) (own_ch3 (own_ln p4) r_11 r_12))), .val (.int (1 : Int32)), .unset, .unset] [(.int r_11), (.int (own_ln p4))]))) (fun t k => XS.iload X38.here hx rfl (hb hby at_268) rfl k) ?_
        refine own_fw (A' := (T38.setTop (mkF m 272 #[.val (.int p1), .val (.int p2), .val (.int p3), .val (.int p4), .val (.int p5), .val (.int cx), .val (.int cy), .val (.int (own_ln p1)), .val (.int r_2), .val (.int r_3), .val (.int (own_ln p2)), .val (.int r_5), .val (.int r_6), .val (.int (own_ln p3)), .val (.int r_8), .val (.int r_9), .val (.int (own_ln p4)), .val (.int r_11), .val (.int r_12), .val (.ref b_13), .val (.ref b_14), .val (.ref b_15), .val (.ref b_16), .val (.ref b17), .val (.int (own_join (own_ch3 (own_ln p1) r_2 r_3) (own_ch3 (own_ln p2) r_5 r_6) (own_ch3 (own_ln p3) r_8 r_9) (own_ch3 (own_ln p4) r_11 r_12))), .val (.int (1 : Int32)), .unset, .unset] [(.int r_12), (.int r_11), (.int (own_ln p4))]))) (fun t k => XS.iload X38.here hx rfl (hb hby at_270) rfl k) ?_
        refine own_fw (A' := (T38.setTop (mkF m 274 #[.val (.int p1), .val (.int p2), .val (.int p3), .val (.int p4), .val (.int p5), .val (.int cx), .val (.int cy), .val (.int (own_ln p1)), .val (.int r_2), .val (.int r_3), .val (.int (own_ln p2)), .val (.int r_5), .val (.int r_6), .val (.int (own_ln p3)), .val (.int r_8), .val (.int r_9), .val (.int (own_ln p4)), .val (.int r_11), .val (.int r_12), .val (.ref b_13), .val (.ref b_14), .val (.ref b_15), .val (.ref b_16), .val (.ref b17), .val (.int (own_join (own_ch3 (own_ln p1) r_2 r_3) (own_ch3 (own_ln p2) r_5 r_6) (own_ch3 (own_ln p3) r_8 r_9) (own_ch3 (own_ln p4) r_11 r_12))), .val (.int (1 : Int32)), .unset, .unset] [(.int (own_ln p1)), (.int r_12), (.int r_11), (.int (own_ln p4))]))) (fun t k => XS.iload X38.here hx rfl (hb hby at_272) rfl k) ?_
        refine own_fw (A' := (T38.setTop (mkF m 276 #[.val (.int p1), .val (.int p2), .val (.int p3), .val (.int p4), .val (.int p5), .val (.int cx), .val (.int cy), .val (.int (own_ln p1)), .val (.int r_2), .val (.int r_3), .val (.int (own_ln p2)), .val (.int r_5), .val (.int r_6), .val (.int (own_ln p3)), .val (.int r_8), .val (.int r_9), .val (.int (own_ln p4)), .val (.int r_11), .val (.int r_12), .val (.ref b_13), .val (.ref b_14), .val (.ref b_15), .val (.ref b_16), .val (.ref b17), .val (.int (own_join (own_ch3 (own_ln p1) r_2 r_3) (own_ch3 (own_ln p2) r_5 r_6) (own_ch3 (own_ln p3) r_8 r_9) (own_ch3 (own_ln p4) r_11 r_12))), .val (.int (1 : Int32)), .unset, .unset] [(.int r_2), (.int (own_ln p1)), (.int r_12), (.int r_11), (.int (own_ln p4))]))) (fun t k => XS.iload X38.here hx rfl (hb hby at_274) rfl k) ?_
        refine own_fw (A' := (T38.setTop (mkF m 278 #[.val (.int p1), .val (.int p2), .val (.int p3), .val (.int p4), .val (.int p5), .val (.int cx), .val (.int cy), .val (.int (own_ln p1)), .val (.int r_2), .val (.int r_3), .val (.int (own_ln p2)), .val (.int r_5), .val (.int r_6), .val (.int (own_ln p3)), .val (.int r_8), .val (.int r_9), .val (.int (own_ln p4)), .val (.int r_11), .val (.int r_12), .val (.ref b_13), .val (.ref b_14), .val (.ref b_15), .val (.ref b_16), .val (.ref b17), .val (.int (own_join (own_ch3 (own_ln p1) r_2 r_3) (own_ch3 (own_ln p2) r_5 r_6) (own_ch3 (own_ln p3) r_8 r_9) (own_ch3 (own_ln p4) r_11 r_12))), .val (.int (1 : Int32)), .unset, .unset] [(.int r_3), (.int r_2), (.int (own_ln p1)), (.int r_12), (.int r_11), (.int (own_ln p4))]))) (fun t k => XS.iload X38.here hx rfl (hb hby at_276) rfl k) ?_
        obtain ⟨_, _, ⟨T40, L40, k40, n40⟩, -, X40, ⟨Lc40, hQ40, l40, y40, z40⟩, st40⟩ := Jvm.LawKit.callS X38 hx (y := (⟨"com/example/kodnik/kodnik/store/MappingJoinsPinLaw", "eq", "(ICCICC)Z"⟩ : MethodName)) hown (mvT hZ (hw _ (List.mem_of_getElem? (i := 80) rfl))) (mvT hZ (hw _ (List.mem_of_getElem? (i := 81) rfl))) (mvT hZ (hw _ (List.mem_of_getElem? (i := 2) rfl))) (mvT hZ (hw _ (List.mem_of_getElem? (i := 82) rfl))) (by decide) (backOf (W := 0) (rmE3 l Z a0 hw [] (own_ln p4) r_11 r_12 (own_ln p1) r_2 r_3 T23.heap n0 Z23 ) hZ (hw _ (List.mem_of_getElem? (i := 82) rfl)) (hw _ (List.mem_of_getElem? (i := 2) rfl)) (by decide) (by decide)) (g := (mkF m 278 #[.val (.int p1), .val (.int p2), .val (.int p3), .val (.int p4), .val (.int p5), .val (.int cx), .val (.int cy), .val (.int (own_ln p1)), .val (.int r_2), .val (.int r_3), .val (.int (own_ln p2)), .val (.int r_5), .val (.int r_6), .val (.int (own_ln p3)), .val (.int r_8), .val (.int r_9), .val (.int (own_ln p4)), .val (.int r_11), .val (.int r_12), .val (.ref b_13), .val (.ref b_14), .val (.ref b_15), .val (.ref b_16), .val (.ref b17), .val (.int (own_join (own_ch3 (own_ln p1) r_2 r_3) (own_ch3 (own_ln p2) r_5 r_6) (own_ch3 (own_ln p3) r_8 r_9) (own_ch3 (own_ln p4) r_11 r_12))), .val (.int (1 : Int32)), .unset, .unset] [(.int r_3), (.int r_2), (.int (own_ln p1)), (.int r_12), (.int r_11), (.int (own_ln p4))])) rfl (by rw [hml]; rfl) (argsL := [(.int (own_ln p4)), (.int r_11), (.int r_12), (.int (own_ln p1)), (.int r_2), (.int r_3)]) (rest := []) (lenOf pd__ICCICC_Z rfl) rfl (by show 2 * 0 + _ ≤ _; exact Nat.le_of_eq rfl) (hb hby at_278) (fun _ _ => ⟨rfl, e38, (by decide : 29 + 0 ≤ _), (by decide : 84 + 0 ≤ _)⟩)
        dsimp only [Pt.U, Pt.locs, Pt.cells, Pt.slots] at X40 l40 y40 z40 st40 hQ40
        subst l40 y40 z40
        obtain ⟨rfl, Nq40, e40⟩ := hQ40
        have Nf40 := Fr.app Nf38 Nq40
        refine own_fw (A' := (T40.setTop (mkF m 281 #[.val (.int p1), .val (.int p2), .val (.int p3), .val (.int p4), .val (.int p5), .val (.int cx), .val (.int cy), .val (.int (own_ln p1)), .val (.int r_2), .val (.int r_3), .val (.int (own_ln p2)), .val (.int r_5), .val (.int r_6), .val (.int (own_ln p3)), .val (.int r_8), .val (.int r_9), .val (.int (own_ln p4)), .val (.int r_11), .val (.int r_12), .val (.ref b_13), .val (.ref b_14), .val (.ref b_15), .val (.ref b_16), .val (.ref b17), .val (.int (own_join (own_ch3 (own_ln p1) r_2 r_3) (own_ch3 (own_ln p2) r_5 r_6) (own_ch3 (own_ln p3) r_8 r_9) (own_ch3 (own_ln p4) r_11 r_12))), .val (.int (1 : Int32)), .unset, .unset] [(.int (own_eq3 (own_ln p4) r_11 r_12 (own_ln p1) r_2 r_3))]))) (fun t k => st40 _ k) ?_
        by_cases hc41 : (own_eq3 (own_ln p4) r_11 r_12 (own_ln p1) r_2 r_3) = (0 : Int32)
        · refine own_fw (A' := (T40.setTop (mkF m 288 #[.val (.int p1), .val (.int p2), .val (.int p3), .val (.int p4), .val (.int p5), .val (.int cx), .val (.int cy), .val (.int (own_ln p1)), .val (.int r_2), .val (.int r_3), .val (.int (own_ln p2)), .val (.int r_5), .val (.int r_6), .val (.int (own_ln p3)), .val (.int r_8), .val (.int r_9), .val (.int (own_ln p4)), .val (.int r_11), .val (.int r_12), .val (.ref b_13), .val (.ref b_14), .val (.ref b_15), .val (.ref b_16), .val (.ref b17), .val (.int (own_join (own_ch3 (own_ln p1) r_2 r_3) (own_ch3 (own_ln p2) r_5 r_6) (own_ch3 (own_ln p3) r_8 r_9) (own_ch3 (own_ln p4) r_11 r_12))), .val (.int (1 : Int32)), .unset, .unset] []))) (fun t k => XS.ifYes X40.here hx rfl (pc0 := 281) (pc' := 288) rfl (hb hby at_281) rfl (XT.i0_eq_t hc41) (by decide) (by decide) k) ?_
          refine own_fw (A' := (T40.setTop (mkF m 289 #[.val (.int p1), .val (.int p2), .val (.int p3), .val (.int p4), .val (.int p5), .val (.int cx), .val (.int cy), .val (.int (own_ln p1)), .val (.int r_2), .val (.int r_3), .val (.int (own_ln p2)), .val (.int r_5), .val (.int r_6), .val (.int (own_ln p3)), .val (.int r_8), .val (.int r_9), .val (.int (own_ln p4)), .val (.int r_11), .val (.int r_12), .val (.ref b_13), .val (.ref b_14), .val (.ref b_15), .val (.ref b_16), .val (.ref b17), .val (.int (own_join (own_ch3 (own_ln p1) r_2 r_3) (own_ch3 (own_ln p2) r_5 r_6) (own_ch3 (own_ln p3) r_8 r_9) (own_ch3 (own_ln p4) r_11 r_12))), .val (.int (1 : Int32)), .unset, .unset] [(.int (0 : Int32))]))) (fun t k => XS.iconst X40.here hx rfl (hb hby at_288) k) ?_
          refine own_fw (A' := (T40.setTop (mkF m 291 #[.val (.int p1), .val (.int p2), .val (.int p3), .val (.int p4), .val (.int p5), .val (.int cx), .val (.int cy), .val (.int (own_ln p1)), .val (.int r_2), .val (.int r_3), .val (.int (own_ln p2)), .val (.int r_5), .val (.int r_6), .val (.int (own_ln p3)), .val (.int r_8), .val (.int r_9), .val (.int (own_ln p4)), .val (.int r_11), .val (.int r_12), .val (.ref b_13), .val (.ref b_14), .val (.ref b_15), .val (.ref b_16), .val (.ref b17), .val (.int (own_join (own_ch3 (own_ln p1) r_2 r_3) (own_ch3 (own_ln p2) r_5 r_6) (own_ch3 (own_ln p3) r_8 r_9) (own_ch3 (own_ln p4) r_11 r_12))), .val (.int (1 : Int32)), .val (.int (0 : Int32)), .unset] []))) (fun t k => XS.istore X40.here hx rfl (hb hby at_289) rfl (l' := #[.val (.int p1), .val (.int p2), .val (.int p3), .val (.int p4), .val (.int p5), .val (.int cx), .val (.int cy), .val (.int (own_ln p1)), .val (.int r_2), .val (.int r_3), .val (.int (own_ln p2)), .val (.int r_5), .val (.int r_6), .val (.int (own_ln p3)), .val (.int r_8), .val (.int r_9), .val (.int (own_ln p4)), .val (.int r_11), .val (.int r_12), .val (.ref b_13), .val (.ref b_14), .val (.ref b_15), .val (.ref b_16), .val (.ref b17), .val (.int (own_join (own_ch3 (own_ln p1) r_2 r_3) (own_ch3 (own_ln p2) r_5 r_6) (own_ch3 (own_ln p3) r_8 r_9) (own_ch3 (own_ln p4) r_11 r_12))), .val (.int (1 : Int32)), .val (.int (0 : Int32)), .unset]) rfl k) ?_
          refine own_fw (A' := (T40.setTop (mkF m 293 #[.val (.int p1), .val (.int p2), .val (.int p3), .val (.int p4), .val (.int p5), .val (.int cx), .val (.int cy), .val (.int (own_ln p1)), .val (.int r_2), .val (.int r_3), .val (.int (own_ln p2)), .val (.int r_5), .val (.int r_6), .val (.int (own_ln p3)), .val (.int r_8), .val (.int r_9), .val (.int (own_ln p4)), .val (.int r_11), .val (.int r_12), .val (.ref b_13), .val (.ref b_14), .val (.ref b_15), .val (.ref b_16), .val (.ref b17), .val (.int (own_join (own_ch3 (own_ln p1) r_2 r_3) (own_ch3 (own_ln p2) r_5 r_6) (own_ch3 (own_ln p3) r_8 r_9) (own_ch3 (own_ln p4) r_11 r_12))), .val (.int (1 : Int32)), .val (.int (0 : Int32)), .unset] [(.int (1 : Int32))]))) (fun t k => XS.iload X40.here hx rfl (hb hby at_291) rfl k) ?_
          refine own_fw (A' := (T40.setTop (mkF m 301 #[.val (.int p1), .val (.int p2), .val (.int p3), .val (.int p4), .val (.int p5), .val (.int cx), .val (.int cy), .val (.int (own_ln p1)), .val (.int r_2), .val (.int r_3), .val (.int (own_ln p2)), .val (.int r_5), .val (.int r_6), .val (.int (own_ln p3)), .val (.int r_8), .val (.int r_9), .val (.int (own_ln p4)), .val (.int r_11), .val (.int r_12), .val (.ref b_13), .val (.ref b_14), .val (.ref b_15), .val (.ref b_16), .val (.ref b17), .val (.int (own_join (own_ch3 (own_ln p1) r_2 r_3) (own_ch3 (own_ln p2) r_5 r_6) (own_ch3 (own_ln p3) r_8 r_9) (own_ch3 (own_ln p4) r_11 r_12))), .val (.int (1 : Int32)), .val (.int (0 : Int32)), .unset] []))) (fun t k => XS.ifYes X40.here hx rfl (pc0 := 293) (pc' := 301) rfl (hb hby at_293) rfl (XT.i0_ne_t (by decide)) (by decide) (by decide) k) ?_
          refine own_fw (A' := (T40.setTop (mkF m 302 #[.val (.int p1), .val (.int p2), .val (.int p3), .val (.int p4), .val (.int p5), .val (.int cx), .val (.int cy), .val (.int (own_ln p1)), .val (.int r_2), .val (.int r_3), .val (.int (own_ln p2)), .val (.int r_5), .val (.int r_6), .val (.int (own_ln p3)), .val (.int r_8), .val (.int r_9), .val (.int (own_ln p4)), .val (.int r_11), .val (.int r_12), .val (.ref b_13), .val (.ref b_14), .val (.ref b_15), .val (.ref b_16), .val (.ref b17), .val (.int (own_join (own_ch3 (own_ln p1) r_2 r_3) (own_ch3 (own_ln p2) r_5 r_6) (own_ch3 (own_ln p3) r_8 r_9) (own_ch3 (own_ln p4) r_11 r_12))), .val (.int (1 : Int32)), .val (.int (0 : Int32)), .unset] [(.int (1 : Int32))]))) (fun t k => XS.iconst X40.here hx rfl (hb hby at_301) k) ?_
          refine own_fw (A' := (T40.setTop (mkF m 306 #[.val (.int p1), .val (.int p2), .val (.int p3), .val (.int p4), .val (.int p5), .val (.int cx), .val (.int cy), .val (.int (own_ln p1)), .val (.int r_2), .val (.int r_3), .val (.int (own_ln p2)), .val (.int r_5), .val (.int r_6), .val (.int (own_ln p3)), .val (.int r_8), .val (.int r_9), .val (.int (own_ln p4)), .val (.int r_11), .val (.int r_12), .val (.ref b_13), .val (.ref b_14), .val (.ref b_15), .val (.ref b_16), .val (.ref b17), .val (.int (own_join (own_ch3 (own_ln p1) r_2 r_3) (own_ch3 (own_ln p2) r_5 r_6) (own_ch3 (own_ln p3) r_8 r_9) (own_ch3 (own_ln p4) r_11 r_12))), .val (.int (1 : Int32)), .val (.int (0 : Int32)), .unset] [(.int (1 : Int32))]))) (fun t k => XS.goto X40.here hx rfl (pc0 := 302) (pc' := 306) rfl (hb hby at_302) (by decide) (by decide) k) ?_
          refine own_fw (A' := (T40.setTop (mkF m 308 #[.val (.int p1), .val (.int p2), .val (.int p3), .val (.int p4), .val (.int p5), .val (.int cx), .val (.int cy), .val (.int (own_ln p1)), .val (.int r_2), .val (.int r_3), .val (.int (own_ln p2)), .val (.int r_5), .val (.int r_6), .val (.int (own_ln p3)), .val (.int r_8), .val (.int r_9), .val (.int (own_ln p4)), .val (.int r_11), .val (.int r_12), .val (.ref b_13), .val (.ref b_14), .val (.ref b_15), .val (.ref b_16), .val (.ref b17), .val (.int (own_join (own_ch3 (own_ln p1) r_2 r_3) (own_ch3 (own_ln p2) r_5 r_6) (own_ch3 (own_ln p3) r_8 r_9) (own_ch3 (own_ln p4) r_11 r_12))), .val (.int (1 : Int32)), .val (.int (0 : Int32)), .val (.int (1 : Int32))] []))) (fun t k => XS.istore X40.here hx rfl (hb hby at_306) rfl (l' := #[.val (.int p1), .val (.int p2), .val (.int p3), .val (.int p4), .val (.int p5), .val (.int cx), .val (.int cy), .val (.int (own_ln p1)), .val (.int r_2), .val (.int r_3), .val (.int (own_ln p2)), .val (.int r_5), .val (.int r_6), .val (.int (own_ln p3)), .val (.int r_8), .val (.int r_9), .val (.int (own_ln p4)), .val (.int r_11), .val (.int r_12), .val (.ref b_13), .val (.ref b_14), .val (.ref b_15), .val (.ref b_16), .val (.ref b17), .val (.int (own_join (own_ch3 (own_ln p1) r_2 r_3) (own_ch3 (own_ln p2) r_5 r_6) (own_ch3 (own_ln p3) r_8 r_9) (own_ch3 (own_ln p4) r_11 r_12))), .val (.int (1 : Int32)), .val (.int (0 : Int32)), .val (.int (1 : Int32))]) rfl k) ?_
          refine own_fw (A' := (T40.setTop (mkF m 310 #[.val (.int p1), .val (.int p2), .val (.int p3), .val (.int p4), .val (.int p5), .val (.int cx), .val (.int cy), .val (.int (own_ln p1)), .val (.int r_2), .val (.int r_3), .val (.int (own_ln p2)), .val (.int r_5), .val (.int r_6), .val (.int (own_ln p3)), .val (.int r_8), .val (.int r_9), .val (.int (own_ln p4)), .val (.int r_11), .val (.int r_12), .val (.ref b_13), .val (.ref b_14), .val (.ref b_15), .val (.ref b_16), .val (.ref b17), .val (.int (own_join (own_ch3 (own_ln p1) r_2 r_3) (own_ch3 (own_ln p2) r_5 r_6) (own_ch3 (own_ln p3) r_8 r_9) (own_ch3 (own_ln p4) r_11 r_12))), .val (.int (1 : Int32)), .val (.int (0 : Int32)), .val (.int (1 : Int32))] [(.int (own_join (own_ch3 (own_ln p1) r_2 r_3) (own_ch3 (own_ln p2) r_5 r_6) (own_ch3 (own_ln p3) r_8 r_9) (own_ch3 (own_ln p4) r_11 r_12)))]))) (fun t k => XS.iload X40.here hx rfl (hb hby at_308) rfl k) ?_
          refine own_fw (A' := (T40.setTop (mkF m 312 #[.val (.int p1), .val (.int p2), .val (.int p3), .val (.int p4), .val (.int p5), .val (.int cx), .val (.int cy), .val (.int (own_ln p1)), .val (.int r_2), .val (.int r_3), .val (.int (own_ln p2)), .val (.int r_5), .val (.int r_6), .val (.int (own_ln p3)), .val (.int r_8), .val (.int r_9), .val (.int (own_ln p4)), .val (.int r_11), .val (.int r_12), .val (.ref b_13), .val (.ref b_14), .val (.ref b_15), .val (.ref b_16), .val (.ref b17), .val (.int (own_join (own_ch3 (own_ln p1) r_2 r_3) (own_ch3 (own_ln p2) r_5 r_6) (own_ch3 (own_ln p3) r_8 r_9) (own_ch3 (own_ln p4) r_11 r_12))), .val (.int (1 : Int32)), .val (.int (0 : Int32)), .val (.int (1 : Int32))] [(.int (1 : Int32)), (.int (own_join (own_ch3 (own_ln p1) r_2 r_3) (own_ch3 (own_ln p2) r_5 r_6) (own_ch3 (own_ln p3) r_8 r_9) (own_ch3 (own_ln p4) r_11 r_12)))]))) (fun t k => XS.iload X40.here hx rfl (hb hby at_310) rfl k) ?_
          refine own_fw (A' := (T40.setTop (mkF m 315 #[.val (.int p1), .val (.int p2), .val (.int p3), .val (.int p4), .val (.int p5), .val (.int cx), .val (.int cy), .val (.int (own_ln p1)), .val (.int r_2), .val (.int r_3), .val (.int (own_ln p2)), .val (.int r_5), .val (.int r_6), .val (.int (own_ln p3)), .val (.int r_8), .val (.int r_9), .val (.int (own_ln p4)), .val (.int r_11), .val (.int r_12), .val (.ref b_13), .val (.ref b_14), .val (.ref b_15), .val (.ref b_16), .val (.ref b17), .val (.int (own_join (own_ch3 (own_ln p1) r_2 r_3) (own_ch3 (own_ln p2) r_5 r_6) (own_ch3 (own_ln p3) r_8 r_9) (own_ch3 (own_ln p4) r_11 r_12))), .val (.int (1 : Int32)), .val (.int (0 : Int32)), .val (.int (1 : Int32))] []))) (fun t k => XS.icmpNo X40.here hx rfl (hb hby at_312) rfl (XT.ii_ne_f (by simp only [own_join, own_jt, if_neg (own_qn hc27), if_neg (own_qn hc33), if_neg (own_qn hc39), if_pos (own_q hc41)])) k) ?_
          refine own_fw (A' := (T40.setTop (mkF m 316 #[.val (.int p1), .val (.int p2), .val (.int p3), .val (.int p4), .val (.int p5), .val (.int cx), .val (.int cy), .val (.int (own_ln p1)), .val (.int r_2), .val (.int r_3), .val (.int (own_ln p2)), .val (.int r_5), .val (.int r_6), .val (.int (own_ln p3)), .val (.int r_8), .val (.int r_9), .val (.int (own_ln p4)), .val (.int r_11), .val (.int r_12), .val (.ref b_13), .val (.ref b_14), .val (.ref b_15), .val (.ref b_16), .val (.ref b17), .val (.int (own_join (own_ch3 (own_ln p1) r_2 r_3) (own_ch3 (own_ln p2) r_5 r_6) (own_ch3 (own_ln p3) r_8 r_9) (own_ch3 (own_ln p4) r_11 r_12))), .val (.int (1 : Int32)), .val (.int (0 : Int32)), .val (.int (1 : Int32))] [(.int (1 : Int32))]))) (fun t k => XS.iconst X40.here hx rfl (hb hby at_315) k) ?_
          refine own_fw (A' := (T40.setTop (mkF m 320 #[.val (.int p1), .val (.int p2), .val (.int p3), .val (.int p4), .val (.int p5), .val (.int cx), .val (.int cy), .val (.int (own_ln p1)), .val (.int r_2), .val (.int r_3), .val (.int (own_ln p2)), .val (.int r_5), .val (.int r_6), .val (.int (own_ln p3)), .val (.int r_8), .val (.int r_9), .val (.int (own_ln p4)), .val (.int r_11), .val (.int r_12), .val (.ref b_13), .val (.ref b_14), .val (.ref b_15), .val (.ref b_16), .val (.ref b17), .val (.int (own_join (own_ch3 (own_ln p1) r_2 r_3) (own_ch3 (own_ln p2) r_5 r_6) (own_ch3 (own_ln p3) r_8 r_9) (own_ch3 (own_ln p4) r_11 r_12))), .val (.int (1 : Int32)), .val (.int (0 : Int32)), .val (.int (1 : Int32))] [(.int (1 : Int32))]))) (fun t k => XS.goto X40.here hx rfl (pc0 := 316) (pc' := 320) rfl (hb hby at_316) (by decide) (by decide) k) ?_
          obtain ⟨fs, hr, hrun, hended, hWE⟩ := X40.leaveW hS (by rw [e40]; exact hk : _ ≤ T40.heap.size) (v := some (.int (1 : Int32))) (fun h => by rw [Bd.returns] at h; cases h)
          refine ⟨_, _, ?_, hrun, hended, _, _, rfl, ?_, own_widen hWE (by decide) (by decide)⟩
          · exact retOut X40 hx Bd.returns rfl (Or.inl ⟨rfl, by simp, _, rfl⟩) (hb hby at_320) hr
          · show Q_rm0 Z p1 p2 p3 p4 p5 cs h0 n0 _ T40.heap _
            rw [e40]
            exact ⟨rfl, Nf40⟩
        · refine own_fw (A' := (T40.setTop (mkF m 284 #[.val (.int p1), .val (.int p2), .val (.int p3), .val (.int p4), .val (.int p5), .val (.int cx), .val (.int cy), .val (.int (own_ln p1)), .val (.int r_2), .val (.int r_3), .val (.int (own_ln p2)), .val (.int r_5), .val (.int r_6), .val (.int (own_ln p3)), .val (.int r_8), .val (.int r_9), .val (.int (own_ln p4)), .val (.int r_11), .val (.int r_12), .val (.ref b_13), .val (.ref b_14), .val (.ref b_15), .val (.ref b_16), .val (.ref b17), .val (.int (own_join (own_ch3 (own_ln p1) r_2 r_3) (own_ch3 (own_ln p2) r_5 r_6) (own_ch3 (own_ln p3) r_8 r_9) (own_ch3 (own_ln p4) r_11 r_12))), .val (.int (1 : Int32)), .unset, .unset] []))) (fun t k => XS.ifNo X40.here hx rfl (hb hby at_281) rfl (XT.i0_eq_f hc41) k) ?_
          refine own_fw (A' := (T40.setTop (mkF m 285 #[.val (.int p1), .val (.int p2), .val (.int p3), .val (.int p4), .val (.int p5), .val (.int cx), .val (.int cy), .val (.int (own_ln p1)), .val (.int r_2), .val (.int r_3), .val (.int (own_ln p2)), .val (.int r_5), .val (.int r_6), .val (.int (own_ln p3)), .val (.int r_8), .val (.int r_9), .val (.int (own_ln p4)), .val (.int r_11), .val (.int r_12), .val (.ref b_13), .val (.ref b_14), .val (.ref b_15), .val (.ref b_16), .val (.ref b17), .val (.int (own_join (own_ch3 (own_ln p1) r_2 r_3) (own_ch3 (own_ln p2) r_5 r_6) (own_ch3 (own_ln p3) r_8 r_9) (own_ch3 (own_ln p4) r_11 r_12))), .val (.int (1 : Int32)), .unset, .unset] [(.int (1 : Int32))]))) (fun t k => XS.iconst X40.here hx rfl (hb hby at_284) k) ?_
          refine own_fw (A' := (T40.setTop (mkF m 289 #[.val (.int p1), .val (.int p2), .val (.int p3), .val (.int p4), .val (.int p5), .val (.int cx), .val (.int cy), .val (.int (own_ln p1)), .val (.int r_2), .val (.int r_3), .val (.int (own_ln p2)), .val (.int r_5), .val (.int r_6), .val (.int (own_ln p3)), .val (.int r_8), .val (.int r_9), .val (.int (own_ln p4)), .val (.int r_11), .val (.int r_12), .val (.ref b_13), .val (.ref b_14), .val (.ref b_15), .val (.ref b_16), .val (.ref b17), .val (.int (own_join (own_ch3 (own_ln p1) r_2 r_3) (own_ch3 (own_ln p2) r_5 r_6) (own_ch3 (own_ln p3) r_8 r_9) (own_ch3 (own_ln p4) r_11 r_12))), .val (.int (1 : Int32)), .unset, .unset] [(.int (1 : Int32))]))) (fun t k => XS.goto X40.here hx rfl (pc0 := 285) (pc' := 289) rfl (hb hby at_285) (by decide) (by decide) k) ?_
          refine own_fw (A' := (T40.setTop (mkF m 291 #[.val (.int p1), .val (.int p2), .val (.int p3), .val (.int p4), .val (.int p5), .val (.int cx), .val (.int cy), .val (.int (own_ln p1)), .val (.int r_2), .val (.int r_3), .val (.int (own_ln p2)), .val (.int r_5), .val (.int r_6), .val (.int (own_ln p3)), .val (.int r_8), .val (.int r_9), .val (.int (own_ln p4)), .val (.int r_11), .val (.int r_12), .val (.ref b_13), .val (.ref b_14), .val (.ref b_15), .val (.ref b_16), .val (.ref b17), .val (.int (own_join (own_ch3 (own_ln p1) r_2 r_3) (own_ch3 (own_ln p2) r_5 r_6) (own_ch3 (own_ln p3) r_8 r_9) (own_ch3 (own_ln p4) r_11 r_12))), .val (.int (1 : Int32)), .val (.int (1 : Int32)), .unset] []))) (fun t k => XS.istore X40.here hx rfl (hb hby at_289) rfl (l' := #[.val (.int p1), .val (.int p2), .val (.int p3), .val (.int p4), .val (.int p5), .val (.int cx), .val (.int cy), .val (.int (own_ln p1)), .val (.int r_2), .val (.int r_3), .val (.int (own_ln p2)), .val (.int r_5), .val (.int r_6), .val (.int (own_ln p3)), .val (.int r_8), .val (.int r_9), .val (.int (own_ln p4)), .val (.int r_11), .val (.int r_12), .val (.ref b_13), .val (.ref b_14), .val (.ref b_15), .val (.ref b_16), .val (.ref b17), .val (.int (own_join (own_ch3 (own_ln p1) r_2 r_3) (own_ch3 (own_ln p2) r_5 r_6) (own_ch3 (own_ln p3) r_8 r_9) (own_ch3 (own_ln p4) r_11 r_12))), .val (.int (1 : Int32)), .val (.int (1 : Int32)), .unset]) rfl k) ?_
          refine own_fw (A' := (T40.setTop (mkF m 293 #[.val (.int p1), .val (.int p2), .val (.int p3), .val (.int p4), .val (.int p5), .val (.int cx), .val (.int cy), .val (.int (own_ln p1)), .val (.int r_2), .val (.int r_3), .val (.int (own_ln p2)), .val (.int r_5), .val (.int r_6), .val (.int (own_ln p3)), .val (.int r_8), .val (.int r_9), .val (.int (own_ln p4)), .val (.int r_11), .val (.int r_12), .val (.ref b_13), .val (.ref b_14), .val (.ref b_15), .val (.ref b_16), .val (.ref b17), .val (.int (own_join (own_ch3 (own_ln p1) r_2 r_3) (own_ch3 (own_ln p2) r_5 r_6) (own_ch3 (own_ln p3) r_8 r_9) (own_ch3 (own_ln p4) r_11 r_12))), .val (.int (1 : Int32)), .val (.int (1 : Int32)), .unset] [(.int (1 : Int32))]))) (fun t k => XS.iload X40.here hx rfl (hb hby at_291) rfl k) ?_
          refine own_fw (A' := (T40.setTop (mkF m 301 #[.val (.int p1), .val (.int p2), .val (.int p3), .val (.int p4), .val (.int p5), .val (.int cx), .val (.int cy), .val (.int (own_ln p1)), .val (.int r_2), .val (.int r_3), .val (.int (own_ln p2)), .val (.int r_5), .val (.int r_6), .val (.int (own_ln p3)), .val (.int r_8), .val (.int r_9), .val (.int (own_ln p4)), .val (.int r_11), .val (.int r_12), .val (.ref b_13), .val (.ref b_14), .val (.ref b_15), .val (.ref b_16), .val (.ref b17), .val (.int (own_join (own_ch3 (own_ln p1) r_2 r_3) (own_ch3 (own_ln p2) r_5 r_6) (own_ch3 (own_ln p3) r_8 r_9) (own_ch3 (own_ln p4) r_11 r_12))), .val (.int (1 : Int32)), .val (.int (1 : Int32)), .unset] []))) (fun t k => XS.ifYes X40.here hx rfl (pc0 := 293) (pc' := 301) rfl (hb hby at_293) rfl (XT.i0_ne_t (by decide)) (by decide) (by decide) k) ?_
          refine own_fw (A' := (T40.setTop (mkF m 302 #[.val (.int p1), .val (.int p2), .val (.int p3), .val (.int p4), .val (.int p5), .val (.int cx), .val (.int cy), .val (.int (own_ln p1)), .val (.int r_2), .val (.int r_3), .val (.int (own_ln p2)), .val (.int r_5), .val (.int r_6), .val (.int (own_ln p3)), .val (.int r_8), .val (.int r_9), .val (.int (own_ln p4)), .val (.int r_11), .val (.int r_12), .val (.ref b_13), .val (.ref b_14), .val (.ref b_15), .val (.ref b_16), .val (.ref b17), .val (.int (own_join (own_ch3 (own_ln p1) r_2 r_3) (own_ch3 (own_ln p2) r_5 r_6) (own_ch3 (own_ln p3) r_8 r_9) (own_ch3 (own_ln p4) r_11 r_12))), .val (.int (1 : Int32)), .val (.int (1 : Int32)), .unset] [(.int (1 : Int32))]))) (fun t k => XS.iconst X40.here hx rfl (hb hby at_301) k) ?_
          refine own_fw (A' := (T40.setTop (mkF m 306 #[.val (.int p1), .val (.int p2), .val (.int p3), .val (.int p4), .val (.int p5), .val (.int cx), .val (.int cy), .val (.int (own_ln p1)), .val (.int r_2), .val (.int r_3), .val (.int (own_ln p2)), .val (.int r_5), .val (.int r_6), .val (.int (own_ln p3)), .val (.int r_8), .val (.int r_9), .val (.int (own_ln p4)), .val (.int r_11), .val (.int r_12), .val (.ref b_13), .val (.ref b_14), .val (.ref b_15), .val (.ref b_16), .val (.ref b17), .val (.int (own_join (own_ch3 (own_ln p1) r_2 r_3) (own_ch3 (own_ln p2) r_5 r_6) (own_ch3 (own_ln p3) r_8 r_9) (own_ch3 (own_ln p4) r_11 r_12))), .val (.int (1 : Int32)), .val (.int (1 : Int32)), .unset] [(.int (1 : Int32))]))) (fun t k => XS.goto X40.here hx rfl (pc0 := 302) (pc' := 306) rfl (hb hby at_302) (by decide) (by decide) k) ?_
          refine own_fw (A' := (T40.setTop (mkF m 308 #[.val (.int p1), .val (.int p2), .val (.int p3), .val (.int p4), .val (.int p5), .val (.int cx), .val (.int cy), .val (.int (own_ln p1)), .val (.int r_2), .val (.int r_3), .val (.int (own_ln p2)), .val (.int r_5), .val (.int r_6), .val (.int (own_ln p3)), .val (.int r_8), .val (.int r_9), .val (.int (own_ln p4)), .val (.int r_11), .val (.int r_12), .val (.ref b_13), .val (.ref b_14), .val (.ref b_15), .val (.ref b_16), .val (.ref b17), .val (.int (own_join (own_ch3 (own_ln p1) r_2 r_3) (own_ch3 (own_ln p2) r_5 r_6) (own_ch3 (own_ln p3) r_8 r_9) (own_ch3 (own_ln p4) r_11 r_12))), .val (.int (1 : Int32)), .val (.int (1 : Int32)), .val (.int (1 : Int32))] []))) (fun t k => XS.istore X40.here hx rfl (hb hby at_306) rfl (l' := #[.val (.int p1), .val (.int p2), .val (.int p3), .val (.int p4), .val (.int p5), .val (.int cx), .val (.int cy), .val (.int (own_ln p1)), .val (.int r_2), .val (.int r_3), .val (.int (own_ln p2)), .val (.int r_5), .val (.int r_6), .val (.int (own_ln p3)), .val (.int r_8), .val (.int r_9), .val (.int (own_ln p4)), .val (.int r_11), .val (.int r_12), .val (.ref b_13), .val (.ref b_14), .val (.ref b_15), .val (.ref b_16), .val (.ref b17), .val (.int (own_join (own_ch3 (own_ln p1) r_2 r_3) (own_ch3 (own_ln p2) r_5 r_6) (own_ch3 (own_ln p3) r_8 r_9) (own_ch3 (own_ln p4) r_11 r_12))), .val (.int (1 : Int32)), .val (.int (1 : Int32)), .val (.int (1 : Int32))]) rfl k) ?_
          refine own_fw (A' := (T40.setTop (mkF m 310 #[.val (.int p1), .val (.int p2), .val (.int p3), .val (.int p4), .val (.int p5), .val (.int cx), .val (.int cy), .val (.int (own_ln p1)), .val (.int r_2), .val (.int r_3), .val (.int (own_ln p2)), .val (.int r_5), .val (.int r_6), .val (.int (own_ln p3)), .val (.int r_8), .val (.int r_9), .val (.int (own_ln p4)), .val (.int r_11), .val (.int r_12), .val (.ref b_13), .val (.ref b_14), .val (.ref b_15), .val (.ref b_16), .val (.ref b17), .val (.int (own_join (own_ch3 (own_ln p1) r_2 r_3) (own_ch3 (own_ln p2) r_5 r_6) (own_ch3 (own_ln p3) r_8 r_9) (own_ch3 (own_ln p4) r_11 r_12))), .val (.int (1 : Int32)), .val (.int (1 : Int32)), .val (.int (1 : Int32))] [(.int (own_join (own_ch3 (own_ln p1) r_2 r_3) (own_ch3 (own_ln p2) r_5 r_6) (own_ch3 (own_ln p3) r_8 r_9) (own_ch3 (own_ln p4) r_11 r_12)))]))) (fun t k => XS.iload X40.here hx rfl (hb hby at_308) rfl k) ?_
          refine own_fw (A' := (T40.setTop (mkF m 312 #[.val (.int p1), .val (.int p2), .val (.int p3), .val (.int p4), .val (.int p5), .val (.int cx), .val (.int cy), .val (.int (own_ln p1)), .val (.int r_2), .val (.int r_3), .val (.int (own_ln p2)), .val (.int r_5), .val (.int r_6), .val (.int (own_ln p3)), .val (.int r_8), .val (.int r_9), .val (.int (own_ln p4)), .val (.int r_11), .val (.int r_12), .val (.ref b_13), .val (.ref b_14), .val (.ref b_15), .val (.ref b_16), .val (.ref b17), .val (.int (own_join (own_ch3 (own_ln p1) r_2 r_3) (own_ch3 (own_ln p2) r_5 r_6) (own_ch3 (own_ln p3) r_8 r_9) (own_ch3 (own_ln p4) r_11 r_12))), .val (.int (1 : Int32)), .val (.int (1 : Int32)), .val (.int (1 : Int32))] [(.int (1 : Int32)), (.int (own_join (own_ch3 (own_ln p1) r_2 r_3) (own_ch3 (own_ln p2) r_5 r_6) (own_ch3 (own_ln p3) r_8 r_9) (own_ch3 (own_ln p4) r_11 r_12)))]))) (fun t k => XS.iload X40.here hx rfl (hb hby at_310) rfl k) ?_
          refine own_fw (A' := (T40.setTop (mkF m 315 #[.val (.int p1), .val (.int p2), .val (.int p3), .val (.int p4), .val (.int p5), .val (.int cx), .val (.int cy), .val (.int (own_ln p1)), .val (.int r_2), .val (.int r_3), .val (.int (own_ln p2)), .val (.int r_5), .val (.int r_6), .val (.int (own_ln p3)), .val (.int r_8), .val (.int r_9), .val (.int (own_ln p4)), .val (.int r_11), .val (.int r_12), .val (.ref b_13), .val (.ref b_14), .val (.ref b_15), .val (.ref b_16), .val (.ref b17), .val (.int (own_join (own_ch3 (own_ln p1) r_2 r_3) (own_ch3 (own_ln p2) r_5 r_6) (own_ch3 (own_ln p3) r_8 r_9) (own_ch3 (own_ln p4) r_11 r_12))), .val (.int (1 : Int32)), .val (.int (1 : Int32)), .val (.int (1 : Int32))] []))) (fun t k => XS.icmpNo X40.here hx rfl (hb hby at_312) rfl (XT.ii_ne_f (by simp only [own_join, own_jt, if_neg (own_qn hc27), if_neg (own_qn hc33), if_neg (own_qn hc39), if_neg (own_qn hc41)])) k) ?_
          refine own_fw (A' := (T40.setTop (mkF m 316 #[.val (.int p1), .val (.int p2), .val (.int p3), .val (.int p4), .val (.int p5), .val (.int cx), .val (.int cy), .val (.int (own_ln p1)), .val (.int r_2), .val (.int r_3), .val (.int (own_ln p2)), .val (.int r_5), .val (.int r_6), .val (.int (own_ln p3)), .val (.int r_8), .val (.int r_9), .val (.int (own_ln p4)), .val (.int r_11), .val (.int r_12), .val (.ref b_13), .val (.ref b_14), .val (.ref b_15), .val (.ref b_16), .val (.ref b17), .val (.int (own_join (own_ch3 (own_ln p1) r_2 r_3) (own_ch3 (own_ln p2) r_5 r_6) (own_ch3 (own_ln p3) r_8 r_9) (own_ch3 (own_ln p4) r_11 r_12))), .val (.int (1 : Int32)), .val (.int (1 : Int32)), .val (.int (1 : Int32))] [(.int (1 : Int32))]))) (fun t k => XS.iconst X40.here hx rfl (hb hby at_315) k) ?_
          refine own_fw (A' := (T40.setTop (mkF m 320 #[.val (.int p1), .val (.int p2), .val (.int p3), .val (.int p4), .val (.int p5), .val (.int cx), .val (.int cy), .val (.int (own_ln p1)), .val (.int r_2), .val (.int r_3), .val (.int (own_ln p2)), .val (.int r_5), .val (.int r_6), .val (.int (own_ln p3)), .val (.int r_8), .val (.int r_9), .val (.int (own_ln p4)), .val (.int r_11), .val (.int r_12), .val (.ref b_13), .val (.ref b_14), .val (.ref b_15), .val (.ref b_16), .val (.ref b17), .val (.int (own_join (own_ch3 (own_ln p1) r_2 r_3) (own_ch3 (own_ln p2) r_5 r_6) (own_ch3 (own_ln p3) r_8 r_9) (own_ch3 (own_ln p4) r_11 r_12))), .val (.int (1 : Int32)), .val (.int (1 : Int32)), .val (.int (1 : Int32))] [(.int (1 : Int32))]))) (fun t k => XS.goto X40.here hx rfl (pc0 := 316) (pc' := 320) rfl (hb hby at_316) (by decide) (by decide) k) ?_
          obtain ⟨fs, hr, hrun, hended, hWE⟩ := X40.leaveW hS (by rw [e40]; exact hk : _ ≤ T40.heap.size) (v := some (.int (1 : Int32))) (fun h => by rw [Bd.returns] at h; cases h)
          refine ⟨_, _, ?_, hrun, hended, _, _, rfl, ?_, own_widen hWE (by decide) (by decide)⟩
          · exact retOut X40 hx Bd.returns rfl (Or.inl ⟨rfl, by simp, _, rfl⟩) (hb hby at_320) hr
          · show Q_rm0 Z p1 p2 p3 p4 p5 cs h0 n0 _ T40.heap _
            rw [e40]
            exact ⟨rfl, Nf40⟩
set_option maxRecDepth 65536 in
set_option maxHeartbeats 40000000 in
theorem comes_1 {Post : Tables → Env → Array Value → State → Outcome → State → Prop} (hpost : ∀ tb e args s v u, (limb_1_1.after args s (.returned v) u = true ∧ limb_1_2.after args s (.returned v) u = true ∧ True) → ReturnedEndW s (.returned v) u (Jvm.fieldLocs frame_1_writes args s ++ Jvm.arrayLocs frame_1_arrays args s ++ Jvm.staticLocs frame_1_statics s) 40 3264 → Post tb e args s (.returned v) u) :
    ArmFor flags0 classFile x code maxLocals ret World_1 tables_1 room_1 Calls_1 rest_1 Pre_1 Post := by
  intro l hfl _ _ p e ha hc hk s m args below hf hA hF happ hP
  obtain ⟨hcalls, hrest, hpre⟩ := hP
  obtain ⟨-, -, -, hnamed, -, -, -, hat⟩ := (Spec.applies_iff hf).mp happ
  obtain ⟨hg, hn⟩ := and_e (Cond.before_iff.mp (show (Jvm.Cond.and given_1 narrow_1).before args s = true from hpre))
  obtain ⟨hcount, hg0⟩ := and_e hg
  obtain ⟨hv0, hg1⟩ := and_e hg0
  obtain ⟨hv1, hg2⟩ := and_e hg1
  obtain ⟨hv2, hg3⟩ := and_e hg2
  obtain ⟨hv3, hg4⟩ := and_e hg3
  have hv4 := hg4
  obtain ⟨w0, w1, w2, w3, w4, rfl⟩ : ∃ w0 w1 w2 w3 w4 : Value, args = #[w0, w1, w2, w3, w4] := by
    have hs : args.size = 5 := by simpa [Cond.value, given_1] using hcount
    obtain ⟨L⟩ := args
    match L, hs with
    | [w0, w1, w2, w3, w4], _ => exact ⟨w0, w1, w2, w3, w4, rfl⟩
  have hw := fun d (hd : d ∈ tables_1) => atoms_spec (ws := Jvm.Cond.code x code maxLocals ret :: tables_1) hat d (List.mem_cons_of_mem _ hd)
  have hfit : Fit s := fun {y c} hc i hi => by
    obtain ⟨ha, rfl⟩ := Array.getElem?_eq_some_iff.mp hc
    have q := List.all_eq_true.mp ((Array.all_eq_true_iff_forall_mem.mp hF) _ (Array.getElem_mem ha)) i (List.mem_range.mpr hi)
    simpa [Array.getElem?_eq_getElem hi] using q
  obtain ⟨hsets, hown0⟩ := atoms_of _ (rest_1_c_eq ▸ (show rest_1_c.before _ s = true from hrest))
  obtain ⟨i0, ei0⟩ := is_v hv0
  obtain rfl : w0 = (.int i0) := Option.some.inj ei0
  obtain ⟨i1, ei1⟩ := is_v hv1
  obtain rfl : w1 = (.int i1) := Option.some.inj ei1
  obtain ⟨i2, ei2⟩ := is_v hv2
  obtain rfl : w2 = (.int i2) := Option.some.inj ei2
  obtain ⟨i3, ei3⟩ := is_v hv3
  obtain rfl : w3 = (.int i3) := Option.some.inj ei3
  obtain ⟨i4, ei4⟩ := is_v hv4
  obtain rfl : w4 = (.int i4) := Option.some.inj ei4
  obtain ⟨cs, ev_cs⟩ := is_v (Cond.before_iff.mp (hsets _ (List.mem_of_getElem? (i := 1) rfl)))
  have S_cs := Sta.start ev_cs (Or.inl (hsets _ (List.mem_of_getElem? (i := 0) rfl)))
  have h_cs := own_nz ev_cs (Cond.before_iff.mp (hsets _ (List.mem_of_getElem? (i := 2) rfl)))
  have hCHv : CHv s own_EL s.vm s.heap := CHv.start (own_EW hw) (fun p hp => hcalls.1 p hp) (hsets _ (List.mem_of_getElem? (i := 2) rfl)) (hw _ (List.mem_of_getElem? (i := 25) rfl)) (hw _ (List.mem_of_getElem? (i := 11) rfl))
  obtain ⟨n, o, h1, h2, h3, _, L, rfl, ⟨rfl, N⟩, hq⟩ := rm0 l s _ hw tables_1 i0 i1 i2 i3 i4 cs s.heap s.heap.size (Nat.le_refl _) S_cs h_cs p e ha hc hk s m _ below hf ((Spec.applies_iff_loose hf).mp happ).1 ⟨rfl, State.Warmed39.refl s, rfl, hCHv⟩ trivial
  refine ⟨n, _, h1, h2, h3, hpost _ _ _ _ _ _ ⟨Cond.after_iff.mpr rfl, Cond.after_iff.mpr (eq_i res_at (Term.int_eval (1)) rfl), trivial⟩ ⟨hq.1, hq.2.1, hq.2.2.1, (hq.2.2.2.sift fun y hy => Or.inr (N y hy)).mono (by decide) (by decide)⟩⟩
theorem main_1_1 : Claimed_1_1 := comes_1 fun _ _ _ _ _ _ h hF => ⟨h.1, hF⟩
theorem main_1_2 : Claimed_1_2 := comes_1 fun _ _ _ _ _ _ h hF => ⟨h.2.1, hF⟩
end Jvm.Pilot.@@N@@
namespace Jvm.Pilot.@@N@@
open Jvm Jvm.ClassFile Sem Op Lib Jvm.Free Jvm.Stand Jvm.Pilot.@@N@@.Jvm.D
/-! MADE BY PROGRAM (witnessworld.py) out of the Statement's table words and the real class files: 21 classes; the members and pool entries that the words name. The judged class is class 1, her method 1. -/
namespace start1
open Jvm.ClassFile
def u (s : String) : CpInfo := .utf8 (stringToUtf16 s)
/-- a pool by its gaps: so many unusable entries, then the entry; so many at the end -/
def gap : Nat → List CpInfo → List CpInfo
  | 0, r => r
  | n + 1, r => .unusable :: gap n r
def poolList (es : List (Nat × CpInfo)) (last : Nat) : List CpInfo := es.foldr (fun e r => gap e.1 (e.2 :: r)) (gap last [])
def pool (es : List (Nat × CpInfo)) (last : Nat) : Array CpInfo := ⟨poolList es last⟩
def fileOf (pool : Array CpInfo) (this : Nat) (attrs : Array Attribute := #[]) (ms : Array MethodInfo := #[]) (fl : Nat := 33) (sup : Nat := 0) (ifs : Array Nat := #[]) (fds : Array FieldInfo := #[]) : ClassFile where
  minorVersion := 0
  majorVersion := 65
  constantPool := pool
  accessFlags := fl
  thisClass := this
  superClass := sup
  interfaces := ifs
  fields := fds
  methods := ms
  attributes := attrs
def plain (name : String) (sup : Option ClassId) : Class where
  name := name
  kind := .ordinary
  loader := none
  accessFlags := 33
  super := sup
  interfaces := #[]
  cf := none
  fields := #[]
  methods := #[]
  instanceTypes := #[]
  staticTypes := #[]
  resolved := #[]
  callSites := []
  init := .initialized
  statics := none
  mirror := none

def pool0 : Array CpInfo := pool [(5, u "<init>"), (0, u "()V"), (1, .class_ 10), (1, u "java/lang/Object")] 113

def k0c0 : Code := { maxStack := 0, maxLocals := 1, code := object_method_1_code, exceptionTable := #[], attributes := #[] }
def k0m0 : Method := { name := "<init>", desc := "()V", sig := { parameters := [], returnType := none }, accessFlags := 1, code := some k0c0 }
/-- java/lang/Object -/
def k0 : Class := { plain "java/lang/Object" none with
  accessFlags := 33
  interfaces := #[]
  cf := some (fileOf pool0 8 #[] #[{ accessFlags := 1, nameIndex := 5, descriptorIndex := 6, attributes := #[] }] 33 0 #[] #[])
  fields := #[]
  methods := #[k0m0]
  instanceTypes := #[]
  staticTypes := #[]
  resolved := Array.replicate 124 none
  statics := none }

def pool1 : Array CpInfo := pool [(2, .class_ 4), (1, u "java/lang/Object"), (0, u "<init>"), (0, u "()V"), (0, .methodref 8 9), (0, .class_ 10), (0, .nameAndType 11 12), (0, u "com/example/kodnik/kodnik/store/MappingJoinsPinLaw"), (0, u "len"), (0, u "(I)I"), (0, .methodref 8 14), (0, .nameAndType 15 16), (0, u "pick"), (0, u "(IICC)C"), (0, .methodref 8 18), (0, .nameAndType 19 20), (0, u "make"), (0, u "(ICC)Ljava/lang/String;"), (0, .class_ 22), (0, u "com/example/kodnik/kodnik/store/Mapping"), (0, .string 24), (0, u "src"), (0, .string 26), (0, u "tgt"), (0, .methodref 21 28), (0, .nameAndType 5 29), (0, u "(Ljava/lang/String;Ljava/lang/String;Ljava/lang/String;Ljava/lang/String;)V"), (0, .methodref 21 31), (0, .nameAndType 32 33), (0, u "joins"), (0, u "(Ljava/lang/String;Ljava/lang/String;)Z"), (0, .methodref 8 35), (0, .nameAndType 36 37), (0, u "eq"), (0, u "(ICCICC)Z"), (0, .class_ 39), (0, u "java/lang/String"), (0, .methodref 38 41), (0, .nameAndType 5 42), (0, u "([C)V"), (2, u "law"), (0, u "(IIIII)Z")] 3

def k1m0 : Method := { name := "<init>", desc := "()V", sig := { parameters := [], returnType := none }, accessFlags := 1, code := none }
def k1c1 : Code := { maxStack := 6, maxLocals := 28, code := code, exceptionTable := #[], attributes := #[] }
def k1m1 : Method := { name := "law", desc := "(IIIII)Z", sig := { parameters := [.int, .int, .int, .int, .int], returnType := some .boolean }, accessFlags := 9, code := some k1c1 }
def k1c2 : Code := { maxStack := 2, maxLocals := 1, code := method_3_code, exceptionTable := #[], attributes := #[] }
def k1m2 : Method := { name := "len", desc := "(I)I", sig := { parameters := [.int], returnType := some .int }, accessFlags := 10, code := some k1c2 }
def k1c3 : Code := { maxStack := 3, maxLocals := 4, code := method_4_code, exceptionTable := #[], attributes := #[] }
def k1m3 : Method := { name := "pick", desc := "(IICC)C", sig := { parameters := [.int, .int, .char, .char], returnType := some .char }, accessFlags := 10, code := some k1c3 }
def k1c4 : Code := { maxStack := 6, maxLocals := 3, code := method_5_code, exceptionTable := #[], attributes := #[] }
def k1m4 : Method := { name := "make", desc := "(ICC)Ljava/lang/String;", sig := { parameters := [.int, .char, .char], returnType := some (.object "java/lang/String") }, accessFlags := 10, code := some k1c4 }
def k1c5 : Code := { maxStack := 2, maxLocals := 6, code := method_6_code, exceptionTable := #[], attributes := #[] }
def k1m5 : Method := { name := "eq", desc := "(ICCICC)Z", sig := { parameters := [.int, .char, .char, .int, .char, .char], returnType := some .boolean }, accessFlags := 10, code := some k1c5 }
/-- com/example/kodnik/kodnik/store/MappingJoinsPinLaw -/
def k1 : Class := { plain "com/example/kodnik/kodnik/store/MappingJoinsPinLaw" (some 0) with
  accessFlags := 49
  interfaces := #[]
  cf := some (fileOf pool1 8 #[] #[{ accessFlags := 1, nameIndex := 5, descriptorIndex := 6, attributes := #[] }, { accessFlags := 9, nameIndex := 45, descriptorIndex := 46, attributes := #[] }, { accessFlags := 10, nameIndex := 11, descriptorIndex := 12, attributes := #[] }, { accessFlags := 10, nameIndex := 15, descriptorIndex := 16, attributes := #[] }, { accessFlags := 10, nameIndex := 19, descriptorIndex := 20, attributes := #[] }, { accessFlags := 10, nameIndex := 36, descriptorIndex := 37, attributes := #[] }] 49 2 #[] #[])
  fields := #[]
  methods := #[k1m0, k1m1, k1m2, k1m3, k1m4, k1m5]
  instanceTypes := #[]
  staticTypes := #[]
  resolved := Array.replicate 50 none
  statics := none }

def pool2 : Array CpInfo := pool [(1, .class_ 2), (0, u "java/io/Serializable"), (0, .class_ 4), (0, u "java/lang/Object")] 2

/-- java/io/Serializable -/
def k2 : Class := { plain "java/io/Serializable" (some 0) with
  accessFlags := 1537
  interfaces := #[]
  cf := some (fileOf pool2 1 #[] #[] 1537 3 #[] #[])
  fields := #[]
  methods := #[]
  instanceTypes := #[]
  staticTypes := #[]
  resolved := Array.replicate 7 none
  statics := none }

def pool3 : Array CpInfo := pool [(1, .class_ 2), (0, u "java/lang/Comparable"), (0, .class_ 4), (0, u "java/lang/Object")] 7

/-- java/lang/Comparable -/
def k3 : Class := { plain "java/lang/Comparable" (some 0) with
  accessFlags := 1537
  interfaces := #[]
  cf := some (fileOf pool3 1 #[] #[] 1537 3 #[] #[])
  fields := #[]
  methods := #[]
  instanceTypes := #[]
  staticTypes := #[]
  resolved := Array.replicate 12 none
  statics := none }

def pool4 : Array CpInfo := pool [(2, .class_ 4), (1, u "java/lang/CharSequence"), (42, .class_ 48), (0, u "java/lang/CharSequence$1CodePointIterator"), (10, .class_ 60), (0, u "java/lang/CharSequence$1CharIterator"), (5, .class_ 67), (0, u "java/lang/Object")] 63

/-- java/lang/CharSequence -/
def k4 : Class := { plain "java/lang/CharSequence" (some 0) with
  accessFlags := 1537
  interfaces := #[]
  cf := some (fileOf pool4 2 #[.nestMembers #[47, 59]] #[] 1537 66 #[] #[])
  fields := #[]
  methods := #[]
  instanceTypes := #[]
  staticTypes := #[]
  resolved := Array.replicate 131 none
  statics := none }

def pool5 : Array CpInfo := pool [(1, .class_ 2), (0, u "java/lang/constant/Constable"), (0, .class_ 4), (0, u "java/lang/Object")] 6

/-- java/lang/constant/Constable -/
def k5 : Class := { plain "java/lang/constant/Constable" (some 0) with
  accessFlags := 1537
  interfaces := #[]
  cf := some (fileOf pool5 1 #[] #[] 1537 3 #[] #[])
  fields := #[]
  methods := #[]
  instanceTypes := #[]
  staticTypes := #[]
  resolved := Array.replicate 11 none
  statics := none }

def pool6 : Array CpInfo := pool [(1, .class_ 2), (0, u "java/lang/constant/ConstantDesc"), (0, .class_ 4), (0, u "java/lang/Object")] 32

/-- java/lang/constant/ConstantDesc -/
def k6 : Class := { plain "java/lang/constant/ConstantDesc" (some 0) with
  accessFlags := 1537
  interfaces := #[]
  cf := some (fileOf pool6 1 #[] #[] 1537 3 #[] #[])
  fields := #[]
  methods := #[]
  instanceTypes := #[]
  staticTypes := #[]
  resolved := Array.replicate 37 none
  statics := none }

def pool7 : Array CpInfo := pool [(1, .methodref 2 3), (0, .class_ 4), (0, .nameAndType 5 6), (0, u "java/lang/Object"), (0, u "<init>"), (0, u "()V"), (0, .string 8), (0, u ""), (0, .fieldref 10 11), (0, .class_ 12), (0, .nameAndType 13 14), (0, u "java/lang/String"), (0, u "value"), (0, u "[B"), (0, .fieldref 10 16), (0, .nameAndType 17 18), (0, u "coder"), (0, u "B"), (2, u "hash"), (0, u "I"), (2, u "hashIsZero"), (0, u "Z"), (0, .methodref 10 28), (0, .nameAndType 5 29), (0, u "([CIILjava/lang/Void;)V"), (8, .fieldref 10 39), (0, .nameAndType 40 26), (0, u "COMPACT_STRINGS"), (1, .class_ 44), (1, u "java/lang/StringUTF16"), (0, u "compress"), (1, .methodref 42 48), (0, .nameAndType 49 50), (0, u "coderFromArrayLen"), (0, u "([BI)B"), (56, .class_ 109), (1, u "java/lang/StringLatin1"), (67, .methodref 42 178), (0, .nameAndType 45 179), (0, u "([CII)[B"), (361, .methodref 107 542), (0, .nameAndType 543 544), (0, u "equals"), (0, u "([B[B)Z"), (28, u "(Ljava/lang/Object;)Z"), (1, .class_ 576), (0, u "java/lang/CharSequence"), (22, u "CASE_INSENSITIVE_ORDER"), (0, u "Ljava/util/Comparator;"), (409, u "([C)V"), (90, u "serialPersistentFields"), (0, u "[Ljava/io/ObjectStreamField;"), (0, .class_ 1104), (0, u "java/lang/String$CaseInsensitiveComparator"), (1, .class_ 1107), (0, u "java/io/Serializable"), (0, .class_ 1109), (0, u "java/lang/Comparable"), (0, .class_ 1111), (0, u "java/lang/constant/Constable"), (0, .class_ 1113), (0, u "java/lang/constant/ConstantDesc"), (2, u "serialVersionUID"), (0, u "J"), (3, u "REPL"), (0, u "C"), (2, u "LATIN1"), (1, u "UTF16")] 323

def k7m0 : Method := { name := "<init>", desc := "()V", sig := { parameters := [], returnType := none }, accessFlags := 1, code := none }
def k7c1 : Code := { maxStack := 5, maxLocals := 2, code := jdk_42_method_3_code, exceptionTable := #[], attributes := #[] }
def k7m1 : Method := { name := "<init>", desc := "([C)V", sig := { parameters := [(.array .char)], returnType := none }, accessFlags := 1, code := some k7c1 }
def k7c2 : Code := { maxStack := 2, maxLocals := 3, code := jdk_42_method_66_code, exceptionTable := #[], attributes := #[] }
def k7m2 : Method := { name := "equals", desc := "(Ljava/lang/Object;)Z", sig := { parameters := [(.object "java/lang/Object")], returnType := some .boolean }, accessFlags := 1, code := some k7c2 }
def k7c3 : Code := { maxStack := 4, maxLocals := 6, code := jdk_42_method_149_code, exceptionTable := #[], attributes := #[] }
def k7m3 : Method := { name := "<init>", desc := "([CIILjava/lang/Void;)V", sig := { parameters := [(.array .char), .int, .int, (.object "java/lang/Void")], returnType := none }, accessFlags := 2, code := some k7c3 }
/-- java/lang/String -/
def k7 : Class := { plain "java/lang/String" (some 0) with
  accessFlags := 49
  interfaces := #[2, 3, 4, 5, 6]
  cf := some (fileOf pool7 10 #[.nestMembers #[1103]] #[{ accessFlags := 1, nameIndex := 5, descriptorIndex := 6, attributes := #[] }, { accessFlags := 1, nameIndex := 5, descriptorIndex := 1010, attributes := #[] }, { accessFlags := 1, nameIndex := 543, descriptorIndex := 573, attributes := #[] }, { accessFlags := 2, nameIndex := 5, descriptorIndex := 29, attributes := #[] }] 49 2 #[1106, 1108, 575, 1110, 1112] #[{ accessFlags := 18, nameIndex := 13, descriptorIndex := 14, attributes := #[] }, { accessFlags := 18, nameIndex := 17, descriptorIndex := 18, attributes := #[] }, { accessFlags := 2, nameIndex := 21, descriptorIndex := 22, attributes := #[] }, { accessFlags := 2, nameIndex := 25, descriptorIndex := 26, attributes := #[] }, { accessFlags := 26, nameIndex := 1116, descriptorIndex := 1117, attributes := #[] }, { accessFlags := 24, nameIndex := 40, descriptorIndex := 26, attributes := #[] }, { accessFlags := 26, nameIndex := 1101, descriptorIndex := 1102, attributes := #[] }, { accessFlags := 26, nameIndex := 1121, descriptorIndex := 1122, attributes := #[] }, { accessFlags := 25, nameIndex := 599, descriptorIndex := 600, attributes := #[] }, { accessFlags := 24, nameIndex := 1125, descriptorIndex := 18, attributes := #[] }, { accessFlags := 24, nameIndex := 1127, descriptorIndex := 18, attributes := #[] }])
  fields := #[{ name := "value", type := (.array .byte), accessFlags := 18, slot := 0, constantValue := 0 }, { name := "coder", type := .byte, accessFlags := 18, slot := 1, constantValue := 0 }, { name := "hash", type := .int, accessFlags := 2, slot := 2, constantValue := 0 }, { name := "hashIsZero", type := .boolean, accessFlags := 2, slot := 3, constantValue := 0 }, { name := "serialVersionUID", type := .long, accessFlags := 26, slot := 0, constantValue := 0 }, { name := "COMPACT_STRINGS", type := .boolean, accessFlags := 24, slot := 1, constantValue := 0 }, { name := "serialPersistentFields", type := (.array (.object "java/io/ObjectStreamField")), accessFlags := 26, slot := 2, constantValue := 0 }, { name := "REPL", type := .char, accessFlags := 26, slot := 3, constantValue := 0 }, { name := "CASE_INSENSITIVE_ORDER", type := (.object "java/util/Comparator"), accessFlags := 25, slot := 4, constantValue := 0 }, { name := "LATIN1", type := .byte, accessFlags := 24, slot := 5, constantValue := 0 }, { name := "UTF16", type := .byte, accessFlags := 24, slot := 6, constantValue := 0 }]
  methods := #[k7m0, k7m1, k7m2, k7m3]
  instanceTypes := #[(.array .byte), .byte, .int, .boolean]
  staticTypes := #[.long, .boolean, (.array (.object "java/io/ObjectStreamField")), .char, (.object "java/util/Comparator"), .byte, .byte]
  resolved := Array.replicate 1451 none
  statics := some 0 }

def pool8 : Array CpInfo := pool [(6, .class_ 8), (1, u "java/lang/Object"), (0, u "<init>"), (0, u "()V"), (1, .class_ 14), (1, u "java/lang/StringUTF16"), (31, u "$assertionsDisabled"), (0, u "Z"), (13, u "HI_BYTE_SHIFT"), (0, u "I"), (2, u "LO_BYTE_SHIFT"), (49, .methodref 12 116), (0, .nameAndType 117 118), (0, u "compress"), (0, u "([CI[BII)I"), (3, u "([CII)[B"), (138, u "coderFromArrayLen"), (0, u "([BI)B"), (106, .class_ 371), (1, u "java/lang/StringUTF16$LinesSpliterator"), (58, u "MAX_LENGTH"), (196, .class_ 628), (0, u "java/lang/StringUTF16$CodePointsSpliterator"), (0, .class_ 630), (0, u "java/lang/StringUTF16$CharsSpliterator")] 4

def k8m0 : Method := { name := "<init>", desc := "()V", sig := { parameters := [], returnType := none }, accessFlags := 0, code := none }
def k8c1 : Code := { maxStack := 2, maxLocals := 2, code := jdk_52_method_15_code, exceptionTable := #[], attributes := #[] }
def k8m1 : Method := { name := "coderFromArrayLen", desc := "([BI)B", sig := { parameters := [(.array .byte), .int], returnType := some .byte }, accessFlags := 8, code := some k8c1 }
def k8c2 : Code := { maxStack := 5, maxLocals := 6, code := jdk_52_method_16_code, exceptionTable := #[], attributes := #[] }
def k8m2 : Method := { name := "compress", desc := "([CII)[B", sig := { parameters := [(.array .char), .int, .int], returnType := some (.array .byte) }, accessFlags := 9, code := some k8c2 }
def k8c3 : Code := { maxStack := 3, maxLocals := 7, code := jdk_52_method_21_code, exceptionTable := #[], attributes := #[] }
def k8m3 : Method := { name := "compress", desc := "([CI[BII)I", sig := { parameters := [(.array .char), .int, (.array .byte), .int, .int], returnType := some .int }, accessFlags := 9, code := some k8c3 }
/-- java/lang/StringUTF16 -/
def k8 : Class := { plain "java/lang/StringUTF16" (some 0) with
  accessFlags := 48
  interfaces := #[]
  cf := some (fileOf pool8 12 #[.nestMembers #[627, 629, 369]] #[{ accessFlags := 0, nameIndex := 9, descriptorIndex := 10, attributes := #[] }, { accessFlags := 8, nameIndex := 261, descriptorIndex := 262, attributes := #[] }, { accessFlags := 9, nameIndex := 117, descriptorIndex := 122, attributes := #[] }, { accessFlags := 9, nameIndex := 117, descriptorIndex := 118, attributes := #[] }] 48 6 #[] #[{ accessFlags := 26, nameIndex := 61, descriptorIndex := 62, attributes := #[] }, { accessFlags := 26, nameIndex := 65, descriptorIndex := 62, attributes := #[] }, { accessFlags := 24, nameIndex := 430, descriptorIndex := 62, attributes := #[] }, { accessFlags := 4120, nameIndex := 46, descriptorIndex := 47, attributes := #[] }])
  fields := #[{ name := "HI_BYTE_SHIFT", type := .int, accessFlags := 26, slot := 0, constantValue := 0 }, { name := "LO_BYTE_SHIFT", type := .int, accessFlags := 26, slot := 1, constantValue := 0 }, { name := "MAX_LENGTH", type := .int, accessFlags := 24, slot := 2, constantValue := 0 }, { name := "$assertionsDisabled", type := .boolean, accessFlags := 4120, slot := 3, constantValue := 0 }]
  methods := #[k8m0, k8m1, k8m2, k8m3]
  instanceTypes := #[]
  staticTypes := #[.int, .int, .int, .boolean]
  resolved := Array.replicate 635 none
  statics := none }

def pool9 : Array CpInfo := pool [(1, .methodref 2 3), (0, .class_ 4), (0, .nameAndType 5 6), (0, u "java/lang/Object"), (0, u "<init>"), (0, u "()V"), (0, .class_ 8), (0, u "java/lang/Record")] 13

def k9c0 : Code := { maxStack := 1, maxLocals := 1, code := jdk_30_method_1_code, exceptionTable := #[], attributes := #[] }
def k9m0 : Method := { name := "<init>", desc := "()V", sig := { parameters := [], returnType := none }, accessFlags := 4, code := some k9c0 }
/-- java/lang/Record -/
def k9 : Class := { plain "java/lang/Record" (some 0) with
  accessFlags := 1057
  interfaces := #[]
  cf := some (fileOf pool9 7 #[] #[{ accessFlags := 4, nameIndex := 5, descriptorIndex := 6, attributes := #[] }] 1057 2 #[] #[])
  fields := #[]
  methods := #[k9m0]
  instanceTypes := #[]
  staticTypes := #[]
  resolved := Array.replicate 22 none
  statics := none }

def pool10 : Array CpInfo := pool [(1, .methodref 2 3), (0, .class_ 4), (0, .nameAndType 5 6), (0, u "java/lang/Record"), (0, u "<init>"), (0, u "()V"), (0, .fieldref 8 9), (0, .class_ 10), (0, .nameAndType 11 12), (0, u "com/example/kodnik/kodnik/store/Mapping"), (0, u "sourceSystem"), (0, u "Ljava/lang/String;"), (0, .fieldref 8 14), (0, .nameAndType 15 12), (0, u "sourceColumn"), (0, .fieldref 8 17), (0, .nameAndType 18 12), (0, u "targetSystem"), (0, .fieldref 8 20), (0, .nameAndType 21 12), (0, u "targetColumn"), (0, .methodref 23 24), (0, .class_ 25), (0, .nameAndType 26 27), (0, u "java/lang/String"), (0, u "equals"), (0, u "(Ljava/lang/Object;)Z"), (17, u "(Ljava/lang/String;Ljava/lang/String;Ljava/lang/String;Ljava/lang/String;)V"), (14, u "joins"), (0, u "(Ljava/lang/String;Ljava/lang/String;)Z")] 42

def k10c0 : Code := { maxStack := 2, maxLocals := 5, code := prog_44_method_1_code, exceptionTable := #[], attributes := #[] }
def k10m0 : Method := { name := "<init>", desc := "(Ljava/lang/String;Ljava/lang/String;Ljava/lang/String;Ljava/lang/String;)V", sig := { parameters := [(.object "java/lang/String"), (.object "java/lang/String"), (.object "java/lang/String"), (.object "java/lang/String")], returnType := none }, accessFlags := 1, code := some k10c0 }
def k10c1 : Code := { maxStack := 2, maxLocals := 3, code := prog_44_method_2_code, exceptionTable := #[], attributes := #[] }
def k10m1 : Method := { name := "joins", desc := "(Ljava/lang/String;Ljava/lang/String;)Z", sig := { parameters := [(.object "java/lang/String"), (.object "java/lang/String")], returnType := some .boolean }, accessFlags := 1, code := some k10c1 }
/-- com/example/kodnik/kodnik/store/Mapping -/
def k10 : Class := { plain "com/example/kodnik/kodnik/store/Mapping" (some 9) with
  accessFlags := 49
  interfaces := #[]
  cf := some (fileOf pool10 8 #[] #[{ accessFlags := 1, nameIndex := 5, descriptorIndex := 45, attributes := #[] }, { accessFlags := 1, nameIndex := 60, descriptorIndex := 61, attributes := #[] }] 49 2 #[] #[{ accessFlags := 18, nameIndex := 11, descriptorIndex := 12, attributes := #[] }, { accessFlags := 18, nameIndex := 15, descriptorIndex := 12, attributes := #[] }, { accessFlags := 18, nameIndex := 18, descriptorIndex := 12, attributes := #[] }, { accessFlags := 18, nameIndex := 21, descriptorIndex := 12, attributes := #[] }])
  fields := #[{ name := "sourceSystem", type := (.object "java/lang/String"), accessFlags := 18, slot := 0, constantValue := 0 }, { name := "sourceColumn", type := (.object "java/lang/String"), accessFlags := 18, slot := 1, constantValue := 0 }, { name := "targetSystem", type := (.object "java/lang/String"), accessFlags := 18, slot := 2, constantValue := 0 }, { name := "targetColumn", type := (.object "java/lang/String"), accessFlags := 18, slot := 3, constantValue := 0 }]
  methods := #[k10m0, k10m1]
  instanceTypes := #[(.object "java/lang/String"), (.object "java/lang/String"), (.object "java/lang/String"), (.object "java/lang/String")]
  staticTypes := #[]
  resolved := Array.replicate 104 none
  statics := none }

def pool11 : Array CpInfo := pool [(4, .class_ 6), (1, u "java/lang/Object"), (0, u "<init>"), (0, u "()V"), (5, .class_ 16), (1, u "java/lang/StringLatin1"), (104, u "$assertionsDisabled"), (0, u "Z"), (98, .class_ 223), (1, u "java/lang/StringLatin1$LinesSpliterator"), (57, u "equals"), (0, u "([B[B)Z"), (107, .class_ 391), (0, u "java/lang/StringLatin1$CharsSpliterator")] 3

def k11m0 : Method := { name := "<init>", desc := "()V", sig := { parameters := [], returnType := none }, accessFlags := 0, code := none }
def k11c1 : Code := { maxStack := 3, maxLocals := 3, code := jdk_43_method_13_code, exceptionTable := #[], attributes := #[] }
def k11m1 : Method := { name := "equals", desc := "([B[B)Z", sig := { parameters := [(.array .byte), (.array .byte)], returnType := some .boolean }, accessFlags := 9, code := some k11c1 }
/-- java/lang/StringLatin1 -/
def k11 : Class := { plain "java/lang/StringLatin1" (some 0) with
  accessFlags := 48
  interfaces := #[]
  cf := some (fileOf pool11 14 #[.nestMembers #[390, 221]] #[{ accessFlags := 0, nameIndex := 7, descriptorIndex := 8, attributes := #[] }, { accessFlags := 9, nameIndex := 281, descriptorIndex := 282, attributes := #[] }] 48 4 #[] #[{ accessFlags := 4120, nameIndex := 121, descriptorIndex := 122, attributes := #[] }])
  fields := #[{ name := "$assertionsDisabled", type := .boolean, accessFlags := 4120, slot := 0, constantValue := 0 }]
  methods := #[k11m0, k11m1]
  instanceTypes := #[]
  staticTypes := #[.boolean]
  resolved := Array.replicate 395 none
  statics := none }

def pool12 : Array CpInfo := pool [(2, .class_ 4), (1, u "java/lang/Object"), (0, u "<init>"), (0, u "()V"), (17, .class_ 26), (1, u "jdk/internal/util/Preconditions"), (28, .class_ 56), (0, u "jdk/internal/util/Preconditions$4"), (57, .class_ 115), (0, u "jdk/internal/util/Preconditions$1"), (7, u "SIOOBE_FORMATTER"), (0, u "Ljava/util/function/BiFunction;"), (0, .class_ 126), (0, u "jdk/internal/util/Preconditions$2"), (3, u "AIOOBE_FORMATTER"), (0, .class_ 132), (0, u "jdk/internal/util/Preconditions$3"), (3, u "IOOBE_FORMATTER")] 57

def k12m0 : Method := { name := "<init>", desc := "()V", sig := { parameters := [], returnType := none }, accessFlags := 1, code := none }
/-- jdk/internal/util/Preconditions -/
def k12 : Class := { plain "jdk/internal/util/Preconditions" (some 0) with
  accessFlags := 33
  interfaces := #[]
  cf := some (fileOf pool12 24 #[.nestMembers #[55, 131, 125, 114]] #[{ accessFlags := 1, nameIndex := 5, descriptorIndex := 6, attributes := #[] }] 33 2 #[] #[{ accessFlags := 25, nameIndex := 123, descriptorIndex := 124, attributes := #[] }, { accessFlags := 25, nameIndex := 130, descriptorIndex := 124, attributes := #[] }, { accessFlags := 25, nameIndex := 136, descriptorIndex := 124, attributes := #[] }])
  fields := #[{ name := "SIOOBE_FORMATTER", type := (.object "java/util/function/BiFunction"), accessFlags := 25, slot := 0, constantValue := 0 }, { name := "AIOOBE_FORMATTER", type := (.object "java/util/function/BiFunction"), accessFlags := 25, slot := 1, constantValue := 0 }, { name := "IOOBE_FORMATTER", type := (.object "java/util/function/BiFunction"), accessFlags := 25, slot := 2, constantValue := 0 }]
  methods := #[k12m0]
  instanceTypes := #[]
  staticTypes := #[(.object "java/util/function/BiFunction"), (.object "java/util/function/BiFunction"), (.object "java/util/function/BiFunction")]
  resolved := Array.replicate 194 none
  statics := some 1 }

def pool13 : Array CpInfo := pool [(9, u "<init>"), (6, .class_ 18), (1, u "java/lang/Object"), (0, u "()V"), (1, .class_ 23), (1, u "jdk/internal/util/ArraysSupport"), (0, u "LOG2_ARRAY_LONG_INDEX_SCALE"), (0, u "I"), (2, u "U"), (0, u "Ljdk/internal/misc/Unsafe;"), (8, u "BIG_ENDIAN"), (0, u "Z"), (8, u "LOG2_BYTE_BIT_SIZE"), (4, u "LOG2_ARRAY_INT_INDEX_SCALE"), (54, u "JLA"), (0, u "Ljdk/internal/access/JavaLangAccess;"), (11, u "LOG2_ARRAY_BOOLEAN_INDEX_SCALE"), (9, u "LOG2_ARRAY_BYTE_INDEX_SCALE"), (5, u "LOG2_ARRAY_CHAR_INDEX_SCALE"), (5, u "LOG2_ARRAY_SHORT_INDEX_SCALE"), (18, u "LOG2_ARRAY_FLOAT_INDEX_SCALE"), (24, u "LOG2_ARRAY_DOUBLE_INDEX_SCALE"), (89, u "T_BOOLEAN"), (2, u "T_CHAR"), (1, u "T_FLOAT"), (1, u "T_DOUBLE"), (1, u "T_BYTE"), (1, u "T_SHORT"), (1, u "T_INT"), (1, u "T_LONG"), (1, u "SOFT_MAX_ARRAY_LENGTH")] 83

def k13m0 : Method := { name := "<init>", desc := "()V", sig := { parameters := [], returnType := none }, accessFlags := 2, code := none }
/-- jdk/internal/util/ArraysSupport -/
def k13 : Class := { plain "jdk/internal/util/ArraysSupport" (some 0) with
  accessFlags := 33
  interfaces := #[]
  cf := some (fileOf pool13 21 #[] #[{ accessFlags := 2, nameIndex := 9, descriptorIndex := 19, attributes := #[] }] 33 16 #[] #[{ accessFlags := 24, nameIndex := 28, descriptorIndex := 29, attributes := #[] }, { accessFlags := 26, nameIndex := 38, descriptorIndex := 39, attributes := #[] }, { accessFlags := 25, nameIndex := 121, descriptorIndex := 25, attributes := #[] }, { accessFlags := 25, nameIndex := 131, descriptorIndex := 25, attributes := #[] }, { accessFlags := 25, nameIndex := 137, descriptorIndex := 25, attributes := #[] }, { accessFlags := 25, nameIndex := 143, descriptorIndex := 25, attributes := #[] }, { accessFlags := 25, nameIndex := 53, descriptorIndex := 25, attributes := #[] }, { accessFlags := 25, nameIndex := 24, descriptorIndex := 25, attributes := #[] }, { accessFlags := 25, nameIndex := 162, descriptorIndex := 25, attributes := #[] }, { accessFlags := 25, nameIndex := 187, descriptorIndex := 25, attributes := #[] }, { accessFlags := 26, nameIndex := 48, descriptorIndex := 25, attributes := #[] }, { accessFlags := 25, nameIndex := 277, descriptorIndex := 25, attributes := #[] }, { accessFlags := 25, nameIndex := 280, descriptorIndex := 25, attributes := #[] }, { accessFlags := 25, nameIndex := 282, descriptorIndex := 25, attributes := #[] }, { accessFlags := 25, nameIndex := 284, descriptorIndex := 25, attributes := #[] }, { accessFlags := 25, nameIndex := 286, descriptorIndex := 25, attributes := #[] }, { accessFlags := 25, nameIndex := 288, descriptorIndex := 25, attributes := #[] }, { accessFlags := 25, nameIndex := 290, descriptorIndex := 25, attributes := #[] }, { accessFlags := 25, nameIndex := 292, descriptorIndex := 25, attributes := #[] }, { accessFlags := 26, nameIndex := 108, descriptorIndex := 109, attributes := #[] }, { accessFlags := 25, nameIndex := 294, descriptorIndex := 25, attributes := #[] }])
  fields := #[{ name := "U", type := (.object "jdk/internal/misc/Unsafe"), accessFlags := 24, slot := 0, constantValue := 0 }, { name := "BIG_ENDIAN", type := .boolean, accessFlags := 26, slot := 1, constantValue := 0 }, { name := "LOG2_ARRAY_BOOLEAN_INDEX_SCALE", type := .int, accessFlags := 25, slot := 2, constantValue := 0 }, { name := "LOG2_ARRAY_BYTE_INDEX_SCALE", type := .int, accessFlags := 25, slot := 3, constantValue := 0 }, { name := "LOG2_ARRAY_CHAR_INDEX_SCALE", type := .int, accessFlags := 25, slot := 4, constantValue := 0 }, { name := "LOG2_ARRAY_SHORT_INDEX_SCALE", type := .int, accessFlags := 25, slot := 5, constantValue := 0 }, { name := "LOG2_ARRAY_INT_INDEX_SCALE", type := .int, accessFlags := 25, slot := 6, constantValue := 0 }, { name := "LOG2_ARRAY_LONG_INDEX_SCALE", type := .int, accessFlags := 25, slot := 7, constantValue := 0 }, { name := "LOG2_ARRAY_FLOAT_INDEX_SCALE", type := .int, accessFlags := 25, slot := 8, constantValue := 0 }, { name := "LOG2_ARRAY_DOUBLE_INDEX_SCALE", type := .int, accessFlags := 25, slot := 9, constantValue := 0 }, { name := "LOG2_BYTE_BIT_SIZE", type := .int, accessFlags := 26, slot := 10, constantValue := 0 }, { name := "T_BOOLEAN", type := .int, accessFlags := 25, slot := 11, constantValue := 0 }, { name := "T_CHAR", type := .int, accessFlags := 25, slot := 12, constantValue := 0 }, { name := "T_FLOAT", type := .int, accessFlags := 25, slot := 13, constantValue := 0 }, { name := "T_DOUBLE", type := .int, accessFlags := 25, slot := 14, constantValue := 0 }, { name := "T_BYTE", type := .int, accessFlags := 25, slot := 15, constantValue := 0 }, { name := "T_SHORT", type := .int, accessFlags := 25, slot := 16, constantValue := 0 }, { name := "T_INT", type := .int, accessFlags := 25, slot := 17, constantValue := 0 }, { name := "T_LONG", type := .int, accessFlags := 25, slot := 18, constantValue := 0 }, { name := "JLA", type := (.object "jdk/internal/access/JavaLangAccess"), accessFlags := 26, slot := 19, constantValue := 0 }, { name := "SOFT_MAX_ARRAY_LENGTH", type := .int, accessFlags := 25, slot := 20, constantValue := 0 }]
  methods := #[k13m0]
  instanceTypes := #[]
  staticTypes := #[(.object "jdk/internal/misc/Unsafe"), .boolean, .int, .int, .int, .int, .int, .int, .int, .int, .int, .int, .int, .int, .int, .int, .int, .int, .int, (.object "jdk/internal/access/JavaLangAccess"), .int]
  resolved := Array.replicate 378 none
  statics := none }

def pool14 : Array CpInfo := pool [(1, u "java/lang/Cloneable"), (0, .class_ 1), (0, u "java/lang/Object"), (0, .class_ 3)] 3

/-- java/lang/Cloneable -/
def k14 : Class := { plain "java/lang/Cloneable" (some 0) with
  accessFlags := 1537
  interfaces := #[]
  cf := some (fileOf pool14 2 #[] #[] 1537 4 #[] #[])
  fields := #[]
  methods := #[]
  instanceTypes := #[]
  staticTypes := #[]
  resolved := Array.replicate 8 none
  statics := none }

/-- the primitive byte -/
def k15 : Class := { plain "byte" none with kind := .primitive 'B', accessFlags := 0x411 }
/-- [B -/
def k16 : Class := { plain "[B" (some 0) with kind := .array 15 .byte, interfaces := #[14, 2], accessFlags := 1041 }

/-- the primitive char -/
def k17 : Class := { plain "char" none with kind := .primitive 'C', accessFlags := 0x411 }
/-- [C -/
def k18 : Class := { plain "[C" (some 0) with kind := .array 17 .char, interfaces := #[14, 2], accessFlags := 1041 }

/-- the primitive int -/
def k19 : Class := { plain "int" none with kind := .primitive 'I', accessFlags := 0x411 }
/-- [I -/
def k20 : Class := { plain "[I" (some 0) with kind := .array 19 .int, interfaces := #[14, 2], accessFlags := 1041 }

def heap : Heap := #[{ cls := 7, slots := #[.long 0, .int 1, .null, .int 0, .null, .int 0, .int 0], vm := .statics 7 },
  { cls := 12, slots := #[.null, .null, .null], vm := .statics 12 }]
def classes : Array Class := #[k0, k1, k2, k3, k4, k5, k6, k7, k8, k9, k10, k11, k12, k13, k14, k15, k16, k17, k18, k19, k20]
def interned : List (Array UInt16 × Addr) := []
def slotsUsed : Nat := 10
def theMethod : MethodId := ⟨1, 1⟩
def args0 : Array Value := #[.int 5, .int 3, .int 2, .int 1, .int 0]
def aboutOver (below : List Frame) : State where
  vm := { classes := classes, interned := interned.toArray }
  heap := heap
  slotsUsed := slotsUsed
  threads := #[{ frames := .invoking theMethod args0 :: below }]
def below0 : List Frame := [.native { method := ⟨0, 0⟩, args := #[] }]
def about1 : State := aboutOver below0
def p0 : Program := .bare "" "" ""
def e0 : Env := launch0.env 0 0 0
theorem w_frames : about1.frames = Frame.invoking theMethod args0 :: below0 := rfl
set_option maxRecDepth 65536 in
theorem w_args : argsFit about1.vm theMethod args0 = true := by decide +kernel
set_option maxRecDepth 65536 in
theorem w_heap : heapFits about1 = true := by decide +kernel
set_option maxRecDepth 65536 in
theorem w_runnable : about1.curStatus? = some .runnable := by decide +kernel
set_option maxRecDepth 65536 in
theorem w_alone : about1.alone = true := by decide +kernel
set_option maxRecDepth 65536 in
theorem w_named : about1.methodNamed? x = some theMethod := by decide +kernel
set_option maxRecDepth 65536 in
theorem w_hears : about1.hears theMethod below0 = true := by decide +kernel
set_option maxRecDepth 65536 in
theorem w_ripe : about1.ripe theMethod args0 below0 = true := by decide +kernel
theorem w_running : about1.status = .running := rfl
set_option maxRecDepth 65536 in
theorem w_room : about1.hasRoom e0.platform room_1 = true :=
  launch0.hasRoom_least _ room_1 (by decide +kernel) (by decide +kernel) (by decide +kernel) (by decide +kernel) (by decide +kernel) (by decide +kernel)
theorem allAtoms_all (ts : List Jvm.Cond) (a : Array Jvm.Value) (st : Jvm.State) : (allAtoms ts).before a st = ts.all (fun c => c.before a st) := by
  induction ts with
  | nil => rfl
  | cons c t ih =>
    show (Jvm.Cond.and c (allAtoms t)).before a st = _
    rw [Jvm.Cond.before_and, ih, List.all_cons]
def words1 : List Jvm.Cond := Jvm.Cond.code x code maxLocals ret :: tables_1
/-- a 'code' word, met by the world's own term for the bytes: nothing is compared byte by byte -/
theorem code_word {y : MethodName} {bytes : ByteArray} {mx : Nat} {rt : Option FieldType} {a : Array Value} {s : State} {m : MethodId} {meth : Method} {c : Code} (h1 : s.methodNamed? y = some m) (h2 : s.vm.method? m = some meth) (h3 : meth.code = some c) (h4 : c.code = bytes)
    (h5 : (c.maxLocals == mx && c.exceptionTable.isEmpty && decide (c.maxStack ≤ mostOperands) && decide (meth.sig.returnType = rt) && !meth.locks && decide (parseMethodDescriptor y.desc = some meth.sig)) = true) : (Jvm.Cond.code y bytes mx rt).before a s = true := by
  simp only [Bool.and_eq_true, beq_iff_eq, Bool.not_eq_true', decide_eq_true_eq] at h5
  obtain ⟨⟨⟨⟨⟨g1, g2⟩, g3⟩, g4⟩, g5⟩, g6⟩ := h5
  simp [Cond.before, Cond.holds, Cond.value, h1, h2, h3, h4, g1, g2, g3, g4, g5, g6]
def isCode : Jvm.Cond → Bool
  | .code _ _ _ _ => true
  | _ => false
theorem all_split {L : List Jvm.Cond} {P : Jvm.Cond → Bool} (h1 : L.all (fun c => isCode c || P c) = true) (h2 : ∀ c ∈ L.filter isCode, P c = true) : L.all P = true := by
  refine List.all_eq_true.mpr fun c hc => ?_
  have h := List.all_eq_true.mp h1 c hc
  rcases Bool.eq_false_or_eq_true (isCode c) with hi | hi
  · exact h2 c (List.mem_filter.mpr ⟨hc, hi⟩)
  · simpa [hi] using h
set_option maxRecDepth 65536 in
theorem w_c0 : (Jvm.Cond.code x code maxLocals ret).before args0 about1 = true := code_word (m := ⟨1, 1⟩) (meth := k1m1) (c := k1c1) (by decide +kernel) rfl rfl rfl (by decide +kernel)
set_option maxRecDepth 65536 in
theorem w_c1 : (Jvm.Cond.code ({ cls := "com/example/kodnik/kodnik/store/MappingJoinsPinLaw", name := "len", desc := "(I)I" } : Jvm.MethodName) method_3_code (1 : Nat) (Option.some Jvm.ClassFile.FieldType.int)).before args0 about1 = true := code_word (m := ⟨1, 2⟩) (meth := k1m2) (c := k1c2) (by decide +kernel) rfl rfl rfl (by decide +kernel)
set_option maxRecDepth 65536 in
theorem w_c2 : (Jvm.Cond.code ({ cls := "com/example/kodnik/kodnik/store/MappingJoinsPinLaw", name := "pick", desc := "(IICC)C" } : Jvm.MethodName) method_4_code (4 : Nat) (Option.some Jvm.ClassFile.FieldType.char)).before args0 about1 = true := code_word (m := ⟨1, 3⟩) (meth := k1m3) (c := k1c3) (by decide +kernel) rfl rfl rfl (by decide +kernel)
set_option maxRecDepth 65536 in
theorem w_c3 : (Jvm.Cond.code ({ cls := "com/example/kodnik/kodnik/store/MappingJoinsPinLaw", name := "make", desc := "(ICC)Ljava/lang/String;" } : Jvm.MethodName) method_5_code (3 : Nat) (Option.some (Jvm.ClassFile.FieldType.object "java/lang/String"))).before args0 about1 = true := code_word (m := ⟨1, 4⟩) (meth := k1m4) (c := k1c4) (by decide +kernel) rfl rfl rfl (by decide +kernel)
set_option maxRecDepth 65536 in
theorem w_c4 : (Jvm.Cond.code ({ cls := "java/lang/String", name := "<init>", desc := "([C)V" } : Jvm.MethodName) jdk_42_method_3_code (2 : Nat) (Option.none : Option Jvm.ClassFile.FieldType)).before args0 about1 = true := code_word (m := ⟨7, 1⟩) (meth := k7m1) (c := k7c1) (by decide +kernel) rfl rfl rfl (by decide +kernel)
set_option maxRecDepth 65536 in
theorem w_c5 : (Jvm.Cond.code ({ cls := "java/lang/String", name := "<init>", desc := "([CIILjava/lang/Void;)V" } : Jvm.MethodName) jdk_42_method_149_code (6 : Nat) (Option.none : Option Jvm.ClassFile.FieldType)).before args0 about1 = true := code_word (m := ⟨7, 3⟩) (meth := k7m3) (c := k7c3) (by decide +kernel) rfl rfl rfl (by decide +kernel)
set_option maxRecDepth 65536 in
theorem w_c6 : (Jvm.Cond.code ({ cls := "java/lang/Object", name := "<init>", desc := "()V" } : Jvm.MethodName) object_method_1_code (1 : Nat) (Option.none : Option Jvm.ClassFile.FieldType)).before args0 about1 = true := code_word (m := ⟨0, 0⟩) (meth := k0m0) (c := k0c0) (by decide +kernel) rfl rfl rfl (by decide +kernel)
set_option maxRecDepth 65536 in
theorem w_c7 : (Jvm.Cond.code ({ cls := "java/lang/StringUTF16", name := "compress", desc := "([CII)[B" } : Jvm.MethodName) jdk_52_method_16_code (6 : Nat) (Option.some (Jvm.ClassFile.FieldType.array Jvm.ClassFile.FieldType.byte))).before args0 about1 = true := code_word (m := ⟨8, 2⟩) (meth := k8m2) (c := k8c2) (by decide +kernel) rfl rfl rfl (by decide +kernel)
set_option maxRecDepth 65536 in
theorem w_c8 : (Jvm.Cond.code ({ cls := "java/lang/StringUTF16", name := "compress", desc := "([CI[BII)I" } : Jvm.MethodName) jdk_52_method_21_code (7 : Nat) (Option.some Jvm.ClassFile.FieldType.int)).before args0 about1 = true := code_word (m := ⟨8, 3⟩) (meth := k8m3) (c := k8c3) (by decide +kernel) rfl rfl rfl (by decide +kernel)
set_option maxRecDepth 65536 in
theorem w_c9 : (Jvm.Cond.code ({ cls := "java/lang/StringUTF16", name := "coderFromArrayLen", desc := "([BI)B" } : Jvm.MethodName) jdk_52_method_15_code (2 : Nat) (Option.some Jvm.ClassFile.FieldType.byte)).before args0 about1 = true := code_word (m := ⟨8, 1⟩) (meth := k8m1) (c := k8c1) (by decide +kernel) rfl rfl rfl (by decide +kernel)
set_option maxRecDepth 65536 in
theorem w_c10 : (Jvm.Cond.code ({ cls := "com/example/kodnik/kodnik/store/Mapping", name := "<init>", desc := "(Ljava/lang/String;Ljava/lang/String;Ljava/lang/String;Ljava/lang/String;)V" } : Jvm.MethodName) prog_44_method_1_code (5 : Nat) (Option.none : Option Jvm.ClassFile.FieldType)).before args0 about1 = true := code_word (m := ⟨10, 0⟩) (meth := k10m0) (c := k10c0) (by decide +kernel) rfl rfl rfl (by decide +kernel)
set_option maxRecDepth 65536 in
theorem w_c11 : (Jvm.Cond.code ({ cls := "java/lang/Record", name := "<init>", desc := "()V" } : Jvm.MethodName) jdk_30_method_1_code (1 : Nat) (Option.none : Option Jvm.ClassFile.FieldType)).before args0 about1 = true := code_word (m := ⟨9, 0⟩) (meth := k9m0) (c := k9c0) (by decide +kernel) rfl rfl rfl (by decide +kernel)
set_option maxRecDepth 65536 in
theorem w_c12 : (Jvm.Cond.code ({ cls := "com/example/kodnik/kodnik/store/Mapping", name := "joins", desc := "(Ljava/lang/String;Ljava/lang/String;)Z" } : Jvm.MethodName) prog_44_method_2_code (3 : Nat) (Option.some Jvm.ClassFile.FieldType.boolean)).before args0 about1 = true := code_word (m := ⟨10, 1⟩) (meth := k10m1) (c := k10c1) (by decide +kernel) rfl rfl rfl (by decide +kernel)
set_option maxRecDepth 65536 in
theorem w_c13 : (Jvm.Cond.code ({ cls := "java/lang/String", name := "equals", desc := "(Ljava/lang/Object;)Z" } : Jvm.MethodName) jdk_42_method_66_code (3 : Nat) (Option.some Jvm.ClassFile.FieldType.boolean)).before args0 about1 = true := code_word (m := ⟨7, 2⟩) (meth := k7m2) (c := k7c2) (by decide +kernel) rfl rfl rfl (by decide +kernel)
set_option maxRecDepth 65536 in
theorem w_c14 : (Jvm.Cond.code ({ cls := "java/lang/StringLatin1", name := "equals", desc := "([B[B)Z" } : Jvm.MethodName) jdk_43_method_13_code (3 : Nat) (Option.some Jvm.ClassFile.FieldType.boolean)).before args0 about1 = true := code_word (m := ⟨11, 1⟩) (meth := k11m1) (c := k11c1) (by decide +kernel) rfl rfl rfl (by decide +kernel)
set_option maxRecDepth 65536 in
theorem w_c15 : (Jvm.Cond.code ({ cls := "com/example/kodnik/kodnik/store/MappingJoinsPinLaw", name := "eq", desc := "(ICCICC)Z" } : Jvm.MethodName) method_6_code (6 : Nat) (Option.some Jvm.ClassFile.FieldType.boolean)).before args0 about1 = true := code_word (m := ⟨1, 5⟩) (meth := k1m5) (c := k1c5) (by decide +kernel) rfl rfl rfl (by decide +kernel)
def codes1 : List Jvm.Cond := [Jvm.Cond.code x code maxLocals ret, Jvm.Cond.code ({ cls := "com/example/kodnik/kodnik/store/MappingJoinsPinLaw", name := "len", desc := "(I)I" } : Jvm.MethodName) method_3_code (1 : Nat) (Option.some Jvm.ClassFile.FieldType.int), Jvm.Cond.code ({ cls := "com/example/kodnik/kodnik/store/MappingJoinsPinLaw", name := "pick", desc := "(IICC)C" } : Jvm.MethodName) method_4_code (4 : Nat) (Option.some Jvm.ClassFile.FieldType.char), Jvm.Cond.code ({ cls := "com/example/kodnik/kodnik/store/MappingJoinsPinLaw", name := "make", desc := "(ICC)Ljava/lang/String;" } : Jvm.MethodName) method_5_code (3 : Nat) (Option.some (Jvm.ClassFile.FieldType.object "java/lang/String")), Jvm.Cond.code ({ cls := "java/lang/String", name := "<init>", desc := "([C)V" } : Jvm.MethodName) jdk_42_method_3_code (2 : Nat) (Option.none : Option Jvm.ClassFile.FieldType), Jvm.Cond.code ({ cls := "java/lang/String", name := "<init>", desc := "([CIILjava/lang/Void;)V" } : Jvm.MethodName) jdk_42_method_149_code (6 : Nat) (Option.none : Option Jvm.ClassFile.FieldType), Jvm.Cond.code ({ cls := "java/lang/Object", name := "<init>", desc := "()V" } : Jvm.MethodName) object_method_1_code (1 : Nat) (Option.none : Option Jvm.ClassFile.FieldType), Jvm.Cond.code ({ cls := "java/lang/StringUTF16", name := "compress", desc := "([CII)[B" } : Jvm.MethodName) jdk_52_method_16_code (6 : Nat) (Option.some (Jvm.ClassFile.FieldType.array Jvm.ClassFile.FieldType.byte)), Jvm.Cond.code ({ cls := "java/lang/StringUTF16", name := "compress", desc := "([CI[BII)I" } : Jvm.MethodName) jdk_52_method_21_code (7 : Nat) (Option.some Jvm.ClassFile.FieldType.int), Jvm.Cond.code ({ cls := "java/lang/StringUTF16", name := "coderFromArrayLen", desc := "([BI)B" } : Jvm.MethodName) jdk_52_method_15_code (2 : Nat) (Option.some Jvm.ClassFile.FieldType.byte), Jvm.Cond.code ({ cls := "com/example/kodnik/kodnik/store/Mapping", name := "<init>", desc := "(Ljava/lang/String;Ljava/lang/String;Ljava/lang/String;Ljava/lang/String;)V" } : Jvm.MethodName) prog_44_method_1_code (5 : Nat) (Option.none : Option Jvm.ClassFile.FieldType), Jvm.Cond.code ({ cls := "java/lang/Record", name := "<init>", desc := "()V" } : Jvm.MethodName) jdk_30_method_1_code (1 : Nat) (Option.none : Option Jvm.ClassFile.FieldType), Jvm.Cond.code ({ cls := "com/example/kodnik/kodnik/store/Mapping", name := "joins", desc := "(Ljava/lang/String;Ljava/lang/String;)Z" } : Jvm.MethodName) prog_44_method_2_code (3 : Nat) (Option.some Jvm.ClassFile.FieldType.boolean), Jvm.Cond.code ({ cls := "java/lang/String", name := "equals", desc := "(Ljava/lang/Object;)Z" } : Jvm.MethodName) jdk_42_method_66_code (3 : Nat) (Option.some Jvm.ClassFile.FieldType.boolean), Jvm.Cond.code ({ cls := "java/lang/StringLatin1", name := "equals", desc := "([B[B)Z" } : Jvm.MethodName) jdk_43_method_13_code (3 : Nat) (Option.some Jvm.ClassFile.FieldType.boolean), Jvm.Cond.code ({ cls := "com/example/kodnik/kodnik/store/MappingJoinsPinLaw", name := "eq", desc := "(ICCICC)Z" } : Jvm.MethodName) method_6_code (6 : Nat) (Option.some Jvm.ClassFile.FieldType.boolean)]
set_option maxRecDepth 65536 in
theorem codes_eq : words1.filter isCode = codes1 := rfl
theorem w_codes : ∀ c ∈ words1.filter isCode, c.before args0 about1 = true := by
  rw [codes_eq]
  intro c hc
  simp only [codes1, List.mem_cons, List.not_mem_nil, or_false] at hc
  rcases hc with rfl | rfl | rfl | rfl | rfl | rfl | rfl | rfl | rfl | rfl | rfl | rfl | rfl | rfl | rfl | rfl
  · exact w_c0
  · exact w_c1
  · exact w_c2
  · exact w_c3
  · exact w_c4
  · exact w_c5
  · exact w_c6
  · exact w_c7
  · exact w_c8
  · exact w_c9
  · exact w_c10
  · exact w_c11
  · exact w_c12
  · exact w_c13
  · exact w_c14
  · exact w_c15
set_option maxRecDepth 65536 in
theorem w_t1 : (words1.take 24).all (fun c => isCode c || c.before args0 about1) = true := by decide +kernel
set_option maxRecDepth 65536 in
theorem w_t2 : ((words1.drop 24).take 24).all (fun c => isCode c || c.before args0 about1) = true := by decide +kernel
set_option maxRecDepth 65536 in
theorem w_t3 : (((words1.drop 24).drop 24).take 24).all (fun c => isCode c || c.before args0 about1) = true := by decide +kernel
set_option maxRecDepth 65536 in
theorem w_t4 : (((words1.drop 24).drop 24).drop 24).all (fun c => isCode c || c.before args0 about1) = true := by decide +kernel
theorem w_tables : (allAtoms (Jvm.Cond.code x code maxLocals ret :: tables_1)).before args0 about1 = true := by
  rw [allAtoms_all]
  show words1.all (fun c => c.before args0 about1) = true
  refine all_split ?_ w_codes
  rw [← List.take_append_drop 24 words1, List.all_append, w_t1, ← List.take_append_drop 24 (words1.drop 24), List.all_append, w_t2, ← List.take_append_drop 24 ((words1.drop 24).drop 24), List.all_append, w_t3, w_t4]
  rfl
set_option maxRecDepth 65536 in
theorem w_rest : rest_1_c.before args0 about1 = true := by decide +kernel
set_option maxRecDepth 65536 in
theorem w_case : (Jvm.Cond.and given_1 narrow_1).before args0 about1 = true := by decide +kernel
set_option maxRecDepth 65536 in
theorem w_consts : constsHeld consts_1 about1 := Jvm.Lit.constsHeldB_iff.mp (by decide +kernel)
theorem w_applies : (headSpec (Jvm.Cond.code x code maxLocals ret :: tables_1) room_1).applies x e0.platform about1 = true :=
  (Spec.applies_iff w_frames).mpr ⟨w_running, w_runnable, w_alone, w_named, w_hears, w_ripe, w_room, w_tables⟩
theorem atStart : AtStart classFile x code maxLocals ret World_1 tables_1 room_1 Calls_1 rest_1 Pre_1 launch0 p0 e0 about1 theMethod args0 below0 :=
  ⟨lists_1, trivial, launch0.admits_env _ _ _, launch0.least_env, fairChoices_fair.cas, fairChoices_fair.clock, w_frames, w_args, w_heap, w_applies, ⟨w_consts, trivial⟩, w_rest, w_case⟩
end start1
theorem witness_1 : WitnessClaimed_1 := ⟨start1.p0, start1.e0, start1.about1, start1.theMethod, start1.args0, start1.below0, start1.atStart⟩
end Jvm.Pilot.@@N@@
