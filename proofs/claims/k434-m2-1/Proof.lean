import JvmDerived
import JvmDerived.Pilot.@@N@@Statement
import JvmDerived.Pilot.@@N@@Code
set_option linter.unusedVariables false
set_option linter.unusedSimpArgs false
namespace Jvm.Pilot.@@N@@
open Jvm Jvm.ClassFile Sem Op Lib Jvm.Free Jvm.Stand Jvm.LawKit Jvm.RoadKit Bundle Jvm.Pilot.@@N@@.Jvm.D
/-! steps, taken forward -/
theorem own_fw {tb : Tables} {e : Env} {below : List Frame} {A A' : State} {P : State → Outcome → Prop} (h : ∀ t, Steps tb e below A' t → Steps tb e below A t) (g : ∃ U o, Steps tb e below A' U ∧ P U o) : ∃ U o, Steps tb e below A U ∧ P U o := by
  obtain ⟨U, o, s, r⟩ := g
  exact ⟨U, o, h U s, r⟩
theorem own_st {tb : Tables} {e : Env} {below : List Frame} {A A' t : State} (h : ∀ t, Steps tb e below A' t → Steps tb e below A t) (g : Steps tb e below A' t) : Steps tb e below A t := h t g
theorem own_plainE {Z : State} {h : Heap} {a : Addr} {C : String} (F : Exa Z h a C) : ∀ cell : Cell, h[a]? = some cell → cell.vm.isStatics = false := fun cell hc => by
  obtain ⟨c1, k1, h1, -, -, h4, -⟩ := F
  cases h1.symm.trans hc
  exact h4
theorem own_plainV {Z : State} {h : Heap} {a : Addr} {k : ClassId} {ty : FieldType} {z : Int32} {vs : List Value} {dv : Value} (F : Arv Z h a k ty z vs dv) : ∀ cell : Cell, h[a]? = some cell → cell.vm.isStatics = false := fun cell hc => by
  obtain ⟨c1, A, -⟩ := F
  cases A.1.symm.trans hc
  exact A.plain
theorem own_staKeep {Z : State} {h h' : Heap} {C n d : String} {v : Value} {ws : List Addr} (F : Sta Z h C n d v) (K : Keep h h' ws) (q : ∀ x ∈ ws, ∀ cell : Cell, h[x]? = some cell → cell.vm.isStatics = false) : Sta Z h' C n d v := by
  obtain ⟨cf, i, k, f, st, cell, h1, h2, h3, h4, h5, h6, h7⟩ := F
  exact ⟨cf, i, k, f, st, cell, h1, h2, h3, h4, K.2.1 st cell h5 (fun m => by rw [q st m cell h5] at h6; cases h6), h6, h7⟩
theorem own_insLt {Z : State} {h : Heap} {a : Addr} {C : String} {bo : Bool} (F : Ins Z h a C bo) : a < h.size := by
  obtain ⟨cell, cT, h1, -⟩ := F
  exact (Array.getElem?_eq_some_iff.mp h1).1
theorem own_insKeep {Z : State} {h h' : Heap} {a : Addr} {C : String} {bo : Bool} {ws : List Addr} (F : Ins Z h a C bo) (K : Keep h h' ws) : Ins Z h' a C bo := by
  obtain ⟨cell, cT, h1, h2, h3⟩ := F
  obtain ⟨c', e1, e2, e3, -⟩ := K.2.2 a cell h1
  exact ⟨c', cT, e1, h2, by rw [e2, e3]; exact h3⟩


theorem own_widen {s t : State} {o : Outcome} {L : List Loc} {k n k' n' : Nat} (h : ReturnedEndW s o t L k n) (hk : k ≤ k') (hn : n ≤ n') : ReturnedEndW s o t L k' n' := ⟨h.1, h.2.1, h.2.2.1, h.2.2.2.mono hk hn⟩
theorem own_wS {a0 : Array Value} {Z : State} (hw : ∀ d ∈ tables_1, d.before a0 Z = true) : ∀ a ∈ Bundle.stringAtoms, a.before a0 Z = true := by
  intro a ha
  simp only [Bundle.stringAtoms, List.mem_cons, List.not_mem_nil, or_false] at ha
  rcases ha with rfl | rfl | rfl | rfl | rfl | rfl | rfl
  · exact (hw _ (List.mem_of_getElem? (i := 13) rfl))
  · exact (hw _ (List.mem_of_getElem? (i := 12) rfl))
  · exact (hw _ (List.mem_of_getElem? (i := 26) rfl))
  · exact (hw _ (List.mem_of_getElem? (i := 27) rfl))
  · exact (hw _ (List.mem_of_getElem? (i := 28) rfl))
  · exact (hw _ (List.mem_of_getElem? (i := 29) rfl))
  · exact (hw _ (List.mem_of_getElem? (i := 30) rfl))


def own_EL : List (String × Nat) := [("java/lang/String", 7)]
theorem own_EW {a0 : Array Value} {Z : State} (hw : ∀ d ∈ tables_1, d.before a0 Z = true) : EW Z a0 own_EL := (EW.cons (hw _ (List.mem_of_getElem? (i := 25) rfl)) (by decide) EW.nil)


theorem own_nz {args : Array Value} {s : State} {t : Term} {x : Int32} (ev : t.eval args s none [] s = some (.int x)) (h : (Jvm.Cond.not (.eq t (.int 0))).value args s none s [] = some true) : ¬ (x = (0 : Int32)) := fun q => by
  subst q
  have e := eq_i ev (rfl : (Term.int 0).eval args s none [] s = some (.int 0)) rfl
  rw [not_v h] at e
  simp at e


theorem own_narB (c : Int32) : nar .byte (c.toInt8.toInt32) = c.toInt8.toInt32 := by simp [nar]
def own_Str (Z : State) (h : Heap) (a : Addr) (cs : List Int32) : Prop := ∃ b k, Exa Z h a "java/lang/String" ∧ Fld Z h a "java/lang/String" "coder" "B" (.int (0 : Int32)) ∧ Fld Z h a "java/lang/String" "value" "[B" (.ref b) ∧ Arv Z h b k .byte (Int32.ofNat cs.length) (cs.map fun c => Value.int c.toInt8.toInt32) (.int (0 : Int32))
theorem own_strLt {Z : State} {h : Heap} {a : Addr} {cs : List Int32} (F : own_Str Z h a cs) : a < h.size := by
  obtain ⟨b, k, E, -⟩ := F
  exact E.lt
theorem own_strExt {Z : State} {h h' : Heap} {a : Addr} {cs : List Int32} (F : own_Str Z h a cs) (E : Ext h h') : own_Str Z h' a cs := by
  obtain ⟨b, k, h1, h2, h3, h4⟩ := F
  exact ⟨b, k, h1.ext E, h2.ext E, h3.ext E, h4.ext E⟩
theorem own_strKeep0 {Z : State} {h h' : Heap} {a : Addr} {cs : List Int32} (F : own_Str Z h a cs) (K : Keep h h' []) : own_Str Z h' a cs := by
  obtain ⟨b, k, h1, h2, h3, h4⟩ := F
  exact ⟨b, k, h1.keep K, h2.keep K nin0, h3.keep K nin0, h4.keep K nin0⟩
theorem own_strKeep1 {Z : State} {h h' : Heap} {a w : Addr} {cs : List Int32} {C : String} {n : Nat} {a0 : Array Value} (F : own_Str Z h a cs) (K : Keep h h' [w]) (E : Exa Z h w C) (hC : C ≠ "java/lang/String") (wi : (Jvm.Cond.instantiable C n).before a0 Z = true) : own_Str Z h' a cs := by
  obtain ⟨b, k, h1, h2, h3, h4⟩ := F
  have n1 : a ≠ w := Ne.symm (Exa.ne E h1 hC)
  have n2 : b ≠ w := Ne.symm (Exa.neArv E h4 wi)
  exact ⟨b, k, h1.keep K, h2.keep K (ninS n1 nin0), h3.keep K (ninS n1 nin0), h4.keep K (ninS n2 nin0)⟩


theorem own_safeNull {Z : State} {EL : List (String × Nat)} {vm : Vm} {h : Heap} {x : Addr} (hal : Z.vm.Alike vm) (E : Exa Z h x "java/lang/String") (F : Fld Z h x "java/lang/String" "value" "[B" .null) : Safe Z EL vm h x := fun B => by
  obtain ⟨cell, cf, k, i, f, h1, h2, h3, h4, h5, h6, h7⟩ := F
  obtain ⟨p, -, u, a, -, q, -, G, rfl | rfl⟩ := B
  · have e1 := G.ha
    cases (show h[q.sa]? = some q.sC from e1).symm.trans h1
    obtain ⟨cS, ⟨⟨-, -, -, ⟨c1, k1, i1, f1, -⟩, -, -, -, v1, -⟩, -⟩, -⟩ := G
    obtain ⟨k3, e3, -⟩ := State.fieldFound?_setVm (s := Z) hal h2
    have e4 := (show (Z.setVm vm).fieldFound? _ _ _ = _ from e3).symm.trans (show (Z.setVm vm).fieldFound? _ _ _ = _ from f1)
    simp only [Option.some.injEq, Prod.mk.injEq] at e4
    rw [← e4.2.2.2, h7] at v1
    simp at v1
  · have e1 := G.hd
    obtain ⟨cell2, k2, g1, g2, g3, -, -⟩ := E
    cases (show h[q.sd]? = some q.SA from e1).symm.trans g1
    obtain ⟨cS, -, -, f, -⟩ := G
    have f' : Z.vm.findClass "[B" = some q.SA.cls := by rw [← hal.findClass]; exact f
    exact absurd (rfl : q.SA.cls = q.SA.cls) (ids_ne g2 f' (by decide))


theorem own_strE {Z : State} {h : Heap} {a : Addr} {cs : List Int32} (F : own_Str Z h a cs) : Exa Z h a "java/lang/String" := by
  obtain ⟨b, k, E, -⟩ := F
  exact E
theorem own_metMono {l : Launch} {y : MethodName} {S : Spec} {P : Array Value → State → Prop} {K : Program → Env → List Frame → State → Array Value → Prop} {Q Q' : Array Value → State → Outcome → State → Prop} (M : MetFree l y S P K Q) (hq : ∀ a U o U', Q a U o U' → Q' a U o U') : MetFree l y S P K Q' := by
  intro p e ha hc hk s m args below hf happ hP hK
  obtain ⟨n, o, h1, h2, h3, h4⟩ := M p e ha hc hk s m args below hf happ hP hK
  exact ⟨n, o, h1, h2, h3, hq _ _ _ _ h4⟩
def own_small (cs : List Int32) : Prop := cs.length ≤ 2 ∧ ∀ c ∈ cs, 0 ≤ c.toInt ∧ c.toInt ≤ 255
theorem own_shape {cs : List Int32} (h : own_small cs) : cs = [] ∨ (∃ x, cs = [x]) ∨ ∃ x y, cs = [x, y] := by
  obtain ⟨h1, -⟩ := h
  match cs, h1 with
  | [], _ => exact Or.inl rfl
  | [x], _ => exact Or.inr (Or.inl ⟨x, rfl⟩)
  | [x, y], _ => exact Or.inr (Or.inr ⟨x, y, rfl⟩)
  | _ :: _ :: _ :: _, h => simp at h
theorem own_byteInj {x y : Int32} (hx : 0 ≤ x.toInt ∧ x.toInt ≤ 255) (hy : 0 ≤ y.toInt ∧ y.toInt ≤ 255) (h : x.toInt8.toInt32 = y.toInt8.toInt32) : x = y := by
  have a := c_i2b x
  have b := c_i2b y
  rw [h] at a
  apply Int32.toInt_inj.mp
  omega
def own_leq (a b : List Int32) : Int32 := if a = b then (1 : Int32) else (0 : Int32)

theorem pn_java_lang_StringUTF16 : plainName "java/lang/StringUTF16" = true := by first | (simp [plainName, overriddenIn]; done) | decide +kernel
theorem d_jdk_52_method_21_code_0 : decode jdk_52_method_21_code 0 = .ok (.iconst 0, 1) := by decide +kernel
theorem d_jdk_52_method_21_code_1 : decode jdk_52_method_21_code 1 = .ok (.istore 5, 2) := by decide +kernel
theorem d_jdk_52_method_21_code_3 : decode jdk_52_method_21_code 3 = .ok (.iload 5, 2) := by decide +kernel
theorem d_jdk_52_method_21_code_5 : decode jdk_52_method_21_code 5 = .ok (.iload 4, 2) := by decide +kernel
theorem d_jdk_52_method_21_code_7 : decode jdk_52_method_21_code 7 = .ok (.if_icmp .ge 37, 3) := by decide +kernel
theorem d_jdk_52_method_21_code_10 : decode jdk_52_method_21_code 10 = .ok (.aload_n 0, 1) := by decide +kernel
theorem d_jdk_52_method_21_code_11 : decode jdk_52_method_21_code 11 = .ok (.iload_n 1, 1) := by decide +kernel
theorem d_jdk_52_method_21_code_12 : decode jdk_52_method_21_code 12 = .ok (.caload, 1) := by decide +kernel
theorem d_jdk_52_method_21_code_13 : decode jdk_52_method_21_code 13 = .ok (.istore 6, 2) := by decide +kernel
theorem d_jdk_52_method_21_code_15 : decode jdk_52_method_21_code 15 = .ok (.iload 6, 2) := by decide +kernel
theorem d_jdk_52_method_21_code_17 : decode jdk_52_method_21_code 17 = .ok (.sipush 255, 3) := by decide +kernel
theorem d_jdk_52_method_21_code_20 : decode jdk_52_method_21_code 20 = .ok (.if_icmp .le 6, 3) := by decide +kernel
theorem d_jdk_52_method_21_code_26 : decode jdk_52_method_21_code 26 = .ok (.aload_n 2, 1) := by decide +kernel
theorem d_jdk_52_method_21_code_27 : decode jdk_52_method_21_code 27 = .ok (.iload_n 3, 1) := by decide +kernel
theorem d_jdk_52_method_21_code_28 : decode jdk_52_method_21_code 28 = .ok (.iload 6, 2) := by decide +kernel
theorem d_jdk_52_method_21_code_30 : decode jdk_52_method_21_code 30 = .ok (.i2b, 1) := by decide +kernel
theorem d_jdk_52_method_21_code_31 : decode jdk_52_method_21_code 31 = .ok (.bastore, 1) := by decide +kernel
theorem d_jdk_52_method_21_code_32 : decode jdk_52_method_21_code 32 = .ok (.iinc 1 1, 3) := by decide +kernel
theorem d_jdk_52_method_21_code_35 : decode jdk_52_method_21_code 35 = .ok (.iinc 3 1, 3) := by decide +kernel
theorem d_jdk_52_method_21_code_38 : decode jdk_52_method_21_code 38 = .ok (.iinc 5 1, 3) := by decide +kernel
theorem d_jdk_52_method_21_code_41 : decode jdk_52_method_21_code 41 = .ok (.goto (-38), 3) := by decide +kernel
theorem d_jdk_52_method_21_code_44 : decode jdk_52_method_21_code 44 = .ok (.iload 4, 2) := by decide +kernel
theorem d_jdk_52_method_21_code_46 : decode jdk_52_method_21_code 46 = .ok (.ireturn, 1) := by decide +kernel
theorem ef_rmCmpA1 (m : MethodId) (a1 : Addr) (a3 : Addr) : entryFrame m #[(.ref a1), (.int (0 : Int32)), (.ref a3), (.int (0 : Int32)), (.int (1 : Int32))] 7 = mkF m 0 #[.val (.ref a1), .val (.int (0 : Int32)), .val (.ref a3), .val (.int (0 : Int32)), .val (.int (1 : Int32)), .unset, .unset] [] := by first | (simp [entryFrame, mkF, argsToLocals, Value.category]; done) | rfl
def Q_rmCmpA1 (Z : State) (a1 : Addr) (a3 : Addr) (kc : ClassId) (kb : ClassId) (c0 : Int32) (h0 : Heap) (n0 : Nat) (v : Option Value) (h : Heap) (L : List Loc) : Prop := v = some (.int (1 : Int32)) ∧ Fr n0 L ∧ Keep h0 h [a3] ∧ Arv Z h a3 kb .byte (1 : Int32) [(.int (c0.toInt8.toInt32))] (.int (0 : Int32))
set_option maxRecDepth 65536 in
set_option maxHeartbeats 40000000 in
theorem rmCmpA1 (l : Launch) (Z : State) (a0 : Array Value) (hw : ∀ d ∈ tables_1, d.before a0 Z = true) (ws : List Jvm.Cond) (a1 : Addr) (a3 : Addr) (kc : ClassId) (kb : ClassId) (c0 : Int32) (h0 : Heap) (n0 : Nat) (Z0 : n0 ≤ h0.size) (P0 : Arv Z h0 a1 kc .char (1 : Int32) [(.int c0)] (.int (0 : Int32))) (P1 : Arv Z h0 a3 kb .byte (1 : Int32) [(.int (0 : Int32))] (.int (0 : Int32))) (g_a3 : n0 ≤ a3) (ne_a1_a3 : a1 ≠ a3) (hc0 : ¬ ((255 : Int32) < c0)) :
    MetFree l (⟨"java/lang/StringUTF16", "compress", "([CI[BII)I"⟩ : MethodName) (head1 (Jvm.Cond.code (⟨"java/lang/StringUTF16", "compress", "([CI[BII)I"⟩ : MethodName) jdk_52_method_21_code 7 (some .int) :: ws) ({ frames := 0, cells := 0, slots := 0, locals := 0 } : Room)) (fun a U => a = #[(.ref a1), (.int (0 : Int32)), (.ref a3), (.int (0 : Int32)), (.int (1 : Int32))] ∧ Z.Warmed39 U.vm ∧ U.heap = h0) (fun _ _ _ _ _ => True) (fun _ U o U' => ∃ v L, o = .returned v ∧ Q_rmCmpA1 Z a1 a3 kc kb c0 h0 n0 v U'.heap L ∧ FrameEnd U o U' L ({ frames := 0, cells := 0, slots := 0, locals := 0 } : Room).cells ({ frames := 0, cells := 0, slots := 0, locals := 0 } : Room).slots) := by
  refine MetFree.of_bodySF (plainFor_of_name pn_java_lang_StringUTF16) hisR ?_
  intro p e s m args below meth c s₁ Bd hml0 hP hK
  obtain ⟨rfl, hZ, hh⟩ := hP
  have hx := Bd.exec
  have hby := Bd.bytes
  have hml : c.maxLocals = 7 := hml0
  have hown : s.vm.findClass "java/lang/StringUTF16" = some m.cls := findClass_of_methodNamed Bd.named
  have hnm := (name_of_methodNamed Bd.named Bd.method).1
  have X0 : Stand p l e ({ frames := 0, cells := 0, slots := 0, locals := 0 } : Room) s m #[(.ref a1), (.int (0 : Int32)), (.ref a3), (.int (0 : Int32)), (.int (1 : Int32))] below meth c s₁ [] 0 0 := Stand.of_body Bd
  have e0 : s₁.heap = h0 := by rw [← hh, Bd.state]; rfl
  have N0 := Fr.nil n0
  refine own_fw (A' := (s₁.setTop (mkF m 0 #[.val (.ref a1), .val (.int (0 : Int32)), .val (.ref a3), .val (.int (0 : Int32)), .val (.int (1 : Int32)), .unset, .unset] []))) (fun t k => castTop (ef_rmCmpA1 m a1 a3) k) ?_
  refine own_fw (A' := (s₁.setTop (mkF m 1 #[.val (.ref a1), .val (.int (0 : Int32)), .val (.ref a3), .val (.int (0 : Int32)), .val (.int (1 : Int32)), .unset, .unset] [(.int (0 : Int32))]))) (fun t k => XS.iconst X0.here hx rfl (hb hby d_jdk_52_method_21_code_0) k) ?_
  refine own_fw (A' := (s₁.setTop (mkF m 3 #[.val (.ref a1), .val (.int (0 : Int32)), .val (.ref a3), .val (.int (0 : Int32)), .val (.int (1 : Int32)), .val (.int (0 : Int32)), .unset] []))) (fun t k => XS.istore X0.here hx rfl (hb hby d_jdk_52_method_21_code_1) rfl (l' := #[.val (.ref a1), .val (.int (0 : Int32)), .val (.ref a3), .val (.int (0 : Int32)), .val (.int (1 : Int32)), .val (.int (0 : Int32)), .unset]) rfl k) ?_
  refine own_fw (A' := (s₁.setTop (mkF m 5 #[.val (.ref a1), .val (.int (0 : Int32)), .val (.ref a3), .val (.int (0 : Int32)), .val (.int (1 : Int32)), .val (.int (0 : Int32)), .unset] [(.int (0 : Int32))]))) (fun t k => XS.iload X0.here hx rfl (hb hby d_jdk_52_method_21_code_3) rfl k) ?_
  refine own_fw (A' := (s₁.setTop (mkF m 7 #[.val (.ref a1), .val (.int (0 : Int32)), .val (.ref a3), .val (.int (0 : Int32)), .val (.int (1 : Int32)), .val (.int (0 : Int32)), .unset] [(.int (1 : Int32)), (.int (0 : Int32))]))) (fun t k => XS.iload X0.here hx rfl (hb hby d_jdk_52_method_21_code_5) rfl k) ?_
  refine own_fw (A' := (s₁.setTop (mkF m 10 #[.val (.ref a1), .val (.int (0 : Int32)), .val (.ref a3), .val (.int (0 : Int32)), .val (.int (1 : Int32)), .val (.int (0 : Int32)), .unset] []))) (fun t k => XS.icmpNo X0.here hx rfl (hb hby d_jdk_52_method_21_code_7) rfl (XT.ii_ge_f (by decide)) k) ?_
  refine own_fw (A' := (s₁.setTop (mkF m 11 #[.val (.ref a1), .val (.int (0 : Int32)), .val (.ref a3), .val (.int (0 : Int32)), .val (.int (1 : Int32)), .val (.int (0 : Int32)), .unset] [(.ref a1)]))) (fun t k => XS.aloadN X0.here hx rfl (hb hby d_jdk_52_method_21_code_10) rfl rfl k) ?_
  refine own_fw (A' := (s₁.setTop (mkF m 12 #[.val (.ref a1), .val (.int (0 : Int32)), .val (.ref a3), .val (.int (0 : Int32)), .val (.int (1 : Int32)), .val (.int (0 : Int32)), .unset] [(.int (0 : Int32)), (.ref a1)]))) (fun t k => XS.iloadN X0.here hx rfl (hb hby d_jdk_52_method_21_code_11) rfl k) ?_
  obtain ⟨cl1, Ar1, q1, S1, M1, H1, G1⟩ := id P0
  have hin1 : ¬ ((0 : Int32) < 0 ∨ cl1.slots.size ≤ ((0 : Int32)).toNatClampNeg) := inb_of S1 ⟨by decide, by decide⟩
  have hat1 : cl1.slots[((0 : Int32)).toNatClampNeg]? = some (.int c0) := H1.at hin1 rfl
  refine own_fw (A' := (s₁.setTop (mkF m 13 #[.val (.ref a1), .val (.int (0 : Int32)), .val (.ref a3), .val (.int (0 : Int32)), .val (.int (1 : Int32)), .val (.int (0 : Int32)), .unset] [(.int c0)]))) (fun t k => X0.caload hx (j := (0 : Int32)) (v := (.int c0)) (by rw [e0]; exact Ar1.1) (State.isArrayOf_alike hZ.alike Ar1.2.1) Ar1.2.2 hin1 hat1 (g := (mkF m 12 #[.val (.ref a1), .val (.int (0 : Int32)), .val (.ref a3), .val (.int (0 : Int32)), .val (.int (1 : Int32)), .val (.int (0 : Int32)), .unset] [(.int (0 : Int32)), (.ref a1)])) rfl rfl (hb hby d_jdk_52_method_21_code_12) _ k) ?_
  refine own_fw (A' := (s₁.setTop (mkF m 15 #[.val (.ref a1), .val (.int (0 : Int32)), .val (.ref a3), .val (.int (0 : Int32)), .val (.int (1 : Int32)), .val (.int (0 : Int32)), .val (.int c0)] []))) (fun t k => XS.istore X0.here hx rfl (hb hby d_jdk_52_method_21_code_13) rfl (l' := #[.val (.ref a1), .val (.int (0 : Int32)), .val (.ref a3), .val (.int (0 : Int32)), .val (.int (1 : Int32)), .val (.int (0 : Int32)), .val (.int c0)]) rfl k) ?_
  refine own_fw (A' := (s₁.setTop (mkF m 17 #[.val (.ref a1), .val (.int (0 : Int32)), .val (.ref a3), .val (.int (0 : Int32)), .val (.int (1 : Int32)), .val (.int (0 : Int32)), .val (.int c0)] [(.int c0)]))) (fun t k => XS.iload X0.here hx rfl (hb hby d_jdk_52_method_21_code_15) rfl k) ?_
  refine own_fw (A' := (s₁.setTop (mkF m 20 #[.val (.ref a1), .val (.int (0 : Int32)), .val (.ref a3), .val (.int (0 : Int32)), .val (.int (1 : Int32)), .val (.int (0 : Int32)), .val (.int c0)] [(.int (255 : Int32)), (.int c0)]))) (fun t k => XS.sipush X0.here hx rfl (hb hby d_jdk_52_method_21_code_17) k) ?_
  refine own_fw (A' := (s₁.setTop (mkF m 26 #[.val (.ref a1), .val (.int (0 : Int32)), .val (.ref a3), .val (.int (0 : Int32)), .val (.int (1 : Int32)), .val (.int (0 : Int32)), .val (.int c0)] []))) (fun t k => XS.icmpYes X0.here hx rfl (pc0 := 20) (pc' := 26) rfl (hb hby d_jdk_52_method_21_code_20) rfl (XT.ii_le_t hc0) (by decide) (by decide) k) ?_
  refine own_fw (A' := (s₁.setTop (mkF m 27 #[.val (.ref a1), .val (.int (0 : Int32)), .val (.ref a3), .val (.int (0 : Int32)), .val (.int (1 : Int32)), .val (.int (0 : Int32)), .val (.int c0)] [(.ref a3)]))) (fun t k => XS.aloadN X0.here hx rfl (hb hby d_jdk_52_method_21_code_26) rfl rfl k) ?_
  refine own_fw (A' := (s₁.setTop (mkF m 28 #[.val (.ref a1), .val (.int (0 : Int32)), .val (.ref a3), .val (.int (0 : Int32)), .val (.int (1 : Int32)), .val (.int (0 : Int32)), .val (.int c0)] [(.int (0 : Int32)), (.ref a3)]))) (fun t k => XS.iloadN X0.here hx rfl (hb hby d_jdk_52_method_21_code_27) rfl k) ?_
  refine own_fw (A' := (s₁.setTop (mkF m 30 #[.val (.ref a1), .val (.int (0 : Int32)), .val (.ref a3), .val (.int (0 : Int32)), .val (.int (1 : Int32)), .val (.int (0 : Int32)), .val (.int c0)] [(.int c0), (.int (0 : Int32)), (.ref a3)]))) (fun t k => XS.iload X0.here hx rfl (hb hby d_jdk_52_method_21_code_28) rfl k) ?_
  refine own_fw (A' := (s₁.setTop (mkF m 31 #[.val (.ref a1), .val (.int (0 : Int32)), .val (.ref a3), .val (.int (0 : Int32)), .val (.int (1 : Int32)), .val (.int (0 : Int32)), .val (.int c0)] [(.int (c0.toInt8.toInt32)), (.int (0 : Int32)), (.ref a3)]))) (fun t k => XS.i2b X0.here hx rfl (hb hby d_jdk_52_method_21_code_30) rfl k) ?_
  obtain ⟨cl2, Ar2, q2, S2, M2, H2, G2⟩ := id P1
  have hin2 : ¬ ((0 : Int32) < 0 ∨ cl2.slots.size ≤ ((0 : Int32)).toNatClampNeg) := inb_of S2 ⟨by decide, by decide⟩
  obtain ⟨T2, h2, X2, e2, W2, st2⟩ := stB X0 hx hZ e0 Ar2 (j := (0 : Int32)) hin2 (g := (mkF m 31 #[.val (.ref a1), .val (.int (0 : Int32)), .val (.ref a3), .val (.int (0 : Int32)), .val (.int (1 : Int32)), .val (.int (0 : Int32)), .val (.int c0)] [(.int (c0.toInt8.toInt32)), (.int (0 : Int32)), (.ref a3)])) rfl rfl (hb hby d_jdk_52_method_21_code_31)
  rw [own_narB] at W2
  have V2 : Arv Z h2 a3 kb .byte (1 : Int32) [(.int (c0.toInt8.toInt32))] (.int (0 : Int32)) := Arv.set Ar2 q2 S2 M2 H2 G2 (fits_nar_byte _) W2 0 rfl (Nat.le_of_ble_eq_true rfl)
  have Nf2 := Fr.snoc X2 N0 g_a3
  have K2 : Keep h0 h2 [a3] := (Keep.refl h0 [a3]).wr W2 (Or.inl (List.mem_of_getElem? (i := 0) rfl))
  have Z2 : n0 ≤ h2.size := Nat.le_trans Z0 (Keep.of_wr W2).1
  refine own_fw (A' := (T2.setTop (mkF m 32 #[.val (.ref a1), .val (.int (0 : Int32)), .val (.ref a3), .val (.int (0 : Int32)), .val (.int (1 : Int32)), .val (.int (0 : Int32)), .val (.int c0)] []))) (fun t k => st2 _ k) ?_
  refine own_fw (A' := (T2.setTop (mkF m 35 #[.val (.ref a1), .val (.int (1 : Int32)), .val (.ref a3), .val (.int (0 : Int32)), .val (.int (1 : Int32)), .val (.int (0 : Int32)), .val (.int c0)] []))) (fun t k => XS.iinc X2.here hx rfl (hb hby d_jdk_52_method_21_code_32) rfl (l' := #[.val (.ref a1), .val (.int (1 : Int32)), .val (.ref a3), .val (.int (0 : Int32)), .val (.int (1 : Int32)), .val (.int (0 : Int32)), .val (.int c0)]) rfl k) ?_
  refine own_fw (A' := (T2.setTop (mkF m 38 #[.val (.ref a1), .val (.int (1 : Int32)), .val (.ref a3), .val (.int (1 : Int32)), .val (.int (1 : Int32)), .val (.int (0 : Int32)), .val (.int c0)] []))) (fun t k => XS.iinc X2.here hx rfl (hb hby d_jdk_52_method_21_code_35) rfl (l' := #[.val (.ref a1), .val (.int (1 : Int32)), .val (.ref a3), .val (.int (1 : Int32)), .val (.int (1 : Int32)), .val (.int (0 : Int32)), .val (.int c0)]) rfl k) ?_
  refine own_fw (A' := (T2.setTop (mkF m 41 #[.val (.ref a1), .val (.int (1 : Int32)), .val (.ref a3), .val (.int (1 : Int32)), .val (.int (1 : Int32)), .val (.int (1 : Int32)), .val (.int c0)] []))) (fun t k => XS.iinc X2.here hx rfl (hb hby d_jdk_52_method_21_code_38) rfl (l' := #[.val (.ref a1), .val (.int (1 : Int32)), .val (.ref a3), .val (.int (1 : Int32)), .val (.int (1 : Int32)), .val (.int (1 : Int32)), .val (.int c0)]) rfl k) ?_
  refine own_fw (A' := (T2.setTop (mkF m 3 #[.val (.ref a1), .val (.int (1 : Int32)), .val (.ref a3), .val (.int (1 : Int32)), .val (.int (1 : Int32)), .val (.int (1 : Int32)), .val (.int c0)] []))) (fun t k => XS.goto X2.here hx rfl (pc0 := 41) (pc' := 3) rfl (hb hby d_jdk_52_method_21_code_41) (by decide) (by decide) k) ?_
  refine own_fw (A' := (T2.setTop (mkF m 5 #[.val (.ref a1), .val (.int (1 : Int32)), .val (.ref a3), .val (.int (1 : Int32)), .val (.int (1 : Int32)), .val (.int (1 : Int32)), .val (.int c0)] [(.int (1 : Int32))]))) (fun t k => XS.iload X2.here hx rfl (hb hby d_jdk_52_method_21_code_3) rfl k) ?_
  refine own_fw (A' := (T2.setTop (mkF m 7 #[.val (.ref a1), .val (.int (1 : Int32)), .val (.ref a3), .val (.int (1 : Int32)), .val (.int (1 : Int32)), .val (.int (1 : Int32)), .val (.int c0)] [(.int (1 : Int32)), (.int (1 : Int32))]))) (fun t k => XS.iload X2.here hx rfl (hb hby d_jdk_52_method_21_code_5) rfl k) ?_
  refine own_fw (A' := (T2.setTop (mkF m 44 #[.val (.ref a1), .val (.int (1 : Int32)), .val (.ref a3), .val (.int (1 : Int32)), .val (.int (1 : Int32)), .val (.int (1 : Int32)), .val (.int c0)] []))) (fun t k => XS.icmpYes X2.here hx rfl (pc0 := 7) (pc' := 44) rfl (hb hby d_jdk_52_method_21_code_7) rfl (XT.ii_ge_t (by decide)) (by decide) (by decide) k) ?_
  refine own_fw (A' := (T2.setTop (mkF m 46 #[.val (.ref a1), .val (.int (1 : Int32)), .val (.ref a3), .val (.int (1 : Int32)), .val (.int (1 : Int32)), .val (.int (1 : Int32)), .val (.int c0)] [(.int (1 : Int32))]))) (fun t k => XS.iload X2.here hx rfl (hb hby d_jdk_52_method_21_code_44) rfl k) ?_
  obtain ⟨fs, hr, hrun, hended, hW, hsame⟩ := X2.leave (v := some (.int (1 : Int32))) (fun h => by rw [Bd.returns] at h; cases h)
  refine ⟨_, _, ?_, hrun, hended, _, _, rfl, ?_, ⟨_, rfl⟩, hW, hsame.mono (by decide) (by decide)⟩
  · exact retOut X2 hx Bd.returns rfl (Or.inl ⟨rfl, by simp, _, rfl⟩) (hb hby d_jdk_52_method_21_code_46) hr
  · show Q_rmCmpA1 Z a1 a3 kc kb c0 h0 n0 _ T2.heap _
    rw [e2]
    exact ⟨rfl, Nf2, K2, V2⟩
theorem d_jdk_52_method_16_code_0 : decode jdk_52_method_16_code 0 = .ok (.iload_n 2, 1) := by decide +kernel
theorem d_jdk_52_method_16_code_1 : decode jdk_52_method_16_code 1 = .ok (.newarray .byte, 2) := by decide +kernel
theorem d_jdk_52_method_16_code_3 : decode jdk_52_method_16_code 3 = .ok (.astore_n 3, 1) := by decide +kernel
theorem d_jdk_52_method_16_code_4 : decode jdk_52_method_16_code 4 = .ok (.aload_n 0, 1) := by decide +kernel
theorem d_jdk_52_method_16_code_5 : decode jdk_52_method_16_code 5 = .ok (.iload_n 1, 1) := by decide +kernel
theorem d_jdk_52_method_16_code_6 : decode jdk_52_method_16_code 6 = .ok (.aload_n 3, 1) := by decide +kernel
theorem d_jdk_52_method_16_code_7 : decode jdk_52_method_16_code 7 = .ok (.iconst 0, 1) := by decide +kernel
theorem d_jdk_52_method_16_code_8 : decode jdk_52_method_16_code 8 = .ok (.iload_n 2, 1) := by decide +kernel
theorem d_jdk_52_method_16_code_9 : decode jdk_52_method_16_code 9 = .ok (.invokestatic 115, 3) := by decide +kernel
theorem pd___CI_BII_I : parseMethodDescriptor "([CI[BII)I" = some ⟨[(.array .char), .int, (.array .byte), .int, .int], some .int⟩ := by decide +kernel
theorem d_jdk_52_method_16_code_12 : decode jdk_52_method_16_code 12 = .ok (.istore 4, 2) := by decide +kernel
theorem d_jdk_52_method_16_code_14 : decode jdk_52_method_16_code 14 = .ok (.iload 4, 2) := by decide +kernel
theorem d_jdk_52_method_16_code_16 : decode jdk_52_method_16_code 16 = .ok (.iload_n 2, 1) := by decide +kernel
theorem d_jdk_52_method_16_code_17 : decode jdk_52_method_16_code 17 = .ok (.if_icmp .eq 40, 3) := by decide +kernel
theorem d_jdk_52_method_16_code_57 : decode jdk_52_method_16_code 57 = .ok (.aload_n 3, 1) := by decide +kernel
theorem d_jdk_52_method_16_code_58 : decode jdk_52_method_16_code 58 = .ok (.areturn, 1) := by decide +kernel
theorem ef_rmCmpB1 (m : MethodId) (a1 : Addr) : entryFrame m #[(.ref a1), (.int (0 : Int32)), (.int (1 : Int32))] 6 = mkF m 0 #[.val (.ref a1), .val (.int (0 : Int32)), .val (.int (1 : Int32)), .unset, .unset, .unset] [] := by first | (simp [entryFrame, mkF, argsToLocals, Value.category]; done) | rfl
def Q_rmCmpB1 (Z : State) (a1 : Addr) (kc : ClassId) (c0 : Int32) (h0 : Heap) (n0 : Nat) (v : Option Value) (h : Heap) (L : List Loc) : Prop := ∃ b : Addr, ∃ kb : ClassId, v = some (.ref b) ∧ Fr n0 L ∧ Keep h0 h [] ∧ Arv Z h b kb .byte (1 : Int32) [(.int (c0.toInt8.toInt32))] (.int (0 : Int32)) ∧ (h0.size ≤ b)
set_option maxRecDepth 65536 in
set_option maxHeartbeats 40000000 in
theorem rmCmpB1 (l : Launch) (Z : State) (a0 : Array Value) (hw : ∀ d ∈ tables_1, d.before a0 Z = true) (ws : List Jvm.Cond) (a1 : Addr) (kc : ClassId) (c0 : Int32) (h0 : Heap) (n0 : Nat) (Z0 : n0 ≤ h0.size) (P0 : Arv Z h0 a1 kc .char (1 : Int32) [(.int c0)] (.int (0 : Int32))) (hc0 : ¬ ((255 : Int32) < c0)) :
    MetFree l (⟨"java/lang/StringUTF16", "compress", "([CII)[B"⟩ : MethodName) (head1 (Jvm.Cond.code (⟨"java/lang/StringUTF16", "compress", "([CII)[B"⟩ : MethodName) jdk_52_method_16_code 6 (some (.array .byte)) :: ws) ({ frames := 1, cells := 1, slots := 1, locals := 18 } : Room)) (fun a U => a = #[(.ref a1), (.int (0 : Int32)), (.int (1 : Int32))] ∧ Z.Warmed39 U.vm ∧ U.heap = h0) (fun _ _ _ _ _ => True) (fun _ U o U' => ∃ v L, o = .returned v ∧ Q_rmCmpB1 Z a1 kc c0 h0 n0 v U'.heap L ∧ FrameEnd U o U' L ({ frames := 1, cells := 1, slots := 1, locals := 18 } : Room).cells ({ frames := 1, cells := 1, slots := 1, locals := 18 } : Room).slots) := by
  refine MetFree.of_bodySF (plainFor_of_name pn_java_lang_StringUTF16) hisR ?_
  intro p e s m args below meth c s₁ Bd hml0 hP hK
  obtain ⟨rfl, hZ, hh⟩ := hP
  have hx := Bd.exec
  have hby := Bd.bytes
  have hml : c.maxLocals = 6 := hml0
  have hown : s.vm.findClass "java/lang/StringUTF16" = some m.cls := findClass_of_methodNamed Bd.named
  have hnm := (name_of_methodNamed Bd.named Bd.method).1
  have X0 : Stand p l e ({ frames := 1, cells := 1, slots := 1, locals := 18 } : Room) s m #[(.ref a1), (.int (0 : Int32)), (.int (1 : Int32))] below meth c s₁ [] 0 0 := Stand.of_body Bd
  have e0 : s₁.heap = h0 := by rw [← hh, Bd.state]; rfl
  have N0 := Fr.nil n0
  refine own_fw (A' := (s₁.setTop (mkF m 0 #[.val (.ref a1), .val (.int (0 : Int32)), .val (.int (1 : Int32)), .unset, .unset, .unset] []))) (fun t k => castTop (ef_rmCmpB1 m a1) k) ?_
  refine own_fw (A' := (s₁.setTop (mkF m 1 #[.val (.ref a1), .val (.int (0 : Int32)), .val (.int (1 : Int32)), .unset, .unset, .unset] [(.int (1 : Int32))]))) (fun t k => XS.iloadN X0.here hx rfl (hb hby d_jdk_52_method_16_code_0) rfl k) ?_
  obtain ⟨T1, h1, k1, X1, e1, E1, A1, st1⟩ := newP X0 hx hZ (hw _ (List.mem_of_getElem? (i := 26) rfl)) e0 (g := (mkF m 1 #[.val (.ref a1), .val (.int (0 : Int32)), .val (.int (1 : Int32)), .unset, .unset, .unset] [(.int (1 : Int32))])) rfl (hb hby d_jdk_52_method_16_code_1) rfl (by decide) (cap := 1) (by decide) (by decide) (by decide) (by decide)
  obtain ⟨b1, gb1⟩ : ∃ z, z = h0.size := ⟨_, rfl⟩
  have g_b1 : n0 ≤ b1 := Nat.le_trans Z0 (Nat.le_of_eq gb1.symm)
  have sz_b1 : h0.size ≤ b1 := Nat.le_trans (Keep.refl h0 []).1 (Nat.le_of_eq gb1.symm)
  have ne_a1_b1 : a1 ≠ b1 := Nat.ne_of_lt (Nat.lt_of_lt_of_le P0.lt (Nat.le_of_eq gb1.symm))
  rw [← gb1] at A1 st1
  have V_b1 : Arv Z h1 b1 k1 .byte (1 : Int32) [(.int (0 : Int32))] (.int (0 : Int32)) := (Arv.new A1 (by decide)).pad (pad_rep [] (.int (0 : Int32)) 1)
  have K1 : Keep h0 h1 [] := (Keep.refl h0 []).ext E1
  have Z1 : n0 ≤ h1.size := Nat.le_trans Z0 E1.1
  refine own_fw (A' := (T1.setTop (mkF m 3 #[.val (.ref a1), .val (.int (0 : Int32)), .val (.int (1 : Int32)), .unset, .unset, .unset] [(.ref b1)]))) (fun t k => st1 _ k) ?_
  refine own_fw (A' := (T1.setTop (mkF m 4 #[.val (.ref a1), .val (.int (0 : Int32)), .val (.int (1 : Int32)), .val (.ref b1), .unset, .unset] []))) (fun t k => XS.astoreN X1.here hx rfl (hb hby d_jdk_52_method_16_code_3) rfl rfl (l' := #[.val (.ref a1), .val (.int (0 : Int32)), .val (.int (1 : Int32)), .val (.ref b1), .unset, .unset]) rfl k) ?_
  refine own_fw (A' := (T1.setTop (mkF m 5 #[.val (.ref a1), .val (.int (0 : Int32)), .val (.int (1 : Int32)), .val (.ref b1), .unset, .unset] [(.ref a1)]))) (fun t k => XS.aloadN X1.here hx rfl (hb hby d_jdk_52_method_16_code_4) rfl rfl k) ?_
  refine own_fw (A' := (T1.setTop (mkF m 6 #[.val (.ref a1), .val (.int (0 : Int32)), .val (.int (1 : Int32)), .val (.ref b1), .unset, .unset] [(.int (0 : Int32)), (.ref a1)]))) (fun t k => XS.iloadN X1.here hx rfl (hb hby d_jdk_52_method_16_code_5) rfl k) ?_
  refine own_fw (A' := (T1.setTop (mkF m 7 #[.val (.ref a1), .val (.int (0 : Int32)), .val (.int (1 : Int32)), .val (.ref b1), .unset, .unset] [(.ref b1), (.int (0 : Int32)), (.ref a1)]))) (fun t k => XS.aloadN X1.here hx rfl (hb hby d_jdk_52_method_16_code_6) rfl rfl k) ?_
  refine own_fw (A' := (T1.setTop (mkF m 8 #[.val (.ref a1), .val (.int (0 : Int32)), .val (.int (1 : Int32)), .val (.ref b1), .unset, .unset] [(.int (0 : Int32)), (.ref b1), (.int (0 : Int32)), (.ref a1)]))) (fun t k => XS.iconst X1.here hx rfl (hb hby d_jdk_52_method_16_code_7) k) ?_
  refine own_fw (A' := (T1.setTop (mkF m 9 #[.val (.ref a1), .val (.int (0 : Int32)), .val (.int (1 : Int32)), .val (.ref b1), .unset, .unset] [(.int (1 : Int32)), (.int (0 : Int32)), (.ref b1), (.int (0 : Int32)), (.ref a1)]))) (fun t k => XS.iloadN X1.here hx rfl (hb hby d_jdk_52_method_16_code_8) rfl k) ?_
  obtain ⟨_, _, ⟨T2, L2, k2, n2⟩, -, X2, ⟨Lc2, hQ2, l2, y2, z2⟩, st2⟩ := Jvm.LawKit.callS X1 hx (y := (⟨"java/lang/StringUTF16", "compress", "([CI[BII)I"⟩ : MethodName)) hown (mvT hZ (hw _ (List.mem_of_getElem? (i := 73) rfl))) (mvT hZ (hw _ (List.mem_of_getElem? (i := 74) rfl))) (mvT hZ (hw _ (List.mem_of_getElem? (i := 71) rfl))) (mvT hZ (hw _ (List.mem_of_getElem? (i := 75) rfl))) (by decide) (backOf (W := 0) (rmCmpA1 l Z a0 hw [] a1 b1 kc k1 c0 h1 n0 Z1 (P0.ext E1) V_b1 g_b1 ne_a1_b1 hc0) hZ (hw _ (List.mem_of_getElem? (i := 75) rfl)) (hw _ (List.mem_of_getElem? (i := 71) rfl)) (by decide) (by decide)) (g := (mkF m 9 #[.val (.ref a1), .val (.int (0 : Int32)), .val (.int (1 : Int32)), .val (.ref b1), .unset, .unset] [(.int (1 : Int32)), (.int (0 : Int32)), (.ref b1), (.int (0 : Int32)), (.ref a1)])) rfl (by rw [hml]; rfl) (argsL := [(.ref a1), (.int (0 : Int32)), (.ref b1), (.int (0 : Int32)), (.int (1 : Int32))]) (rest := []) (lenOf pd___CI_BII_I rfl) rfl (by show 2 * 0 + _ ≤ _; exact Nat.le_of_eq rfl) (hb hby d_jdk_52_method_16_code_9) (fun _ _ => ⟨rfl, e1, (by decide : 1 + 0 ≤ _), (by decide : 1 + 0 ≤ _)⟩)
  dsimp only [Pt.U, Pt.locs, Pt.cells, Pt.slots] at X2 l2 y2 z2 st2 hQ2
  subst l2 y2 z2
  obtain ⟨rfl, Nq2, Kq2, Fq2_0⟩ := hQ2
  have Nf2 := Fr.app N0 Nq2
  have K2 : Keep h0 T2.heap [] := K1.trans Kq2 (allS (Or.inr sz_b1) all0)
  have Z2 : n0 ≤ T2.heap.size := Nat.le_trans Z1 Kq2.1
  refine own_fw (A' := (T2.setTop (mkF m 12 #[.val (.ref a1), .val (.int (0 : Int32)), .val (.int (1 : Int32)), .val (.ref b1), .unset, .unset] [(.int (1 : Int32))]))) (fun t k => st2 _ k) ?_
  refine own_fw (A' := (T2.setTop (mkF m 14 #[.val (.ref a1), .val (.int (0 : Int32)), .val (.int (1 : Int32)), .val (.ref b1), .val (.int (1 : Int32)), .unset] []))) (fun t k => XS.istore X2.here hx rfl (hb hby d_jdk_52_method_16_code_12) rfl (l' := #[.val (.ref a1), .val (.int (0 : Int32)), .val (.int (1 : Int32)), .val (.ref b1), .val (.int (1 : Int32)), .unset]) rfl k) ?_
  refine own_fw (A' := (T2.setTop (mkF m 16 #[.val (.ref a1), .val (.int (0 : Int32)), .val (.int (1 : Int32)), .val (.ref b1), .val (.int (1 : Int32)), .unset] [(.int (1 : Int32))]))) (fun t k => XS.iload X2.here hx rfl (hb hby d_jdk_52_method_16_code_14) rfl k) ?_
  refine own_fw (A' := (T2.setTop (mkF m 17 #[.val (.ref a1), .val (.int (0 : Int32)), .val (.int (1 : Int32)), .val (.ref b1), .val (.int (1 : Int32)), .unset] [(.int (1 : Int32)), (.int (1 : Int32))]))) (fun t k => XS.iloadN X2.here hx rfl (hb hby d_jdk_52_method_16_code_16) rfl k) ?_
  refine own_fw (A' := (T2.setTop (mkF m 57 #[.val (.ref a1), .val (.int (0 : Int32)), .val (.int (1 : Int32)), .val (.ref b1), .val (.int (1 : Int32)), .unset] []))) (fun t k => XS.icmpYes X2.here hx rfl (pc0 := 17) (pc' := 57) rfl (hb hby d_jdk_52_method_16_code_17) rfl (XT.ii_eq_t rfl) (by decide) (by decide) k) ?_
  refine own_fw (A' := (T2.setTop (mkF m 58 #[.val (.ref a1), .val (.int (0 : Int32)), .val (.int (1 : Int32)), .val (.ref b1), .val (.int (1 : Int32)), .unset] [(.ref b1)]))) (fun t k => XS.aloadN X2.here hx rfl (hb hby d_jdk_52_method_16_code_57) rfl rfl k) ?_
  obtain ⟨fs, hr, hrun, hended, hW, hsame⟩ := X2.leave (v := some (.ref b1)) (fun h => by rw [Bd.returns] at h; cases h)
  refine ⟨_, _, ?_, hrun, hended, _, _, rfl, ?_, ⟨_, rfl⟩, hW, hsame.mono (by decide) (by decide)⟩
  · exact retOut X2 hx Bd.returns rfl (Or.inr (Or.inr (Or.inr (Or.inr ⟨rfl, rfl, rfl⟩)))) (hb hby d_jdk_52_method_16_code_58) hr
  · show Q_rmCmpB1 Z a1 kc c0 h0 n0 _ T2.heap _
    exact ⟨b1, k1, rfl, Nf2, K2, Fq2_0, sz_b1⟩
theorem d_jdk_52_method_15_code_0 : decode jdk_52_method_15_code 0 = .ok (.iload_n 1, 1) := by decide +kernel
theorem d_jdk_52_method_15_code_1 : decode jdk_52_method_15_code 1 = .ok (.aload_n 0, 1) := by decide +kernel
theorem d_jdk_52_method_15_code_2 : decode jdk_52_method_15_code 2 = .ok (.arraylength, 1) := by decide +kernel
theorem d_jdk_52_method_15_code_3 : decode jdk_52_method_15_code 3 = .ok (.isub, 1) := by decide +kernel
theorem d_jdk_52_method_15_code_4 : decode jdk_52_method_15_code 4 = .ok (.bipush 31, 2) := by decide +kernel
theorem d_jdk_52_method_15_code_6 : decode jdk_52_method_15_code 6 = .ok (.iushr, 1) := by decide +kernel
theorem d_jdk_52_method_15_code_7 : decode jdk_52_method_15_code 7 = .ok (.i2b, 1) := by decide +kernel
theorem d_jdk_52_method_15_code_8 : decode jdk_52_method_15_code 8 = .ok (.ireturn, 1) := by decide +kernel
theorem ef_rmCoder1 (m : MethodId) (a1 : Addr) : entryFrame m #[(.ref a1), (.int (1 : Int32))] 2 = mkF m 0 #[.val (.ref a1), .val (.int (1 : Int32))] [] := by first | (simp [entryFrame, mkF, argsToLocals, Value.category]; done) | rfl
def Q_rmCoder1 (Z : State) (a1 : Addr) (kb : ClassId) (c0 : Int32) (h0 : Heap) (n0 : Nat) (v : Option Value) (h : Heap) (L : List Loc) : Prop := v = some (.int (0 : Int32)) ∧ Fr n0 L ∧ h = h0
set_option maxRecDepth 65536 in
set_option maxHeartbeats 40000000 in
theorem rmCoder1 (l : Launch) (Z : State) (a0 : Array Value) (hw : ∀ d ∈ tables_1, d.before a0 Z = true) (ws : List Jvm.Cond) (a1 : Addr) (kb : ClassId) (c0 : Int32) (h0 : Heap) (n0 : Nat) (Z0 : n0 ≤ h0.size) (P0 : Arv Z h0 a1 kb .byte (1 : Int32) [(.int c0)] (.int (0 : Int32))) :
    MetFree l (⟨"java/lang/StringUTF16", "coderFromArrayLen", "([BI)B"⟩ : MethodName) (head1 (Jvm.Cond.code (⟨"java/lang/StringUTF16", "coderFromArrayLen", "([BI)B"⟩ : MethodName) jdk_52_method_15_code 2 (some .byte) :: ws) ({ frames := 0, cells := 0, slots := 0, locals := 0 } : Room)) (fun a U => a = #[(.ref a1), (.int (1 : Int32))] ∧ Z.Warmed39 U.vm ∧ U.heap = h0) (fun _ _ _ _ _ => True) (fun _ U o U' => ∃ v L, o = .returned v ∧ Q_rmCoder1 Z a1 kb c0 h0 n0 v U'.heap L ∧ FrameEnd U o U' L ({ frames := 0, cells := 0, slots := 0, locals := 0 } : Room).cells ({ frames := 0, cells := 0, slots := 0, locals := 0 } : Room).slots) := by
  refine MetFree.of_bodySF (plainFor_of_name pn_java_lang_StringUTF16) hisR ?_
  intro p e s m args below meth c s₁ Bd hml0 hP hK
  obtain ⟨rfl, hZ, hh⟩ := hP
  have hx := Bd.exec
  have hby := Bd.bytes
  have hml : c.maxLocals = 2 := hml0
  have hown : s.vm.findClass "java/lang/StringUTF16" = some m.cls := findClass_of_methodNamed Bd.named
  have hnm := (name_of_methodNamed Bd.named Bd.method).1
  have X0 : Stand p l e ({ frames := 0, cells := 0, slots := 0, locals := 0 } : Room) s m #[(.ref a1), (.int (1 : Int32))] below meth c s₁ [] 0 0 := Stand.of_body Bd
  have e0 : s₁.heap = h0 := by rw [← hh, Bd.state]; rfl
  have N0 := Fr.nil n0
  refine own_fw (A' := (s₁.setTop (mkF m 0 #[.val (.ref a1), .val (.int (1 : Int32))] []))) (fun t k => castTop (ef_rmCoder1 m a1) k) ?_
  refine own_fw (A' := (s₁.setTop (mkF m 1 #[.val (.ref a1), .val (.int (1 : Int32))] [(.int (1 : Int32))]))) (fun t k => XS.iloadN X0.here hx rfl (hb hby d_jdk_52_method_15_code_0) rfl k) ?_
  refine own_fw (A' := (s₁.setTop (mkF m 2 #[.val (.ref a1), .val (.int (1 : Int32))] [(.ref a1), (.int (1 : Int32))]))) (fun t k => XS.aloadN X0.here hx rfl (hb hby d_jdk_52_method_15_code_1) rfl rfl k) ?_
  obtain ⟨cl1, Ar1, q1, S1, M1, H1, G1⟩ := id P0
  refine own_fw (A' := (s₁.setTop (mkF m 3 #[.val (.ref a1), .val (.int (1 : Int32))] [(.int (1 : Int32)), (.int (1 : Int32))]))) (fun t k => X0.arraylength hx (by rw [e0]; exact Ar1.1) (State.isArrayOf_alike hZ.alike Ar1.2.1) (g := (mkF m 2 #[.val (.ref a1), .val (.int (1 : Int32))] [(.ref a1), (.int (1 : Int32))])) rfl rfl (hb hby d_jdk_52_method_15_code_2) _ (by rw [len_of S1 M1]; exact k)) ?_
  refine own_fw (A' := (s₁.setTop (mkF m 4 #[.val (.ref a1), .val (.int (1 : Int32))] [(.int (0 : Int32))]))) (fun t k => XS.isub X0.here hx rfl (hb hby d_jdk_52_method_15_code_3) rfl k) ?_
  refine own_fw (A' := (s₁.setTop (mkF m 6 #[.val (.ref a1), .val (.int (1 : Int32))] [(.int (31 : Int32)), (.int (0 : Int32))]))) (fun t k => XS.bipush X0.here hx rfl (hb hby d_jdk_52_method_15_code_4) k) ?_
  refine own_fw (A' := (s₁.setTop (mkF m 7 #[.val (.ref a1), .val (.int (1 : Int32))] [(.int (0 : Int32))]))) (fun t k => XS.iushr X0.here hx rfl (hb hby d_jdk_52_method_15_code_6) rfl k) ?_
  refine own_fw (A' := (s₁.setTop (mkF m 8 #[.val (.ref a1), .val (.int (1 : Int32))] [(.int (0 : Int32))]))) (fun t k => XS.i2b X0.here hx rfl (hb hby d_jdk_52_method_15_code_7) rfl k) ?_
  obtain ⟨fs, hr, hrun, hended, hW, hsame⟩ := X0.leave (v := some (.int (0 : Int32))) (fun h => by rw [Bd.returns] at h; cases h)
  refine ⟨_, _, ?_, hrun, hended, _, _, rfl, ?_, ⟨_, rfl⟩, hW, hsame.mono (by decide) (by decide)⟩
  · exact retOut X0 hx Bd.returns rfl (Or.inl ⟨rfl, by simp, _, rfl⟩) (hb hby d_jdk_52_method_15_code_8) hr
  · show Q_rmCoder1 Z a1 kb c0 h0 n0 _ s₁.heap _
    rw [e0]
    exact ⟨rfl, N0, rfl⟩
theorem pn_java_lang_String : plainName "java/lang/String" = true := by first | (simp [plainName, overriddenIn]; done) | decide +kernel
theorem d_jdk_42_method_149_code_0 : decode jdk_42_method_149_code 0 = .ok (.aload_n 0, 1) := by decide +kernel
theorem d_jdk_42_method_149_code_1 : decode jdk_42_method_149_code 1 = .ok (.invokespecial 1, 3) := by decide +kernel
theorem d_jdk_42_method_149_code_4 : decode jdk_42_method_149_code 4 = .ok (.iload_n 3, 1) := by decide +kernel
theorem d_jdk_42_method_149_code_5 : decode jdk_42_method_149_code 5 = .ok (.ifCond .ne 22, 3) := by decide +kernel
theorem d_jdk_42_method_149_code_27 : decode jdk_42_method_149_code 27 = .ok (.getstatic 38, 3) := by decide +kernel
theorem d_jdk_42_method_149_code_30 : decode jdk_42_method_149_code 30 = .ok (.ifCond .eq 28, 3) := by decide +kernel
theorem d_jdk_42_method_149_code_33 : decode jdk_42_method_149_code 33 = .ok (.aload_n 1, 1) := by decide +kernel
theorem d_jdk_42_method_149_code_34 : decode jdk_42_method_149_code 34 = .ok (.iload_n 2, 1) := by decide +kernel
theorem d_jdk_42_method_149_code_35 : decode jdk_42_method_149_code 35 = .ok (.iload_n 3, 1) := by decide +kernel
theorem d_jdk_42_method_149_code_36 : decode jdk_42_method_149_code 36 = .ok (.invokestatic 177, 3) := by decide +kernel
theorem pd___CII__B : parseMethodDescriptor "([CII)[B" = some ⟨[(.array .char), .int, .int], some (.array .byte)⟩ := by decide +kernel
theorem d_jdk_42_method_149_code_39 : decode jdk_42_method_149_code 39 = .ok (.astore 5, 2) := by decide +kernel
theorem d_jdk_42_method_149_code_41 : decode jdk_42_method_149_code 41 = .ok (.aload_n 0, 1) := by decide +kernel
theorem d_jdk_42_method_149_code_42 : decode jdk_42_method_149_code 42 = .ok (.aload 5, 2) := by decide +kernel
theorem d_jdk_42_method_149_code_44 : decode jdk_42_method_149_code 44 = .ok (.iload_n 3, 1) := by decide +kernel
theorem d_jdk_42_method_149_code_45 : decode jdk_42_method_149_code 45 = .ok (.invokestatic 47, 3) := by decide +kernel
theorem pd___BI_B : parseMethodDescriptor "([BI)B" = some ⟨[(.array .byte), .int], some .byte⟩ := by decide +kernel
theorem d_jdk_42_method_149_code_48 : decode jdk_42_method_149_code 48 = .ok (.putfield 15, 3) := by decide +kernel
theorem d_jdk_42_method_149_code_51 : decode jdk_42_method_149_code 51 = .ok (.aload_n 0, 1) := by decide +kernel
theorem d_jdk_42_method_149_code_52 : decode jdk_42_method_149_code 52 = .ok (.aload 5, 2) := by decide +kernel
theorem d_jdk_42_method_149_code_54 : decode jdk_42_method_149_code 54 = .ok (.putfield 9, 3) := by decide +kernel
theorem d_jdk_42_method_149_code_57 : decode jdk_42_method_149_code 57 = .ok (.return_, 1) := by decide +kernel
theorem ef_rmStrB1 (m : MethodId) (a1 : Addr) (a2 : Addr) : entryFrame m #[(.ref a1), (.ref a2), (.int (0 : Int32)), (.int (1 : Int32)), .null] 6 = mkF m 0 #[.val (.ref a1), .val (.ref a2), .val (.int (0 : Int32)), .val (.int (1 : Int32)), .val .null, .unset] [] := by first | (simp [entryFrame, mkF, argsToLocals, Value.category]; done) | rfl
def Q_rmStrB1 (Z : State) (a1 : Addr) (a2 : Addr) (kc : ClassId) (cs : Int32) (c0 : Int32) (h0 : Heap) (n0 : Nat) (v : Option Value) (h : Heap) (L : List Loc) : Prop := ∃ b : Addr, ∃ kb : ClassId, v = none ∧ Fr n0 L ∧ Keep h0 h [a1] ∧ Exa Z h a1 "java/lang/String" ∧ Fld Z h a1 "java/lang/String" "coder" "B" (.int (0 : Int32)) ∧ Fld Z h a1 "java/lang/String" "value" "[B" (.ref b) ∧ Arv Z h b kb .byte (1 : Int32) [(.int (c0.toInt8.toInt32))] (.int (0 : Int32))
set_option maxRecDepth 65536 in
set_option maxHeartbeats 40000000 in
theorem rmStrB1 (l : Launch) (Z : State) (a0 : Array Value) (hw : ∀ d ∈ tables_1, d.before a0 Z = true) (ws : List Jvm.Cond) (a1 : Addr) (a2 : Addr) (kc : ClassId) (cs : Int32) (c0 : Int32) (h0 : Heap) (n0 : Nat) (Z0 : n0 ≤ h0.size) (P0 : Exa Z h0 a1 "java/lang/String") (P1 : Fld Z h0 a1 "java/lang/String" "coder" "B" (.int (0 : Int32))) (P2 : Fld Z h0 a1 "java/lang/String" "value" "[B" .null) (P3 : Arv Z h0 a2 kc .char (1 : Int32) [(.int c0)] (.int (0 : Int32))) (g_a1 : n0 ≤ a1) (ne_a1_a2 : a1 ≠ a2) (P6 : Sta Z h0 "java/lang/String" "COMPACT_STRINGS" "Z" (.int cs)) (hcs : ¬ (cs = (0 : Int32))) (hc0 : ¬ ((255 : Int32) < c0)) :
    MetFree l (⟨"java/lang/String", "<init>", "([CIILjava/lang/Void;)V"⟩ : MethodName) (head1 (Jvm.Cond.code (⟨"java/lang/String", "<init>", "([CIILjava/lang/Void;)V"⟩ : MethodName) jdk_42_method_149_code 6 none :: ws) ({ frames := 2, cells := 1, slots := 1, locals := 35 } : Room)) (fun a U => a = #[(.ref a1), (.ref a2), (.int (0 : Int32)), (.int (1 : Int32)), .null] ∧ Z.Warmed39 U.vm ∧ U.heap = h0) (fun _ _ _ _ _ => True) (fun _ U o U' => ∃ v L, o = .returned v ∧ Q_rmStrB1 Z a1 a2 kc cs c0 h0 n0 v U'.heap L ∧ FrameEnd U o U' L ({ frames := 2, cells := 1, slots := 1, locals := 35 } : Room).cells ({ frames := 2, cells := 1, slots := 1, locals := 35 } : Room).slots) := by
  refine MetFree.of_bodySF (plainFor_of_name pn_java_lang_String) hisR ?_
  intro p e s m args below meth c s₁ Bd hml0 hP hK
  obtain ⟨rfl, hZ, hh⟩ := hP
  have hx := Bd.exec
  have hby := Bd.bytes
  have hml : c.maxLocals = 6 := hml0
  have hown : s.vm.findClass "java/lang/String" = some m.cls := findClass_of_methodNamed Bd.named
  have hnm := (name_of_methodNamed Bd.named Bd.method).1
  have X0 : Stand p l e ({ frames := 2, cells := 1, slots := 1, locals := 35 } : Room) s m #[(.ref a1), (.ref a2), (.int (0 : Int32)), (.int (1 : Int32)), .null] below meth c s₁ [] 0 0 := Stand.of_body Bd
  have e0 : s₁.heap = h0 := by rw [← hh, Bd.state]; rfl
  have N0 := Fr.nil n0
  refine own_fw (A' := (s₁.setTop (mkF m 0 #[.val (.ref a1), .val (.ref a2), .val (.int (0 : Int32)), .val (.int (1 : Int32)), .val .null, .unset] []))) (fun t k => castTop (ef_rmStrB1 m a1 a2) k) ?_
  refine own_fw (A' := (s₁.setTop (mkF m 1 #[.val (.ref a1), .val (.ref a2), .val (.int (0 : Int32)), .val (.int (1 : Int32)), .val .null, .unset] [(.ref a1)]))) (fun t k => XS.aloadN X0.here hx rfl (hb hby d_jdk_42_method_149_code_0) rfl rfl k) ?_
  obtain ⟨T1, X1, e1, st1⟩ := initO X0 hx hZ hown (hw _ (List.mem_of_getElem? (i := 22) rfl)) (hw _ (List.mem_of_getElem? (i := 23) rfl)) (hw _ (List.mem_of_getElem? (i := 24) rfl)) e0 (g := (mkF m 1 #[.val (.ref a1), .val (.ref a2), .val (.int (0 : Int32)), .val (.int (1 : Int32)), .val .null, .unset] [(.ref a1)])) rfl (by rw [hml]; rfl) rfl (hb hby d_jdk_42_method_149_code_1) (by decide) (W := 0) (by show 2 * 0 + _ ≤ _; exact Nat.le_of_eq rfl) (by decide)
  refine own_fw (A' := (T1.setTop (mkF m 4 #[.val (.ref a1), .val (.ref a2), .val (.int (0 : Int32)), .val (.int (1 : Int32)), .val .null, .unset] []))) (fun t k => st1 _ k) ?_
  refine own_fw (A' := (T1.setTop (mkF m 5 #[.val (.ref a1), .val (.ref a2), .val (.int (0 : Int32)), .val (.int (1 : Int32)), .val .null, .unset] [(.int (1 : Int32))]))) (fun t k => XS.iloadN X1.here hx rfl (hb hby d_jdk_42_method_149_code_4) rfl k) ?_
  refine own_fw (A' := (T1.setTop (mkF m 27 #[.val (.ref a1), .val (.ref a2), .val (.int (0 : Int32)), .val (.int (1 : Int32)), .val .null, .unset] []))) (fun t k => XS.ifYes X1.here hx rfl (pc0 := 5) (pc' := 27) rfl (hb hby d_jdk_42_method_149_code_5) rfl (XT.i0_ne_t (by decide)) (by decide) (by decide) k) ?_
  obtain ⟨T2, X2, e2, st2⟩ := getS2 X1 hx hZ hown (host := "") (Or.inl (hw _ (List.mem_of_getElem? (i := 64) rfl))) Via.refl e1 P6 (g := (mkF m 27 #[.val (.ref a1), .val (.ref a2), .val (.int (0 : Int32)), .val (.int (1 : Int32)), .val .null, .unset] [])) rfl (hb hby d_jdk_42_method_149_code_27)
  refine own_fw (A' := (T2.setTop (mkF m 30 #[.val (.ref a1), .val (.ref a2), .val (.int (0 : Int32)), .val (.int (1 : Int32)), .val .null, .unset] [(.int cs)]))) (fun t k => st2 _ k) ?_
  refine own_fw (A' := (T2.setTop (mkF m 33 #[.val (.ref a1), .val (.ref a2), .val (.int (0 : Int32)), .val (.int (1 : Int32)), .val .null, .unset] []))) (fun t k => XS.ifNo X2.here hx rfl (hb hby d_jdk_42_method_149_code_30) rfl (XT.i0_eq_f hcs) k) ?_
  refine own_fw (A' := (T2.setTop (mkF m 34 #[.val (.ref a1), .val (.ref a2), .val (.int (0 : Int32)), .val (.int (1 : Int32)), .val .null, .unset] [(.ref a2)]))) (fun t k => XS.aloadN X2.here hx rfl (hb hby d_jdk_42_method_149_code_33) rfl rfl k) ?_
  refine own_fw (A' := (T2.setTop (mkF m 35 #[.val (.ref a1), .val (.ref a2), .val (.int (0 : Int32)), .val (.int (1 : Int32)), .val .null, .unset] [(.int (0 : Int32)), (.ref a2)]))) (fun t k => XS.iloadN X2.here hx rfl (hb hby d_jdk_42_method_149_code_34) rfl k) ?_
  refine own_fw (A' := (T2.setTop (mkF m 36 #[.val (.ref a1), .val (.ref a2), .val (.int (0 : Int32)), .val (.int (1 : Int32)), .val .null, .unset] [(.int (1 : Int32)), (.int (0 : Int32)), (.ref a2)]))) (fun t k => XS.iloadN X2.here hx rfl (hb hby d_jdk_42_method_149_code_35) rfl k) ?_
  obtain ⟨_, _, ⟨T3, L3, k3, n3⟩, -, X3, ⟨Lc3, hQ3, l3, y3, z3⟩, st3⟩ := Jvm.LawKit.callS X2 hx (y := (⟨"java/lang/StringUTF16", "compress", "([CII)[B"⟩ : MethodName)) hown (mvT hZ (hw _ (List.mem_of_getElem? (i := 69) rfl))) (mvT hZ (hw _ (List.mem_of_getElem? (i := 70) rfl))) (mvT hZ (hw _ (List.mem_of_getElem? (i := 71) rfl))) (mvT hZ (hw _ (List.mem_of_getElem? (i := 72) rfl))) (by decide) (backOf (W := 0) (rmCmpB1 l Z a0 hw [] a2 kc c0 h0 n0 Z0 P3 hc0) hZ (hw _ (List.mem_of_getElem? (i := 72) rfl)) (hw _ (List.mem_of_getElem? (i := 71) rfl)) (by decide) (by decide)) (g := (mkF m 36 #[.val (.ref a1), .val (.ref a2), .val (.int (0 : Int32)), .val (.int (1 : Int32)), .val .null, .unset] [(.int (1 : Int32)), (.int (0 : Int32)), (.ref a2)])) rfl (by rw [hml]; rfl) (argsL := [(.ref a2), (.int (0 : Int32)), (.int (1 : Int32))]) (rest := []) (lenOf pd___CII__B rfl) rfl (by show 2 * 0 + _ ≤ _; exact Nat.le_of_eq rfl) (hb hby d_jdk_42_method_149_code_36) (fun _ _ => ⟨rfl, e2, (by decide : 0 + 1 ≤ _), (by decide : 0 + 1 ≤ _)⟩)
  dsimp only [Pt.U, Pt.locs, Pt.cells, Pt.slots] at X3 l3 y3 z3 st3 hQ3
  subst l3 y3 z3
  obtain ⟨b_3, kb_3, rfl, Nq3, Kq3, Fq3_0, gb_3⟩ := hQ3
  have Nf3 := Fr.app N0 Nq3
  have K3 : Keep h0 T3.heap [a1] := (Keep.refl h0 [a1]).trans Kq3 all0
  have sz_b_3 : h0.size ≤ b_3 := Nat.le_trans (Keep.refl h0 [a1]).1 gb_3
  have g_b_3 : n0 ≤ b_3 := Nat.le_trans Z0 gb_3
  have ne_a1_b_3 : a1 ≠ b_3 := Nat.ne_of_lt (Nat.lt_of_lt_of_le P0.lt gb_3)
  have ne_a2_b_3 : a2 ≠ b_3 := Nat.ne_of_lt (Nat.lt_of_lt_of_le P3.lt gb_3)
  have Z3 : n0 ≤ T3.heap.size := Nat.le_trans Z0 Kq3.1
  refine own_fw (A' := (T3.setTop (mkF m 39 #[.val (.ref a1), .val (.ref a2), .val (.int (0 : Int32)), .val (.int (1 : Int32)), .val .null, .unset] [(.ref b_3)]))) (fun t k => st3 _ k) ?_
  refine own_fw (A' := (T3.setTop (mkF m 41 #[.val (.ref a1), .val (.ref a2), .val (.int (0 : Int32)), .val (.int (1 : Int32)), .val .null, .val (.ref b_3)] []))) (fun t k => XS.astore X3.here hx rfl (hb hby d_jdk_42_method_149_code_39) rfl rfl (l' := #[.val (.ref a1), .val (.ref a2), .val (.int (0 : Int32)), .val (.int (1 : Int32)), .val .null, .val (.ref b_3)]) rfl k) ?_
  refine own_fw (A' := (T3.setTop (mkF m 42 #[.val (.ref a1), .val (.ref a2), .val (.int (0 : Int32)), .val (.int (1 : Int32)), .val .null, .val (.ref b_3)] [(.ref a1)]))) (fun t k => XS.aloadN X3.here hx rfl (hb hby d_jdk_42_method_149_code_41) rfl rfl k) ?_
  refine own_fw (A' := (T3.setTop (mkF m 44 #[.val (.ref a1), .val (.ref a2), .val (.int (0 : Int32)), .val (.int (1 : Int32)), .val .null, .val (.ref b_3)] [(.ref b_3), (.ref a1)]))) (fun t k => XS.aload X3.here hx rfl (hb hby d_jdk_42_method_149_code_42) rfl rfl k) ?_
  refine own_fw (A' := (T3.setTop (mkF m 45 #[.val (.ref a1), .val (.ref a2), .val (.int (0 : Int32)), .val (.int (1 : Int32)), .val .null, .val (.ref b_3)] [(.int (1 : Int32)), (.ref b_3), (.ref a1)]))) (fun t k => XS.iloadN X3.here hx rfl (hb hby d_jdk_42_method_149_code_44) rfl k) ?_
  obtain ⟨_, _, ⟨T4, L4, k4, n4⟩, -, X4, ⟨Lc4, hQ4, l4, y4, z4⟩, st4⟩ := Jvm.LawKit.callS X3 hx (y := (⟨"java/lang/StringUTF16", "coderFromArrayLen", "([BI)B"⟩ : MethodName)) hown (mvT hZ (hw _ (List.mem_of_getElem? (i := 76) rfl))) (mvT hZ (hw _ (List.mem_of_getElem? (i := 77) rfl))) (mvT hZ (hw _ (List.mem_of_getElem? (i := 71) rfl))) (mvT hZ (hw _ (List.mem_of_getElem? (i := 78) rfl))) (by decide) (backOf (W := 1) (rmCoder1 l Z a0 hw [] b_3 kb_3 (c0.toInt8.toInt32) T3.heap n0 Z3 Fq3_0) hZ (hw _ (List.mem_of_getElem? (i := 78) rfl)) (hw _ (List.mem_of_getElem? (i := 71) rfl)) (by decide) (by decide)) (g := (mkF m 45 #[.val (.ref a1), .val (.ref a2), .val (.int (0 : Int32)), .val (.int (1 : Int32)), .val .null, .val (.ref b_3)] [(.int (1 : Int32)), (.ref b_3), (.ref a1)])) rfl (by rw [hml]; rfl) (argsL := [(.ref b_3), (.int (1 : Int32))]) (rest := [(.ref a1)]) (lenOf pd___BI_B rfl) rfl (by show 2 * 0 + _ ≤ _; exact Nat.le_of_eq rfl) (hb hby d_jdk_42_method_149_code_45) (fun _ _ => ⟨rfl, rfl, (by decide : 1 + 0 ≤ _), (by decide : 1 + 0 ≤ _)⟩)
  dsimp only [Pt.U, Pt.locs, Pt.cells, Pt.slots] at X4 l4 y4 z4 st4 hQ4
  subst l4 y4 z4
  obtain ⟨rfl, Nq4, e4⟩ := hQ4
  have Nf4 := Fr.app Nf3 Nq4
  refine own_fw (A' := (T4.setTop (mkF m 48 #[.val (.ref a1), .val (.ref a2), .val (.int (0 : Int32)), .val (.int (1 : Int32)), .val .null, .val (.ref b_3)] [(.int (0 : Int32)), (.ref a1)]))) (fun t k => st4 _ k) ?_
  obtain ⟨T5, h5, X5, e5, W5, st5⟩ := putFN X4 hx hZ hown (hw _ (List.mem_of_getElem? (i := 32) rfl)) Via.refl e4 (P1.keep Kq3 nin0) (P0.keep Kq3) (Or.inr ⟨(hw _ (List.mem_of_getElem? (i := 28) rfl)), rfl, hnm⟩) (hw _ (List.mem_of_getElem? (i := 12) rfl)) (ty := .byte) (v' := (.int (0 : Int32))) (by decide) rfl rfl (g := (mkF m 48 #[.val (.ref a1), .val (.ref a2), .val (.int (0 : Int32)), .val (.int (1 : Int32)), .val .null, .val (.ref b_3)] [(.int (0 : Int32)), (.ref a1)])) rfl rfl (hb hby d_jdk_42_method_149_code_48)
  have Fw5 : Fld Z h5 a1 "java/lang/String" "coder" "B" (.int (0 : Int32)) := (P1.keep Kq3 nin0).same W5
  have Nf5 := Fr.snoc X5 Nf4 g_a1
  have K5 : Keep h0 h5 [a1] := K3.wr W5 (Or.inl (List.mem_of_getElem? (i := 0) rfl))
  have Z5 : n0 ≤ h5.size := Nat.le_trans Z3 (Keep.of_wr W5).1
  refine own_fw (A' := (T5.setTop (mkF m 51 #[.val (.ref a1), .val (.ref a2), .val (.int (0 : Int32)), .val (.int (1 : Int32)), .val .null, .val (.ref b_3)] []))) (fun t k => st5 _ k) ?_
  refine own_fw (A' := (T5.setTop (mkF m 52 #[.val (.ref a1), .val (.ref a2), .val (.int (0 : Int32)), .val (.int (1 : Int32)), .val .null, .val (.ref b_3)] [(.ref a1)]))) (fun t k => XS.aloadN X5.here hx rfl (hb hby d_jdk_42_method_149_code_51) rfl rfl k) ?_
  refine own_fw (A' := (T5.setTop (mkF m 54 #[.val (.ref a1), .val (.ref a2), .val (.int (0 : Int32)), .val (.int (1 : Int32)), .val .null, .val (.ref b_3)] [(.ref b_3), (.ref a1)]))) (fun t k => XS.aload X5.here hx rfl (hb hby d_jdk_42_method_149_code_52) rfl rfl k) ?_
  obtain ⟨T6, h6, X6, e6, W6, st6⟩ := putF X5 hx hZ hown (host := "") (Or.inl (hw _ (List.mem_of_getElem? (i := 31) rfl))) Via.refl e5 ((P2.keep Kq3 nin0).other W5 (Or.inr (slot_ne (Or.inr (hw _ (List.mem_of_getElem? (i := 27) rfl))) (Or.inr (hw _ (List.mem_of_getElem? (i := 28) rfl))) (by decide) (t := (.array .byte)) (t' := .byte) (by decide) (by decide)))) ((P0.keep Kq3).wr W5) (Or.inr ⟨(hw _ (List.mem_of_getElem? (i := 27) rfl)), rfl, hnm⟩) (hw _ (List.mem_of_getElem? (i := 12) rfl)) (ty := (.array .byte)) (by decide) rfl rfl (g := (mkF m 54 #[.val (.ref a1), .val (.ref a2), .val (.int (0 : Int32)), .val (.int (1 : Int32)), .val .null, .val (.ref b_3)] [(.ref b_3), (.ref a1)])) rfl rfl (hb hby d_jdk_42_method_149_code_54)
  have Fw6 : Fld Z h6 a1 "java/lang/String" "value" "[B" (.ref b_3) := ((P2.keep Kq3 nin0).other W5 (Or.inr (slot_ne (Or.inr (hw _ (List.mem_of_getElem? (i := 27) rfl))) (Or.inr (hw _ (List.mem_of_getElem? (i := 28) rfl))) (by decide) (t := (.array .byte)) (t' := .byte) (by decide) (by decide)))).same W6
  have Nf6 := Fr.snoc X6 Nf5 g_a1
  have K6 : Keep h0 h6 [a1] := K5.wr W6 (Or.inl (List.mem_of_getElem? (i := 0) rfl))
  have Z6 : n0 ≤ h6.size := Nat.le_trans Z5 (Keep.of_wr W6).1
  refine own_fw (A' := (T6.setTop (mkF m 57 #[.val (.ref a1), .val (.ref a2), .val (.int (0 : Int32)), .val (.int (1 : Int32)), .val .null, .val (.ref b_3)] []))) (fun t k => st6 _ k) ?_
  obtain ⟨fs, hr, hrun, hended, hW, hsame⟩ := X6.leave (v := none) (fun _ => rfl)
  refine ⟨_, _, ?_, hrun, hended, _, _, rfl, ?_, ⟨_, rfl⟩, hW, hsame.mono (by decide) (by decide)⟩
  · exact X6.returnOut hx Bd.returns (hb hby d_jdk_42_method_149_code_57) hr
  · show Q_rmStrB1 Z a1 a2 kc cs c0 h0 n0 _ T6.heap _
    rw [e6]
    exact ⟨b_3, kb_3, rfl, Nf6, K6, (((P0.keep Kq3).wr W5).wr W6), (Fw5.other W6 (Or.inr (slot_ne (Or.inr (hw _ (List.mem_of_getElem? (i := 28) rfl))) (Or.inr (hw _ (List.mem_of_getElem? (i := 27) rfl))) (by decide) (t := .byte) (t' := (.array .byte)) (by decide) (by decide)))), Fw6, ((Fq3_0.other W5 (Ne.symm ne_a1_b_3)).other W6 (Ne.symm ne_a1_b_3))⟩
theorem d_jdk_42_method_3_code_0 : decode jdk_42_method_3_code 0 = .ok (.aload_n 0, 1) := by decide +kernel
theorem d_jdk_42_method_3_code_1 : decode jdk_42_method_3_code 1 = .ok (.aload_n 1, 1) := by decide +kernel
theorem d_jdk_42_method_3_code_2 : decode jdk_42_method_3_code 2 = .ok (.iconst 0, 1) := by decide +kernel
theorem d_jdk_42_method_3_code_3 : decode jdk_42_method_3_code 3 = .ok (.aload_n 1, 1) := by decide +kernel
theorem d_jdk_42_method_3_code_4 : decode jdk_42_method_3_code 4 = .ok (.arraylength, 1) := by decide +kernel
theorem d_jdk_42_method_3_code_5 : decode jdk_42_method_3_code 5 = .ok (.aconst_null, 1) := by decide +kernel
theorem d_jdk_42_method_3_code_6 : decode jdk_42_method_3_code 6 = .ok (.invokespecial 27, 3) := by decide +kernel
theorem pd___CIILjava_lang_Void__V : parseMethodDescriptor "([CIILjava/lang/Void;)V" = some ⟨[(.array .char), .int, .int, (.object "java/lang/Void")], none⟩ := by decide +kernel
theorem d_jdk_42_method_3_code_9 : decode jdk_42_method_3_code 9 = .ok (.return_, 1) := by decide +kernel
theorem ef_rmStrA1 (m : MethodId) (a1 : Addr) (a2 : Addr) : entryFrame m #[(.ref a1), (.ref a2)] 2 = mkF m 0 #[.val (.ref a1), .val (.ref a2)] [] := by first | (simp [entryFrame, mkF, argsToLocals, Value.category]; done) | rfl
def Q_rmStrA1 (Z : State) (a1 : Addr) (a2 : Addr) (kc : ClassId) (cs : Int32) (c0 : Int32) (h0 : Heap) (n0 : Nat) (v : Option Value) (h : Heap) (L : List Loc) : Prop := ∃ b : Addr, ∃ kb : ClassId, v = none ∧ Fr n0 L ∧ Keep h0 h [a1] ∧ Exa Z h a1 "java/lang/String" ∧ Fld Z h a1 "java/lang/String" "coder" "B" (.int (0 : Int32)) ∧ Fld Z h a1 "java/lang/String" "value" "[B" (.ref b) ∧ Arv Z h b kb .byte (1 : Int32) [(.int (c0.toInt8.toInt32))] (.int (0 : Int32))
set_option maxRecDepth 65536 in
set_option maxHeartbeats 40000000 in
theorem rmStrA1 (l : Launch) (Z : State) (a0 : Array Value) (hw : ∀ d ∈ tables_1, d.before a0 Z = true) (ws : List Jvm.Cond) (a1 : Addr) (a2 : Addr) (kc : ClassId) (cs : Int32) (c0 : Int32) (h0 : Heap) (n0 : Nat) (Z0 : n0 ≤ h0.size) (P0 : Exa Z h0 a1 "java/lang/String") (P1 : Fld Z h0 a1 "java/lang/String" "coder" "B" (.int (0 : Int32))) (P2 : Fld Z h0 a1 "java/lang/String" "value" "[B" .null) (P3 : Arv Z h0 a2 kc .char (1 : Int32) [(.int c0)] (.int (0 : Int32))) (g_a1 : n0 ≤ a1) (ne_a1_a2 : a1 ≠ a2) (P6 : Sta Z h0 "java/lang/String" "COMPACT_STRINGS" "Z" (.int cs)) (hcs : ¬ (cs = (0 : Int32))) (hc0 : ¬ ((255 : Int32) < c0)) :
    MetFree l (⟨"java/lang/String", "<init>", "([C)V"⟩ : MethodName) (head1 (Jvm.Cond.code (⟨"java/lang/String", "<init>", "([C)V"⟩ : MethodName) jdk_42_method_3_code 2 none :: ws) ({ frames := 3, cells := 1, slots := 1, locals := 52 } : Room)) (fun a U => a = #[(.ref a1), (.ref a2)] ∧ Z.Warmed39 U.vm ∧ U.heap = h0) (fun _ _ _ _ _ => True) (fun _ U o U' => ∃ v L, o = .returned v ∧ Q_rmStrA1 Z a1 a2 kc cs c0 h0 n0 v U'.heap L ∧ FrameEnd U o U' L ({ frames := 3, cells := 1, slots := 1, locals := 52 } : Room).cells ({ frames := 3, cells := 1, slots := 1, locals := 52 } : Room).slots) := by
  refine MetFree.of_bodySF (plainFor_of_name pn_java_lang_String) hisR ?_
  intro p e s m args below meth c s₁ Bd hml0 hP hK
  obtain ⟨rfl, hZ, hh⟩ := hP
  have hx := Bd.exec
  have hby := Bd.bytes
  have hml : c.maxLocals = 2 := hml0
  have hown : s.vm.findClass "java/lang/String" = some m.cls := findClass_of_methodNamed Bd.named
  have hnm := (name_of_methodNamed Bd.named Bd.method).1
  have X0 : Stand p l e ({ frames := 3, cells := 1, slots := 1, locals := 52 } : Room) s m #[(.ref a1), (.ref a2)] below meth c s₁ [] 0 0 := Stand.of_body Bd
  have e0 : s₁.heap = h0 := by rw [← hh, Bd.state]; rfl
  have N0 := Fr.nil n0
  refine own_fw (A' := (s₁.setTop (mkF m 0 #[.val (.ref a1), .val (.ref a2)] []))) (fun t k => castTop (ef_rmStrA1 m a1 a2) k) ?_
  refine own_fw (A' := (s₁.setTop (mkF m 1 #[.val (.ref a1), .val (.ref a2)] [(.ref a1)]))) (fun t k => XS.aloadN X0.here hx rfl (hb hby d_jdk_42_method_3_code_0) rfl rfl k) ?_
  refine own_fw (A' := (s₁.setTop (mkF m 2 #[.val (.ref a1), .val (.ref a2)] [(.ref a2), (.ref a1)]))) (fun t k => XS.aloadN X0.here hx rfl (hb hby d_jdk_42_method_3_code_1) rfl rfl k) ?_
  refine own_fw (A' := (s₁.setTop (mkF m 3 #[.val (.ref a1), .val (.ref a2)] [(.int (0 : Int32)), (.ref a2), (.ref a1)]))) (fun t k => XS.iconst X0.here hx rfl (hb hby d_jdk_42_method_3_code_2) k) ?_
  refine own_fw (A' := (s₁.setTop (mkF m 4 #[.val (.ref a1), .val (.ref a2)] [(.ref a2), (.int (0 : Int32)), (.ref a2), (.ref a1)]))) (fun t k => XS.aloadN X0.here hx rfl (hb hby d_jdk_42_method_3_code_3) rfl rfl k) ?_
  obtain ⟨cl1, Ar1, q1, S1, M1, H1, G1⟩ := id P3
  refine own_fw (A' := (s₁.setTop (mkF m 5 #[.val (.ref a1), .val (.ref a2)] [(.int (1 : Int32)), (.int (0 : Int32)), (.ref a2), (.ref a1)]))) (fun t k => X0.arraylength hx (by rw [e0]; exact Ar1.1) (State.isArrayOf_alike hZ.alike Ar1.2.1) (g := (mkF m 4 #[.val (.ref a1), .val (.ref a2)] [(.ref a2), (.int (0 : Int32)), (.ref a2), (.ref a1)])) rfl rfl (hb hby d_jdk_42_method_3_code_4) _ (by rw [len_of S1 M1]; exact k)) ?_
  refine own_fw (A' := (s₁.setTop (mkF m 6 #[.val (.ref a1), .val (.ref a2)] [.null, (.int (1 : Int32)), (.int (0 : Int32)), (.ref a2), (.ref a1)]))) (fun t k => XS.aconstNull X0.here hx rfl (hb hby d_jdk_42_method_3_code_5) k) ?_
  obtain ⟨_, _, ⟨T2, L2, k2, n2⟩, -, X2, ⟨Lc2, hQ2, l2, y2, z2⟩, st2⟩ := X0.specialBack hx (y := (⟨"java/lang/String", "<init>", "([CIILjava/lang/Void;)V"⟩ : MethodName)) rfl hown (mvT hZ (hw _ (List.mem_of_getElem? (i := 18) rfl))) (mvT hZ (hw _ (List.mem_of_getElem? (i := 19) rfl))) (mvT hZ (hw _ (List.mem_of_getElem? (i := 21) rfl))) (by decide) (backOf (W := 0) (rmStrB1 l Z a0 hw [] a1 a2 kc cs c0 h0 n0 Z0 P0 P1 P2 P3 g_a1 ne_a1_a2 P6 hcs hc0) hZ (hw _ (List.mem_of_getElem? (i := 21) rfl)) (hw _ (List.mem_of_getElem? (i := 13) rfl)) (by decide) (by decide)) (g := (mkF m 6 #[.val (.ref a1), .val (.ref a2)] [.null, (.int (1 : Int32)), (.int (0 : Int32)), (.ref a2), (.ref a1)])) rfl (by rw [hml]; rfl) (Steps.refl _) (a := a1) (argsL := [(.ref a2), (.int (0 : Int32)), (.int (1 : Int32)), .null]) (rest := []) (lenOf pd___CIILjava_lang_Void__V rfl) rfl (by show 2 * 0 + _ ≤ _; exact Nat.le_of_eq rfl) (hb hby d_jdk_42_method_3_code_6) (fun _ _ => ⟨rfl, e0, (by decide : 0 + 1 ≤ _), (by decide : 0 + 1 ≤ _)⟩)
  dsimp only [Pt.U, Pt.locs, Pt.cells, Pt.slots] at X2 l2 y2 z2 st2 hQ2
  subst l2 y2 z2
  obtain ⟨b_2, kb_2, rfl, Nq2, Kq2, Fq2_0, Fq2_1, Fq2_2, Fq2_3⟩ := hQ2
  have Nf2 := Fr.app N0 Nq2
  have K2 : Keep h0 T2.heap [a1] := (Keep.refl h0 [a1]).trans Kq2 (allS (Or.inl (List.mem_of_getElem? (i := 0) rfl)) all0)
  have Z2 : n0 ≤ T2.heap.size := Nat.le_trans Z0 Kq2.1
  refine own_fw (A' := (T2.setTop (mkF m 9 #[.val (.ref a1), .val (.ref a2)] []))) (fun t k => st2.trans k) ?_
  obtain ⟨fs, hr, hrun, hended, hW, hsame⟩ := X2.leave (v := none) (fun _ => rfl)
  refine ⟨_, _, ?_, hrun, hended, _, _, rfl, ?_, ⟨_, rfl⟩, hW, hsame.mono (by decide) (by decide)⟩
  · exact X2.returnOut hx Bd.returns (hb hby d_jdk_42_method_3_code_9) hr
  · show Q_rmStrA1 Z a1 a2 kc cs c0 h0 n0 _ T2.heap _
    exact ⟨b_2, kb_2, rfl, Nf2, K2, Fq2_0, Fq2_1, Fq2_2, Fq2_3⟩
theorem ef_rmCmpA2 (m : MethodId) (a1 : Addr) (a3 : Addr) : entryFrame m #[(.ref a1), (.int (0 : Int32)), (.ref a3), (.int (0 : Int32)), (.int (2 : Int32))] 7 = mkF m 0 #[.val (.ref a1), .val (.int (0 : Int32)), .val (.ref a3), .val (.int (0 : Int32)), .val (.int (2 : Int32)), .unset, .unset] [] := by first | (simp [entryFrame, mkF, argsToLocals, Value.category]; done) | rfl
def Q_rmCmpA2 (Z : State) (a1 : Addr) (a3 : Addr) (kc : ClassId) (kb : ClassId) (c0 : Int32) (c1 : Int32) (h0 : Heap) (n0 : Nat) (v : Option Value) (h : Heap) (L : List Loc) : Prop := v = some (.int (2 : Int32)) ∧ Fr n0 L ∧ Keep h0 h [a3] ∧ Arv Z h a3 kb .byte (2 : Int32) [(.int (c0.toInt8.toInt32)), (.int (c1.toInt8.toInt32))] (.int (0 : Int32))
set_option maxRecDepth 65536 in
set_option maxHeartbeats 40000000 in
theorem rmCmpA2 (l : Launch) (Z : State) (a0 : Array Value) (hw : ∀ d ∈ tables_1, d.before a0 Z = true) (ws : List Jvm.Cond) (a1 : Addr) (a3 : Addr) (kc : ClassId) (kb : ClassId) (c0 : Int32) (c1 : Int32) (h0 : Heap) (n0 : Nat) (Z0 : n0 ≤ h0.size) (P0 : Arv Z h0 a1 kc .char (2 : Int32) [(.int c0), (.int c1)] (.int (0 : Int32))) (P1 : Arv Z h0 a3 kb .byte (2 : Int32) [(.int (0 : Int32)), (.int (0 : Int32))] (.int (0 : Int32))) (g_a3 : n0 ≤ a3) (ne_a1_a3 : a1 ≠ a3) (hc0 : ¬ ((255 : Int32) < c0)) (hc1 : ¬ ((255 : Int32) < c1)) :
    MetFree l (⟨"java/lang/StringUTF16", "compress", "([CI[BII)I"⟩ : MethodName) (head1 (Jvm.Cond.code (⟨"java/lang/StringUTF16", "compress", "([CI[BII)I"⟩ : MethodName) jdk_52_method_21_code 7 (some .int) :: ws) ({ frames := 0, cells := 0, slots := 0, locals := 0 } : Room)) (fun a U => a = #[(.ref a1), (.int (0 : Int32)), (.ref a3), (.int (0 : Int32)), (.int (2 : Int32))] ∧ Z.Warmed39 U.vm ∧ U.heap = h0) (fun _ _ _ _ _ => True) (fun _ U o U' => ∃ v L, o = .returned v ∧ Q_rmCmpA2 Z a1 a3 kc kb c0 c1 h0 n0 v U'.heap L ∧ FrameEnd U o U' L ({ frames := 0, cells := 0, slots := 0, locals := 0 } : Room).cells ({ frames := 0, cells := 0, slots := 0, locals := 0 } : Room).slots) := by
  refine MetFree.of_bodySF (plainFor_of_name pn_java_lang_StringUTF16) hisR ?_
  intro p e s m args below meth c s₁ Bd hml0 hP hK
  obtain ⟨rfl, hZ, hh⟩ := hP
  have hx := Bd.exec
  have hby := Bd.bytes
  have hml : c.maxLocals = 7 := hml0
  have hown : s.vm.findClass "java/lang/StringUTF16" = some m.cls := findClass_of_methodNamed Bd.named
  have hnm := (name_of_methodNamed Bd.named Bd.method).1
  have X0 : Stand p l e ({ frames := 0, cells := 0, slots := 0, locals := 0 } : Room) s m #[(.ref a1), (.int (0 : Int32)), (.ref a3), (.int (0 : Int32)), (.int (2 : Int32))] below meth c s₁ [] 0 0 := Stand.of_body Bd
  have e0 : s₁.heap = h0 := by rw [← hh, Bd.state]; rfl
  have N0 := Fr.nil n0
  refine own_fw (A' := (s₁.setTop (mkF m 0 #[.val (.ref a1), .val (.int (0 : Int32)), .val (.ref a3), .val (.int (0 : Int32)), .val (.int (2 : Int32)), .unset, .unset] []))) (fun t k => castTop (ef_rmCmpA2 m a1 a3) k) ?_
  refine own_fw (A' := (s₁.setTop (mkF m 1 #[.val (.ref a1), .val (.int (0 : Int32)), .val (.ref a3), .val (.int (0 : Int32)), .val (.int (2 : Int32)), .unset, .unset] [(.int (0 : Int32))]))) (fun t k => XS.iconst X0.here hx rfl (hb hby d_jdk_52_method_21_code_0) k) ?_
  refine own_fw (A' := (s₁.setTop (mkF m 3 #[.val (.ref a1), .val (.int (0 : Int32)), .val (.ref a3), .val (.int (0 : Int32)), .val (.int (2 : Int32)), .val (.int (0 : Int32)), .unset] []))) (fun t k => XS.istore X0.here hx rfl (hb hby d_jdk_52_method_21_code_1) rfl (l' := #[.val (.ref a1), .val (.int (0 : Int32)), .val (.ref a3), .val (.int (0 : Int32)), .val (.int (2 : Int32)), .val (.int (0 : Int32)), .unset]) rfl k) ?_
  refine own_fw (A' := (s₁.setTop (mkF m 5 #[.val (.ref a1), .val (.int (0 : Int32)), .val (.ref a3), .val (.int (0 : Int32)), .val (.int (2 : Int32)), .val (.int (0 : Int32)), .unset] [(.int (0 : Int32))]))) (fun t k => XS.iload X0.here hx rfl (hb hby d_jdk_52_method_21_code_3) rfl k) ?_
  refine own_fw (A' := (s₁.setTop (mkF m 7 #[.val (.ref a1), .val (.int (0 : Int32)), .val (.ref a3), .val (.int (0 : Int32)), .val (.int (2 : Int32)), .val (.int (0 : Int32)), .unset] [(.int (2 : Int32)), (.int (0 : Int32))]))) (fun t k => XS.iload X0.here hx rfl (hb hby d_jdk_52_method_21_code_5) rfl k) ?_
  refine own_fw (A' := (s₁.setTop (mkF m 10 #[.val (.ref a1), .val (.int (0 : Int32)), .val (.ref a3), .val (.int (0 : Int32)), .val (.int (2 : Int32)), .val (.int (0 : Int32)), .unset] []))) (fun t k => XS.icmpNo X0.here hx rfl (hb hby d_jdk_52_method_21_code_7) rfl (XT.ii_ge_f (by decide)) k) ?_
  refine own_fw (A' := (s₁.setTop (mkF m 11 #[.val (.ref a1), .val (.int (0 : Int32)), .val (.ref a3), .val (.int (0 : Int32)), .val (.int (2 : Int32)), .val (.int (0 : Int32)), .unset] [(.ref a1)]))) (fun t k => XS.aloadN X0.here hx rfl (hb hby d_jdk_52_method_21_code_10) rfl rfl k) ?_
  refine own_fw (A' := (s₁.setTop (mkF m 12 #[.val (.ref a1), .val (.int (0 : Int32)), .val (.ref a3), .val (.int (0 : Int32)), .val (.int (2 : Int32)), .val (.int (0 : Int32)), .unset] [(.int (0 : Int32)), (.ref a1)]))) (fun t k => XS.iloadN X0.here hx rfl (hb hby d_jdk_52_method_21_code_11) rfl k) ?_
  obtain ⟨cl1, Ar1, q1, S1, M1, H1, G1⟩ := id P0
  have hin1 : ¬ ((0 : Int32) < 0 ∨ cl1.slots.size ≤ ((0 : Int32)).toNatClampNeg) := inb_of S1 ⟨by decide, by decide⟩
  have hat1 : cl1.slots[((0 : Int32)).toNatClampNeg]? = some (.int c0) := H1.at hin1 rfl
  refine own_fw (A' := (s₁.setTop (mkF m 13 #[.val (.ref a1), .val (.int (0 : Int32)), .val (.ref a3), .val (.int (0 : Int32)), .val (.int (2 : Int32)), .val (.int (0 : Int32)), .unset] [(.int c0)]))) (fun t k => X0.caload hx (j := (0 : Int32)) (v := (.int c0)) (by rw [e0]; exact Ar1.1) (State.isArrayOf_alike hZ.alike Ar1.2.1) Ar1.2.2 hin1 hat1 (g := (mkF m 12 #[.val (.ref a1), .val (.int (0 : Int32)), .val (.ref a3), .val (.int (0 : Int32)), .val (.int (2 : Int32)), .val (.int (0 : Int32)), .unset] [(.int (0 : Int32)), (.ref a1)])) rfl rfl (hb hby d_jdk_52_method_21_code_12) _ k) ?_
  refine own_fw (A' := (s₁.setTop (mkF m 15 #[.val (.ref a1), .val (.int (0 : Int32)), .val (.ref a3), .val (.int (0 : Int32)), .val (.int (2 : Int32)), .val (.int (0 : Int32)), .val (.int c0)] []))) (fun t k => XS.istore X0.here hx rfl (hb hby d_jdk_52_method_21_code_13) rfl (l' := #[.val (.ref a1), .val (.int (0 : Int32)), .val (.ref a3), .val (.int (0 : Int32)), .val (.int (2 : Int32)), .val (.int (0 : Int32)), .val (.int c0)]) rfl k) ?_
  refine own_fw (A' := (s₁.setTop (mkF m 17 #[.val (.ref a1), .val (.int (0 : Int32)), .val (.ref a3), .val (.int (0 : Int32)), .val (.int (2 : Int32)), .val (.int (0 : Int32)), .val (.int c0)] [(.int c0)]))) (fun t k => XS.iload X0.here hx rfl (hb hby d_jdk_52_method_21_code_15) rfl k) ?_
  refine own_fw (A' := (s₁.setTop (mkF m 20 #[.val (.ref a1), .val (.int (0 : Int32)), .val (.ref a3), .val (.int (0 : Int32)), .val (.int (2 : Int32)), .val (.int (0 : Int32)), .val (.int c0)] [(.int (255 : Int32)), (.int c0)]))) (fun t k => XS.sipush X0.here hx rfl (hb hby d_jdk_52_method_21_code_17) k) ?_
  refine own_fw (A' := (s₁.setTop (mkF m 26 #[.val (.ref a1), .val (.int (0 : Int32)), .val (.ref a3), .val (.int (0 : Int32)), .val (.int (2 : Int32)), .val (.int (0 : Int32)), .val (.int c0)] []))) (fun t k => XS.icmpYes X0.here hx rfl (pc0 := 20) (pc' := 26) rfl (hb hby d_jdk_52_method_21_code_20) rfl (XT.ii_le_t hc0) (by decide) (by decide) k) ?_
  refine own_fw (A' := (s₁.setTop (mkF m 27 #[.val (.ref a1), .val (.int (0 : Int32)), .val (.ref a3), .val (.int (0 : Int32)), .val (.int (2 : Int32)), .val (.int (0 : Int32)), .val (.int c0)] [(.ref a3)]))) (fun t k => XS.aloadN X0.here hx rfl (hb hby d_jdk_52_method_21_code_26) rfl rfl k) ?_
  refine own_fw (A' := (s₁.setTop (mkF m 28 #[.val (.ref a1), .val (.int (0 : Int32)), .val (.ref a3), .val (.int (0 : Int32)), .val (.int (2 : Int32)), .val (.int (0 : Int32)), .val (.int c0)] [(.int (0 : Int32)), (.ref a3)]))) (fun t k => XS.iloadN X0.here hx rfl (hb hby d_jdk_52_method_21_code_27) rfl k) ?_
  refine own_fw (A' := (s₁.setTop (mkF m 30 #[.val (.ref a1), .val (.int (0 : Int32)), .val (.ref a3), .val (.int (0 : Int32)), .val (.int (2 : Int32)), .val (.int (0 : Int32)), .val (.int c0)] [(.int c0), (.int (0 : Int32)), (.ref a3)]))) (fun t k => XS.iload X0.here hx rfl (hb hby d_jdk_52_method_21_code_28) rfl k) ?_
  refine own_fw (A' := (s₁.setTop (mkF m 31 #[.val (.ref a1), .val (.int (0 : Int32)), .val (.ref a3), .val (.int (0 : Int32)), .val (.int (2 : Int32)), .val (.int (0 : Int32)), .val (.int c0)] [(.int (c0.toInt8.toInt32)), (.int (0 : Int32)), (.ref a3)]))) (fun t k => XS.i2b X0.here hx rfl (hb hby d_jdk_52_method_21_code_30) rfl k) ?_
  obtain ⟨cl2, Ar2, q2, S2, M2, H2, G2⟩ := id P1
  have hin2 : ¬ ((0 : Int32) < 0 ∨ cl2.slots.size ≤ ((0 : Int32)).toNatClampNeg) := inb_of S2 ⟨by decide, by decide⟩
  obtain ⟨T2, h2, X2, e2, W2, st2⟩ := stB X0 hx hZ e0 Ar2 (j := (0 : Int32)) hin2 (g := (mkF m 31 #[.val (.ref a1), .val (.int (0 : Int32)), .val (.ref a3), .val (.int (0 : Int32)), .val (.int (2 : Int32)), .val (.int (0 : Int32)), .val (.int c0)] [(.int (c0.toInt8.toInt32)), (.int (0 : Int32)), (.ref a3)])) rfl rfl (hb hby d_jdk_52_method_21_code_31)
  rw [own_narB] at W2
  have V2 : Arv Z h2 a3 kb .byte (2 : Int32) [(.int (c0.toInt8.toInt32)), (.int (0 : Int32))] (.int (0 : Int32)) := Arv.set Ar2 q2 S2 M2 H2 G2 (fits_nar_byte _) W2 0 rfl (Nat.le_of_ble_eq_true rfl)
  have Nf2 := Fr.snoc X2 N0 g_a3
  have K2 : Keep h0 h2 [a3] := (Keep.refl h0 [a3]).wr W2 (Or.inl (List.mem_of_getElem? (i := 0) rfl))
  have Z2 : n0 ≤ h2.size := Nat.le_trans Z0 (Keep.of_wr W2).1
  refine own_fw (A' := (T2.setTop (mkF m 32 #[.val (.ref a1), .val (.int (0 : Int32)), .val (.ref a3), .val (.int (0 : Int32)), .val (.int (2 : Int32)), .val (.int (0 : Int32)), .val (.int c0)] []))) (fun t k => st2 _ k) ?_
  refine own_fw (A' := (T2.setTop (mkF m 35 #[.val (.ref a1), .val (.int (1 : Int32)), .val (.ref a3), .val (.int (0 : Int32)), .val (.int (2 : Int32)), .val (.int (0 : Int32)), .val (.int c0)] []))) (fun t k => XS.iinc X2.here hx rfl (hb hby d_jdk_52_method_21_code_32) rfl (l' := #[.val (.ref a1), .val (.int (1 : Int32)), .val (.ref a3), .val (.int (0 : Int32)), .val (.int (2 : Int32)), .val (.int (0 : Int32)), .val (.int c0)]) rfl k) ?_
  refine own_fw (A' := (T2.setTop (mkF m 38 #[.val (.ref a1), .val (.int (1 : Int32)), .val (.ref a3), .val (.int (1 : Int32)), .val (.int (2 : Int32)), .val (.int (0 : Int32)), .val (.int c0)] []))) (fun t k => XS.iinc X2.here hx rfl (hb hby d_jdk_52_method_21_code_35) rfl (l' := #[.val (.ref a1), .val (.int (1 : Int32)), .val (.ref a3), .val (.int (1 : Int32)), .val (.int (2 : Int32)), .val (.int (0 : Int32)), .val (.int c0)]) rfl k) ?_
  refine own_fw (A' := (T2.setTop (mkF m 41 #[.val (.ref a1), .val (.int (1 : Int32)), .val (.ref a3), .val (.int (1 : Int32)), .val (.int (2 : Int32)), .val (.int (1 : Int32)), .val (.int c0)] []))) (fun t k => XS.iinc X2.here hx rfl (hb hby d_jdk_52_method_21_code_38) rfl (l' := #[.val (.ref a1), .val (.int (1 : Int32)), .val (.ref a3), .val (.int (1 : Int32)), .val (.int (2 : Int32)), .val (.int (1 : Int32)), .val (.int c0)]) rfl k) ?_
  refine own_fw (A' := (T2.setTop (mkF m 3 #[.val (.ref a1), .val (.int (1 : Int32)), .val (.ref a3), .val (.int (1 : Int32)), .val (.int (2 : Int32)), .val (.int (1 : Int32)), .val (.int c0)] []))) (fun t k => XS.goto X2.here hx rfl (pc0 := 41) (pc' := 3) rfl (hb hby d_jdk_52_method_21_code_41) (by decide) (by decide) k) ?_
  refine own_fw (A' := (T2.setTop (mkF m 5 #[.val (.ref a1), .val (.int (1 : Int32)), .val (.ref a3), .val (.int (1 : Int32)), .val (.int (2 : Int32)), .val (.int (1 : Int32)), .val (.int c0)] [(.int (1 : Int32))]))) (fun t k => XS.iload X2.here hx rfl (hb hby d_jdk_52_method_21_code_3) rfl k) ?_
  refine own_fw (A' := (T2.setTop (mkF m 7 #[.val (.ref a1), .val (.int (1 : Int32)), .val (.ref a3), .val (.int (1 : Int32)), .val (.int (2 : Int32)), .val (.int (1 : Int32)), .val (.int c0)] [(.int (2 : Int32)), (.int (1 : Int32))]))) (fun t k => XS.iload X2.here hx rfl (hb hby d_jdk_52_method_21_code_5) rfl k) ?_
  refine own_fw (A' := (T2.setTop (mkF m 10 #[.val (.ref a1), .val (.int (1 : Int32)), .val (.ref a3), .val (.int (1 : Int32)), .val (.int (2 : Int32)), .val (.int (1 : Int32)), .val (.int c0)] []))) (fun t k => XS.icmpNo X2.here hx rfl (hb hby d_jdk_52_method_21_code_7) rfl (XT.ii_ge_f (by decide)) k) ?_
  refine own_fw (A' := (T2.setTop (mkF m 11 #[.val (.ref a1), .val (.int (1 : Int32)), .val (.ref a3), .val (.int (1 : Int32)), .val (.int (2 : Int32)), .val (.int (1 : Int32)), .val (.int c0)] [(.ref a1)]))) (fun t k => XS.aloadN X2.here hx rfl (hb hby d_jdk_52_method_21_code_10) rfl rfl k) ?_
  refine own_fw (A' := (T2.setTop (mkF m 12 #[.val (.ref a1), .val (.int (1 : Int32)), .val (.ref a3), .val (.int (1 : Int32)), .val (.int (2 : Int32)), .val (.int (1 : Int32)), .val (.int c0)] [(.int (1 : Int32)), (.ref a1)]))) (fun t k => XS.iloadN X2.here hx rfl (hb hby d_jdk_52_method_21_code_11) rfl k) ?_
  obtain ⟨cl3, Ar3, q3, S3, M3, H3, G3⟩ := id (P0.other W2 ne_a1_a3)
  have hin3 : ¬ ((1 : Int32) < 0 ∨ cl3.slots.size ≤ ((1 : Int32)).toNatClampNeg) := inb_of S3 ⟨by decide, by decide⟩
  have hat3 : cl3.slots[((1 : Int32)).toNatClampNeg]? = some (.int c1) := H3.at hin3 rfl
  refine own_fw (A' := (T2.setTop (mkF m 13 #[.val (.ref a1), .val (.int (1 : Int32)), .val (.ref a3), .val (.int (1 : Int32)), .val (.int (2 : Int32)), .val (.int (1 : Int32)), .val (.int c0)] [(.int c1)]))) (fun t k => X2.caload hx (j := (1 : Int32)) (v := (.int c1)) (by rw [e2]; exact Ar3.1) (State.isArrayOf_alike hZ.alike Ar3.2.1) Ar3.2.2 hin3 hat3 (g := (mkF m 12 #[.val (.ref a1), .val (.int (1 : Int32)), .val (.ref a3), .val (.int (1 : Int32)), .val (.int (2 : Int32)), .val (.int (1 : Int32)), .val (.int c0)] [(.int (1 : Int32)), (.ref a1)])) rfl rfl (hb hby d_jdk_52_method_21_code_12) _ k) ?_
  refine own_fw (A' := (T2.setTop (mkF m 15 #[.val (.ref a1), .val (.int (1 : Int32)), .val (.ref a3), .val (.int (1 : Int32)), .val (.int (2 : Int32)), .val (.int (1 : Int32)), .val (.int c1)] []))) (fun t k => XS.istore X2.here hx rfl (hb hby d_jdk_52_method_21_code_13) rfl (l' := #[.val (.ref a1), .val (.int (1 : Int32)), .val (.ref a3), .val (.int (1 : Int32)), .val (.int (2 : Int32)), .val (.int (1 : Int32)), .val (.int c1)]) rfl k) ?_
  refine own_fw (A' := (T2.setTop (mkF m 17 #[.val (.ref a1), .val (.int (1 : Int32)), .val (.ref a3), .val (.int (1 : Int32)), .val (.int (2 : Int32)), .val (.int (1 : Int32)), .val (.int c1)] [(.int c1)]))) (fun t k => XS.iload X2.here hx rfl (hb hby d_jdk_52_method_21_code_15) rfl k) ?_
  refine own_fw (A' := (T2.setTop (mkF m 20 #[.val (.ref a1), .val (.int (1 : Int32)), .val (.ref a3), .val (.int (1 : Int32)), .val (.int (2 : Int32)), .val (.int (1 : Int32)), .val (.int c1)] [(.int (255 : Int32)), (.int c1)]))) (fun t k => XS.sipush X2.here hx rfl (hb hby d_jdk_52_method_21_code_17) k) ?_
  refine own_fw (A' := (T2.setTop (mkF m 26 #[.val (.ref a1), .val (.int (1 : Int32)), .val (.ref a3), .val (.int (1 : Int32)), .val (.int (2 : Int32)), .val (.int (1 : Int32)), .val (.int c1)] []))) (fun t k => XS.icmpYes X2.here hx rfl (pc0 := 20) (pc' := 26) rfl (hb hby d_jdk_52_method_21_code_20) rfl (XT.ii_le_t hc1) (by decide) (by decide) k) ?_
  refine own_fw (A' := (T2.setTop (mkF m 27 #[.val (.ref a1), .val (.int (1 : Int32)), .val (.ref a3), .val (.int (1 : Int32)), .val (.int (2 : Int32)), .val (.int (1 : Int32)), .val (.int c1)] [(.ref a3)]))) (fun t k => XS.aloadN X2.here hx rfl (hb hby d_jdk_52_method_21_code_26) rfl rfl k) ?_
  refine own_fw (A' := (T2.setTop (mkF m 28 #[.val (.ref a1), .val (.int (1 : Int32)), .val (.ref a3), .val (.int (1 : Int32)), .val (.int (2 : Int32)), .val (.int (1 : Int32)), .val (.int c1)] [(.int (1 : Int32)), (.ref a3)]))) (fun t k => XS.iloadN X2.here hx rfl (hb hby d_jdk_52_method_21_code_27) rfl k) ?_
  refine own_fw (A' := (T2.setTop (mkF m 30 #[.val (.ref a1), .val (.int (1 : Int32)), .val (.ref a3), .val (.int (1 : Int32)), .val (.int (2 : Int32)), .val (.int (1 : Int32)), .val (.int c1)] [(.int c1), (.int (1 : Int32)), (.ref a3)]))) (fun t k => XS.iload X2.here hx rfl (hb hby d_jdk_52_method_21_code_28) rfl k) ?_
  refine own_fw (A' := (T2.setTop (mkF m 31 #[.val (.ref a1), .val (.int (1 : Int32)), .val (.ref a3), .val (.int (1 : Int32)), .val (.int (2 : Int32)), .val (.int (1 : Int32)), .val (.int c1)] [(.int (c1.toInt8.toInt32)), (.int (1 : Int32)), (.ref a3)]))) (fun t k => XS.i2b X2.here hx rfl (hb hby d_jdk_52_method_21_code_30) rfl k) ?_
  obtain ⟨cl4, Ar4, q4, S4, M4, H4, G4⟩ := id V2
  have hin4 : ¬ ((1 : Int32) < 0 ∨ cl4.slots.size ≤ ((1 : Int32)).toNatClampNeg) := inb_of S4 ⟨by decide, by decide⟩
  obtain ⟨T4, h4, X4, e4, W4, st4⟩ := stB X2 hx hZ e2 Ar4 (j := (1 : Int32)) hin4 (g := (mkF m 31 #[.val (.ref a1), .val (.int (1 : Int32)), .val (.ref a3), .val (.int (1 : Int32)), .val (.int (2 : Int32)), .val (.int (1 : Int32)), .val (.int c1)] [(.int (c1.toInt8.toInt32)), (.int (1 : Int32)), (.ref a3)])) rfl rfl (hb hby d_jdk_52_method_21_code_31)
  rw [own_narB] at W4
  have V4 : Arv Z h4 a3 kb .byte (2 : Int32) [(.int (c0.toInt8.toInt32)), (.int (c1.toInt8.toInt32))] (.int (0 : Int32)) := Arv.set Ar4 q4 S4 M4 H4 G4 (fits_nar_byte _) W4 1 rfl (Nat.le_of_ble_eq_true rfl)
  have Nf4 := Fr.snoc X4 Nf2 g_a3
  have K4 : Keep h0 h4 [a3] := K2.wr W4 (Or.inl (List.mem_of_getElem? (i := 0) rfl))
  have Z4 : n0 ≤ h4.size := Nat.le_trans Z2 (Keep.of_wr W4).1
  refine own_fw (A' := (T4.setTop (mkF m 32 #[.val (.ref a1), .val (.int (1 : Int32)), .val (.ref a3), .val (.int (1 : Int32)), .val (.int (2 : Int32)), .val (.int (1 : Int32)), .val (.int c1)] []))) (fun t k => st4 _ k) ?_
  refine own_fw (A' := (T4.setTop (mkF m 35 #[.val (.ref a1), .val (.int (2 : Int32)), .val (.ref a3), .val (.int (1 : Int32)), .val (.int (2 : Int32)), .val (.int (1 : Int32)), .val (.int c1)] []))) (fun t k => XS.iinc X4.here hx rfl (hb hby d_jdk_52_method_21_code_32) rfl (l' := #[.val (.ref a1), .val (.int (2 : Int32)), .val (.ref a3), .val (.int (1 : Int32)), .val (.int (2 : Int32)), .val (.int (1 : Int32)), .val (.int c1)]) rfl k) ?_
  refine own_fw (A' := (T4.setTop (mkF m 38 #[.val (.ref a1), .val (.int (2 : Int32)), .val (.ref a3), .val (.int (2 : Int32)), .val (.int (2 : Int32)), .val (.int (1 : Int32)), .val (.int c1)] []))) (fun t k => XS.iinc X4.here hx rfl (hb hby d_jdk_52_method_21_code_35) rfl (l' := #[.val (.ref a1), .val (.int (2 : Int32)), .val (.ref a3), .val (.int (2 : Int32)), .val (.int (2 : Int32)), .val (.int (1 : Int32)), .val (.int c1)]) rfl k) ?_
  refine own_fw (A' := (T4.setTop (mkF m 41 #[.val (.ref a1), .val (.int (2 : Int32)), .val (.ref a3), .val (.int (2 : Int32)), .val (.int (2 : Int32)), .val (.int (2 : Int32)), .val (.int c1)] []))) (fun t k => XS.iinc X4.here hx rfl (hb hby d_jdk_52_method_21_code_38) rfl (l' := #[.val (.ref a1), .val (.int (2 : Int32)), .val (.ref a3), .val (.int (2 : Int32)), .val (.int (2 : Int32)), .val (.int (2 : Int32)), .val (.int c1)]) rfl k) ?_
  refine own_fw (A' := (T4.setTop (mkF m 3 #[.val (.ref a1), .val (.int (2 : Int32)), .val (.ref a3), .val (.int (2 : Int32)), .val (.int (2 : Int32)), .val (.int (2 : Int32)), .val (.int c1)] []))) (fun t k => XS.goto X4.here hx rfl (pc0 := 41) (pc' := 3) rfl (hb hby d_jdk_52_method_21_code_41) (by decide) (by decide) k) ?_
  refine own_fw (A' := (T4.setTop (mkF m 5 #[.val (.ref a1), .val (.int (2 : Int32)), .val (.ref a3), .val (.int (2 : Int32)), .val (.int (2 : Int32)), .val (.int (2 : Int32)), .val (.int c1)] [(.int (2 : Int32))]))) (fun t k => XS.iload X4.here hx rfl (hb hby d_jdk_52_method_21_code_3) rfl k) ?_
  refine own_fw (A' := (T4.setTop (mkF m 7 #[.val (.ref a1), .val (.int (2 : Int32)), .val (.ref a3), .val (.int (2 : Int32)), .val (.int (2 : Int32)), .val (.int (2 : Int32)), .val (.int c1)] [(.int (2 : Int32)), (.int (2 : Int32))]))) (fun t k => XS.iload X4.here hx rfl (hb hby d_jdk_52_method_21_code_5) rfl k) ?_
  refine own_fw (A' := (T4.setTop (mkF m 44 #[.val (.ref a1), .val (.int (2 : Int32)), .val (.ref a3), .val (.int (2 : Int32)), .val (.int (2 : Int32)), .val (.int (2 : Int32)), .val (.int c1)] []))) (fun t k => XS.icmpYes X4.here hx rfl (pc0 := 7) (pc' := 44) rfl (hb hby d_jdk_52_method_21_code_7) rfl (XT.ii_ge_t (by decide)) (by decide) (by decide) k) ?_
  refine own_fw (A' := (T4.setTop (mkF m 46 #[.val (.ref a1), .val (.int (2 : Int32)), .val (.ref a3), .val (.int (2 : Int32)), .val (.int (2 : Int32)), .val (.int (2 : Int32)), .val (.int c1)] [(.int (2 : Int32))]))) (fun t k => XS.iload X4.here hx rfl (hb hby d_jdk_52_method_21_code_44) rfl k) ?_
  obtain ⟨fs, hr, hrun, hended, hW, hsame⟩ := X4.leave (v := some (.int (2 : Int32))) (fun h => by rw [Bd.returns] at h; cases h)
  refine ⟨_, _, ?_, hrun, hended, _, _, rfl, ?_, ⟨_, rfl⟩, hW, hsame.mono (by decide) (by decide)⟩
  · exact retOut X4 hx Bd.returns rfl (Or.inl ⟨rfl, by simp, _, rfl⟩) (hb hby d_jdk_52_method_21_code_46) hr
  · show Q_rmCmpA2 Z a1 a3 kc kb c0 c1 h0 n0 _ T4.heap _
    rw [e4]
    exact ⟨rfl, Nf4, K4, V4⟩
theorem ef_rmCmpB2 (m : MethodId) (a1 : Addr) : entryFrame m #[(.ref a1), (.int (0 : Int32)), (.int (2 : Int32))] 6 = mkF m 0 #[.val (.ref a1), .val (.int (0 : Int32)), .val (.int (2 : Int32)), .unset, .unset, .unset] [] := by first | (simp [entryFrame, mkF, argsToLocals, Value.category]; done) | rfl
def Q_rmCmpB2 (Z : State) (a1 : Addr) (kc : ClassId) (c0 : Int32) (c1 : Int32) (h0 : Heap) (n0 : Nat) (v : Option Value) (h : Heap) (L : List Loc) : Prop := ∃ b : Addr, ∃ kb : ClassId, v = some (.ref b) ∧ Fr n0 L ∧ Keep h0 h [] ∧ Arv Z h b kb .byte (2 : Int32) [(.int (c0.toInt8.toInt32)), (.int (c1.toInt8.toInt32))] (.int (0 : Int32)) ∧ (h0.size ≤ b)
set_option maxRecDepth 65536 in
set_option maxHeartbeats 40000000 in
theorem rmCmpB2 (l : Launch) (Z : State) (a0 : Array Value) (hw : ∀ d ∈ tables_1, d.before a0 Z = true) (ws : List Jvm.Cond) (a1 : Addr) (kc : ClassId) (c0 : Int32) (c1 : Int32) (h0 : Heap) (n0 : Nat) (Z0 : n0 ≤ h0.size) (P0 : Arv Z h0 a1 kc .char (2 : Int32) [(.int c0), (.int c1)] (.int (0 : Int32))) (hc0 : ¬ ((255 : Int32) < c0)) (hc1 : ¬ ((255 : Int32) < c1)) :
    MetFree l (⟨"java/lang/StringUTF16", "compress", "([CII)[B"⟩ : MethodName) (head1 (Jvm.Cond.code (⟨"java/lang/StringUTF16", "compress", "([CII)[B"⟩ : MethodName) jdk_52_method_16_code 6 (some (.array .byte)) :: ws) ({ frames := 1, cells := 1, slots := 2, locals := 18 } : Room)) (fun a U => a = #[(.ref a1), (.int (0 : Int32)), (.int (2 : Int32))] ∧ Z.Warmed39 U.vm ∧ U.heap = h0) (fun _ _ _ _ _ => True) (fun _ U o U' => ∃ v L, o = .returned v ∧ Q_rmCmpB2 Z a1 kc c0 c1 h0 n0 v U'.heap L ∧ FrameEnd U o U' L ({ frames := 1, cells := 1, slots := 2, locals := 18 } : Room).cells ({ frames := 1, cells := 1, slots := 2, locals := 18 } : Room).slots) := by
  refine MetFree.of_bodySF (plainFor_of_name pn_java_lang_StringUTF16) hisR ?_
  intro p e s m args below meth c s₁ Bd hml0 hP hK
  obtain ⟨rfl, hZ, hh⟩ := hP
  have hx := Bd.exec
  have hby := Bd.bytes
  have hml : c.maxLocals = 6 := hml0
  have hown : s.vm.findClass "java/lang/StringUTF16" = some m.cls := findClass_of_methodNamed Bd.named
  have hnm := (name_of_methodNamed Bd.named Bd.method).1
  have X0 : Stand p l e ({ frames := 1, cells := 1, slots := 2, locals := 18 } : Room) s m #[(.ref a1), (.int (0 : Int32)), (.int (2 : Int32))] below meth c s₁ [] 0 0 := Stand.of_body Bd
  have e0 : s₁.heap = h0 := by rw [← hh, Bd.state]; rfl
  have N0 := Fr.nil n0
  refine own_fw (A' := (s₁.setTop (mkF m 0 #[.val (.ref a1), .val (.int (0 : Int32)), .val (.int (2 : Int32)), .unset, .unset, .unset] []))) (fun t k => castTop (ef_rmCmpB2 m a1) k) ?_
  refine own_fw (A' := (s₁.setTop (mkF m 1 #[.val (.ref a1), .val (.int (0 : Int32)), .val (.int (2 : Int32)), .unset, .unset, .unset] [(.int (2 : Int32))]))) (fun t k => XS.iloadN X0.here hx rfl (hb hby d_jdk_52_method_16_code_0) rfl k) ?_
  obtain ⟨T1, h1, k1, X1, e1, E1, A1, st1⟩ := newP X0 hx hZ (hw _ (List.mem_of_getElem? (i := 26) rfl)) e0 (g := (mkF m 1 #[.val (.ref a1), .val (.int (0 : Int32)), .val (.int (2 : Int32)), .unset, .unset, .unset] [(.int (2 : Int32))])) rfl (hb hby d_jdk_52_method_16_code_1) rfl (by decide) (cap := 2) (by decide) (by decide) (by decide) (by decide)
  obtain ⟨b1, gb1⟩ : ∃ z, z = h0.size := ⟨_, rfl⟩
  have g_b1 : n0 ≤ b1 := Nat.le_trans Z0 (Nat.le_of_eq gb1.symm)
  have sz_b1 : h0.size ≤ b1 := Nat.le_trans (Keep.refl h0 []).1 (Nat.le_of_eq gb1.symm)
  have ne_a1_b1 : a1 ≠ b1 := Nat.ne_of_lt (Nat.lt_of_lt_of_le P0.lt (Nat.le_of_eq gb1.symm))
  rw [← gb1] at A1 st1
  have V_b1 : Arv Z h1 b1 k1 .byte (2 : Int32) [(.int (0 : Int32)), (.int (0 : Int32))] (.int (0 : Int32)) := (Arv.new A1 (by decide)).pad (pad_rep [] (.int (0 : Int32)) 2)
  have K1 : Keep h0 h1 [] := (Keep.refl h0 []).ext E1
  have Z1 : n0 ≤ h1.size := Nat.le_trans Z0 E1.1
  refine own_fw (A' := (T1.setTop (mkF m 3 #[.val (.ref a1), .val (.int (0 : Int32)), .val (.int (2 : Int32)), .unset, .unset, .unset] [(.ref b1)]))) (fun t k => st1 _ k) ?_
  refine own_fw (A' := (T1.setTop (mkF m 4 #[.val (.ref a1), .val (.int (0 : Int32)), .val (.int (2 : Int32)), .val (.ref b1), .unset, .unset] []))) (fun t k => XS.astoreN X1.here hx rfl (hb hby d_jdk_52_method_16_code_3) rfl rfl (l' := #[.val (.ref a1), .val (.int (0 : Int32)), .val (.int (2 : Int32)), .val (.ref b1), .unset, .unset]) rfl k) ?_
  refine own_fw (A' := (T1.setTop (mkF m 5 #[.val (.ref a1), .val (.int (0 : Int32)), .val (.int (2 : Int32)), .val (.ref b1), .unset, .unset] [(.ref a1)]))) (fun t k => XS.aloadN X1.here hx rfl (hb hby d_jdk_52_method_16_code_4) rfl rfl k) ?_
  refine own_fw (A' := (T1.setTop (mkF m 6 #[.val (.ref a1), .val (.int (0 : Int32)), .val (.int (2 : Int32)), .val (.ref b1), .unset, .unset] [(.int (0 : Int32)), (.ref a1)]))) (fun t k => XS.iloadN X1.here hx rfl (hb hby d_jdk_52_method_16_code_5) rfl k) ?_
  refine own_fw (A' := (T1.setTop (mkF m 7 #[.val (.ref a1), .val (.int (0 : Int32)), .val (.int (2 : Int32)), .val (.ref b1), .unset, .unset] [(.ref b1), (.int (0 : Int32)), (.ref a1)]))) (fun t k => XS.aloadN X1.here hx rfl (hb hby d_jdk_52_method_16_code_6) rfl rfl k) ?_
  refine own_fw (A' := (T1.setTop (mkF m 8 #[.val (.ref a1), .val (.int (0 : Int32)), .val (.int (2 : Int32)), .val (.ref b1), .unset, .unset] [(.int (0 : Int32)), (.ref b1), (.int (0 : Int32)), (.ref a1)]))) (fun t k => XS.iconst X1.here hx rfl (hb hby d_jdk_52_method_16_code_7) k) ?_
  refine own_fw (A' := (T1.setTop (mkF m 9 #[.val (.ref a1), .val (.int (0 : Int32)), .val (.int (2 : Int32)), .val (.ref b1), .unset, .unset] [(.int (2 : Int32)), (.int (0 : Int32)), (.ref b1), (.int (0 : Int32)), (.ref a1)]))) (fun t k => XS.iloadN X1.here hx rfl (hb hby d_jdk_52_method_16_code_8) rfl k) ?_
  obtain ⟨_, _, ⟨T2, L2, k2, n2⟩, -, X2, ⟨Lc2, hQ2, l2, y2, z2⟩, st2⟩ := Jvm.LawKit.callS X1 hx (y := (⟨"java/lang/StringUTF16", "compress", "([CI[BII)I"⟩ : MethodName)) hown (mvT hZ (hw _ (List.mem_of_getElem? (i := 73) rfl))) (mvT hZ (hw _ (List.mem_of_getElem? (i := 74) rfl))) (mvT hZ (hw _ (List.mem_of_getElem? (i := 71) rfl))) (mvT hZ (hw _ (List.mem_of_getElem? (i := 75) rfl))) (by decide) (backOf (W := 0) (rmCmpA2 l Z a0 hw [] a1 b1 kc k1 c0 c1 h1 n0 Z1 (P0.ext E1) V_b1 g_b1 ne_a1_b1 hc0 hc1) hZ (hw _ (List.mem_of_getElem? (i := 75) rfl)) (hw _ (List.mem_of_getElem? (i := 71) rfl)) (by decide) (by decide)) (g := (mkF m 9 #[.val (.ref a1), .val (.int (0 : Int32)), .val (.int (2 : Int32)), .val (.ref b1), .unset, .unset] [(.int (2 : Int32)), (.int (0 : Int32)), (.ref b1), (.int (0 : Int32)), (.ref a1)])) rfl (by rw [hml]; rfl) (argsL := [(.ref a1), (.int (0 : Int32)), (.ref b1), (.int (0 : Int32)), (.int (2 : Int32))]) (rest := []) (lenOf pd___CI_BII_I rfl) rfl (by show 2 * 0 + _ ≤ _; exact Nat.le_of_eq rfl) (hb hby d_jdk_52_method_16_code_9) (fun _ _ => ⟨rfl, e1, (by decide : 1 + 0 ≤ _), (by decide : 2 + 0 ≤ _)⟩)
  dsimp only [Pt.U, Pt.locs, Pt.cells, Pt.slots] at X2 l2 y2 z2 st2 hQ2
  subst l2 y2 z2
  obtain ⟨rfl, Nq2, Kq2, Fq2_0⟩ := hQ2
  have Nf2 := Fr.app N0 Nq2
  have K2 : Keep h0 T2.heap [] := K1.trans Kq2 (allS (Or.inr sz_b1) all0)
  have Z2 : n0 ≤ T2.heap.size := Nat.le_trans Z1 Kq2.1
  refine own_fw (A' := (T2.setTop (mkF m 12 #[.val (.ref a1), .val (.int (0 : Int32)), .val (.int (2 : Int32)), .val (.ref b1), .unset, .unset] [(.int (2 : Int32))]))) (fun t k => st2 _ k) ?_
  refine own_fw (A' := (T2.setTop (mkF m 14 #[.val (.ref a1), .val (.int (0 : Int32)), .val (.int (2 : Int32)), .val (.ref b1), .val (.int (2 : Int32)), .unset] []))) (fun t k => XS.istore X2.here hx rfl (hb hby d_jdk_52_method_16_code_12) rfl (l' := #[.val (.ref a1), .val (.int (0 : Int32)), .val (.int (2 : Int32)), .val (.ref b1), .val (.int (2 : Int32)), .unset]) rfl k) ?_
  refine own_fw (A' := (T2.setTop (mkF m 16 #[.val (.ref a1), .val (.int (0 : Int32)), .val (.int (2 : Int32)), .val (.ref b1), .val (.int (2 : Int32)), .unset] [(.int (2 : Int32))]))) (fun t k => XS.iload X2.here hx rfl (hb hby d_jdk_52_method_16_code_14) rfl k) ?_
  refine own_fw (A' := (T2.setTop (mkF m 17 #[.val (.ref a1), .val (.int (0 : Int32)), .val (.int (2 : Int32)), .val (.ref b1), .val (.int (2 : Int32)), .unset] [(.int (2 : Int32)), (.int (2 : Int32))]))) (fun t k => XS.iloadN X2.here hx rfl (hb hby d_jdk_52_method_16_code_16) rfl k) ?_
  refine own_fw (A' := (T2.setTop (mkF m 57 #[.val (.ref a1), .val (.int (0 : Int32)), .val (.int (2 : Int32)), .val (.ref b1), .val (.int (2 : Int32)), .unset] []))) (fun t k => XS.icmpYes X2.here hx rfl (pc0 := 17) (pc' := 57) rfl (hb hby d_jdk_52_method_16_code_17) rfl (XT.ii_eq_t rfl) (by decide) (by decide) k) ?_
  refine own_fw (A' := (T2.setTop (mkF m 58 #[.val (.ref a1), .val (.int (0 : Int32)), .val (.int (2 : Int32)), .val (.ref b1), .val (.int (2 : Int32)), .unset] [(.ref b1)]))) (fun t k => XS.aloadN X2.here hx rfl (hb hby d_jdk_52_method_16_code_57) rfl rfl k) ?_
  obtain ⟨fs, hr, hrun, hended, hW, hsame⟩ := X2.leave (v := some (.ref b1)) (fun h => by rw [Bd.returns] at h; cases h)
  refine ⟨_, _, ?_, hrun, hended, _, _, rfl, ?_, ⟨_, rfl⟩, hW, hsame.mono (by decide) (by decide)⟩
  · exact retOut X2 hx Bd.returns rfl (Or.inr (Or.inr (Or.inr (Or.inr ⟨rfl, rfl, rfl⟩)))) (hb hby d_jdk_52_method_16_code_58) hr
  · show Q_rmCmpB2 Z a1 kc c0 c1 h0 n0 _ T2.heap _
    exact ⟨b1, k1, rfl, Nf2, K2, Fq2_0, sz_b1⟩
theorem ef_rmCoder2 (m : MethodId) (a1 : Addr) : entryFrame m #[(.ref a1), (.int (2 : Int32))] 2 = mkF m 0 #[.val (.ref a1), .val (.int (2 : Int32))] [] := by first | (simp [entryFrame, mkF, argsToLocals, Value.category]; done) | rfl
def Q_rmCoder2 (Z : State) (a1 : Addr) (kb : ClassId) (c0 : Int32) (c1 : Int32) (h0 : Heap) (n0 : Nat) (v : Option Value) (h : Heap) (L : List Loc) : Prop := v = some (.int (0 : Int32)) ∧ Fr n0 L ∧ h = h0
set_option maxRecDepth 65536 in
set_option maxHeartbeats 40000000 in
theorem rmCoder2 (l : Launch) (Z : State) (a0 : Array Value) (hw : ∀ d ∈ tables_1, d.before a0 Z = true) (ws : List Jvm.Cond) (a1 : Addr) (kb : ClassId) (c0 : Int32) (c1 : Int32) (h0 : Heap) (n0 : Nat) (Z0 : n0 ≤ h0.size) (P0 : Arv Z h0 a1 kb .byte (2 : Int32) [(.int c0), (.int c1)] (.int (0 : Int32))) :
    MetFree l (⟨"java/lang/StringUTF16", "coderFromArrayLen", "([BI)B"⟩ : MethodName) (head1 (Jvm.Cond.code (⟨"java/lang/StringUTF16", "coderFromArrayLen", "([BI)B"⟩ : MethodName) jdk_52_method_15_code 2 (some .byte) :: ws) ({ frames := 0, cells := 0, slots := 0, locals := 0 } : Room)) (fun a U => a = #[(.ref a1), (.int (2 : Int32))] ∧ Z.Warmed39 U.vm ∧ U.heap = h0) (fun _ _ _ _ _ => True) (fun _ U o U' => ∃ v L, o = .returned v ∧ Q_rmCoder2 Z a1 kb c0 c1 h0 n0 v U'.heap L ∧ FrameEnd U o U' L ({ frames := 0, cells := 0, slots := 0, locals := 0 } : Room).cells ({ frames := 0, cells := 0, slots := 0, locals := 0 } : Room).slots) := by
  refine MetFree.of_bodySF (plainFor_of_name pn_java_lang_StringUTF16) hisR ?_
  intro p e s m args below meth c s₁ Bd hml0 hP hK
  obtain ⟨rfl, hZ, hh⟩ := hP
  have hx := Bd.exec
  have hby := Bd.bytes
  have hml : c.maxLocals = 2 := hml0
  have hown : s.vm.findClass "java/lang/StringUTF16" = some m.cls := findClass_of_methodNamed Bd.named
  have hnm := (name_of_methodNamed Bd.named Bd.method).1
  have X0 : Stand p l e ({ frames := 0, cells := 0, slots := 0, locals := 0 } : Room) s m #[(.ref a1), (.int (2 : Int32))] below meth c s₁ [] 0 0 := Stand.of_body Bd
  have e0 : s₁.heap = h0 := by rw [← hh, Bd.state]; rfl
  have N0 := Fr.nil n0
  refine own_fw (A' := (s₁.setTop (mkF m 0 #[.val (.ref a1), .val (.int (2 : Int32))] []))) (fun t k => castTop (ef_rmCoder2 m a1) k) ?_
  refine own_fw (A' := (s₁.setTop (mkF m 1 #[.val (.ref a1), .val (.int (2 : Int32))] [(.int (2 : Int32))]))) (fun t k => XS.iloadN X0.here hx rfl (hb hby d_jdk_52_method_15_code_0) rfl k) ?_
  refine own_fw (A' := (s₁.setTop (mkF m 2 #[.val (.ref a1), .val (.int (2 : Int32))] [(.ref a1), (.int (2 : Int32))]))) (fun t k => XS.aloadN X0.here hx rfl (hb hby d_jdk_52_method_15_code_1) rfl rfl k) ?_
  obtain ⟨cl1, Ar1, q1, S1, M1, H1, G1⟩ := id P0
  refine own_fw (A' := (s₁.setTop (mkF m 3 #[.val (.ref a1), .val (.int (2 : Int32))] [(.int (2 : Int32)), (.int (2 : Int32))]))) (fun t k => X0.arraylength hx (by rw [e0]; exact Ar1.1) (State.isArrayOf_alike hZ.alike Ar1.2.1) (g := (mkF m 2 #[.val (.ref a1), .val (.int (2 : Int32))] [(.ref a1), (.int (2 : Int32))])) rfl rfl (hb hby d_jdk_52_method_15_code_2) _ (by rw [len_of S1 M1]; exact k)) ?_
  refine own_fw (A' := (s₁.setTop (mkF m 4 #[.val (.ref a1), .val (.int (2 : Int32))] [(.int (0 : Int32))]))) (fun t k => XS.isub X0.here hx rfl (hb hby d_jdk_52_method_15_code_3) rfl k) ?_
  refine own_fw (A' := (s₁.setTop (mkF m 6 #[.val (.ref a1), .val (.int (2 : Int32))] [(.int (31 : Int32)), (.int (0 : Int32))]))) (fun t k => XS.bipush X0.here hx rfl (hb hby d_jdk_52_method_15_code_4) k) ?_
  refine own_fw (A' := (s₁.setTop (mkF m 7 #[.val (.ref a1), .val (.int (2 : Int32))] [(.int (0 : Int32))]))) (fun t k => XS.iushr X0.here hx rfl (hb hby d_jdk_52_method_15_code_6) rfl k) ?_
  refine own_fw (A' := (s₁.setTop (mkF m 8 #[.val (.ref a1), .val (.int (2 : Int32))] [(.int (0 : Int32))]))) (fun t k => XS.i2b X0.here hx rfl (hb hby d_jdk_52_method_15_code_7) rfl k) ?_
  obtain ⟨fs, hr, hrun, hended, hW, hsame⟩ := X0.leave (v := some (.int (0 : Int32))) (fun h => by rw [Bd.returns] at h; cases h)
  refine ⟨_, _, ?_, hrun, hended, _, _, rfl, ?_, ⟨_, rfl⟩, hW, hsame.mono (by decide) (by decide)⟩
  · exact retOut X0 hx Bd.returns rfl (Or.inl ⟨rfl, by simp, _, rfl⟩) (hb hby d_jdk_52_method_15_code_8) hr
  · show Q_rmCoder2 Z a1 kb c0 c1 h0 n0 _ s₁.heap _
    rw [e0]
    exact ⟨rfl, N0, rfl⟩
theorem ef_rmStrB2 (m : MethodId) (a1 : Addr) (a2 : Addr) : entryFrame m #[(.ref a1), (.ref a2), (.int (0 : Int32)), (.int (2 : Int32)), .null] 6 = mkF m 0 #[.val (.ref a1), .val (.ref a2), .val (.int (0 : Int32)), .val (.int (2 : Int32)), .val .null, .unset] [] := by first | (simp [entryFrame, mkF, argsToLocals, Value.category]; done) | rfl
def Q_rmStrB2 (Z : State) (a1 : Addr) (a2 : Addr) (kc : ClassId) (cs : Int32) (c0 : Int32) (c1 : Int32) (h0 : Heap) (n0 : Nat) (v : Option Value) (h : Heap) (L : List Loc) : Prop := ∃ b : Addr, ∃ kb : ClassId, v = none ∧ Fr n0 L ∧ Keep h0 h [a1] ∧ Exa Z h a1 "java/lang/String" ∧ Fld Z h a1 "java/lang/String" "coder" "B" (.int (0 : Int32)) ∧ Fld Z h a1 "java/lang/String" "value" "[B" (.ref b) ∧ Arv Z h b kb .byte (2 : Int32) [(.int (c0.toInt8.toInt32)), (.int (c1.toInt8.toInt32))] (.int (0 : Int32))
set_option maxRecDepth 65536 in
set_option maxHeartbeats 40000000 in
theorem rmStrB2 (l : Launch) (Z : State) (a0 : Array Value) (hw : ∀ d ∈ tables_1, d.before a0 Z = true) (ws : List Jvm.Cond) (a1 : Addr) (a2 : Addr) (kc : ClassId) (cs : Int32) (c0 : Int32) (c1 : Int32) (h0 : Heap) (n0 : Nat) (Z0 : n0 ≤ h0.size) (P0 : Exa Z h0 a1 "java/lang/String") (P1 : Fld Z h0 a1 "java/lang/String" "coder" "B" (.int (0 : Int32))) (P2 : Fld Z h0 a1 "java/lang/String" "value" "[B" .null) (P3 : Arv Z h0 a2 kc .char (2 : Int32) [(.int c0), (.int c1)] (.int (0 : Int32))) (g_a1 : n0 ≤ a1) (ne_a1_a2 : a1 ≠ a2) (P6 : Sta Z h0 "java/lang/String" "COMPACT_STRINGS" "Z" (.int cs)) (hcs : ¬ (cs = (0 : Int32))) (hc0 : ¬ ((255 : Int32) < c0)) (hc1 : ¬ ((255 : Int32) < c1)) :
    MetFree l (⟨"java/lang/String", "<init>", "([CIILjava/lang/Void;)V"⟩ : MethodName) (head1 (Jvm.Cond.code (⟨"java/lang/String", "<init>", "([CIILjava/lang/Void;)V"⟩ : MethodName) jdk_42_method_149_code 6 none :: ws) ({ frames := 2, cells := 1, slots := 2, locals := 35 } : Room)) (fun a U => a = #[(.ref a1), (.ref a2), (.int (0 : Int32)), (.int (2 : Int32)), .null] ∧ Z.Warmed39 U.vm ∧ U.heap = h0) (fun _ _ _ _ _ => True) (fun _ U o U' => ∃ v L, o = .returned v ∧ Q_rmStrB2 Z a1 a2 kc cs c0 c1 h0 n0 v U'.heap L ∧ FrameEnd U o U' L ({ frames := 2, cells := 1, slots := 2, locals := 35 } : Room).cells ({ frames := 2, cells := 1, slots := 2, locals := 35 } : Room).slots) := by
  refine MetFree.of_bodySF (plainFor_of_name pn_java_lang_String) hisR ?_
  intro p e s m args below meth c s₁ Bd hml0 hP hK
  obtain ⟨rfl, hZ, hh⟩ := hP
  have hx := Bd.exec
  have hby := Bd.bytes
  have hml : c.maxLocals = 6 := hml0
  have hown : s.vm.findClass "java/lang/String" = some m.cls := findClass_of_methodNamed Bd.named
  have hnm := (name_of_methodNamed Bd.named Bd.method).1
  have X0 : Stand p l e ({ frames := 2, cells := 1, slots := 2, locals := 35 } : Room) s m #[(.ref a1), (.ref a2), (.int (0 : Int32)), (.int (2 : Int32)), .null] below meth c s₁ [] 0 0 := Stand.of_body Bd
  have e0 : s₁.heap = h0 := by rw [← hh, Bd.state]; rfl
  have N0 := Fr.nil n0
  refine own_fw (A' := (s₁.setTop (mkF m 0 #[.val (.ref a1), .val (.ref a2), .val (.int (0 : Int32)), .val (.int (2 : Int32)), .val .null, .unset] []))) (fun t k => castTop (ef_rmStrB2 m a1 a2) k) ?_
  refine own_fw (A' := (s₁.setTop (mkF m 1 #[.val (.ref a1), .val (.ref a2), .val (.int (0 : Int32)), .val (.int (2 : Int32)), .val .null, .unset] [(.ref a1)]))) (fun t k => XS.aloadN X0.here hx rfl (hb hby d_jdk_42_method_149_code_0) rfl rfl k) ?_
  obtain ⟨T1, X1, e1, st1⟩ := initO X0 hx hZ hown (hw _ (List.mem_of_getElem? (i := 22) rfl)) (hw _ (List.mem_of_getElem? (i := 23) rfl)) (hw _ (List.mem_of_getElem? (i := 24) rfl)) e0 (g := (mkF m 1 #[.val (.ref a1), .val (.ref a2), .val (.int (0 : Int32)), .val (.int (2 : Int32)), .val .null, .unset] [(.ref a1)])) rfl (by rw [hml]; rfl) rfl (hb hby d_jdk_42_method_149_code_1) (by decide) (W := 0) (by show 2 * 0 + _ ≤ _; exact Nat.le_of_eq rfl) (by decide)
  refine own_fw (A' := (T1.setTop (mkF m 4 #[.val (.ref a1), .val (.ref a2), .val (.int (0 : Int32)), .val (.int (2 : Int32)), .val .null, .unset] []))) (fun t k => st1 _ k) ?_
  refine own_fw (A' := (T1.setTop (mkF m 5 #[.val (.ref a1), .val (.ref a2), .val (.int (0 : Int32)), .val (.int (2 : Int32)), .val .null, .unset] [(.int (2 : Int32))]))) (fun t k => XS.iloadN X1.here hx rfl (hb hby d_jdk_42_method_149_code_4) rfl k) ?_
  refine own_fw (A' := (T1.setTop (mkF m 27 #[.val (.ref a1), .val (.ref a2), .val (.int (0 : Int32)), .val (.int (2 : Int32)), .val .null, .unset] []))) (fun t k => XS.ifYes X1.here hx rfl (pc0 := 5) (pc' := 27) rfl (hb hby d_jdk_42_method_149_code_5) rfl (XT.i0_ne_t (by decide)) (by decide) (by decide) k) ?_
  obtain ⟨T2, X2, e2, st2⟩ := getS2 X1 hx hZ hown (host := "") (Or.inl (hw _ (List.mem_of_getElem? (i := 64) rfl))) Via.refl e1 P6 (g := (mkF m 27 #[.val (.ref a1), .val (.ref a2), .val (.int (0 : Int32)), .val (.int (2 : Int32)), .val .null, .unset] [])) rfl (hb hby d_jdk_42_method_149_code_27)
  refine own_fw (A' := (T2.setTop (mkF m 30 #[.val (.ref a1), .val (.ref a2), .val (.int (0 : Int32)), .val (.int (2 : Int32)), .val .null, .unset] [(.int cs)]))) (fun t k => st2 _ k) ?_
  refine own_fw (A' := (T2.setTop (mkF m 33 #[.val (.ref a1), .val (.ref a2), .val (.int (0 : Int32)), .val (.int (2 : Int32)), .val .null, .unset] []))) (fun t k => XS.ifNo X2.here hx rfl (hb hby d_jdk_42_method_149_code_30) rfl (XT.i0_eq_f hcs) k) ?_
  refine own_fw (A' := (T2.setTop (mkF m 34 #[.val (.ref a1), .val (.ref a2), .val (.int (0 : Int32)), .val (.int (2 : Int32)), .val .null, .unset] [(.ref a2)]))) (fun t k => XS.aloadN X2.here hx rfl (hb hby d_jdk_42_method_149_code_33) rfl rfl k) ?_
  refine own_fw (A' := (T2.setTop (mkF m 35 #[.val (.ref a1), .val (.ref a2), .val (.int (0 : Int32)), .val (.int (2 : Int32)), .val .null, .unset] [(.int (0 : Int32)), (.ref a2)]))) (fun t k => XS.iloadN X2.here hx rfl (hb hby d_jdk_42_method_149_code_34) rfl k) ?_
  refine own_fw (A' := (T2.setTop (mkF m 36 #[.val (.ref a1), .val (.ref a2), .val (.int (0 : Int32)), .val (.int (2 : Int32)), .val .null, .unset] [(.int (2 : Int32)), (.int (0 : Int32)), (.ref a2)]))) (fun t k => XS.iloadN X2.here hx rfl (hb hby d_jdk_42_method_149_code_35) rfl k) ?_
  obtain ⟨_, _, ⟨T3, L3, k3, n3⟩, -, X3, ⟨Lc3, hQ3, l3, y3, z3⟩, st3⟩ := Jvm.LawKit.callS X2 hx (y := (⟨"java/lang/StringUTF16", "compress", "([CII)[B"⟩ : MethodName)) hown (mvT hZ (hw _ (List.mem_of_getElem? (i := 69) rfl))) (mvT hZ (hw _ (List.mem_of_getElem? (i := 70) rfl))) (mvT hZ (hw _ (List.mem_of_getElem? (i := 71) rfl))) (mvT hZ (hw _ (List.mem_of_getElem? (i := 72) rfl))) (by decide) (backOf (W := 0) (rmCmpB2 l Z a0 hw [] a2 kc c0 c1 h0 n0 Z0 P3 hc0 hc1) hZ (hw _ (List.mem_of_getElem? (i := 72) rfl)) (hw _ (List.mem_of_getElem? (i := 71) rfl)) (by decide) (by decide)) (g := (mkF m 36 #[.val (.ref a1), .val (.ref a2), .val (.int (0 : Int32)), .val (.int (2 : Int32)), .val .null, .unset] [(.int (2 : Int32)), (.int (0 : Int32)), (.ref a2)])) rfl (by rw [hml]; rfl) (argsL := [(.ref a2), (.int (0 : Int32)), (.int (2 : Int32))]) (rest := []) (lenOf pd___CII__B rfl) rfl (by show 2 * 0 + _ ≤ _; exact Nat.le_of_eq rfl) (hb hby d_jdk_42_method_149_code_36) (fun _ _ => ⟨rfl, e2, (by decide : 0 + 1 ≤ _), (by decide : 0 + 2 ≤ _)⟩)
  dsimp only [Pt.U, Pt.locs, Pt.cells, Pt.slots] at X3 l3 y3 z3 st3 hQ3
  subst l3 y3 z3
  obtain ⟨b_3, kb_3, rfl, Nq3, Kq3, Fq3_0, gb_3⟩ := hQ3
  have Nf3 := Fr.app N0 Nq3
  have K3 : Keep h0 T3.heap [a1] := (Keep.refl h0 [a1]).trans Kq3 all0
  have sz_b_3 : h0.size ≤ b_3 := Nat.le_trans (Keep.refl h0 [a1]).1 gb_3
  have g_b_3 : n0 ≤ b_3 := Nat.le_trans Z0 gb_3
  have ne_a1_b_3 : a1 ≠ b_3 := Nat.ne_of_lt (Nat.lt_of_lt_of_le P0.lt gb_3)
  have ne_a2_b_3 : a2 ≠ b_3 := Nat.ne_of_lt (Nat.lt_of_lt_of_le P3.lt gb_3)
  have Z3 : n0 ≤ T3.heap.size := Nat.le_trans Z0 Kq3.1
  refine own_fw (A' := (T3.setTop (mkF m 39 #[.val (.ref a1), .val (.ref a2), .val (.int (0 : Int32)), .val (.int (2 : Int32)), .val .null, .unset] [(.ref b_3)]))) (fun t k => st3 _ k) ?_
  refine own_fw (A' := (T3.setTop (mkF m 41 #[.val (.ref a1), .val (.ref a2), .val (.int (0 : Int32)), .val (.int (2 : Int32)), .val .null, .val (.ref b_3)] []))) (fun t k => XS.astore X3.here hx rfl (hb hby d_jdk_42_method_149_code_39) rfl rfl (l' := #[.val (.ref a1), .val (.ref a2), .val (.int (0 : Int32)), .val (.int (2 : Int32)), .val .null, .val (.ref b_3)]) rfl k) ?_
  refine own_fw (A' := (T3.setTop (mkF m 42 #[.val (.ref a1), .val (.ref a2), .val (.int (0 : Int32)), .val (.int (2 : Int32)), .val .null, .val (.ref b_3)] [(.ref a1)]))) (fun t k => XS.aloadN X3.here hx rfl (hb hby d_jdk_42_method_149_code_41) rfl rfl k) ?_
  refine own_fw (A' := (T3.setTop (mkF m 44 #[.val (.ref a1), .val (.ref a2), .val (.int (0 : Int32)), .val (.int (2 : Int32)), .val .null, .val (.ref b_3)] [(.ref b_3), (.ref a1)]))) (fun t k => XS.aload X3.here hx rfl (hb hby d_jdk_42_method_149_code_42) rfl rfl k) ?_
  refine own_fw (A' := (T3.setTop (mkF m 45 #[.val (.ref a1), .val (.ref a2), .val (.int (0 : Int32)), .val (.int (2 : Int32)), .val .null, .val (.ref b_3)] [(.int (2 : Int32)), (.ref b_3), (.ref a1)]))) (fun t k => XS.iloadN X3.here hx rfl (hb hby d_jdk_42_method_149_code_44) rfl k) ?_
  obtain ⟨_, _, ⟨T4, L4, k4, n4⟩, -, X4, ⟨Lc4, hQ4, l4, y4, z4⟩, st4⟩ := Jvm.LawKit.callS X3 hx (y := (⟨"java/lang/StringUTF16", "coderFromArrayLen", "([BI)B"⟩ : MethodName)) hown (mvT hZ (hw _ (List.mem_of_getElem? (i := 76) rfl))) (mvT hZ (hw _ (List.mem_of_getElem? (i := 77) rfl))) (mvT hZ (hw _ (List.mem_of_getElem? (i := 71) rfl))) (mvT hZ (hw _ (List.mem_of_getElem? (i := 78) rfl))) (by decide) (backOf (W := 1) (rmCoder2 l Z a0 hw [] b_3 kb_3 (c0.toInt8.toInt32) (c1.toInt8.toInt32) T3.heap n0 Z3 Fq3_0) hZ (hw _ (List.mem_of_getElem? (i := 78) rfl)) (hw _ (List.mem_of_getElem? (i := 71) rfl)) (by decide) (by decide)) (g := (mkF m 45 #[.val (.ref a1), .val (.ref a2), .val (.int (0 : Int32)), .val (.int (2 : Int32)), .val .null, .val (.ref b_3)] [(.int (2 : Int32)), (.ref b_3), (.ref a1)])) rfl (by rw [hml]; rfl) (argsL := [(.ref b_3), (.int (2 : Int32))]) (rest := [(.ref a1)]) (lenOf pd___BI_B rfl) rfl (by show 2 * 0 + _ ≤ _; exact Nat.le_of_eq rfl) (hb hby d_jdk_42_method_149_code_45) (fun _ _ => ⟨rfl, rfl, (by decide : 1 + 0 ≤ _), (by decide : 2 + 0 ≤ _)⟩)
  dsimp only [Pt.U, Pt.locs, Pt.cells, Pt.slots] at X4 l4 y4 z4 st4 hQ4
  subst l4 y4 z4
  obtain ⟨rfl, Nq4, e4⟩ := hQ4
  have Nf4 := Fr.app Nf3 Nq4
  refine own_fw (A' := (T4.setTop (mkF m 48 #[.val (.ref a1), .val (.ref a2), .val (.int (0 : Int32)), .val (.int (2 : Int32)), .val .null, .val (.ref b_3)] [(.int (0 : Int32)), (.ref a1)]))) (fun t k => st4 _ k) ?_
  obtain ⟨T5, h5, X5, e5, W5, st5⟩ := putFN X4 hx hZ hown (hw _ (List.mem_of_getElem? (i := 32) rfl)) Via.refl e4 (P1.keep Kq3 nin0) (P0.keep Kq3) (Or.inr ⟨(hw _ (List.mem_of_getElem? (i := 28) rfl)), rfl, hnm⟩) (hw _ (List.mem_of_getElem? (i := 12) rfl)) (ty := .byte) (v' := (.int (0 : Int32))) (by decide) rfl rfl (g := (mkF m 48 #[.val (.ref a1), .val (.ref a2), .val (.int (0 : Int32)), .val (.int (2 : Int32)), .val .null, .val (.ref b_3)] [(.int (0 : Int32)), (.ref a1)])) rfl rfl (hb hby d_jdk_42_method_149_code_48)
  have Fw5 : Fld Z h5 a1 "java/lang/String" "coder" "B" (.int (0 : Int32)) := (P1.keep Kq3 nin0).same W5
  have Nf5 := Fr.snoc X5 Nf4 g_a1
  have K5 : Keep h0 h5 [a1] := K3.wr W5 (Or.inl (List.mem_of_getElem? (i := 0) rfl))
  have Z5 : n0 ≤ h5.size := Nat.le_trans Z3 (Keep.of_wr W5).1
  refine own_fw (A' := (T5.setTop (mkF m 51 #[.val (.ref a1), .val (.ref a2), .val (.int (0 : Int32)), .val (.int (2 : Int32)), .val .null, .val (.ref b_3)] []))) (fun t k => st5 _ k) ?_
  refine own_fw (A' := (T5.setTop (mkF m 52 #[.val (.ref a1), .val (.ref a2), .val (.int (0 : Int32)), .val (.int (2 : Int32)), .val .null, .val (.ref b_3)] [(.ref a1)]))) (fun t k => XS.aloadN X5.here hx rfl (hb hby d_jdk_42_method_149_code_51) rfl rfl k) ?_
  refine own_fw (A' := (T5.setTop (mkF m 54 #[.val (.ref a1), .val (.ref a2), .val (.int (0 : Int32)), .val (.int (2 : Int32)), .val .null, .val (.ref b_3)] [(.ref b_3), (.ref a1)]))) (fun t k => XS.aload X5.here hx rfl (hb hby d_jdk_42_method_149_code_52) rfl rfl k) ?_
  obtain ⟨T6, h6, X6, e6, W6, st6⟩ := putF X5 hx hZ hown (host := "") (Or.inl (hw _ (List.mem_of_getElem? (i := 31) rfl))) Via.refl e5 ((P2.keep Kq3 nin0).other W5 (Or.inr (slot_ne (Or.inr (hw _ (List.mem_of_getElem? (i := 27) rfl))) (Or.inr (hw _ (List.mem_of_getElem? (i := 28) rfl))) (by decide) (t := (.array .byte)) (t' := .byte) (by decide) (by decide)))) ((P0.keep Kq3).wr W5) (Or.inr ⟨(hw _ (List.mem_of_getElem? (i := 27) rfl)), rfl, hnm⟩) (hw _ (List.mem_of_getElem? (i := 12) rfl)) (ty := (.array .byte)) (by decide) rfl rfl (g := (mkF m 54 #[.val (.ref a1), .val (.ref a2), .val (.int (0 : Int32)), .val (.int (2 : Int32)), .val .null, .val (.ref b_3)] [(.ref b_3), (.ref a1)])) rfl rfl (hb hby d_jdk_42_method_149_code_54)
  have Fw6 : Fld Z h6 a1 "java/lang/String" "value" "[B" (.ref b_3) := ((P2.keep Kq3 nin0).other W5 (Or.inr (slot_ne (Or.inr (hw _ (List.mem_of_getElem? (i := 27) rfl))) (Or.inr (hw _ (List.mem_of_getElem? (i := 28) rfl))) (by decide) (t := (.array .byte)) (t' := .byte) (by decide) (by decide)))).same W6
  have Nf6 := Fr.snoc X6 Nf5 g_a1
  have K6 : Keep h0 h6 [a1] := K5.wr W6 (Or.inl (List.mem_of_getElem? (i := 0) rfl))
  have Z6 : n0 ≤ h6.size := Nat.le_trans Z5 (Keep.of_wr W6).1
  refine own_fw (A' := (T6.setTop (mkF m 57 #[.val (.ref a1), .val (.ref a2), .val (.int (0 : Int32)), .val (.int (2 : Int32)), .val .null, .val (.ref b_3)] []))) (fun t k => st6 _ k) ?_
  obtain ⟨fs, hr, hrun, hended, hW, hsame⟩ := X6.leave (v := none) (fun _ => rfl)
  refine ⟨_, _, ?_, hrun, hended, _, _, rfl, ?_, ⟨_, rfl⟩, hW, hsame.mono (by decide) (by decide)⟩
  · exact X6.returnOut hx Bd.returns (hb hby d_jdk_42_method_149_code_57) hr
  · show Q_rmStrB2 Z a1 a2 kc cs c0 c1 h0 n0 _ T6.heap _
    rw [e6]
    exact ⟨b_3, kb_3, rfl, Nf6, K6, (((P0.keep Kq3).wr W5).wr W6), (Fw5.other W6 (Or.inr (slot_ne (Or.inr (hw _ (List.mem_of_getElem? (i := 28) rfl))) (Or.inr (hw _ (List.mem_of_getElem? (i := 27) rfl))) (by decide) (t := .byte) (t' := (.array .byte)) (by decide) (by decide)))), Fw6, ((Fq3_0.other W5 (Ne.symm ne_a1_b_3)).other W6 (Ne.symm ne_a1_b_3))⟩
theorem ef_rmStrA2 (m : MethodId) (a1 : Addr) (a2 : Addr) : entryFrame m #[(.ref a1), (.ref a2)] 2 = mkF m 0 #[.val (.ref a1), .val (.ref a2)] [] := by first | (simp [entryFrame, mkF, argsToLocals, Value.category]; done) | rfl
def Q_rmStrA2 (Z : State) (a1 : Addr) (a2 : Addr) (kc : ClassId) (cs : Int32) (c0 : Int32) (c1 : Int32) (h0 : Heap) (n0 : Nat) (v : Option Value) (h : Heap) (L : List Loc) : Prop := ∃ b : Addr, ∃ kb : ClassId, v = none ∧ Fr n0 L ∧ Keep h0 h [a1] ∧ Exa Z h a1 "java/lang/String" ∧ Fld Z h a1 "java/lang/String" "coder" "B" (.int (0 : Int32)) ∧ Fld Z h a1 "java/lang/String" "value" "[B" (.ref b) ∧ Arv Z h b kb .byte (2 : Int32) [(.int (c0.toInt8.toInt32)), (.int (c1.toInt8.toInt32))] (.int (0 : Int32))
set_option maxRecDepth 65536 in
set_option maxHeartbeats 40000000 in
theorem rmStrA2 (l : Launch) (Z : State) (a0 : Array Value) (hw : ∀ d ∈ tables_1, d.before a0 Z = true) (ws : List Jvm.Cond) (a1 : Addr) (a2 : Addr) (kc : ClassId) (cs : Int32) (c0 : Int32) (c1 : Int32) (h0 : Heap) (n0 : Nat) (Z0 : n0 ≤ h0.size) (P0 : Exa Z h0 a1 "java/lang/String") (P1 : Fld Z h0 a1 "java/lang/String" "coder" "B" (.int (0 : Int32))) (P2 : Fld Z h0 a1 "java/lang/String" "value" "[B" .null) (P3 : Arv Z h0 a2 kc .char (2 : Int32) [(.int c0), (.int c1)] (.int (0 : Int32))) (g_a1 : n0 ≤ a1) (ne_a1_a2 : a1 ≠ a2) (P6 : Sta Z h0 "java/lang/String" "COMPACT_STRINGS" "Z" (.int cs)) (hcs : ¬ (cs = (0 : Int32))) (hc0 : ¬ ((255 : Int32) < c0)) (hc1 : ¬ ((255 : Int32) < c1)) :
    MetFree l (⟨"java/lang/String", "<init>", "([C)V"⟩ : MethodName) (head1 (Jvm.Cond.code (⟨"java/lang/String", "<init>", "([C)V"⟩ : MethodName) jdk_42_method_3_code 2 none :: ws) ({ frames := 3, cells := 1, slots := 2, locals := 52 } : Room)) (fun a U => a = #[(.ref a1), (.ref a2)] ∧ Z.Warmed39 U.vm ∧ U.heap = h0) (fun _ _ _ _ _ => True) (fun _ U o U' => ∃ v L, o = .returned v ∧ Q_rmStrA2 Z a1 a2 kc cs c0 c1 h0 n0 v U'.heap L ∧ FrameEnd U o U' L ({ frames := 3, cells := 1, slots := 2, locals := 52 } : Room).cells ({ frames := 3, cells := 1, slots := 2, locals := 52 } : Room).slots) := by
  refine MetFree.of_bodySF (plainFor_of_name pn_java_lang_String) hisR ?_
  intro p e s m args below meth c s₁ Bd hml0 hP hK
  obtain ⟨rfl, hZ, hh⟩ := hP
  have hx := Bd.exec
  have hby := Bd.bytes
  have hml : c.maxLocals = 2 := hml0
  have hown : s.vm.findClass "java/lang/String" = some m.cls := findClass_of_methodNamed Bd.named
  have hnm := (name_of_methodNamed Bd.named Bd.method).1
  have X0 : Stand p l e ({ frames := 3, cells := 1, slots := 2, locals := 52 } : Room) s m #[(.ref a1), (.ref a2)] below meth c s₁ [] 0 0 := Stand.of_body Bd
  have e0 : s₁.heap = h0 := by rw [← hh, Bd.state]; rfl
  have N0 := Fr.nil n0
  refine own_fw (A' := (s₁.setTop (mkF m 0 #[.val (.ref a1), .val (.ref a2)] []))) (fun t k => castTop (ef_rmStrA2 m a1 a2) k) ?_
  refine own_fw (A' := (s₁.setTop (mkF m 1 #[.val (.ref a1), .val (.ref a2)] [(.ref a1)]))) (fun t k => XS.aloadN X0.here hx rfl (hb hby d_jdk_42_method_3_code_0) rfl rfl k) ?_
  refine own_fw (A' := (s₁.setTop (mkF m 2 #[.val (.ref a1), .val (.ref a2)] [(.ref a2), (.ref a1)]))) (fun t k => XS.aloadN X0.here hx rfl (hb hby d_jdk_42_method_3_code_1) rfl rfl k) ?_
  refine own_fw (A' := (s₁.setTop (mkF m 3 #[.val (.ref a1), .val (.ref a2)] [(.int (0 : Int32)), (.ref a2), (.ref a1)]))) (fun t k => XS.iconst X0.here hx rfl (hb hby d_jdk_42_method_3_code_2) k) ?_
  refine own_fw (A' := (s₁.setTop (mkF m 4 #[.val (.ref a1), .val (.ref a2)] [(.ref a2), (.int (0 : Int32)), (.ref a2), (.ref a1)]))) (fun t k => XS.aloadN X0.here hx rfl (hb hby d_jdk_42_method_3_code_3) rfl rfl k) ?_
  obtain ⟨cl1, Ar1, q1, S1, M1, H1, G1⟩ := id P3
  refine own_fw (A' := (s₁.setTop (mkF m 5 #[.val (.ref a1), .val (.ref a2)] [(.int (2 : Int32)), (.int (0 : Int32)), (.ref a2), (.ref a1)]))) (fun t k => X0.arraylength hx (by rw [e0]; exact Ar1.1) (State.isArrayOf_alike hZ.alike Ar1.2.1) (g := (mkF m 4 #[.val (.ref a1), .val (.ref a2)] [(.ref a2), (.int (0 : Int32)), (.ref a2), (.ref a1)])) rfl rfl (hb hby d_jdk_42_method_3_code_4) _ (by rw [len_of S1 M1]; exact k)) ?_
  refine own_fw (A' := (s₁.setTop (mkF m 6 #[.val (.ref a1), .val (.ref a2)] [.null, (.int (2 : Int32)), (.int (0 : Int32)), (.ref a2), (.ref a1)]))) (fun t k => XS.aconstNull X0.here hx rfl (hb hby d_jdk_42_method_3_code_5) k) ?_
  obtain ⟨_, _, ⟨T2, L2, k2, n2⟩, -, X2, ⟨Lc2, hQ2, l2, y2, z2⟩, st2⟩ := X0.specialBack hx (y := (⟨"java/lang/String", "<init>", "([CIILjava/lang/Void;)V"⟩ : MethodName)) rfl hown (mvT hZ (hw _ (List.mem_of_getElem? (i := 18) rfl))) (mvT hZ (hw _ (List.mem_of_getElem? (i := 19) rfl))) (mvT hZ (hw _ (List.mem_of_getElem? (i := 21) rfl))) (by decide) (backOf (W := 0) (rmStrB2 l Z a0 hw [] a1 a2 kc cs c0 c1 h0 n0 Z0 P0 P1 P2 P3 g_a1 ne_a1_a2 P6 hcs hc0 hc1) hZ (hw _ (List.mem_of_getElem? (i := 21) rfl)) (hw _ (List.mem_of_getElem? (i := 13) rfl)) (by decide) (by decide)) (g := (mkF m 6 #[.val (.ref a1), .val (.ref a2)] [.null, (.int (2 : Int32)), (.int (0 : Int32)), (.ref a2), (.ref a1)])) rfl (by rw [hml]; rfl) (Steps.refl _) (a := a1) (argsL := [(.ref a2), (.int (0 : Int32)), (.int (2 : Int32)), .null]) (rest := []) (lenOf pd___CIILjava_lang_Void__V rfl) rfl (by show 2 * 0 + _ ≤ _; exact Nat.le_of_eq rfl) (hb hby d_jdk_42_method_3_code_6) (fun _ _ => ⟨rfl, e0, (by decide : 0 + 1 ≤ _), (by decide : 0 + 2 ≤ _)⟩)
  dsimp only [Pt.U, Pt.locs, Pt.cells, Pt.slots] at X2 l2 y2 z2 st2 hQ2
  subst l2 y2 z2
  obtain ⟨b_2, kb_2, rfl, Nq2, Kq2, Fq2_0, Fq2_1, Fq2_2, Fq2_3⟩ := hQ2
  have Nf2 := Fr.app N0 Nq2
  have K2 : Keep h0 T2.heap [a1] := (Keep.refl h0 [a1]).trans Kq2 (allS (Or.inl (List.mem_of_getElem? (i := 0) rfl)) all0)
  have Z2 : n0 ≤ T2.heap.size := Nat.le_trans Z0 Kq2.1
  refine own_fw (A' := (T2.setTop (mkF m 9 #[.val (.ref a1), .val (.ref a2)] []))) (fun t k => st2.trans k) ?_
  obtain ⟨fs, hr, hrun, hended, hW, hsame⟩ := X2.leave (v := none) (fun _ => rfl)
  refine ⟨_, _, ?_, hrun, hended, _, _, rfl, ?_, ⟨_, rfl⟩, hW, hsame.mono (by decide) (by decide)⟩
  · exact X2.returnOut hx Bd.returns (hb hby d_jdk_42_method_3_code_9) hr
  · show Q_rmStrA2 Z a1 a2 kc cs c0 c1 h0 n0 _ T2.heap _
    exact ⟨b_2, kb_2, rfl, Nf2, K2, Fq2_0, Fq2_1, Fq2_2, Fq2_3⟩
theorem d_jdk_42_method_149_code_8 : decode jdk_42_method_149_code 8 = .ok (.aload_n 0, 1) := by decide +kernel
theorem d_jdk_42_method_149_code_9 : decode jdk_42_method_149_code 9 = .ok (.ldc 7, 2) := by decide +kernel
theorem d_jdk_42_method_149_code_11 : decode jdk_42_method_149_code 11 = .ok (.getfield 9, 3) := by decide +kernel
theorem d_jdk_42_method_149_code_14 : decode jdk_42_method_149_code 14 = .ok (.putfield 9, 3) := by decide +kernel
theorem d_jdk_42_method_149_code_17 : decode jdk_42_method_149_code 17 = .ok (.aload_n 0, 1) := by decide +kernel
theorem d_jdk_42_method_149_code_18 : decode jdk_42_method_149_code 18 = .ok (.ldc 7, 2) := by decide +kernel
theorem d_jdk_42_method_149_code_20 : decode jdk_42_method_149_code 20 = .ok (.getfield 15, 3) := by decide +kernel
theorem d_jdk_42_method_149_code_23 : decode jdk_42_method_149_code 23 = .ok (.putfield 15, 3) := by decide +kernel
theorem d_jdk_42_method_149_code_26 : decode jdk_42_method_149_code 26 = .ok (.return_, 1) := by decide +kernel
theorem ef_rmStrB0 (m : MethodId) (a1 : Addr) (a2 : Addr) : entryFrame m #[(.ref a1), (.ref a2), (.int (0 : Int32)), (.int (0 : Int32)), .null] 6 = mkF m 0 #[.val (.ref a1), .val (.ref a2), .val (.int (0 : Int32)), .val (.int (0 : Int32)), .val .null, .unset] [] := by first | (simp [entryFrame, mkF, argsToLocals, Value.category]; done) | rfl
def Q_rmStrB0 (Z : State) (a1 : Addr) (a2 : Addr) (h0 : Heap) (n0 : Nat) (v : Option Value) (h : Heap) (L : List Loc) : Prop := ∃ b : Addr, ∃ kb : ClassId, v = none ∧ Fr n0 L ∧ Keep h0 h [a1] ∧ Exa Z h a1 "java/lang/String" ∧ Fld Z h a1 "java/lang/String" "coder" "B" (.int (0 : Int32)) ∧ Fld Z h a1 "java/lang/String" "value" "[B" (.ref b) ∧ Arv Z h b kb .byte (0 : Int32) [] (.int (0 : Int32))
set_option maxRecDepth 65536 in
set_option maxHeartbeats 40000000 in
theorem rmStrB0 (l : Launch) (Z : State) (a0 : Array Value) (hw : ∀ d ∈ tables_1, d.before a0 Z = true) (ws : List Jvm.Cond) (a1 : Addr) (a2 : Addr) (h0 : Heap) (n0 : Nat) (Z0 : n0 ≤ h0.size) (P0 : Exa Z h0 a1 "java/lang/String") (P1 : Fld Z h0 a1 "java/lang/String" "coder" "B" (.int (0 : Int32))) (P2 : Fld Z h0 a1 "java/lang/String" "value" "[B" .null) (g_a1 : n0 ≤ a1) :
    MetFree l (⟨"java/lang/String", "<init>", "([CIILjava/lang/Void;)V"⟩ : MethodName) (head1 (Jvm.Cond.code (⟨"java/lang/String", "<init>", "([CIILjava/lang/Void;)V"⟩ : MethodName) jdk_42_method_149_code 6 none :: ws) ({ frames := 1, cells := 4, slots := 8, locals := 12 } : Room)) (fun a U => a = #[(.ref a1), (.ref a2), (.int (0 : Int32)), (.int (0 : Int32)), .null] ∧ Z.Warmed39 U.vm ∧ U.heap = h0 ∧ CHv Z own_EL U.vm h0) (fun _ _ _ _ _ => True) (fun _ U o U' => ∃ v L, o = .returned v ∧ Q_rmStrB0 Z a1 a2 h0 n0 v U'.heap L ∧ CHr Z own_EL U.vm U.heap U'.vm U'.heap ∧ ReturnedEndW U o U' L ({ frames := 1, cells := 4, slots := 8, locals := 12 } : Room).cells ({ frames := 1, cells := 4, slots := 8, locals := 12 } : Room).slots) := by
  refine MetFree.of_bodySF (plainFor_of_name pn_java_lang_String) hisR ?_
  intro p e s m args below meth c s₁ Bd hml0 hP hK
  obtain ⟨rfl, hZ, hh, hH⟩ := hP
  have hx := Bd.exec
  have hby := Bd.bytes
  have hml : c.maxLocals = 6 := hml0
  have hown : s.vm.findClass "java/lang/String" = some m.cls := findClass_of_methodNamed Bd.named
  have hnm := (name_of_methodNamed Bd.named Bd.method).1
  have X0 : Stand p l e ({ frames := 1, cells := 4, slots := 8, locals := 12 } : Room) (s.setVm s.vm) m #[(.ref a1), (.ref a2), (.int (0 : Int32)), (.int (0 : Int32)), .null] below meth c s₁ [] 0 0 := Stand.of_body Bd
  have e0 : s₁.heap = h0 := by rw [← hh, Bd.state]; rfl
  have N0 := Fr.nil n0
  refine own_fw (A' := (s₁.setTop (mkF m 0 #[.val (.ref a1), .val (.ref a2), .val (.int (0 : Int32)), .val (.int (0 : Int32)), .val .null, .unset] []))) (fun t k => castTop (ef_rmStrB0 m a1 a2) k) ?_
  have hS : s.Since s.vm h0.size := (State.WarmedH.refl s).since _
  have hk : h0.size ≤ h0.size := Nat.le_refl _
  have hC : CHr Z own_EL s.vm h0 s.vm h0 := CHr.refl hH
  have SFa1 : Safe Z own_EL s.vm h0 a1 := own_safeNull hZ.alike P0 P2
  refine own_fw (A' := (s₁.setTop (mkF m 1 #[.val (.ref a1), .val (.ref a2), .val (.int (0 : Int32)), .val (.int (0 : Int32)), .val .null, .unset] [(.ref a1)]))) (fun t k => XS.aloadN X0.here hx rfl (hb hby d_jdk_42_method_149_code_0) rfl rfl k) ?_
  obtain ⟨T1, X1, e1, st1⟩ := initO X0 hx hZ hown (hw _ (List.mem_of_getElem? (i := 22) rfl)) (hw _ (List.mem_of_getElem? (i := 23) rfl)) (hw _ (List.mem_of_getElem? (i := 24) rfl)) e0 (g := (mkF m 1 #[.val (.ref a1), .val (.ref a2), .val (.int (0 : Int32)), .val (.int (0 : Int32)), .val .null, .unset] [(.ref a1)])) rfl (by rw [hml]; rfl) rfl (hb hby d_jdk_42_method_149_code_1) (by decide) (W := 0) (by show 2 * 0 + _ ≤ _; exact Nat.le_of_eq rfl) (by decide)
  refine own_fw (A' := (T1.setTop (mkF m 4 #[.val (.ref a1), .val (.ref a2), .val (.int (0 : Int32)), .val (.int (0 : Int32)), .val .null, .unset] []))) (fun t k => st1 _ k) ?_
  refine own_fw (A' := (T1.setTop (mkF m 5 #[.val (.ref a1), .val (.ref a2), .val (.int (0 : Int32)), .val (.int (0 : Int32)), .val .null, .unset] [(.int (0 : Int32))]))) (fun t k => XS.iloadN X1.here hx rfl (hb hby d_jdk_42_method_149_code_4) rfl k) ?_
  refine own_fw (A' := (T1.setTop (mkF m 8 #[.val (.ref a1), .val (.ref a2), .val (.int (0 : Int32)), .val (.int (0 : Int32)), .val .null, .unset] []))) (fun t k => XS.ifNo X1.here hx rfl (hb hby d_jdk_42_method_149_code_5) rfl (XT.i0_ne_f rfl) k) ?_
  refine own_fw (A' := (T1.setTop (mkF m 9 #[.val (.ref a1), .val (.ref a2), .val (.int (0 : Int32)), .val (.int (0 : Int32)), .val .null, .unset] [(.ref a1)]))) (fun t k => XS.aloadN X1.here hx rfl (hb hby d_jdk_42_method_149_code_8) rfl rfl k) ?_
  obtain ⟨sa2, T2, h2, k2, sb2, kk2, X2, e2, E2, hS, hk, hZ', hown, SE2, SC2, SV2, SA2, -, -, r2, -, sn2, st2⟩ := ldcCH X1 hx hZ hown (hw _ (List.mem_of_getElem? (i := 25) rfl)) (own_wS hw) e1 hS hk (own_EW hw) (List.mem_of_getElem? (i := 0) rfl) hH (vs := []) (z := (0 : Int32)) ⟨by decide, rfl⟩ (by decide) (by decide) (g := (mkF m 9 #[.val (.ref a1), .val (.ref a2), .val (.int (0 : Int32)), .val (.int (0 : Int32)), .val .null, .unset] [(.ref a1)])) rfl (hb hby d_jdk_42_method_149_code_9) (n := 0) (by decide) (by decide) (by decide) (by decide)
  have F3 : Safe Z own_EL _ h2 a1 := (CHr.safe r2 P0.lt SFa1)
  have hC := hC.trans r2
  have hH := hC.1
  have hZ := hZ'
  have K2 : Keep h0 h2 [a1] := (Keep.refl h0 [a1]).ext E2
  have Z2 : n0 ≤ h2.size := Nat.le_trans Z0 E2.1
  refine own_fw (A' := (T2.setTop (mkF m 11 #[.val (.ref a1), .val (.ref a2), .val (.int (0 : Int32)), .val (.int (0 : Int32)), .val .null, .unset] [(.ref sa2), (.ref a1)]))) (fun t k => st2 _ k) ?_
  obtain ⟨T4, X4, e4, st4⟩ := getF X2 hx hZ hown (host := "") (Or.inl (hw _ (List.mem_of_getElem? (i := 31) rfl))) Via.refl e2 SV2 (g := (mkF m 11 #[.val (.ref a1), .val (.ref a2), .val (.int (0 : Int32)), .val (.int (0 : Int32)), .val .null, .unset] [(.ref sa2), (.ref a1)])) rfl rfl (hb hby d_jdk_42_method_149_code_11)
  refine own_fw (A' := (T4.setTop (mkF m 14 #[.val (.ref a1), .val (.ref a2), .val (.int (0 : Int32)), .val (.int (0 : Int32)), .val .null, .unset] [(.ref sb2), (.ref a1)]))) (fun t k => st4 _ k) ?_
  obtain ⟨T5, h5, X5, e5, W5, st5⟩ := putF X4 hx hZ hown (host := "") (Or.inl (hw _ (List.mem_of_getElem? (i := 31) rfl))) Via.refl e4 (P2.ext E2) (P0.ext E2) (Or.inr ⟨(hw _ (List.mem_of_getElem? (i := 27) rfl)), rfl, hnm⟩) (hw _ (List.mem_of_getElem? (i := 12) rfl)) (ty := (.array .byte)) (by decide) rfl rfl (g := (mkF m 14 #[.val (.ref a1), .val (.ref a2), .val (.int (0 : Int32)), .val (.int (0 : Int32)), .val .null, .unset] [(.ref sb2), (.ref a1)])) rfl rfl (hb hby d_jdk_42_method_149_code_14)
  have Fw5 : Fld Z h5 a1 "java/lang/String" "value" "[B" (.ref sb2) := (P2.ext E2).same W5
  have F6 : Safe Z own_EL _ h5 a1 := (Safe.wr W5 F3 hH F3)
  have Nf5 := Fr.snoc X5 N0 g_a1
  have K5 : Keep h0 h5 [a1] := K2.wr W5 (Or.inl (List.mem_of_getElem? (i := 0) rfl))
  have Z5 : n0 ≤ h5.size := Nat.le_trans Z2 (Keep.of_wr W5).1
  have hk := Nat.le_trans hk (Keep.of_wr W5).1
  have hC := hC.trans (CHr.wr W5 F3 hH)
  have hH := hC.1
  refine own_fw (A' := (T5.setTop (mkF m 17 #[.val (.ref a1), .val (.ref a2), .val (.int (0 : Int32)), .val (.int (0 : Int32)), .val .null, .unset] []))) (fun t k => st5 _ k) ?_
  refine own_fw (A' := (T5.setTop (mkF m 18 #[.val (.ref a1), .val (.ref a2), .val (.int (0 : Int32)), .val (.int (0 : Int32)), .val .null, .unset] [(.ref a1)]))) (fun t k => XS.aloadN X5.here hx rfl (hb hby d_jdk_42_method_149_code_17) rfl rfl k) ?_
  obtain ⟨sa7, T7, h7, k7, sb7, kk7, X7, e7, E7, hS, hk, hZ', hown, SE7, SC7, SV7, SA7, -, -, r7, -, sn7, st7⟩ := ldcCH X5 hx hZ hown (hw _ (List.mem_of_getElem? (i := 25) rfl)) (own_wS hw) e5 hS hk (own_EW hw) (List.mem_of_getElem? (i := 0) rfl) hH (vs := []) (z := (0 : Int32)) ⟨by decide, rfl⟩ (by decide) (by decide) (g := (mkF m 18 #[.val (.ref a1), .val (.ref a2), .val (.int (0 : Int32)), .val (.int (0 : Int32)), .val .null, .unset] [(.ref a1)])) rfl (hb hby d_jdk_42_method_149_code_18) (n := 0) (by decide) (by decide) (by decide) (by decide)
  have F8 : Safe Z own_EL _ h7 a1 := (CHr.safe r7 ((P0.ext E2).wr W5).lt F6)
  have hC := hC.trans r7
  have hH := hC.1
  have hZ := hZ'
  have K7 : Keep h0 h7 [a1] := K5.ext E7
  have Z7 : n0 ≤ h7.size := Nat.le_trans Z5 E7.1
  refine own_fw (A' := (T7.setTop (mkF m 20 #[.val (.ref a1), .val (.ref a2), .val (.int (0 : Int32)), .val (.int (0 : Int32)), .val .null, .unset] [(.ref sa7), (.ref a1)]))) (fun t k => st7 _ k) ?_
  obtain ⟨T9, X9, e9, st9⟩ := getF X7 hx hZ hown (host := "") (Or.inl (hw _ (List.mem_of_getElem? (i := 32) rfl))) Via.refl e7 SC7 (g := (mkF m 20 #[.val (.ref a1), .val (.ref a2), .val (.int (0 : Int32)), .val (.int (0 : Int32)), .val .null, .unset] [(.ref sa7), (.ref a1)])) rfl rfl (hb hby d_jdk_42_method_149_code_20)
  refine own_fw (A' := (T9.setTop (mkF m 23 #[.val (.ref a1), .val (.ref a2), .val (.int (0 : Int32)), .val (.int (0 : Int32)), .val .null, .unset] [(.int (0 : Int32)), (.ref a1)]))) (fun t k => st9 _ k) ?_
  obtain ⟨T10, h10, X10, e10, W10, st10⟩ := putFN X9 hx hZ hown (hw _ (List.mem_of_getElem? (i := 32) rfl)) Via.refl e9 (((P1.ext E2).other W5 (Or.inr (slot_ne (Or.inr (hw _ (List.mem_of_getElem? (i := 28) rfl))) (Or.inr (hw _ (List.mem_of_getElem? (i := 27) rfl))) (by decide) (t := .byte) (t' := (.array .byte)) (by decide) (by decide)))).ext E7) (((P0.ext E2).wr W5).ext E7) (Or.inr ⟨(hw _ (List.mem_of_getElem? (i := 28) rfl)), rfl, hnm⟩) (hw _ (List.mem_of_getElem? (i := 12) rfl)) (ty := .byte) (v' := (.int (0 : Int32))) (by decide) rfl rfl (g := (mkF m 23 #[.val (.ref a1), .val (.ref a2), .val (.int (0 : Int32)), .val (.int (0 : Int32)), .val .null, .unset] [(.int (0 : Int32)), (.ref a1)])) rfl rfl (hb hby d_jdk_42_method_149_code_23)
  have Fw10 : Fld Z h10 a1 "java/lang/String" "coder" "B" (.int (0 : Int32)) := (((P1.ext E2).other W5 (Or.inr (slot_ne (Or.inr (hw _ (List.mem_of_getElem? (i := 28) rfl))) (Or.inr (hw _ (List.mem_of_getElem? (i := 27) rfl))) (by decide) (t := .byte) (t' := (.array .byte)) (by decide) (by decide)))).ext E7).same W10
  have F11 : Safe Z own_EL _ h10 a1 := (Safe.wr W10 F8 hH F8)
  have Nf10 := Fr.snoc X10 Nf5 g_a1
  have K10 : Keep h0 h10 [a1] := K7.wr W10 (Or.inl (List.mem_of_getElem? (i := 0) rfl))
  have Z10 : n0 ≤ h10.size := Nat.le_trans Z7 (Keep.of_wr W10).1
  have hk := Nat.le_trans hk (Keep.of_wr W10).1
  have hC := hC.trans (CHr.wr W10 F8 hH)
  have hH := hC.1
  refine own_fw (A' := (T10.setTop (mkF m 26 #[.val (.ref a1), .val (.ref a2), .val (.int (0 : Int32)), .val (.int (0 : Int32)), .val .null, .unset] []))) (fun t k => st10 _ k) ?_
  obtain ⟨fs, hr, hrun, hended, hWE⟩ := X10.leaveW hS (by rw [e10]; exact hk : _ ≤ T10.heap.size) (v := none) (fun _ => rfl)
  have hCE : CHr Z own_EL s.vm s.heap (T10.setFrames fs).vm (T10.setFrames fs).heap := by rw [hh]; show CHr Z own_EL s.vm h0 T10.vm T10.heap; rw [e10]; exact hC.trans (CHv.at X10 hZ (own_EW hw) hH)
  refine ⟨_, _, ?_, hrun, hended, _, _, rfl, ?_, hCE, own_widen hWE (by decide) (by decide)⟩
  · exact X10.returnOut hx Bd.returns (hb hby d_jdk_42_method_149_code_26) hr
  · show Q_rmStrB0 Z a1 a2 h0 n0 _ T10.heap _
    rw [e10]
    exact ⟨sb2, kk2, rfl, Nf10, K10, ((((P0.ext E2).wr W5).ext E7).wr W10), Fw10, ((Fw5.ext E7).other W10 (Or.inr (slot_ne (Or.inr (hw _ (List.mem_of_getElem? (i := 27) rfl))) (Or.inr (hw _ (List.mem_of_getElem? (i := 28) rfl))) (by decide) (t := (.array .byte)) (t' := .byte) (by decide) (by decide)))), (((SA2.other W5 (Ne.symm (sn2 _ F3).2)).ext E7).other W10 (Ne.symm (sn2 _ F3).2))⟩
theorem ef_rmStrA0 (m : MethodId) (a1 : Addr) (a2 : Addr) : entryFrame m #[(.ref a1), (.ref a2)] 2 = mkF m 0 #[.val (.ref a1), .val (.ref a2)] [] := by first | (simp [entryFrame, mkF, argsToLocals, Value.category]; done) | rfl
def Q_rmStrA0 (Z : State) (a1 : Addr) (a2 : Addr) (kc : ClassId) (h0 : Heap) (n0 : Nat) (v : Option Value) (h : Heap) (L : List Loc) : Prop := ∃ b : Addr, ∃ kb : ClassId, v = none ∧ Fr n0 L ∧ Keep h0 h [a1] ∧ Exa Z h a1 "java/lang/String" ∧ Fld Z h a1 "java/lang/String" "coder" "B" (.int (0 : Int32)) ∧ Fld Z h a1 "java/lang/String" "value" "[B" (.ref b) ∧ Arv Z h b kb .byte (0 : Int32) [] (.int (0 : Int32))
set_option maxRecDepth 65536 in
set_option maxHeartbeats 40000000 in
theorem rmStrA0 (l : Launch) (Z : State) (a0 : Array Value) (hw : ∀ d ∈ tables_1, d.before a0 Z = true) (ws : List Jvm.Cond) (a1 : Addr) (a2 : Addr) (kc : ClassId) (h0 : Heap) (n0 : Nat) (Z0 : n0 ≤ h0.size) (P0 : Exa Z h0 a1 "java/lang/String") (P1 : Fld Z h0 a1 "java/lang/String" "coder" "B" (.int (0 : Int32))) (P2 : Fld Z h0 a1 "java/lang/String" "value" "[B" .null) (P3 : Arv Z h0 a2 kc .char (0 : Int32) [] (.int (0 : Int32))) (g_a1 : n0 ≤ a1) :
    MetFree l (⟨"java/lang/String", "<init>", "([C)V"⟩ : MethodName) (head1 (Jvm.Cond.code (⟨"java/lang/String", "<init>", "([C)V"⟩ : MethodName) jdk_42_method_3_code 2 none :: ws) ({ frames := 2, cells := 4, slots := 8, locals := 29 } : Room)) (fun a U => a = #[(.ref a1), (.ref a2)] ∧ Z.Warmed39 U.vm ∧ U.heap = h0 ∧ CHv Z own_EL U.vm h0) (fun _ _ _ _ _ => True) (fun _ U o U' => ∃ v L, o = .returned v ∧ Q_rmStrA0 Z a1 a2 kc h0 n0 v U'.heap L ∧ CHr Z own_EL U.vm U.heap U'.vm U'.heap ∧ ReturnedEndW U o U' L ({ frames := 2, cells := 4, slots := 8, locals := 29 } : Room).cells ({ frames := 2, cells := 4, slots := 8, locals := 29 } : Room).slots) := by
  refine MetFree.of_bodySF (plainFor_of_name pn_java_lang_String) hisR ?_
  intro p e s m args below meth c s₁ Bd hml0 hP hK
  obtain ⟨rfl, hZ, hh, hH⟩ := hP
  have hx := Bd.exec
  have hby := Bd.bytes
  have hml : c.maxLocals = 2 := hml0
  have hown : s.vm.findClass "java/lang/String" = some m.cls := findClass_of_methodNamed Bd.named
  have hnm := (name_of_methodNamed Bd.named Bd.method).1
  have X0 : Stand p l e ({ frames := 2, cells := 4, slots := 8, locals := 29 } : Room) (s.setVm s.vm) m #[(.ref a1), (.ref a2)] below meth c s₁ [] 0 0 := Stand.of_body Bd
  have e0 : s₁.heap = h0 := by rw [← hh, Bd.state]; rfl
  have N0 := Fr.nil n0
  refine own_fw (A' := (s₁.setTop (mkF m 0 #[.val (.ref a1), .val (.ref a2)] []))) (fun t k => castTop (ef_rmStrA0 m a1 a2) k) ?_
  have hS : s.Since s.vm h0.size := (State.WarmedH.refl s).since _
  have hk : h0.size ≤ h0.size := Nat.le_refl _
  have hC : CHr Z own_EL s.vm h0 s.vm h0 := CHr.refl hH
  refine own_fw (A' := (s₁.setTop (mkF m 1 #[.val (.ref a1), .val (.ref a2)] [(.ref a1)]))) (fun t k => XS.aloadN X0.here hx rfl (hb hby d_jdk_42_method_3_code_0) rfl rfl k) ?_
  refine own_fw (A' := (s₁.setTop (mkF m 2 #[.val (.ref a1), .val (.ref a2)] [(.ref a2), (.ref a1)]))) (fun t k => XS.aloadN X0.here hx rfl (hb hby d_jdk_42_method_3_code_1) rfl rfl k) ?_
  refine own_fw (A' := (s₁.setTop (mkF m 3 #[.val (.ref a1), .val (.ref a2)] [(.int (0 : Int32)), (.ref a2), (.ref a1)]))) (fun t k => XS.iconst X0.here hx rfl (hb hby d_jdk_42_method_3_code_2) k) ?_
  refine own_fw (A' := (s₁.setTop (mkF m 4 #[.val (.ref a1), .val (.ref a2)] [(.ref a2), (.int (0 : Int32)), (.ref a2), (.ref a1)]))) (fun t k => XS.aloadN X0.here hx rfl (hb hby d_jdk_42_method_3_code_3) rfl rfl k) ?_
  obtain ⟨cl1, Ar1, q1, S1, M1, H1, G1⟩ := id P3
  refine own_fw (A' := (s₁.setTop (mkF m 5 #[.val (.ref a1), .val (.ref a2)] [(.int (0 : Int32)), (.int (0 : Int32)), (.ref a2), (.ref a1)]))) (fun t k => X0.arraylength hx (by rw [e0]; exact Ar1.1) (State.isArrayOf_alike hZ.alike Ar1.2.1) (g := (mkF m 4 #[.val (.ref a1), .val (.ref a2)] [(.ref a2), (.int (0 : Int32)), (.ref a2), (.ref a1)])) rfl rfl (hb hby d_jdk_42_method_3_code_4) _ (by rw [len_of S1 M1]; exact k)) ?_
  refine own_fw (A' := (s₁.setTop (mkF m 6 #[.val (.ref a1), .val (.ref a2)] [.null, (.int (0 : Int32)), (.int (0 : Int32)), (.ref a2), (.ref a1)]))) (fun t k => XS.aconstNull X0.here hx rfl (hb hby d_jdk_42_method_3_code_5) k) ?_
  obtain ⟨_, _, ⟨T2, L2, k2, n2⟩, -, X2, hS2, gS2, ⟨Lc2, hQ2, l2, y2, z2, r2⟩, st2⟩ := X0.specialBackS hx (y := (⟨"java/lang/String", "<init>", "([CIILjava/lang/Void;)V"⟩ : MethodName)) rfl hown (mvT hZ (hw _ (List.mem_of_getElem? (i := 18) rfl))) (mvT hZ (hw _ (List.mem_of_getElem? (i := 19) rfl))) (mvT hZ (hw _ (List.mem_of_getElem? (i := 21) rfl))) (by decide) (backOfSH (W := 0) (rmStrB0 l Z a0 hw [] a1 a2 h0 n0 Z0 P0 P1 P2 g_a1) hZ (hw _ (List.mem_of_getElem? (i := 21) rfl)) (hw _ (List.mem_of_getElem? (i := 13) rfl)) (by decide) (by decide) (own_EW hw) hH) (g := (mkF m 6 #[.val (.ref a1), .val (.ref a2)] [.null, (.int (0 : Int32)), (.int (0 : Int32)), (.ref a2), (.ref a1)])) rfl (by rw [hml]; rfl) (Steps.refl _) (a := a1) (argsL := [(.ref a2), (.int (0 : Int32)), (.int (0 : Int32)), .null]) (rest := []) (lenOf pd___CIILjava_lang_Void__V rfl) rfl (by show 2 * 0 + _ ≤ _; exact Nat.le_of_eq rfl) (hb hby d_jdk_42_method_3_code_6) (fun _ _ => ⟨rfl, e0, (by decide : 0 + 4 ≤ _), (by decide : 0 + 8 ≤ _)⟩)
  dsimp only [Pt.U, Pt.locs, Pt.cells, Pt.slots] at X2 l2 y2 z2 st2 hQ2 hS2 gS2 r2
  subst l2 y2 z2
  obtain ⟨X2, hS, hZ', hown⟩ := rebS hS (by rw [e0]; exact hk : _ ≤ s₁.heap.size) X2 hS2 gS2 hZ hown
  have hk : T2.heap.size ≤ T2.heap.size := Nat.le_refl _
  obtain ⟨b_2, kb_2, rfl, Nq2, Kq2, Fq2_0, Fq2_1, Fq2_2, Fq2_3⟩ := hQ2
  have Nf2 := Fr.app N0 Nq2
  have hC := hC.trans r2
  have hH := hC.1
  have hZ := hZ'
  have K2 : Keep h0 T2.heap [a1] := (Keep.refl h0 [a1]).trans Kq2 (allS (Or.inl (List.mem_of_getElem? (i := 0) rfl)) all0)
  have Z2 : n0 ≤ T2.heap.size := Nat.le_trans Z0 Kq2.1
  refine own_fw (A' := (T2.setTop (mkF m 9 #[.val (.ref a1), .val (.ref a2)] []))) (fun t k => st2.trans k) ?_
  obtain ⟨fs, hr, hrun, hended, hWE⟩ := X2.leaveW hS hk (v := none) (fun _ => rfl)
  have hCE : CHr Z own_EL s.vm s.heap (T2.setFrames fs).vm (T2.setFrames fs).heap := by rw [hh]; show CHr Z own_EL s.vm h0 T2.vm T2.heap; exact hC.trans (CHv.at X2 hZ (own_EW hw) hH)
  refine ⟨_, _, ?_, hrun, hended, _, _, rfl, ?_, hCE, own_widen hWE (by decide) (by decide)⟩
  · exact X2.returnOut hx Bd.returns (hb hby d_jdk_42_method_3_code_9) hr
  · show Q_rmStrA0 Z a1 a2 kc h0 n0 _ T2.heap _
    exact ⟨b_2, kb_2, rfl, Nf2, K2, Fq2_0, Fq2_1, Fq2_2, Fq2_3⟩
theorem pn_java_lang_StringLatin1 : plainName "java/lang/StringLatin1" = true := by first | (simp [plainName, overriddenIn]; done) | decide +kernel
theorem d_jdk_43_method_13_code_0 : decode jdk_43_method_13_code 0 = .ok (.aload_n 0, 1) := by decide +kernel
theorem d_jdk_43_method_13_code_1 : decode jdk_43_method_13_code 1 = .ok (.arraylength, 1) := by decide +kernel
theorem d_jdk_43_method_13_code_2 : decode jdk_43_method_13_code 2 = .ok (.aload_n 1, 1) := by decide +kernel
theorem d_jdk_43_method_13_code_3 : decode jdk_43_method_13_code 3 = .ok (.arraylength, 1) := by decide +kernel
theorem d_jdk_43_method_13_code_4 : decode jdk_43_method_13_code 4 = .ok (.if_icmp .ne 30, 3) := by decide +kernel
theorem d_jdk_43_method_13_code_7 : decode jdk_43_method_13_code 7 = .ok (.iconst 0, 1) := by decide +kernel
theorem d_jdk_43_method_13_code_8 : decode jdk_43_method_13_code 8 = .ok (.istore_n 2, 1) := by decide +kernel
theorem d_jdk_43_method_13_code_9 : decode jdk_43_method_13_code 9 = .ok (.iload_n 2, 1) := by decide +kernel
theorem d_jdk_43_method_13_code_10 : decode jdk_43_method_13_code 10 = .ok (.aload_n 0, 1) := by decide +kernel
theorem d_jdk_43_method_13_code_11 : decode jdk_43_method_13_code 11 = .ok (.arraylength, 1) := by decide +kernel
theorem d_jdk_43_method_13_code_12 : decode jdk_43_method_13_code 12 = .ok (.if_icmp .ge 20, 3) := by decide +kernel
theorem d_jdk_43_method_13_code_32 : decode jdk_43_method_13_code 32 = .ok (.iconst 1, 1) := by decide +kernel
theorem d_jdk_43_method_13_code_33 : decode jdk_43_method_13_code 33 = .ok (.ireturn, 1) := by decide +kernel
theorem ef_rmLeq00 (m : MethodId) (a1 : Addr) (a2 : Addr) : entryFrame m #[(.ref a1), (.ref a2)] 3 = mkF m 0 #[.val (.ref a1), .val (.ref a2), .unset] [] := by first | (simp [entryFrame, mkF, argsToLocals, Value.category]; done) | rfl
def Q_rmLeq00 (Z : State) (a1 : Addr) (a2 : Addr) (k1 : ClassId) (k2 : ClassId) (h0 : Heap) (n0 : Nat) (v : Option Value) (h : Heap) (L : List Loc) : Prop := v = some (.int (1 : Int32)) ∧ Fr n0 L ∧ h = h0
set_option maxRecDepth 65536 in
set_option maxHeartbeats 40000000 in
theorem rmLeq00 (l : Launch) (Z : State) (a0 : Array Value) (hw : ∀ d ∈ tables_1, d.before a0 Z = true) (ws : List Jvm.Cond) (a1 : Addr) (a2 : Addr) (k1 : ClassId) (k2 : ClassId) (h0 : Heap) (n0 : Nat) (Z0 : n0 ≤ h0.size) (P0 : Arv Z h0 a1 k1 .byte (0 : Int32) [] (.int (0 : Int32))) (P1 : Arv Z h0 a2 k2 .byte (0 : Int32) [] (.int (0 : Int32))) :
    MetFree l (⟨"java/lang/StringLatin1", "equals", "([B[B)Z"⟩ : MethodName) (head1 (Jvm.Cond.code (⟨"java/lang/StringLatin1", "equals", "([B[B)Z"⟩ : MethodName) jdk_43_method_13_code 3 (some .boolean) :: ws) ({ frames := 0, cells := 0, slots := 0, locals := 0 } : Room)) (fun a U => a = #[(.ref a1), (.ref a2)] ∧ Z.Warmed39 U.vm ∧ U.heap = h0) (fun _ _ _ _ _ => True) (fun _ U o U' => ∃ v L, o = .returned v ∧ Q_rmLeq00 Z a1 a2 k1 k2 h0 n0 v U'.heap L ∧ FrameEnd U o U' L ({ frames := 0, cells := 0, slots := 0, locals := 0 } : Room).cells ({ frames := 0, cells := 0, slots := 0, locals := 0 } : Room).slots) := by
  refine MetFree.of_bodySF (plainFor_of_name pn_java_lang_StringLatin1) hisR ?_
  intro p e s m args below meth c s₁ Bd hml0 hP hK
  obtain ⟨rfl, hZ, hh⟩ := hP
  have hx := Bd.exec
  have hby := Bd.bytes
  have hml : c.maxLocals = 3 := hml0
  have hown : s.vm.findClass "java/lang/StringLatin1" = some m.cls := findClass_of_methodNamed Bd.named
  have hnm := (name_of_methodNamed Bd.named Bd.method).1
  have X0 : Stand p l e ({ frames := 0, cells := 0, slots := 0, locals := 0 } : Room) s m #[(.ref a1), (.ref a2)] below meth c s₁ [] 0 0 := Stand.of_body Bd
  have e0 : s₁.heap = h0 := by rw [← hh, Bd.state]; rfl
  have N0 := Fr.nil n0
  refine own_fw (A' := (s₁.setTop (mkF m 0 #[.val (.ref a1), .val (.ref a2), .unset] []))) (fun t k => castTop (ef_rmLeq00 m a1 a2) k) ?_
  refine own_fw (A' := (s₁.setTop (mkF m 1 #[.val (.ref a1), .val (.ref a2), .unset] [(.ref a1)]))) (fun t k => XS.aloadN X0.here hx rfl (hb hby d_jdk_43_method_13_code_0) rfl rfl k) ?_
  obtain ⟨cl1, Ar1, q1, S1, M1, H1, G1⟩ := id P0
  refine own_fw (A' := (s₁.setTop (mkF m 2 #[.val (.ref a1), .val (.ref a2), .unset] [(.int (0 : Int32))]))) (fun t k => X0.arraylength hx (by rw [e0]; exact Ar1.1) (State.isArrayOf_alike hZ.alike Ar1.2.1) (g := (mkF m 1 #[.val (.ref a1), .val (.ref a2), .unset] [(.ref a1)])) rfl rfl (hb hby d_jdk_43_method_13_code_1) _ (by rw [len_of S1 M1]; exact k)) ?_
  refine own_fw (A' := (s₁.setTop (mkF m 3 #[.val (.ref a1), .val (.ref a2), .unset] [(.ref a2), (.int (0 : Int32))]))) (fun t k => XS.aloadN X0.here hx rfl (hb hby d_jdk_43_method_13_code_2) rfl rfl k) ?_
  obtain ⟨cl2, Ar2, q2, S2, M2, H2, G2⟩ := id P1
  refine own_fw (A' := (s₁.setTop (mkF m 4 #[.val (.ref a1), .val (.ref a2), .unset] [(.int (0 : Int32)), (.int (0 : Int32))]))) (fun t k => X0.arraylength hx (by rw [e0]; exact Ar2.1) (State.isArrayOf_alike hZ.alike Ar2.2.1) (g := (mkF m 3 #[.val (.ref a1), .val (.ref a2), .unset] [(.ref a2), (.int (0 : Int32))])) rfl rfl (hb hby d_jdk_43_method_13_code_3) _ (by rw [len_of S2 M2]; exact k)) ?_
  refine own_fw (A' := (s₁.setTop (mkF m 7 #[.val (.ref a1), .val (.ref a2), .unset] []))) (fun t k => XS.icmpNo X0.here hx rfl (hb hby d_jdk_43_method_13_code_4) rfl (XT.ii_ne_f rfl) k) ?_
  refine own_fw (A' := (s₁.setTop (mkF m 8 #[.val (.ref a1), .val (.ref a2), .unset] [(.int (0 : Int32))]))) (fun t k => XS.iconst X0.here hx rfl (hb hby d_jdk_43_method_13_code_7) k) ?_
  refine own_fw (A' := (s₁.setTop (mkF m 9 #[.val (.ref a1), .val (.ref a2), .val (.int (0 : Int32))] []))) (fun t k => XS.istoreN X0.here hx rfl (hb hby d_jdk_43_method_13_code_8) rfl (l' := #[.val (.ref a1), .val (.ref a2), .val (.int (0 : Int32))]) rfl k) ?_
  refine own_fw (A' := (s₁.setTop (mkF m 10 #[.val (.ref a1), .val (.ref a2), .val (.int (0 : Int32))] [(.int (0 : Int32))]))) (fun t k => XS.iloadN X0.here hx rfl (hb hby d_jdk_43_method_13_code_9) rfl k) ?_
  refine own_fw (A' := (s₁.setTop (mkF m 11 #[.val (.ref a1), .val (.ref a2), .val (.int (0 : Int32))] [(.ref a1), (.int (0 : Int32))]))) (fun t k => XS.aloadN X0.here hx rfl (hb hby d_jdk_43_method_13_code_10) rfl rfl k) ?_
  obtain ⟨cl3, Ar3, q3, S3, M3, H3, G3⟩ := id P0
  refine own_fw (A' := (s₁.setTop (mkF m 12 #[.val (.ref a1), .val (.ref a2), .val (.int (0 : Int32))] [(.int (0 : Int32)), (.int (0 : Int32))]))) (fun t k => X0.arraylength hx (by rw [e0]; exact Ar3.1) (State.isArrayOf_alike hZ.alike Ar3.2.1) (g := (mkF m 11 #[.val (.ref a1), .val (.ref a2), .val (.int (0 : Int32))] [(.ref a1), (.int (0 : Int32))])) rfl rfl (hb hby d_jdk_43_method_13_code_11) _ (by rw [len_of S3 M3]; exact k)) ?_
  refine own_fw (A' := (s₁.setTop (mkF m 32 #[.val (.ref a1), .val (.ref a2), .val (.int (0 : Int32))] []))) (fun t k => XS.icmpYes X0.here hx rfl (pc0 := 12) (pc' := 32) rfl (hb hby d_jdk_43_method_13_code_12) rfl (XT.ii_ge_t (by decide)) (by decide) (by decide) k) ?_
  refine own_fw (A' := (s₁.setTop (mkF m 33 #[.val (.ref a1), .val (.ref a2), .val (.int (0 : Int32))] [(.int (1 : Int32))]))) (fun t k => XS.iconst X0.here hx rfl (hb hby d_jdk_43_method_13_code_32) k) ?_
  obtain ⟨fs, hr, hrun, hended, hW, hsame⟩ := X0.leave (v := some (.int (1 : Int32))) (fun h => by rw [Bd.returns] at h; cases h)
  refine ⟨_, _, ?_, hrun, hended, _, _, rfl, ?_, ⟨_, rfl⟩, hW, hsame.mono (by decide) (by decide)⟩
  · exact retOut X0 hx Bd.returns rfl (Or.inl ⟨rfl, by simp, _, rfl⟩) (hb hby d_jdk_43_method_13_code_33) hr
  · show Q_rmLeq00 Z a1 a2 k1 k2 h0 n0 _ s₁.heap _
    rw [e0]
    exact ⟨rfl, N0, rfl⟩
theorem d_jdk_42_method_66_code_0 : decode jdk_42_method_66_code 0 = .ok (.aload_n 0, 1) := by decide +kernel
theorem d_jdk_42_method_66_code_1 : decode jdk_42_method_66_code 1 = .ok (.aload_n 1, 1) := by decide +kernel
theorem d_jdk_42_method_66_code_2 : decode jdk_42_method_66_code 2 = .ok (.if_acmp .ne 5, 3) := by decide +kernel
theorem d_jdk_42_method_66_code_7 : decode jdk_42_method_66_code 7 = .ok (.aload_n 1, 1) := by decide +kernel
theorem d_jdk_42_method_66_code_8 : decode jdk_42_method_66_code 8 = .ok (.instanceof 10, 3) := by decide +kernel
theorem d_jdk_42_method_66_code_11 : decode jdk_42_method_66_code 11 = .ok (.ifCond .eq 43, 3) := by decide +kernel
theorem d_jdk_42_method_66_code_14 : decode jdk_42_method_66_code 14 = .ok (.aload_n 1, 1) := by decide +kernel
theorem d_jdk_42_method_66_code_15 : decode jdk_42_method_66_code 15 = .ok (.checkcast 10, 3) := by decide +kernel
theorem d_jdk_42_method_66_code_18 : decode jdk_42_method_66_code 18 = .ok (.astore_n 2, 1) := by decide +kernel
theorem d_jdk_42_method_66_code_19 : decode jdk_42_method_66_code 19 = .ok (.getstatic 38, 3) := by decide +kernel
theorem d_jdk_42_method_66_code_22 : decode jdk_42_method_66_code 22 = .ok (.ifCond .eq 14, 3) := by decide +kernel
theorem d_jdk_42_method_66_code_25 : decode jdk_42_method_66_code 25 = .ok (.aload_n 0, 1) := by decide +kernel
theorem d_jdk_42_method_66_code_26 : decode jdk_42_method_66_code 26 = .ok (.getfield 15, 3) := by decide +kernel
theorem d_jdk_42_method_66_code_29 : decode jdk_42_method_66_code 29 = .ok (.aload_n 2, 1) := by decide +kernel
theorem d_jdk_42_method_66_code_30 : decode jdk_42_method_66_code 30 = .ok (.getfield 15, 3) := by decide +kernel
theorem d_jdk_42_method_66_code_33 : decode jdk_42_method_66_code 33 = .ok (.if_icmp .ne 21, 3) := by decide +kernel
theorem d_jdk_42_method_66_code_36 : decode jdk_42_method_66_code 36 = .ok (.aload_n 0, 1) := by decide +kernel
theorem d_jdk_42_method_66_code_37 : decode jdk_42_method_66_code 37 = .ok (.getfield 9, 3) := by decide +kernel
theorem d_jdk_42_method_66_code_40 : decode jdk_42_method_66_code 40 = .ok (.aload_n 2, 1) := by decide +kernel
theorem d_jdk_42_method_66_code_41 : decode jdk_42_method_66_code 41 = .ok (.getfield 9, 3) := by decide +kernel
theorem d_jdk_42_method_66_code_44 : decode jdk_42_method_66_code 44 = .ok (.invokestatic 541, 3) := by decide +kernel
theorem pd___B_B_Z : parseMethodDescriptor "([B[B)Z" = some ⟨[(.array .byte), (.array .byte)], some .boolean⟩ := by decide +kernel
theorem d_jdk_42_method_66_code_47 : decode jdk_42_method_66_code 47 = .ok (.ifCond .eq 7, 3) := by decide +kernel
theorem d_jdk_42_method_66_code_54 : decode jdk_42_method_66_code 54 = .ok (.iconst 0, 1) := by decide +kernel
theorem d_jdk_42_method_66_code_55 : decode jdk_42_method_66_code 55 = .ok (.ireturn, 1) := by decide +kernel
theorem d_jdk_42_method_66_code_50 : decode jdk_42_method_66_code 50 = .ok (.iconst 1, 1) := by decide +kernel
theorem d_jdk_42_method_66_code_51 : decode jdk_42_method_66_code 51 = .ok (.goto 4, 3) := by decide +kernel
theorem ef_rmSeq00 (m : MethodId) (a1 : Addr) (a2 : Addr) : entryFrame m #[(.ref a1), (.ref a2)] 3 = mkF m 0 #[.val (.ref a1), .val (.ref a2), .unset] [] := by first | (simp [entryFrame, mkF, argsToLocals, Value.category]; done) | rfl
def Q_rmSeq00 (Z : State) (a1 : Addr) (a2 : Addr) (b1 : Addr) (b2 : Addr) (k1 : ClassId) (k2 : ClassId) (cs : Int32) (h0 : Heap) (n0 : Nat) (v : Option Value) (h : Heap) (L : List Loc) : Prop := v = some (.int (1 : Int32)) ∧ Fr n0 L ∧ h = h0
set_option maxRecDepth 65536 in
set_option maxHeartbeats 40000000 in
theorem rmSeq00 (l : Launch) (Z : State) (a0 : Array Value) (hw : ∀ d ∈ tables_1, d.before a0 Z = true) (ws : List Jvm.Cond) (a1 : Addr) (a2 : Addr) (b1 : Addr) (b2 : Addr) (k1 : ClassId) (k2 : ClassId) (cs : Int32) (h0 : Heap) (n0 : Nat) (Z0 : n0 ≤ h0.size) (P0 : Exa Z h0 a1 "java/lang/String") (P1 : Exa Z h0 a2 "java/lang/String") (P2 : Fld Z h0 a1 "java/lang/String" "coder" "B" (.int (0 : Int32))) (P3 : Fld Z h0 a2 "java/lang/String" "coder" "B" (.int (0 : Int32))) (P4 : Fld Z h0 a1 "java/lang/String" "value" "[B" (.ref b1)) (P5 : Fld Z h0 a2 "java/lang/String" "value" "[B" (.ref b2)) (P6 : Arv Z h0 b1 k1 .byte (0 : Int32) [] (.int (0 : Int32))) (P7 : Arv Z h0 b2 k2 .byte (0 : Int32) [] (.int (0 : Int32))) (ne_a1_a2 : a1 ≠ a2) (P9 : Sta Z h0 "java/lang/String" "COMPACT_STRINGS" "Z" (.int cs)) (hcs : ¬ (cs = (0 : Int32))) :
    MetFree l (⟨"java/lang/String", "equals", "(Ljava/lang/Object;)Z"⟩ : MethodName) (head1 (Jvm.Cond.code (⟨"java/lang/String", "equals", "(Ljava/lang/Object;)Z"⟩ : MethodName) jdk_42_method_66_code 3 (some .boolean) :: ws) ({ frames := 1, cells := 0, slots := 0, locals := 14 } : Room)) (fun a U => a = #[(.ref a1), (.ref a2)] ∧ Z.Warmed39 U.vm ∧ U.heap = h0) (fun _ _ _ _ _ => True) (fun _ U o U' => ∃ v L, o = .returned v ∧ Q_rmSeq00 Z a1 a2 b1 b2 k1 k2 cs h0 n0 v U'.heap L ∧ FrameEnd U o U' L ({ frames := 1, cells := 0, slots := 0, locals := 14 } : Room).cells ({ frames := 1, cells := 0, slots := 0, locals := 14 } : Room).slots) := by
  refine MetFree.of_bodySF (plainFor_of_name pn_java_lang_String) hisR ?_
  intro p e s m args below meth c s₁ Bd hml0 hP hK
  obtain ⟨rfl, hZ, hh⟩ := hP
  have hx := Bd.exec
  have hby := Bd.bytes
  have hml : c.maxLocals = 3 := hml0
  have hown : s.vm.findClass "java/lang/String" = some m.cls := findClass_of_methodNamed Bd.named
  have hnm := (name_of_methodNamed Bd.named Bd.method).1
  have X0 : Stand p l e ({ frames := 1, cells := 0, slots := 0, locals := 14 } : Room) s m #[(.ref a1), (.ref a2)] below meth c s₁ [] 0 0 := Stand.of_body Bd
  have e0 : s₁.heap = h0 := by rw [← hh, Bd.state]; rfl
  have N0 := Fr.nil n0
  refine own_fw (A' := (s₁.setTop (mkF m 0 #[.val (.ref a1), .val (.ref a2), .unset] []))) (fun t k => castTop (ef_rmSeq00 m a1 a2) k) ?_
  refine own_fw (A' := (s₁.setTop (mkF m 1 #[.val (.ref a1), .val (.ref a2), .unset] [(.ref a1)]))) (fun t k => XS.aloadN X0.here hx rfl (hb hby d_jdk_42_method_66_code_0) rfl rfl k) ?_
  refine own_fw (A' := (s₁.setTop (mkF m 2 #[.val (.ref a1), .val (.ref a2), .unset] [(.ref a2), (.ref a1)]))) (fun t k => XS.aloadN X0.here hx rfl (hb hby d_jdk_42_method_66_code_1) rfl rfl k) ?_
  refine own_fw (A' := (s₁.setTop (mkF m 7 #[.val (.ref a1), .val (.ref a2), .unset] []))) (fun t k => Jvm.RoadKit.acmp (g := (mkF m 2 #[.val (.ref a1), .val (.ref a2), .unset] [(.ref a2), (.ref a1)])) X0 hx rfl rfl rfl (pc0 := 2) (pc' := 7) (same := false) rfl (hb hby d_jdk_42_method_66_code_2) rfl (decide_eq_false (fun q => ne_a1_a2 (Value.ref.inj q))) (by decide) (by decide) k) ?_
  refine own_fw (A' := (s₁.setTop (mkF m 8 #[.val (.ref a1), .val (.ref a2), .unset] [(.ref a2)]))) (fun t k => XS.aloadN X0.here hx rfl (hb hby d_jdk_42_method_66_code_7) rfl rfl k) ?_
  obtain ⟨T1, X1, e1, st1⟩ := instY X0 hx hZ hown (hw _ (List.mem_of_getElem? (i := 63) rfl)) e0 (Ins.self P1) (g := (mkF m 8 #[.val (.ref a1), .val (.ref a2), .unset] [(.ref a2)])) rfl rfl (hb hby d_jdk_42_method_66_code_8)
  refine own_fw (A' := (T1.setTop (mkF m 11 #[.val (.ref a1), .val (.ref a2), .unset] [(.int (1 : Int32))]))) (fun t k => st1 _ k) ?_
  refine own_fw (A' := (T1.setTop (mkF m 14 #[.val (.ref a1), .val (.ref a2), .unset] []))) (fun t k => XS.ifNo X1.here hx rfl (hb hby d_jdk_42_method_66_code_11) rfl (XT.i0_eq_f (by decide)) k) ?_
  refine own_fw (A' := (T1.setTop (mkF m 15 #[.val (.ref a1), .val (.ref a2), .unset] [(.ref a2)]))) (fun t k => XS.aloadN X1.here hx rfl (hb hby d_jdk_42_method_66_code_14) rfl rfl k) ?_
  obtain ⟨T2, X2, e2, st2⟩ := castY X1 hx hZ hown (hw _ (List.mem_of_getElem? (i := 63) rfl)) e1 (Ins.self P1) (g := (mkF m 15 #[.val (.ref a1), .val (.ref a2), .unset] [(.ref a2)])) rfl rfl (hb hby d_jdk_42_method_66_code_15)
  refine own_fw (A' := (T2.setTop (mkF m 18 #[.val (.ref a1), .val (.ref a2), .unset] [(.ref a2)]))) (fun t k => st2 _ k) ?_
  refine own_fw (A' := (T2.setTop (mkF m 19 #[.val (.ref a1), .val (.ref a2), .val (.ref a2)] []))) (fun t k => XS.astoreN X2.here hx rfl (hb hby d_jdk_42_method_66_code_18) rfl rfl (l' := #[.val (.ref a1), .val (.ref a2), .val (.ref a2)]) rfl k) ?_
  obtain ⟨T3, X3, e3, st3⟩ := getS2 X2 hx hZ hown (host := "") (Or.inl (hw _ (List.mem_of_getElem? (i := 64) rfl))) Via.refl e2 P9 (g := (mkF m 19 #[.val (.ref a1), .val (.ref a2), .val (.ref a2)] [])) rfl (hb hby d_jdk_42_method_66_code_19)
  refine own_fw (A' := (T3.setTop (mkF m 22 #[.val (.ref a1), .val (.ref a2), .val (.ref a2)] [(.int cs)]))) (fun t k => st3 _ k) ?_
  refine own_fw (A' := (T3.setTop (mkF m 25 #[.val (.ref a1), .val (.ref a2), .val (.ref a2)] []))) (fun t k => XS.ifNo X3.here hx rfl (hb hby d_jdk_42_method_66_code_22) rfl (XT.i0_eq_f hcs) k) ?_
  refine own_fw (A' := (T3.setTop (mkF m 26 #[.val (.ref a1), .val (.ref a2), .val (.ref a2)] [(.ref a1)]))) (fun t k => XS.aloadN X3.here hx rfl (hb hby d_jdk_42_method_66_code_25) rfl rfl k) ?_
  obtain ⟨T4, X4, e4, st4⟩ := getF X3 hx hZ hown (host := "") (Or.inl (hw _ (List.mem_of_getElem? (i := 32) rfl))) Via.refl e3 P2 (g := (mkF m 26 #[.val (.ref a1), .val (.ref a2), .val (.ref a2)] [(.ref a1)])) rfl rfl (hb hby d_jdk_42_method_66_code_26)
  refine own_fw (A' := (T4.setTop (mkF m 29 #[.val (.ref a1), .val (.ref a2), .val (.ref a2)] [(.int (0 : Int32))]))) (fun t k => st4 _ k) ?_
  refine own_fw (A' := (T4.setTop (mkF m 30 #[.val (.ref a1), .val (.ref a2), .val (.ref a2)] [(.ref a2), (.int (0 : Int32))]))) (fun t k => XS.aloadN X4.here hx rfl (hb hby d_jdk_42_method_66_code_29) rfl rfl k) ?_
  obtain ⟨T5, X5, e5, st5⟩ := getF X4 hx hZ hown (host := "") (Or.inl (hw _ (List.mem_of_getElem? (i := 32) rfl))) Via.refl e4 P3 (g := (mkF m 30 #[.val (.ref a1), .val (.ref a2), .val (.ref a2)] [(.ref a2), (.int (0 : Int32))])) rfl rfl (hb hby d_jdk_42_method_66_code_30)
  refine own_fw (A' := (T5.setTop (mkF m 33 #[.val (.ref a1), .val (.ref a2), .val (.ref a2)] [(.int (0 : Int32)), (.int (0 : Int32))]))) (fun t k => st5 _ k) ?_
  refine own_fw (A' := (T5.setTop (mkF m 36 #[.val (.ref a1), .val (.ref a2), .val (.ref a2)] []))) (fun t k => XS.icmpNo X5.here hx rfl (hb hby d_jdk_42_method_66_code_33) rfl (XT.ii_ne_f rfl) k) ?_
  refine own_fw (A' := (T5.setTop (mkF m 37 #[.val (.ref a1), .val (.ref a2), .val (.ref a2)] [(.ref a1)]))) (fun t k => XS.aloadN X5.here hx rfl (hb hby d_jdk_42_method_66_code_36) rfl rfl k) ?_
  obtain ⟨T6, X6, e6, st6⟩ := getF X5 hx hZ hown (host := "") (Or.inl (hw _ (List.mem_of_getElem? (i := 31) rfl))) Via.refl e5 P4 (g := (mkF m 37 #[.val (.ref a1), .val (.ref a2), .val (.ref a2)] [(.ref a1)])) rfl rfl (hb hby d_jdk_42_method_66_code_37)
  refine own_fw (A' := (T6.setTop (mkF m 40 #[.val (.ref a1), .val (.ref a2), .val (.ref a2)] [(.ref b1)]))) (fun t k => st6 _ k) ?_
  refine own_fw (A' := (T6.setTop (mkF m 41 #[.val (.ref a1), .val (.ref a2), .val (.ref a2)] [(.ref a2), (.ref b1)]))) (fun t k => XS.aloadN X6.here hx rfl (hb hby d_jdk_42_method_66_code_40) rfl rfl k) ?_
  obtain ⟨T7, X7, e7, st7⟩ := getF X6 hx hZ hown (host := "") (Or.inl (hw _ (List.mem_of_getElem? (i := 31) rfl))) Via.refl e6 P5 (g := (mkF m 41 #[.val (.ref a1), .val (.ref a2), .val (.ref a2)] [(.ref a2), (.ref b1)])) rfl rfl (hb hby d_jdk_42_method_66_code_41)
  refine own_fw (A' := (T7.setTop (mkF m 44 #[.val (.ref a1), .val (.ref a2), .val (.ref a2)] [(.ref b2), (.ref b1)]))) (fun t k => st7 _ k) ?_
  obtain ⟨_, _, ⟨T8, L8, k8, n8⟩, -, X8, ⟨Lc8, hQ8, l8, y8, z8⟩, st8⟩ := Jvm.LawKit.callS X7 hx (y := (⟨"java/lang/StringLatin1", "equals", "([B[B)Z"⟩ : MethodName)) hown (mvT hZ (hw _ (List.mem_of_getElem? (i := 65) rfl))) (mvT hZ (hw _ (List.mem_of_getElem? (i := 66) rfl))) (mvT hZ (hw _ (List.mem_of_getElem? (i := 67) rfl))) (mvT hZ (hw _ (List.mem_of_getElem? (i := 68) rfl))) (by decide) (backOf (W := 0) (rmLeq00 l Z a0 hw [] b1 b2 k1 k2 h0 n0 Z0 P6 P7) hZ (hw _ (List.mem_of_getElem? (i := 68) rfl)) (hw _ (List.mem_of_getElem? (i := 67) rfl)) (by decide) (by decide)) (g := (mkF m 44 #[.val (.ref a1), .val (.ref a2), .val (.ref a2)] [(.ref b2), (.ref b1)])) rfl (by rw [hml]; rfl) (argsL := [(.ref b1), (.ref b2)]) (rest := []) (lenOf pd___B_B_Z rfl) rfl (by show 2 * 0 + _ ≤ _; exact Nat.le_of_eq rfl) (hb hby d_jdk_42_method_66_code_44) (fun _ _ => ⟨rfl, e7, (by decide : 0 + 0 ≤ _), (by decide : 0 + 0 ≤ _)⟩)
  dsimp only [Pt.U, Pt.locs, Pt.cells, Pt.slots] at X8 l8 y8 z8 st8 hQ8
  subst l8 y8 z8
  obtain ⟨rfl, Nq8, e8⟩ := hQ8
  have Nf8 := Fr.app N0 Nq8
  refine own_fw (A' := (T8.setTop (mkF m 47 #[.val (.ref a1), .val (.ref a2), .val (.ref a2)] [(.int (1 : Int32))]))) (fun t k => st8 _ k) ?_
  by_cases hc9 : (1 : Int32) = (0 : Int32)
  · refine own_fw (A' := (T8.setTop (mkF m 54 #[.val (.ref a1), .val (.ref a2), .val (.ref a2)] []))) (fun t k => XS.ifYes X8.here hx rfl (pc0 := 47) (pc' := 54) rfl (hb hby d_jdk_42_method_66_code_47) rfl (XT.i0_eq_t hc9) (by decide) (by decide) k) ?_
    refine own_fw (A' := (T8.setTop (mkF m 55 #[.val (.ref a1), .val (.ref a2), .val (.ref a2)] [(.int (0 : Int32))]))) (fun t k => XS.iconst X8.here hx rfl (hb hby d_jdk_42_method_66_code_54) k) ?_
    obtain ⟨fs, hr, hrun, hended, hW, hsame⟩ := X8.leave (v := some (.int (0 : Int32))) (fun h => by rw [Bd.returns] at h; cases h)
    refine ⟨_, _, ?_, hrun, hended, _, _, rfl, ?_, ⟨_, rfl⟩, hW, hsame.mono (by decide) (by decide)⟩
    · exact retOut X8 hx Bd.returns rfl (Or.inl ⟨rfl, by simp, _, rfl⟩) (hb hby d_jdk_42_method_66_code_55) hr
    · show Q_rmSeq00 Z a1 a2 b1 b2 k1 k2 cs h0 n0 _ T8.heap _
      rw [e8]
      exact ⟨(by first | rfl | (have q := hc9; revert q; (repeat' split) <;> simp)), Nf8, rfl⟩
  · refine own_fw (A' := (T8.setTop (mkF m 50 #[.val (.ref a1), .val (.ref a2), .val (.ref a2)] []))) (fun t k => XS.ifNo X8.here hx rfl (hb hby d_jdk_42_method_66_code_47) rfl (XT.i0_eq_f hc9) k) ?_
    refine own_fw (A' := (T8.setTop (mkF m 51 #[.val (.ref a1), .val (.ref a2), .val (.ref a2)] [(.int (1 : Int32))]))) (fun t k => XS.iconst X8.here hx rfl (hb hby d_jdk_42_method_66_code_50) k) ?_
    refine own_fw (A' := (T8.setTop (mkF m 55 #[.val (.ref a1), .val (.ref a2), .val (.ref a2)] [(.int (1 : Int32))]))) (fun t k => XS.goto X8.here hx rfl (pc0 := 51) (pc' := 55) rfl (hb hby d_jdk_42_method_66_code_51) (by decide) (by decide) k) ?_
    obtain ⟨fs, hr, hrun, hended, hW, hsame⟩ := X8.leave (v := some (.int (1 : Int32))) (fun h => by rw [Bd.returns] at h; cases h)
    refine ⟨_, _, ?_, hrun, hended, _, _, rfl, ?_, ⟨_, rfl⟩, hW, hsame.mono (by decide) (by decide)⟩
    · exact retOut X8 hx Bd.returns rfl (Or.inl ⟨rfl, by simp, _, rfl⟩) (hb hby d_jdk_42_method_66_code_55) hr
    · show Q_rmSeq00 Z a1 a2 b1 b2 k1 k2 cs h0 n0 _ T8.heap _
      rw [e8]
      exact ⟨rfl, Nf8, rfl⟩
theorem d_jdk_43_method_13_code_34 : decode jdk_43_method_13_code 34 = .ok (.iconst 0, 1) := by decide +kernel
theorem d_jdk_43_method_13_code_35 : decode jdk_43_method_13_code 35 = .ok (.ireturn, 1) := by decide +kernel
theorem ef_rmLeq01 (m : MethodId) (a1 : Addr) (a2 : Addr) : entryFrame m #[(.ref a1), (.ref a2)] 3 = mkF m 0 #[.val (.ref a1), .val (.ref a2), .unset] [] := by first | (simp [entryFrame, mkF, argsToLocals, Value.category]; done) | rfl
def Q_rmLeq01 (Z : State) (a1 : Addr) (a2 : Addr) (k1 : ClassId) (k2 : ClassId) (y0 : Int32) (h0 : Heap) (n0 : Nat) (v : Option Value) (h : Heap) (L : List Loc) : Prop := v = some (.int (0 : Int32)) ∧ Fr n0 L ∧ h = h0
set_option maxRecDepth 65536 in
set_option maxHeartbeats 40000000 in
theorem rmLeq01 (l : Launch) (Z : State) (a0 : Array Value) (hw : ∀ d ∈ tables_1, d.before a0 Z = true) (ws : List Jvm.Cond) (a1 : Addr) (a2 : Addr) (k1 : ClassId) (k2 : ClassId) (y0 : Int32) (h0 : Heap) (n0 : Nat) (Z0 : n0 ≤ h0.size) (P0 : Arv Z h0 a1 k1 .byte (0 : Int32) [] (.int (0 : Int32))) (P1 : Arv Z h0 a2 k2 .byte (1 : Int32) [(.int y0)] (.int (0 : Int32))) :
    MetFree l (⟨"java/lang/StringLatin1", "equals", "([B[B)Z"⟩ : MethodName) (head1 (Jvm.Cond.code (⟨"java/lang/StringLatin1", "equals", "([B[B)Z"⟩ : MethodName) jdk_43_method_13_code 3 (some .boolean) :: ws) ({ frames := 0, cells := 0, slots := 0, locals := 0 } : Room)) (fun a U => a = #[(.ref a1), (.ref a2)] ∧ Z.Warmed39 U.vm ∧ U.heap = h0) (fun _ _ _ _ _ => True) (fun _ U o U' => ∃ v L, o = .returned v ∧ Q_rmLeq01 Z a1 a2 k1 k2 y0 h0 n0 v U'.heap L ∧ FrameEnd U o U' L ({ frames := 0, cells := 0, slots := 0, locals := 0 } : Room).cells ({ frames := 0, cells := 0, slots := 0, locals := 0 } : Room).slots) := by
  refine MetFree.of_bodySF (plainFor_of_name pn_java_lang_StringLatin1) hisR ?_
  intro p e s m args below meth c s₁ Bd hml0 hP hK
  obtain ⟨rfl, hZ, hh⟩ := hP
  have hx := Bd.exec
  have hby := Bd.bytes
  have hml : c.maxLocals = 3 := hml0
  have hown : s.vm.findClass "java/lang/StringLatin1" = some m.cls := findClass_of_methodNamed Bd.named
  have hnm := (name_of_methodNamed Bd.named Bd.method).1
  have X0 : Stand p l e ({ frames := 0, cells := 0, slots := 0, locals := 0 } : Room) s m #[(.ref a1), (.ref a2)] below meth c s₁ [] 0 0 := Stand.of_body Bd
  have e0 : s₁.heap = h0 := by rw [← hh, Bd.state]; rfl
  have N0 := Fr.nil n0
  refine own_fw (A' := (s₁.setTop (mkF m 0 #[.val (.ref a1), .val (.ref a2), .unset] []))) (fun t k => castTop (ef_rmLeq01 m a1 a2) k) ?_
  refine own_fw (A' := (s₁.setTop (mkF m 1 #[.val (.ref a1), .val (.ref a2), .unset] [(.ref a1)]))) (fun t k => XS.aloadN X0.here hx rfl (hb hby d_jdk_43_method_13_code_0) rfl rfl k) ?_
  obtain ⟨cl1, Ar1, q1, S1, M1, H1, G1⟩ := id P0
  refine own_fw (A' := (s₁.setTop (mkF m 2 #[.val (.ref a1), .val (.ref a2), .unset] [(.int (0 : Int32))]))) (fun t k => X0.arraylength hx (by rw [e0]; exact Ar1.1) (State.isArrayOf_alike hZ.alike Ar1.2.1) (g := (mkF m 1 #[.val (.ref a1), .val (.ref a2), .unset] [(.ref a1)])) rfl rfl (hb hby d_jdk_43_method_13_code_1) _ (by rw [len_of S1 M1]; exact k)) ?_
  refine own_fw (A' := (s₁.setTop (mkF m 3 #[.val (.ref a1), .val (.ref a2), .unset] [(.ref a2), (.int (0 : Int32))]))) (fun t k => XS.aloadN X0.here hx rfl (hb hby d_jdk_43_method_13_code_2) rfl rfl k) ?_
  obtain ⟨cl2, Ar2, q2, S2, M2, H2, G2⟩ := id P1
  refine own_fw (A' := (s₁.setTop (mkF m 4 #[.val (.ref a1), .val (.ref a2), .unset] [(.int (1 : Int32)), (.int (0 : Int32))]))) (fun t k => X0.arraylength hx (by rw [e0]; exact Ar2.1) (State.isArrayOf_alike hZ.alike Ar2.2.1) (g := (mkF m 3 #[.val (.ref a1), .val (.ref a2), .unset] [(.ref a2), (.int (0 : Int32))])) rfl rfl (hb hby d_jdk_43_method_13_code_3) _ (by rw [len_of S2 M2]; exact k)) ?_
  refine own_fw (A' := (s₁.setTop (mkF m 34 #[.val (.ref a1), .val (.ref a2), .unset] []))) (fun t k => XS.icmpYes X0.here hx rfl (pc0 := 4) (pc' := 34) rfl (hb hby d_jdk_43_method_13_code_4) rfl (XT.ii_ne_t (by decide)) (by decide) (by decide) k) ?_
  refine own_fw (A' := (s₁.setTop (mkF m 35 #[.val (.ref a1), .val (.ref a2), .unset] [(.int (0 : Int32))]))) (fun t k => XS.iconst X0.here hx rfl (hb hby d_jdk_43_method_13_code_34) k) ?_
  obtain ⟨fs, hr, hrun, hended, hW, hsame⟩ := X0.leave (v := some (.int (0 : Int32))) (fun h => by rw [Bd.returns] at h; cases h)
  refine ⟨_, _, ?_, hrun, hended, _, _, rfl, ?_, ⟨_, rfl⟩, hW, hsame.mono (by decide) (by decide)⟩
  · exact retOut X0 hx Bd.returns rfl (Or.inl ⟨rfl, by simp, _, rfl⟩) (hb hby d_jdk_43_method_13_code_35) hr
  · show Q_rmLeq01 Z a1 a2 k1 k2 y0 h0 n0 _ s₁.heap _
    rw [e0]
    exact ⟨rfl, N0, rfl⟩
theorem ef_rmSeq01 (m : MethodId) (a1 : Addr) (a2 : Addr) : entryFrame m #[(.ref a1), (.ref a2)] 3 = mkF m 0 #[.val (.ref a1), .val (.ref a2), .unset] [] := by first | (simp [entryFrame, mkF, argsToLocals, Value.category]; done) | rfl
def Q_rmSeq01 (Z : State) (a1 : Addr) (a2 : Addr) (b1 : Addr) (b2 : Addr) (k1 : ClassId) (k2 : ClassId) (cs : Int32) (y0 : Int32) (h0 : Heap) (n0 : Nat) (v : Option Value) (h : Heap) (L : List Loc) : Prop := v = some (.int (0 : Int32)) ∧ Fr n0 L ∧ h = h0
set_option maxRecDepth 65536 in
set_option maxHeartbeats 40000000 in
theorem rmSeq01 (l : Launch) (Z : State) (a0 : Array Value) (hw : ∀ d ∈ tables_1, d.before a0 Z = true) (ws : List Jvm.Cond) (a1 : Addr) (a2 : Addr) (b1 : Addr) (b2 : Addr) (k1 : ClassId) (k2 : ClassId) (cs : Int32) (y0 : Int32) (h0 : Heap) (n0 : Nat) (Z0 : n0 ≤ h0.size) (P0 : Exa Z h0 a1 "java/lang/String") (P1 : Exa Z h0 a2 "java/lang/String") (P2 : Fld Z h0 a1 "java/lang/String" "coder" "B" (.int (0 : Int32))) (P3 : Fld Z h0 a2 "java/lang/String" "coder" "B" (.int (0 : Int32))) (P4 : Fld Z h0 a1 "java/lang/String" "value" "[B" (.ref b1)) (P5 : Fld Z h0 a2 "java/lang/String" "value" "[B" (.ref b2)) (P6 : Arv Z h0 b1 k1 .byte (0 : Int32) [] (.int (0 : Int32))) (P7 : Arv Z h0 b2 k2 .byte (1 : Int32) [(.int y0)] (.int (0 : Int32))) (ne_a1_a2 : a1 ≠ a2) (P9 : Sta Z h0 "java/lang/String" "COMPACT_STRINGS" "Z" (.int cs)) (hcs : ¬ (cs = (0 : Int32))) :
    MetFree l (⟨"java/lang/String", "equals", "(Ljava/lang/Object;)Z"⟩ : MethodName) (head1 (Jvm.Cond.code (⟨"java/lang/String", "equals", "(Ljava/lang/Object;)Z"⟩ : MethodName) jdk_42_method_66_code 3 (some .boolean) :: ws) ({ frames := 1, cells := 0, slots := 0, locals := 14 } : Room)) (fun a U => a = #[(.ref a1), (.ref a2)] ∧ Z.Warmed39 U.vm ∧ U.heap = h0) (fun _ _ _ _ _ => True) (fun _ U o U' => ∃ v L, o = .returned v ∧ Q_rmSeq01 Z a1 a2 b1 b2 k1 k2 cs y0 h0 n0 v U'.heap L ∧ FrameEnd U o U' L ({ frames := 1, cells := 0, slots := 0, locals := 14 } : Room).cells ({ frames := 1, cells := 0, slots := 0, locals := 14 } : Room).slots) := by
  refine MetFree.of_bodySF (plainFor_of_name pn_java_lang_String) hisR ?_
  intro p e s m args below meth c s₁ Bd hml0 hP hK
  obtain ⟨rfl, hZ, hh⟩ := hP
  have hx := Bd.exec
  have hby := Bd.bytes
  have hml : c.maxLocals = 3 := hml0
  have hown : s.vm.findClass "java/lang/String" = some m.cls := findClass_of_methodNamed Bd.named
  have hnm := (name_of_methodNamed Bd.named Bd.method).1
  have X0 : Stand p l e ({ frames := 1, cells := 0, slots := 0, locals := 14 } : Room) s m #[(.ref a1), (.ref a2)] below meth c s₁ [] 0 0 := Stand.of_body Bd
  have e0 : s₁.heap = h0 := by rw [← hh, Bd.state]; rfl
  have N0 := Fr.nil n0
  refine own_fw (A' := (s₁.setTop (mkF m 0 #[.val (.ref a1), .val (.ref a2), .unset] []))) (fun t k => castTop (ef_rmSeq01 m a1 a2) k) ?_
  refine own_fw (A' := (s₁.setTop (mkF m 1 #[.val (.ref a1), .val (.ref a2), .unset] [(.ref a1)]))) (fun t k => XS.aloadN X0.here hx rfl (hb hby d_jdk_42_method_66_code_0) rfl rfl k) ?_
  refine own_fw (A' := (s₁.setTop (mkF m 2 #[.val (.ref a1), .val (.ref a2), .unset] [(.ref a2), (.ref a1)]))) (fun t k => XS.aloadN X0.here hx rfl (hb hby d_jdk_42_method_66_code_1) rfl rfl k) ?_
  refine own_fw (A' := (s₁.setTop (mkF m 7 #[.val (.ref a1), .val (.ref a2), .unset] []))) (fun t k => Jvm.RoadKit.acmp (g := (mkF m 2 #[.val (.ref a1), .val (.ref a2), .unset] [(.ref a2), (.ref a1)])) X0 hx rfl rfl rfl (pc0 := 2) (pc' := 7) (same := false) rfl (hb hby d_jdk_42_method_66_code_2) rfl (decide_eq_false (fun q => ne_a1_a2 (Value.ref.inj q))) (by decide) (by decide) k) ?_
  refine own_fw (A' := (s₁.setTop (mkF m 8 #[.val (.ref a1), .val (.ref a2), .unset] [(.ref a2)]))) (fun t k => XS.aloadN X0.here hx rfl (hb hby d_jdk_42_method_66_code_7) rfl rfl k) ?_
  obtain ⟨T1, X1, e1, st1⟩ := instY X0 hx hZ hown (hw _ (List.mem_of_getElem? (i := 63) rfl)) e0 (Ins.self P1) (g := (mkF m 8 #[.val (.ref a1), .val (.ref a2), .unset] [(.ref a2)])) rfl rfl (hb hby d_jdk_42_method_66_code_8)
  refine own_fw (A' := (T1.setTop (mkF m 11 #[.val (.ref a1), .val (.ref a2), .unset] [(.int (1 : Int32))]))) (fun t k => st1 _ k) ?_
  refine own_fw (A' := (T1.setTop (mkF m 14 #[.val (.ref a1), .val (.ref a2), .unset] []))) (fun t k => XS.ifNo X1.here hx rfl (hb hby d_jdk_42_method_66_code_11) rfl (XT.i0_eq_f (by decide)) k) ?_
  refine own_fw (A' := (T1.setTop (mkF m 15 #[.val (.ref a1), .val (.ref a2), .unset] [(.ref a2)]))) (fun t k => XS.aloadN X1.here hx rfl (hb hby d_jdk_42_method_66_code_14) rfl rfl k) ?_
  obtain ⟨T2, X2, e2, st2⟩ := castY X1 hx hZ hown (hw _ (List.mem_of_getElem? (i := 63) rfl)) e1 (Ins.self P1) (g := (mkF m 15 #[.val (.ref a1), .val (.ref a2), .unset] [(.ref a2)])) rfl rfl (hb hby d_jdk_42_method_66_code_15)
  refine own_fw (A' := (T2.setTop (mkF m 18 #[.val (.ref a1), .val (.ref a2), .unset] [(.ref a2)]))) (fun t k => st2 _ k) ?_
  refine own_fw (A' := (T2.setTop (mkF m 19 #[.val (.ref a1), .val (.ref a2), .val (.ref a2)] []))) (fun t k => XS.astoreN X2.here hx rfl (hb hby d_jdk_42_method_66_code_18) rfl rfl (l' := #[.val (.ref a1), .val (.ref a2), .val (.ref a2)]) rfl k) ?_
  obtain ⟨T3, X3, e3, st3⟩ := getS2 X2 hx hZ hown (host := "") (Or.inl (hw _ (List.mem_of_getElem? (i := 64) rfl))) Via.refl e2 P9 (g := (mkF m 19 #[.val (.ref a1), .val (.ref a2), .val (.ref a2)] [])) rfl (hb hby d_jdk_42_method_66_code_19)
  refine own_fw (A' := (T3.setTop (mkF m 22 #[.val (.ref a1), .val (.ref a2), .val (.ref a2)] [(.int cs)]))) (fun t k => st3 _ k) ?_
  refine own_fw (A' := (T3.setTop (mkF m 25 #[.val (.ref a1), .val (.ref a2), .val (.ref a2)] []))) (fun t k => XS.ifNo X3.here hx rfl (hb hby d_jdk_42_method_66_code_22) rfl (XT.i0_eq_f hcs) k) ?_
  refine own_fw (A' := (T3.setTop (mkF m 26 #[.val (.ref a1), .val (.ref a2), .val (.ref a2)] [(.ref a1)]))) (fun t k => XS.aloadN X3.here hx rfl (hb hby d_jdk_42_method_66_code_25) rfl rfl k) ?_
  obtain ⟨T4, X4, e4, st4⟩ := getF X3 hx hZ hown (host := "") (Or.inl (hw _ (List.mem_of_getElem? (i := 32) rfl))) Via.refl e3 P2 (g := (mkF m 26 #[.val (.ref a1), .val (.ref a2), .val (.ref a2)] [(.ref a1)])) rfl rfl (hb hby d_jdk_42_method_66_code_26)
  refine own_fw (A' := (T4.setTop (mkF m 29 #[.val (.ref a1), .val (.ref a2), .val (.ref a2)] [(.int (0 : Int32))]))) (fun t k => st4 _ k) ?_
  refine own_fw (A' := (T4.setTop (mkF m 30 #[.val (.ref a1), .val (.ref a2), .val (.ref a2)] [(.ref a2), (.int (0 : Int32))]))) (fun t k => XS.aloadN X4.here hx rfl (hb hby d_jdk_42_method_66_code_29) rfl rfl k) ?_
  obtain ⟨T5, X5, e5, st5⟩ := getF X4 hx hZ hown (host := "") (Or.inl (hw _ (List.mem_of_getElem? (i := 32) rfl))) Via.refl e4 P3 (g := (mkF m 30 #[.val (.ref a1), .val (.ref a2), .val (.ref a2)] [(.ref a2), (.int (0 : Int32))])) rfl rfl (hb hby d_jdk_42_method_66_code_30)
  refine own_fw (A' := (T5.setTop (mkF m 33 #[.val (.ref a1), .val (.ref a2), .val (.ref a2)] [(.int (0 : Int32)), (.int (0 : Int32))]))) (fun t k => st5 _ k) ?_
  refine own_fw (A' := (T5.setTop (mkF m 36 #[.val (.ref a1), .val (.ref a2), .val (.ref a2)] []))) (fun t k => XS.icmpNo X5.here hx rfl (hb hby d_jdk_42_method_66_code_33) rfl (XT.ii_ne_f rfl) k) ?_
  refine own_fw (A' := (T5.setTop (mkF m 37 #[.val (.ref a1), .val (.ref a2), .val (.ref a2)] [(.ref a1)]))) (fun t k => XS.aloadN X5.here hx rfl (hb hby d_jdk_42_method_66_code_36) rfl rfl k) ?_
  obtain ⟨T6, X6, e6, st6⟩ := getF X5 hx hZ hown (host := "") (Or.inl (hw _ (List.mem_of_getElem? (i := 31) rfl))) Via.refl e5 P4 (g := (mkF m 37 #[.val (.ref a1), .val (.ref a2), .val (.ref a2)] [(.ref a1)])) rfl rfl (hb hby d_jdk_42_method_66_code_37)
  refine own_fw (A' := (T6.setTop (mkF m 40 #[.val (.ref a1), .val (.ref a2), .val (.ref a2)] [(.ref b1)]))) (fun t k => st6 _ k) ?_
  refine own_fw (A' := (T6.setTop (mkF m 41 #[.val (.ref a1), .val (.ref a2), .val (.ref a2)] [(.ref a2), (.ref b1)]))) (fun t k => XS.aloadN X6.here hx rfl (hb hby d_jdk_42_method_66_code_40) rfl rfl k) ?_
  obtain ⟨T7, X7, e7, st7⟩ := getF X6 hx hZ hown (host := "") (Or.inl (hw _ (List.mem_of_getElem? (i := 31) rfl))) Via.refl e6 P5 (g := (mkF m 41 #[.val (.ref a1), .val (.ref a2), .val (.ref a2)] [(.ref a2), (.ref b1)])) rfl rfl (hb hby d_jdk_42_method_66_code_41)
  refine own_fw (A' := (T7.setTop (mkF m 44 #[.val (.ref a1), .val (.ref a2), .val (.ref a2)] [(.ref b2), (.ref b1)]))) (fun t k => st7 _ k) ?_
  obtain ⟨_, _, ⟨T8, L8, k8, n8⟩, -, X8, ⟨Lc8, hQ8, l8, y8, z8⟩, st8⟩ := Jvm.LawKit.callS X7 hx (y := (⟨"java/lang/StringLatin1", "equals", "([B[B)Z"⟩ : MethodName)) hown (mvT hZ (hw _ (List.mem_of_getElem? (i := 65) rfl))) (mvT hZ (hw _ (List.mem_of_getElem? (i := 66) rfl))) (mvT hZ (hw _ (List.mem_of_getElem? (i := 67) rfl))) (mvT hZ (hw _ (List.mem_of_getElem? (i := 68) rfl))) (by decide) (backOf (W := 0) (rmLeq01 l Z a0 hw [] b1 b2 k1 k2 y0 h0 n0 Z0 P6 P7) hZ (hw _ (List.mem_of_getElem? (i := 68) rfl)) (hw _ (List.mem_of_getElem? (i := 67) rfl)) (by decide) (by decide)) (g := (mkF m 44 #[.val (.ref a1), .val (.ref a2), .val (.ref a2)] [(.ref b2), (.ref b1)])) rfl (by rw [hml]; rfl) (argsL := [(.ref b1), (.ref b2)]) (rest := []) (lenOf pd___B_B_Z rfl) rfl (by show 2 * 0 + _ ≤ _; exact Nat.le_of_eq rfl) (hb hby d_jdk_42_method_66_code_44) (fun _ _ => ⟨rfl, e7, (by decide : 0 + 0 ≤ _), (by decide : 0 + 0 ≤ _)⟩)
  dsimp only [Pt.U, Pt.locs, Pt.cells, Pt.slots] at X8 l8 y8 z8 st8 hQ8
  subst l8 y8 z8
  obtain ⟨rfl, Nq8, e8⟩ := hQ8
  have Nf8 := Fr.app N0 Nq8
  refine own_fw (A' := (T8.setTop (mkF m 47 #[.val (.ref a1), .val (.ref a2), .val (.ref a2)] [(.int (0 : Int32))]))) (fun t k => st8 _ k) ?_
  by_cases hc9 : (0 : Int32) = (0 : Int32)
  · refine own_fw (A' := (T8.setTop (mkF m 54 #[.val (.ref a1), .val (.ref a2), .val (.ref a2)] []))) (fun t k => XS.ifYes X8.here hx rfl (pc0 := 47) (pc' := 54) rfl (hb hby d_jdk_42_method_66_code_47) rfl (XT.i0_eq_t hc9) (by decide) (by decide) k) ?_
    refine own_fw (A' := (T8.setTop (mkF m 55 #[.val (.ref a1), .val (.ref a2), .val (.ref a2)] [(.int (0 : Int32))]))) (fun t k => XS.iconst X8.here hx rfl (hb hby d_jdk_42_method_66_code_54) k) ?_
    obtain ⟨fs, hr, hrun, hended, hW, hsame⟩ := X8.leave (v := some (.int (0 : Int32))) (fun h => by rw [Bd.returns] at h; cases h)
    refine ⟨_, _, ?_, hrun, hended, _, _, rfl, ?_, ⟨_, rfl⟩, hW, hsame.mono (by decide) (by decide)⟩
    · exact retOut X8 hx Bd.returns rfl (Or.inl ⟨rfl, by simp, _, rfl⟩) (hb hby d_jdk_42_method_66_code_55) hr
    · show Q_rmSeq01 Z a1 a2 b1 b2 k1 k2 cs y0 h0 n0 _ T8.heap _
      rw [e8]
      exact ⟨rfl, Nf8, rfl⟩
  · refine own_fw (A' := (T8.setTop (mkF m 50 #[.val (.ref a1), .val (.ref a2), .val (.ref a2)] []))) (fun t k => XS.ifNo X8.here hx rfl (hb hby d_jdk_42_method_66_code_47) rfl (XT.i0_eq_f hc9) k) ?_
    refine own_fw (A' := (T8.setTop (mkF m 51 #[.val (.ref a1), .val (.ref a2), .val (.ref a2)] [(.int (1 : Int32))]))) (fun t k => XS.iconst X8.here hx rfl (hb hby d_jdk_42_method_66_code_50) k) ?_
    refine own_fw (A' := (T8.setTop (mkF m 55 #[.val (.ref a1), .val (.ref a2), .val (.ref a2)] [(.int (1 : Int32))]))) (fun t k => XS.goto X8.here hx rfl (pc0 := 51) (pc' := 55) rfl (hb hby d_jdk_42_method_66_code_51) (by decide) (by decide) k) ?_
    obtain ⟨fs, hr, hrun, hended, hW, hsame⟩ := X8.leave (v := some (.int (1 : Int32))) (fun h => by rw [Bd.returns] at h; cases h)
    refine ⟨_, _, ?_, hrun, hended, _, _, rfl, ?_, ⟨_, rfl⟩, hW, hsame.mono (by decide) (by decide)⟩
    · exact retOut X8 hx Bd.returns rfl (Or.inl ⟨rfl, by simp, _, rfl⟩) (hb hby d_jdk_42_method_66_code_55) hr
    · show Q_rmSeq01 Z a1 a2 b1 b2 k1 k2 cs y0 h0 n0 _ T8.heap _
      rw [e8]
      exact ⟨(by first | rfl | (have q := hc9; revert q; (repeat' split) <;> simp)), Nf8, rfl⟩
theorem ef_rmLeq02 (m : MethodId) (a1 : Addr) (a2 : Addr) : entryFrame m #[(.ref a1), (.ref a2)] 3 = mkF m 0 #[.val (.ref a1), .val (.ref a2), .unset] [] := by first | (simp [entryFrame, mkF, argsToLocals, Value.category]; done) | rfl
def Q_rmLeq02 (Z : State) (a1 : Addr) (a2 : Addr) (k1 : ClassId) (k2 : ClassId) (y0 : Int32) (y1 : Int32) (h0 : Heap) (n0 : Nat) (v : Option Value) (h : Heap) (L : List Loc) : Prop := v = some (.int (0 : Int32)) ∧ Fr n0 L ∧ h = h0
set_option maxRecDepth 65536 in
set_option maxHeartbeats 40000000 in
theorem rmLeq02 (l : Launch) (Z : State) (a0 : Array Value) (hw : ∀ d ∈ tables_1, d.before a0 Z = true) (ws : List Jvm.Cond) (a1 : Addr) (a2 : Addr) (k1 : ClassId) (k2 : ClassId) (y0 : Int32) (y1 : Int32) (h0 : Heap) (n0 : Nat) (Z0 : n0 ≤ h0.size) (P0 : Arv Z h0 a1 k1 .byte (0 : Int32) [] (.int (0 : Int32))) (P1 : Arv Z h0 a2 k2 .byte (2 : Int32) [(.int y0), (.int y1)] (.int (0 : Int32))) :
    MetFree l (⟨"java/lang/StringLatin1", "equals", "([B[B)Z"⟩ : MethodName) (head1 (Jvm.Cond.code (⟨"java/lang/StringLatin1", "equals", "([B[B)Z"⟩ : MethodName) jdk_43_method_13_code 3 (some .boolean) :: ws) ({ frames := 0, cells := 0, slots := 0, locals := 0 } : Room)) (fun a U => a = #[(.ref a1), (.ref a2)] ∧ Z.Warmed39 U.vm ∧ U.heap = h0) (fun _ _ _ _ _ => True) (fun _ U o U' => ∃ v L, o = .returned v ∧ Q_rmLeq02 Z a1 a2 k1 k2 y0 y1 h0 n0 v U'.heap L ∧ FrameEnd U o U' L ({ frames := 0, cells := 0, slots := 0, locals := 0 } : Room).cells ({ frames := 0, cells := 0, slots := 0, locals := 0 } : Room).slots) := by
  refine MetFree.of_bodySF (plainFor_of_name pn_java_lang_StringLatin1) hisR ?_
  intro p e s m args below meth c s₁ Bd hml0 hP hK
  obtain ⟨rfl, hZ, hh⟩ := hP
  have hx := Bd.exec
  have hby := Bd.bytes
  have hml : c.maxLocals = 3 := hml0
  have hown : s.vm.findClass "java/lang/StringLatin1" = some m.cls := findClass_of_methodNamed Bd.named
  have hnm := (name_of_methodNamed Bd.named Bd.method).1
  have X0 : Stand p l e ({ frames := 0, cells := 0, slots := 0, locals := 0 } : Room) s m #[(.ref a1), (.ref a2)] below meth c s₁ [] 0 0 := Stand.of_body Bd
  have e0 : s₁.heap = h0 := by rw [← hh, Bd.state]; rfl
  have N0 := Fr.nil n0
  refine own_fw (A' := (s₁.setTop (mkF m 0 #[.val (.ref a1), .val (.ref a2), .unset] []))) (fun t k => castTop (ef_rmLeq02 m a1 a2) k) ?_
  refine own_fw (A' := (s₁.setTop (mkF m 1 #[.val (.ref a1), .val (.ref a2), .unset] [(.ref a1)]))) (fun t k => XS.aloadN X0.here hx rfl (hb hby d_jdk_43_method_13_code_0) rfl rfl k) ?_
  obtain ⟨cl1, Ar1, q1, S1, M1, H1, G1⟩ := id P0
  refine own_fw (A' := (s₁.setTop (mkF m 2 #[.val (.ref a1), .val (.ref a2), .unset] [(.int (0 : Int32))]))) (fun t k => X0.arraylength hx (by rw [e0]; exact Ar1.1) (State.isArrayOf_alike hZ.alike Ar1.2.1) (g := (mkF m 1 #[.val (.ref a1), .val (.ref a2), .unset] [(.ref a1)])) rfl rfl (hb hby d_jdk_43_method_13_code_1) _ (by rw [len_of S1 M1]; exact k)) ?_
  refine own_fw (A' := (s₁.setTop (mkF m 3 #[.val (.ref a1), .val (.ref a2), .unset] [(.ref a2), (.int (0 : Int32))]))) (fun t k => XS.aloadN X0.here hx rfl (hb hby d_jdk_43_method_13_code_2) rfl rfl k) ?_
  obtain ⟨cl2, Ar2, q2, S2, M2, H2, G2⟩ := id P1
  refine own_fw (A' := (s₁.setTop (mkF m 4 #[.val (.ref a1), .val (.ref a2), .unset] [(.int (2 : Int32)), (.int (0 : Int32))]))) (fun t k => X0.arraylength hx (by rw [e0]; exact Ar2.1) (State.isArrayOf_alike hZ.alike Ar2.2.1) (g := (mkF m 3 #[.val (.ref a1), .val (.ref a2), .unset] [(.ref a2), (.int (0 : Int32))])) rfl rfl (hb hby d_jdk_43_method_13_code_3) _ (by rw [len_of S2 M2]; exact k)) ?_
  refine own_fw (A' := (s₁.setTop (mkF m 34 #[.val (.ref a1), .val (.ref a2), .unset] []))) (fun t k => XS.icmpYes X0.here hx rfl (pc0 := 4) (pc' := 34) rfl (hb hby d_jdk_43_method_13_code_4) rfl (XT.ii_ne_t (by decide)) (by decide) (by decide) k) ?_
  refine own_fw (A' := (s₁.setTop (mkF m 35 #[.val (.ref a1), .val (.ref a2), .unset] [(.int (0 : Int32))]))) (fun t k => XS.iconst X0.here hx rfl (hb hby d_jdk_43_method_13_code_34) k) ?_
  obtain ⟨fs, hr, hrun, hended, hW, hsame⟩ := X0.leave (v := some (.int (0 : Int32))) (fun h => by rw [Bd.returns] at h; cases h)
  refine ⟨_, _, ?_, hrun, hended, _, _, rfl, ?_, ⟨_, rfl⟩, hW, hsame.mono (by decide) (by decide)⟩
  · exact retOut X0 hx Bd.returns rfl (Or.inl ⟨rfl, by simp, _, rfl⟩) (hb hby d_jdk_43_method_13_code_35) hr
  · show Q_rmLeq02 Z a1 a2 k1 k2 y0 y1 h0 n0 _ s₁.heap _
    rw [e0]
    exact ⟨rfl, N0, rfl⟩
theorem ef_rmSeq02 (m : MethodId) (a1 : Addr) (a2 : Addr) : entryFrame m #[(.ref a1), (.ref a2)] 3 = mkF m 0 #[.val (.ref a1), .val (.ref a2), .unset] [] := by first | (simp [entryFrame, mkF, argsToLocals, Value.category]; done) | rfl
def Q_rmSeq02 (Z : State) (a1 : Addr) (a2 : Addr) (b1 : Addr) (b2 : Addr) (k1 : ClassId) (k2 : ClassId) (cs : Int32) (y0 : Int32) (y1 : Int32) (h0 : Heap) (n0 : Nat) (v : Option Value) (h : Heap) (L : List Loc) : Prop := v = some (.int (0 : Int32)) ∧ Fr n0 L ∧ h = h0
set_option maxRecDepth 65536 in
set_option maxHeartbeats 40000000 in
theorem rmSeq02 (l : Launch) (Z : State) (a0 : Array Value) (hw : ∀ d ∈ tables_1, d.before a0 Z = true) (ws : List Jvm.Cond) (a1 : Addr) (a2 : Addr) (b1 : Addr) (b2 : Addr) (k1 : ClassId) (k2 : ClassId) (cs : Int32) (y0 : Int32) (y1 : Int32) (h0 : Heap) (n0 : Nat) (Z0 : n0 ≤ h0.size) (P0 : Exa Z h0 a1 "java/lang/String") (P1 : Exa Z h0 a2 "java/lang/String") (P2 : Fld Z h0 a1 "java/lang/String" "coder" "B" (.int (0 : Int32))) (P3 : Fld Z h0 a2 "java/lang/String" "coder" "B" (.int (0 : Int32))) (P4 : Fld Z h0 a1 "java/lang/String" "value" "[B" (.ref b1)) (P5 : Fld Z h0 a2 "java/lang/String" "value" "[B" (.ref b2)) (P6 : Arv Z h0 b1 k1 .byte (0 : Int32) [] (.int (0 : Int32))) (P7 : Arv Z h0 b2 k2 .byte (2 : Int32) [(.int y0), (.int y1)] (.int (0 : Int32))) (ne_a1_a2 : a1 ≠ a2) (P9 : Sta Z h0 "java/lang/String" "COMPACT_STRINGS" "Z" (.int cs)) (hcs : ¬ (cs = (0 : Int32))) :
    MetFree l (⟨"java/lang/String", "equals", "(Ljava/lang/Object;)Z"⟩ : MethodName) (head1 (Jvm.Cond.code (⟨"java/lang/String", "equals", "(Ljava/lang/Object;)Z"⟩ : MethodName) jdk_42_method_66_code 3 (some .boolean) :: ws) ({ frames := 1, cells := 0, slots := 0, locals := 14 } : Room)) (fun a U => a = #[(.ref a1), (.ref a2)] ∧ Z.Warmed39 U.vm ∧ U.heap = h0) (fun _ _ _ _ _ => True) (fun _ U o U' => ∃ v L, o = .returned v ∧ Q_rmSeq02 Z a1 a2 b1 b2 k1 k2 cs y0 y1 h0 n0 v U'.heap L ∧ FrameEnd U o U' L ({ frames := 1, cells := 0, slots := 0, locals := 14 } : Room).cells ({ frames := 1, cells := 0, slots := 0, locals := 14 } : Room).slots) := by
  refine MetFree.of_bodySF (plainFor_of_name pn_java_lang_String) hisR ?_
  intro p e s m args below meth c s₁ Bd hml0 hP hK
  obtain ⟨rfl, hZ, hh⟩ := hP
  have hx := Bd.exec
  have hby := Bd.bytes
  have hml : c.maxLocals = 3 := hml0
  have hown : s.vm.findClass "java/lang/String" = some m.cls := findClass_of_methodNamed Bd.named
  have hnm := (name_of_methodNamed Bd.named Bd.method).1
  have X0 : Stand p l e ({ frames := 1, cells := 0, slots := 0, locals := 14 } : Room) s m #[(.ref a1), (.ref a2)] below meth c s₁ [] 0 0 := Stand.of_body Bd
  have e0 : s₁.heap = h0 := by rw [← hh, Bd.state]; rfl
  have N0 := Fr.nil n0
  refine own_fw (A' := (s₁.setTop (mkF m 0 #[.val (.ref a1), .val (.ref a2), .unset] []))) (fun t k => castTop (ef_rmSeq02 m a1 a2) k) ?_
  refine own_fw (A' := (s₁.setTop (mkF m 1 #[.val (.ref a1), .val (.ref a2), .unset] [(.ref a1)]))) (fun t k => XS.aloadN X0.here hx rfl (hb hby d_jdk_42_method_66_code_0) rfl rfl k) ?_
  refine own_fw (A' := (s₁.setTop (mkF m 2 #[.val (.ref a1), .val (.ref a2), .unset] [(.ref a2), (.ref a1)]))) (fun t k => XS.aloadN X0.here hx rfl (hb hby d_jdk_42_method_66_code_1) rfl rfl k) ?_
  refine own_fw (A' := (s₁.setTop (mkF m 7 #[.val (.ref a1), .val (.ref a2), .unset] []))) (fun t k => Jvm.RoadKit.acmp (g := (mkF m 2 #[.val (.ref a1), .val (.ref a2), .unset] [(.ref a2), (.ref a1)])) X0 hx rfl rfl rfl (pc0 := 2) (pc' := 7) (same := false) rfl (hb hby d_jdk_42_method_66_code_2) rfl (decide_eq_false (fun q => ne_a1_a2 (Value.ref.inj q))) (by decide) (by decide) k) ?_
  refine own_fw (A' := (s₁.setTop (mkF m 8 #[.val (.ref a1), .val (.ref a2), .unset] [(.ref a2)]))) (fun t k => XS.aloadN X0.here hx rfl (hb hby d_jdk_42_method_66_code_7) rfl rfl k) ?_
  obtain ⟨T1, X1, e1, st1⟩ := instY X0 hx hZ hown (hw _ (List.mem_of_getElem? (i := 63) rfl)) e0 (Ins.self P1) (g := (mkF m 8 #[.val (.ref a1), .val (.ref a2), .unset] [(.ref a2)])) rfl rfl (hb hby d_jdk_42_method_66_code_8)
  refine own_fw (A' := (T1.setTop (mkF m 11 #[.val (.ref a1), .val (.ref a2), .unset] [(.int (1 : Int32))]))) (fun t k => st1 _ k) ?_
  refine own_fw (A' := (T1.setTop (mkF m 14 #[.val (.ref a1), .val (.ref a2), .unset] []))) (fun t k => XS.ifNo X1.here hx rfl (hb hby d_jdk_42_method_66_code_11) rfl (XT.i0_eq_f (by decide)) k) ?_
  refine own_fw (A' := (T1.setTop (mkF m 15 #[.val (.ref a1), .val (.ref a2), .unset] [(.ref a2)]))) (fun t k => XS.aloadN X1.here hx rfl (hb hby d_jdk_42_method_66_code_14) rfl rfl k) ?_
  obtain ⟨T2, X2, e2, st2⟩ := castY X1 hx hZ hown (hw _ (List.mem_of_getElem? (i := 63) rfl)) e1 (Ins.self P1) (g := (mkF m 15 #[.val (.ref a1), .val (.ref a2), .unset] [(.ref a2)])) rfl rfl (hb hby d_jdk_42_method_66_code_15)
  refine own_fw (A' := (T2.setTop (mkF m 18 #[.val (.ref a1), .val (.ref a2), .unset] [(.ref a2)]))) (fun t k => st2 _ k) ?_
  refine own_fw (A' := (T2.setTop (mkF m 19 #[.val (.ref a1), .val (.ref a2), .val (.ref a2)] []))) (fun t k => XS.astoreN X2.here hx rfl (hb hby d_jdk_42_method_66_code_18) rfl rfl (l' := #[.val (.ref a1), .val (.ref a2), .val (.ref a2)]) rfl k) ?_
  obtain ⟨T3, X3, e3, st3⟩ := getS2 X2 hx hZ hown (host := "") (Or.inl (hw _ (List.mem_of_getElem? (i := 64) rfl))) Via.refl e2 P9 (g := (mkF m 19 #[.val (.ref a1), .val (.ref a2), .val (.ref a2)] [])) rfl (hb hby d_jdk_42_method_66_code_19)
  refine own_fw (A' := (T3.setTop (mkF m 22 #[.val (.ref a1), .val (.ref a2), .val (.ref a2)] [(.int cs)]))) (fun t k => st3 _ k) ?_
  refine own_fw (A' := (T3.setTop (mkF m 25 #[.val (.ref a1), .val (.ref a2), .val (.ref a2)] []))) (fun t k => XS.ifNo X3.here hx rfl (hb hby d_jdk_42_method_66_code_22) rfl (XT.i0_eq_f hcs) k) ?_
  refine own_fw (A' := (T3.setTop (mkF m 26 #[.val (.ref a1), .val (.ref a2), .val (.ref a2)] [(.ref a1)]))) (fun t k => XS.aloadN X3.here hx rfl (hb hby d_jdk_42_method_66_code_25) rfl rfl k) ?_
  obtain ⟨T4, X4, e4, st4⟩ := getF X3 hx hZ hown (host := "") (Or.inl (hw _ (List.mem_of_getElem? (i := 32) rfl))) Via.refl e3 P2 (g := (mkF m 26 #[.val (.ref a1), .val (.ref a2), .val (.ref a2)] [(.ref a1)])) rfl rfl (hb hby d_jdk_42_method_66_code_26)
  refine own_fw (A' := (T4.setTop (mkF m 29 #[.val (.ref a1), .val (.ref a2), .val (.ref a2)] [(.int (0 : Int32))]))) (fun t k => st4 _ k) ?_
  refine own_fw (A' := (T4.setTop (mkF m 30 #[.val (.ref a1), .val (.ref a2), .val (.ref a2)] [(.ref a2), (.int (0 : Int32))]))) (fun t k => XS.aloadN X4.here hx rfl (hb hby d_jdk_42_method_66_code_29) rfl rfl k) ?_
  obtain ⟨T5, X5, e5, st5⟩ := getF X4 hx hZ hown (host := "") (Or.inl (hw _ (List.mem_of_getElem? (i := 32) rfl))) Via.refl e4 P3 (g := (mkF m 30 #[.val (.ref a1), .val (.ref a2), .val (.ref a2)] [(.ref a2), (.int (0 : Int32))])) rfl rfl (hb hby d_jdk_42_method_66_code_30)
  refine own_fw (A' := (T5.setTop (mkF m 33 #[.val (.ref a1), .val (.ref a2), .val (.ref a2)] [(.int (0 : Int32)), (.int (0 : Int32))]))) (fun t k => st5 _ k) ?_
  refine own_fw (A' := (T5.setTop (mkF m 36 #[.val (.ref a1), .val (.ref a2), .val (.ref a2)] []))) (fun t k => XS.icmpNo X5.here hx rfl (hb hby d_jdk_42_method_66_code_33) rfl (XT.ii_ne_f rfl) k) ?_
  refine own_fw (A' := (T5.setTop (mkF m 37 #[.val (.ref a1), .val (.ref a2), .val (.ref a2)] [(.ref a1)]))) (fun t k => XS.aloadN X5.here hx rfl (hb hby d_jdk_42_method_66_code_36) rfl rfl k) ?_
  obtain ⟨T6, X6, e6, st6⟩ := getF X5 hx hZ hown (host := "") (Or.inl (hw _ (List.mem_of_getElem? (i := 31) rfl))) Via.refl e5 P4 (g := (mkF m 37 #[.val (.ref a1), .val (.ref a2), .val (.ref a2)] [(.ref a1)])) rfl rfl (hb hby d_jdk_42_method_66_code_37)
  refine own_fw (A' := (T6.setTop (mkF m 40 #[.val (.ref a1), .val (.ref a2), .val (.ref a2)] [(.ref b1)]))) (fun t k => st6 _ k) ?_
  refine own_fw (A' := (T6.setTop (mkF m 41 #[.val (.ref a1), .val (.ref a2), .val (.ref a2)] [(.ref a2), (.ref b1)]))) (fun t k => XS.aloadN X6.here hx rfl (hb hby d_jdk_42_method_66_code_40) rfl rfl k) ?_
  obtain ⟨T7, X7, e7, st7⟩ := getF X6 hx hZ hown (host := "") (Or.inl (hw _ (List.mem_of_getElem? (i := 31) rfl))) Via.refl e6 P5 (g := (mkF m 41 #[.val (.ref a1), .val (.ref a2), .val (.ref a2)] [(.ref a2), (.ref b1)])) rfl rfl (hb hby d_jdk_42_method_66_code_41)
  refine own_fw (A' := (T7.setTop (mkF m 44 #[.val (.ref a1), .val (.ref a2), .val (.ref a2)] [(.ref b2), (.ref b1)]))) (fun t k => st7 _ k) ?_
  obtain ⟨_, _, ⟨T8, L8, k8, n8⟩, -, X8, ⟨Lc8, hQ8, l8, y8, z8⟩, st8⟩ := Jvm.LawKit.callS X7 hx (y := (⟨"java/lang/StringLatin1", "equals", "([B[B)Z"⟩ : MethodName)) hown (mvT hZ (hw _ (List.mem_of_getElem? (i := 65) rfl))) (mvT hZ (hw _ (List.mem_of_getElem? (i := 66) rfl))) (mvT hZ (hw _ (List.mem_of_getElem? (i := 67) rfl))) (mvT hZ (hw _ (List.mem_of_getElem? (i := 68) rfl))) (by decide) (backOf (W := 0) (rmLeq02 l Z a0 hw [] b1 b2 k1 k2 y0 y1 h0 n0 Z0 P6 P7) hZ (hw _ (List.mem_of_getElem? (i := 68) rfl)) (hw _ (List.mem_of_getElem? (i := 67) rfl)) (by decide) (by decide)) (g := (mkF m 44 #[.val (.ref a1), .val (.ref a2), .val (.ref a2)] [(.ref b2), (.ref b1)])) rfl (by rw [hml]; rfl) (argsL := [(.ref b1), (.ref b2)]) (rest := []) (lenOf pd___B_B_Z rfl) rfl (by show 2 * 0 + _ ≤ _; exact Nat.le_of_eq rfl) (hb hby d_jdk_42_method_66_code_44) (fun _ _ => ⟨rfl, e7, (by decide : 0 + 0 ≤ _), (by decide : 0 + 0 ≤ _)⟩)
  dsimp only [Pt.U, Pt.locs, Pt.cells, Pt.slots] at X8 l8 y8 z8 st8 hQ8
  subst l8 y8 z8
  obtain ⟨rfl, Nq8, e8⟩ := hQ8
  have Nf8 := Fr.app N0 Nq8
  refine own_fw (A' := (T8.setTop (mkF m 47 #[.val (.ref a1), .val (.ref a2), .val (.ref a2)] [(.int (0 : Int32))]))) (fun t k => st8 _ k) ?_
  by_cases hc9 : (0 : Int32) = (0 : Int32)
  · refine own_fw (A' := (T8.setTop (mkF m 54 #[.val (.ref a1), .val (.ref a2), .val (.ref a2)] []))) (fun t k => XS.ifYes X8.here hx rfl (pc0 := 47) (pc' := 54) rfl (hb hby d_jdk_42_method_66_code_47) rfl (XT.i0_eq_t hc9) (by decide) (by decide) k) ?_
    refine own_fw (A' := (T8.setTop (mkF m 55 #[.val (.ref a1), .val (.ref a2), .val (.ref a2)] [(.int (0 : Int32))]))) (fun t k => XS.iconst X8.here hx rfl (hb hby d_jdk_42_method_66_code_54) k) ?_
    obtain ⟨fs, hr, hrun, hended, hW, hsame⟩ := X8.leave (v := some (.int (0 : Int32))) (fun h => by rw [Bd.returns] at h; cases h)
    refine ⟨_, _, ?_, hrun, hended, _, _, rfl, ?_, ⟨_, rfl⟩, hW, hsame.mono (by decide) (by decide)⟩
    · exact retOut X8 hx Bd.returns rfl (Or.inl ⟨rfl, by simp, _, rfl⟩) (hb hby d_jdk_42_method_66_code_55) hr
    · show Q_rmSeq02 Z a1 a2 b1 b2 k1 k2 cs y0 y1 h0 n0 _ T8.heap _
      rw [e8]
      exact ⟨rfl, Nf8, rfl⟩
  · refine own_fw (A' := (T8.setTop (mkF m 50 #[.val (.ref a1), .val (.ref a2), .val (.ref a2)] []))) (fun t k => XS.ifNo X8.here hx rfl (hb hby d_jdk_42_method_66_code_47) rfl (XT.i0_eq_f hc9) k) ?_
    refine own_fw (A' := (T8.setTop (mkF m 51 #[.val (.ref a1), .val (.ref a2), .val (.ref a2)] [(.int (1 : Int32))]))) (fun t k => XS.iconst X8.here hx rfl (hb hby d_jdk_42_method_66_code_50) k) ?_
    refine own_fw (A' := (T8.setTop (mkF m 55 #[.val (.ref a1), .val (.ref a2), .val (.ref a2)] [(.int (1 : Int32))]))) (fun t k => XS.goto X8.here hx rfl (pc0 := 51) (pc' := 55) rfl (hb hby d_jdk_42_method_66_code_51) (by decide) (by decide) k) ?_
    obtain ⟨fs, hr, hrun, hended, hW, hsame⟩ := X8.leave (v := some (.int (1 : Int32))) (fun h => by rw [Bd.returns] at h; cases h)
    refine ⟨_, _, ?_, hrun, hended, _, _, rfl, ?_, ⟨_, rfl⟩, hW, hsame.mono (by decide) (by decide)⟩
    · exact retOut X8 hx Bd.returns rfl (Or.inl ⟨rfl, by simp, _, rfl⟩) (hb hby d_jdk_42_method_66_code_55) hr
    · show Q_rmSeq02 Z a1 a2 b1 b2 k1 k2 cs y0 y1 h0 n0 _ T8.heap _
      rw [e8]
      exact ⟨(by first | rfl | (have q := hc9; revert q; (repeat' split) <;> simp)), Nf8, rfl⟩
theorem ef_rmLeq10 (m : MethodId) (a1 : Addr) (a2 : Addr) : entryFrame m #[(.ref a1), (.ref a2)] 3 = mkF m 0 #[.val (.ref a1), .val (.ref a2), .unset] [] := by first | (simp [entryFrame, mkF, argsToLocals, Value.category]; done) | rfl
def Q_rmLeq10 (Z : State) (a1 : Addr) (a2 : Addr) (k1 : ClassId) (k2 : ClassId) (x0 : Int32) (h0 : Heap) (n0 : Nat) (v : Option Value) (h : Heap) (L : List Loc) : Prop := v = some (.int (0 : Int32)) ∧ Fr n0 L ∧ h = h0
set_option maxRecDepth 65536 in
set_option maxHeartbeats 40000000 in
theorem rmLeq10 (l : Launch) (Z : State) (a0 : Array Value) (hw : ∀ d ∈ tables_1, d.before a0 Z = true) (ws : List Jvm.Cond) (a1 : Addr) (a2 : Addr) (k1 : ClassId) (k2 : ClassId) (x0 : Int32) (h0 : Heap) (n0 : Nat) (Z0 : n0 ≤ h0.size) (P0 : Arv Z h0 a1 k1 .byte (1 : Int32) [(.int x0)] (.int (0 : Int32))) (P1 : Arv Z h0 a2 k2 .byte (0 : Int32) [] (.int (0 : Int32))) :
    MetFree l (⟨"java/lang/StringLatin1", "equals", "([B[B)Z"⟩ : MethodName) (head1 (Jvm.Cond.code (⟨"java/lang/StringLatin1", "equals", "([B[B)Z"⟩ : MethodName) jdk_43_method_13_code 3 (some .boolean) :: ws) ({ frames := 0, cells := 0, slots := 0, locals := 0 } : Room)) (fun a U => a = #[(.ref a1), (.ref a2)] ∧ Z.Warmed39 U.vm ∧ U.heap = h0) (fun _ _ _ _ _ => True) (fun _ U o U' => ∃ v L, o = .returned v ∧ Q_rmLeq10 Z a1 a2 k1 k2 x0 h0 n0 v U'.heap L ∧ FrameEnd U o U' L ({ frames := 0, cells := 0, slots := 0, locals := 0 } : Room).cells ({ frames := 0, cells := 0, slots := 0, locals := 0 } : Room).slots) := by
  refine MetFree.of_bodySF (plainFor_of_name pn_java_lang_StringLatin1) hisR ?_
  intro p e s m args below meth c s₁ Bd hml0 hP hK
  obtain ⟨rfl, hZ, hh⟩ := hP
  have hx := Bd.exec
  have hby := Bd.bytes
  have hml : c.maxLocals = 3 := hml0
  have hown : s.vm.findClass "java/lang/StringLatin1" = some m.cls := findClass_of_methodNamed Bd.named
  have hnm := (name_of_methodNamed Bd.named Bd.method).1
  have X0 : Stand p l e ({ frames := 0, cells := 0, slots := 0, locals := 0 } : Room) s m #[(.ref a1), (.ref a2)] below meth c s₁ [] 0 0 := Stand.of_body Bd
  have e0 : s₁.heap = h0 := by rw [← hh, Bd.state]; rfl
  have N0 := Fr.nil n0
  refine own_fw (A' := (s₁.setTop (mkF m 0 #[.val (.ref a1), .val (.ref a2), .unset] []))) (fun t k => castTop (ef_rmLeq10 m a1 a2) k) ?_
  refine own_fw (A' := (s₁.setTop (mkF m 1 #[.val (.ref a1), .val (.ref a2), .unset] [(.ref a1)]))) (fun t k => XS.aloadN X0.here hx rfl (hb hby d_jdk_43_method_13_code_0) rfl rfl k) ?_
  obtain ⟨cl1, Ar1, q1, S1, M1, H1, G1⟩ := id P0
  refine own_fw (A' := (s₁.setTop (mkF m 2 #[.val (.ref a1), .val (.ref a2), .unset] [(.int (1 : Int32))]))) (fun t k => X0.arraylength hx (by rw [e0]; exact Ar1.1) (State.isArrayOf_alike hZ.alike Ar1.2.1) (g := (mkF m 1 #[.val (.ref a1), .val (.ref a2), .unset] [(.ref a1)])) rfl rfl (hb hby d_jdk_43_method_13_code_1) _ (by rw [len_of S1 M1]; exact k)) ?_
  refine own_fw (A' := (s₁.setTop (mkF m 3 #[.val (.ref a1), .val (.ref a2), .unset] [(.ref a2), (.int (1 : Int32))]))) (fun t k => XS.aloadN X0.here hx rfl (hb hby d_jdk_43_method_13_code_2) rfl rfl k) ?_
  obtain ⟨cl2, Ar2, q2, S2, M2, H2, G2⟩ := id P1
  refine own_fw (A' := (s₁.setTop (mkF m 4 #[.val (.ref a1), .val (.ref a2), .unset] [(.int (0 : Int32)), (.int (1 : Int32))]))) (fun t k => X0.arraylength hx (by rw [e0]; exact Ar2.1) (State.isArrayOf_alike hZ.alike Ar2.2.1) (g := (mkF m 3 #[.val (.ref a1), .val (.ref a2), .unset] [(.ref a2), (.int (1 : Int32))])) rfl rfl (hb hby d_jdk_43_method_13_code_3) _ (by rw [len_of S2 M2]; exact k)) ?_
  refine own_fw (A' := (s₁.setTop (mkF m 34 #[.val (.ref a1), .val (.ref a2), .unset] []))) (fun t k => XS.icmpYes X0.here hx rfl (pc0 := 4) (pc' := 34) rfl (hb hby d_jdk_43_method_13_code_4) rfl (XT.ii_ne_t (by decide)) (by decide) (by decide) k) ?_
  refine own_fw (A' := (s₁.setTop (mkF m 35 #[.val (.ref a1), .val (.ref a2), .unset] [(.int (0 : Int32))]))) (fun t k => XS.iconst X0.here hx rfl (hb hby d_jdk_43_method_13_code_34) k) ?_
  obtain ⟨fs, hr, hrun, hended, hW, hsame⟩ := X0.leave (v := some (.int (0 : Int32))) (fun h => by rw [Bd.returns] at h; cases h)
  refine ⟨_, _, ?_, hrun, hended, _, _, rfl, ?_, ⟨_, rfl⟩, hW, hsame.mono (by decide) (by decide)⟩
  · exact retOut X0 hx Bd.returns rfl (Or.inl ⟨rfl, by simp, _, rfl⟩) (hb hby d_jdk_43_method_13_code_35) hr
  · show Q_rmLeq10 Z a1 a2 k1 k2 x0 h0 n0 _ s₁.heap _
    rw [e0]
    exact ⟨rfl, N0, rfl⟩
theorem ef_rmSeq10 (m : MethodId) (a1 : Addr) (a2 : Addr) : entryFrame m #[(.ref a1), (.ref a2)] 3 = mkF m 0 #[.val (.ref a1), .val (.ref a2), .unset] [] := by first | (simp [entryFrame, mkF, argsToLocals, Value.category]; done) | rfl
def Q_rmSeq10 (Z : State) (a1 : Addr) (a2 : Addr) (b1 : Addr) (b2 : Addr) (k1 : ClassId) (k2 : ClassId) (cs : Int32) (x0 : Int32) (h0 : Heap) (n0 : Nat) (v : Option Value) (h : Heap) (L : List Loc) : Prop := v = some (.int (0 : Int32)) ∧ Fr n0 L ∧ h = h0
set_option maxRecDepth 65536 in
set_option maxHeartbeats 40000000 in
theorem rmSeq10 (l : Launch) (Z : State) (a0 : Array Value) (hw : ∀ d ∈ tables_1, d.before a0 Z = true) (ws : List Jvm.Cond) (a1 : Addr) (a2 : Addr) (b1 : Addr) (b2 : Addr) (k1 : ClassId) (k2 : ClassId) (cs : Int32) (x0 : Int32) (h0 : Heap) (n0 : Nat) (Z0 : n0 ≤ h0.size) (P0 : Exa Z h0 a1 "java/lang/String") (P1 : Exa Z h0 a2 "java/lang/String") (P2 : Fld Z h0 a1 "java/lang/String" "coder" "B" (.int (0 : Int32))) (P3 : Fld Z h0 a2 "java/lang/String" "coder" "B" (.int (0 : Int32))) (P4 : Fld Z h0 a1 "java/lang/String" "value" "[B" (.ref b1)) (P5 : Fld Z h0 a2 "java/lang/String" "value" "[B" (.ref b2)) (P6 : Arv Z h0 b1 k1 .byte (1 : Int32) [(.int x0)] (.int (0 : Int32))) (P7 : Arv Z h0 b2 k2 .byte (0 : Int32) [] (.int (0 : Int32))) (ne_a1_a2 : a1 ≠ a2) (P9 : Sta Z h0 "java/lang/String" "COMPACT_STRINGS" "Z" (.int cs)) (hcs : ¬ (cs = (0 : Int32))) :
    MetFree l (⟨"java/lang/String", "equals", "(Ljava/lang/Object;)Z"⟩ : MethodName) (head1 (Jvm.Cond.code (⟨"java/lang/String", "equals", "(Ljava/lang/Object;)Z"⟩ : MethodName) jdk_42_method_66_code 3 (some .boolean) :: ws) ({ frames := 1, cells := 0, slots := 0, locals := 14 } : Room)) (fun a U => a = #[(.ref a1), (.ref a2)] ∧ Z.Warmed39 U.vm ∧ U.heap = h0) (fun _ _ _ _ _ => True) (fun _ U o U' => ∃ v L, o = .returned v ∧ Q_rmSeq10 Z a1 a2 b1 b2 k1 k2 cs x0 h0 n0 v U'.heap L ∧ FrameEnd U o U' L ({ frames := 1, cells := 0, slots := 0, locals := 14 } : Room).cells ({ frames := 1, cells := 0, slots := 0, locals := 14 } : Room).slots) := by
  refine MetFree.of_bodySF (plainFor_of_name pn_java_lang_String) hisR ?_
  intro p e s m args below meth c s₁ Bd hml0 hP hK
  obtain ⟨rfl, hZ, hh⟩ := hP
  have hx := Bd.exec
  have hby := Bd.bytes
  have hml : c.maxLocals = 3 := hml0
  have hown : s.vm.findClass "java/lang/String" = some m.cls := findClass_of_methodNamed Bd.named
  have hnm := (name_of_methodNamed Bd.named Bd.method).1
  have X0 : Stand p l e ({ frames := 1, cells := 0, slots := 0, locals := 14 } : Room) s m #[(.ref a1), (.ref a2)] below meth c s₁ [] 0 0 := Stand.of_body Bd
  have e0 : s₁.heap = h0 := by rw [← hh, Bd.state]; rfl
  have N0 := Fr.nil n0
  refine own_fw (A' := (s₁.setTop (mkF m 0 #[.val (.ref a1), .val (.ref a2), .unset] []))) (fun t k => castTop (ef_rmSeq10 m a1 a2) k) ?_
  refine own_fw (A' := (s₁.setTop (mkF m 1 #[.val (.ref a1), .val (.ref a2), .unset] [(.ref a1)]))) (fun t k => XS.aloadN X0.here hx rfl (hb hby d_jdk_42_method_66_code_0) rfl rfl k) ?_
  refine own_fw (A' := (s₁.setTop (mkF m 2 #[.val (.ref a1), .val (.ref a2), .unset] [(.ref a2), (.ref a1)]))) (fun t k => XS.aloadN X0.here hx rfl (hb hby d_jdk_42_method_66_code_1) rfl rfl k) ?_
  refine own_fw (A' := (s₁.setTop (mkF m 7 #[.val (.ref a1), .val (.ref a2), .unset] []))) (fun t k => Jvm.RoadKit.acmp (g := (mkF m 2 #[.val (.ref a1), .val (.ref a2), .unset] [(.ref a2), (.ref a1)])) X0 hx rfl rfl rfl (pc0 := 2) (pc' := 7) (same := false) rfl (hb hby d_jdk_42_method_66_code_2) rfl (decide_eq_false (fun q => ne_a1_a2 (Value.ref.inj q))) (by decide) (by decide) k) ?_
  refine own_fw (A' := (s₁.setTop (mkF m 8 #[.val (.ref a1), .val (.ref a2), .unset] [(.ref a2)]))) (fun t k => XS.aloadN X0.here hx rfl (hb hby d_jdk_42_method_66_code_7) rfl rfl k) ?_
  obtain ⟨T1, X1, e1, st1⟩ := instY X0 hx hZ hown (hw _ (List.mem_of_getElem? (i := 63) rfl)) e0 (Ins.self P1) (g := (mkF m 8 #[.val (.ref a1), .val (.ref a2), .unset] [(.ref a2)])) rfl rfl (hb hby d_jdk_42_method_66_code_8)
  refine own_fw (A' := (T1.setTop (mkF m 11 #[.val (.ref a1), .val (.ref a2), .unset] [(.int (1 : Int32))]))) (fun t k => st1 _ k) ?_
  refine own_fw (A' := (T1.setTop (mkF m 14 #[.val (.ref a1), .val (.ref a2), .unset] []))) (fun t k => XS.ifNo X1.here hx rfl (hb hby d_jdk_42_method_66_code_11) rfl (XT.i0_eq_f (by decide)) k) ?_
  refine own_fw (A' := (T1.setTop (mkF m 15 #[.val (.ref a1), .val (.ref a2), .unset] [(.ref a2)]))) (fun t k => XS.aloadN X1.here hx rfl (hb hby d_jdk_42_method_66_code_14) rfl rfl k) ?_
  obtain ⟨T2, X2, e2, st2⟩ := castY X1 hx hZ hown (hw _ (List.mem_of_getElem? (i := 63) rfl)) e1 (Ins.self P1) (g := (mkF m 15 #[.val (.ref a1), .val (.ref a2), .unset] [(.ref a2)])) rfl rfl (hb hby d_jdk_42_method_66_code_15)
  refine own_fw (A' := (T2.setTop (mkF m 18 #[.val (.ref a1), .val (.ref a2), .unset] [(.ref a2)]))) (fun t k => st2 _ k) ?_
  refine own_fw (A' := (T2.setTop (mkF m 19 #[.val (.ref a1), .val (.ref a2), .val (.ref a2)] []))) (fun t k => XS.astoreN X2.here hx rfl (hb hby d_jdk_42_method_66_code_18) rfl rfl (l' := #[.val (.ref a1), .val (.ref a2), .val (.ref a2)]) rfl k) ?_
  obtain ⟨T3, X3, e3, st3⟩ := getS2 X2 hx hZ hown (host := "") (Or.inl (hw _ (List.mem_of_getElem? (i := 64) rfl))) Via.refl e2 P9 (g := (mkF m 19 #[.val (.ref a1), .val (.ref a2), .val (.ref a2)] [])) rfl (hb hby d_jdk_42_method_66_code_19)
  refine own_fw (A' := (T3.setTop (mkF m 22 #[.val (.ref a1), .val (.ref a2), .val (.ref a2)] [(.int cs)]))) (fun t k => st3 _ k) ?_
  refine own_fw (A' := (T3.setTop (mkF m 25 #[.val (.ref a1), .val (.ref a2), .val (.ref a2)] []))) (fun t k => XS.ifNo X3.here hx rfl (hb hby d_jdk_42_method_66_code_22) rfl (XT.i0_eq_f hcs) k) ?_
  refine own_fw (A' := (T3.setTop (mkF m 26 #[.val (.ref a1), .val (.ref a2), .val (.ref a2)] [(.ref a1)]))) (fun t k => XS.aloadN X3.here hx rfl (hb hby d_jdk_42_method_66_code_25) rfl rfl k) ?_
  obtain ⟨T4, X4, e4, st4⟩ := getF X3 hx hZ hown (host := "") (Or.inl (hw _ (List.mem_of_getElem? (i := 32) rfl))) Via.refl e3 P2 (g := (mkF m 26 #[.val (.ref a1), .val (.ref a2), .val (.ref a2)] [(.ref a1)])) rfl rfl (hb hby d_jdk_42_method_66_code_26)
  refine own_fw (A' := (T4.setTop (mkF m 29 #[.val (.ref a1), .val (.ref a2), .val (.ref a2)] [(.int (0 : Int32))]))) (fun t k => st4 _ k) ?_
  refine own_fw (A' := (T4.setTop (mkF m 30 #[.val (.ref a1), .val (.ref a2), .val (.ref a2)] [(.ref a2), (.int (0 : Int32))]))) (fun t k => XS.aloadN X4.here hx rfl (hb hby d_jdk_42_method_66_code_29) rfl rfl k) ?_
  obtain ⟨T5, X5, e5, st5⟩ := getF X4 hx hZ hown (host := "") (Or.inl (hw _ (List.mem_of_getElem? (i := 32) rfl))) Via.refl e4 P3 (g := (mkF m 30 #[.val (.ref a1), .val (.ref a2), .val (.ref a2)] [(.ref a2), (.int (0 : Int32))])) rfl rfl (hb hby d_jdk_42_method_66_code_30)
  refine own_fw (A' := (T5.setTop (mkF m 33 #[.val (.ref a1), .val (.ref a2), .val (.ref a2)] [(.int (0 : Int32)), (.int (0 : Int32))]))) (fun t k => st5 _ k) ?_
  refine own_fw (A' := (T5.setTop (mkF m 36 #[.val (.ref a1), .val (.ref a2), .val (.ref a2)] []))) (fun t k => XS.icmpNo X5.here hx rfl (hb hby d_jdk_42_method_66_code_33) rfl (XT.ii_ne_f rfl) k) ?_
  refine own_fw (A' := (T5.setTop (mkF m 37 #[.val (.ref a1), .val (.ref a2), .val (.ref a2)] [(.ref a1)]))) (fun t k => XS.aloadN X5.here hx rfl (hb hby d_jdk_42_method_66_code_36) rfl rfl k) ?_
  obtain ⟨T6, X6, e6, st6⟩ := getF X5 hx hZ hown (host := "") (Or.inl (hw _ (List.mem_of_getElem? (i := 31) rfl))) Via.refl e5 P4 (g := (mkF m 37 #[.val (.ref a1), .val (.ref a2), .val (.ref a2)] [(.ref a1)])) rfl rfl (hb hby d_jdk_42_method_66_code_37)
  refine own_fw (A' := (T6.setTop (mkF m 40 #[.val (.ref a1), .val (.ref a2), .val (.ref a2)] [(.ref b1)]))) (fun t k => st6 _ k) ?_
  refine own_fw (A' := (T6.setTop (mkF m 41 #[.val (.ref a1), .val (.ref a2), .val (.ref a2)] [(.ref a2), (.ref b1)]))) (fun t k => XS.aloadN X6.here hx rfl (hb hby d_jdk_42_method_66_code_40) rfl rfl k) ?_
  obtain ⟨T7, X7, e7, st7⟩ := getF X6 hx hZ hown (host := "") (Or.inl (hw _ (List.mem_of_getElem? (i := 31) rfl))) Via.refl e6 P5 (g := (mkF m 41 #[.val (.ref a1), .val (.ref a2), .val (.ref a2)] [(.ref a2), (.ref b1)])) rfl rfl (hb hby d_jdk_42_method_66_code_41)
  refine own_fw (A' := (T7.setTop (mkF m 44 #[.val (.ref a1), .val (.ref a2), .val (.ref a2)] [(.ref b2), (.ref b1)]))) (fun t k => st7 _ k) ?_
  obtain ⟨_, _, ⟨T8, L8, k8, n8⟩, -, X8, ⟨Lc8, hQ8, l8, y8, z8⟩, st8⟩ := Jvm.LawKit.callS X7 hx (y := (⟨"java/lang/StringLatin1", "equals", "([B[B)Z"⟩ : MethodName)) hown (mvT hZ (hw _ (List.mem_of_getElem? (i := 65) rfl))) (mvT hZ (hw _ (List.mem_of_getElem? (i := 66) rfl))) (mvT hZ (hw _ (List.mem_of_getElem? (i := 67) rfl))) (mvT hZ (hw _ (List.mem_of_getElem? (i := 68) rfl))) (by decide) (backOf (W := 0) (rmLeq10 l Z a0 hw [] b1 b2 k1 k2 x0 h0 n0 Z0 P6 P7) hZ (hw _ (List.mem_of_getElem? (i := 68) rfl)) (hw _ (List.mem_of_getElem? (i := 67) rfl)) (by decide) (by decide)) (g := (mkF m 44 #[.val (.ref a1), .val (.ref a2), .val (.ref a2)] [(.ref b2), (.ref b1)])) rfl (by rw [hml]; rfl) (argsL := [(.ref b1), (.ref b2)]) (rest := []) (lenOf pd___B_B_Z rfl) rfl (by show 2 * 0 + _ ≤ _; exact Nat.le_of_eq rfl) (hb hby d_jdk_42_method_66_code_44) (fun _ _ => ⟨rfl, e7, (by decide : 0 + 0 ≤ _), (by decide : 0 + 0 ≤ _)⟩)
  dsimp only [Pt.U, Pt.locs, Pt.cells, Pt.slots] at X8 l8 y8 z8 st8 hQ8
  subst l8 y8 z8
  obtain ⟨rfl, Nq8, e8⟩ := hQ8
  have Nf8 := Fr.app N0 Nq8
  refine own_fw (A' := (T8.setTop (mkF m 47 #[.val (.ref a1), .val (.ref a2), .val (.ref a2)] [(.int (0 : Int32))]))) (fun t k => st8 _ k) ?_
  by_cases hc9 : (0 : Int32) = (0 : Int32)
  · refine own_fw (A' := (T8.setTop (mkF m 54 #[.val (.ref a1), .val (.ref a2), .val (.ref a2)] []))) (fun t k => XS.ifYes X8.here hx rfl (pc0 := 47) (pc' := 54) rfl (hb hby d_jdk_42_method_66_code_47) rfl (XT.i0_eq_t hc9) (by decide) (by decide) k) ?_
    refine own_fw (A' := (T8.setTop (mkF m 55 #[.val (.ref a1), .val (.ref a2), .val (.ref a2)] [(.int (0 : Int32))]))) (fun t k => XS.iconst X8.here hx rfl (hb hby d_jdk_42_method_66_code_54) k) ?_
    obtain ⟨fs, hr, hrun, hended, hW, hsame⟩ := X8.leave (v := some (.int (0 : Int32))) (fun h => by rw [Bd.returns] at h; cases h)
    refine ⟨_, _, ?_, hrun, hended, _, _, rfl, ?_, ⟨_, rfl⟩, hW, hsame.mono (by decide) (by decide)⟩
    · exact retOut X8 hx Bd.returns rfl (Or.inl ⟨rfl, by simp, _, rfl⟩) (hb hby d_jdk_42_method_66_code_55) hr
    · show Q_rmSeq10 Z a1 a2 b1 b2 k1 k2 cs x0 h0 n0 _ T8.heap _
      rw [e8]
      exact ⟨rfl, Nf8, rfl⟩
  · refine own_fw (A' := (T8.setTop (mkF m 50 #[.val (.ref a1), .val (.ref a2), .val (.ref a2)] []))) (fun t k => XS.ifNo X8.here hx rfl (hb hby d_jdk_42_method_66_code_47) rfl (XT.i0_eq_f hc9) k) ?_
    refine own_fw (A' := (T8.setTop (mkF m 51 #[.val (.ref a1), .val (.ref a2), .val (.ref a2)] [(.int (1 : Int32))]))) (fun t k => XS.iconst X8.here hx rfl (hb hby d_jdk_42_method_66_code_50) k) ?_
    refine own_fw (A' := (T8.setTop (mkF m 55 #[.val (.ref a1), .val (.ref a2), .val (.ref a2)] [(.int (1 : Int32))]))) (fun t k => XS.goto X8.here hx rfl (pc0 := 51) (pc' := 55) rfl (hb hby d_jdk_42_method_66_code_51) (by decide) (by decide) k) ?_
    obtain ⟨fs, hr, hrun, hended, hW, hsame⟩ := X8.leave (v := some (.int (1 : Int32))) (fun h => by rw [Bd.returns] at h; cases h)
    refine ⟨_, _, ?_, hrun, hended, _, _, rfl, ?_, ⟨_, rfl⟩, hW, hsame.mono (by decide) (by decide)⟩
    · exact retOut X8 hx Bd.returns rfl (Or.inl ⟨rfl, by simp, _, rfl⟩) (hb hby d_jdk_42_method_66_code_55) hr
    · show Q_rmSeq10 Z a1 a2 b1 b2 k1 k2 cs x0 h0 n0 _ T8.heap _
      rw [e8]
      exact ⟨(by first | rfl | (have q := hc9; revert q; (repeat' split) <;> simp)), Nf8, rfl⟩
theorem d_jdk_43_method_13_code_15 : decode jdk_43_method_13_code 15 = .ok (.aload_n 0, 1) := by decide +kernel
theorem d_jdk_43_method_13_code_16 : decode jdk_43_method_13_code 16 = .ok (.iload_n 2, 1) := by decide +kernel
theorem d_jdk_43_method_13_code_17 : decode jdk_43_method_13_code 17 = .ok (.baload, 1) := by decide +kernel
theorem d_jdk_43_method_13_code_18 : decode jdk_43_method_13_code 18 = .ok (.aload_n 1, 1) := by decide +kernel
theorem d_jdk_43_method_13_code_19 : decode jdk_43_method_13_code 19 = .ok (.iload_n 2, 1) := by decide +kernel
theorem d_jdk_43_method_13_code_20 : decode jdk_43_method_13_code 20 = .ok (.baload, 1) := by decide +kernel
theorem d_jdk_43_method_13_code_21 : decode jdk_43_method_13_code 21 = .ok (.if_icmp .eq 5, 3) := by decide +kernel
theorem d_jdk_43_method_13_code_26 : decode jdk_43_method_13_code 26 = .ok (.iinc 2 1, 3) := by decide +kernel
theorem d_jdk_43_method_13_code_29 : decode jdk_43_method_13_code 29 = .ok (.goto (-20), 3) := by decide +kernel
theorem d_jdk_43_method_13_code_24 : decode jdk_43_method_13_code 24 = .ok (.iconst 0, 1) := by decide +kernel
theorem d_jdk_43_method_13_code_25 : decode jdk_43_method_13_code 25 = .ok (.ireturn, 1) := by decide +kernel
theorem ef_rmLeq11 (m : MethodId) (a1 : Addr) (a2 : Addr) : entryFrame m #[(.ref a1), (.ref a2)] 3 = mkF m 0 #[.val (.ref a1), .val (.ref a2), .unset] [] := by first | (simp [entryFrame, mkF, argsToLocals, Value.category]; done) | rfl
def Q_rmLeq11 (Z : State) (a1 : Addr) (a2 : Addr) (k1 : ClassId) (k2 : ClassId) (x0 : Int32) (y0 : Int32) (h0 : Heap) (n0 : Nat) (v : Option Value) (h : Heap) (L : List Loc) : Prop := v = some (.int (if x0 = y0 then (1 : Int32) else (0 : Int32))) ∧ Fr n0 L ∧ h = h0
set_option maxRecDepth 65536 in
set_option maxHeartbeats 40000000 in
theorem rmLeq11 (l : Launch) (Z : State) (a0 : Array Value) (hw : ∀ d ∈ tables_1, d.before a0 Z = true) (ws : List Jvm.Cond) (a1 : Addr) (a2 : Addr) (k1 : ClassId) (k2 : ClassId) (x0 : Int32) (y0 : Int32) (h0 : Heap) (n0 : Nat) (Z0 : n0 ≤ h0.size) (P0 : Arv Z h0 a1 k1 .byte (1 : Int32) [(.int x0)] (.int (0 : Int32))) (P1 : Arv Z h0 a2 k2 .byte (1 : Int32) [(.int y0)] (.int (0 : Int32))) :
    MetFree l (⟨"java/lang/StringLatin1", "equals", "([B[B)Z"⟩ : MethodName) (head1 (Jvm.Cond.code (⟨"java/lang/StringLatin1", "equals", "([B[B)Z"⟩ : MethodName) jdk_43_method_13_code 3 (some .boolean) :: ws) ({ frames := 0, cells := 0, slots := 0, locals := 0 } : Room)) (fun a U => a = #[(.ref a1), (.ref a2)] ∧ Z.Warmed39 U.vm ∧ U.heap = h0) (fun _ _ _ _ _ => True) (fun _ U o U' => ∃ v L, o = .returned v ∧ Q_rmLeq11 Z a1 a2 k1 k2 x0 y0 h0 n0 v U'.heap L ∧ FrameEnd U o U' L ({ frames := 0, cells := 0, slots := 0, locals := 0 } : Room).cells ({ frames := 0, cells := 0, slots := 0, locals := 0 } : Room).slots) := by
  refine MetFree.of_bodySF (plainFor_of_name pn_java_lang_StringLatin1) hisR ?_
  intro p e s m args below meth c s₁ Bd hml0 hP hK
  obtain ⟨rfl, hZ, hh⟩ := hP
  have hx := Bd.exec
  have hby := Bd.bytes
  have hml : c.maxLocals = 3 := hml0
  have hown : s.vm.findClass "java/lang/StringLatin1" = some m.cls := findClass_of_methodNamed Bd.named
  have hnm := (name_of_methodNamed Bd.named Bd.method).1
  have X0 : Stand p l e ({ frames := 0, cells := 0, slots := 0, locals := 0 } : Room) s m #[(.ref a1), (.ref a2)] below meth c s₁ [] 0 0 := Stand.of_body Bd
  have e0 : s₁.heap = h0 := by rw [← hh, Bd.state]; rfl
  have N0 := Fr.nil n0
  refine own_fw (A' := (s₁.setTop (mkF m 0 #[.val (.ref a1), .val (.ref a2), .unset] []))) (fun t k => castTop (ef_rmLeq11 m a1 a2) k) ?_
  refine own_fw (A' := (s₁.setTop (mkF m 1 #[.val (.ref a1), .val (.ref a2), .unset] [(.ref a1)]))) (fun t k => XS.aloadN X0.here hx rfl (hb hby d_jdk_43_method_13_code_0) rfl rfl k) ?_
  obtain ⟨cl1, Ar1, q1, S1, M1, H1, G1⟩ := id P0
  refine own_fw (A' := (s₁.setTop (mkF m 2 #[.val (.ref a1), .val (.ref a2), .unset] [(.int (1 : Int32))]))) (fun t k => X0.arraylength hx (by rw [e0]; exact Ar1.1) (State.isArrayOf_alike hZ.alike Ar1.2.1) (g := (mkF m 1 #[.val (.ref a1), .val (.ref a2), .unset] [(.ref a1)])) rfl rfl (hb hby d_jdk_43_method_13_code_1) _ (by rw [len_of S1 M1]; exact k)) ?_
  refine own_fw (A' := (s₁.setTop (mkF m 3 #[.val (.ref a1), .val (.ref a2), .unset] [(.ref a2), (.int (1 : Int32))]))) (fun t k => XS.aloadN X0.here hx rfl (hb hby d_jdk_43_method_13_code_2) rfl rfl k) ?_
  obtain ⟨cl2, Ar2, q2, S2, M2, H2, G2⟩ := id P1
  refine own_fw (A' := (s₁.setTop (mkF m 4 #[.val (.ref a1), .val (.ref a2), .unset] [(.int (1 : Int32)), (.int (1 : Int32))]))) (fun t k => X0.arraylength hx (by rw [e0]; exact Ar2.1) (State.isArrayOf_alike hZ.alike Ar2.2.1) (g := (mkF m 3 #[.val (.ref a1), .val (.ref a2), .unset] [(.ref a2), (.int (1 : Int32))])) rfl rfl (hb hby d_jdk_43_method_13_code_3) _ (by rw [len_of S2 M2]; exact k)) ?_
  refine own_fw (A' := (s₁.setTop (mkF m 7 #[.val (.ref a1), .val (.ref a2), .unset] []))) (fun t k => XS.icmpNo X0.here hx rfl (hb hby d_jdk_43_method_13_code_4) rfl (XT.ii_ne_f rfl) k) ?_
  refine own_fw (A' := (s₁.setTop (mkF m 8 #[.val (.ref a1), .val (.ref a2), .unset] [(.int (0 : Int32))]))) (fun t k => XS.iconst X0.here hx rfl (hb hby d_jdk_43_method_13_code_7) k) ?_
  refine own_fw (A' := (s₁.setTop (mkF m 9 #[.val (.ref a1), .val (.ref a2), .val (.int (0 : Int32))] []))) (fun t k => XS.istoreN X0.here hx rfl (hb hby d_jdk_43_method_13_code_8) rfl (l' := #[.val (.ref a1), .val (.ref a2), .val (.int (0 : Int32))]) rfl k) ?_
  refine own_fw (A' := (s₁.setTop (mkF m 10 #[.val (.ref a1), .val (.ref a2), .val (.int (0 : Int32))] [(.int (0 : Int32))]))) (fun t k => XS.iloadN X0.here hx rfl (hb hby d_jdk_43_method_13_code_9) rfl k) ?_
  refine own_fw (A' := (s₁.setTop (mkF m 11 #[.val (.ref a1), .val (.ref a2), .val (.int (0 : Int32))] [(.ref a1), (.int (0 : Int32))]))) (fun t k => XS.aloadN X0.here hx rfl (hb hby d_jdk_43_method_13_code_10) rfl rfl k) ?_
  obtain ⟨cl3, Ar3, q3, S3, M3, H3, G3⟩ := id P0
  refine own_fw (A' := (s₁.setTop (mkF m 12 #[.val (.ref a1), .val (.ref a2), .val (.int (0 : Int32))] [(.int (1 : Int32)), (.int (0 : Int32))]))) (fun t k => X0.arraylength hx (by rw [e0]; exact Ar3.1) (State.isArrayOf_alike hZ.alike Ar3.2.1) (g := (mkF m 11 #[.val (.ref a1), .val (.ref a2), .val (.int (0 : Int32))] [(.ref a1), (.int (0 : Int32))])) rfl rfl (hb hby d_jdk_43_method_13_code_11) _ (by rw [len_of S3 M3]; exact k)) ?_
  refine own_fw (A' := (s₁.setTop (mkF m 15 #[.val (.ref a1), .val (.ref a2), .val (.int (0 : Int32))] []))) (fun t k => XS.icmpNo X0.here hx rfl (hb hby d_jdk_43_method_13_code_12) rfl (XT.ii_ge_f (by decide)) k) ?_
  refine own_fw (A' := (s₁.setTop (mkF m 16 #[.val (.ref a1), .val (.ref a2), .val (.int (0 : Int32))] [(.ref a1)]))) (fun t k => XS.aloadN X0.here hx rfl (hb hby d_jdk_43_method_13_code_15) rfl rfl k) ?_
  refine own_fw (A' := (s₁.setTop (mkF m 17 #[.val (.ref a1), .val (.ref a2), .val (.int (0 : Int32))] [(.int (0 : Int32)), (.ref a1)]))) (fun t k => XS.iloadN X0.here hx rfl (hb hby d_jdk_43_method_13_code_16) rfl k) ?_
  obtain ⟨cl4, Ar4, q4, S4, M4, H4, G4⟩ := id P0
  have hin4 : ¬ ((0 : Int32) < 0 ∨ cl4.slots.size ≤ ((0 : Int32)).toNatClampNeg) := inb_of S4 ⟨by decide, by decide⟩
  have hat4 : cl4.slots[((0 : Int32)).toNatClampNeg]? = some (.int x0) := H4.at hin4 rfl
  refine own_fw (A' := (s₁.setTop (mkF m 18 #[.val (.ref a1), .val (.ref a2), .val (.int (0 : Int32))] [(.int x0)]))) (fun t k => X0.baloadBytes hx (j := (0 : Int32)) (v := (.int x0)) (by rw [e0]; exact Ar4.1) (State.isArrayOf_alike hZ.alike Ar4.2.1) Ar4.2.2 hin4 hat4 (g := (mkF m 17 #[.val (.ref a1), .val (.ref a2), .val (.int (0 : Int32))] [(.int (0 : Int32)), (.ref a1)])) rfl rfl (hb hby d_jdk_43_method_13_code_17) _ k) ?_
  refine own_fw (A' := (s₁.setTop (mkF m 19 #[.val (.ref a1), .val (.ref a2), .val (.int (0 : Int32))] [(.ref a2), (.int x0)]))) (fun t k => XS.aloadN X0.here hx rfl (hb hby d_jdk_43_method_13_code_18) rfl rfl k) ?_
  refine own_fw (A' := (s₁.setTop (mkF m 20 #[.val (.ref a1), .val (.ref a2), .val (.int (0 : Int32))] [(.int (0 : Int32)), (.ref a2), (.int x0)]))) (fun t k => XS.iloadN X0.here hx rfl (hb hby d_jdk_43_method_13_code_19) rfl k) ?_
  obtain ⟨cl5, Ar5, q5, S5, M5, H5, G5⟩ := id P1
  have hin5 : ¬ ((0 : Int32) < 0 ∨ cl5.slots.size ≤ ((0 : Int32)).toNatClampNeg) := inb_of S5 ⟨by decide, by decide⟩
  have hat5 : cl5.slots[((0 : Int32)).toNatClampNeg]? = some (.int y0) := H5.at hin5 rfl
  refine own_fw (A' := (s₁.setTop (mkF m 21 #[.val (.ref a1), .val (.ref a2), .val (.int (0 : Int32))] [(.int y0), (.int x0)]))) (fun t k => X0.baloadBytes hx (j := (0 : Int32)) (v := (.int y0)) (by rw [e0]; exact Ar5.1) (State.isArrayOf_alike hZ.alike Ar5.2.1) Ar5.2.2 hin5 hat5 (g := (mkF m 20 #[.val (.ref a1), .val (.ref a2), .val (.int (0 : Int32))] [(.int (0 : Int32)), (.ref a2), (.int x0)])) rfl rfl (hb hby d_jdk_43_method_13_code_20) _ k) ?_
  by_cases hc6 : x0 = y0
  · refine own_fw (A' := (s₁.setTop (mkF m 26 #[.val (.ref a1), .val (.ref a2), .val (.int (0 : Int32))] []))) (fun t k => XS.icmpYes X0.here hx rfl (pc0 := 21) (pc' := 26) rfl (hb hby d_jdk_43_method_13_code_21) rfl (XT.ii_eq_t hc6) (by decide) (by decide) k) ?_
    refine own_fw (A' := (s₁.setTop (mkF m 29 #[.val (.ref a1), .val (.ref a2), .val (.int (1 : Int32))] []))) (fun t k => XS.iinc X0.here hx rfl (hb hby d_jdk_43_method_13_code_26) rfl (l' := #[.val (.ref a1), .val (.ref a2), .val (.int (1 : Int32))]) rfl k) ?_
    refine own_fw (A' := (s₁.setTop (mkF m 9 #[.val (.ref a1), .val (.ref a2), .val (.int (1 : Int32))] []))) (fun t k => XS.goto X0.here hx rfl (pc0 := 29) (pc' := 9) rfl (hb hby d_jdk_43_method_13_code_29) (by decide) (by decide) k) ?_
    refine own_fw (A' := (s₁.setTop (mkF m 10 #[.val (.ref a1), .val (.ref a2), .val (.int (1 : Int32))] [(.int (1 : Int32))]))) (fun t k => XS.iloadN X0.here hx rfl (hb hby d_jdk_43_method_13_code_9) rfl k) ?_
    refine own_fw (A' := (s₁.setTop (mkF m 11 #[.val (.ref a1), .val (.ref a2), .val (.int (1 : Int32))] [(.ref a1), (.int (1 : Int32))]))) (fun t k => XS.aloadN X0.here hx rfl (hb hby d_jdk_43_method_13_code_10) rfl rfl k) ?_
    obtain ⟨cl7, Ar7, q7, S7, M7, H7, G7⟩ := id P0
    refine own_fw (A' := (s₁.setTop (mkF m 12 #[.val (.ref a1), .val (.ref a2), .val (.int (1 : Int32))] [(.int (1 : Int32)), (.int (1 : Int32))]))) (fun t k => X0.arraylength hx (by rw [e0]; exact Ar7.1) (State.isArrayOf_alike hZ.alike Ar7.2.1) (g := (mkF m 11 #[.val (.ref a1), .val (.ref a2), .val (.int (1 : Int32))] [(.ref a1), (.int (1 : Int32))])) rfl rfl (hb hby d_jdk_43_method_13_code_11) _ (by rw [len_of S7 M7]; exact k)) ?_
    refine own_fw (A' := (s₁.setTop (mkF m 32 #[.val (.ref a1), .val (.ref a2), .val (.int (1 : Int32))] []))) (fun t k => XS.icmpYes X0.here hx rfl (pc0 := 12) (pc' := 32) rfl (hb hby d_jdk_43_method_13_code_12) rfl (XT.ii_ge_t (by decide)) (by decide) (by decide) k) ?_
    refine own_fw (A' := (s₁.setTop (mkF m 33 #[.val (.ref a1), .val (.ref a2), .val (.int (1 : Int32))] [(.int (1 : Int32))]))) (fun t k => XS.iconst X0.here hx rfl (hb hby d_jdk_43_method_13_code_32) k) ?_
    obtain ⟨fs, hr, hrun, hended, hW, hsame⟩ := X0.leave (v := some (.int (1 : Int32))) (fun h => by rw [Bd.returns] at h; cases h)
    refine ⟨_, _, ?_, hrun, hended, _, _, rfl, ?_, ⟨_, rfl⟩, hW, hsame.mono (by decide) (by decide)⟩
    · exact retOut X0 hx Bd.returns rfl (Or.inl ⟨rfl, by simp, _, rfl⟩) (hb hby d_jdk_43_method_13_code_33) hr
    · show Q_rmLeq11 Z a1 a2 k1 k2 x0 y0 h0 n0 _ s₁.heap _
      rw [e0]
      exact ⟨(by simp only [if_pos hc6]), N0, rfl⟩
  · refine own_fw (A' := (s₁.setTop (mkF m 24 #[.val (.ref a1), .val (.ref a2), .val (.int (0 : Int32))] []))) (fun t k => XS.icmpNo X0.here hx rfl (hb hby d_jdk_43_method_13_code_21) rfl (XT.ii_eq_f hc6) k) ?_
    refine own_fw (A' := (s₁.setTop (mkF m 25 #[.val (.ref a1), .val (.ref a2), .val (.int (0 : Int32))] [(.int (0 : Int32))]))) (fun t k => XS.iconst X0.here hx rfl (hb hby d_jdk_43_method_13_code_24) k) ?_
    obtain ⟨fs, hr, hrun, hended, hW, hsame⟩ := X0.leave (v := some (.int (0 : Int32))) (fun h => by rw [Bd.returns] at h; cases h)
    refine ⟨_, _, ?_, hrun, hended, _, _, rfl, ?_, ⟨_, rfl⟩, hW, hsame.mono (by decide) (by decide)⟩
    · exact retOut X0 hx Bd.returns rfl (Or.inl ⟨rfl, by simp, _, rfl⟩) (hb hby d_jdk_43_method_13_code_25) hr
    · show Q_rmLeq11 Z a1 a2 k1 k2 x0 y0 h0 n0 _ s₁.heap _
      rw [e0]
      exact ⟨(by simp only [if_neg hc6]), N0, rfl⟩
theorem ef_rmSeq11 (m : MethodId) (a1 : Addr) (a2 : Addr) : entryFrame m #[(.ref a1), (.ref a2)] 3 = mkF m 0 #[.val (.ref a1), .val (.ref a2), .unset] [] := by first | (simp [entryFrame, mkF, argsToLocals, Value.category]; done) | rfl
def Q_rmSeq11 (Z : State) (a1 : Addr) (a2 : Addr) (b1 : Addr) (b2 : Addr) (k1 : ClassId) (k2 : ClassId) (cs : Int32) (x0 : Int32) (y0 : Int32) (h0 : Heap) (n0 : Nat) (v : Option Value) (h : Heap) (L : List Loc) : Prop := v = some (.int (if x0 = y0 then (1 : Int32) else (0 : Int32))) ∧ Fr n0 L ∧ h = h0
set_option maxRecDepth 65536 in
set_option maxHeartbeats 40000000 in
theorem rmSeq11 (l : Launch) (Z : State) (a0 : Array Value) (hw : ∀ d ∈ tables_1, d.before a0 Z = true) (ws : List Jvm.Cond) (a1 : Addr) (a2 : Addr) (b1 : Addr) (b2 : Addr) (k1 : ClassId) (k2 : ClassId) (cs : Int32) (x0 : Int32) (y0 : Int32) (h0 : Heap) (n0 : Nat) (Z0 : n0 ≤ h0.size) (P0 : Exa Z h0 a1 "java/lang/String") (P1 : Exa Z h0 a2 "java/lang/String") (P2 : Fld Z h0 a1 "java/lang/String" "coder" "B" (.int (0 : Int32))) (P3 : Fld Z h0 a2 "java/lang/String" "coder" "B" (.int (0 : Int32))) (P4 : Fld Z h0 a1 "java/lang/String" "value" "[B" (.ref b1)) (P5 : Fld Z h0 a2 "java/lang/String" "value" "[B" (.ref b2)) (P6 : Arv Z h0 b1 k1 .byte (1 : Int32) [(.int x0)] (.int (0 : Int32))) (P7 : Arv Z h0 b2 k2 .byte (1 : Int32) [(.int y0)] (.int (0 : Int32))) (ne_a1_a2 : a1 ≠ a2) (P9 : Sta Z h0 "java/lang/String" "COMPACT_STRINGS" "Z" (.int cs)) (hcs : ¬ (cs = (0 : Int32))) :
    MetFree l (⟨"java/lang/String", "equals", "(Ljava/lang/Object;)Z"⟩ : MethodName) (head1 (Jvm.Cond.code (⟨"java/lang/String", "equals", "(Ljava/lang/Object;)Z"⟩ : MethodName) jdk_42_method_66_code 3 (some .boolean) :: ws) ({ frames := 1, cells := 0, slots := 0, locals := 14 } : Room)) (fun a U => a = #[(.ref a1), (.ref a2)] ∧ Z.Warmed39 U.vm ∧ U.heap = h0) (fun _ _ _ _ _ => True) (fun _ U o U' => ∃ v L, o = .returned v ∧ Q_rmSeq11 Z a1 a2 b1 b2 k1 k2 cs x0 y0 h0 n0 v U'.heap L ∧ FrameEnd U o U' L ({ frames := 1, cells := 0, slots := 0, locals := 14 } : Room).cells ({ frames := 1, cells := 0, slots := 0, locals := 14 } : Room).slots) := by
  refine MetFree.of_bodySF (plainFor_of_name pn_java_lang_String) hisR ?_
  intro p e s m args below meth c s₁ Bd hml0 hP hK
  obtain ⟨rfl, hZ, hh⟩ := hP
  have hx := Bd.exec
  have hby := Bd.bytes
  have hml : c.maxLocals = 3 := hml0
  have hown : s.vm.findClass "java/lang/String" = some m.cls := findClass_of_methodNamed Bd.named
  have hnm := (name_of_methodNamed Bd.named Bd.method).1
  have X0 : Stand p l e ({ frames := 1, cells := 0, slots := 0, locals := 14 } : Room) s m #[(.ref a1), (.ref a2)] below meth c s₁ [] 0 0 := Stand.of_body Bd
  have e0 : s₁.heap = h0 := by rw [← hh, Bd.state]; rfl
  have N0 := Fr.nil n0
  refine own_fw (A' := (s₁.setTop (mkF m 0 #[.val (.ref a1), .val (.ref a2), .unset] []))) (fun t k => castTop (ef_rmSeq11 m a1 a2) k) ?_
  refine own_fw (A' := (s₁.setTop (mkF m 1 #[.val (.ref a1), .val (.ref a2), .unset] [(.ref a1)]))) (fun t k => XS.aloadN X0.here hx rfl (hb hby d_jdk_42_method_66_code_0) rfl rfl k) ?_
  refine own_fw (A' := (s₁.setTop (mkF m 2 #[.val (.ref a1), .val (.ref a2), .unset] [(.ref a2), (.ref a1)]))) (fun t k => XS.aloadN X0.here hx rfl (hb hby d_jdk_42_method_66_code_1) rfl rfl k) ?_
  refine own_fw (A' := (s₁.setTop (mkF m 7 #[.val (.ref a1), .val (.ref a2), .unset] []))) (fun t k => Jvm.RoadKit.acmp (g := (mkF m 2 #[.val (.ref a1), .val (.ref a2), .unset] [(.ref a2), (.ref a1)])) X0 hx rfl rfl rfl (pc0 := 2) (pc' := 7) (same := false) rfl (hb hby d_jdk_42_method_66_code_2) rfl (decide_eq_false (fun q => ne_a1_a2 (Value.ref.inj q))) (by decide) (by decide) k) ?_
  refine own_fw (A' := (s₁.setTop (mkF m 8 #[.val (.ref a1), .val (.ref a2), .unset] [(.ref a2)]))) (fun t k => XS.aloadN X0.here hx rfl (hb hby d_jdk_42_method_66_code_7) rfl rfl k) ?_
  obtain ⟨T1, X1, e1, st1⟩ := instY X0 hx hZ hown (hw _ (List.mem_of_getElem? (i := 63) rfl)) e0 (Ins.self P1) (g := (mkF m 8 #[.val (.ref a1), .val (.ref a2), .unset] [(.ref a2)])) rfl rfl (hb hby d_jdk_42_method_66_code_8)
  refine own_fw (A' := (T1.setTop (mkF m 11 #[.val (.ref a1), .val (.ref a2), .unset] [(.int (1 : Int32))]))) (fun t k => st1 _ k) ?_
  refine own_fw (A' := (T1.setTop (mkF m 14 #[.val (.ref a1), .val (.ref a2), .unset] []))) (fun t k => XS.ifNo X1.here hx rfl (hb hby d_jdk_42_method_66_code_11) rfl (XT.i0_eq_f (by decide)) k) ?_
  refine own_fw (A' := (T1.setTop (mkF m 15 #[.val (.ref a1), .val (.ref a2), .unset] [(.ref a2)]))) (fun t k => XS.aloadN X1.here hx rfl (hb hby d_jdk_42_method_66_code_14) rfl rfl k) ?_
  obtain ⟨T2, X2, e2, st2⟩ := castY X1 hx hZ hown (hw _ (List.mem_of_getElem? (i := 63) rfl)) e1 (Ins.self P1) (g := (mkF m 15 #[.val (.ref a1), .val (.ref a2), .unset] [(.ref a2)])) rfl rfl (hb hby d_jdk_42_method_66_code_15)
  refine own_fw (A' := (T2.setTop (mkF m 18 #[.val (.ref a1), .val (.ref a2), .unset] [(.ref a2)]))) (fun t k => st2 _ k) ?_
  refine own_fw (A' := (T2.setTop (mkF m 19 #[.val (.ref a1), .val (.ref a2), .val (.ref a2)] []))) (fun t k => XS.astoreN X2.here hx rfl (hb hby d_jdk_42_method_66_code_18) rfl rfl (l' := #[.val (.ref a1), .val (.ref a2), .val (.ref a2)]) rfl k) ?_
  obtain ⟨T3, X3, e3, st3⟩ := getS2 X2 hx hZ hown (host := "") (Or.inl (hw _ (List.mem_of_getElem? (i := 64) rfl))) Via.refl e2 P9 (g := (mkF m 19 #[.val (.ref a1), .val (.ref a2), .val (.ref a2)] [])) rfl (hb hby d_jdk_42_method_66_code_19)
  refine own_fw (A' := (T3.setTop (mkF m 22 #[.val (.ref a1), .val (.ref a2), .val (.ref a2)] [(.int cs)]))) (fun t k => st3 _ k) ?_
  refine own_fw (A' := (T3.setTop (mkF m 25 #[.val (.ref a1), .val (.ref a2), .val (.ref a2)] []))) (fun t k => XS.ifNo X3.here hx rfl (hb hby d_jdk_42_method_66_code_22) rfl (XT.i0_eq_f hcs) k) ?_
  refine own_fw (A' := (T3.setTop (mkF m 26 #[.val (.ref a1), .val (.ref a2), .val (.ref a2)] [(.ref a1)]))) (fun t k => XS.aloadN X3.here hx rfl (hb hby d_jdk_42_method_66_code_25) rfl rfl k) ?_
  obtain ⟨T4, X4, e4, st4⟩ := getF X3 hx hZ hown (host := "") (Or.inl (hw _ (List.mem_of_getElem? (i := 32) rfl))) Via.refl e3 P2 (g := (mkF m 26 #[.val (.ref a1), .val (.ref a2), .val (.ref a2)] [(.ref a1)])) rfl rfl (hb hby d_jdk_42_method_66_code_26)
  refine own_fw (A' := (T4.setTop (mkF m 29 #[.val (.ref a1), .val (.ref a2), .val (.ref a2)] [(.int (0 : Int32))]))) (fun t k => st4 _ k) ?_
  refine own_fw (A' := (T4.setTop (mkF m 30 #[.val (.ref a1), .val (.ref a2), .val (.ref a2)] [(.ref a2), (.int (0 : Int32))]))) (fun t k => XS.aloadN X4.here hx rfl (hb hby d_jdk_42_method_66_code_29) rfl rfl k) ?_
  obtain ⟨T5, X5, e5, st5⟩ := getF X4 hx hZ hown (host := "") (Or.inl (hw _ (List.mem_of_getElem? (i := 32) rfl))) Via.refl e4 P3 (g := (mkF m 30 #[.val (.ref a1), .val (.ref a2), .val (.ref a2)] [(.ref a2), (.int (0 : Int32))])) rfl rfl (hb hby d_jdk_42_method_66_code_30)
  refine own_fw (A' := (T5.setTop (mkF m 33 #[.val (.ref a1), .val (.ref a2), .val (.ref a2)] [(.int (0 : Int32)), (.int (0 : Int32))]))) (fun t k => st5 _ k) ?_
  refine own_fw (A' := (T5.setTop (mkF m 36 #[.val (.ref a1), .val (.ref a2), .val (.ref a2)] []))) (fun t k => XS.icmpNo X5.here hx rfl (hb hby d_jdk_42_method_66_code_33) rfl (XT.ii_ne_f rfl) k) ?_
  refine own_fw (A' := (T5.setTop (mkF m 37 #[.val (.ref a1), .val (.ref a2), .val (.ref a2)] [(.ref a1)]))) (fun t k => XS.aloadN X5.here hx rfl (hb hby d_jdk_42_method_66_code_36) rfl rfl k) ?_
  obtain ⟨T6, X6, e6, st6⟩ := getF X5 hx hZ hown (host := "") (Or.inl (hw _ (List.mem_of_getElem? (i := 31) rfl))) Via.refl e5 P4 (g := (mkF m 37 #[.val (.ref a1), .val (.ref a2), .val (.ref a2)] [(.ref a1)])) rfl rfl (hb hby d_jdk_42_method_66_code_37)
  refine own_fw (A' := (T6.setTop (mkF m 40 #[.val (.ref a1), .val (.ref a2), .val (.ref a2)] [(.ref b1)]))) (fun t k => st6 _ k) ?_
  refine own_fw (A' := (T6.setTop (mkF m 41 #[.val (.ref a1), .val (.ref a2), .val (.ref a2)] [(.ref a2), (.ref b1)]))) (fun t k => XS.aloadN X6.here hx rfl (hb hby d_jdk_42_method_66_code_40) rfl rfl k) ?_
  obtain ⟨T7, X7, e7, st7⟩ := getF X6 hx hZ hown (host := "") (Or.inl (hw _ (List.mem_of_getElem? (i := 31) rfl))) Via.refl e6 P5 (g := (mkF m 41 #[.val (.ref a1), .val (.ref a2), .val (.ref a2)] [(.ref a2), (.ref b1)])) rfl rfl (hb hby d_jdk_42_method_66_code_41)
  refine own_fw (A' := (T7.setTop (mkF m 44 #[.val (.ref a1), .val (.ref a2), .val (.ref a2)] [(.ref b2), (.ref b1)]))) (fun t k => st7 _ k) ?_
  obtain ⟨_, _, ⟨T8, L8, k8, n8⟩, -, X8, ⟨Lc8, hQ8, l8, y8, z8⟩, st8⟩ := Jvm.LawKit.callS X7 hx (y := (⟨"java/lang/StringLatin1", "equals", "([B[B)Z"⟩ : MethodName)) hown (mvT hZ (hw _ (List.mem_of_getElem? (i := 65) rfl))) (mvT hZ (hw _ (List.mem_of_getElem? (i := 66) rfl))) (mvT hZ (hw _ (List.mem_of_getElem? (i := 67) rfl))) (mvT hZ (hw _ (List.mem_of_getElem? (i := 68) rfl))) (by decide) (backOf (W := 0) (rmLeq11 l Z a0 hw [] b1 b2 k1 k2 x0 y0 h0 n0 Z0 P6 P7) hZ (hw _ (List.mem_of_getElem? (i := 68) rfl)) (hw _ (List.mem_of_getElem? (i := 67) rfl)) (by decide) (by decide)) (g := (mkF m 44 #[.val (.ref a1), .val (.ref a2), .val (.ref a2)] [(.ref b2), (.ref b1)])) rfl (by rw [hml]; rfl) (argsL := [(.ref b1), (.ref b2)]) (rest := []) (lenOf pd___B_B_Z rfl) rfl (by show 2 * 0 + _ ≤ _; exact Nat.le_of_eq rfl) (hb hby d_jdk_42_method_66_code_44) (fun _ _ => ⟨rfl, e7, (by decide : 0 + 0 ≤ _), (by decide : 0 + 0 ≤ _)⟩)
  dsimp only [Pt.U, Pt.locs, Pt.cells, Pt.slots] at X8 l8 y8 z8 st8 hQ8
  subst l8 y8 z8
  obtain ⟨rfl, Nq8, e8⟩ := hQ8
  have Nf8 := Fr.app N0 Nq8
  refine own_fw (A' := (T8.setTop (mkF m 47 #[.val (.ref a1), .val (.ref a2), .val (.ref a2)] [(.int (if x0 = y0 then (1 : Int32) else (0 : Int32)))]))) (fun t k => st8 _ k) ?_
  by_cases hc9 : (if x0 = y0 then (1 : Int32) else (0 : Int32)) = (0 : Int32)
  · refine own_fw (A' := (T8.setTop (mkF m 54 #[.val (.ref a1), .val (.ref a2), .val (.ref a2)] []))) (fun t k => XS.ifYes X8.here hx rfl (pc0 := 47) (pc' := 54) rfl (hb hby d_jdk_42_method_66_code_47) rfl (XT.i0_eq_t hc9) (by decide) (by decide) k) ?_
    refine own_fw (A' := (T8.setTop (mkF m 55 #[.val (.ref a1), .val (.ref a2), .val (.ref a2)] [(.int (0 : Int32))]))) (fun t k => XS.iconst X8.here hx rfl (hb hby d_jdk_42_method_66_code_54) k) ?_
    obtain ⟨fs, hr, hrun, hended, hW, hsame⟩ := X8.leave (v := some (.int (0 : Int32))) (fun h => by rw [Bd.returns] at h; cases h)
    refine ⟨_, _, ?_, hrun, hended, _, _, rfl, ?_, ⟨_, rfl⟩, hW, hsame.mono (by decide) (by decide)⟩
    · exact retOut X8 hx Bd.returns rfl (Or.inl ⟨rfl, by simp, _, rfl⟩) (hb hby d_jdk_42_method_66_code_55) hr
    · show Q_rmSeq11 Z a1 a2 b1 b2 k1 k2 cs x0 y0 h0 n0 _ T8.heap _
      rw [e8]
      exact ⟨(by first | rfl | (have q := hc9; revert q; (repeat' split) <;> simp)), Nf8, rfl⟩
  · refine own_fw (A' := (T8.setTop (mkF m 50 #[.val (.ref a1), .val (.ref a2), .val (.ref a2)] []))) (fun t k => XS.ifNo X8.here hx rfl (hb hby d_jdk_42_method_66_code_47) rfl (XT.i0_eq_f hc9) k) ?_
    refine own_fw (A' := (T8.setTop (mkF m 51 #[.val (.ref a1), .val (.ref a2), .val (.ref a2)] [(.int (1 : Int32))]))) (fun t k => XS.iconst X8.here hx rfl (hb hby d_jdk_42_method_66_code_50) k) ?_
    refine own_fw (A' := (T8.setTop (mkF m 55 #[.val (.ref a1), .val (.ref a2), .val (.ref a2)] [(.int (1 : Int32))]))) (fun t k => XS.goto X8.here hx rfl (pc0 := 51) (pc' := 55) rfl (hb hby d_jdk_42_method_66_code_51) (by decide) (by decide) k) ?_
    obtain ⟨fs, hr, hrun, hended, hW, hsame⟩ := X8.leave (v := some (.int (1 : Int32))) (fun h => by rw [Bd.returns] at h; cases h)
    refine ⟨_, _, ?_, hrun, hended, _, _, rfl, ?_, ⟨_, rfl⟩, hW, hsame.mono (by decide) (by decide)⟩
    · exact retOut X8 hx Bd.returns rfl (Or.inl ⟨rfl, by simp, _, rfl⟩) (hb hby d_jdk_42_method_66_code_55) hr
    · show Q_rmSeq11 Z a1 a2 b1 b2 k1 k2 cs x0 y0 h0 n0 _ T8.heap _
      rw [e8]
      exact ⟨(by first | rfl | (have q := hc9; revert q; (repeat' split) <;> simp)), Nf8, rfl⟩
theorem ef_rmLeq12 (m : MethodId) (a1 : Addr) (a2 : Addr) : entryFrame m #[(.ref a1), (.ref a2)] 3 = mkF m 0 #[.val (.ref a1), .val (.ref a2), .unset] [] := by first | (simp [entryFrame, mkF, argsToLocals, Value.category]; done) | rfl
def Q_rmLeq12 (Z : State) (a1 : Addr) (a2 : Addr) (k1 : ClassId) (k2 : ClassId) (x0 : Int32) (y0 : Int32) (y1 : Int32) (h0 : Heap) (n0 : Nat) (v : Option Value) (h : Heap) (L : List Loc) : Prop := v = some (.int (0 : Int32)) ∧ Fr n0 L ∧ h = h0
set_option maxRecDepth 65536 in
set_option maxHeartbeats 40000000 in
theorem rmLeq12 (l : Launch) (Z : State) (a0 : Array Value) (hw : ∀ d ∈ tables_1, d.before a0 Z = true) (ws : List Jvm.Cond) (a1 : Addr) (a2 : Addr) (k1 : ClassId) (k2 : ClassId) (x0 : Int32) (y0 : Int32) (y1 : Int32) (h0 : Heap) (n0 : Nat) (Z0 : n0 ≤ h0.size) (P0 : Arv Z h0 a1 k1 .byte (1 : Int32) [(.int x0)] (.int (0 : Int32))) (P1 : Arv Z h0 a2 k2 .byte (2 : Int32) [(.int y0), (.int y1)] (.int (0 : Int32))) :
    MetFree l (⟨"java/lang/StringLatin1", "equals", "([B[B)Z"⟩ : MethodName) (head1 (Jvm.Cond.code (⟨"java/lang/StringLatin1", "equals", "([B[B)Z"⟩ : MethodName) jdk_43_method_13_code 3 (some .boolean) :: ws) ({ frames := 0, cells := 0, slots := 0, locals := 0 } : Room)) (fun a U => a = #[(.ref a1), (.ref a2)] ∧ Z.Warmed39 U.vm ∧ U.heap = h0) (fun _ _ _ _ _ => True) (fun _ U o U' => ∃ v L, o = .returned v ∧ Q_rmLeq12 Z a1 a2 k1 k2 x0 y0 y1 h0 n0 v U'.heap L ∧ FrameEnd U o U' L ({ frames := 0, cells := 0, slots := 0, locals := 0 } : Room).cells ({ frames := 0, cells := 0, slots := 0, locals := 0 } : Room).slots) := by
  refine MetFree.of_bodySF (plainFor_of_name pn_java_lang_StringLatin1) hisR ?_
  intro p e s m args below meth c s₁ Bd hml0 hP hK
  obtain ⟨rfl, hZ, hh⟩ := hP
  have hx := Bd.exec
  have hby := Bd.bytes
  have hml : c.maxLocals = 3 := hml0
  have hown : s.vm.findClass "java/lang/StringLatin1" = some m.cls := findClass_of_methodNamed Bd.named
  have hnm := (name_of_methodNamed Bd.named Bd.method).1
  have X0 : Stand p l e ({ frames := 0, cells := 0, slots := 0, locals := 0 } : Room) s m #[(.ref a1), (.ref a2)] below meth c s₁ [] 0 0 := Stand.of_body Bd
  have e0 : s₁.heap = h0 := by rw [← hh, Bd.state]; rfl
  have N0 := Fr.nil n0
  refine own_fw (A' := (s₁.setTop (mkF m 0 #[.val (.ref a1), .val (.ref a2), .unset] []))) (fun t k => castTop (ef_rmLeq12 m a1 a2) k) ?_
  refine own_fw (A' := (s₁.setTop (mkF m 1 #[.val (.ref a1), .val (.ref a2), .unset] [(.ref a1)]))) (fun t k => XS.aloadN X0.here hx rfl (hb hby d_jdk_43_method_13_code_0) rfl rfl k) ?_
  obtain ⟨cl1, Ar1, q1, S1, M1, H1, G1⟩ := id P0
  refine own_fw (A' := (s₁.setTop (mkF m 2 #[.val (.ref a1), .val (.ref a2), .unset] [(.int (1 : Int32))]))) (fun t k => X0.arraylength hx (by rw [e0]; exact Ar1.1) (State.isArrayOf_alike hZ.alike Ar1.2.1) (g := (mkF m 1 #[.val (.ref a1), .val (.ref a2), .unset] [(.ref a1)])) rfl rfl (hb hby d_jdk_43_method_13_code_1) _ (by rw [len_of S1 M1]; exact k)) ?_
  refine own_fw (A' := (s₁.setTop (mkF m 3 #[.val (.ref a1), .val (.ref a2), .unset] [(.ref a2), (.int (1 : Int32))]))) (fun t k => XS.aloadN X0.here hx rfl (hb hby d_jdk_43_method_13_code_2) rfl rfl k) ?_
  obtain ⟨cl2, Ar2, q2, S2, M2, H2, G2⟩ := id P1
  refine own_fw (A' := (s₁.setTop (mkF m 4 #[.val (.ref a1), .val (.ref a2), .unset] [(.int (2 : Int32)), (.int (1 : Int32))]))) (fun t k => X0.arraylength hx (by rw [e0]; exact Ar2.1) (State.isArrayOf_alike hZ.alike Ar2.2.1) (g := (mkF m 3 #[.val (.ref a1), .val (.ref a2), .unset] [(.ref a2), (.int (1 : Int32))])) rfl rfl (hb hby d_jdk_43_method_13_code_3) _ (by rw [len_of S2 M2]; exact k)) ?_
  refine own_fw (A' := (s₁.setTop (mkF m 34 #[.val (.ref a1), .val (.ref a2), .unset] []))) (fun t k => XS.icmpYes X0.here hx rfl (pc0 := 4) (pc' := 34) rfl (hb hby d_jdk_43_method_13_code_4) rfl (XT.ii_ne_t (by decide)) (by decide) (by decide) k) ?_
  refine own_fw (A' := (s₁.setTop (mkF m 35 #[.val (.ref a1), .val (.ref a2), .unset] [(.int (0 : Int32))]))) (fun t k => XS.iconst X0.here hx rfl (hb hby d_jdk_43_method_13_code_34) k) ?_
  obtain ⟨fs, hr, hrun, hended, hW, hsame⟩ := X0.leave (v := some (.int (0 : Int32))) (fun h => by rw [Bd.returns] at h; cases h)
  refine ⟨_, _, ?_, hrun, hended, _, _, rfl, ?_, ⟨_, rfl⟩, hW, hsame.mono (by decide) (by decide)⟩
  · exact retOut X0 hx Bd.returns rfl (Or.inl ⟨rfl, by simp, _, rfl⟩) (hb hby d_jdk_43_method_13_code_35) hr
  · show Q_rmLeq12 Z a1 a2 k1 k2 x0 y0 y1 h0 n0 _ s₁.heap _
    rw [e0]
    exact ⟨rfl, N0, rfl⟩
theorem ef_rmSeq12 (m : MethodId) (a1 : Addr) (a2 : Addr) : entryFrame m #[(.ref a1), (.ref a2)] 3 = mkF m 0 #[.val (.ref a1), .val (.ref a2), .unset] [] := by first | (simp [entryFrame, mkF, argsToLocals, Value.category]; done) | rfl
def Q_rmSeq12 (Z : State) (a1 : Addr) (a2 : Addr) (b1 : Addr) (b2 : Addr) (k1 : ClassId) (k2 : ClassId) (cs : Int32) (x0 : Int32) (y0 : Int32) (y1 : Int32) (h0 : Heap) (n0 : Nat) (v : Option Value) (h : Heap) (L : List Loc) : Prop := v = some (.int (0 : Int32)) ∧ Fr n0 L ∧ h = h0
set_option maxRecDepth 65536 in
set_option maxHeartbeats 40000000 in
theorem rmSeq12 (l : Launch) (Z : State) (a0 : Array Value) (hw : ∀ d ∈ tables_1, d.before a0 Z = true) (ws : List Jvm.Cond) (a1 : Addr) (a2 : Addr) (b1 : Addr) (b2 : Addr) (k1 : ClassId) (k2 : ClassId) (cs : Int32) (x0 : Int32) (y0 : Int32) (y1 : Int32) (h0 : Heap) (n0 : Nat) (Z0 : n0 ≤ h0.size) (P0 : Exa Z h0 a1 "java/lang/String") (P1 : Exa Z h0 a2 "java/lang/String") (P2 : Fld Z h0 a1 "java/lang/String" "coder" "B" (.int (0 : Int32))) (P3 : Fld Z h0 a2 "java/lang/String" "coder" "B" (.int (0 : Int32))) (P4 : Fld Z h0 a1 "java/lang/String" "value" "[B" (.ref b1)) (P5 : Fld Z h0 a2 "java/lang/String" "value" "[B" (.ref b2)) (P6 : Arv Z h0 b1 k1 .byte (1 : Int32) [(.int x0)] (.int (0 : Int32))) (P7 : Arv Z h0 b2 k2 .byte (2 : Int32) [(.int y0), (.int y1)] (.int (0 : Int32))) (ne_a1_a2 : a1 ≠ a2) (P9 : Sta Z h0 "java/lang/String" "COMPACT_STRINGS" "Z" (.int cs)) (hcs : ¬ (cs = (0 : Int32))) :
    MetFree l (⟨"java/lang/String", "equals", "(Ljava/lang/Object;)Z"⟩ : MethodName) (head1 (Jvm.Cond.code (⟨"java/lang/String", "equals", "(Ljava/lang/Object;)Z"⟩ : MethodName) jdk_42_method_66_code 3 (some .boolean) :: ws) ({ frames := 1, cells := 0, slots := 0, locals := 14 } : Room)) (fun a U => a = #[(.ref a1), (.ref a2)] ∧ Z.Warmed39 U.vm ∧ U.heap = h0) (fun _ _ _ _ _ => True) (fun _ U o U' => ∃ v L, o = .returned v ∧ Q_rmSeq12 Z a1 a2 b1 b2 k1 k2 cs x0 y0 y1 h0 n0 v U'.heap L ∧ FrameEnd U o U' L ({ frames := 1, cells := 0, slots := 0, locals := 14 } : Room).cells ({ frames := 1, cells := 0, slots := 0, locals := 14 } : Room).slots) := by
  refine MetFree.of_bodySF (plainFor_of_name pn_java_lang_String) hisR ?_
  intro p e s m args below meth c s₁ Bd hml0 hP hK
  obtain ⟨rfl, hZ, hh⟩ := hP
  have hx := Bd.exec
  have hby := Bd.bytes
  have hml : c.maxLocals = 3 := hml0
  have hown : s.vm.findClass "java/lang/String" = some m.cls := findClass_of_methodNamed Bd.named
  have hnm := (name_of_methodNamed Bd.named Bd.method).1
  have X0 : Stand p l e ({ frames := 1, cells := 0, slots := 0, locals := 14 } : Room) s m #[(.ref a1), (.ref a2)] below meth c s₁ [] 0 0 := Stand.of_body Bd
  have e0 : s₁.heap = h0 := by rw [← hh, Bd.state]; rfl
  have N0 := Fr.nil n0
  refine own_fw (A' := (s₁.setTop (mkF m 0 #[.val (.ref a1), .val (.ref a2), .unset] []))) (fun t k => castTop (ef_rmSeq12 m a1 a2) k) ?_
  refine own_fw (A' := (s₁.setTop (mkF m 1 #[.val (.ref a1), .val (.ref a2), .unset] [(.ref a1)]))) (fun t k => XS.aloadN X0.here hx rfl (hb hby d_jdk_42_method_66_code_0) rfl rfl k) ?_
  refine own_fw (A' := (s₁.setTop (mkF m 2 #[.val (.ref a1), .val (.ref a2), .unset] [(.ref a2), (.ref a1)]))) (fun t k => XS.aloadN X0.here hx rfl (hb hby d_jdk_42_method_66_code_1) rfl rfl k) ?_
  refine own_fw (A' := (s₁.setTop (mkF m 7 #[.val (.ref a1), .val (.ref a2), .unset] []))) (fun t k => Jvm.RoadKit.acmp (g := (mkF m 2 #[.val (.ref a1), .val (.ref a2), .unset] [(.ref a2), (.ref a1)])) X0 hx rfl rfl rfl (pc0 := 2) (pc' := 7) (same := false) rfl (hb hby d_jdk_42_method_66_code_2) rfl (decide_eq_false (fun q => ne_a1_a2 (Value.ref.inj q))) (by decide) (by decide) k) ?_
  refine own_fw (A' := (s₁.setTop (mkF m 8 #[.val (.ref a1), .val (.ref a2), .unset] [(.ref a2)]))) (fun t k => XS.aloadN X0.here hx rfl (hb hby d_jdk_42_method_66_code_7) rfl rfl k) ?_
  obtain ⟨T1, X1, e1, st1⟩ := instY X0 hx hZ hown (hw _ (List.mem_of_getElem? (i := 63) rfl)) e0 (Ins.self P1) (g := (mkF m 8 #[.val (.ref a1), .val (.ref a2), .unset] [(.ref a2)])) rfl rfl (hb hby d_jdk_42_method_66_code_8)
  refine own_fw (A' := (T1.setTop (mkF m 11 #[.val (.ref a1), .val (.ref a2), .unset] [(.int (1 : Int32))]))) (fun t k => st1 _ k) ?_
  refine own_fw (A' := (T1.setTop (mkF m 14 #[.val (.ref a1), .val (.ref a2), .unset] []))) (fun t k => XS.ifNo X1.here hx rfl (hb hby d_jdk_42_method_66_code_11) rfl (XT.i0_eq_f (by decide)) k) ?_
  refine own_fw (A' := (T1.setTop (mkF m 15 #[.val (.ref a1), .val (.ref a2), .unset] [(.ref a2)]))) (fun t k => XS.aloadN X1.here hx rfl (hb hby d_jdk_42_method_66_code_14) rfl rfl k) ?_
  obtain ⟨T2, X2, e2, st2⟩ := castY X1 hx hZ hown (hw _ (List.mem_of_getElem? (i := 63) rfl)) e1 (Ins.self P1) (g := (mkF m 15 #[.val (.ref a1), .val (.ref a2), .unset] [(.ref a2)])) rfl rfl (hb hby d_jdk_42_method_66_code_15)
  refine own_fw (A' := (T2.setTop (mkF m 18 #[.val (.ref a1), .val (.ref a2), .unset] [(.ref a2)]))) (fun t k => st2 _ k) ?_
  refine own_fw (A' := (T2.setTop (mkF m 19 #[.val (.ref a1), .val (.ref a2), .val (.ref a2)] []))) (fun t k => XS.astoreN X2.here hx rfl (hb hby d_jdk_42_method_66_code_18) rfl rfl (l' := #[.val (.ref a1), .val (.ref a2), .val (.ref a2)]) rfl k) ?_
  obtain ⟨T3, X3, e3, st3⟩ := getS2 X2 hx hZ hown (host := "") (Or.inl (hw _ (List.mem_of_getElem? (i := 64) rfl))) Via.refl e2 P9 (g := (mkF m 19 #[.val (.ref a1), .val (.ref a2), .val (.ref a2)] [])) rfl (hb hby d_jdk_42_method_66_code_19)
  refine own_fw (A' := (T3.setTop (mkF m 22 #[.val (.ref a1), .val (.ref a2), .val (.ref a2)] [(.int cs)]))) (fun t k => st3 _ k) ?_
  refine own_fw (A' := (T3.setTop (mkF m 25 #[.val (.ref a1), .val (.ref a2), .val (.ref a2)] []))) (fun t k => XS.ifNo X3.here hx rfl (hb hby d_jdk_42_method_66_code_22) rfl (XT.i0_eq_f hcs) k) ?_
  refine own_fw (A' := (T3.setTop (mkF m 26 #[.val (.ref a1), .val (.ref a2), .val (.ref a2)] [(.ref a1)]))) (fun t k => XS.aloadN X3.here hx rfl (hb hby d_jdk_42_method_66_code_25) rfl rfl k) ?_
  obtain ⟨T4, X4, e4, st4⟩ := getF X3 hx hZ hown (host := "") (Or.inl (hw _ (List.mem_of_getElem? (i := 32) rfl))) Via.refl e3 P2 (g := (mkF m 26 #[.val (.ref a1), .val (.ref a2), .val (.ref a2)] [(.ref a1)])) rfl rfl (hb hby d_jdk_42_method_66_code_26)
  refine own_fw (A' := (T4.setTop (mkF m 29 #[.val (.ref a1), .val (.ref a2), .val (.ref a2)] [(.int (0 : Int32))]))) (fun t k => st4 _ k) ?_
  refine own_fw (A' := (T4.setTop (mkF m 30 #[.val (.ref a1), .val (.ref a2), .val (.ref a2)] [(.ref a2), (.int (0 : Int32))]))) (fun t k => XS.aloadN X4.here hx rfl (hb hby d_jdk_42_method_66_code_29) rfl rfl k) ?_
  obtain ⟨T5, X5, e5, st5⟩ := getF X4 hx hZ hown (host := "") (Or.inl (hw _ (List.mem_of_getElem? (i := 32) rfl))) Via.refl e4 P3 (g := (mkF m 30 #[.val (.ref a1), .val (.ref a2), .val (.ref a2)] [(.ref a2), (.int (0 : Int32))])) rfl rfl (hb hby d_jdk_42_method_66_code_30)
  refine own_fw (A' := (T5.setTop (mkF m 33 #[.val (.ref a1), .val (.ref a2), .val (.ref a2)] [(.int (0 : Int32)), (.int (0 : Int32))]))) (fun t k => st5 _ k) ?_
  refine own_fw (A' := (T5.setTop (mkF m 36 #[.val (.ref a1), .val (.ref a2), .val (.ref a2)] []))) (fun t k => XS.icmpNo X5.here hx rfl (hb hby d_jdk_42_method_66_code_33) rfl (XT.ii_ne_f rfl) k) ?_
  refine own_fw (A' := (T5.setTop (mkF m 37 #[.val (.ref a1), .val (.ref a2), .val (.ref a2)] [(.ref a1)]))) (fun t k => XS.aloadN X5.here hx rfl (hb hby d_jdk_42_method_66_code_36) rfl rfl k) ?_
  obtain ⟨T6, X6, e6, st6⟩ := getF X5 hx hZ hown (host := "") (Or.inl (hw _ (List.mem_of_getElem? (i := 31) rfl))) Via.refl e5 P4 (g := (mkF m 37 #[.val (.ref a1), .val (.ref a2), .val (.ref a2)] [(.ref a1)])) rfl rfl (hb hby d_jdk_42_method_66_code_37)
  refine own_fw (A' := (T6.setTop (mkF m 40 #[.val (.ref a1), .val (.ref a2), .val (.ref a2)] [(.ref b1)]))) (fun t k => st6 _ k) ?_
  refine own_fw (A' := (T6.setTop (mkF m 41 #[.val (.ref a1), .val (.ref a2), .val (.ref a2)] [(.ref a2), (.ref b1)]))) (fun t k => XS.aloadN X6.here hx rfl (hb hby d_jdk_42_method_66_code_40) rfl rfl k) ?_
  obtain ⟨T7, X7, e7, st7⟩ := getF X6 hx hZ hown (host := "") (Or.inl (hw _ (List.mem_of_getElem? (i := 31) rfl))) Via.refl e6 P5 (g := (mkF m 41 #[.val (.ref a1), .val (.ref a2), .val (.ref a2)] [(.ref a2), (.ref b1)])) rfl rfl (hb hby d_jdk_42_method_66_code_41)
  refine own_fw (A' := (T7.setTop (mkF m 44 #[.val (.ref a1), .val (.ref a2), .val (.ref a2)] [(.ref b2), (.ref b1)]))) (fun t k => st7 _ k) ?_
  obtain ⟨_, _, ⟨T8, L8, k8, n8⟩, -, X8, ⟨Lc8, hQ8, l8, y8, z8⟩, st8⟩ := Jvm.LawKit.callS X7 hx (y := (⟨"java/lang/StringLatin1", "equals", "([B[B)Z"⟩ : MethodName)) hown (mvT hZ (hw _ (List.mem_of_getElem? (i := 65) rfl))) (mvT hZ (hw _ (List.mem_of_getElem? (i := 66) rfl))) (mvT hZ (hw _ (List.mem_of_getElem? (i := 67) rfl))) (mvT hZ (hw _ (List.mem_of_getElem? (i := 68) rfl))) (by decide) (backOf (W := 0) (rmLeq12 l Z a0 hw [] b1 b2 k1 k2 x0 y0 y1 h0 n0 Z0 P6 P7) hZ (hw _ (List.mem_of_getElem? (i := 68) rfl)) (hw _ (List.mem_of_getElem? (i := 67) rfl)) (by decide) (by decide)) (g := (mkF m 44 #[.val (.ref a1), .val (.ref a2), .val (.ref a2)] [(.ref b2), (.ref b1)])) rfl (by rw [hml]; rfl) (argsL := [(.ref b1), (.ref b2)]) (rest := []) (lenOf pd___B_B_Z rfl) rfl (by show 2 * 0 + _ ≤ _; exact Nat.le_of_eq rfl) (hb hby d_jdk_42_method_66_code_44) (fun _ _ => ⟨rfl, e7, (by decide : 0 + 0 ≤ _), (by decide : 0 + 0 ≤ _)⟩)
  dsimp only [Pt.U, Pt.locs, Pt.cells, Pt.slots] at X8 l8 y8 z8 st8 hQ8
  subst l8 y8 z8
  obtain ⟨rfl, Nq8, e8⟩ := hQ8
  have Nf8 := Fr.app N0 Nq8
  refine own_fw (A' := (T8.setTop (mkF m 47 #[.val (.ref a1), .val (.ref a2), .val (.ref a2)] [(.int (0 : Int32))]))) (fun t k => st8 _ k) ?_
  by_cases hc9 : (0 : Int32) = (0 : Int32)
  · refine own_fw (A' := (T8.setTop (mkF m 54 #[.val (.ref a1), .val (.ref a2), .val (.ref a2)] []))) (fun t k => XS.ifYes X8.here hx rfl (pc0 := 47) (pc' := 54) rfl (hb hby d_jdk_42_method_66_code_47) rfl (XT.i0_eq_t hc9) (by decide) (by decide) k) ?_
    refine own_fw (A' := (T8.setTop (mkF m 55 #[.val (.ref a1), .val (.ref a2), .val (.ref a2)] [(.int (0 : Int32))]))) (fun t k => XS.iconst X8.here hx rfl (hb hby d_jdk_42_method_66_code_54) k) ?_
    obtain ⟨fs, hr, hrun, hended, hW, hsame⟩ := X8.leave (v := some (.int (0 : Int32))) (fun h => by rw [Bd.returns] at h; cases h)
    refine ⟨_, _, ?_, hrun, hended, _, _, rfl, ?_, ⟨_, rfl⟩, hW, hsame.mono (by decide) (by decide)⟩
    · exact retOut X8 hx Bd.returns rfl (Or.inl ⟨rfl, by simp, _, rfl⟩) (hb hby d_jdk_42_method_66_code_55) hr
    · show Q_rmSeq12 Z a1 a2 b1 b2 k1 k2 cs x0 y0 y1 h0 n0 _ T8.heap _
      rw [e8]
      exact ⟨rfl, Nf8, rfl⟩
  · refine own_fw (A' := (T8.setTop (mkF m 50 #[.val (.ref a1), .val (.ref a2), .val (.ref a2)] []))) (fun t k => XS.ifNo X8.here hx rfl (hb hby d_jdk_42_method_66_code_47) rfl (XT.i0_eq_f hc9) k) ?_
    refine own_fw (A' := (T8.setTop (mkF m 51 #[.val (.ref a1), .val (.ref a2), .val (.ref a2)] [(.int (1 : Int32))]))) (fun t k => XS.iconst X8.here hx rfl (hb hby d_jdk_42_method_66_code_50) k) ?_
    refine own_fw (A' := (T8.setTop (mkF m 55 #[.val (.ref a1), .val (.ref a2), .val (.ref a2)] [(.int (1 : Int32))]))) (fun t k => XS.goto X8.here hx rfl (pc0 := 51) (pc' := 55) rfl (hb hby d_jdk_42_method_66_code_51) (by decide) (by decide) k) ?_
    obtain ⟨fs, hr, hrun, hended, hW, hsame⟩ := X8.leave (v := some (.int (1 : Int32))) (fun h => by rw [Bd.returns] at h; cases h)
    refine ⟨_, _, ?_, hrun, hended, _, _, rfl, ?_, ⟨_, rfl⟩, hW, hsame.mono (by decide) (by decide)⟩
    · exact retOut X8 hx Bd.returns rfl (Or.inl ⟨rfl, by simp, _, rfl⟩) (hb hby d_jdk_42_method_66_code_55) hr
    · show Q_rmSeq12 Z a1 a2 b1 b2 k1 k2 cs x0 y0 y1 h0 n0 _ T8.heap _
      rw [e8]
      exact ⟨(by first | rfl | (have q := hc9; revert q; (repeat' split) <;> simp)), Nf8, rfl⟩
theorem ef_rmLeq20 (m : MethodId) (a1 : Addr) (a2 : Addr) : entryFrame m #[(.ref a1), (.ref a2)] 3 = mkF m 0 #[.val (.ref a1), .val (.ref a2), .unset] [] := by first | (simp [entryFrame, mkF, argsToLocals, Value.category]; done) | rfl
def Q_rmLeq20 (Z : State) (a1 : Addr) (a2 : Addr) (k1 : ClassId) (k2 : ClassId) (x0 : Int32) (x1 : Int32) (h0 : Heap) (n0 : Nat) (v : Option Value) (h : Heap) (L : List Loc) : Prop := v = some (.int (0 : Int32)) ∧ Fr n0 L ∧ h = h0
set_option maxRecDepth 65536 in
set_option maxHeartbeats 40000000 in
theorem rmLeq20 (l : Launch) (Z : State) (a0 : Array Value) (hw : ∀ d ∈ tables_1, d.before a0 Z = true) (ws : List Jvm.Cond) (a1 : Addr) (a2 : Addr) (k1 : ClassId) (k2 : ClassId) (x0 : Int32) (x1 : Int32) (h0 : Heap) (n0 : Nat) (Z0 : n0 ≤ h0.size) (P0 : Arv Z h0 a1 k1 .byte (2 : Int32) [(.int x0), (.int x1)] (.int (0 : Int32))) (P1 : Arv Z h0 a2 k2 .byte (0 : Int32) [] (.int (0 : Int32))) :
    MetFree l (⟨"java/lang/StringLatin1", "equals", "([B[B)Z"⟩ : MethodName) (head1 (Jvm.Cond.code (⟨"java/lang/StringLatin1", "equals", "([B[B)Z"⟩ : MethodName) jdk_43_method_13_code 3 (some .boolean) :: ws) ({ frames := 0, cells := 0, slots := 0, locals := 0 } : Room)) (fun a U => a = #[(.ref a1), (.ref a2)] ∧ Z.Warmed39 U.vm ∧ U.heap = h0) (fun _ _ _ _ _ => True) (fun _ U o U' => ∃ v L, o = .returned v ∧ Q_rmLeq20 Z a1 a2 k1 k2 x0 x1 h0 n0 v U'.heap L ∧ FrameEnd U o U' L ({ frames := 0, cells := 0, slots := 0, locals := 0 } : Room).cells ({ frames := 0, cells := 0, slots := 0, locals := 0 } : Room).slots) := by
  refine MetFree.of_bodySF (plainFor_of_name pn_java_lang_StringLatin1) hisR ?_
  intro p e s m args below meth c s₁ Bd hml0 hP hK
  obtain ⟨rfl, hZ, hh⟩ := hP
  have hx := Bd.exec
  have hby := Bd.bytes
  have hml : c.maxLocals = 3 := hml0
  have hown : s.vm.findClass "java/lang/StringLatin1" = some m.cls := findClass_of_methodNamed Bd.named
  have hnm := (name_of_methodNamed Bd.named Bd.method).1
  have X0 : Stand p l e ({ frames := 0, cells := 0, slots := 0, locals := 0 } : Room) s m #[(.ref a1), (.ref a2)] below meth c s₁ [] 0 0 := Stand.of_body Bd
  have e0 : s₁.heap = h0 := by rw [← hh, Bd.state]; rfl
  have N0 := Fr.nil n0
  refine own_fw (A' := (s₁.setTop (mkF m 0 #[.val (.ref a1), .val (.ref a2), .unset] []))) (fun t k => castTop (ef_rmLeq20 m a1 a2) k) ?_
  refine own_fw (A' := (s₁.setTop (mkF m 1 #[.val (.ref a1), .val (.ref a2), .unset] [(.ref a1)]))) (fun t k => XS.aloadN X0.here hx rfl (hb hby d_jdk_43_method_13_code_0) rfl rfl k) ?_
  obtain ⟨cl1, Ar1, q1, S1, M1, H1, G1⟩ := id P0
  refine own_fw (A' := (s₁.setTop (mkF m 2 #[.val (.ref a1), .val (.ref a2), .unset] [(.int (2 : Int32))]))) (fun t k => X0.arraylength hx (by rw [e0]; exact Ar1.1) (State.isArrayOf_alike hZ.alike Ar1.2.1) (g := (mkF m 1 #[.val (.ref a1), .val (.ref a2), .unset] [(.ref a1)])) rfl rfl (hb hby d_jdk_43_method_13_code_1) _ (by rw [len_of S1 M1]; exact k)) ?_
  refine own_fw (A' := (s₁.setTop (mkF m 3 #[.val (.ref a1), .val (.ref a2), .unset] [(.ref a2), (.int (2 : Int32))]))) (fun t k => XS.aloadN X0.here hx rfl (hb hby d_jdk_43_method_13_code_2) rfl rfl k) ?_
  obtain ⟨cl2, Ar2, q2, S2, M2, H2, G2⟩ := id P1
  refine own_fw (A' := (s₁.setTop (mkF m 4 #[.val (.ref a1), .val (.ref a2), .unset] [(.int (0 : Int32)), (.int (2 : Int32))]))) (fun t k => X0.arraylength hx (by rw [e0]; exact Ar2.1) (State.isArrayOf_alike hZ.alike Ar2.2.1) (g := (mkF m 3 #[.val (.ref a1), .val (.ref a2), .unset] [(.ref a2), (.int (2 : Int32))])) rfl rfl (hb hby d_jdk_43_method_13_code_3) _ (by rw [len_of S2 M2]; exact k)) ?_
  refine own_fw (A' := (s₁.setTop (mkF m 34 #[.val (.ref a1), .val (.ref a2), .unset] []))) (fun t k => XS.icmpYes X0.here hx rfl (pc0 := 4) (pc' := 34) rfl (hb hby d_jdk_43_method_13_code_4) rfl (XT.ii_ne_t (by decide)) (by decide) (by decide) k) ?_
  refine own_fw (A' := (s₁.setTop (mkF m 35 #[.val (.ref a1), .val (.ref a2), .unset] [(.int (0 : Int32))]))) (fun t k => XS.iconst X0.here hx rfl (hb hby d_jdk_43_method_13_code_34) k) ?_
  obtain ⟨fs, hr, hrun, hended, hW, hsame⟩ := X0.leave (v := some (.int (0 : Int32))) (fun h => by rw [Bd.returns] at h; cases h)
  refine ⟨_, _, ?_, hrun, hended, _, _, rfl, ?_, ⟨_, rfl⟩, hW, hsame.mono (by decide) (by decide)⟩
  · exact retOut X0 hx Bd.returns rfl (Or.inl ⟨rfl, by simp, _, rfl⟩) (hb hby d_jdk_43_method_13_code_35) hr
  · show Q_rmLeq20 Z a1 a2 k1 k2 x0 x1 h0 n0 _ s₁.heap _
    rw [e0]
    exact ⟨rfl, N0, rfl⟩
theorem ef_rmSeq20 (m : MethodId) (a1 : Addr) (a2 : Addr) : entryFrame m #[(.ref a1), (.ref a2)] 3 = mkF m 0 #[.val (.ref a1), .val (.ref a2), .unset] [] := by first | (simp [entryFrame, mkF, argsToLocals, Value.category]; done) | rfl
def Q_rmSeq20 (Z : State) (a1 : Addr) (a2 : Addr) (b1 : Addr) (b2 : Addr) (k1 : ClassId) (k2 : ClassId) (cs : Int32) (x0 : Int32) (x1 : Int32) (h0 : Heap) (n0 : Nat) (v : Option Value) (h : Heap) (L : List Loc) : Prop := v = some (.int (0 : Int32)) ∧ Fr n0 L ∧ h = h0
set_option maxRecDepth 65536 in
set_option maxHeartbeats 40000000 in
theorem rmSeq20 (l : Launch) (Z : State) (a0 : Array Value) (hw : ∀ d ∈ tables_1, d.before a0 Z = true) (ws : List Jvm.Cond) (a1 : Addr) (a2 : Addr) (b1 : Addr) (b2 : Addr) (k1 : ClassId) (k2 : ClassId) (cs : Int32) (x0 : Int32) (x1 : Int32) (h0 : Heap) (n0 : Nat) (Z0 : n0 ≤ h0.size) (P0 : Exa Z h0 a1 "java/lang/String") (P1 : Exa Z h0 a2 "java/lang/String") (P2 : Fld Z h0 a1 "java/lang/String" "coder" "B" (.int (0 : Int32))) (P3 : Fld Z h0 a2 "java/lang/String" "coder" "B" (.int (0 : Int32))) (P4 : Fld Z h0 a1 "java/lang/String" "value" "[B" (.ref b1)) (P5 : Fld Z h0 a2 "java/lang/String" "value" "[B" (.ref b2)) (P6 : Arv Z h0 b1 k1 .byte (2 : Int32) [(.int x0), (.int x1)] (.int (0 : Int32))) (P7 : Arv Z h0 b2 k2 .byte (0 : Int32) [] (.int (0 : Int32))) (ne_a1_a2 : a1 ≠ a2) (P9 : Sta Z h0 "java/lang/String" "COMPACT_STRINGS" "Z" (.int cs)) (hcs : ¬ (cs = (0 : Int32))) :
    MetFree l (⟨"java/lang/String", "equals", "(Ljava/lang/Object;)Z"⟩ : MethodName) (head1 (Jvm.Cond.code (⟨"java/lang/String", "equals", "(Ljava/lang/Object;)Z"⟩ : MethodName) jdk_42_method_66_code 3 (some .boolean) :: ws) ({ frames := 1, cells := 0, slots := 0, locals := 14 } : Room)) (fun a U => a = #[(.ref a1), (.ref a2)] ∧ Z.Warmed39 U.vm ∧ U.heap = h0) (fun _ _ _ _ _ => True) (fun _ U o U' => ∃ v L, o = .returned v ∧ Q_rmSeq20 Z a1 a2 b1 b2 k1 k2 cs x0 x1 h0 n0 v U'.heap L ∧ FrameEnd U o U' L ({ frames := 1, cells := 0, slots := 0, locals := 14 } : Room).cells ({ frames := 1, cells := 0, slots := 0, locals := 14 } : Room).slots) := by
  refine MetFree.of_bodySF (plainFor_of_name pn_java_lang_String) hisR ?_
  intro p e s m args below meth c s₁ Bd hml0 hP hK
  obtain ⟨rfl, hZ, hh⟩ := hP
  have hx := Bd.exec
  have hby := Bd.bytes
  have hml : c.maxLocals = 3 := hml0
  have hown : s.vm.findClass "java/lang/String" = some m.cls := findClass_of_methodNamed Bd.named
  have hnm := (name_of_methodNamed Bd.named Bd.method).1
  have X0 : Stand p l e ({ frames := 1, cells := 0, slots := 0, locals := 14 } : Room) s m #[(.ref a1), (.ref a2)] below meth c s₁ [] 0 0 := Stand.of_body Bd
  have e0 : s₁.heap = h0 := by rw [← hh, Bd.state]; rfl
  have N0 := Fr.nil n0
  refine own_fw (A' := (s₁.setTop (mkF m 0 #[.val (.ref a1), .val (.ref a2), .unset] []))) (fun t k => castTop (ef_rmSeq20 m a1 a2) k) ?_
  refine own_fw (A' := (s₁.setTop (mkF m 1 #[.val (.ref a1), .val (.ref a2), .unset] [(.ref a1)]))) (fun t k => XS.aloadN X0.here hx rfl (hb hby d_jdk_42_method_66_code_0) rfl rfl k) ?_
  refine own_fw (A' := (s₁.setTop (mkF m 2 #[.val (.ref a1), .val (.ref a2), .unset] [(.ref a2), (.ref a1)]))) (fun t k => XS.aloadN X0.here hx rfl (hb hby d_jdk_42_method_66_code_1) rfl rfl k) ?_
  refine own_fw (A' := (s₁.setTop (mkF m 7 #[.val (.ref a1), .val (.ref a2), .unset] []))) (fun t k => Jvm.RoadKit.acmp (g := (mkF m 2 #[.val (.ref a1), .val (.ref a2), .unset] [(.ref a2), (.ref a1)])) X0 hx rfl rfl rfl (pc0 := 2) (pc' := 7) (same := false) rfl (hb hby d_jdk_42_method_66_code_2) rfl (decide_eq_false (fun q => ne_a1_a2 (Value.ref.inj q))) (by decide) (by decide) k) ?_
  refine own_fw (A' := (s₁.setTop (mkF m 8 #[.val (.ref a1), .val (.ref a2), .unset] [(.ref a2)]))) (fun t k => XS.aloadN X0.here hx rfl (hb hby d_jdk_42_method_66_code_7) rfl rfl k) ?_
  obtain ⟨T1, X1, e1, st1⟩ := instY X0 hx hZ hown (hw _ (List.mem_of_getElem? (i := 63) rfl)) e0 (Ins.self P1) (g := (mkF m 8 #[.val (.ref a1), .val (.ref a2), .unset] [(.ref a2)])) rfl rfl (hb hby d_jdk_42_method_66_code_8)
  refine own_fw (A' := (T1.setTop (mkF m 11 #[.val (.ref a1), .val (.ref a2), .unset] [(.int (1 : Int32))]))) (fun t k => st1 _ k) ?_
  refine own_fw (A' := (T1.setTop (mkF m 14 #[.val (.ref a1), .val (.ref a2), .unset] []))) (fun t k => XS.ifNo X1.here hx rfl (hb hby d_jdk_42_method_66_code_11) rfl (XT.i0_eq_f (by decide)) k) ?_
  refine own_fw (A' := (T1.setTop (mkF m 15 #[.val (.ref a1), .val (.ref a2), .unset] [(.ref a2)]))) (fun t k => XS.aloadN X1.here hx rfl (hb hby d_jdk_42_method_66_code_14) rfl rfl k) ?_
  obtain ⟨T2, X2, e2, st2⟩ := castY X1 hx hZ hown (hw _ (List.mem_of_getElem? (i := 63) rfl)) e1 (Ins.self P1) (g := (mkF m 15 #[.val (.ref a1), .val (.ref a2), .unset] [(.ref a2)])) rfl rfl (hb hby d_jdk_42_method_66_code_15)
  refine own_fw (A' := (T2.setTop (mkF m 18 #[.val (.ref a1), .val (.ref a2), .unset] [(.ref a2)]))) (fun t k => st2 _ k) ?_
  refine own_fw (A' := (T2.setTop (mkF m 19 #[.val (.ref a1), .val (.ref a2), .val (.ref a2)] []))) (fun t k => XS.astoreN X2.here hx rfl (hb hby d_jdk_42_method_66_code_18) rfl rfl (l' := #[.val (.ref a1), .val (.ref a2), .val (.ref a2)]) rfl k) ?_
  obtain ⟨T3, X3, e3, st3⟩ := getS2 X2 hx hZ hown (host := "") (Or.inl (hw _ (List.mem_of_getElem? (i := 64) rfl))) Via.refl e2 P9 (g := (mkF m 19 #[.val (.ref a1), .val (.ref a2), .val (.ref a2)] [])) rfl (hb hby d_jdk_42_method_66_code_19)
  refine own_fw (A' := (T3.setTop (mkF m 22 #[.val (.ref a1), .val (.ref a2), .val (.ref a2)] [(.int cs)]))) (fun t k => st3 _ k) ?_
  refine own_fw (A' := (T3.setTop (mkF m 25 #[.val (.ref a1), .val (.ref a2), .val (.ref a2)] []))) (fun t k => XS.ifNo X3.here hx rfl (hb hby d_jdk_42_method_66_code_22) rfl (XT.i0_eq_f hcs) k) ?_
  refine own_fw (A' := (T3.setTop (mkF m 26 #[.val (.ref a1), .val (.ref a2), .val (.ref a2)] [(.ref a1)]))) (fun t k => XS.aloadN X3.here hx rfl (hb hby d_jdk_42_method_66_code_25) rfl rfl k) ?_
  obtain ⟨T4, X4, e4, st4⟩ := getF X3 hx hZ hown (host := "") (Or.inl (hw _ (List.mem_of_getElem? (i := 32) rfl))) Via.refl e3 P2 (g := (mkF m 26 #[.val (.ref a1), .val (.ref a2), .val (.ref a2)] [(.ref a1)])) rfl rfl (hb hby d_jdk_42_method_66_code_26)
  refine own_fw (A' := (T4.setTop (mkF m 29 #[.val (.ref a1), .val (.ref a2), .val (.ref a2)] [(.int (0 : Int32))]))) (fun t k => st4 _ k) ?_
  refine own_fw (A' := (T4.setTop (mkF m 30 #[.val (.ref a1), .val (.ref a2), .val (.ref a2)] [(.ref a2), (.int (0 : Int32))]))) (fun t k => XS.aloadN X4.here hx rfl (hb hby d_jdk_42_method_66_code_29) rfl rfl k) ?_
  obtain ⟨T5, X5, e5, st5⟩ := getF X4 hx hZ hown (host := "") (Or.inl (hw _ (List.mem_of_getElem? (i := 32) rfl))) Via.refl e4 P3 (g := (mkF m 30 #[.val (.ref a1), .val (.ref a2), .val (.ref a2)] [(.ref a2), (.int (0 : Int32))])) rfl rfl (hb hby d_jdk_42_method_66_code_30)
  refine own_fw (A' := (T5.setTop (mkF m 33 #[.val (.ref a1), .val (.ref a2), .val (.ref a2)] [(.int (0 : Int32)), (.int (0 : Int32))]))) (fun t k => st5 _ k) ?_
  refine own_fw (A' := (T5.setTop (mkF m 36 #[.val (.ref a1), .val (.ref a2), .val (.ref a2)] []))) (fun t k => XS.icmpNo X5.here hx rfl (hb hby d_jdk_42_method_66_code_33) rfl (XT.ii_ne_f rfl) k) ?_
  refine own_fw (A' := (T5.setTop (mkF m 37 #[.val (.ref a1), .val (.ref a2), .val (.ref a2)] [(.ref a1)]))) (fun t k => XS.aloadN X5.here hx rfl (hb hby d_jdk_42_method_66_code_36) rfl rfl k) ?_
  obtain ⟨T6, X6, e6, st6⟩ := getF X5 hx hZ hown (host := "") (Or.inl (hw _ (List.mem_of_getElem? (i := 31) rfl))) Via.refl e5 P4 (g := (mkF m 37 #[.val (.ref a1), .val (.ref a2), .val (.ref a2)] [(.ref a1)])) rfl rfl (hb hby d_jdk_42_method_66_code_37)
  refine own_fw (A' := (T6.setTop (mkF m 40 #[.val (.ref a1), .val (.ref a2), .val (.ref a2)] [(.ref b1)]))) (fun t k => st6 _ k) ?_
  refine own_fw (A' := (T6.setTop (mkF m 41 #[.val (.ref a1), .val (.ref a2), .val (.ref a2)] [(.ref a2), (.ref b1)]))) (fun t k => XS.aloadN X6.here hx rfl (hb hby d_jdk_42_method_66_code_40) rfl rfl k) ?_
  obtain ⟨T7, X7, e7, st7⟩ := getF X6 hx hZ hown (host := "") (Or.inl (hw _ (List.mem_of_getElem? (i := 31) rfl))) Via.refl e6 P5 (g := (mkF m 41 #[.val (.ref a1), .val (.ref a2), .val (.ref a2)] [(.ref a2), (.ref b1)])) rfl rfl (hb hby d_jdk_42_method_66_code_41)
  refine own_fw (A' := (T7.setTop (mkF m 44 #[.val (.ref a1), .val (.ref a2), .val (.ref a2)] [(.ref b2), (.ref b1)]))) (fun t k => st7 _ k) ?_
  obtain ⟨_, _, ⟨T8, L8, k8, n8⟩, -, X8, ⟨Lc8, hQ8, l8, y8, z8⟩, st8⟩ := Jvm.LawKit.callS X7 hx (y := (⟨"java/lang/StringLatin1", "equals", "([B[B)Z"⟩ : MethodName)) hown (mvT hZ (hw _ (List.mem_of_getElem? (i := 65) rfl))) (mvT hZ (hw _ (List.mem_of_getElem? (i := 66) rfl))) (mvT hZ (hw _ (List.mem_of_getElem? (i := 67) rfl))) (mvT hZ (hw _ (List.mem_of_getElem? (i := 68) rfl))) (by decide) (backOf (W := 0) (rmLeq20 l Z a0 hw [] b1 b2 k1 k2 x0 x1 h0 n0 Z0 P6 P7) hZ (hw _ (List.mem_of_getElem? (i := 68) rfl)) (hw _ (List.mem_of_getElem? (i := 67) rfl)) (by decide) (by decide)) (g := (mkF m 44 #[.val (.ref a1), .val (.ref a2), .val (.ref a2)] [(.ref b2), (.ref b1)])) rfl (by rw [hml]; rfl) (argsL := [(.ref b1), (.ref b2)]) (rest := []) (lenOf pd___B_B_Z rfl) rfl (by show 2 * 0 + _ ≤ _; exact Nat.le_of_eq rfl) (hb hby d_jdk_42_method_66_code_44) (fun _ _ => ⟨rfl, e7, (by decide : 0 + 0 ≤ _), (by decide : 0 + 0 ≤ _)⟩)
  dsimp only [Pt.U, Pt.locs, Pt.cells, Pt.slots] at X8 l8 y8 z8 st8 hQ8
  subst l8 y8 z8
  obtain ⟨rfl, Nq8, e8⟩ := hQ8
  have Nf8 := Fr.app N0 Nq8
  refine own_fw (A' := (T8.setTop (mkF m 47 #[.val (.ref a1), .val (.ref a2), .val (.ref a2)] [(.int (0 : Int32))]))) (fun t k => st8 _ k) ?_
  by_cases hc9 : (0 : Int32) = (0 : Int32)
  · refine own_fw (A' := (T8.setTop (mkF m 54 #[.val (.ref a1), .val (.ref a2), .val (.ref a2)] []))) (fun t k => XS.ifYes X8.here hx rfl (pc0 := 47) (pc' := 54) rfl (hb hby d_jdk_42_method_66_code_47) rfl (XT.i0_eq_t hc9) (by decide) (by decide) k) ?_
    refine own_fw (A' := (T8.setTop (mkF m 55 #[.val (.ref a1), .val (.ref a2), .val (.ref a2)] [(.int (0 : Int32))]))) (fun t k => XS.iconst X8.here hx rfl (hb hby d_jdk_42_method_66_code_54) k) ?_
    obtain ⟨fs, hr, hrun, hended, hW, hsame⟩ := X8.leave (v := some (.int (0 : Int32))) (fun h => by rw [Bd.returns] at h; cases h)
    refine ⟨_, _, ?_, hrun, hended, _, _, rfl, ?_, ⟨_, rfl⟩, hW, hsame.mono (by decide) (by decide)⟩
    · exact retOut X8 hx Bd.returns rfl (Or.inl ⟨rfl, by simp, _, rfl⟩) (hb hby d_jdk_42_method_66_code_55) hr
    · show Q_rmSeq20 Z a1 a2 b1 b2 k1 k2 cs x0 x1 h0 n0 _ T8.heap _
      rw [e8]
      exact ⟨rfl, Nf8, rfl⟩
  · refine own_fw (A' := (T8.setTop (mkF m 50 #[.val (.ref a1), .val (.ref a2), .val (.ref a2)] []))) (fun t k => XS.ifNo X8.here hx rfl (hb hby d_jdk_42_method_66_code_47) rfl (XT.i0_eq_f hc9) k) ?_
    refine own_fw (A' := (T8.setTop (mkF m 51 #[.val (.ref a1), .val (.ref a2), .val (.ref a2)] [(.int (1 : Int32))]))) (fun t k => XS.iconst X8.here hx rfl (hb hby d_jdk_42_method_66_code_50) k) ?_
    refine own_fw (A' := (T8.setTop (mkF m 55 #[.val (.ref a1), .val (.ref a2), .val (.ref a2)] [(.int (1 : Int32))]))) (fun t k => XS.goto X8.here hx rfl (pc0 := 51) (pc' := 55) rfl (hb hby d_jdk_42_method_66_code_51) (by decide) (by decide) k) ?_
    obtain ⟨fs, hr, hrun, hended, hW, hsame⟩ := X8.leave (v := some (.int (1 : Int32))) (fun h => by rw [Bd.returns] at h; cases h)
    refine ⟨_, _, ?_, hrun, hended, _, _, rfl, ?_, ⟨_, rfl⟩, hW, hsame.mono (by decide) (by decide)⟩
    · exact retOut X8 hx Bd.returns rfl (Or.inl ⟨rfl, by simp, _, rfl⟩) (hb hby d_jdk_42_method_66_code_55) hr
    · show Q_rmSeq20 Z a1 a2 b1 b2 k1 k2 cs x0 x1 h0 n0 _ T8.heap _
      rw [e8]
      exact ⟨(by first | rfl | (have q := hc9; revert q; (repeat' split) <;> simp)), Nf8, rfl⟩
theorem ef_rmLeq21 (m : MethodId) (a1 : Addr) (a2 : Addr) : entryFrame m #[(.ref a1), (.ref a2)] 3 = mkF m 0 #[.val (.ref a1), .val (.ref a2), .unset] [] := by first | (simp [entryFrame, mkF, argsToLocals, Value.category]; done) | rfl
def Q_rmLeq21 (Z : State) (a1 : Addr) (a2 : Addr) (k1 : ClassId) (k2 : ClassId) (x0 : Int32) (x1 : Int32) (y0 : Int32) (h0 : Heap) (n0 : Nat) (v : Option Value) (h : Heap) (L : List Loc) : Prop := v = some (.int (0 : Int32)) ∧ Fr n0 L ∧ h = h0
set_option maxRecDepth 65536 in
set_option maxHeartbeats 40000000 in
theorem rmLeq21 (l : Launch) (Z : State) (a0 : Array Value) (hw : ∀ d ∈ tables_1, d.before a0 Z = true) (ws : List Jvm.Cond) (a1 : Addr) (a2 : Addr) (k1 : ClassId) (k2 : ClassId) (x0 : Int32) (x1 : Int32) (y0 : Int32) (h0 : Heap) (n0 : Nat) (Z0 : n0 ≤ h0.size) (P0 : Arv Z h0 a1 k1 .byte (2 : Int32) [(.int x0), (.int x1)] (.int (0 : Int32))) (P1 : Arv Z h0 a2 k2 .byte (1 : Int32) [(.int y0)] (.int (0 : Int32))) :
    MetFree l (⟨"java/lang/StringLatin1", "equals", "([B[B)Z"⟩ : MethodName) (head1 (Jvm.Cond.code (⟨"java/lang/StringLatin1", "equals", "([B[B)Z"⟩ : MethodName) jdk_43_method_13_code 3 (some .boolean) :: ws) ({ frames := 0, cells := 0, slots := 0, locals := 0 } : Room)) (fun a U => a = #[(.ref a1), (.ref a2)] ∧ Z.Warmed39 U.vm ∧ U.heap = h0) (fun _ _ _ _ _ => True) (fun _ U o U' => ∃ v L, o = .returned v ∧ Q_rmLeq21 Z a1 a2 k1 k2 x0 x1 y0 h0 n0 v U'.heap L ∧ FrameEnd U o U' L ({ frames := 0, cells := 0, slots := 0, locals := 0 } : Room).cells ({ frames := 0, cells := 0, slots := 0, locals := 0 } : Room).slots) := by
  refine MetFree.of_bodySF (plainFor_of_name pn_java_lang_StringLatin1) hisR ?_
  intro p e s m args below meth c s₁ Bd hml0 hP hK
  obtain ⟨rfl, hZ, hh⟩ := hP
  have hx := Bd.exec
  have hby := Bd.bytes
  have hml : c.maxLocals = 3 := hml0
  have hown : s.vm.findClass "java/lang/StringLatin1" = some m.cls := findClass_of_methodNamed Bd.named
  have hnm := (name_of_methodNamed Bd.named Bd.method).1
  have X0 : Stand p l e ({ frames := 0, cells := 0, slots := 0, locals := 0 } : Room) s m #[(.ref a1), (.ref a2)] below meth c s₁ [] 0 0 := Stand.of_body Bd
  have e0 : s₁.heap = h0 := by rw [← hh, Bd.state]; rfl
  have N0 := Fr.nil n0
  refine own_fw (A' := (s₁.setTop (mkF m 0 #[.val (.ref a1), .val (.ref a2), .unset] []))) (fun t k => castTop (ef_rmLeq21 m a1 a2) k) ?_
  refine own_fw (A' := (s₁.setTop (mkF m 1 #[.val (.ref a1), .val (.ref a2), .unset] [(.ref a1)]))) (fun t k => XS.aloadN X0.here hx rfl (hb hby d_jdk_43_method_13_code_0) rfl rfl k) ?_
  obtain ⟨cl1, Ar1, q1, S1, M1, H1, G1⟩ := id P0
  refine own_fw (A' := (s₁.setTop (mkF m 2 #[.val (.ref a1), .val (.ref a2), .unset] [(.int (2 : Int32))]))) (fun t k => X0.arraylength hx (by rw [e0]; exact Ar1.1) (State.isArrayOf_alike hZ.alike Ar1.2.1) (g := (mkF m 1 #[.val (.ref a1), .val (.ref a2), .unset] [(.ref a1)])) rfl rfl (hb hby d_jdk_43_method_13_code_1) _ (by rw [len_of S1 M1]; exact k)) ?_
  refine own_fw (A' := (s₁.setTop (mkF m 3 #[.val (.ref a1), .val (.ref a2), .unset] [(.ref a2), (.int (2 : Int32))]))) (fun t k => XS.aloadN X0.here hx rfl (hb hby d_jdk_43_method_13_code_2) rfl rfl k) ?_
  obtain ⟨cl2, Ar2, q2, S2, M2, H2, G2⟩ := id P1
  refine own_fw (A' := (s₁.setTop (mkF m 4 #[.val (.ref a1), .val (.ref a2), .unset] [(.int (1 : Int32)), (.int (2 : Int32))]))) (fun t k => X0.arraylength hx (by rw [e0]; exact Ar2.1) (State.isArrayOf_alike hZ.alike Ar2.2.1) (g := (mkF m 3 #[.val (.ref a1), .val (.ref a2), .unset] [(.ref a2), (.int (2 : Int32))])) rfl rfl (hb hby d_jdk_43_method_13_code_3) _ (by rw [len_of S2 M2]; exact k)) ?_
  refine own_fw (A' := (s₁.setTop (mkF m 34 #[.val (.ref a1), .val (.ref a2), .unset] []))) (fun t k => XS.icmpYes X0.here hx rfl (pc0 := 4) (pc' := 34) rfl (hb hby d_jdk_43_method_13_code_4) rfl (XT.ii_ne_t (by decide)) (by decide) (by decide) k) ?_
  refine own_fw (A' := (s₁.setTop (mkF m 35 #[.val (.ref a1), .val (.ref a2), .unset] [(.int (0 : Int32))]))) (fun t k => XS.iconst X0.here hx rfl (hb hby d_jdk_43_method_13_code_34) k) ?_
  obtain ⟨fs, hr, hrun, hended, hW, hsame⟩ := X0.leave (v := some (.int (0 : Int32))) (fun h => by rw [Bd.returns] at h; cases h)
  refine ⟨_, _, ?_, hrun, hended, _, _, rfl, ?_, ⟨_, rfl⟩, hW, hsame.mono (by decide) (by decide)⟩
  · exact retOut X0 hx Bd.returns rfl (Or.inl ⟨rfl, by simp, _, rfl⟩) (hb hby d_jdk_43_method_13_code_35) hr
  · show Q_rmLeq21 Z a1 a2 k1 k2 x0 x1 y0 h0 n0 _ s₁.heap _
    rw [e0]
    exact ⟨rfl, N0, rfl⟩
theorem ef_rmSeq21 (m : MethodId) (a1 : Addr) (a2 : Addr) : entryFrame m #[(.ref a1), (.ref a2)] 3 = mkF m 0 #[.val (.ref a1), .val (.ref a2), .unset] [] := by first | (simp [entryFrame, mkF, argsToLocals, Value.category]; done) | rfl
def Q_rmSeq21 (Z : State) (a1 : Addr) (a2 : Addr) (b1 : Addr) (b2 : Addr) (k1 : ClassId) (k2 : ClassId) (cs : Int32) (x0 : Int32) (x1 : Int32) (y0 : Int32) (h0 : Heap) (n0 : Nat) (v : Option Value) (h : Heap) (L : List Loc) : Prop := v = some (.int (0 : Int32)) ∧ Fr n0 L ∧ h = h0
set_option maxRecDepth 65536 in
set_option maxHeartbeats 40000000 in
theorem rmSeq21 (l : Launch) (Z : State) (a0 : Array Value) (hw : ∀ d ∈ tables_1, d.before a0 Z = true) (ws : List Jvm.Cond) (a1 : Addr) (a2 : Addr) (b1 : Addr) (b2 : Addr) (k1 : ClassId) (k2 : ClassId) (cs : Int32) (x0 : Int32) (x1 : Int32) (y0 : Int32) (h0 : Heap) (n0 : Nat) (Z0 : n0 ≤ h0.size) (P0 : Exa Z h0 a1 "java/lang/String") (P1 : Exa Z h0 a2 "java/lang/String") (P2 : Fld Z h0 a1 "java/lang/String" "coder" "B" (.int (0 : Int32))) (P3 : Fld Z h0 a2 "java/lang/String" "coder" "B" (.int (0 : Int32))) (P4 : Fld Z h0 a1 "java/lang/String" "value" "[B" (.ref b1)) (P5 : Fld Z h0 a2 "java/lang/String" "value" "[B" (.ref b2)) (P6 : Arv Z h0 b1 k1 .byte (2 : Int32) [(.int x0), (.int x1)] (.int (0 : Int32))) (P7 : Arv Z h0 b2 k2 .byte (1 : Int32) [(.int y0)] (.int (0 : Int32))) (ne_a1_a2 : a1 ≠ a2) (P9 : Sta Z h0 "java/lang/String" "COMPACT_STRINGS" "Z" (.int cs)) (hcs : ¬ (cs = (0 : Int32))) :
    MetFree l (⟨"java/lang/String", "equals", "(Ljava/lang/Object;)Z"⟩ : MethodName) (head1 (Jvm.Cond.code (⟨"java/lang/String", "equals", "(Ljava/lang/Object;)Z"⟩ : MethodName) jdk_42_method_66_code 3 (some .boolean) :: ws) ({ frames := 1, cells := 0, slots := 0, locals := 14 } : Room)) (fun a U => a = #[(.ref a1), (.ref a2)] ∧ Z.Warmed39 U.vm ∧ U.heap = h0) (fun _ _ _ _ _ => True) (fun _ U o U' => ∃ v L, o = .returned v ∧ Q_rmSeq21 Z a1 a2 b1 b2 k1 k2 cs x0 x1 y0 h0 n0 v U'.heap L ∧ FrameEnd U o U' L ({ frames := 1, cells := 0, slots := 0, locals := 14 } : Room).cells ({ frames := 1, cells := 0, slots := 0, locals := 14 } : Room).slots) := by
  refine MetFree.of_bodySF (plainFor_of_name pn_java_lang_String) hisR ?_
  intro p e s m args below meth c s₁ Bd hml0 hP hK
  obtain ⟨rfl, hZ, hh⟩ := hP
  have hx := Bd.exec
  have hby := Bd.bytes
  have hml : c.maxLocals = 3 := hml0
  have hown : s.vm.findClass "java/lang/String" = some m.cls := findClass_of_methodNamed Bd.named
  have hnm := (name_of_methodNamed Bd.named Bd.method).1
  have X0 : Stand p l e ({ frames := 1, cells := 0, slots := 0, locals := 14 } : Room) s m #[(.ref a1), (.ref a2)] below meth c s₁ [] 0 0 := Stand.of_body Bd
  have e0 : s₁.heap = h0 := by rw [← hh, Bd.state]; rfl
  have N0 := Fr.nil n0
  refine own_fw (A' := (s₁.setTop (mkF m 0 #[.val (.ref a1), .val (.ref a2), .unset] []))) (fun t k => castTop (ef_rmSeq21 m a1 a2) k) ?_
  refine own_fw (A' := (s₁.setTop (mkF m 1 #[.val (.ref a1), .val (.ref a2), .unset] [(.ref a1)]))) (fun t k => XS.aloadN X0.here hx rfl (hb hby d_jdk_42_method_66_code_0) rfl rfl k) ?_
  refine own_fw (A' := (s₁.setTop (mkF m 2 #[.val (.ref a1), .val (.ref a2), .unset] [(.ref a2), (.ref a1)]))) (fun t k => XS.aloadN X0.here hx rfl (hb hby d_jdk_42_method_66_code_1) rfl rfl k) ?_
  refine own_fw (A' := (s₁.setTop (mkF m 7 #[.val (.ref a1), .val (.ref a2), .unset] []))) (fun t k => Jvm.RoadKit.acmp (g := (mkF m 2 #[.val (.ref a1), .val (.ref a2), .unset] [(.ref a2), (.ref a1)])) X0 hx rfl rfl rfl (pc0 := 2) (pc' := 7) (same := false) rfl (hb hby d_jdk_42_method_66_code_2) rfl (decide_eq_false (fun q => ne_a1_a2 (Value.ref.inj q))) (by decide) (by decide) k) ?_
  refine own_fw (A' := (s₁.setTop (mkF m 8 #[.val (.ref a1), .val (.ref a2), .unset] [(.ref a2)]))) (fun t k => XS.aloadN X0.here hx rfl (hb hby d_jdk_42_method_66_code_7) rfl rfl k) ?_
  obtain ⟨T1, X1, e1, st1⟩ := instY X0 hx hZ hown (hw _ (List.mem_of_getElem? (i := 63) rfl)) e0 (Ins.self P1) (g := (mkF m 8 #[.val (.ref a1), .val (.ref a2), .unset] [(.ref a2)])) rfl rfl (hb hby d_jdk_42_method_66_code_8)
  refine own_fw (A' := (T1.setTop (mkF m 11 #[.val (.ref a1), .val (.ref a2), .unset] [(.int (1 : Int32))]))) (fun t k => st1 _ k) ?_
  refine own_fw (A' := (T1.setTop (mkF m 14 #[.val (.ref a1), .val (.ref a2), .unset] []))) (fun t k => XS.ifNo X1.here hx rfl (hb hby d_jdk_42_method_66_code_11) rfl (XT.i0_eq_f (by decide)) k) ?_
  refine own_fw (A' := (T1.setTop (mkF m 15 #[.val (.ref a1), .val (.ref a2), .unset] [(.ref a2)]))) (fun t k => XS.aloadN X1.here hx rfl (hb hby d_jdk_42_method_66_code_14) rfl rfl k) ?_
  obtain ⟨T2, X2, e2, st2⟩ := castY X1 hx hZ hown (hw _ (List.mem_of_getElem? (i := 63) rfl)) e1 (Ins.self P1) (g := (mkF m 15 #[.val (.ref a1), .val (.ref a2), .unset] [(.ref a2)])) rfl rfl (hb hby d_jdk_42_method_66_code_15)
  refine own_fw (A' := (T2.setTop (mkF m 18 #[.val (.ref a1), .val (.ref a2), .unset] [(.ref a2)]))) (fun t k => st2 _ k) ?_
  refine own_fw (A' := (T2.setTop (mkF m 19 #[.val (.ref a1), .val (.ref a2), .val (.ref a2)] []))) (fun t k => XS.astoreN X2.here hx rfl (hb hby d_jdk_42_method_66_code_18) rfl rfl (l' := #[.val (.ref a1), .val (.ref a2), .val (.ref a2)]) rfl k) ?_
  obtain ⟨T3, X3, e3, st3⟩ := getS2 X2 hx hZ hown (host := "") (Or.inl (hw _ (List.mem_of_getElem? (i := 64) rfl))) Via.refl e2 P9 (g := (mkF m 19 #[.val (.ref a1), .val (.ref a2), .val (.ref a2)] [])) rfl (hb hby d_jdk_42_method_66_code_19)
  refine own_fw (A' := (T3.setTop (mkF m 22 #[.val (.ref a1), .val (.ref a2), .val (.ref a2)] [(.int cs)]))) (fun t k => st3 _ k) ?_
  refine own_fw (A' := (T3.setTop (mkF m 25 #[.val (.ref a1), .val (.ref a2), .val (.ref a2)] []))) (fun t k => XS.ifNo X3.here hx rfl (hb hby d_jdk_42_method_66_code_22) rfl (XT.i0_eq_f hcs) k) ?_
  refine own_fw (A' := (T3.setTop (mkF m 26 #[.val (.ref a1), .val (.ref a2), .val (.ref a2)] [(.ref a1)]))) (fun t k => XS.aloadN X3.here hx rfl (hb hby d_jdk_42_method_66_code_25) rfl rfl k) ?_
  obtain ⟨T4, X4, e4, st4⟩ := getF X3 hx hZ hown (host := "") (Or.inl (hw _ (List.mem_of_getElem? (i := 32) rfl))) Via.refl e3 P2 (g := (mkF m 26 #[.val (.ref a1), .val (.ref a2), .val (.ref a2)] [(.ref a1)])) rfl rfl (hb hby d_jdk_42_method_66_code_26)
  refine own_fw (A' := (T4.setTop (mkF m 29 #[.val (.ref a1), .val (.ref a2), .val (.ref a2)] [(.int (0 : Int32))]))) (fun t k => st4 _ k) ?_
  refine own_fw (A' := (T4.setTop (mkF m 30 #[.val (.ref a1), .val (.ref a2), .val (.ref a2)] [(.ref a2), (.int (0 : Int32))]))) (fun t k => XS.aloadN X4.here hx rfl (hb hby d_jdk_42_method_66_code_29) rfl rfl k) ?_
  obtain ⟨T5, X5, e5, st5⟩ := getF X4 hx hZ hown (host := "") (Or.inl (hw _ (List.mem_of_getElem? (i := 32) rfl))) Via.refl e4 P3 (g := (mkF m 30 #[.val (.ref a1), .val (.ref a2), .val (.ref a2)] [(.ref a2), (.int (0 : Int32))])) rfl rfl (hb hby d_jdk_42_method_66_code_30)
  refine own_fw (A' := (T5.setTop (mkF m 33 #[.val (.ref a1), .val (.ref a2), .val (.ref a2)] [(.int (0 : Int32)), (.int (0 : Int32))]))) (fun t k => st5 _ k) ?_
  refine own_fw (A' := (T5.setTop (mkF m 36 #[.val (.ref a1), .val (.ref a2), .val (.ref a2)] []))) (fun t k => XS.icmpNo X5.here hx rfl (hb hby d_jdk_42_method_66_code_33) rfl (XT.ii_ne_f rfl) k) ?_
  refine own_fw (A' := (T5.setTop (mkF m 37 #[.val (.ref a1), .val (.ref a2), .val (.ref a2)] [(.ref a1)]))) (fun t k => XS.aloadN X5.here hx rfl (hb hby d_jdk_42_method_66_code_36) rfl rfl k) ?_
  obtain ⟨T6, X6, e6, st6⟩ := getF X5 hx hZ hown (host := "") (Or.inl (hw _ (List.mem_of_getElem? (i := 31) rfl))) Via.refl e5 P4 (g := (mkF m 37 #[.val (.ref a1), .val (.ref a2), .val (.ref a2)] [(.ref a1)])) rfl rfl (hb hby d_jdk_42_method_66_code_37)
  refine own_fw (A' := (T6.setTop (mkF m 40 #[.val (.ref a1), .val (.ref a2), .val (.ref a2)] [(.ref b1)]))) (fun t k => st6 _ k) ?_
  refine own_fw (A' := (T6.setTop (mkF m 41 #[.val (.ref a1), .val (.ref a2), .val (.ref a2)] [(.ref a2), (.ref b1)]))) (fun t k => XS.aloadN X6.here hx rfl (hb hby d_jdk_42_method_66_code_40) rfl rfl k) ?_
  obtain ⟨T7, X7, e7, st7⟩ := getF X6 hx hZ hown (host := "") (Or.inl (hw _ (List.mem_of_getElem? (i := 31) rfl))) Via.refl e6 P5 (g := (mkF m 41 #[.val (.ref a1), .val (.ref a2), .val (.ref a2)] [(.ref a2), (.ref b1)])) rfl rfl (hb hby d_jdk_42_method_66_code_41)
  refine own_fw (A' := (T7.setTop (mkF m 44 #[.val (.ref a1), .val (.ref a2), .val (.ref a2)] [(.ref b2), (.ref b1)]))) (fun t k => st7 _ k) ?_
  obtain ⟨_, _, ⟨T8, L8, k8, n8⟩, -, X8, ⟨Lc8, hQ8, l8, y8, z8⟩, st8⟩ := Jvm.LawKit.callS X7 hx (y := (⟨"java/lang/StringLatin1", "equals", "([B[B)Z"⟩ : MethodName)) hown (mvT hZ (hw _ (List.mem_of_getElem? (i := 65) rfl))) (mvT hZ (hw _ (List.mem_of_getElem? (i := 66) rfl))) (mvT hZ (hw _ (List.mem_of_getElem? (i := 67) rfl))) (mvT hZ (hw _ (List.mem_of_getElem? (i := 68) rfl))) (by decide) (backOf (W := 0) (rmLeq21 l Z a0 hw [] b1 b2 k1 k2 x0 x1 y0 h0 n0 Z0 P6 P7) hZ (hw _ (List.mem_of_getElem? (i := 68) rfl)) (hw _ (List.mem_of_getElem? (i := 67) rfl)) (by decide) (by decide)) (g := (mkF m 44 #[.val (.ref a1), .val (.ref a2), .val (.ref a2)] [(.ref b2), (.ref b1)])) rfl (by rw [hml]; rfl) (argsL := [(.ref b1), (.ref b2)]) (rest := []) (lenOf pd___B_B_Z rfl) rfl (by show 2 * 0 + _ ≤ _; exact Nat.le_of_eq rfl) (hb hby d_jdk_42_method_66_code_44) (fun _ _ => ⟨rfl, e7, (by decide : 0 + 0 ≤ _), (by decide : 0 + 0 ≤ _)⟩)
  dsimp only [Pt.U, Pt.locs, Pt.cells, Pt.slots] at X8 l8 y8 z8 st8 hQ8
  subst l8 y8 z8
  obtain ⟨rfl, Nq8, e8⟩ := hQ8
  have Nf8 := Fr.app N0 Nq8
  refine own_fw (A' := (T8.setTop (mkF m 47 #[.val (.ref a1), .val (.ref a2), .val (.ref a2)] [(.int (0 : Int32))]))) (fun t k => st8 _ k) ?_
  by_cases hc9 : (0 : Int32) = (0 : Int32)
  · refine own_fw (A' := (T8.setTop (mkF m 54 #[.val (.ref a1), .val (.ref a2), .val (.ref a2)] []))) (fun t k => XS.ifYes X8.here hx rfl (pc0 := 47) (pc' := 54) rfl (hb hby d_jdk_42_method_66_code_47) rfl (XT.i0_eq_t hc9) (by decide) (by decide) k) ?_
    refine own_fw (A' := (T8.setTop (mkF m 55 #[.val (.ref a1), .val (.ref a2), .val (.ref a2)] [(.int (0 : Int32))]))) (fun t k => XS.iconst X8.here hx rfl (hb hby d_jdk_42_method_66_code_54) k) ?_
    obtain ⟨fs, hr, hrun, hended, hW, hsame⟩ := X8.leave (v := some (.int (0 : Int32))) (fun h => by rw [Bd.returns] at h; cases h)
    refine ⟨_, _, ?_, hrun, hended, _, _, rfl, ?_, ⟨_, rfl⟩, hW, hsame.mono (by decide) (by decide)⟩
    · exact retOut X8 hx Bd.returns rfl (Or.inl ⟨rfl, by simp, _, rfl⟩) (hb hby d_jdk_42_method_66_code_55) hr
    · show Q_rmSeq21 Z a1 a2 b1 b2 k1 k2 cs x0 x1 y0 h0 n0 _ T8.heap _
      rw [e8]
      exact ⟨rfl, Nf8, rfl⟩
  · refine own_fw (A' := (T8.setTop (mkF m 50 #[.val (.ref a1), .val (.ref a2), .val (.ref a2)] []))) (fun t k => XS.ifNo X8.here hx rfl (hb hby d_jdk_42_method_66_code_47) rfl (XT.i0_eq_f hc9) k) ?_
    refine own_fw (A' := (T8.setTop (mkF m 51 #[.val (.ref a1), .val (.ref a2), .val (.ref a2)] [(.int (1 : Int32))]))) (fun t k => XS.iconst X8.here hx rfl (hb hby d_jdk_42_method_66_code_50) k) ?_
    refine own_fw (A' := (T8.setTop (mkF m 55 #[.val (.ref a1), .val (.ref a2), .val (.ref a2)] [(.int (1 : Int32))]))) (fun t k => XS.goto X8.here hx rfl (pc0 := 51) (pc' := 55) rfl (hb hby d_jdk_42_method_66_code_51) (by decide) (by decide) k) ?_
    obtain ⟨fs, hr, hrun, hended, hW, hsame⟩ := X8.leave (v := some (.int (1 : Int32))) (fun h => by rw [Bd.returns] at h; cases h)
    refine ⟨_, _, ?_, hrun, hended, _, _, rfl, ?_, ⟨_, rfl⟩, hW, hsame.mono (by decide) (by decide)⟩
    · exact retOut X8 hx Bd.returns rfl (Or.inl ⟨rfl, by simp, _, rfl⟩) (hb hby d_jdk_42_method_66_code_55) hr
    · show Q_rmSeq21 Z a1 a2 b1 b2 k1 k2 cs x0 x1 y0 h0 n0 _ T8.heap _
      rw [e8]
      exact ⟨(by first | rfl | (have q := hc9; revert q; (repeat' split) <;> simp)), Nf8, rfl⟩
theorem ef_rmLeq22 (m : MethodId) (a1 : Addr) (a2 : Addr) : entryFrame m #[(.ref a1), (.ref a2)] 3 = mkF m 0 #[.val (.ref a1), .val (.ref a2), .unset] [] := by first | (simp [entryFrame, mkF, argsToLocals, Value.category]; done) | rfl
def Q_rmLeq22 (Z : State) (a1 : Addr) (a2 : Addr) (k1 : ClassId) (k2 : ClassId) (x0 : Int32) (x1 : Int32) (y0 : Int32) (y1 : Int32) (h0 : Heap) (n0 : Nat) (v : Option Value) (h : Heap) (L : List Loc) : Prop := v = some (.int (if x0 = y0 then (if x1 = y1 then (1 : Int32) else (0 : Int32)) else (0 : Int32))) ∧ Fr n0 L ∧ h = h0
set_option maxRecDepth 65536 in
set_option maxHeartbeats 40000000 in
theorem rmLeq22 (l : Launch) (Z : State) (a0 : Array Value) (hw : ∀ d ∈ tables_1, d.before a0 Z = true) (ws : List Jvm.Cond) (a1 : Addr) (a2 : Addr) (k1 : ClassId) (k2 : ClassId) (x0 : Int32) (x1 : Int32) (y0 : Int32) (y1 : Int32) (h0 : Heap) (n0 : Nat) (Z0 : n0 ≤ h0.size) (P0 : Arv Z h0 a1 k1 .byte (2 : Int32) [(.int x0), (.int x1)] (.int (0 : Int32))) (P1 : Arv Z h0 a2 k2 .byte (2 : Int32) [(.int y0), (.int y1)] (.int (0 : Int32))) :
    MetFree l (⟨"java/lang/StringLatin1", "equals", "([B[B)Z"⟩ : MethodName) (head1 (Jvm.Cond.code (⟨"java/lang/StringLatin1", "equals", "([B[B)Z"⟩ : MethodName) jdk_43_method_13_code 3 (some .boolean) :: ws) ({ frames := 0, cells := 0, slots := 0, locals := 0 } : Room)) (fun a U => a = #[(.ref a1), (.ref a2)] ∧ Z.Warmed39 U.vm ∧ U.heap = h0) (fun _ _ _ _ _ => True) (fun _ U o U' => ∃ v L, o = .returned v ∧ Q_rmLeq22 Z a1 a2 k1 k2 x0 x1 y0 y1 h0 n0 v U'.heap L ∧ FrameEnd U o U' L ({ frames := 0, cells := 0, slots := 0, locals := 0 } : Room).cells ({ frames := 0, cells := 0, slots := 0, locals := 0 } : Room).slots) := by
  refine MetFree.of_bodySF (plainFor_of_name pn_java_lang_StringLatin1) hisR ?_
  intro p e s m args below meth c s₁ Bd hml0 hP hK
  obtain ⟨rfl, hZ, hh⟩ := hP
  have hx := Bd.exec
  have hby := Bd.bytes
  have hml : c.maxLocals = 3 := hml0
  have hown : s.vm.findClass "java/lang/StringLatin1" = some m.cls := findClass_of_methodNamed Bd.named
  have hnm := (name_of_methodNamed Bd.named Bd.method).1
  have X0 : Stand p l e ({ frames := 0, cells := 0, slots := 0, locals := 0 } : Room) s m #[(.ref a1), (.ref a2)] below meth c s₁ [] 0 0 := Stand.of_body Bd
  have e0 : s₁.heap = h0 := by rw [← hh, Bd.state]; rfl
  have N0 := Fr.nil n0
  refine own_fw (A' := (s₁.setTop (mkF m 0 #[.val (.ref a1), .val (.ref a2), .unset] []))) (fun t k => castTop (ef_rmLeq22 m a1 a2) k) ?_
  refine own_fw (A' := (s₁.setTop (mkF m 1 #[.val (.ref a1), .val (.ref a2), .unset] [(.ref a1)]))) (fun t k => XS.aloadN X0.here hx rfl (hb hby d_jdk_43_method_13_code_0) rfl rfl k) ?_
  obtain ⟨cl1, Ar1, q1, S1, M1, H1, G1⟩ := id P0
  refine own_fw (A' := (s₁.setTop (mkF m 2 #[.val (.ref a1), .val (.ref a2), .unset] [(.int (2 : Int32))]))) (fun t k => X0.arraylength hx (by rw [e0]; exact Ar1.1) (State.isArrayOf_alike hZ.alike Ar1.2.1) (g := (mkF m 1 #[.val (.ref a1), .val (.ref a2), .unset] [(.ref a1)])) rfl rfl (hb hby d_jdk_43_method_13_code_1) _ (by rw [len_of S1 M1]; exact k)) ?_
  refine own_fw (A' := (s₁.setTop (mkF m 3 #[.val (.ref a1), .val (.ref a2), .unset] [(.ref a2), (.int (2 : Int32))]))) (fun t k => XS.aloadN X0.here hx rfl (hb hby d_jdk_43_method_13_code_2) rfl rfl k) ?_
  obtain ⟨cl2, Ar2, q2, S2, M2, H2, G2⟩ := id P1
  refine own_fw (A' := (s₁.setTop (mkF m 4 #[.val (.ref a1), .val (.ref a2), .unset] [(.int (2 : Int32)), (.int (2 : Int32))]))) (fun t k => X0.arraylength hx (by rw [e0]; exact Ar2.1) (State.isArrayOf_alike hZ.alike Ar2.2.1) (g := (mkF m 3 #[.val (.ref a1), .val (.ref a2), .unset] [(.ref a2), (.int (2 : Int32))])) rfl rfl (hb hby d_jdk_43_method_13_code_3) _ (by rw [len_of S2 M2]; exact k)) ?_
  refine own_fw (A' := (s₁.setTop (mkF m 7 #[.val (.ref a1), .val (.ref a2), .unset] []))) (fun t k => XS.icmpNo X0.here hx rfl (hb hby d_jdk_43_method_13_code_4) rfl (XT.ii_ne_f rfl) k) ?_
  refine own_fw (A' := (s₁.setTop (mkF m 8 #[.val (.ref a1), .val (.ref a2), .unset] [(.int (0 : Int32))]))) (fun t k => XS.iconst X0.here hx rfl (hb hby d_jdk_43_method_13_code_7) k) ?_
  refine own_fw (A' := (s₁.setTop (mkF m 9 #[.val (.ref a1), .val (.ref a2), .val (.int (0 : Int32))] []))) (fun t k => XS.istoreN X0.here hx rfl (hb hby d_jdk_43_method_13_code_8) rfl (l' := #[.val (.ref a1), .val (.ref a2), .val (.int (0 : Int32))]) rfl k) ?_
  refine own_fw (A' := (s₁.setTop (mkF m 10 #[.val (.ref a1), .val (.ref a2), .val (.int (0 : Int32))] [(.int (0 : Int32))]))) (fun t k => XS.iloadN X0.here hx rfl (hb hby d_jdk_43_method_13_code_9) rfl k) ?_
  refine own_fw (A' := (s₁.setTop (mkF m 11 #[.val (.ref a1), .val (.ref a2), .val (.int (0 : Int32))] [(.ref a1), (.int (0 : Int32))]))) (fun t k => XS.aloadN X0.here hx rfl (hb hby d_jdk_43_method_13_code_10) rfl rfl k) ?_
  obtain ⟨cl3, Ar3, q3, S3, M3, H3, G3⟩ := id P0
  refine own_fw (A' := (s₁.setTop (mkF m 12 #[.val (.ref a1), .val (.ref a2), .val (.int (0 : Int32))] [(.int (2 : Int32)), (.int (0 : Int32))]))) (fun t k => X0.arraylength hx (by rw [e0]; exact Ar3.1) (State.isArrayOf_alike hZ.alike Ar3.2.1) (g := (mkF m 11 #[.val (.ref a1), .val (.ref a2), .val (.int (0 : Int32))] [(.ref a1), (.int (0 : Int32))])) rfl rfl (hb hby d_jdk_43_method_13_code_11) _ (by rw [len_of S3 M3]; exact k)) ?_
  refine own_fw (A' := (s₁.setTop (mkF m 15 #[.val (.ref a1), .val (.ref a2), .val (.int (0 : Int32))] []))) (fun t k => XS.icmpNo X0.here hx rfl (hb hby d_jdk_43_method_13_code_12) rfl (XT.ii_ge_f (by decide)) k) ?_
  refine own_fw (A' := (s₁.setTop (mkF m 16 #[.val (.ref a1), .val (.ref a2), .val (.int (0 : Int32))] [(.ref a1)]))) (fun t k => XS.aloadN X0.here hx rfl (hb hby d_jdk_43_method_13_code_15) rfl rfl k) ?_
  refine own_fw (A' := (s₁.setTop (mkF m 17 #[.val (.ref a1), .val (.ref a2), .val (.int (0 : Int32))] [(.int (0 : Int32)), (.ref a1)]))) (fun t k => XS.iloadN X0.here hx rfl (hb hby d_jdk_43_method_13_code_16) rfl k) ?_
  obtain ⟨cl4, Ar4, q4, S4, M4, H4, G4⟩ := id P0
  have hin4 : ¬ ((0 : Int32) < 0 ∨ cl4.slots.size ≤ ((0 : Int32)).toNatClampNeg) := inb_of S4 ⟨by decide, by decide⟩
  have hat4 : cl4.slots[((0 : Int32)).toNatClampNeg]? = some (.int x0) := H4.at hin4 rfl
  refine own_fw (A' := (s₁.setTop (mkF m 18 #[.val (.ref a1), .val (.ref a2), .val (.int (0 : Int32))] [(.int x0)]))) (fun t k => X0.baloadBytes hx (j := (0 : Int32)) (v := (.int x0)) (by rw [e0]; exact Ar4.1) (State.isArrayOf_alike hZ.alike Ar4.2.1) Ar4.2.2 hin4 hat4 (g := (mkF m 17 #[.val (.ref a1), .val (.ref a2), .val (.int (0 : Int32))] [(.int (0 : Int32)), (.ref a1)])) rfl rfl (hb hby d_jdk_43_method_13_code_17) _ k) ?_
  refine own_fw (A' := (s₁.setTop (mkF m 19 #[.val (.ref a1), .val (.ref a2), .val (.int (0 : Int32))] [(.ref a2), (.int x0)]))) (fun t k => XS.aloadN X0.here hx rfl (hb hby d_jdk_43_method_13_code_18) rfl rfl k) ?_
  refine own_fw (A' := (s₁.setTop (mkF m 20 #[.val (.ref a1), .val (.ref a2), .val (.int (0 : Int32))] [(.int (0 : Int32)), (.ref a2), (.int x0)]))) (fun t k => XS.iloadN X0.here hx rfl (hb hby d_jdk_43_method_13_code_19) rfl k) ?_
  obtain ⟨cl5, Ar5, q5, S5, M5, H5, G5⟩ := id P1
  have hin5 : ¬ ((0 : Int32) < 0 ∨ cl5.slots.size ≤ ((0 : Int32)).toNatClampNeg) := inb_of S5 ⟨by decide, by decide⟩
  have hat5 : cl5.slots[((0 : Int32)).toNatClampNeg]? = some (.int y0) := H5.at hin5 rfl
  refine own_fw (A' := (s₁.setTop (mkF m 21 #[.val (.ref a1), .val (.ref a2), .val (.int (0 : Int32))] [(.int y0), (.int x0)]))) (fun t k => X0.baloadBytes hx (j := (0 : Int32)) (v := (.int y0)) (by rw [e0]; exact Ar5.1) (State.isArrayOf_alike hZ.alike Ar5.2.1) Ar5.2.2 hin5 hat5 (g := (mkF m 20 #[.val (.ref a1), .val (.ref a2), .val (.int (0 : Int32))] [(.int (0 : Int32)), (.ref a2), (.int x0)])) rfl rfl (hb hby d_jdk_43_method_13_code_20) _ k) ?_
  by_cases hc6 : x0 = y0
  · refine own_fw (A' := (s₁.setTop (mkF m 26 #[.val (.ref a1), .val (.ref a2), .val (.int (0 : Int32))] []))) (fun t k => XS.icmpYes X0.here hx rfl (pc0 := 21) (pc' := 26) rfl (hb hby d_jdk_43_method_13_code_21) rfl (XT.ii_eq_t hc6) (by decide) (by decide) k) ?_
    refine own_fw (A' := (s₁.setTop (mkF m 29 #[.val (.ref a1), .val (.ref a2), .val (.int (1 : Int32))] []))) (fun t k => XS.iinc X0.here hx rfl (hb hby d_jdk_43_method_13_code_26) rfl (l' := #[.val (.ref a1), .val (.ref a2), .val (.int (1 : Int32))]) rfl k) ?_
    refine own_fw (A' := (s₁.setTop (mkF m 9 #[.val (.ref a1), .val (.ref a2), .val (.int (1 : Int32))] []))) (fun t k => XS.goto X0.here hx rfl (pc0 := 29) (pc' := 9) rfl (hb hby d_jdk_43_method_13_code_29) (by decide) (by decide) k) ?_
    refine own_fw (A' := (s₁.setTop (mkF m 10 #[.val (.ref a1), .val (.ref a2), .val (.int (1 : Int32))] [(.int (1 : Int32))]))) (fun t k => XS.iloadN X0.here hx rfl (hb hby d_jdk_43_method_13_code_9) rfl k) ?_
    refine own_fw (A' := (s₁.setTop (mkF m 11 #[.val (.ref a1), .val (.ref a2), .val (.int (1 : Int32))] [(.ref a1), (.int (1 : Int32))]))) (fun t k => XS.aloadN X0.here hx rfl (hb hby d_jdk_43_method_13_code_10) rfl rfl k) ?_
    obtain ⟨cl7, Ar7, q7, S7, M7, H7, G7⟩ := id P0
    refine own_fw (A' := (s₁.setTop (mkF m 12 #[.val (.ref a1), .val (.ref a2), .val (.int (1 : Int32))] [(.int (2 : Int32)), (.int (1 : Int32))]))) (fun t k => X0.arraylength hx (by rw [e0]; exact Ar7.1) (State.isArrayOf_alike hZ.alike Ar7.2.1) (g := (mkF m 11 #[.val (.ref a1), .val (.ref a2), .val (.int (1 : Int32))] [(.ref a1), (.int (1 : Int32))])) rfl rfl (hb hby d_jdk_43_method_13_code_11) _ (by rw [len_of S7 M7]; exact k)) ?_
    refine own_fw (A' := (s₁.setTop (mkF m 15 #[.val (.ref a1), .val (.ref a2), .val (.int (1 : Int32))] []))) (fun t k => XS.icmpNo X0.here hx rfl (hb hby d_jdk_43_method_13_code_12) rfl (XT.ii_ge_f (by decide)) k) ?_
    refine own_fw (A' := (s₁.setTop (mkF m 16 #[.val (.ref a1), .val (.ref a2), .val (.int (1 : Int32))] [(.ref a1)]))) (fun t k => XS.aloadN X0.here hx rfl (hb hby d_jdk_43_method_13_code_15) rfl rfl k) ?_
    refine own_fw (A' := (s₁.setTop (mkF m 17 #[.val (.ref a1), .val (.ref a2), .val (.int (1 : Int32))] [(.int (1 : Int32)), (.ref a1)]))) (fun t k => XS.iloadN X0.here hx rfl (hb hby d_jdk_43_method_13_code_16) rfl k) ?_
    obtain ⟨cl8, Ar8, q8, S8, M8, H8, G8⟩ := id P0
    have hin8 : ¬ ((1 : Int32) < 0 ∨ cl8.slots.size ≤ ((1 : Int32)).toNatClampNeg) := inb_of S8 ⟨by decide, by decide⟩
    have hat8 : cl8.slots[((1 : Int32)).toNatClampNeg]? = some (.int x1) := H8.at hin8 rfl
    refine own_fw (A' := (s₁.setTop (mkF m 18 #[.val (.ref a1), .val (.ref a2), .val (.int (1 : Int32))] [(.int x1)]))) (fun t k => X0.baloadBytes hx (j := (1 : Int32)) (v := (.int x1)) (by rw [e0]; exact Ar8.1) (State.isArrayOf_alike hZ.alike Ar8.2.1) Ar8.2.2 hin8 hat8 (g := (mkF m 17 #[.val (.ref a1), .val (.ref a2), .val (.int (1 : Int32))] [(.int (1 : Int32)), (.ref a1)])) rfl rfl (hb hby d_jdk_43_method_13_code_17) _ k) ?_
    refine own_fw (A' := (s₁.setTop (mkF m 19 #[.val (.ref a1), .val (.ref a2), .val (.int (1 : Int32))] [(.ref a2), (.int x1)]))) (fun t k => XS.aloadN X0.here hx rfl (hb hby d_jdk_43_method_13_code_18) rfl rfl k) ?_
    refine own_fw (A' := (s₁.setTop (mkF m 20 #[.val (.ref a1), .val (.ref a2), .val (.int (1 : Int32))] [(.int (1 : Int32)), (.ref a2), (.int x1)]))) (fun t k => XS.iloadN X0.here hx rfl (hb hby d_jdk_43_method_13_code_19) rfl k) ?_
    obtain ⟨cl9, Ar9, q9, S9, M9, H9, G9⟩ := id P1
    have hin9 : ¬ ((1 : Int32) < 0 ∨ cl9.slots.size ≤ ((1 : Int32)).toNatClampNeg) := inb_of S9 ⟨by decide, by decide⟩
    have hat9 : cl9.slots[((1 : Int32)).toNatClampNeg]? = some (.int y1) := H9.at hin9 rfl
    refine own_fw (A' := (s₁.setTop (mkF m 21 #[.val (.ref a1), .val (.ref a2), .val (.int (1 : Int32))] [(.int y1), (.int x1)]))) (fun t k => X0.baloadBytes hx (j := (1 : Int32)) (v := (.int y1)) (by rw [e0]; exact Ar9.1) (State.isArrayOf_alike hZ.alike Ar9.2.1) Ar9.2.2 hin9 hat9 (g := (mkF m 20 #[.val (.ref a1), .val (.ref a2), .val (.int (1 : Int32))] [(.int (1 : Int32)), (.ref a2), (.int x1)])) rfl rfl (hb hby d_jdk_43_method_13_code_20) _ k) ?_
    by_cases hc10 : x1 = y1
    · refine own_fw (A' := (s₁.setTop (mkF m 26 #[.val (.ref a1), .val (.ref a2), .val (.int (1 : Int32))] []))) (fun t k => XS.icmpYes X0.here hx rfl (pc0 := 21) (pc' := 26) rfl (hb hby d_jdk_43_method_13_code_21) rfl (XT.ii_eq_t hc10) (by decide) (by decide) k) ?_
      refine own_fw (A' := (s₁.setTop (mkF m 29 #[.val (.ref a1), .val (.ref a2), .val (.int (2 : Int32))] []))) (fun t k => XS.iinc X0.here hx rfl (hb hby d_jdk_43_method_13_code_26) rfl (l' := #[.val (.ref a1), .val (.ref a2), .val (.int (2 : Int32))]) rfl k) ?_
      refine own_fw (A' := (s₁.setTop (mkF m 9 #[.val (.ref a1), .val (.ref a2), .val (.int (2 : Int32))] []))) (fun t k => XS.goto X0.here hx rfl (pc0 := 29) (pc' := 9) rfl (hb hby d_jdk_43_method_13_code_29) (by decide) (by decide) k) ?_
      refine own_fw (A' := (s₁.setTop (mkF m 10 #[.val (.ref a1), .val (.ref a2), .val (.int (2 : Int32))] [(.int (2 : Int32))]))) (fun t k => XS.iloadN X0.here hx rfl (hb hby d_jdk_43_method_13_code_9) rfl k) ?_
      refine own_fw (A' := (s₁.setTop (mkF m 11 #[.val (.ref a1), .val (.ref a2), .val (.int (2 : Int32))] [(.ref a1), (.int (2 : Int32))]))) (fun t k => XS.aloadN X0.here hx rfl (hb hby d_jdk_43_method_13_code_10) rfl rfl k) ?_
      obtain ⟨cl11, Ar11, q11, S11, M11, H11, G11⟩ := id P0
      refine own_fw (A' := (s₁.setTop (mkF m 12 #[.val (.ref a1), .val (.ref a2), .val (.int (2 : Int32))] [(.int (2 : Int32)), (.int (2 : Int32))]))) (fun t k => X0.arraylength hx (by rw [e0]; exact Ar11.1) (State.isArrayOf_alike hZ.alike Ar11.2.1) (g := (mkF m 11 #[.val (.ref a1), .val (.ref a2), .val (.int (2 : Int32))] [(.ref a1), (.int (2 : Int32))])) rfl rfl (hb hby d_jdk_43_method_13_code_11) _ (by rw [len_of S11 M11]; exact k)) ?_
      refine own_fw (A' := (s₁.setTop (mkF m 32 #[.val (.ref a1), .val (.ref a2), .val (.int (2 : Int32))] []))) (fun t k => XS.icmpYes X0.here hx rfl (pc0 := 12) (pc' := 32) rfl (hb hby d_jdk_43_method_13_code_12) rfl (XT.ii_ge_t (by decide)) (by decide) (by decide) k) ?_
      refine own_fw (A' := (s₁.setTop (mkF m 33 #[.val (.ref a1), .val (.ref a2), .val (.int (2 : Int32))] [(.int (1 : Int32))]))) (fun t k => XS.iconst X0.here hx rfl (hb hby d_jdk_43_method_13_code_32) k) ?_
      obtain ⟨fs, hr, hrun, hended, hW, hsame⟩ := X0.leave (v := some (.int (1 : Int32))) (fun h => by rw [Bd.returns] at h; cases h)
      refine ⟨_, _, ?_, hrun, hended, _, _, rfl, ?_, ⟨_, rfl⟩, hW, hsame.mono (by decide) (by decide)⟩
      · exact retOut X0 hx Bd.returns rfl (Or.inl ⟨rfl, by simp, _, rfl⟩) (hb hby d_jdk_43_method_13_code_33) hr
      · show Q_rmLeq22 Z a1 a2 k1 k2 x0 x1 y0 y1 h0 n0 _ s₁.heap _
        rw [e0]
        exact ⟨(by simp only [if_pos hc6, if_pos hc10]), N0, rfl⟩
    · refine own_fw (A' := (s₁.setTop (mkF m 24 #[.val (.ref a1), .val (.ref a2), .val (.int (1 : Int32))] []))) (fun t k => XS.icmpNo X0.here hx rfl (hb hby d_jdk_43_method_13_code_21) rfl (XT.ii_eq_f hc10) k) ?_
      refine own_fw (A' := (s₁.setTop (mkF m 25 #[.val (.ref a1), .val (.ref a2), .val (.int (1 : Int32))] [(.int (0 : Int32))]))) (fun t k => XS.iconst X0.here hx rfl (hb hby d_jdk_43_method_13_code_24) k) ?_
      obtain ⟨fs, hr, hrun, hended, hW, hsame⟩ := X0.leave (v := some (.int (0 : Int32))) (fun h => by rw [Bd.returns] at h; cases h)
      refine ⟨_, _, ?_, hrun, hended, _, _, rfl, ?_, ⟨_, rfl⟩, hW, hsame.mono (by decide) (by decide)⟩
      · exact retOut X0 hx Bd.returns rfl (Or.inl ⟨rfl, by simp, _, rfl⟩) (hb hby d_jdk_43_method_13_code_25) hr
      · show Q_rmLeq22 Z a1 a2 k1 k2 x0 x1 y0 y1 h0 n0 _ s₁.heap _
        rw [e0]
        exact ⟨(by simp only [if_pos hc6, if_neg hc10]), N0, rfl⟩
  · refine own_fw (A' := (s₁.setTop (mkF m 24 #[.val (.ref a1), .val (.ref a2), .val (.int (0 : Int32))] []))) (fun t k => XS.icmpNo X0.here hx rfl (hb hby d_jdk_43_method_13_code_21) rfl (XT.ii_eq_f hc6) k) ?_
    refine own_fw (A' := (s₁.setTop (mkF m 25 #[.val (.ref a1), .val (.ref a2), .val (.int (0 : Int32))] [(.int (0 : Int32))]))) (fun t k => XS.iconst X0.here hx rfl (hb hby d_jdk_43_method_13_code_24) k) ?_
    obtain ⟨fs, hr, hrun, hended, hW, hsame⟩ := X0.leave (v := some (.int (0 : Int32))) (fun h => by rw [Bd.returns] at h; cases h)
    refine ⟨_, _, ?_, hrun, hended, _, _, rfl, ?_, ⟨_, rfl⟩, hW, hsame.mono (by decide) (by decide)⟩
    · exact retOut X0 hx Bd.returns rfl (Or.inl ⟨rfl, by simp, _, rfl⟩) (hb hby d_jdk_43_method_13_code_25) hr
    · show Q_rmLeq22 Z a1 a2 k1 k2 x0 x1 y0 y1 h0 n0 _ s₁.heap _
      rw [e0]
      exact ⟨(by simp only [if_neg hc6]), N0, rfl⟩
theorem ef_rmSeq22 (m : MethodId) (a1 : Addr) (a2 : Addr) : entryFrame m #[(.ref a1), (.ref a2)] 3 = mkF m 0 #[.val (.ref a1), .val (.ref a2), .unset] [] := by first | (simp [entryFrame, mkF, argsToLocals, Value.category]; done) | rfl
def Q_rmSeq22 (Z : State) (a1 : Addr) (a2 : Addr) (b1 : Addr) (b2 : Addr) (k1 : ClassId) (k2 : ClassId) (cs : Int32) (x0 : Int32) (x1 : Int32) (y0 : Int32) (y1 : Int32) (h0 : Heap) (n0 : Nat) (v : Option Value) (h : Heap) (L : List Loc) : Prop := v = some (.int (if x0 = y0 then (if x1 = y1 then (1 : Int32) else (0 : Int32)) else (0 : Int32))) ∧ Fr n0 L ∧ h = h0
set_option maxRecDepth 65536 in
set_option maxHeartbeats 40000000 in
theorem rmSeq22 (l : Launch) (Z : State) (a0 : Array Value) (hw : ∀ d ∈ tables_1, d.before a0 Z = true) (ws : List Jvm.Cond) (a1 : Addr) (a2 : Addr) (b1 : Addr) (b2 : Addr) (k1 : ClassId) (k2 : ClassId) (cs : Int32) (x0 : Int32) (x1 : Int32) (y0 : Int32) (y1 : Int32) (h0 : Heap) (n0 : Nat) (Z0 : n0 ≤ h0.size) (P0 : Exa Z h0 a1 "java/lang/String") (P1 : Exa Z h0 a2 "java/lang/String") (P2 : Fld Z h0 a1 "java/lang/String" "coder" "B" (.int (0 : Int32))) (P3 : Fld Z h0 a2 "java/lang/String" "coder" "B" (.int (0 : Int32))) (P4 : Fld Z h0 a1 "java/lang/String" "value" "[B" (.ref b1)) (P5 : Fld Z h0 a2 "java/lang/String" "value" "[B" (.ref b2)) (P6 : Arv Z h0 b1 k1 .byte (2 : Int32) [(.int x0), (.int x1)] (.int (0 : Int32))) (P7 : Arv Z h0 b2 k2 .byte (2 : Int32) [(.int y0), (.int y1)] (.int (0 : Int32))) (ne_a1_a2 : a1 ≠ a2) (P9 : Sta Z h0 "java/lang/String" "COMPACT_STRINGS" "Z" (.int cs)) (hcs : ¬ (cs = (0 : Int32))) :
    MetFree l (⟨"java/lang/String", "equals", "(Ljava/lang/Object;)Z"⟩ : MethodName) (head1 (Jvm.Cond.code (⟨"java/lang/String", "equals", "(Ljava/lang/Object;)Z"⟩ : MethodName) jdk_42_method_66_code 3 (some .boolean) :: ws) ({ frames := 1, cells := 0, slots := 0, locals := 14 } : Room)) (fun a U => a = #[(.ref a1), (.ref a2)] ∧ Z.Warmed39 U.vm ∧ U.heap = h0) (fun _ _ _ _ _ => True) (fun _ U o U' => ∃ v L, o = .returned v ∧ Q_rmSeq22 Z a1 a2 b1 b2 k1 k2 cs x0 x1 y0 y1 h0 n0 v U'.heap L ∧ FrameEnd U o U' L ({ frames := 1, cells := 0, slots := 0, locals := 14 } : Room).cells ({ frames := 1, cells := 0, slots := 0, locals := 14 } : Room).slots) := by
  refine MetFree.of_bodySF (plainFor_of_name pn_java_lang_String) hisR ?_
  intro p e s m args below meth c s₁ Bd hml0 hP hK
  obtain ⟨rfl, hZ, hh⟩ := hP
  have hx := Bd.exec
  have hby := Bd.bytes
  have hml : c.maxLocals = 3 := hml0
  have hown : s.vm.findClass "java/lang/String" = some m.cls := findClass_of_methodNamed Bd.named
  have hnm := (name_of_methodNamed Bd.named Bd.method).1
  have X0 : Stand p l e ({ frames := 1, cells := 0, slots := 0, locals := 14 } : Room) s m #[(.ref a1), (.ref a2)] below meth c s₁ [] 0 0 := Stand.of_body Bd
  have e0 : s₁.heap = h0 := by rw [← hh, Bd.state]; rfl
  have N0 := Fr.nil n0
  refine own_fw (A' := (s₁.setTop (mkF m 0 #[.val (.ref a1), .val (.ref a2), .unset] []))) (fun t k => castTop (ef_rmSeq22 m a1 a2) k) ?_
  refine own_fw (A' := (s₁.setTop (mkF m 1 #[.val (.ref a1), .val (.ref a2), .unset] [(.ref a1)]))) (fun t k => XS.aloadN X0.here hx rfl (hb hby d_jdk_42_method_66_code_0) rfl rfl k) ?_
  refine own_fw (A' := (s₁.setTop (mkF m 2 #[.val (.ref a1), .val (.ref a2), .unset] [(.ref a2), (.ref a1)]))) (fun t k => XS.aloadN X0.here hx rfl (hb hby d_jdk_42_method_66_code_1) rfl rfl k) ?_
  refine own_fw (A' := (s₁.setTop (mkF m 7 #[.val (.ref a1), .val (.ref a2), .unset] []))) (fun t k => Jvm.RoadKit.acmp (g := (mkF m 2 #[.val (.ref a1), .val (.ref a2), .unset] [(.ref a2), (.ref a1)])) X0 hx rfl rfl rfl (pc0 := 2) (pc' := 7) (same := false) rfl (hb hby d_jdk_42_method_66_code_2) rfl (decide_eq_false (fun q => ne_a1_a2 (Value.ref.inj q))) (by decide) (by decide) k) ?_
  refine own_fw (A' := (s₁.setTop (mkF m 8 #[.val (.ref a1), .val (.ref a2), .unset] [(.ref a2)]))) (fun t k => XS.aloadN X0.here hx rfl (hb hby d_jdk_42_method_66_code_7) rfl rfl k) ?_
  obtain ⟨T1, X1, e1, st1⟩ := instY X0 hx hZ hown (hw _ (List.mem_of_getElem? (i := 63) rfl)) e0 (Ins.self P1) (g := (mkF m 8 #[.val (.ref a1), .val (.ref a2), .unset] [(.ref a2)])) rfl rfl (hb hby d_jdk_42_method_66_code_8)
  refine own_fw (A' := (T1.setTop (mkF m 11 #[.val (.ref a1), .val (.ref a2), .unset] [(.int (1 : Int32))]))) (fun t k => st1 _ k) ?_
  refine own_fw (A' := (T1.setTop (mkF m 14 #[.val (.ref a1), .val (.ref a2), .unset] []))) (fun t k => XS.ifNo X1.here hx rfl (hb hby d_jdk_42_method_66_code_11) rfl (XT.i0_eq_f (by decide)) k) ?_
  refine own_fw (A' := (T1.setTop (mkF m 15 #[.val (.ref a1), .val (.ref a2), .unset] [(.ref a2)]))) (fun t k => XS.aloadN X1.here hx rfl (hb hby d_jdk_42_method_66_code_14) rfl rfl k) ?_
  obtain ⟨T2, X2, e2, st2⟩ := castY X1 hx hZ hown (hw _ (List.mem_of_getElem? (i := 63) rfl)) e1 (Ins.self P1) (g := (mkF m 15 #[.val (.ref a1), .val (.ref a2), .unset] [(.ref a2)])) rfl rfl (hb hby d_jdk_42_method_66_code_15)
  refine own_fw (A' := (T2.setTop (mkF m 18 #[.val (.ref a1), .val (.ref a2), .unset] [(.ref a2)]))) (fun t k => st2 _ k) ?_
  refine own_fw (A' := (T2.setTop (mkF m 19 #[.val (.ref a1), .val (.ref a2), .val (.ref a2)] []))) (fun t k => XS.astoreN X2.here hx rfl (hb hby d_jdk_42_method_66_code_18) rfl rfl (l' := #[.val (.ref a1), .val (.ref a2), .val (.ref a2)]) rfl k) ?_
  obtain ⟨T3, X3, e3, st3⟩ := getS2 X2 hx hZ hown (host := "") (Or.inl (hw _ (List.mem_of_getElem? (i := 64) rfl))) Via.refl e2 P9 (g := (mkF m 19 #[.val (.ref a1), .val (.ref a2), .val (.ref a2)] [])) rfl (hb hby d_jdk_42_method_66_code_19)
  refine own_fw (A' := (T3.setTop (mkF m 22 #[.val (.ref a1), .val (.ref a2), .val (.ref a2)] [(.int cs)]))) (fun t k => st3 _ k) ?_
  refine own_fw (A' := (T3.setTop (mkF m 25 #[.val (.ref a1), .val (.ref a2), .val (.ref a2)] []))) (fun t k => XS.ifNo X3.here hx rfl (hb hby d_jdk_42_method_66_code_22) rfl (XT.i0_eq_f hcs) k) ?_
  refine own_fw (A' := (T3.setTop (mkF m 26 #[.val (.ref a1), .val (.ref a2), .val (.ref a2)] [(.ref a1)]))) (fun t k => XS.aloadN X3.here hx rfl (hb hby d_jdk_42_method_66_code_25) rfl rfl k) ?_
  obtain ⟨T4, X4, e4, st4⟩ := getF X3 hx hZ hown (host := "") (Or.inl (hw _ (List.mem_of_getElem? (i := 32) rfl))) Via.refl e3 P2 (g := (mkF m 26 #[.val (.ref a1), .val (.ref a2), .val (.ref a2)] [(.ref a1)])) rfl rfl (hb hby d_jdk_42_method_66_code_26)
  refine own_fw (A' := (T4.setTop (mkF m 29 #[.val (.ref a1), .val (.ref a2), .val (.ref a2)] [(.int (0 : Int32))]))) (fun t k => st4 _ k) ?_
  refine own_fw (A' := (T4.setTop (mkF m 30 #[.val (.ref a1), .val (.ref a2), .val (.ref a2)] [(.ref a2), (.int (0 : Int32))]))) (fun t k => XS.aloadN X4.here hx rfl (hb hby d_jdk_42_method_66_code_29) rfl rfl k) ?_
  obtain ⟨T5, X5, e5, st5⟩ := getF X4 hx hZ hown (host := "") (Or.inl (hw _ (List.mem_of_getElem? (i := 32) rfl))) Via.refl e4 P3 (g := (mkF m 30 #[.val (.ref a1), .val (.ref a2), .val (.ref a2)] [(.ref a2), (.int (0 : Int32))])) rfl rfl (hb hby d_jdk_42_method_66_code_30)
  refine own_fw (A' := (T5.setTop (mkF m 33 #[.val (.ref a1), .val (.ref a2), .val (.ref a2)] [(.int (0 : Int32)), (.int (0 : Int32))]))) (fun t k => st5 _ k) ?_
  refine own_fw (A' := (T5.setTop (mkF m 36 #[.val (.ref a1), .val (.ref a2), .val (.ref a2)] []))) (fun t k => XS.icmpNo X5.here hx rfl (hb hby d_jdk_42_method_66_code_33) rfl (XT.ii_ne_f rfl) k) ?_
  refine own_fw (A' := (T5.setTop (mkF m 37 #[.val (.ref a1), .val (.ref a2), .val (.ref a2)] [(.ref a1)]))) (fun t k => XS.aloadN X5.here hx rfl (hb hby d_jdk_42_method_66_code_36) rfl rfl k) ?_
  obtain ⟨T6, X6, e6, st6⟩ := getF X5 hx hZ hown (host := "") (Or.inl (hw _ (List.mem_of_getElem? (i := 31) rfl))) Via.refl e5 P4 (g := (mkF m 37 #[.val (.ref a1), .val (.ref a2), .val (.ref a2)] [(.ref a1)])) rfl rfl (hb hby d_jdk_42_method_66_code_37)
  refine own_fw (A' := (T6.setTop (mkF m 40 #[.val (.ref a1), .val (.ref a2), .val (.ref a2)] [(.ref b1)]))) (fun t k => st6 _ k) ?_
  refine own_fw (A' := (T6.setTop (mkF m 41 #[.val (.ref a1), .val (.ref a2), .val (.ref a2)] [(.ref a2), (.ref b1)]))) (fun t k => XS.aloadN X6.here hx rfl (hb hby d_jdk_42_method_66_code_40) rfl rfl k) ?_
  obtain ⟨T7, X7, e7, st7⟩ := getF X6 hx hZ hown (host := "") (Or.inl (hw _ (List.mem_of_getElem? (i := 31) rfl))) Via.refl e6 P5 (g := (mkF m 41 #[.val (.ref a1), .val (.ref a2), .val (.ref a2)] [(.ref a2), (.ref b1)])) rfl rfl (hb hby d_jdk_42_method_66_code_41)
  refine own_fw (A' := (T7.setTop (mkF m 44 #[.val (.ref a1), .val (.ref a2), .val (.ref a2)] [(.ref b2), (.ref b1)]))) (fun t k => st7 _ k) ?_
  obtain ⟨_, _, ⟨T8, L8, k8, n8⟩, -, X8, ⟨Lc8, hQ8, l8, y8, z8⟩, st8⟩ := Jvm.LawKit.callS X7 hx (y := (⟨"java/lang/StringLatin1", "equals", "([B[B)Z"⟩ : MethodName)) hown (mvT hZ (hw _ (List.mem_of_getElem? (i := 65) rfl))) (mvT hZ (hw _ (List.mem_of_getElem? (i := 66) rfl))) (mvT hZ (hw _ (List.mem_of_getElem? (i := 67) rfl))) (mvT hZ (hw _ (List.mem_of_getElem? (i := 68) rfl))) (by decide) (backOf (W := 0) (rmLeq22 l Z a0 hw [] b1 b2 k1 k2 x0 x1 y0 y1 h0 n0 Z0 P6 P7) hZ (hw _ (List.mem_of_getElem? (i := 68) rfl)) (hw _ (List.mem_of_getElem? (i := 67) rfl)) (by decide) (by decide)) (g := (mkF m 44 #[.val (.ref a1), .val (.ref a2), .val (.ref a2)] [(.ref b2), (.ref b1)])) rfl (by rw [hml]; rfl) (argsL := [(.ref b1), (.ref b2)]) (rest := []) (lenOf pd___B_B_Z rfl) rfl (by show 2 * 0 + _ ≤ _; exact Nat.le_of_eq rfl) (hb hby d_jdk_42_method_66_code_44) (fun _ _ => ⟨rfl, e7, (by decide : 0 + 0 ≤ _), (by decide : 0 + 0 ≤ _)⟩)
  dsimp only [Pt.U, Pt.locs, Pt.cells, Pt.slots] at X8 l8 y8 z8 st8 hQ8
  subst l8 y8 z8
  obtain ⟨rfl, Nq8, e8⟩ := hQ8
  have Nf8 := Fr.app N0 Nq8
  refine own_fw (A' := (T8.setTop (mkF m 47 #[.val (.ref a1), .val (.ref a2), .val (.ref a2)] [(.int (if x0 = y0 then (if x1 = y1 then (1 : Int32) else (0 : Int32)) else (0 : Int32)))]))) (fun t k => st8 _ k) ?_
  by_cases hc9 : (if x0 = y0 then (if x1 = y1 then (1 : Int32) else (0 : Int32)) else (0 : Int32)) = (0 : Int32)
  · refine own_fw (A' := (T8.setTop (mkF m 54 #[.val (.ref a1), .val (.ref a2), .val (.ref a2)] []))) (fun t k => XS.ifYes X8.here hx rfl (pc0 := 47) (pc' := 54) rfl (hb hby d_jdk_42_method_66_code_47) rfl (XT.i0_eq_t hc9) (by decide) (by decide) k) ?_
    refine own_fw (A' := (T8.setTop (mkF m 55 #[.val (.ref a1), .val (.ref a2), .val (.ref a2)] [(.int (0 : Int32))]))) (fun t k => XS.iconst X8.here hx rfl (hb hby d_jdk_42_method_66_code_54) k) ?_
    obtain ⟨fs, hr, hrun, hended, hW, hsame⟩ := X8.leave (v := some (.int (0 : Int32))) (fun h => by rw [Bd.returns] at h; cases h)
    refine ⟨_, _, ?_, hrun, hended, _, _, rfl, ?_, ⟨_, rfl⟩, hW, hsame.mono (by decide) (by decide)⟩
    · exact retOut X8 hx Bd.returns rfl (Or.inl ⟨rfl, by simp, _, rfl⟩) (hb hby d_jdk_42_method_66_code_55) hr
    · show Q_rmSeq22 Z a1 a2 b1 b2 k1 k2 cs x0 x1 y0 y1 h0 n0 _ T8.heap _
      rw [e8]
      exact ⟨(by first | rfl | (have q := hc9; revert q; (repeat' split) <;> simp)), Nf8, rfl⟩
  · refine own_fw (A' := (T8.setTop (mkF m 50 #[.val (.ref a1), .val (.ref a2), .val (.ref a2)] []))) (fun t k => XS.ifNo X8.here hx rfl (hb hby d_jdk_42_method_66_code_47) rfl (XT.i0_eq_f hc9) k) ?_
    refine own_fw (A' := (T8.setTop (mkF m 51 #[.val (.ref a1), .val (.ref a2), .val (.ref a2)] [(.int (1 : Int32))]))) (fun t k => XS.iconst X8.here hx rfl (hb hby d_jdk_42_method_66_code_50) k) ?_
    refine own_fw (A' := (T8.setTop (mkF m 55 #[.val (.ref a1), .val (.ref a2), .val (.ref a2)] [(.int (1 : Int32))]))) (fun t k => XS.goto X8.here hx rfl (pc0 := 51) (pc' := 55) rfl (hb hby d_jdk_42_method_66_code_51) (by decide) (by decide) k) ?_
    obtain ⟨fs, hr, hrun, hended, hW, hsame⟩ := X8.leave (v := some (.int (1 : Int32))) (fun h => by rw [Bd.returns] at h; cases h)
    refine ⟨_, _, ?_, hrun, hended, _, _, rfl, ?_, ⟨_, rfl⟩, hW, hsame.mono (by decide) (by decide)⟩
    · exact retOut X8 hx Bd.returns rfl (Or.inl ⟨rfl, by simp, _, rfl⟩) (hb hby d_jdk_42_method_66_code_55) hr
    · show Q_rmSeq22 Z a1 a2 b1 b2 k1 k2 cs x0 x1 y0 y1 h0 n0 _ T8.heap _
      rw [e8]
      exact ⟨(by first | rfl | (have q := hc9; revert q; (repeat' split) <;> simp)), Nf8, rfl⟩
def Q_rmEq (Z : State) (a1 a2 : Addr) (d1 d2 : List Int32) (cs : Int32) (h0 : Heap) (n0 : Nat) (v : Option Value) (h : Heap) (L : List Loc) : Prop := v = some (.int (own_leq d1 d2)) ∧ Fr n0 L ∧ h = h0
theorem rmEq (l : Launch) (Z : State) (a0 : Array Value) (hw : ∀ d ∈ tables_1, d.before a0 Z = true) (ws : List Jvm.Cond) (a1 a2 : Addr) (d1 d2 : List Int32) (cs : Int32) (h0 : Heap) (n0 : Nat) (Z0 : n0 ≤ h0.size) (P0 : own_Str Z h0 a1 d1) (P1 : own_Str Z h0 a2 d2) (ne_a1_a2 : a1 ≠ a2) (P3 : Sta Z h0 "java/lang/String" "COMPACT_STRINGS" "Z" (.int cs)) (hcs : ¬ (cs = (0 : Int32))) (s1 : own_small d1) (s2 : own_small d2) :
    MetFree l (⟨"java/lang/String", "equals", "(Ljava/lang/Object;)Z"⟩ : MethodName) (head1 (Jvm.Cond.code (⟨"java/lang/String", "equals", "(Ljava/lang/Object;)Z"⟩ : MethodName) jdk_42_method_66_code 3 (some .boolean) :: ws) ({ frames := 1, cells := 0, slots := 0, locals := 14 } : Room)) (fun a U => a = #[(.ref a1), (.ref a2)] ∧ Z.Warmed39 U.vm ∧ U.heap = h0) (fun _ _ _ _ _ => True) (fun _ U o U' => ∃ v L, o = .returned v ∧ Q_rmEq Z a1 a2 d1 d2 cs h0 n0 v U'.heap L ∧ FrameEnd U o U' L ({ frames := 1, cells := 0, slots := 0, locals := 14 } : Room).cells ({ frames := 1, cells := 0, slots := 0, locals := 14 } : Room).slots) := by
  obtain ⟨b1, k1, E1, C1, V1, A1⟩ := P0
  obtain ⟨b2, k2, E2, C2, V2, A2⟩ := P1
  have r1 := s1.2
  have r2 := s2.2
  rcases own_shape s1 with rfl | ⟨x0, rfl⟩ | ⟨x0, x1, rfl⟩ <;> rcases own_shape s2 with rfl | ⟨y0, rfl⟩ | ⟨y0, y1, rfl⟩
  · refine own_metMono (rmSeq00 l Z a0 hw ws a1 a2 b1 b2 k1 k2 cs   h0 n0 Z0 E1 E2 C1 C2 V1 V2 A1 A2 ne_a1_a2 P3 hcs) ?_
    rintro a U o U' ⟨v, L, e1, ⟨e2, e3, e4⟩, e5⟩
    exact ⟨v, L, e1, ⟨e2.trans (congrArg some (congrArg Value.int (by simp [own_leq]))), e3, e4⟩, e5⟩
  · refine own_metMono (rmSeq01 l Z a0 hw ws a1 a2 b1 b2 k1 k2 cs  (y0.toInt8.toInt32) h0 n0 Z0 E1 E2 C1 C2 V1 V2 A1 A2 ne_a1_a2 P3 hcs) ?_
    rintro a U o U' ⟨v, L, e1, ⟨e2, e3, e4⟩, e5⟩
    exact ⟨v, L, e1, ⟨e2.trans (congrArg some (congrArg Value.int (by simp [own_leq]))), e3, e4⟩, e5⟩
  · refine own_metMono (rmSeq02 l Z a0 hw ws a1 a2 b1 b2 k1 k2 cs  (y0.toInt8.toInt32) (y1.toInt8.toInt32) h0 n0 Z0 E1 E2 C1 C2 V1 V2 A1 A2 ne_a1_a2 P3 hcs) ?_
    rintro a U o U' ⟨v, L, e1, ⟨e2, e3, e4⟩, e5⟩
    exact ⟨v, L, e1, ⟨e2.trans (congrArg some (congrArg Value.int (by simp [own_leq]))), e3, e4⟩, e5⟩
  · refine own_metMono (rmSeq10 l Z a0 hw ws a1 a2 b1 b2 k1 k2 cs (x0.toInt8.toInt32)  h0 n0 Z0 E1 E2 C1 C2 V1 V2 A1 A2 ne_a1_a2 P3 hcs) ?_
    rintro a U o U' ⟨v, L, e1, ⟨e2, e3, e4⟩, e5⟩
    exact ⟨v, L, e1, ⟨e2.trans (congrArg some (congrArg Value.int (by simp [own_leq]))), e3, e4⟩, e5⟩
  · refine own_metMono (rmSeq11 l Z a0 hw ws a1 a2 b1 b2 k1 k2 cs (x0.toInt8.toInt32) (y0.toInt8.toInt32) h0 n0 Z0 E1 E2 C1 C2 V1 V2 A1 A2 ne_a1_a2 P3 hcs) ?_
    rintro a U o U' ⟨v, L, e1, ⟨e2, e3, e4⟩, e5⟩
    have i0 : (x0.toInt8.toInt32 = y0.toInt8.toInt32) ↔ x0 = y0 := ⟨own_byteInj (r1 _ (by simp)) (r2 _ (by simp)), fun q => by rw [q]⟩
    exact ⟨v, L, e1, ⟨e2.trans (congrArg some (congrArg Value.int (by simp only [own_leq, i0]; by_cases q0 : x0 = y0 <;> simp [q0]))), e3, e4⟩, e5⟩
  · refine own_metMono (rmSeq12 l Z a0 hw ws a1 a2 b1 b2 k1 k2 cs (x0.toInt8.toInt32) (y0.toInt8.toInt32) (y1.toInt8.toInt32) h0 n0 Z0 E1 E2 C1 C2 V1 V2 A1 A2 ne_a1_a2 P3 hcs) ?_
    rintro a U o U' ⟨v, L, e1, ⟨e2, e3, e4⟩, e5⟩
    exact ⟨v, L, e1, ⟨e2.trans (congrArg some (congrArg Value.int (by simp [own_leq]))), e3, e4⟩, e5⟩
  · refine own_metMono (rmSeq20 l Z a0 hw ws a1 a2 b1 b2 k1 k2 cs (x0.toInt8.toInt32) (x1.toInt8.toInt32)  h0 n0 Z0 E1 E2 C1 C2 V1 V2 A1 A2 ne_a1_a2 P3 hcs) ?_
    rintro a U o U' ⟨v, L, e1, ⟨e2, e3, e4⟩, e5⟩
    exact ⟨v, L, e1, ⟨e2.trans (congrArg some (congrArg Value.int (by simp [own_leq]))), e3, e4⟩, e5⟩
  · refine own_metMono (rmSeq21 l Z a0 hw ws a1 a2 b1 b2 k1 k2 cs (x0.toInt8.toInt32) (x1.toInt8.toInt32) (y0.toInt8.toInt32) h0 n0 Z0 E1 E2 C1 C2 V1 V2 A1 A2 ne_a1_a2 P3 hcs) ?_
    rintro a U o U' ⟨v, L, e1, ⟨e2, e3, e4⟩, e5⟩
    exact ⟨v, L, e1, ⟨e2.trans (congrArg some (congrArg Value.int (by simp [own_leq]))), e3, e4⟩, e5⟩
  · refine own_metMono (rmSeq22 l Z a0 hw ws a1 a2 b1 b2 k1 k2 cs (x0.toInt8.toInt32) (x1.toInt8.toInt32) (y0.toInt8.toInt32) (y1.toInt8.toInt32) h0 n0 Z0 E1 E2 C1 C2 V1 V2 A1 A2 ne_a1_a2 P3 hcs) ?_
    rintro a U o U' ⟨v, L, e1, ⟨e2, e3, e4⟩, e5⟩
    have i0 : (x0.toInt8.toInt32 = y0.toInt8.toInt32) ↔ x0 = y0 := ⟨own_byteInj (r1 _ (by simp)) (r2 _ (by simp)), fun q => by rw [q]⟩
    have i1 : (x1.toInt8.toInt32 = y1.toInt8.toInt32) ↔ x1 = y1 := ⟨own_byteInj (r1 _ (by simp)) (r2 _ (by simp)), fun q => by rw [q]⟩
    exact ⟨v, L, e1, ⟨e2.trans (congrArg some (congrArg Value.int (by simp only [own_leq, i0, i1]; by_cases q0 : x0 = y0 <;> by_cases q1 : x1 = y1 <;> simp [q0, q1]))), e3, e4⟩, e5⟩

def own_ln (x : Int32) : Int32 := ((((x.toUInt32 >>> ((16 : Int32) &&& 31).toUInt32).toInt32) &&& (65535 : Int32)) % (3 : Int32))
def own_c0 (x : Int32) : Int32 := (x &&& (255 : Int32))
def own_c1 (x : Int32) : Int32 := (((x.toUInt32 >>> ((8 : Int32) &&& 31).toUInt32).toInt32) &&& (255 : Int32))
def own_chars (x : Int32) : List Int32 := if own_ln x = (0 : Int32) then [] else if own_ln x = (1 : Int32) then [own_c0 x] else [own_c0 x, own_c1 x]
def own_tail (x y : Int32) : Int32 := if own_ln x < (2 : Int32) then (1 : Int32) else if own_c1 x = own_c1 y then (1 : Int32) else (0 : Int32)
def own_same (x y : Int32) : Int32 := if own_ln x = own_ln y then (if own_ln x < (1 : Int32) then own_tail x y else if own_c0 x = own_c0 y then own_tail x y else (0 : Int32)) else (0 : Int32)
def own_ma (a b c d : List Int32) : Int32 := if own_leq a b = (0 : Int32) then (0 : Int32) else if own_leq c d = (0 : Int32) then (0 : Int32) else (1 : Int32)
theorem own_rng (x : Int32) : 0 ≤ (x &&& (255 : Int32)).toInt ∧ (x &&& (255 : Int32)).toInt ≤ 255 := by
  have m := c_mask x 255 8 (by decide) (by decide)
  omega
theorem own_le255 (x : Int32) : ¬ ((255 : Int32) < (x &&& (255 : Int32))) := by
  have m := own_rng x
  have e : (255 : Int32).toInt = 255 := by decide
  rw [Int32.lt_iff_toInt_lt]
  omega
theorem own_narC (x : Int32) : nar .char (x &&& (255 : Int32)) = (x &&& (255 : Int32)) := i2c_mask x
theorem own_lnR (x : Int32) : own_ln x = 0 ∨ own_ln x = 1 ∨ own_ln x = 2 := by
  have m := c_mask ((x.toUInt32 >>> ((16 : Int32) &&& 31).toUInt32).toInt32) 65535 16 (by decide) (by decide)
  have r := (c_irem (((x.toUInt32 >>> ((16 : Int32) &&& 31).toUInt32).toInt32) &&& (65535 : Int32)) 3 3 (by decide)).1 (by omega)
  have e0 : (0 : Int32).toInt = 0 := by decide
  have e1 : (1 : Int32).toInt = 1 := by decide
  have e2 : (2 : Int32).toInt = 2 := by decide
  unfold own_ln
  simp only [← Int32.toInt_inj, e0, e1, e2]
  omega
theorem own_sm (x : Int32) : own_small (own_chars x) := by
  have h0 : 0 ≤ (own_c0 x).toInt ∧ (own_c0 x).toInt ≤ 255 := own_rng x
  have h1 : 0 ≤ (own_c1 x).toInt ∧ (own_c1 x).toInt ≤ 255 := own_rng _
  unfold own_chars own_small
  split
  · simp
  · split
    · simpa using h0
    · simp only [List.length_cons, List.length_nil, List.mem_cons, List.not_mem_nil, or_false]
      exact ⟨by omega, fun c hc => by rcases hc with rfl | rfl; exact h0; exact h1⟩
theorem own_sameIff (x y : Int32) : own_same x y = own_leq (own_chars x) (own_chars y) := by
  have d01 : ¬ (0 : Int32) = 1 := by decide
  have d02 : ¬ (0 : Int32) = 2 := by decide
  have d12 : ¬ (1 : Int32) = 2 := by decide
  have d10 : ¬ (1 : Int32) = 0 := by decide
  have d20 : ¬ (2 : Int32) = 0 := by decide
  have d21 : ¬ (2 : Int32) = 1 := by decide
  have l01 : (0 : Int32) < 1 := by decide
  have l02 : (0 : Int32) < 2 := by decide
  have l12 : (1 : Int32) < 2 := by decide
  have l11 : ¬ (1 : Int32) < 1 := by decide
  have l21 : ¬ (2 : Int32) < 1 := by decide
  have l22 : ¬ (2 : Int32) < 2 := by decide
  rcases own_lnR x with hx | hx | hx <;> rcases own_lnR y with hy | hy | hy <;> simp only [own_same, own_tail, own_leq, own_chars, hx, hy, d01, d02, d12, d10, d20, d21, l01, l02, l12, l11, l21, l22, if_true, if_false] <;> simp
  · by_cases q0 : own_c0 x = own_c0 y <;> by_cases q1 : own_c1 x = own_c1 y <;> simp [q0, q1]
theorem own_fin1 (a b c d : Int32) (h : own_same a b = (0 : Int32)) : own_ma (own_chars a) (own_chars b) (own_chars c) (own_chars d) = (0 : Int32) := by
  rw [own_sameIff] at h
  simp only [own_ma, if_pos h]
theorem own_fin2 (a b c d : Int32) (h : ¬ own_same a b = (0 : Int32)) (h2 : own_same c d = (0 : Int32)) : own_ma (own_chars a) (own_chars b) (own_chars c) (own_chars d) = (0 : Int32) := by
  rw [own_sameIff] at h h2
  simp only [own_ma, if_neg h, if_pos h2]
theorem own_fin3 (a b c d : Int32) (h : ¬ own_same a b = (0 : Int32)) (h2 : ¬ own_same c d = (0 : Int32)) : own_ma (own_chars a) (own_chars b) (own_chars c) (own_chars d) = (1 : Int32) := by
  rw [own_sameIff] at h h2
  simp only [own_ma, if_neg h, if_neg h2]

theorem pn_com_example_kodnik_kodnik_store_MappingMapsAlikePinLaw : plainName "com/example/kodnik/kodnik/store/MappingMapsAlikePinLaw" = true := by first | (simp [plainName, overriddenIn]; done) | decide +kernel
theorem d_method_2_code_0 : decode method_2_code 0 = .ok (.iload_n 0, 1) := by decide +kernel
theorem d_method_2_code_1 : decode method_2_code 1 = .ok (.bipush 16, 2) := by decide +kernel
theorem d_method_2_code_3 : decode method_2_code 3 = .ok (.iushr, 1) := by decide +kernel
theorem d_method_2_code_4 : decode method_2_code 4 = .ok (.ldc 7, 2) := by decide +kernel
theorem d_method_2_code_6 : decode method_2_code 6 = .ok (.iand, 1) := by decide +kernel
theorem d_method_2_code_7 : decode method_2_code 7 = .ok (.iconst 3, 1) := by decide +kernel
theorem d_method_2_code_8 : decode method_2_code 8 = .ok (.irem, 1) := by decide +kernel
theorem d_method_2_code_9 : decode method_2_code 9 = .ok (.ireturn, 1) := by decide +kernel
theorem ef_rmLen (m : MethodId) (p1 : Int32) : entryFrame m #[(.int p1)] 1 = mkF m 0 #[.val (.int p1)] [] := by first | (simp [entryFrame, mkF, argsToLocals, Value.category]; done) | rfl
def Q_rmLen (Z : State) (p1 : Int32) (h0 : Heap) (n0 : Nat) (v : Option Value) (h : Heap) (L : List Loc) : Prop := v = some (.int (own_ln p1)) ∧ Fr n0 L ∧ h = h0
set_option maxRecDepth 65536 in
set_option maxHeartbeats 40000000 in
theorem rmLen (l : Launch) (Z : State) (a0 : Array Value) (hw : ∀ d ∈ tables_1, d.before a0 Z = true) (ws : List Jvm.Cond) (p1 : Int32) (h0 : Heap) (n0 : Nat) (Z0 : n0 ≤ h0.size)  :
    MetFree l (⟨"com/example/kodnik/kodnik/store/MappingMapsAlikePinLaw", "len", "(I)I"⟩ : MethodName) (head1 (Jvm.Cond.code (⟨"com/example/kodnik/kodnik/store/MappingMapsAlikePinLaw", "len", "(I)I"⟩ : MethodName) method_2_code 1 (some .int) :: ws) ({ frames := 0, cells := 0, slots := 0, locals := 0 } : Room)) (fun a U => a = #[(.int p1)] ∧ Z.Warmed39 U.vm ∧ U.heap = h0) (fun _ _ _ _ _ => True) (fun _ U o U' => ∃ v L, o = .returned v ∧ Q_rmLen Z p1 h0 n0 v U'.heap L ∧ FrameEnd U o U' L ({ frames := 0, cells := 0, slots := 0, locals := 0 } : Room).cells ({ frames := 0, cells := 0, slots := 0, locals := 0 } : Room).slots) := by
  refine MetFree.of_bodySF (plainFor_of_name pn_com_example_kodnik_kodnik_store_MappingMapsAlikePinLaw) hisR ?_
  intro p e s m args below meth c s₁ Bd hml0 hP hK
  obtain ⟨rfl, hZ, hh⟩ := hP
  have hx := Bd.exec
  have hby := Bd.bytes
  have hml : c.maxLocals = 1 := hml0
  have hown : s.vm.findClass "com/example/kodnik/kodnik/store/MappingMapsAlikePinLaw" = some m.cls := findClass_of_methodNamed Bd.named
  have hnm := (name_of_methodNamed Bd.named Bd.method).1
  have X0 : Stand p l e ({ frames := 0, cells := 0, slots := 0, locals := 0 } : Room) s m #[(.int p1)] below meth c s₁ [] 0 0 := Stand.of_body Bd
  have e0 : s₁.heap = h0 := by rw [← hh, Bd.state]; rfl
  have N0 := Fr.nil n0
  refine own_fw (A' := (s₁.setTop (mkF m 0 #[.val (.int p1)] []))) (fun t k => castTop (ef_rmLen m p1) k) ?_
  refine own_fw (A' := (s₁.setTop (mkF m 1 #[.val (.int p1)] [(.int p1)]))) (fun t k => XS.iloadN X0.here hx rfl (hb hby d_method_2_code_0) rfl k) ?_
  refine own_fw (A' := (s₁.setTop (mkF m 3 #[.val (.int p1)] [(.int (16 : Int32)), (.int p1)]))) (fun t k => XS.bipush X0.here hx rfl (hb hby d_method_2_code_1) k) ?_
  refine own_fw (A' := (s₁.setTop (mkF m 4 #[.val (.int p1)] [(.int ((p1.toUInt32 >>> ((16 : Int32) &&& 31).toUInt32).toInt32))]))) (fun t k => XS.iushr X0.here hx rfl (hb hby d_method_2_code_3) rfl k) ?_
  refine own_fw (A' := (s₁.setTop (mkF m 6 #[.val (.int p1)] [(.int (65535 : Int32)), (.int ((p1.toUInt32 >>> ((16 : Int32) &&& 31).toUInt32).toInt32))]))) (fun t k => X0.ldcInt hx hown (mvT hZ (hw _ (List.mem_of_getElem? (i := 10) rfl))) (g := (mkF m 4 #[.val (.int p1)] [(.int ((p1.toUInt32 >>> ((16 : Int32) &&& 31).toUInt32).toInt32))])) rfl (hb hby d_method_2_code_4) _ k) ?_
  refine own_fw (A' := (s₁.setTop (mkF m 7 #[.val (.int p1)] [(.int (((p1.toUInt32 >>> ((16 : Int32) &&& 31).toUInt32).toInt32) &&& (65535 : Int32)))]))) (fun t k => XS.iand X0.here hx rfl (hb hby d_method_2_code_6) rfl k) ?_
  refine own_fw (A' := (s₁.setTop (mkF m 8 #[.val (.int p1)] [(.int (3 : Int32)), (.int (((p1.toUInt32 >>> ((16 : Int32) &&& 31).toUInt32).toInt32) &&& (65535 : Int32)))]))) (fun t k => XS.iconst X0.here hx rfl (hb hby d_method_2_code_7) k) ?_
  refine own_fw (A' := (s₁.setTop (mkF m 9 #[.val (.int p1)] [(.int ((((p1.toUInt32 >>> ((16 : Int32) &&& 31).toUInt32).toInt32) &&& (65535 : Int32)) % (3 : Int32)))]))) (fun t k => iremM X0 hx rfl (hb hby d_method_2_code_8) rfl (by decide) k) ?_
  obtain ⟨fs, hr, hrun, hended, hW, hsame⟩ := X0.leave (v := some (.int ((((p1.toUInt32 >>> ((16 : Int32) &&& 31).toUInt32).toInt32) &&& (65535 : Int32)) % (3 : Int32)))) (fun h => by rw [Bd.returns] at h; cases h)
  refine ⟨_, _, ?_, hrun, hended, _, _, rfl, ?_, ⟨_, rfl⟩, hW, hsame.mono (by decide) (by decide)⟩
  · exact retOut X0 hx Bd.returns rfl (Or.inl ⟨rfl, by simp, _, rfl⟩) (hb hby d_method_2_code_9) hr
  · show Q_rmLen Z p1 h0 n0 _ s₁.heap _
    rw [e0]
    exact ⟨rfl, N0, rfl⟩
theorem d_method_3_code_0 : decode method_3_code 0 = .ok (.iload_n 0, 1) := by decide +kernel
theorem d_method_3_code_1 : decode method_3_code 1 = .ok (.invokestatic 8, 3) := by decide +kernel
theorem pd__I_I : parseMethodDescriptor "(I)I" = some ⟨[.int], some .int⟩ := by decide +kernel
theorem d_method_3_code_4 : decode method_3_code 4 = .ok (.istore_n 1, 1) := by decide +kernel
theorem d_method_3_code_5 : decode method_3_code 5 = .ok (.iload_n 0, 1) := by decide +kernel
theorem d_method_3_code_6 : decode method_3_code 6 = .ok (.sipush 255, 3) := by decide +kernel
theorem d_method_3_code_9 : decode method_3_code 9 = .ok (.iand, 1) := by decide +kernel
theorem d_method_3_code_10 : decode method_3_code 10 = .ok (.i2c, 1) := by decide +kernel
theorem d_method_3_code_11 : decode method_3_code 11 = .ok (.istore_n 2, 1) := by decide +kernel
theorem d_method_3_code_12 : decode method_3_code 12 = .ok (.iload_n 0, 1) := by decide +kernel
theorem d_method_3_code_13 : decode method_3_code 13 = .ok (.bipush 8, 2) := by decide +kernel
theorem d_method_3_code_15 : decode method_3_code 15 = .ok (.iushr, 1) := by decide +kernel
theorem d_method_3_code_16 : decode method_3_code 16 = .ok (.sipush 255, 3) := by decide +kernel
theorem d_method_3_code_19 : decode method_3_code 19 = .ok (.iand, 1) := by decide +kernel
theorem d_method_3_code_20 : decode method_3_code 20 = .ok (.i2c, 1) := by decide +kernel
theorem d_method_3_code_21 : decode method_3_code 21 = .ok (.istore_n 3, 1) := by decide +kernel
theorem d_method_3_code_22 : decode method_3_code 22 = .ok (.iload_n 1, 1) := by decide +kernel
theorem d_method_3_code_23 : decode method_3_code 23 = .ok (.ifCond .ne 14, 3) := by decide +kernel
theorem d_method_3_code_26 : decode method_3_code 26 = .ok (.new 14, 3) := by decide +kernel
theorem d_method_3_code_29 : decode method_3_code 29 = .ok (.dup, 1) := by decide +kernel
theorem d_method_3_code_30 : decode method_3_code 30 = .ok (.iconst 0, 1) := by decide +kernel
theorem d_method_3_code_31 : decode method_3_code 31 = .ok (.newarray .char, 2) := by decide +kernel
theorem d_method_3_code_33 : decode method_3_code 33 = .ok (.invokespecial 16, 3) := by decide +kernel
theorem pd___C_V : parseMethodDescriptor "([C)V" = some ⟨[(.array .char)], none⟩ := by decide +kernel
theorem d_method_3_code_36 : decode method_3_code 36 = .ok (.areturn, 1) := by decide +kernel
theorem d_method_3_code_37 : decode method_3_code 37 = .ok (.iload_n 1, 1) := by decide +kernel
theorem d_method_3_code_38 : decode method_3_code 38 = .ok (.iconst 1, 1) := by decide +kernel
theorem d_method_3_code_39 : decode method_3_code 39 = .ok (.if_icmp .ne 18, 3) := by decide +kernel
theorem d_method_3_code_42 : decode method_3_code 42 = .ok (.new 14, 3) := by decide +kernel
theorem d_method_3_code_45 : decode method_3_code 45 = .ok (.dup, 1) := by decide +kernel
theorem d_method_3_code_46 : decode method_3_code 46 = .ok (.iconst 1, 1) := by decide +kernel
theorem d_method_3_code_47 : decode method_3_code 47 = .ok (.newarray .char, 2) := by decide +kernel
theorem d_method_3_code_49 : decode method_3_code 49 = .ok (.dup, 1) := by decide +kernel
theorem d_method_3_code_50 : decode method_3_code 50 = .ok (.iconst 0, 1) := by decide +kernel
theorem d_method_3_code_51 : decode method_3_code 51 = .ok (.iload_n 2, 1) := by decide +kernel
theorem d_method_3_code_52 : decode method_3_code 52 = .ok (.castore, 1) := by decide +kernel
theorem d_method_3_code_53 : decode method_3_code 53 = .ok (.invokespecial 16, 3) := by decide +kernel
theorem d_method_3_code_56 : decode method_3_code 56 = .ok (.areturn, 1) := by decide +kernel
theorem d_method_3_code_57 : decode method_3_code 57 = .ok (.new 14, 3) := by decide +kernel
theorem d_method_3_code_60 : decode method_3_code 60 = .ok (.dup, 1) := by decide +kernel
theorem d_method_3_code_61 : decode method_3_code 61 = .ok (.iconst 2, 1) := by decide +kernel
theorem d_method_3_code_62 : decode method_3_code 62 = .ok (.newarray .char, 2) := by decide +kernel
theorem d_method_3_code_64 : decode method_3_code 64 = .ok (.dup, 1) := by decide +kernel
theorem d_method_3_code_65 : decode method_3_code 65 = .ok (.iconst 0, 1) := by decide +kernel
theorem d_method_3_code_66 : decode method_3_code 66 = .ok (.iload_n 2, 1) := by decide +kernel
theorem d_method_3_code_67 : decode method_3_code 67 = .ok (.castore, 1) := by decide +kernel
theorem d_method_3_code_68 : decode method_3_code 68 = .ok (.dup, 1) := by decide +kernel
theorem d_method_3_code_69 : decode method_3_code 69 = .ok (.iconst 1, 1) := by decide +kernel
theorem d_method_3_code_70 : decode method_3_code 70 = .ok (.iload_n 3, 1) := by decide +kernel
theorem d_method_3_code_71 : decode method_3_code 71 = .ok (.castore, 1) := by decide +kernel
theorem d_method_3_code_72 : decode method_3_code 72 = .ok (.invokespecial 16, 3) := by decide +kernel
theorem d_method_3_code_75 : decode method_3_code 75 = .ok (.areturn, 1) := by decide +kernel
theorem ef_rmStr (m : MethodId) (p1 : Int32) : entryFrame m #[(.int p1)] 4 = mkF m 0 #[.val (.int p1), .unset, .unset, .unset] [] := by first | (simp [entryFrame, mkF, argsToLocals, Value.category]; done) | rfl
def Q_rmStr (Z : State) (p1 : Int32) (cs : Int32) (h0 : Heap) (n0 : Nat) (v : Option Value) (h : Heap) (L : List Loc) : Prop := ∃ b : Addr, v = some (.ref b) ∧ Fr n0 L ∧ Keep h0 h [] ∧ own_Str Z h b ((own_chars p1)) ∧ (h0.size ≤ b)
set_option maxRecDepth 65536 in
set_option maxHeartbeats 40000000 in
theorem rmStr (l : Launch) (Z : State) (a0 : Array Value) (hw : ∀ d ∈ tables_1, d.before a0 Z = true) (ws : List Jvm.Cond) (p1 : Int32) (cs : Int32) (h0 : Heap) (n0 : Nat) (Z0 : n0 ≤ h0.size) (P0 : Sta Z h0 "java/lang/String" "COMPACT_STRINGS" "Z" (.int cs)) (hcs : ¬ (cs = (0 : Int32))) :
    MetFree l (⟨"com/example/kodnik/kodnik/store/MappingMapsAlikePinLaw", "str", "(I)Ljava/lang/String;"⟩ : MethodName) (head1 (Jvm.Cond.code (⟨"com/example/kodnik/kodnik/store/MappingMapsAlikePinLaw", "str", "(I)Ljava/lang/String;"⟩ : MethodName) method_3_code 4 (some (.object "java/lang/String")) :: ws) ({ frames := 4, cells := 6, slots := 12, locals := 66 } : Room)) (fun a U => a = #[(.int p1)] ∧ Z.Warmed39 U.vm ∧ U.heap = h0 ∧ CHv Z own_EL U.vm h0) (fun _ _ _ _ _ => True) (fun _ U o U' => ∃ v L, o = .returned v ∧ Q_rmStr Z p1 cs h0 n0 v U'.heap L ∧ CHr Z own_EL U.vm U.heap U'.vm U'.heap ∧ ReturnedEndW U o U' L ({ frames := 4, cells := 6, slots := 12, locals := 66 } : Room).cells ({ frames := 4, cells := 6, slots := 12, locals := 66 } : Room).slots) := by
  refine MetFree.of_bodySF (plainFor_of_name pn_com_example_kodnik_kodnik_store_MappingMapsAlikePinLaw) hisR ?_
  intro p e s m args below meth c s₁ Bd hml0 hP hK
  obtain ⟨rfl, hZ, hh, hH⟩ := hP
  have hx := Bd.exec
  have hby := Bd.bytes
  have hml : c.maxLocals = 4 := hml0
  have hown : s.vm.findClass "com/example/kodnik/kodnik/store/MappingMapsAlikePinLaw" = some m.cls := findClass_of_methodNamed Bd.named
  have hnm := (name_of_methodNamed Bd.named Bd.method).1
  have X0 : Stand p l e ({ frames := 4, cells := 6, slots := 12, locals := 66 } : Room) (s.setVm s.vm) m #[(.int p1)] below meth c s₁ [] 0 0 := Stand.of_body Bd
  have e0 : s₁.heap = h0 := by rw [← hh, Bd.state]; rfl
  have N0 := Fr.nil n0
  refine own_fw (A' := (s₁.setTop (mkF m 0 #[.val (.int p1), .unset, .unset, .unset] []))) (fun t k => castTop (ef_rmStr m p1) k) ?_
  have hS : s.Since s.vm h0.size := (State.WarmedH.refl s).since _
  have hk : h0.size ≤ h0.size := Nat.le_refl _
  have hC : CHr Z own_EL s.vm h0 s.vm h0 := CHr.refl hH
  refine own_fw (A' := (s₁.setTop (mkF m 1 #[.val (.int p1), .unset, .unset, .unset] [(.int p1)]))) (fun t k => XS.iloadN X0.here hx rfl (hb hby d_method_3_code_0) rfl k) ?_
  obtain ⟨_, _, ⟨T1, L1, k1, n1⟩, -, X1, ⟨Lc1, hQ1, l1, y1, z1⟩, st1⟩ := Jvm.LawKit.callS X0 hx (y := (⟨"com/example/kodnik/kodnik/store/MappingMapsAlikePinLaw", "len", "(I)I"⟩ : MethodName)) hown (mvT hZ (hw _ (List.mem_of_getElem? (i := 7) rfl))) (mvT hZ (hw _ (List.mem_of_getElem? (i := 8) rfl))) (mvT hZ (hw _ (List.mem_of_getElem? (i := 5) rfl))) (mvT hZ (hw _ (List.mem_of_getElem? (i := 9) rfl))) (by decide) (backOf (W := 0) (rmLen l Z a0 hw [] p1 h0 n0 Z0 ) hZ (hw _ (List.mem_of_getElem? (i := 9) rfl)) (hw _ (List.mem_of_getElem? (i := 5) rfl)) (by decide) (by decide)) (g := (mkF m 1 #[.val (.int p1), .unset, .unset, .unset] [(.int p1)])) rfl (by rw [hml]; rfl) (argsL := [(.int p1)]) (rest := []) (lenOf pd__I_I rfl) rfl (by show 2 * 0 + _ ≤ _; exact Nat.le_of_eq rfl) (hb hby d_method_3_code_1) (fun _ _ => ⟨rfl, e0, (by decide : 0 + 0 ≤ _), (by decide : 0 + 0 ≤ _)⟩)
  dsimp only [Pt.U, Pt.locs, Pt.cells, Pt.slots] at X1 l1 y1 z1 st1 hQ1
  subst l1 y1 z1
  obtain ⟨rfl, Nq1, e1⟩ := hQ1
  have Nf1 := Fr.app N0 Nq1
  refine own_fw (A' := (T1.setTop (mkF m 4 #[.val (.int p1), .unset, .unset, .unset] [(.int (own_ln p1))]))) (fun t k => st1 _ k) ?_
  refine own_fw (A' := (T1.setTop (mkF m 5 #[.val (.int p1), .val (.int (own_ln p1)), .unset, .unset] []))) (fun t k => XS.istoreN X1.here hx rfl (hb hby d_method_3_code_4) rfl (l' := #[.val (.int p1), .val (.int (own_ln p1)), .unset, .unset]) rfl k) ?_
  refine own_fw (A' := (T1.setTop (mkF m 6 #[.val (.int p1), .val (.int (own_ln p1)), .unset, .unset] [(.int p1)]))) (fun t k => XS.iloadN X1.here hx rfl (hb hby d_method_3_code_5) rfl k) ?_
  refine own_fw (A' := (T1.setTop (mkF m 9 #[.val (.int p1), .val (.int (own_ln p1)), .unset, .unset] [(.int (255 : Int32)), (.int p1)]))) (fun t k => XS.sipush X1.here hx rfl (hb hby d_method_3_code_6) k) ?_
  refine own_fw (A' := (T1.setTop (mkF m 10 #[.val (.int p1), .val (.int (own_ln p1)), .unset, .unset] [(.int (p1 &&& (255 : Int32)))]))) (fun t k => XS.iand X1.here hx rfl (hb hby d_method_3_code_9) rfl k) ?_
  refine own_fw (A' := (T1.setTop (mkF m 11 #[.val (.int p1), .val (.int (own_ln p1)), .unset, .unset] [(.int ((p1 &&& (255 : Int32)).toUInt32.toUInt16.toUInt32.toInt32))]))) (fun t k => XS.i2c X1.here hx rfl (hb hby d_method_3_code_10) rfl k) ?_
  rw [i2c_mask]
  rw [show ((p1 &&& (255 : Int32)) : Int32) = own_c0 p1 from rfl]
  refine own_fw (A' := (T1.setTop (mkF m 12 #[.val (.int p1), .val (.int (own_ln p1)), .val (.int (own_c0 p1)), .unset] []))) (fun t k => XS.istoreN X1.here hx rfl (hb hby d_method_3_code_11) rfl (l' := #[.val (.int p1), .val (.int (own_ln p1)), .val (.int (own_c0 p1)), .unset]) rfl k) ?_
  refine own_fw (A' := (T1.setTop (mkF m 13 #[.val (.int p1), .val (.int (own_ln p1)), .val (.int (own_c0 p1)), .unset] [(.int p1)]))) (fun t k => XS.iloadN X1.here hx rfl (hb hby d_method_3_code_12) rfl k) ?_
  refine own_fw (A' := (T1.setTop (mkF m 15 #[.val (.int p1), .val (.int (own_ln p1)), .val (.int (own_c0 p1)), .unset] [(.int (8 : Int32)), (.int p1)]))) (fun t k => XS.bipush X1.here hx rfl (hb hby d_method_3_code_13) k) ?_
  refine own_fw (A' := (T1.setTop (mkF m 16 #[.val (.int p1), .val (.int (own_ln p1)), .val (.int (own_c0 p1)), .unset] [(.int ((p1.toUInt32 >>> ((8 : Int32) &&& 31).toUInt32).toInt32))]))) (fun t k => XS.iushr X1.here hx rfl (hb hby d_method_3_code_15) rfl k) ?_
  refine own_fw (A' := (T1.setTop (mkF m 19 #[.val (.int p1), .val (.int (own_ln p1)), .val (.int (own_c0 p1)), .unset] [(.int (255 : Int32)), (.int ((p1.toUInt32 >>> ((8 : Int32) &&& 31).toUInt32).toInt32))]))) (fun t k => XS.sipush X1.here hx rfl (hb hby d_method_3_code_16) k) ?_
  refine own_fw (A' := (T1.setTop (mkF m 20 #[.val (.int p1), .val (.int (own_ln p1)), .val (.int (own_c0 p1)), .unset] [(.int (((p1.toUInt32 >>> ((8 : Int32) &&& 31).toUInt32).toInt32) &&& (255 : Int32)))]))) (fun t k => XS.iand X1.here hx rfl (hb hby d_method_3_code_19) rfl k) ?_
  refine own_fw (A' := (T1.setTop (mkF m 21 #[.val (.int p1), .val (.int (own_ln p1)), .val (.int (own_c0 p1)), .unset] [(.int ((((p1.toUInt32 >>> ((8 : Int32) &&& 31).toUInt32).toInt32) &&& (255 : Int32)).toUInt32.toUInt16.toUInt32.toInt32))]))) (fun t k => XS.i2c X1.here hx rfl (hb hby d_method_3_code_20) rfl k) ?_
  rw [i2c_mask]
  rw [show ((((p1.toUInt32 >>> ((8 : Int32) &&& 31).toUInt32).toInt32) &&& (255 : Int32)) : Int32) = own_c1 p1 from rfl]
  refine own_fw (A' := (T1.setTop (mkF m 22 #[.val (.int p1), .val (.int (own_ln p1)), .val (.int (own_c0 p1)), .val (.int (own_c1 p1))] []))) (fun t k => XS.istoreN X1.here hx rfl (hb hby d_method_3_code_21) rfl (l' := #[.val (.int p1), .val (.int (own_ln p1)), .val (.int (own_c0 p1)), .val (.int (own_c1 p1))]) rfl k) ?_
  refine own_fw (A' := (T1.setTop (mkF m 23 #[.val (.int p1), .val (.int (own_ln p1)), .val (.int (own_c0 p1)), .val (.int (own_c1 p1))] [(.int (own_ln p1))]))) (fun t k => XS.iloadN X1.here hx rfl (hb hby d_method_3_code_22) rfl k) ?_
  by_cases hc2 : (own_ln p1) = (0 : Int32)
  · refine own_fw (A' := (T1.setTop (mkF m 26 #[.val (.int p1), .val (.int (own_ln p1)), .val (.int (own_c0 p1)), .val (.int (own_c1 p1))] []))) (fun t k => XS.ifNo X1.here hx rfl (hb hby d_method_3_code_23) rfl (XT.i0_ne_f hc2) k) ?_
    obtain ⟨T3, h3, X3, e3, E3, A3, D3, -, st3⟩ := newO X1 hx hZ hown (hw _ (List.mem_of_getElem? (i := 11) rfl)) (hw _ (List.mem_of_getElem? (i := 12) rfl)) (hw _ (List.mem_of_getElem? (i := 13) rfl)) e1 (g := (mkF m 26 #[.val (.int p1), .val (.int (own_ln p1)), .val (.int (own_c0 p1)), .val (.int (own_c1 p1))] [])) rfl (hb hby d_method_3_code_26) (by decide) (by decide)
    obtain ⟨b3, gb3⟩ : ∃ z, z = h0.size := ⟨_, rfl⟩
    have g_b3 : n0 ≤ b3 := Nat.le_trans Z0 (Nat.le_of_eq gb3.symm)
    have sz_b3 : h0.size ≤ b3 := Nat.le_trans (Keep.refl h0 []).1 (Nat.le_of_eq gb3.symm)
    rw [← gb3] at A3 D3 st3
    have F4 : Safe Z own_EL _ h3 b3 := (Safe.ext E3 hH (Safe.new (Nat.le_of_eq gb3.symm) : Safe Z own_EL _ h0 b3))
    have F_value_b3 : Fld Z h3 b3 "java/lang/String" "value" "[B" .null := D3 (Or.inr (hw _ (List.mem_of_getElem? (i := 27) rfl))) (ty := (.array .byte)) (by decide)
    have F_coder_b3 : Fld Z h3 b3 "java/lang/String" "coder" "B" (.int (0 : Int32)) := D3 (Or.inr (hw _ (List.mem_of_getElem? (i := 28) rfl))) (ty := .byte) (by decide)
    have K3 : Keep h0 h3 [] := (Keep.refl h0 []).ext E3
    have Z3 : n0 ≤ h3.size := Nat.le_trans Z0 E3.1
    have hk := Nat.le_trans hk E3.1
    have hC := hC.trans (CHr.ext E3 hH)
    have hH := hC.1
    refine own_fw (A' := (T3.setTop (mkF m 29 #[.val (.int p1), .val (.int (own_ln p1)), .val (.int (own_c0 p1)), .val (.int (own_c1 p1))] [(.ref b3)]))) (fun t k => st3 _ k) ?_
    refine own_fw (A' := (T3.setTop (mkF m 30 #[.val (.int p1), .val (.int (own_ln p1)), .val (.int (own_c0 p1)), .val (.int (own_c1 p1))] [(.ref b3), (.ref b3)]))) (fun t k => XS.dup X3.here hx rfl (hb hby d_method_3_code_29) rfl rfl k) ?_
    refine own_fw (A' := (T3.setTop (mkF m 31 #[.val (.int p1), .val (.int (own_ln p1)), .val (.int (own_c0 p1)), .val (.int (own_c1 p1))] [(.int (0 : Int32)), (.ref b3), (.ref b3)]))) (fun t k => XS.iconst X3.here hx rfl (hb hby d_method_3_code_30) k) ?_
    obtain ⟨T5, h5, k5, X5, e5, E5, A5, st5⟩ := newP X3 hx hZ (hw _ (List.mem_of_getElem? (i := 14) rfl)) e3 (g := (mkF m 31 #[.val (.int p1), .val (.int (own_ln p1)), .val (.int (own_c0 p1)), .val (.int (own_c1 p1))] [(.int (0 : Int32)), (.ref b3), (.ref b3)])) rfl (hb hby d_method_3_code_31) rfl (by decide) (cap := 0) (by decide) (by decide) (by decide) (by decide)
    obtain ⟨b5, gb5⟩ : ∃ z, z = h3.size := ⟨_, rfl⟩
    have g_b5 : n0 ≤ b5 := Nat.le_trans Z3 (Nat.le_of_eq gb5.symm)
    have sz_b5 : h0.size ≤ b5 := Nat.le_trans K3.1 (Nat.le_of_eq gb5.symm)
    have ne_b3_b5 : b3 ≠ b5 := Nat.ne_of_lt (Nat.lt_of_lt_of_le A3.lt (Nat.le_of_eq gb5.symm))
    rw [← gb5] at A5 st5
    have F6 : Safe Z own_EL _ h5 b3 := (Safe.ext E5 hH F4)
    have F7 : Safe Z own_EL _ h5 b5 := (Safe.ext E5 hH (Safe.new (Nat.le_of_eq gb5.symm) : Safe Z own_EL _ h3 b5))
    have V_b5 : Arv Z h5 b5 k5 .char (0 : Int32) [] (.int (0 : Int32)) := (Arv.new A5 (by decide)).pad (pad_rep [] (.int (0 : Int32)) 0)
    have K5 : Keep h0 h5 [] := K3.ext E5
    have Z5 : n0 ≤ h5.size := Nat.le_trans Z3 E5.1
    have hk := Nat.le_trans hk E5.1
    have hC := hC.trans (CHr.ext E5 hH)
    have hH := hC.1
    refine own_fw (A' := (T5.setTop (mkF m 33 #[.val (.int p1), .val (.int (own_ln p1)), .val (.int (own_c0 p1)), .val (.int (own_c1 p1))] [(.ref b5), (.ref b3), (.ref b3)]))) (fun t k => st5 _ k) ?_
    obtain ⟨_, _, ⟨T8, L8, k8, n8⟩, -, X8, hS8, gS8, ⟨Lc8, hQ8, l8, y8, z8, r8⟩, st8⟩ := X5.specialBackS hx (y := (⟨"java/lang/String", "<init>", "([C)V"⟩ : MethodName)) rfl hown (mvT hZ (hw _ (List.mem_of_getElem? (i := 15) rfl))) (mvT hZ (hw _ (List.mem_of_getElem? (i := 16) rfl))) (mvT hZ (hw _ (List.mem_of_getElem? (i := 17) rfl))) (by decide) (backOfSH (W := 1) (rmStrA0 l Z a0 hw [] b3 b5 k5 h5 n0 Z5 (A3.ext E5) (F_coder_b3.ext E5) (F_value_b3.ext E5) V_b5 g_b3) hZ (hw _ (List.mem_of_getElem? (i := 17) rfl)) (hw _ (List.mem_of_getElem? (i := 13) rfl)) (by decide) (by decide) (own_EW hw) hH) (g := (mkF m 33 #[.val (.int p1), .val (.int (own_ln p1)), .val (.int (own_c0 p1)), .val (.int (own_c1 p1))] [(.ref b5), (.ref b3), (.ref b3)])) rfl (by rw [hml]; rfl) (Steps.refl _) (a := b3) (argsL := [(.ref b5)]) (rest := [(.ref b3)]) (lenOf pd___C_V rfl) rfl (by show 2 * 0 + _ ≤ _; exact Nat.le_of_eq rfl) (hb hby d_method_3_code_33) (fun _ _ => ⟨rfl, e5, (by decide : 2 + 4 ≤ _), (by decide : 4 + 8 ≤ _)⟩)
    dsimp only [Pt.U, Pt.locs, Pt.cells, Pt.slots] at X8 l8 y8 z8 st8 hQ8 hS8 gS8 r8
    subst l8 y8 z8
    obtain ⟨X8, hS, hZ', hown⟩ := rebS hS (by rw [e5]; exact hk : _ ≤ T5.heap.size) X8 hS8 gS8 hZ hown
    have hk : T8.heap.size ≤ T8.heap.size := Nat.le_refl _
    obtain ⟨b_8, kb_8, rfl, Nq8, Kq8, Fq8_0, Fq8_1, Fq8_2, Fq8_3⟩ := hQ8
    have Nf8 := Fr.app Nf1 Nq8
    have F9 : Safe Z own_EL _ T8.heap b3 := (CHr.safe r8 (A3.ext E5).lt F6)
    have F10 : Safe Z own_EL _ T8.heap b5 := (CHr.safe r8 V_b5.lt F7)
    have hC := hC.trans r8
    have hH := hC.1
    have hZ := hZ'
    have K8 : Keep h0 T8.heap [] := K5.trans Kq8 (allS (Or.inr sz_b3) all0)
    have Z8 : n0 ≤ T8.heap.size := Nat.le_trans Z5 Kq8.1
    refine own_fw (A' := (T8.setTop (mkF m 36 #[.val (.int p1), .val (.int (own_ln p1)), .val (.int (own_c0 p1)), .val (.int (own_c1 p1))] [(.ref b3)]))) (fun t k => st8.trans k) ?_
    obtain ⟨fs, hr, hrun, hended, hWE⟩ := X8.leaveW hS hk (v := some (.ref b3)) (fun h => by rw [Bd.returns] at h; cases h)
    have hCE : CHr Z own_EL s.vm s.heap (T8.setFrames fs).vm (T8.setFrames fs).heap := by rw [hh]; show CHr Z own_EL s.vm h0 T8.vm T8.heap; exact hC.trans (CHv.at X8 hZ (own_EW hw) hH)
    refine ⟨_, _, ?_, hrun, hended, _, _, rfl, ?_, hCE, own_widen hWE (by decide) (by decide)⟩
    · exact retOut X8 hx Bd.returns rfl (Or.inr (Or.inr (Or.inr (Or.inr ⟨rfl, rfl, rfl⟩)))) (hb hby d_method_3_code_36) hr
    · show Q_rmStr Z p1 cs h0 n0 _ T8.heap _
      exact ⟨b3, rfl, Nf8, K8, (by rw [show own_chars p1 = [] from by simp only [own_chars, if_neg hcs, if_pos hc2]]; exact ⟨b_8, kb_8, Fq8_0, Fq8_1, Fq8_2, Fq8_3⟩), sz_b3⟩
  · refine own_fw (A' := (T1.setTop (mkF m 37 #[.val (.int p1), .val (.int (own_ln p1)), .val (.int (own_c0 p1)), .val (.int (own_c1 p1))] []))) (fun t k => XS.ifYes X1.here hx rfl (pc0 := 23) (pc' := 37) rfl (hb hby d_method_3_code_23) rfl (XT.i0_ne_t hc2) (by decide) (by decide) k) ?_
    refine own_fw (A' := (T1.setTop (mkF m 38 #[.val (.int p1), .val (.int (own_ln p1)), .val (.int (own_c0 p1)), .val (.int (own_c1 p1))] [(.int (own_ln p1))]))) (fun t k => XS.iloadN X1.here hx rfl (hb hby d_method_3_code_37) rfl k) ?_
    refine own_fw (A' := (T1.setTop (mkF m 39 #[.val (.int p1), .val (.int (own_ln p1)), .val (.int (own_c0 p1)), .val (.int (own_c1 p1))] [(.int (1 : Int32)), (.int (own_ln p1))]))) (fun t k => XS.iconst X1.here hx rfl (hb hby d_method_3_code_38) k) ?_
    by_cases hc11 : (own_ln p1) = (1 : Int32)
    · refine own_fw (A' := (T1.setTop (mkF m 42 #[.val (.int p1), .val (.int (own_ln p1)), .val (.int (own_c0 p1)), .val (.int (own_c1 p1))] []))) (fun t k => XS.icmpNo X1.here hx rfl (hb hby d_method_3_code_39) rfl (XT.ii_ne_f hc11) k) ?_
      obtain ⟨T12, h12, X12, e12, E12, A12, D12, -, st12⟩ := newO X1 hx hZ hown (hw _ (List.mem_of_getElem? (i := 11) rfl)) (hw _ (List.mem_of_getElem? (i := 12) rfl)) (hw _ (List.mem_of_getElem? (i := 13) rfl)) e1 (g := (mkF m 42 #[.val (.int p1), .val (.int (own_ln p1)), .val (.int (own_c0 p1)), .val (.int (own_c1 p1))] [])) rfl (hb hby d_method_3_code_42) (by decide) (by decide)
      obtain ⟨b12, gb12⟩ : ∃ z, z = h0.size := ⟨_, rfl⟩
      have g_b12 : n0 ≤ b12 := Nat.le_trans Z0 (Nat.le_of_eq gb12.symm)
      have sz_b12 : h0.size ≤ b12 := Nat.le_trans (Keep.refl h0 []).1 (Nat.le_of_eq gb12.symm)
      rw [← gb12] at A12 D12 st12
      have F13 : Safe Z own_EL _ h12 b12 := (Safe.ext E12 hH (Safe.new (Nat.le_of_eq gb12.symm) : Safe Z own_EL _ h0 b12))
      have F_value_b12 : Fld Z h12 b12 "java/lang/String" "value" "[B" .null := D12 (Or.inr (hw _ (List.mem_of_getElem? (i := 27) rfl))) (ty := (.array .byte)) (by decide)
      have F_coder_b12 : Fld Z h12 b12 "java/lang/String" "coder" "B" (.int (0 : Int32)) := D12 (Or.inr (hw _ (List.mem_of_getElem? (i := 28) rfl))) (ty := .byte) (by decide)
      have K12 : Keep h0 h12 [] := (Keep.refl h0 []).ext E12
      have Z12 : n0 ≤ h12.size := Nat.le_trans Z0 E12.1
      have hk := Nat.le_trans hk E12.1
      have hC := hC.trans (CHr.ext E12 hH)
      have hH := hC.1
      refine own_fw (A' := (T12.setTop (mkF m 45 #[.val (.int p1), .val (.int (own_ln p1)), .val (.int (own_c0 p1)), .val (.int (own_c1 p1))] [(.ref b12)]))) (fun t k => st12 _ k) ?_
      refine own_fw (A' := (T12.setTop (mkF m 46 #[.val (.int p1), .val (.int (own_ln p1)), .val (.int (own_c0 p1)), .val (.int (own_c1 p1))] [(.ref b12), (.ref b12)]))) (fun t k => XS.dup X12.here hx rfl (hb hby d_method_3_code_45) rfl rfl k) ?_
      refine own_fw (A' := (T12.setTop (mkF m 47 #[.val (.int p1), .val (.int (own_ln p1)), .val (.int (own_c0 p1)), .val (.int (own_c1 p1))] [(.int (1 : Int32)), (.ref b12), (.ref b12)]))) (fun t k => XS.iconst X12.here hx rfl (hb hby d_method_3_code_46) k) ?_
      obtain ⟨T14, h14, k14, X14, e14, E14, A14, st14⟩ := newP X12 hx hZ (hw _ (List.mem_of_getElem? (i := 14) rfl)) e12 (g := (mkF m 47 #[.val (.int p1), .val (.int (own_ln p1)), .val (.int (own_c0 p1)), .val (.int (own_c1 p1))] [(.int (1 : Int32)), (.ref b12), (.ref b12)])) rfl (hb hby d_method_3_code_47) rfl (by decide) (cap := 1) (by decide) (by decide) (by decide) (by decide)
      obtain ⟨b14, gb14⟩ : ∃ z, z = h12.size := ⟨_, rfl⟩
      have g_b14 : n0 ≤ b14 := Nat.le_trans Z12 (Nat.le_of_eq gb14.symm)
      have sz_b14 : h0.size ≤ b14 := Nat.le_trans K12.1 (Nat.le_of_eq gb14.symm)
      have ne_b12_b14 : b12 ≠ b14 := Nat.ne_of_lt (Nat.lt_of_lt_of_le A12.lt (Nat.le_of_eq gb14.symm))
      rw [← gb14] at A14 st14
      have F15 : Safe Z own_EL _ h14 b12 := (Safe.ext E14 hH F13)
      have F16 : Safe Z own_EL _ h14 b14 := (Safe.ext E14 hH (Safe.new (Nat.le_of_eq gb14.symm) : Safe Z own_EL _ h12 b14))
      have V_b14 : Arv Z h14 b14 k14 .char (1 : Int32) [(.int (0 : Int32))] (.int (0 : Int32)) := (Arv.new A14 (by decide)).pad (pad_rep [] (.int (0 : Int32)) 1)
      have K14 : Keep h0 h14 [] := K12.ext E14
      have Z14 : n0 ≤ h14.size := Nat.le_trans Z12 E14.1
      have hk := Nat.le_trans hk E14.1
      have hC := hC.trans (CHr.ext E14 hH)
      have hH := hC.1
      refine own_fw (A' := (T14.setTop (mkF m 49 #[.val (.int p1), .val (.int (own_ln p1)), .val (.int (own_c0 p1)), .val (.int (own_c1 p1))] [(.ref b14), (.ref b12), (.ref b12)]))) (fun t k => st14 _ k) ?_
      refine own_fw (A' := (T14.setTop (mkF m 50 #[.val (.int p1), .val (.int (own_ln p1)), .val (.int (own_c0 p1)), .val (.int (own_c1 p1))] [(.ref b14), (.ref b14), (.ref b12), (.ref b12)]))) (fun t k => XS.dup X14.here hx rfl (hb hby d_method_3_code_49) rfl rfl k) ?_
      refine own_fw (A' := (T14.setTop (mkF m 51 #[.val (.int p1), .val (.int (own_ln p1)), .val (.int (own_c0 p1)), .val (.int (own_c1 p1))] [(.int (0 : Int32)), (.ref b14), (.ref b14), (.ref b12), (.ref b12)]))) (fun t k => XS.iconst X14.here hx rfl (hb hby d_method_3_code_50) k) ?_
      refine own_fw (A' := (T14.setTop (mkF m 52 #[.val (.int p1), .val (.int (own_ln p1)), .val (.int (own_c0 p1)), .val (.int (own_c1 p1))] [(.int (own_c0 p1)), (.int (0 : Int32)), (.ref b14), (.ref b14), (.ref b12), (.ref b12)]))) (fun t k => XS.iloadN X14.here hx rfl (hb hby d_method_3_code_51) rfl k) ?_
      obtain ⟨cl17, Ar17, q17, S17, M17, H17, G17⟩ := id V_b14
      have hin17 : ¬ ((0 : Int32) < 0 ∨ cl17.slots.size ≤ ((0 : Int32)).toNatClampNeg) := inb_of S17 ⟨by decide, by decide⟩
      obtain ⟨T17, h17, X17, e17, W17, st17⟩ := stC X14 hx hZ e14 Ar17 (j := (0 : Int32)) hin17 (g := (mkF m 52 #[.val (.int p1), .val (.int (own_ln p1)), .val (.int (own_c0 p1)), .val (.int (own_c1 p1))] [(.int (own_c0 p1)), (.int (0 : Int32)), (.ref b14), (.ref b14), (.ref b12), (.ref b12)])) rfl rfl (hb hby d_method_3_code_52)
      rw [(show nar .char (own_c0 p1) = (own_c0 p1) from own_narC _)] at W17
      have V17 : Arv Z h17 b14 k14 .char (1 : Int32) [(.int (own_c0 p1))] (.int (0 : Int32)) := Arv.set Ar17 q17 S17 M17 H17 G17 (by have q := fits_nar_char (own_c0 p1); rw [(show nar .char (own_c0 p1) = (own_c0 p1) from own_narC _)] at q; exact q) W17 0 rfl (Nat.le_of_ble_eq_true rfl)
      have F18 : Safe Z own_EL _ h17 b12 := (Safe.wr W17 F16 hH F15)
      have F19 : Safe Z own_EL _ h17 b14 := (Safe.wr W17 F16 hH F16)
      have Nf17 := Fr.snoc X17 Nf1 g_b14
      have K17 : Keep h0 h17 [] := K14.wr W17 (Or.inr sz_b14)
      have Z17 : n0 ≤ h17.size := Nat.le_trans Z14 (Keep.of_wr W17).1
      have hk := Nat.le_trans hk (Keep.of_wr W17).1
      have hC := hC.trans (CHr.wr W17 F16 hH)
      have hH := hC.1
      refine own_fw (A' := (T17.setTop (mkF m 53 #[.val (.int p1), .val (.int (own_ln p1)), .val (.int (own_c0 p1)), .val (.int (own_c1 p1))] [(.ref b14), (.ref b12), (.ref b12)]))) (fun t k => st17 _ k) ?_
      obtain ⟨_, _, ⟨T20, L20, k20, n20⟩, -, X20, ⟨Lc20, hQ20, l20, y20, z20⟩, st20⟩ := X17.specialBack hx (y := (⟨"java/lang/String", "<init>", "([C)V"⟩ : MethodName)) rfl hown (mvT hZ (hw _ (List.mem_of_getElem? (i := 15) rfl))) (mvT hZ (hw _ (List.mem_of_getElem? (i := 16) rfl))) (mvT hZ (hw _ (List.mem_of_getElem? (i := 17) rfl))) (by decide) (backOf (W := 1) (rmStrA1 l Z a0 hw [] b12 b14 k14 cs (own_c0 p1) h17 n0 Z17 ((A12.ext E14).wr W17) ((F_coder_b12.ext E14).other W17 (Or.inl ne_b12_b14)) ((F_value_b12.ext E14).other W17 (Or.inl ne_b12_b14)) V17 g_b12 ne_b12_b14 (((P0.ext E12).ext E14).wr W17) hcs (own_le255 _)) hZ (hw _ (List.mem_of_getElem? (i := 17) rfl)) (hw _ (List.mem_of_getElem? (i := 13) rfl)) (by decide) (by decide)) (g := (mkF m 53 #[.val (.int p1), .val (.int (own_ln p1)), .val (.int (own_c0 p1)), .val (.int (own_c1 p1))] [(.ref b14), (.ref b12), (.ref b12)])) rfl (by rw [hml]; rfl) (Steps.refl _) (a := b12) (argsL := [(.ref b14)]) (rest := [(.ref b12)]) (lenOf pd___C_V rfl) rfl (by show 2 * 0 + _ ≤ _; exact Nat.le_of_eq rfl) (hb hby d_method_3_code_53) (fun _ _ => ⟨rfl, e17, (by decide : 2 + 1 ≤ _), (by decide : 5 + 1 ≤ _)⟩)
      dsimp only [Pt.U, Pt.locs, Pt.cells, Pt.slots] at X20 l20 y20 z20 st20 hQ20
      subst l20 y20 z20
      obtain ⟨b_20, kb_20, rfl, Nq20, Kq20, Fq20_0, Fq20_1, Fq20_2, Fq20_3⟩ := hQ20
      have Nf20 := Fr.app Nf17 Nq20
      have hk := Nat.le_trans hk Kq20.1
      have F21 : Safe Z own_EL _ T20.heap b12 := (Safe.keep Kq20 (sfS F18 sf0) hH F18)
      have F22 : Safe Z own_EL _ T20.heap b14 := (Safe.keep Kq20 (sfS F18 sf0) hH F19)
      have hC := hC.trans (CHr.keep Kq20 (sfS F18 sf0) hH)
      have hH := hC.1
      have K20 : Keep h0 T20.heap [] := K17.trans Kq20 (allS (Or.inr sz_b12) all0)
      have Z20 : n0 ≤ T20.heap.size := Nat.le_trans Z17 Kq20.1
      refine own_fw (A' := (T20.setTop (mkF m 56 #[.val (.int p1), .val (.int (own_ln p1)), .val (.int (own_c0 p1)), .val (.int (own_c1 p1))] [(.ref b12)]))) (fun t k => st20.trans k) ?_
      obtain ⟨fs, hr, hrun, hended, hWE⟩ := X20.leaveW hS hk (v := some (.ref b12)) (fun h => by rw [Bd.returns] at h; cases h)
      have hCE : CHr Z own_EL s.vm s.heap (T20.setFrames fs).vm (T20.setFrames fs).heap := by rw [hh]; show CHr Z own_EL s.vm h0 T20.vm T20.heap; exact hC.trans (CHv.at X20 hZ (own_EW hw) hH)
      refine ⟨_, _, ?_, hrun, hended, _, _, rfl, ?_, hCE, own_widen hWE (by decide) (by decide)⟩
      · exact retOut X20 hx Bd.returns rfl (Or.inr (Or.inr (Or.inr (Or.inr ⟨rfl, rfl, rfl⟩)))) (hb hby d_method_3_code_56) hr
      · show Q_rmStr Z p1 cs h0 n0 _ T20.heap _
        exact ⟨b12, rfl, Nf20, K20, (by rw [show own_chars p1 = [own_c0 p1] from by simp only [own_chars, if_neg hcs, if_neg hc2, if_pos hc11]]; exact ⟨b_20, kb_20, Fq20_0, Fq20_1, Fq20_2, Fq20_3⟩), sz_b12⟩
    · refine own_fw (A' := (T1.setTop (mkF m 57 #[.val (.int p1), .val (.int (own_ln p1)), .val (.int (own_c0 p1)), .val (.int (own_c1 p1))] []))) (fun t k => XS.icmpYes X1.here hx rfl (pc0 := 39) (pc' := 57) rfl (hb hby d_method_3_code_39) rfl (XT.ii_ne_t hc11) (by decide) (by decide) k) ?_
      obtain ⟨T23, h23, X23, e23, E23, A23, D23, -, st23⟩ := newO X1 hx hZ hown (hw _ (List.mem_of_getElem? (i := 11) rfl)) (hw _ (List.mem_of_getElem? (i := 12) rfl)) (hw _ (List.mem_of_getElem? (i := 13) rfl)) e1 (g := (mkF m 57 #[.val (.int p1), .val (.int (own_ln p1)), .val (.int (own_c0 p1)), .val (.int (own_c1 p1))] [])) rfl (hb hby d_method_3_code_57) (by decide) (by decide)
      obtain ⟨b23, gb23⟩ : ∃ z, z = h0.size := ⟨_, rfl⟩
      have g_b23 : n0 ≤ b23 := Nat.le_trans Z0 (Nat.le_of_eq gb23.symm)
      have sz_b23 : h0.size ≤ b23 := Nat.le_trans (Keep.refl h0 []).1 (Nat.le_of_eq gb23.symm)
      rw [← gb23] at A23 D23 st23
      have F24 : Safe Z own_EL _ h23 b23 := (Safe.ext E23 hH (Safe.new (Nat.le_of_eq gb23.symm) : Safe Z own_EL _ h0 b23))
      have F_value_b23 : Fld Z h23 b23 "java/lang/String" "value" "[B" .null := D23 (Or.inr (hw _ (List.mem_of_getElem? (i := 27) rfl))) (ty := (.array .byte)) (by decide)
      have F_coder_b23 : Fld Z h23 b23 "java/lang/String" "coder" "B" (.int (0 : Int32)) := D23 (Or.inr (hw _ (List.mem_of_getElem? (i := 28) rfl))) (ty := .byte) (by decide)
      have K23 : Keep h0 h23 [] := (Keep.refl h0 []).ext E23
      have Z23 : n0 ≤ h23.size := Nat.le_trans Z0 E23.1
      have hk := Nat.le_trans hk E23.1
      have hC := hC.trans (CHr.ext E23 hH)
      have hH := hC.1
      refine own_fw (A' := (T23.setTop (mkF m 60 #[.val (.int p1), .val (.int (own_ln p1)), .val (.int (own_c0 p1)), .val (.int (own_c1 p1))] [(.ref b23)]))) (fun t k => st23 _ k) ?_
      refine own_fw (A' := (T23.setTop (mkF m 61 #[.val (.int p1), .val (.int (own_ln p1)), .val (.int (own_c0 p1)), .val (.int (own_c1 p1))] [(.ref b23), (.ref b23)]))) (fun t k => XS.dup X23.here hx rfl (hb hby d_method_3_code_60) rfl rfl k) ?_
      refine own_fw (A' := (T23.setTop (mkF m 62 #[.val (.int p1), .val (.int (own_ln p1)), .val (.int (own_c0 p1)), .val (.int (own_c1 p1))] [(.int (2 : Int32)), (.ref b23), (.ref b23)]))) (fun t k => XS.iconst X23.here hx rfl (hb hby d_method_3_code_61) k) ?_
      obtain ⟨T25, h25, k25, X25, e25, E25, A25, st25⟩ := newP X23 hx hZ (hw _ (List.mem_of_getElem? (i := 14) rfl)) e23 (g := (mkF m 62 #[.val (.int p1), .val (.int (own_ln p1)), .val (.int (own_c0 p1)), .val (.int (own_c1 p1))] [(.int (2 : Int32)), (.ref b23), (.ref b23)])) rfl (hb hby d_method_3_code_62) rfl (by decide) (cap := 2) (by decide) (by decide) (by decide) (by decide)
      obtain ⟨b25, gb25⟩ : ∃ z, z = h23.size := ⟨_, rfl⟩
      have g_b25 : n0 ≤ b25 := Nat.le_trans Z23 (Nat.le_of_eq gb25.symm)
      have sz_b25 : h0.size ≤ b25 := Nat.le_trans K23.1 (Nat.le_of_eq gb25.symm)
      have ne_b23_b25 : b23 ≠ b25 := Nat.ne_of_lt (Nat.lt_of_lt_of_le A23.lt (Nat.le_of_eq gb25.symm))
      rw [← gb25] at A25 st25
      have F26 : Safe Z own_EL _ h25 b23 := (Safe.ext E25 hH F24)
      have F27 : Safe Z own_EL _ h25 b25 := (Safe.ext E25 hH (Safe.new (Nat.le_of_eq gb25.symm) : Safe Z own_EL _ h23 b25))
      have V_b25 : Arv Z h25 b25 k25 .char (2 : Int32) [(.int (0 : Int32)), (.int (0 : Int32))] (.int (0 : Int32)) := (Arv.new A25 (by decide)).pad (pad_rep [] (.int (0 : Int32)) 2)
      have K25 : Keep h0 h25 [] := K23.ext E25
      have Z25 : n0 ≤ h25.size := Nat.le_trans Z23 E25.1
      have hk := Nat.le_trans hk E25.1
      have hC := hC.trans (CHr.ext E25 hH)
      have hH := hC.1
      refine own_fw (A' := (T25.setTop (mkF m 64 #[.val (.int p1), .val (.int (own_ln p1)), .val (.int (own_c0 p1)), .val (.int (own_c1 p1))] [(.ref b25), (.ref b23), (.ref b23)]))) (fun t k => st25 _ k) ?_
      refine own_fw (A' := (T25.setTop (mkF m 65 #[.val (.int p1), .val (.int (own_ln p1)), .val (.int (own_c0 p1)), .val (.int (own_c1 p1))] [(.ref b25), (.ref b25), (.ref b23), (.ref b23)]))) (fun t k => XS.dup X25.here hx rfl (hb hby d_method_3_code_64) rfl rfl k) ?_
      refine own_fw (A' := (T25.setTop (mkF m 66 #[.val (.int p1), .val (.int (own_ln p1)), .val (.int (own_c0 p1)), .val (.int (own_c1 p1))] [(.int (0 : Int32)), (.ref b25), (.ref b25), (.ref b23), (.ref b23)]))) (fun t k => XS.iconst X25.here hx rfl (hb hby d_method_3_code_65) k) ?_
      refine own_fw (A' := (T25.setTop (mkF m 67 #[.val (.int p1), .val (.int (own_ln p1)), .val (.int (own_c0 p1)), .val (.int (own_c1 p1))] [(.int (own_c0 p1)), (.int (0 : Int32)), (.ref b25), (.ref b25), (.ref b23), (.ref b23)]))) (fun t k => XS.iloadN X25.here hx rfl (hb hby d_method_3_code_66) rfl k) ?_
      obtain ⟨cl28, Ar28, q28, S28, M28, H28, G28⟩ := id V_b25
      have hin28 : ¬ ((0 : Int32) < 0 ∨ cl28.slots.size ≤ ((0 : Int32)).toNatClampNeg) := inb_of S28 ⟨by decide, by decide⟩
      obtain ⟨T28, h28, X28, e28, W28, st28⟩ := stC X25 hx hZ e25 Ar28 (j := (0 : Int32)) hin28 (g := (mkF m 67 #[.val (.int p1), .val (.int (own_ln p1)), .val (.int (own_c0 p1)), .val (.int (own_c1 p1))] [(.int (own_c0 p1)), (.int (0 : Int32)), (.ref b25), (.ref b25), (.ref b23), (.ref b23)])) rfl rfl (hb hby d_method_3_code_67)
      rw [(show nar .char (own_c0 p1) = (own_c0 p1) from own_narC _)] at W28
      have V28 : Arv Z h28 b25 k25 .char (2 : Int32) [(.int (own_c0 p1)), (.int (0 : Int32))] (.int (0 : Int32)) := Arv.set Ar28 q28 S28 M28 H28 G28 (by have q := fits_nar_char (own_c0 p1); rw [(show nar .char (own_c0 p1) = (own_c0 p1) from own_narC _)] at q; exact q) W28 0 rfl (Nat.le_of_ble_eq_true rfl)
      have F29 : Safe Z own_EL _ h28 b23 := (Safe.wr W28 F27 hH F26)
      have F30 : Safe Z own_EL _ h28 b25 := (Safe.wr W28 F27 hH F27)
      have Nf28 := Fr.snoc X28 Nf1 g_b25
      have K28 : Keep h0 h28 [] := K25.wr W28 (Or.inr sz_b25)
      have Z28 : n0 ≤ h28.size := Nat.le_trans Z25 (Keep.of_wr W28).1
      have hk := Nat.le_trans hk (Keep.of_wr W28).1
      have hC := hC.trans (CHr.wr W28 F27 hH)
      have hH := hC.1
      refine own_fw (A' := (T28.setTop (mkF m 68 #[.val (.int p1), .val (.int (own_ln p1)), .val (.int (own_c0 p1)), .val (.int (own_c1 p1))] [(.ref b25), (.ref b23), (.ref b23)]))) (fun t k => st28 _ k) ?_
      refine own_fw (A' := (T28.setTop (mkF m 69 #[.val (.int p1), .val (.int (own_ln p1)), .val (.int (own_c0 p1)), .val (.int (own_c1 p1))] [(.ref b25), (.ref b25), (.ref b23), (.ref b23)]))) (fun t k => XS.dup X28.here hx rfl (hb hby d_method_3_code_68) rfl rfl k) ?_
      refine own_fw (A' := (T28.setTop (mkF m 70 #[.val (.int p1), .val (.int (own_ln p1)), .val (.int (own_c0 p1)), .val (.int (own_c1 p1))] [(.int (1 : Int32)), (.ref b25), (.ref b25), (.ref b23), (.ref b23)]))) (fun t k => XS.iconst X28.here hx rfl (hb hby d_method_3_code_69) k) ?_
      refine own_fw (A' := (T28.setTop (mkF m 71 #[.val (.int p1), .val (.int (own_ln p1)), .val (.int (own_c0 p1)), .val (.int (own_c1 p1))] [(.int (own_c1 p1)), (.int (1 : Int32)), (.ref b25), (.ref b25), (.ref b23), (.ref b23)]))) (fun t k => XS.iloadN X28.here hx rfl (hb hby d_method_3_code_70) rfl k) ?_
      obtain ⟨cl31, Ar31, q31, S31, M31, H31, G31⟩ := id V28
      have hin31 : ¬ ((1 : Int32) < 0 ∨ cl31.slots.size ≤ ((1 : Int32)).toNatClampNeg) := inb_of S31 ⟨by decide, by decide⟩
      obtain ⟨T31, h31, X31, e31, W31, st31⟩ := stC X28 hx hZ e28 Ar31 (j := (1 : Int32)) hin31 (g := (mkF m 71 #[.val (.int p1), .val (.int (own_ln p1)), .val (.int (own_c0 p1)), .val (.int (own_c1 p1))] [(.int (own_c1 p1)), (.int (1 : Int32)), (.ref b25), (.ref b25), (.ref b23), (.ref b23)])) rfl rfl (hb hby d_method_3_code_71)
      rw [(show nar .char (own_c1 p1) = (own_c1 p1) from own_narC _)] at W31
      have V31 : Arv Z h31 b25 k25 .char (2 : Int32) [(.int (own_c0 p1)), (.int (own_c1 p1))] (.int (0 : Int32)) := Arv.set Ar31 q31 S31 M31 H31 G31 (by have q := fits_nar_char (own_c1 p1); rw [(show nar .char (own_c1 p1) = (own_c1 p1) from own_narC _)] at q; exact q) W31 1 rfl (Nat.le_of_ble_eq_true rfl)
      have F32 : Safe Z own_EL _ h31 b23 := (Safe.wr W31 F30 hH F29)
      have F33 : Safe Z own_EL _ h31 b25 := (Safe.wr W31 F30 hH F30)
      have Nf31 := Fr.snoc X31 Nf28 g_b25
      have K31 : Keep h0 h31 [] := K28.wr W31 (Or.inr sz_b25)
      have Z31 : n0 ≤ h31.size := Nat.le_trans Z28 (Keep.of_wr W31).1
      have hk := Nat.le_trans hk (Keep.of_wr W31).1
      have hC := hC.trans (CHr.wr W31 F30 hH)
      have hH := hC.1
      refine own_fw (A' := (T31.setTop (mkF m 72 #[.val (.int p1), .val (.int (own_ln p1)), .val (.int (own_c0 p1)), .val (.int (own_c1 p1))] [(.ref b25), (.ref b23), (.ref b23)]))) (fun t k => st31 _ k) ?_
      obtain ⟨_, _, ⟨T34, L34, k34, n34⟩, -, X34, ⟨Lc34, hQ34, l34, y34, z34⟩, st34⟩ := X31.specialBack hx (y := (⟨"java/lang/String", "<init>", "([C)V"⟩ : MethodName)) rfl hown (mvT hZ (hw _ (List.mem_of_getElem? (i := 15) rfl))) (mvT hZ (hw _ (List.mem_of_getElem? (i := 16) rfl))) (mvT hZ (hw _ (List.mem_of_getElem? (i := 17) rfl))) (by decide) (backOf (W := 1) (rmStrA2 l Z a0 hw [] b23 b25 k25 cs (own_c0 p1) (own_c1 p1) h31 n0 Z31 (((A23.ext E25).wr W28).wr W31) (((F_coder_b23.ext E25).other W28 (Or.inl ne_b23_b25)).other W31 (Or.inl ne_b23_b25)) (((F_value_b23.ext E25).other W28 (Or.inl ne_b23_b25)).other W31 (Or.inl ne_b23_b25)) V31 g_b23 ne_b23_b25 ((((P0.ext E23).ext E25).wr W28).wr W31) hcs (own_le255 _) (own_le255 _)) hZ (hw _ (List.mem_of_getElem? (i := 17) rfl)) (hw _ (List.mem_of_getElem? (i := 13) rfl)) (by decide) (by decide)) (g := (mkF m 72 #[.val (.int p1), .val (.int (own_ln p1)), .val (.int (own_c0 p1)), .val (.int (own_c1 p1))] [(.ref b25), (.ref b23), (.ref b23)])) rfl (by rw [hml]; rfl) (Steps.refl _) (a := b23) (argsL := [(.ref b25)]) (rest := [(.ref b23)]) (lenOf pd___C_V rfl) rfl (by show 2 * 0 + _ ≤ _; exact Nat.le_of_eq rfl) (hb hby d_method_3_code_72) (fun _ _ => ⟨rfl, e31, (by decide : 2 + 1 ≤ _), (by decide : 6 + 2 ≤ _)⟩)
      dsimp only [Pt.U, Pt.locs, Pt.cells, Pt.slots] at X34 l34 y34 z34 st34 hQ34
      subst l34 y34 z34
      obtain ⟨b_34, kb_34, rfl, Nq34, Kq34, Fq34_0, Fq34_1, Fq34_2, Fq34_3⟩ := hQ34
      have Nf34 := Fr.app Nf31 Nq34
      have hk := Nat.le_trans hk Kq34.1
      have F35 : Safe Z own_EL _ T34.heap b23 := (Safe.keep Kq34 (sfS F32 sf0) hH F32)
      have F36 : Safe Z own_EL _ T34.heap b25 := (Safe.keep Kq34 (sfS F32 sf0) hH F33)
      have hC := hC.trans (CHr.keep Kq34 (sfS F32 sf0) hH)
      have hH := hC.1
      have K34 : Keep h0 T34.heap [] := K31.trans Kq34 (allS (Or.inr sz_b23) all0)
      have Z34 : n0 ≤ T34.heap.size := Nat.le_trans Z31 Kq34.1
      refine own_fw (A' := (T34.setTop (mkF m 75 #[.val (.int p1), .val (.int (own_ln p1)), .val (.int (own_c0 p1)), .val (.int (own_c1 p1))] [(.ref b23)]))) (fun t k => st34.trans k) ?_
      obtain ⟨fs, hr, hrun, hended, hWE⟩ := X34.leaveW hS hk (v := some (.ref b23)) (fun h => by rw [Bd.returns] at h; cases h)
      have hCE : CHr Z own_EL s.vm s.heap (T34.setFrames fs).vm (T34.setFrames fs).heap := by rw [hh]; show CHr Z own_EL s.vm h0 T34.vm T34.heap; exact hC.trans (CHv.at X34 hZ (own_EW hw) hH)
      refine ⟨_, _, ?_, hrun, hended, _, _, rfl, ?_, hCE, own_widen hWE (by decide) (by decide)⟩
      · exact retOut X34 hx Bd.returns rfl (Or.inr (Or.inr (Or.inr (Or.inr ⟨rfl, rfl, rfl⟩)))) (hb hby d_method_3_code_75) hr
      · show Q_rmStr Z p1 cs h0 n0 _ T34.heap _
        exact ⟨b23, rfl, Nf34, K34, (by rw [show own_chars p1 = [own_c0 p1, own_c1 p1] from by simp only [own_chars, if_neg hcs, if_neg hc2, if_neg hc11]]; exact ⟨b_34, kb_34, Fq34_0, Fq34_1, Fq34_2, Fq34_3⟩), sz_b23⟩
theorem d_method_4_code_0 : decode method_4_code 0 = .ok (.iload_n 0, 1) := by decide +kernel
theorem d_method_4_code_1 : decode method_4_code 1 = .ok (.invokestatic 8, 3) := by decide +kernel
theorem d_method_4_code_4 : decode method_4_code 4 = .ok (.istore_n 2, 1) := by decide +kernel
theorem d_method_4_code_5 : decode method_4_code 5 = .ok (.iload_n 1, 1) := by decide +kernel
theorem d_method_4_code_6 : decode method_4_code 6 = .ok (.invokestatic 8, 3) := by decide +kernel
theorem d_method_4_code_9 : decode method_4_code 9 = .ok (.istore_n 3, 1) := by decide +kernel
theorem d_method_4_code_10 : decode method_4_code 10 = .ok (.iload_n 2, 1) := by decide +kernel
theorem d_method_4_code_11 : decode method_4_code 11 = .ok (.iload_n 3, 1) := by decide +kernel
theorem d_method_4_code_12 : decode method_4_code 12 = .ok (.if_icmp .eq 5, 3) := by decide +kernel
theorem d_method_4_code_17 : decode method_4_code 17 = .ok (.iload_n 2, 1) := by decide +kernel
theorem d_method_4_code_18 : decode method_4_code 18 = .ok (.iconst 1, 1) := by decide +kernel
theorem d_method_4_code_19 : decode method_4_code 19 = .ok (.if_icmp .lt 18, 3) := by decide +kernel
theorem d_method_4_code_37 : decode method_4_code 37 = .ok (.iload_n 2, 1) := by decide +kernel
theorem d_method_4_code_38 : decode method_4_code 38 = .ok (.iconst 2, 1) := by decide +kernel
theorem d_method_4_code_39 : decode method_4_code 39 = .ok (.if_icmp .lt 24, 3) := by decide +kernel
theorem d_method_4_code_63 : decode method_4_code 63 = .ok (.iconst 1, 1) := by decide +kernel
theorem d_method_4_code_64 : decode method_4_code 64 = .ok (.ireturn, 1) := by decide +kernel
theorem d_method_4_code_42 : decode method_4_code 42 = .ok (.iload_n 0, 1) := by decide +kernel
theorem d_method_4_code_43 : decode method_4_code 43 = .ok (.bipush 8, 2) := by decide +kernel
theorem d_method_4_code_45 : decode method_4_code 45 = .ok (.iushr, 1) := by decide +kernel
theorem d_method_4_code_46 : decode method_4_code 46 = .ok (.sipush 255, 3) := by decide +kernel
theorem d_method_4_code_49 : decode method_4_code 49 = .ok (.iand, 1) := by decide +kernel
theorem d_method_4_code_50 : decode method_4_code 50 = .ok (.iload_n 1, 1) := by decide +kernel
theorem d_method_4_code_51 : decode method_4_code 51 = .ok (.bipush 8, 2) := by decide +kernel
theorem d_method_4_code_53 : decode method_4_code 53 = .ok (.iushr, 1) := by decide +kernel
theorem d_method_4_code_54 : decode method_4_code 54 = .ok (.sipush 255, 3) := by decide +kernel
theorem d_method_4_code_57 : decode method_4_code 57 = .ok (.iand, 1) := by decide +kernel
theorem d_method_4_code_58 : decode method_4_code 58 = .ok (.if_icmp .eq 5, 3) := by decide +kernel
theorem d_method_4_code_61 : decode method_4_code 61 = .ok (.iconst 0, 1) := by decide +kernel
theorem d_method_4_code_62 : decode method_4_code 62 = .ok (.ireturn, 1) := by decide +kernel
theorem d_method_4_code_22 : decode method_4_code 22 = .ok (.iload_n 0, 1) := by decide +kernel
theorem d_method_4_code_23 : decode method_4_code 23 = .ok (.sipush 255, 3) := by decide +kernel
theorem d_method_4_code_26 : decode method_4_code 26 = .ok (.iand, 1) := by decide +kernel
theorem d_method_4_code_27 : decode method_4_code 27 = .ok (.iload_n 1, 1) := by decide +kernel
theorem d_method_4_code_28 : decode method_4_code 28 = .ok (.sipush 255, 3) := by decide +kernel
theorem d_method_4_code_31 : decode method_4_code 31 = .ok (.iand, 1) := by decide +kernel
theorem d_method_4_code_32 : decode method_4_code 32 = .ok (.if_icmp .eq 5, 3) := by decide +kernel
theorem d_method_4_code_35 : decode method_4_code 35 = .ok (.iconst 0, 1) := by decide +kernel
theorem d_method_4_code_36 : decode method_4_code 36 = .ok (.ireturn, 1) := by decide +kernel
theorem d_method_4_code_15 : decode method_4_code 15 = .ok (.iconst 0, 1) := by decide +kernel
theorem d_method_4_code_16 : decode method_4_code 16 = .ok (.ireturn, 1) := by decide +kernel
theorem ef_rmSame (m : MethodId) (p1 : Int32) (p2 : Int32) : entryFrame m #[(.int p1), (.int p2)] 4 = mkF m 0 #[.val (.int p1), .val (.int p2), .unset, .unset] [] := by first | (simp [entryFrame, mkF, argsToLocals, Value.category]; done) | rfl
def Q_rmSame (Z : State) (p1 : Int32) (p2 : Int32) (h0 : Heap) (n0 : Nat) (v : Option Value) (h : Heap) (L : List Loc) : Prop := v = some (.int (own_same p1 p2)) ∧ Fr n0 L ∧ h = h0
set_option maxRecDepth 65536 in
set_option maxHeartbeats 40000000 in
theorem rmSame (l : Launch) (Z : State) (a0 : Array Value) (hw : ∀ d ∈ tables_1, d.before a0 Z = true) (ws : List Jvm.Cond) (p1 : Int32) (p2 : Int32) (h0 : Heap) (n0 : Nat) (Z0 : n0 ≤ h0.size)  :
    MetFree l (⟨"com/example/kodnik/kodnik/store/MappingMapsAlikePinLaw", "same", "(II)Z"⟩ : MethodName) (head1 (Jvm.Cond.code (⟨"com/example/kodnik/kodnik/store/MappingMapsAlikePinLaw", "same", "(II)Z"⟩ : MethodName) method_4_code 4 (some .boolean) :: ws) ({ frames := 1, cells := 0, slots := 0, locals := 12 } : Room)) (fun a U => a = #[(.int p1), (.int p2)] ∧ Z.Warmed39 U.vm ∧ U.heap = h0) (fun _ _ _ _ _ => True) (fun _ U o U' => ∃ v L, o = .returned v ∧ Q_rmSame Z p1 p2 h0 n0 v U'.heap L ∧ FrameEnd U o U' L ({ frames := 1, cells := 0, slots := 0, locals := 12 } : Room).cells ({ frames := 1, cells := 0, slots := 0, locals := 12 } : Room).slots) := by
  refine MetFree.of_bodySF (plainFor_of_name pn_com_example_kodnik_kodnik_store_MappingMapsAlikePinLaw) hisR ?_
  intro p e s m args below meth c s₁ Bd hml0 hP hK
  obtain ⟨rfl, hZ, hh⟩ := hP
  have hx := Bd.exec
  have hby := Bd.bytes
  have hml : c.maxLocals = 4 := hml0
  have hown : s.vm.findClass "com/example/kodnik/kodnik/store/MappingMapsAlikePinLaw" = some m.cls := findClass_of_methodNamed Bd.named
  have hnm := (name_of_methodNamed Bd.named Bd.method).1
  have X0 : Stand p l e ({ frames := 1, cells := 0, slots := 0, locals := 12 } : Room) s m #[(.int p1), (.int p2)] below meth c s₁ [] 0 0 := Stand.of_body Bd
  have e0 : s₁.heap = h0 := by rw [← hh, Bd.state]; rfl
  have N0 := Fr.nil n0
  refine own_fw (A' := (s₁.setTop (mkF m 0 #[.val (.int p1), .val (.int p2), .unset, .unset] []))) (fun t k => castTop (ef_rmSame m p1 p2) k) ?_
  refine own_fw (A' := (s₁.setTop (mkF m 1 #[.val (.int p1), .val (.int p2), .unset, .unset] [(.int p1)]))) (fun t k => XS.iloadN X0.here hx rfl (hb hby d_method_4_code_0) rfl k) ?_
  obtain ⟨_, _, ⟨T1, L1, k1, n1⟩, -, X1, ⟨Lc1, hQ1, l1, y1, z1⟩, st1⟩ := Jvm.LawKit.callS X0 hx (y := (⟨"com/example/kodnik/kodnik/store/MappingMapsAlikePinLaw", "len", "(I)I"⟩ : MethodName)) hown (mvT hZ (hw _ (List.mem_of_getElem? (i := 7) rfl))) (mvT hZ (hw _ (List.mem_of_getElem? (i := 8) rfl))) (mvT hZ (hw _ (List.mem_of_getElem? (i := 5) rfl))) (mvT hZ (hw _ (List.mem_of_getElem? (i := 9) rfl))) (by decide) (backOf (W := 0) (rmLen l Z a0 hw [] p1 h0 n0 Z0 ) hZ (hw _ (List.mem_of_getElem? (i := 9) rfl)) (hw _ (List.mem_of_getElem? (i := 5) rfl)) (by decide) (by decide)) (g := (mkF m 1 #[.val (.int p1), .val (.int p2), .unset, .unset] [(.int p1)])) rfl (by rw [hml]; rfl) (argsL := [(.int p1)]) (rest := []) (lenOf pd__I_I rfl) rfl (by show 2 * 0 + _ ≤ _; exact Nat.le_of_eq rfl) (hb hby d_method_4_code_1) (fun _ _ => ⟨rfl, e0, (by decide : 0 + 0 ≤ _), (by decide : 0 + 0 ≤ _)⟩)
  dsimp only [Pt.U, Pt.locs, Pt.cells, Pt.slots] at X1 l1 y1 z1 st1 hQ1
  subst l1 y1 z1
  obtain ⟨rfl, Nq1, e1⟩ := hQ1
  have Nf1 := Fr.app N0 Nq1
  refine own_fw (A' := (T1.setTop (mkF m 4 #[.val (.int p1), .val (.int p2), .unset, .unset] [(.int (own_ln p1))]))) (fun t k => st1 _ k) ?_
  refine own_fw (A' := (T1.setTop (mkF m 5 #[.val (.int p1), .val (.int p2), .val (.int (own_ln p1)), .unset] []))) (fun t k => XS.istoreN X1.here hx rfl (hb hby d_method_4_code_4) rfl (l' := #[.val (.int p1), .val (.int p2), .val (.int (own_ln p1)), .unset]) rfl k) ?_
  refine own_fw (A' := (T1.setTop (mkF m 6 #[.val (.int p1), .val (.int p2), .val (.int (own_ln p1)), .unset] [(.int p2)]))) (fun t k => XS.iloadN X1.here hx rfl (hb hby d_method_4_code_5) rfl k) ?_
  obtain ⟨_, _, ⟨T2, L2, k2, n2⟩, -, X2, ⟨Lc2, hQ2, l2, y2, z2⟩, st2⟩ := Jvm.LawKit.callS X1 hx (y := (⟨"com/example/kodnik/kodnik/store/MappingMapsAlikePinLaw", "len", "(I)I"⟩ : MethodName)) hown (mvT hZ (hw _ (List.mem_of_getElem? (i := 7) rfl))) (mvT hZ (hw _ (List.mem_of_getElem? (i := 8) rfl))) (mvT hZ (hw _ (List.mem_of_getElem? (i := 5) rfl))) (mvT hZ (hw _ (List.mem_of_getElem? (i := 9) rfl))) (by decide) (backOf (W := 0) (rmLen l Z a0 hw [] p2 h0 n0 Z0 ) hZ (hw _ (List.mem_of_getElem? (i := 9) rfl)) (hw _ (List.mem_of_getElem? (i := 5) rfl)) (by decide) (by decide)) (g := (mkF m 6 #[.val (.int p1), .val (.int p2), .val (.int (own_ln p1)), .unset] [(.int p2)])) rfl (by rw [hml]; rfl) (argsL := [(.int p2)]) (rest := []) (lenOf pd__I_I rfl) rfl (by show 2 * 0 + _ ≤ _; exact Nat.le_of_eq rfl) (hb hby d_method_4_code_6) (fun _ _ => ⟨rfl, e1, (by decide : 0 + 0 ≤ _), (by decide : 0 + 0 ≤ _)⟩)
  dsimp only [Pt.U, Pt.locs, Pt.cells, Pt.slots] at X2 l2 y2 z2 st2 hQ2
  subst l2 y2 z2
  obtain ⟨rfl, Nq2, e2⟩ := hQ2
  have Nf2 := Fr.app Nf1 Nq2
  refine own_fw (A' := (T2.setTop (mkF m 9 #[.val (.int p1), .val (.int p2), .val (.int (own_ln p1)), .unset] [(.int (own_ln p2))]))) (fun t k => st2 _ k) ?_
  refine own_fw (A' := (T2.setTop (mkF m 10 #[.val (.int p1), .val (.int p2), .val (.int (own_ln p1)), .val (.int (own_ln p2))] []))) (fun t k => XS.istoreN X2.here hx rfl (hb hby d_method_4_code_9) rfl (l' := #[.val (.int p1), .val (.int p2), .val (.int (own_ln p1)), .val (.int (own_ln p2))]) rfl k) ?_
  refine own_fw (A' := (T2.setTop (mkF m 11 #[.val (.int p1), .val (.int p2), .val (.int (own_ln p1)), .val (.int (own_ln p2))] [(.int (own_ln p1))]))) (fun t k => XS.iloadN X2.here hx rfl (hb hby d_method_4_code_10) rfl k) ?_
  refine own_fw (A' := (T2.setTop (mkF m 12 #[.val (.int p1), .val (.int p2), .val (.int (own_ln p1)), .val (.int (own_ln p2))] [(.int (own_ln p2)), (.int (own_ln p1))]))) (fun t k => XS.iloadN X2.here hx rfl (hb hby d_method_4_code_11) rfl k) ?_
  by_cases hc3 : (own_ln p1) = (own_ln p2)
  · refine own_fw (A' := (T2.setTop (mkF m 17 #[.val (.int p1), .val (.int p2), .val (.int (own_ln p1)), .val (.int (own_ln p2))] []))) (fun t k => XS.icmpYes X2.here hx rfl (pc0 := 12) (pc' := 17) rfl (hb hby d_method_4_code_12) rfl (XT.ii_eq_t hc3) (by decide) (by decide) k) ?_
    refine own_fw (A' := (T2.setTop (mkF m 18 #[.val (.int p1), .val (.int p2), .val (.int (own_ln p1)), .val (.int (own_ln p2))] [(.int (own_ln p1))]))) (fun t k => XS.iloadN X2.here hx rfl (hb hby d_method_4_code_17) rfl k) ?_
    refine own_fw (A' := (T2.setTop (mkF m 19 #[.val (.int p1), .val (.int p2), .val (.int (own_ln p1)), .val (.int (own_ln p2))] [(.int (1 : Int32)), (.int (own_ln p1))]))) (fun t k => XS.iconst X2.here hx rfl (hb hby d_method_4_code_18) k) ?_
    by_cases hc4 : (own_ln p1) < (1 : Int32)
    · refine own_fw (A' := (T2.setTop (mkF m 37 #[.val (.int p1), .val (.int p2), .val (.int (own_ln p1)), .val (.int (own_ln p2))] []))) (fun t k => XS.icmpYes X2.here hx rfl (pc0 := 19) (pc' := 37) rfl (hb hby d_method_4_code_19) rfl (XT.ii_lt_t hc4) (by decide) (by decide) k) ?_
      refine own_fw (A' := (T2.setTop (mkF m 38 #[.val (.int p1), .val (.int p2), .val (.int (own_ln p1)), .val (.int (own_ln p2))] [(.int (own_ln p1))]))) (fun t k => XS.iloadN X2.here hx rfl (hb hby d_method_4_code_37) rfl k) ?_
      refine own_fw (A' := (T2.setTop (mkF m 39 #[.val (.int p1), .val (.int p2), .val (.int (own_ln p1)), .val (.int (own_ln p2))] [(.int (2 : Int32)), (.int (own_ln p1))]))) (fun t k => XS.iconst X2.here hx rfl (hb hby d_method_4_code_38) k) ?_
      by_cases hc5 : (own_ln p1) < (2 : Int32)
      · refine own_fw (A' := (T2.setTop (mkF m 63 #[.val (.int p1), .val (.int p2), .val (.int (own_ln p1)), .val (.int (own_ln p2))] []))) (fun t k => XS.icmpYes X2.here hx rfl (pc0 := 39) (pc' := 63) rfl (hb hby d_method_4_code_39) rfl (XT.ii_lt_t hc5) (by decide) (by decide) k) ?_
        refine own_fw (A' := (T2.setTop (mkF m 64 #[.val (.int p1), .val (.int p2), .val (.int (own_ln p1)), .val (.int (own_ln p2))] [(.int (1 : Int32))]))) (fun t k => XS.iconst X2.here hx rfl (hb hby d_method_4_code_63) k) ?_
        obtain ⟨fs, hr, hrun, hended, hW, hsame⟩ := X2.leave (v := some (.int (1 : Int32))) (fun h => by rw [Bd.returns] at h; cases h)
        refine ⟨_, _, ?_, hrun, hended, _, _, rfl, ?_, ⟨_, rfl⟩, hW, hsame.mono (by decide) (by decide)⟩
        · exact retOut X2 hx Bd.returns rfl (Or.inl ⟨rfl, by simp, _, rfl⟩) (hb hby d_method_4_code_64) hr
        · show Q_rmSame Z p1 p2 h0 n0 _ T2.heap _
          rw [e2]
          exact ⟨(by rw [own_same, if_pos hc3, if_pos hc4, own_tail, if_pos hc5]), Nf2, rfl⟩
      · refine own_fw (A' := (T2.setTop (mkF m 42 #[.val (.int p1), .val (.int p2), .val (.int (own_ln p1)), .val (.int (own_ln p2))] []))) (fun t k => XS.icmpNo X2.here hx rfl (hb hby d_method_4_code_39) rfl (XT.ii_lt_f hc5) k) ?_
        refine own_fw (A' := (T2.setTop (mkF m 43 #[.val (.int p1), .val (.int p2), .val (.int (own_ln p1)), .val (.int (own_ln p2))] [(.int p1)]))) (fun t k => XS.iloadN X2.here hx rfl (hb hby d_method_4_code_42) rfl k) ?_
        refine own_fw (A' := (T2.setTop (mkF m 45 #[.val (.int p1), .val (.int p2), .val (.int (own_ln p1)), .val (.int (own_ln p2))] [(.int (8 : Int32)), (.int p1)]))) (fun t k => XS.bipush X2.here hx rfl (hb hby d_method_4_code_43) k) ?_
        refine own_fw (A' := (T2.setTop (mkF m 46 #[.val (.int p1), .val (.int p2), .val (.int (own_ln p1)), .val (.int (own_ln p2))] [(.int ((p1.toUInt32 >>> ((8 : Int32) &&& 31).toUInt32).toInt32))]))) (fun t k => XS.iushr X2.here hx rfl (hb hby d_method_4_code_45) rfl k) ?_
        refine own_fw (A' := (T2.setTop (mkF m 49 #[.val (.int p1), .val (.int p2), .val (.int (own_ln p1)), .val (.int (own_ln p2))] [(.int (255 : Int32)), (.int ((p1.toUInt32 >>> ((8 : Int32) &&& 31).toUInt32).toInt32))]))) (fun t k => XS.sipush X2.here hx rfl (hb hby d_method_4_code_46) k) ?_
        refine own_fw (A' := (T2.setTop (mkF m 50 #[.val (.int p1), .val (.int p2), .val (.int (own_ln p1)), .val (.int (own_ln p2))] [(.int (((p1.toUInt32 >>> ((8 : Int32) &&& 31).toUInt32).toInt32) &&& (255 : Int32)))]))) (fun t k => XS.iand X2.here hx rfl (hb hby d_method_4_code_49) rfl k) ?_
        refine own_fw (A' := (T2.setTop (mkF m 51 #[.val (.int p1), .val (.int p2), .val (.int (own_ln p1)), .val (.int (own_ln p2))] [(.int p2), (.int (((p1.toUInt32 >>> ((8 : Int32) &&& 31).toUInt32).toInt32) &&& (255 : Int32)))]))) (fun t k => XS.iloadN X2.here hx rfl (hb hby d_method_4_code_50) rfl k) ?_
        refine own_fw (A' := (T2.setTop (mkF m 53 #[.val (.int p1), .val (.int p2), .val (.int (own_ln p1)), .val (.int (own_ln p2))] [(.int (8 : Int32)), (.int p2), (.int (((p1.toUInt32 >>> ((8 : Int32) &&& 31).toUInt32).toInt32) &&& (255 : Int32)))]))) (fun t k => XS.bipush X2.here hx rfl (hb hby d_method_4_code_51) k) ?_
        refine own_fw (A' := (T2.setTop (mkF m 54 #[.val (.int p1), .val (.int p2), .val (.int (own_ln p1)), .val (.int (own_ln p2))] [(.int ((p2.toUInt32 >>> ((8 : Int32) &&& 31).toUInt32).toInt32)), (.int (((p1.toUInt32 >>> ((8 : Int32) &&& 31).toUInt32).toInt32) &&& (255 : Int32)))]))) (fun t k => XS.iushr X2.here hx rfl (hb hby d_method_4_code_53) rfl k) ?_
        refine own_fw (A' := (T2.setTop (mkF m 57 #[.val (.int p1), .val (.int p2), .val (.int (own_ln p1)), .val (.int (own_ln p2))] [(.int (255 : Int32)), (.int ((p2.toUInt32 >>> ((8 : Int32) &&& 31).toUInt32).toInt32)), (.int (((p1.toUInt32 >>> ((8 : Int32) &&& 31).toUInt32).toInt32) &&& (255 : Int32)))]))) (fun t k => XS.sipush X2.here hx rfl (hb hby d_method_4_code_54) k) ?_
        refine own_fw (A' := (T2.setTop (mkF m 58 #[.val (.int p1), .val (.int p2), .val (.int (own_ln p1)), .val (.int (own_ln p2))] [(.int (((p2.toUInt32 >>> ((8 : Int32) &&& 31).toUInt32).toInt32) &&& (255 : Int32))), (.int (((p1.toUInt32 >>> ((8 : Int32) &&& 31).toUInt32).toInt32) &&& (255 : Int32)))]))) (fun t k => XS.iand X2.here hx rfl (hb hby d_method_4_code_57) rfl k) ?_
        by_cases hc6 : (((p1.toUInt32 >>> ((8 : Int32) &&& 31).toUInt32).toInt32) &&& (255 : Int32)) = (((p2.toUInt32 >>> ((8 : Int32) &&& 31).toUInt32).toInt32) &&& (255 : Int32))
        · refine own_fw (A' := (T2.setTop (mkF m 63 #[.val (.int p1), .val (.int p2), .val (.int (own_ln p1)), .val (.int (own_ln p2))] []))) (fun t k => XS.icmpYes X2.here hx rfl (pc0 := 58) (pc' := 63) rfl (hb hby d_method_4_code_58) rfl (XT.ii_eq_t hc6) (by decide) (by decide) k) ?_
          refine own_fw (A' := (T2.setTop (mkF m 64 #[.val (.int p1), .val (.int p2), .val (.int (own_ln p1)), .val (.int (own_ln p2))] [(.int (1 : Int32))]))) (fun t k => XS.iconst X2.here hx rfl (hb hby d_method_4_code_63) k) ?_
          obtain ⟨fs, hr, hrun, hended, hW, hsame⟩ := X2.leave (v := some (.int (1 : Int32))) (fun h => by rw [Bd.returns] at h; cases h)
          refine ⟨_, _, ?_, hrun, hended, _, _, rfl, ?_, ⟨_, rfl⟩, hW, hsame.mono (by decide) (by decide)⟩
          · exact retOut X2 hx Bd.returns rfl (Or.inl ⟨rfl, by simp, _, rfl⟩) (hb hby d_method_4_code_64) hr
          · show Q_rmSame Z p1 p2 h0 n0 _ T2.heap _
            rw [e2]
            exact ⟨(by rw [own_same, if_pos hc3, if_pos hc4, own_tail, if_neg hc5, if_pos (show own_c1 p1 = own_c1 p2 from hc6)]), Nf2, rfl⟩
        · refine own_fw (A' := (T2.setTop (mkF m 61 #[.val (.int p1), .val (.int p2), .val (.int (own_ln p1)), .val (.int (own_ln p2))] []))) (fun t k => XS.icmpNo X2.here hx rfl (hb hby d_method_4_code_58) rfl (XT.ii_eq_f hc6) k) ?_
          refine own_fw (A' := (T2.setTop (mkF m 62 #[.val (.int p1), .val (.int p2), .val (.int (own_ln p1)), .val (.int (own_ln p2))] [(.int (0 : Int32))]))) (fun t k => XS.iconst X2.here hx rfl (hb hby d_method_4_code_61) k) ?_
          obtain ⟨fs, hr, hrun, hended, hW, hsame⟩ := X2.leave (v := some (.int (0 : Int32))) (fun h => by rw [Bd.returns] at h; cases h)
          refine ⟨_, _, ?_, hrun, hended, _, _, rfl, ?_, ⟨_, rfl⟩, hW, hsame.mono (by decide) (by decide)⟩
          · exact retOut X2 hx Bd.returns rfl (Or.inl ⟨rfl, by simp, _, rfl⟩) (hb hby d_method_4_code_62) hr
          · show Q_rmSame Z p1 p2 h0 n0 _ T2.heap _
            rw [e2]
            exact ⟨(by rw [own_same, if_pos hc3, if_pos hc4, own_tail, if_neg hc5, if_neg (show ¬ (own_c1 p1 = own_c1 p2) from hc6)]), Nf2, rfl⟩
    · refine own_fw (A' := (T2.setTop (mkF m 22 #[.val (.int p1), .val (.int p2), .val (.int (own_ln p1)), .val (.int (own_ln p2))] []))) (fun t k => XS.icmpNo X2.here hx rfl (hb hby d_method_4_code_19) rfl (XT.ii_lt_f hc4) k) ?_
      refine own_fw (A' := (T2.setTop (mkF m 23 #[.val (.int p1), .val (.int p2), .val (.int (own_ln p1)), .val (.int (own_ln p2))] [(.int p1)]))) (fun t k => XS.iloadN X2.here hx rfl (hb hby d_method_4_code_22) rfl k) ?_
      refine own_fw (A' := (T2.setTop (mkF m 26 #[.val (.int p1), .val (.int p2), .val (.int (own_ln p1)), .val (.int (own_ln p2))] [(.int (255 : Int32)), (.int p1)]))) (fun t k => XS.sipush X2.here hx rfl (hb hby d_method_4_code_23) k) ?_
      refine own_fw (A' := (T2.setTop (mkF m 27 #[.val (.int p1), .val (.int p2), .val (.int (own_ln p1)), .val (.int (own_ln p2))] [(.int (p1 &&& (255 : Int32)))]))) (fun t k => XS.iand X2.here hx rfl (hb hby d_method_4_code_26) rfl k) ?_
      refine own_fw (A' := (T2.setTop (mkF m 28 #[.val (.int p1), .val (.int p2), .val (.int (own_ln p1)), .val (.int (own_ln p2))] [(.int p2), (.int (p1 &&& (255 : Int32)))]))) (fun t k => XS.iloadN X2.here hx rfl (hb hby d_method_4_code_27) rfl k) ?_
      refine own_fw (A' := (T2.setTop (mkF m 31 #[.val (.int p1), .val (.int p2), .val (.int (own_ln p1)), .val (.int (own_ln p2))] [(.int (255 : Int32)), (.int p2), (.int (p1 &&& (255 : Int32)))]))) (fun t k => XS.sipush X2.here hx rfl (hb hby d_method_4_code_28) k) ?_
      refine own_fw (A' := (T2.setTop (mkF m 32 #[.val (.int p1), .val (.int p2), .val (.int (own_ln p1)), .val (.int (own_ln p2))] [(.int (p2 &&& (255 : Int32))), (.int (p1 &&& (255 : Int32)))]))) (fun t k => XS.iand X2.here hx rfl (hb hby d_method_4_code_31) rfl k) ?_
      by_cases hc7 : (p1 &&& (255 : Int32)) = (p2 &&& (255 : Int32))
      · refine own_fw (A' := (T2.setTop (mkF m 37 #[.val (.int p1), .val (.int p2), .val (.int (own_ln p1)), .val (.int (own_ln p2))] []))) (fun t k => XS.icmpYes X2.here hx rfl (pc0 := 32) (pc' := 37) rfl (hb hby d_method_4_code_32) rfl (XT.ii_eq_t hc7) (by decide) (by decide) k) ?_
        refine own_fw (A' := (T2.setTop (mkF m 38 #[.val (.int p1), .val (.int p2), .val (.int (own_ln p1)), .val (.int (own_ln p2))] [(.int (own_ln p1))]))) (fun t k => XS.iloadN X2.here hx rfl (hb hby d_method_4_code_37) rfl k) ?_
        refine own_fw (A' := (T2.setTop (mkF m 39 #[.val (.int p1), .val (.int p2), .val (.int (own_ln p1)), .val (.int (own_ln p2))] [(.int (2 : Int32)), (.int (own_ln p1))]))) (fun t k => XS.iconst X2.here hx rfl (hb hby d_method_4_code_38) k) ?_
        by_cases hc8 : (own_ln p1) < (2 : Int32)
        · refine own_fw (A' := (T2.setTop (mkF m 63 #[.val (.int p1), .val (.int p2), .val (.int (own_ln p1)), .val (.int (own_ln p2))] []))) (fun t k => XS.icmpYes X2.here hx rfl (pc0 := 39) (pc' := 63) rfl (hb hby d_method_4_code_39) rfl (XT.ii_lt_t hc8) (by decide) (by decide) k) ?_
          refine own_fw (A' := (T2.setTop (mkF m 64 #[.val (.int p1), .val (.int p2), .val (.int (own_ln p1)), .val (.int (own_ln p2))] [(.int (1 : Int32))]))) (fun t k => XS.iconst X2.here hx rfl (hb hby d_method_4_code_63) k) ?_
          obtain ⟨fs, hr, hrun, hended, hW, hsame⟩ := X2.leave (v := some (.int (1 : Int32))) (fun h => by rw [Bd.returns] at h; cases h)
          refine ⟨_, _, ?_, hrun, hended, _, _, rfl, ?_, ⟨_, rfl⟩, hW, hsame.mono (by decide) (by decide)⟩
          · exact retOut X2 hx Bd.returns rfl (Or.inl ⟨rfl, by simp, _, rfl⟩) (hb hby d_method_4_code_64) hr
          · show Q_rmSame Z p1 p2 h0 n0 _ T2.heap _
            rw [e2]
            exact ⟨(by rw [own_same, if_pos hc3, if_neg hc4, if_pos (show own_c0 p1 = own_c0 p2 from hc7), own_tail, if_pos hc8]), Nf2, rfl⟩
        · refine own_fw (A' := (T2.setTop (mkF m 42 #[.val (.int p1), .val (.int p2), .val (.int (own_ln p1)), .val (.int (own_ln p2))] []))) (fun t k => XS.icmpNo X2.here hx rfl (hb hby d_method_4_code_39) rfl (XT.ii_lt_f hc8) k) ?_
          refine own_fw (A' := (T2.setTop (mkF m 43 #[.val (.int p1), .val (.int p2), .val (.int (own_ln p1)), .val (.int (own_ln p2))] [(.int p1)]))) (fun t k => XS.iloadN X2.here hx rfl (hb hby d_method_4_code_42) rfl k) ?_
          refine own_fw (A' := (T2.setTop (mkF m 45 #[.val (.int p1), .val (.int p2), .val (.int (own_ln p1)), .val (.int (own_ln p2))] [(.int (8 : Int32)), (.int p1)]))) (fun t k => XS.bipush X2.here hx rfl (hb hby d_method_4_code_43) k) ?_
          refine own_fw (A' := (T2.setTop (mkF m 46 #[.val (.int p1), .val (.int p2), .val (.int (own_ln p1)), .val (.int (own_ln p2))] [(.int ((p1.toUInt32 >>> ((8 : Int32) &&& 31).toUInt32).toInt32))]))) (fun t k => XS.iushr X2.here hx rfl (hb hby d_method_4_code_45) rfl k) ?_
          refine own_fw (A' := (T2.setTop (mkF m 49 #[.val (.int p1), .val (.int p2), .val (.int (own_ln p1)), .val (.int (own_ln p2))] [(.int (255 : Int32)), (.int ((p1.toUInt32 >>> ((8 : Int32) &&& 31).toUInt32).toInt32))]))) (fun t k => XS.sipush X2.here hx rfl (hb hby d_method_4_code_46) k) ?_
          refine own_fw (A' := (T2.setTop (mkF m 50 #[.val (.int p1), .val (.int p2), .val (.int (own_ln p1)), .val (.int (own_ln p2))] [(.int (((p1.toUInt32 >>> ((8 : Int32) &&& 31).toUInt32).toInt32) &&& (255 : Int32)))]))) (fun t k => XS.iand X2.here hx rfl (hb hby d_method_4_code_49) rfl k) ?_
          refine own_fw (A' := (T2.setTop (mkF m 51 #[.val (.int p1), .val (.int p2), .val (.int (own_ln p1)), .val (.int (own_ln p2))] [(.int p2), (.int (((p1.toUInt32 >>> ((8 : Int32) &&& 31).toUInt32).toInt32) &&& (255 : Int32)))]))) (fun t k => XS.iloadN X2.here hx rfl (hb hby d_method_4_code_50) rfl k) ?_
          refine own_fw (A' := (T2.setTop (mkF m 53 #[.val (.int p1), .val (.int p2), .val (.int (own_ln p1)), .val (.int (own_ln p2))] [(.int (8 : Int32)), (.int p2), (.int (((p1.toUInt32 >>> ((8 : Int32) &&& 31).toUInt32).toInt32) &&& (255 : Int32)))]))) (fun t k => XS.bipush X2.here hx rfl (hb hby d_method_4_code_51) k) ?_
          refine own_fw (A' := (T2.setTop (mkF m 54 #[.val (.int p1), .val (.int p2), .val (.int (own_ln p1)), .val (.int (own_ln p2))] [(.int ((p2.toUInt32 >>> ((8 : Int32) &&& 31).toUInt32).toInt32)), (.int (((p1.toUInt32 >>> ((8 : Int32) &&& 31).toUInt32).toInt32) &&& (255 : Int32)))]))) (fun t k => XS.iushr X2.here hx rfl (hb hby d_method_4_code_53) rfl k) ?_
          refine own_fw (A' := (T2.setTop (mkF m 57 #[.val (.int p1), .val (.int p2), .val (.int (own_ln p1)), .val (.int (own_ln p2))] [(.int (255 : Int32)), (.int ((p2.toUInt32 >>> ((8 : Int32) &&& 31).toUInt32).toInt32)), (.int (((p1.toUInt32 >>> ((8 : Int32) &&& 31).toUInt32).toInt32) &&& (255 : Int32)))]))) (fun t k => XS.sipush X2.here hx rfl (hb hby d_method_4_code_54) k) ?_
          refine own_fw (A' := (T2.setTop (mkF m 58 #[.val (.int p1), .val (.int p2), .val (.int (own_ln p1)), .val (.int (own_ln p2))] [(.int (((p2.toUInt32 >>> ((8 : Int32) &&& 31).toUInt32).toInt32) &&& (255 : Int32))), (.int (((p1.toUInt32 >>> ((8 : Int32) &&& 31).toUInt32).toInt32) &&& (255 : Int32)))]))) (fun t k => XS.iand X2.here hx rfl (hb hby d_method_4_code_57) rfl k) ?_
          by_cases hc9 : (((p1.toUInt32 >>> ((8 : Int32) &&& 31).toUInt32).toInt32) &&& (255 : Int32)) = (((p2.toUInt32 >>> ((8 : Int32) &&& 31).toUInt32).toInt32) &&& (255 : Int32))
          · refine own_fw (A' := (T2.setTop (mkF m 63 #[.val (.int p1), .val (.int p2), .val (.int (own_ln p1)), .val (.int (own_ln p2))] []))) (fun t k => XS.icmpYes X2.here hx rfl (pc0 := 58) (pc' := 63) rfl (hb hby d_method_4_code_58) rfl (XT.ii_eq_t hc9) (by decide) (by decide) k) ?_
            refine own_fw (A' := (T2.setTop (mkF m 64 #[.val (.int p1), .val (.int p2), .val (.int (own_ln p1)), .val (.int (own_ln p2))] [(.int (1 : Int32))]))) (fun t k => XS.iconst X2.here hx rfl (hb hby d_method_4_code_63) k) ?_
            obtain ⟨fs, hr, hrun, hended, hW, hsame⟩ := X2.leave (v := some (.int (1 : Int32))) (fun h => by rw [Bd.returns] at h; cases h)
            refine ⟨_, _, ?_, hrun, hended, _, _, rfl, ?_, ⟨_, rfl⟩, hW, hsame.mono (by decide) (by decide)⟩
            · exact retOut X2 hx Bd.returns rfl (Or.inl ⟨rfl, by simp, _, rfl⟩) (hb hby d_method_4_code_64) hr
            · show Q_rmSame Z p1 p2 h0 n0 _ T2.heap _
              rw [e2]
              exact ⟨(by rw [own_same, if_pos hc3, if_neg hc4, if_pos (show own_c0 p1 = own_c0 p2 from hc7), own_tail, if_neg hc8, if_pos (show own_c1 p1 = own_c1 p2 from hc9)]), Nf2, rfl⟩
          · refine own_fw (A' := (T2.setTop (mkF m 61 #[.val (.int p1), .val (.int p2), .val (.int (own_ln p1)), .val (.int (own_ln p2))] []))) (fun t k => XS.icmpNo X2.here hx rfl (hb hby d_method_4_code_58) rfl (XT.ii_eq_f hc9) k) ?_
            refine own_fw (A' := (T2.setTop (mkF m 62 #[.val (.int p1), .val (.int p2), .val (.int (own_ln p1)), .val (.int (own_ln p2))] [(.int (0 : Int32))]))) (fun t k => XS.iconst X2.here hx rfl (hb hby d_method_4_code_61) k) ?_
            obtain ⟨fs, hr, hrun, hended, hW, hsame⟩ := X2.leave (v := some (.int (0 : Int32))) (fun h => by rw [Bd.returns] at h; cases h)
            refine ⟨_, _, ?_, hrun, hended, _, _, rfl, ?_, ⟨_, rfl⟩, hW, hsame.mono (by decide) (by decide)⟩
            · exact retOut X2 hx Bd.returns rfl (Or.inl ⟨rfl, by simp, _, rfl⟩) (hb hby d_method_4_code_62) hr
            · show Q_rmSame Z p1 p2 h0 n0 _ T2.heap _
              rw [e2]
              exact ⟨(by rw [own_same, if_pos hc3, if_neg hc4, if_pos (show own_c0 p1 = own_c0 p2 from hc7), own_tail, if_neg hc8, if_neg (show ¬ (own_c1 p1 = own_c1 p2) from hc9)]), Nf2, rfl⟩
      · refine own_fw (A' := (T2.setTop (mkF m 35 #[.val (.int p1), .val (.int p2), .val (.int (own_ln p1)), .val (.int (own_ln p2))] []))) (fun t k => XS.icmpNo X2.here hx rfl (hb hby d_method_4_code_32) rfl (XT.ii_eq_f hc7) k) ?_
        refine own_fw (A' := (T2.setTop (mkF m 36 #[.val (.int p1), .val (.int p2), .val (.int (own_ln p1)), .val (.int (own_ln p2))] [(.int (0 : Int32))]))) (fun t k => XS.iconst X2.here hx rfl (hb hby d_method_4_code_35) k) ?_
        obtain ⟨fs, hr, hrun, hended, hW, hsame⟩ := X2.leave (v := some (.int (0 : Int32))) (fun h => by rw [Bd.returns] at h; cases h)
        refine ⟨_, _, ?_, hrun, hended, _, _, rfl, ?_, ⟨_, rfl⟩, hW, hsame.mono (by decide) (by decide)⟩
        · exact retOut X2 hx Bd.returns rfl (Or.inl ⟨rfl, by simp, _, rfl⟩) (hb hby d_method_4_code_36) hr
        · show Q_rmSame Z p1 p2 h0 n0 _ T2.heap _
          rw [e2]
          exact ⟨(by rw [own_same, if_pos hc3, if_neg hc4, if_neg (show ¬ (own_c0 p1 = own_c0 p2) from hc7)]), Nf2, rfl⟩
  · refine own_fw (A' := (T2.setTop (mkF m 15 #[.val (.int p1), .val (.int p2), .val (.int (own_ln p1)), .val (.int (own_ln p2))] []))) (fun t k => XS.icmpNo X2.here hx rfl (hb hby d_method_4_code_12) rfl (XT.ii_eq_f hc3) k) ?_
    refine own_fw (A' := (T2.setTop (mkF m 16 #[.val (.int p1), .val (.int p2), .val (.int (own_ln p1)), .val (.int (own_ln p2))] [(.int (0 : Int32))]))) (fun t k => XS.iconst X2.here hx rfl (hb hby d_method_4_code_15) k) ?_
    obtain ⟨fs, hr, hrun, hended, hW, hsame⟩ := X2.leave (v := some (.int (0 : Int32))) (fun h => by rw [Bd.returns] at h; cases h)
    refine ⟨_, _, ?_, hrun, hended, _, _, rfl, ?_, ⟨_, rfl⟩, hW, hsame.mono (by decide) (by decide)⟩
    · exact retOut X2 hx Bd.returns rfl (Or.inl ⟨rfl, by simp, _, rfl⟩) (hb hby d_method_4_code_16) hr
    · show Q_rmSame Z p1 p2 h0 n0 _ T2.heap _
      rw [e2]
      exact ⟨(by rw [own_same, if_neg hc3]), Nf2, rfl⟩
theorem pn_java_lang_Record : plainName "java/lang/Record" = true := by first | (simp [plainName, overriddenIn]; done) | decide +kernel
theorem d_jdk_30_method_1_code_0 : decode jdk_30_method_1_code 0 = .ok (.aload_n 0, 1) := by decide +kernel
theorem d_jdk_30_method_1_code_1 : decode jdk_30_method_1_code 1 = .ok (.invokespecial 1, 3) := by decide +kernel
theorem d_jdk_30_method_1_code_4 : decode jdk_30_method_1_code 4 = .ok (.return_, 1) := by decide +kernel
theorem ef_rmRecord (m : MethodId) (a1 : Addr) : entryFrame m #[(.ref a1)] 1 = mkF m 0 #[.val (.ref a1)] [] := by first | (simp [entryFrame, mkF, argsToLocals, Value.category]; done) | rfl
def Q_rmRecord (Z : State) (a1 : Addr) (h0 : Heap) (n0 : Nat) (v : Option Value) (h : Heap) (L : List Loc) : Prop := v = none ∧ Fr n0 L ∧ h = h0
set_option maxRecDepth 65536 in
set_option maxHeartbeats 40000000 in
theorem rmRecord (l : Launch) (Z : State) (a0 : Array Value) (hw : ∀ d ∈ tables_1, d.before a0 Z = true) (ws : List Jvm.Cond) (a1 : Addr) (h0 : Heap) (n0 : Nat) (Z0 : n0 ≤ h0.size)  :
    MetFree l (⟨"java/lang/Record", "<init>", "()V"⟩ : MethodName) (head1 (Jvm.Cond.code (⟨"java/lang/Record", "<init>", "()V"⟩ : MethodName) jdk_30_method_1_code 1 none :: ws) ({ frames := 1, cells := 0, slots := 0, locals := 12 } : Room)) (fun a U => a = #[(.ref a1)] ∧ Z.Warmed39 U.vm ∧ U.heap = h0) (fun _ _ _ _ _ => True) (fun _ U o U' => ∃ v L, o = .returned v ∧ Q_rmRecord Z a1 h0 n0 v U'.heap L ∧ FrameEnd U o U' L ({ frames := 1, cells := 0, slots := 0, locals := 12 } : Room).cells ({ frames := 1, cells := 0, slots := 0, locals := 12 } : Room).slots) := by
  refine MetFree.of_bodySF (plainFor_of_name pn_java_lang_Record) hisR ?_
  intro p e s m args below meth c s₁ Bd hml0 hP hK
  obtain ⟨rfl, hZ, hh⟩ := hP
  have hx := Bd.exec
  have hby := Bd.bytes
  have hml : c.maxLocals = 1 := hml0
  have hown : s.vm.findClass "java/lang/Record" = some m.cls := findClass_of_methodNamed Bd.named
  have hnm := (name_of_methodNamed Bd.named Bd.method).1
  have X0 : Stand p l e ({ frames := 1, cells := 0, slots := 0, locals := 12 } : Room) s m #[(.ref a1)] below meth c s₁ [] 0 0 := Stand.of_body Bd
  have e0 : s₁.heap = h0 := by rw [← hh, Bd.state]; rfl
  have N0 := Fr.nil n0
  refine own_fw (A' := (s₁.setTop (mkF m 0 #[.val (.ref a1)] []))) (fun t k => castTop (ef_rmRecord m a1) k) ?_
  refine own_fw (A' := (s₁.setTop (mkF m 1 #[.val (.ref a1)] [(.ref a1)]))) (fun t k => XS.aloadN X0.here hx rfl (hb hby d_jdk_30_method_1_code_0) rfl rfl k) ?_
  obtain ⟨T1, X1, e1, st1⟩ := initO X0 hx hZ hown (hw _ (List.mem_of_getElem? (i := 41) rfl)) (hw _ (List.mem_of_getElem? (i := 23) rfl)) (hw _ (List.mem_of_getElem? (i := 24) rfl)) e0 (g := (mkF m 1 #[.val (.ref a1)] [(.ref a1)])) rfl (by rw [hml]; rfl) rfl (hb hby d_jdk_30_method_1_code_1) (by decide) (W := 0) (by show 2 * 0 + _ ≤ _; exact Nat.le_of_eq rfl) (by decide)
  refine own_fw (A' := (T1.setTop (mkF m 4 #[.val (.ref a1)] []))) (fun t k => st1 _ k) ?_
  obtain ⟨fs, hr, hrun, hended, hW, hsame⟩ := X1.leave (v := none) (fun _ => rfl)
  refine ⟨_, _, ?_, hrun, hended, _, _, rfl, ?_, ⟨_, rfl⟩, hW, hsame.mono (by decide) (by decide)⟩
  · exact X1.returnOut hx Bd.returns (hb hby d_jdk_30_method_1_code_4) hr
  · show Q_rmRecord Z a1 h0 n0 _ T1.heap _
    rw [e1]
    exact ⟨rfl, N0, rfl⟩
theorem pn_com_example_kodnik_kodnik_store_Mapping : plainName "com/example/kodnik/kodnik/store/Mapping" = true := by first | (simp [plainName, overriddenIn]; done) | decide +kernel
theorem d_prog_44_method_1_code_0 : decode prog_44_method_1_code 0 = .ok (.aload_n 0, 1) := by decide +kernel
theorem d_prog_44_method_1_code_1 : decode prog_44_method_1_code 1 = .ok (.invokespecial 1, 3) := by decide +kernel
theorem pd___V : parseMethodDescriptor "()V" = some ⟨[], none⟩ := by decide +kernel
theorem d_prog_44_method_1_code_4 : decode prog_44_method_1_code 4 = .ok (.aload_n 0, 1) := by decide +kernel
theorem d_prog_44_method_1_code_5 : decode prog_44_method_1_code 5 = .ok (.aload_n 1, 1) := by decide +kernel
theorem d_prog_44_method_1_code_6 : decode prog_44_method_1_code 6 = .ok (.putfield 7, 3) := by decide +kernel
theorem d_prog_44_method_1_code_9 : decode prog_44_method_1_code 9 = .ok (.aload_n 0, 1) := by decide +kernel
theorem d_prog_44_method_1_code_10 : decode prog_44_method_1_code 10 = .ok (.aload_n 2, 1) := by decide +kernel
theorem d_prog_44_method_1_code_11 : decode prog_44_method_1_code 11 = .ok (.putfield 13, 3) := by decide +kernel
theorem d_prog_44_method_1_code_14 : decode prog_44_method_1_code 14 = .ok (.aload_n 0, 1) := by decide +kernel
theorem d_prog_44_method_1_code_15 : decode prog_44_method_1_code 15 = .ok (.aload_n 3, 1) := by decide +kernel
theorem d_prog_44_method_1_code_16 : decode prog_44_method_1_code 16 = .ok (.putfield 16, 3) := by decide +kernel
theorem d_prog_44_method_1_code_19 : decode prog_44_method_1_code 19 = .ok (.aload_n 0, 1) := by decide +kernel
theorem d_prog_44_method_1_code_20 : decode prog_44_method_1_code 20 = .ok (.aload 4, 2) := by decide +kernel
theorem d_prog_44_method_1_code_22 : decode prog_44_method_1_code 22 = .ok (.putfield 19, 3) := by decide +kernel
theorem d_prog_44_method_1_code_25 : decode prog_44_method_1_code 25 = .ok (.return_, 1) := by decide +kernel
theorem ef_rmMap (m : MethodId) (a1 : Addr) (a2 : Addr) (a3 : Addr) (a4 : Addr) (a5 : Addr) : entryFrame m #[(.ref a1), (.ref a2), (.ref a3), (.ref a4), (.ref a5)] 5 = mkF m 0 #[.val (.ref a1), .val (.ref a2), .val (.ref a3), .val (.ref a4), .val (.ref a5)] [] := by first | (simp [entryFrame, mkF, argsToLocals, Value.category]; done) | rfl
def Q_rmMap (Z : State) (a1 : Addr) (a2 : Addr) (a3 : Addr) (a4 : Addr) (a5 : Addr) (h0 : Heap) (n0 : Nat) (v : Option Value) (h : Heap) (L : List Loc) : Prop := v = none ∧ Fr n0 L ∧ Keep h0 h [a1] ∧ Exa Z h a1 "com/example/kodnik/kodnik/store/Mapping" ∧ Fld Z h a1 "com/example/kodnik/kodnik/store/Mapping" "sourceSystem" "Ljava/lang/String;" (.ref a2) ∧ Fld Z h a1 "com/example/kodnik/kodnik/store/Mapping" "sourceColumn" "Ljava/lang/String;" (.ref a3) ∧ Fld Z h a1 "com/example/kodnik/kodnik/store/Mapping" "targetSystem" "Ljava/lang/String;" (.ref a4) ∧ Fld Z h a1 "com/example/kodnik/kodnik/store/Mapping" "targetColumn" "Ljava/lang/String;" (.ref a5)
set_option maxRecDepth 65536 in
set_option maxHeartbeats 40000000 in
theorem rmMap (l : Launch) (Z : State) (a0 : Array Value) (hw : ∀ d ∈ tables_1, d.before a0 Z = true) (ws : List Jvm.Cond) (a1 : Addr) (a2 : Addr) (a3 : Addr) (a4 : Addr) (a5 : Addr) (h0 : Heap) (n0 : Nat) (Z0 : n0 ≤ h0.size) (P0 : Exa Z h0 a1 "com/example/kodnik/kodnik/store/Mapping") (P1 : Fld Z h0 a1 "com/example/kodnik/kodnik/store/Mapping" "sourceSystem" "Ljava/lang/String;" .null) (P2 : Fld Z h0 a1 "com/example/kodnik/kodnik/store/Mapping" "sourceColumn" "Ljava/lang/String;" .null) (P3 : Fld Z h0 a1 "com/example/kodnik/kodnik/store/Mapping" "targetSystem" "Ljava/lang/String;" .null) (P4 : Fld Z h0 a1 "com/example/kodnik/kodnik/store/Mapping" "targetColumn" "Ljava/lang/String;" .null) (g_a1 : n0 ≤ a1) :
    MetFree l (⟨"com/example/kodnik/kodnik/store/Mapping", "<init>", "(Ljava/lang/String;Ljava/lang/String;Ljava/lang/String;Ljava/lang/String;)V"⟩ : MethodName) (head1 (Jvm.Cond.code (⟨"com/example/kodnik/kodnik/store/Mapping", "<init>", "(Ljava/lang/String;Ljava/lang/String;Ljava/lang/String;Ljava/lang/String;)V"⟩ : MethodName) prog_44_method_1_code 5 none :: ws) ({ frames := 2, cells := 0, slots := 0, locals := 24 } : Room)) (fun a U => a = #[(.ref a1), (.ref a2), (.ref a3), (.ref a4), (.ref a5)] ∧ Z.Warmed39 U.vm ∧ U.heap = h0) (fun _ _ _ _ _ => True) (fun _ U o U' => ∃ v L, o = .returned v ∧ Q_rmMap Z a1 a2 a3 a4 a5 h0 n0 v U'.heap L ∧ FrameEnd U o U' L ({ frames := 2, cells := 0, slots := 0, locals := 24 } : Room).cells ({ frames := 2, cells := 0, slots := 0, locals := 24 } : Room).slots) := by
  refine MetFree.of_bodySF (plainFor_of_name pn_com_example_kodnik_kodnik_store_Mapping) hisR ?_
  intro p e s m args below meth c s₁ Bd hml0 hP hK
  obtain ⟨rfl, hZ, hh⟩ := hP
  have hx := Bd.exec
  have hby := Bd.bytes
  have hml : c.maxLocals = 5 := hml0
  have hown : s.vm.findClass "com/example/kodnik/kodnik/store/Mapping" = some m.cls := findClass_of_methodNamed Bd.named
  have hnm := (name_of_methodNamed Bd.named Bd.method).1
  have X0 : Stand p l e ({ frames := 2, cells := 0, slots := 0, locals := 24 } : Room) s m #[(.ref a1), (.ref a2), (.ref a3), (.ref a4), (.ref a5)] below meth c s₁ [] 0 0 := Stand.of_body Bd
  have e0 : s₁.heap = h0 := by rw [← hh, Bd.state]; rfl
  have N0 := Fr.nil n0
  refine own_fw (A' := (s₁.setTop (mkF m 0 #[.val (.ref a1), .val (.ref a2), .val (.ref a3), .val (.ref a4), .val (.ref a5)] []))) (fun t k => castTop (ef_rmMap m a1 a2 a3 a4 a5) k) ?_
  refine own_fw (A' := (s₁.setTop (mkF m 1 #[.val (.ref a1), .val (.ref a2), .val (.ref a3), .val (.ref a4), .val (.ref a5)] [(.ref a1)]))) (fun t k => XS.aloadN X0.here hx rfl (hb hby d_prog_44_method_1_code_0) rfl rfl k) ?_
  obtain ⟨_, _, ⟨T1, L1, k1, n1⟩, -, X1, ⟨Lc1, hQ1, l1, y1, z1⟩, st1⟩ := X0.specialBack hx (y := (⟨"java/lang/Record", "<init>", "()V"⟩ : MethodName)) rfl hown (mvT hZ (hw _ (List.mem_of_getElem? (i := 36) rfl))) (mvT hZ (hw _ (List.mem_of_getElem? (i := 37) rfl))) (mvT hZ (hw _ (List.mem_of_getElem? (i := 40) rfl))) (by decide) (backOf (W := 0) (rmRecord l Z a0 hw [] a1 h0 n0 Z0 ) hZ (hw _ (List.mem_of_getElem? (i := 40) rfl)) (hw _ (List.mem_of_getElem? (i := 39) rfl)) (by decide) (by decide)) (g := (mkF m 1 #[.val (.ref a1), .val (.ref a2), .val (.ref a3), .val (.ref a4), .val (.ref a5)] [(.ref a1)])) rfl (by rw [hml]; rfl) (Steps.refl _) (a := a1) (argsL := []) (rest := []) (lenOf pd___V rfl) rfl (by show 2 * 0 + _ ≤ _; exact Nat.le_of_eq rfl) (hb hby d_prog_44_method_1_code_1) (fun _ _ => ⟨rfl, e0, (by decide : 0 + 0 ≤ _), (by decide : 0 + 0 ≤ _)⟩)
  dsimp only [Pt.U, Pt.locs, Pt.cells, Pt.slots] at X1 l1 y1 z1 st1 hQ1
  subst l1 y1 z1
  obtain ⟨rfl, Nq1, e1⟩ := hQ1
  have Nf1 := Fr.app N0 Nq1
  refine own_fw (A' := (T1.setTop (mkF m 4 #[.val (.ref a1), .val (.ref a2), .val (.ref a3), .val (.ref a4), .val (.ref a5)] []))) (fun t k => st1.trans k) ?_
  refine own_fw (A' := (T1.setTop (mkF m 5 #[.val (.ref a1), .val (.ref a2), .val (.ref a3), .val (.ref a4), .val (.ref a5)] [(.ref a1)]))) (fun t k => XS.aloadN X1.here hx rfl (hb hby d_prog_44_method_1_code_4) rfl rfl k) ?_
  refine own_fw (A' := (T1.setTop (mkF m 6 #[.val (.ref a1), .val (.ref a2), .val (.ref a3), .val (.ref a4), .val (.ref a5)] [(.ref a2), (.ref a1)]))) (fun t k => XS.aloadN X1.here hx rfl (hb hby d_prog_44_method_1_code_5) rfl rfl k) ?_
  obtain ⟨T2, h2, X2, e2, W2, st2⟩ := putF X1 hx hZ hown (host := "") (Or.inl (hw _ (List.mem_of_getElem? (i := 42) rfl))) Via.refl e1 P1 P0 (Or.inr ⟨(hw _ (List.mem_of_getElem? (i := 43) rfl)), rfl, hnm⟩) (hw _ (List.mem_of_getElem? (i := 1) rfl)) (ty := (.object "java/lang/String")) (by decide) rfl rfl (g := (mkF m 6 #[.val (.ref a1), .val (.ref a2), .val (.ref a3), .val (.ref a4), .val (.ref a5)] [(.ref a2), (.ref a1)])) rfl rfl (hb hby d_prog_44_method_1_code_6)
  have Fw2 : Fld Z h2 a1 "com/example/kodnik/kodnik/store/Mapping" "sourceSystem" "Ljava/lang/String;" (.ref a2) := P1.same W2
  have Nf2 := Fr.snoc X2 Nf1 g_a1
  have K2 : Keep h0 h2 [a1] := (Keep.refl h0 [a1]).wr W2 (Or.inl (List.mem_of_getElem? (i := 0) rfl))
  have Z2 : n0 ≤ h2.size := Nat.le_trans Z0 (Keep.of_wr W2).1
  refine own_fw (A' := (T2.setTop (mkF m 9 #[.val (.ref a1), .val (.ref a2), .val (.ref a3), .val (.ref a4), .val (.ref a5)] []))) (fun t k => st2 _ k) ?_
  refine own_fw (A' := (T2.setTop (mkF m 10 #[.val (.ref a1), .val (.ref a2), .val (.ref a3), .val (.ref a4), .val (.ref a5)] [(.ref a1)]))) (fun t k => XS.aloadN X2.here hx rfl (hb hby d_prog_44_method_1_code_9) rfl rfl k) ?_
  refine own_fw (A' := (T2.setTop (mkF m 11 #[.val (.ref a1), .val (.ref a2), .val (.ref a3), .val (.ref a4), .val (.ref a5)] [(.ref a3), (.ref a1)]))) (fun t k => XS.aloadN X2.here hx rfl (hb hby d_prog_44_method_1_code_10) rfl rfl k) ?_
  obtain ⟨T3, h3, X3, e3, W3, st3⟩ := putF X2 hx hZ hown (host := "") (Or.inl (hw _ (List.mem_of_getElem? (i := 44) rfl))) Via.refl e2 (P2.other W2 (Or.inr (slot_ne (Or.inr (hw _ (List.mem_of_getElem? (i := 45) rfl))) (Or.inr (hw _ (List.mem_of_getElem? (i := 43) rfl))) (by decide) (t := (.object "java/lang/String")) (t' := (.object "java/lang/String")) (by decide) (by decide)))) (P0.wr W2) (Or.inr ⟨(hw _ (List.mem_of_getElem? (i := 45) rfl)), rfl, hnm⟩) (hw _ (List.mem_of_getElem? (i := 1) rfl)) (ty := (.object "java/lang/String")) (by decide) rfl rfl (g := (mkF m 11 #[.val (.ref a1), .val (.ref a2), .val (.ref a3), .val (.ref a4), .val (.ref a5)] [(.ref a3), (.ref a1)])) rfl rfl (hb hby d_prog_44_method_1_code_11)
  have Fw3 : Fld Z h3 a1 "com/example/kodnik/kodnik/store/Mapping" "sourceColumn" "Ljava/lang/String;" (.ref a3) := (P2.other W2 (Or.inr (slot_ne (Or.inr (hw _ (List.mem_of_getElem? (i := 45) rfl))) (Or.inr (hw _ (List.mem_of_getElem? (i := 43) rfl))) (by decide) (t := (.object "java/lang/String")) (t' := (.object "java/lang/String")) (by decide) (by decide)))).same W3
  have F4 : Fld Z h3 a1 "com/example/kodnik/kodnik/store/Mapping" "targetSystem" "Ljava/lang/String;" .null := ((P3.other W2 (Or.inr (slot_ne (Or.inr (hw _ (List.mem_of_getElem? (i := 47) rfl))) (Or.inr (hw _ (List.mem_of_getElem? (i := 43) rfl))) (by decide) (t := (.object "java/lang/String")) (t' := (.object "java/lang/String")) (by decide) (by decide)))).other W3 (Or.inr (slot_ne (Or.inr (hw _ (List.mem_of_getElem? (i := 47) rfl))) (Or.inr (hw _ (List.mem_of_getElem? (i := 45) rfl))) (by decide) (t := (.object "java/lang/String")) (t' := (.object "java/lang/String")) (by decide) (by decide))))
  have F5 : Fld Z h3 a1 "com/example/kodnik/kodnik/store/Mapping" "targetColumn" "Ljava/lang/String;" .null := ((P4.other W2 (Or.inr (slot_ne (Or.inr (hw _ (List.mem_of_getElem? (i := 49) rfl))) (Or.inr (hw _ (List.mem_of_getElem? (i := 43) rfl))) (by decide) (t := (.object "java/lang/String")) (t' := (.object "java/lang/String")) (by decide) (by decide)))).other W3 (Or.inr (slot_ne (Or.inr (hw _ (List.mem_of_getElem? (i := 49) rfl))) (Or.inr (hw _ (List.mem_of_getElem? (i := 45) rfl))) (by decide) (t := (.object "java/lang/String")) (t' := (.object "java/lang/String")) (by decide) (by decide))))
  have Nf3 := Fr.snoc X3 Nf2 g_a1
  have K3 : Keep h0 h3 [a1] := K2.wr W3 (Or.inl (List.mem_of_getElem? (i := 0) rfl))
  have Z3 : n0 ≤ h3.size := Nat.le_trans Z2 (Keep.of_wr W3).1
  refine own_fw (A' := (T3.setTop (mkF m 14 #[.val (.ref a1), .val (.ref a2), .val (.ref a3), .val (.ref a4), .val (.ref a5)] []))) (fun t k => st3 _ k) ?_
  refine own_fw (A' := (T3.setTop (mkF m 15 #[.val (.ref a1), .val (.ref a2), .val (.ref a3), .val (.ref a4), .val (.ref a5)] [(.ref a1)]))) (fun t k => XS.aloadN X3.here hx rfl (hb hby d_prog_44_method_1_code_14) rfl rfl k) ?_
  refine own_fw (A' := (T3.setTop (mkF m 16 #[.val (.ref a1), .val (.ref a2), .val (.ref a3), .val (.ref a4), .val (.ref a5)] [(.ref a4), (.ref a1)]))) (fun t k => XS.aloadN X3.here hx rfl (hb hby d_prog_44_method_1_code_15) rfl rfl k) ?_
  obtain ⟨T6, h6, X6, e6, W6, st6⟩ := putF X3 hx hZ hown (host := "") (Or.inl (hw _ (List.mem_of_getElem? (i := 46) rfl))) Via.refl e3 F4 ((P0.wr W2).wr W3) (Or.inr ⟨(hw _ (List.mem_of_getElem? (i := 47) rfl)), rfl, hnm⟩) (hw _ (List.mem_of_getElem? (i := 1) rfl)) (ty := (.object "java/lang/String")) (by decide) rfl rfl (g := (mkF m 16 #[.val (.ref a1), .val (.ref a2), .val (.ref a3), .val (.ref a4), .val (.ref a5)] [(.ref a4), (.ref a1)])) rfl rfl (hb hby d_prog_44_method_1_code_16)
  have Fw6 : Fld Z h6 a1 "com/example/kodnik/kodnik/store/Mapping" "targetSystem" "Ljava/lang/String;" (.ref a4) := F4.same W6
  have F7 : Fld Z h6 a1 "com/example/kodnik/kodnik/store/Mapping" "sourceSystem" "Ljava/lang/String;" (.ref a2) := ((Fw2.other W3 (Or.inr (slot_ne (Or.inr (hw _ (List.mem_of_getElem? (i := 43) rfl))) (Or.inr (hw _ (List.mem_of_getElem? (i := 45) rfl))) (by decide) (t := (.object "java/lang/String")) (t' := (.object "java/lang/String")) (by decide) (by decide)))).other W6 (Or.inr (slot_ne (Or.inr (hw _ (List.mem_of_getElem? (i := 43) rfl))) (Or.inr (hw _ (List.mem_of_getElem? (i := 47) rfl))) (by decide) (t := (.object "java/lang/String")) (t' := (.object "java/lang/String")) (by decide) (by decide))))
  have Nf6 := Fr.snoc X6 Nf3 g_a1
  have K6 : Keep h0 h6 [a1] := K3.wr W6 (Or.inl (List.mem_of_getElem? (i := 0) rfl))
  have Z6 : n0 ≤ h6.size := Nat.le_trans Z3 (Keep.of_wr W6).1
  refine own_fw (A' := (T6.setTop (mkF m 19 #[.val (.ref a1), .val (.ref a2), .val (.ref a3), .val (.ref a4), .val (.ref a5)] []))) (fun t k => st6 _ k) ?_
  refine own_fw (A' := (T6.setTop (mkF m 20 #[.val (.ref a1), .val (.ref a2), .val (.ref a3), .val (.ref a4), .val (.ref a5)] [(.ref a1)]))) (fun t k => XS.aloadN X6.here hx rfl (hb hby d_prog_44_method_1_code_19) rfl rfl k) ?_
  refine own_fw (A' := (T6.setTop (mkF m 22 #[.val (.ref a1), .val (.ref a2), .val (.ref a3), .val (.ref a4), .val (.ref a5)] [(.ref a5), (.ref a1)]))) (fun t k => XS.aload X6.here hx rfl (hb hby d_prog_44_method_1_code_20) rfl rfl k) ?_
  obtain ⟨T8, h8, X8, e8, W8, st8⟩ := putF X6 hx hZ hown (host := "") (Or.inl (hw _ (List.mem_of_getElem? (i := 48) rfl))) Via.refl e6 (F5.other W6 (Or.inr (slot_ne (Or.inr (hw _ (List.mem_of_getElem? (i := 49) rfl))) (Or.inr (hw _ (List.mem_of_getElem? (i := 47) rfl))) (by decide) (t := (.object "java/lang/String")) (t' := (.object "java/lang/String")) (by decide) (by decide)))) (((P0.wr W2).wr W3).wr W6) (Or.inr ⟨(hw _ (List.mem_of_getElem? (i := 49) rfl)), rfl, hnm⟩) (hw _ (List.mem_of_getElem? (i := 1) rfl)) (ty := (.object "java/lang/String")) (by decide) rfl rfl (g := (mkF m 22 #[.val (.ref a1), .val (.ref a2), .val (.ref a3), .val (.ref a4), .val (.ref a5)] [(.ref a5), (.ref a1)])) rfl rfl (hb hby d_prog_44_method_1_code_22)
  have Fw8 : Fld Z h8 a1 "com/example/kodnik/kodnik/store/Mapping" "targetColumn" "Ljava/lang/String;" (.ref a5) := (F5.other W6 (Or.inr (slot_ne (Or.inr (hw _ (List.mem_of_getElem? (i := 49) rfl))) (Or.inr (hw _ (List.mem_of_getElem? (i := 47) rfl))) (by decide) (t := (.object "java/lang/String")) (t' := (.object "java/lang/String")) (by decide) (by decide)))).same W8
  have F9 : Fld Z h8 a1 "com/example/kodnik/kodnik/store/Mapping" "sourceColumn" "Ljava/lang/String;" (.ref a3) := ((Fw3.other W6 (Or.inr (slot_ne (Or.inr (hw _ (List.mem_of_getElem? (i := 45) rfl))) (Or.inr (hw _ (List.mem_of_getElem? (i := 47) rfl))) (by decide) (t := (.object "java/lang/String")) (t' := (.object "java/lang/String")) (by decide) (by decide)))).other W8 (Or.inr (slot_ne (Or.inr (hw _ (List.mem_of_getElem? (i := 45) rfl))) (Or.inr (hw _ (List.mem_of_getElem? (i := 49) rfl))) (by decide) (t := (.object "java/lang/String")) (t' := (.object "java/lang/String")) (by decide) (by decide))))
  have Nf8 := Fr.snoc X8 Nf6 g_a1
  have K8 : Keep h0 h8 [a1] := K6.wr W8 (Or.inl (List.mem_of_getElem? (i := 0) rfl))
  have Z8 : n0 ≤ h8.size := Nat.le_trans Z6 (Keep.of_wr W8).1
  refine own_fw (A' := (T8.setTop (mkF m 25 #[.val (.ref a1), .val (.ref a2), .val (.ref a3), .val (.ref a4), .val (.ref a5)] []))) (fun t k => st8 _ k) ?_
  obtain ⟨fs, hr, hrun, hended, hW, hsame⟩ := X8.leave (v := none) (fun _ => rfl)
  refine ⟨_, _, ?_, hrun, hended, _, _, rfl, ?_, ⟨_, rfl⟩, hW, hsame.mono (by decide) (by decide)⟩
  · exact X8.returnOut hx Bd.returns (hb hby d_prog_44_method_1_code_25) hr
  · show Q_rmMap Z a1 a2 a3 a4 a5 h0 n0 _ T8.heap _
    rw [e8]
    exact ⟨rfl, Nf8, K8, ((((P0.wr W2).wr W3).wr W6).wr W8), (F7.other W8 (Or.inr (slot_ne (Or.inr (hw _ (List.mem_of_getElem? (i := 43) rfl))) (Or.inr (hw _ (List.mem_of_getElem? (i := 49) rfl))) (by decide) (t := (.object "java/lang/String")) (t' := (.object "java/lang/String")) (by decide) (by decide)))), F9, (Fw6.other W8 (Or.inr (slot_ne (Or.inr (hw _ (List.mem_of_getElem? (i := 47) rfl))) (Or.inr (hw _ (List.mem_of_getElem? (i := 49) rfl))) (by decide) (t := (.object "java/lang/String")) (t' := (.object "java/lang/String")) (by decide) (by decide)))), Fw8⟩
theorem d_prog_44_method_4_code_0 : decode prog_44_method_4_code 0 = .ok (.aload_n 0, 1) := by decide +kernel
theorem d_prog_44_method_4_code_1 : decode prog_44_method_4_code 1 = .ok (.getfield 7, 3) := by decide +kernel
theorem d_prog_44_method_4_code_4 : decode prog_44_method_4_code 4 = .ok (.aload_n 1, 1) := by decide +kernel
theorem d_prog_44_method_4_code_5 : decode prog_44_method_4_code 5 = .ok (.getfield 7, 3) := by decide +kernel
theorem d_prog_44_method_4_code_8 : decode prog_44_method_4_code 8 = .ok (.invokevirtual 22, 3) := by decide +kernel
theorem pd__Ljava_lang_Object__Z : parseMethodDescriptor "(Ljava/lang/Object;)Z" = some ⟨[(.object "java/lang/Object")], some .boolean⟩ := by decide +kernel
theorem d_prog_44_method_4_code_11 : decode prog_44_method_4_code 11 = .ok (.ifCond .eq 21, 3) := by decide +kernel
theorem d_prog_44_method_4_code_32 : decode prog_44_method_4_code 32 = .ok (.iconst 0, 1) := by decide +kernel
theorem d_prog_44_method_4_code_33 : decode prog_44_method_4_code 33 = .ok (.ireturn, 1) := by decide +kernel
theorem d_prog_44_method_4_code_14 : decode prog_44_method_4_code 14 = .ok (.aload_n 0, 1) := by decide +kernel
theorem d_prog_44_method_4_code_15 : decode prog_44_method_4_code 15 = .ok (.getfield 16, 3) := by decide +kernel
theorem d_prog_44_method_4_code_18 : decode prog_44_method_4_code 18 = .ok (.aload_n 1, 1) := by decide +kernel
theorem d_prog_44_method_4_code_19 : decode prog_44_method_4_code 19 = .ok (.getfield 16, 3) := by decide +kernel
theorem d_prog_44_method_4_code_22 : decode prog_44_method_4_code 22 = .ok (.invokevirtual 22, 3) := by decide +kernel
theorem d_prog_44_method_4_code_25 : decode prog_44_method_4_code 25 = .ok (.ifCond .eq 7, 3) := by decide +kernel
theorem d_prog_44_method_4_code_28 : decode prog_44_method_4_code 28 = .ok (.iconst 1, 1) := by decide +kernel
theorem d_prog_44_method_4_code_29 : decode prog_44_method_4_code 29 = .ok (.goto 4, 3) := by decide +kernel
theorem ef_rmAlike (m : MethodId) (a1 : Addr) (a2 : Addr) : entryFrame m #[(.ref a1), (.ref a2)] 2 = mkF m 0 #[.val (.ref a1), .val (.ref a2)] [] := by first | (simp [entryFrame, mkF, argsToLocals, Value.category]; done) | rfl
def Q_rmAlike (Z : State) (a1 : Addr) (a2 : Addr) (x1 : Addr) (x2 : Addr) (x3 : Addr) (x4 : Addr) (d1 : List Int32) (d2 : List Int32) (d3 : List Int32) (d4 : List Int32) (cs : Int32) (h0 : Heap) (n0 : Nat) (v : Option Value) (h : Heap) (L : List Loc) : Prop := v = some (.int (own_ma d1 d2 d3 d4)) ∧ Fr n0 L ∧ h = h0
set_option maxRecDepth 65536 in
set_option maxHeartbeats 40000000 in
theorem rmAlike (l : Launch) (Z : State) (a0 : Array Value) (hw : ∀ d ∈ tables_1, d.before a0 Z = true) (ws : List Jvm.Cond) (a1 : Addr) (a2 : Addr) (x1 : Addr) (x2 : Addr) (x3 : Addr) (x4 : Addr) (d1 : List Int32) (d2 : List Int32) (d3 : List Int32) (d4 : List Int32) (cs : Int32) (h0 : Heap) (n0 : Nat) (Z0 : n0 ≤ h0.size) (P0 : Fld Z h0 a1 "com/example/kodnik/kodnik/store/Mapping" "sourceSystem" "Ljava/lang/String;" (.ref x1)) (P1 : Fld Z h0 a2 "com/example/kodnik/kodnik/store/Mapping" "sourceSystem" "Ljava/lang/String;" (.ref x2)) (P2 : Fld Z h0 a1 "com/example/kodnik/kodnik/store/Mapping" "targetSystem" "Ljava/lang/String;" (.ref x3)) (P3 : Fld Z h0 a2 "com/example/kodnik/kodnik/store/Mapping" "targetSystem" "Ljava/lang/String;" (.ref x4)) (P4 : own_Str Z h0 x1 d1) (P5 : own_Str Z h0 x2 d2) (P6 : own_Str Z h0 x3 d3) (P7 : own_Str Z h0 x4 d4) (ne_x1_x2 : x1 ≠ x2) (ne_x3_x4 : x3 ≠ x4) (P10 : Sta Z h0 "java/lang/String" "COMPACT_STRINGS" "Z" (.int cs)) (hcs : ¬ (cs = (0 : Int32))) (s1 : own_small d1) (s2 : own_small d2) (s3 : own_small d3) (s4 : own_small d4) :
    MetFree l (⟨"com/example/kodnik/kodnik/store/Mapping", "mapsAlike", "(Lcom/example/kodnik/kodnik/store/Mapping;)Z"⟩ : MethodName) (head1 (Jvm.Cond.code (⟨"com/example/kodnik/kodnik/store/Mapping", "mapsAlike", "(Lcom/example/kodnik/kodnik/store/Mapping;)Z"⟩ : MethodName) prog_44_method_4_code 2 (some .boolean) :: ws) ({ frames := 2, cells := 0, slots := 0, locals := 28 } : Room)) (fun a U => a = #[(.ref a1), (.ref a2)] ∧ Z.Warmed39 U.vm ∧ U.heap = h0) (fun _ _ _ _ _ => True) (fun _ U o U' => ∃ v L, o = .returned v ∧ Q_rmAlike Z a1 a2 x1 x2 x3 x4 d1 d2 d3 d4 cs h0 n0 v U'.heap L ∧ FrameEnd U o U' L ({ frames := 2, cells := 0, slots := 0, locals := 28 } : Room).cells ({ frames := 2, cells := 0, slots := 0, locals := 28 } : Room).slots) := by
  refine MetFree.of_bodySF (plainFor_of_name pn_com_example_kodnik_kodnik_store_Mapping) hisR ?_
  intro p e s m args below meth c s₁ Bd hml0 hP hK
  obtain ⟨rfl, hZ, hh⟩ := hP
  have hx := Bd.exec
  have hby := Bd.bytes
  have hml : c.maxLocals = 2 := hml0
  have hown : s.vm.findClass "com/example/kodnik/kodnik/store/Mapping" = some m.cls := findClass_of_methodNamed Bd.named
  have hnm := (name_of_methodNamed Bd.named Bd.method).1
  have X0 : Stand p l e ({ frames := 2, cells := 0, slots := 0, locals := 28 } : Room) s m #[(.ref a1), (.ref a2)] below meth c s₁ [] 0 0 := Stand.of_body Bd
  have e0 : s₁.heap = h0 := by rw [← hh, Bd.state]; rfl
  have N0 := Fr.nil n0
  refine own_fw (A' := (s₁.setTop (mkF m 0 #[.val (.ref a1), .val (.ref a2)] []))) (fun t k => castTop (ef_rmAlike m a1 a2) k) ?_
  refine own_fw (A' := (s₁.setTop (mkF m 1 #[.val (.ref a1), .val (.ref a2)] [(.ref a1)]))) (fun t k => XS.aloadN X0.here hx rfl (hb hby d_prog_44_method_4_code_0) rfl rfl k) ?_
  obtain ⟨T1, X1, e1, st1⟩ := getF X0 hx hZ hown (host := "") (Or.inl (hw _ (List.mem_of_getElem? (i := 42) rfl))) Via.refl e0 P0 (g := (mkF m 1 #[.val (.ref a1), .val (.ref a2)] [(.ref a1)])) rfl rfl (hb hby d_prog_44_method_4_code_1)
  refine own_fw (A' := (T1.setTop (mkF m 4 #[.val (.ref a1), .val (.ref a2)] [(.ref x1)]))) (fun t k => st1 _ k) ?_
  refine own_fw (A' := (T1.setTop (mkF m 5 #[.val (.ref a1), .val (.ref a2)] [(.ref a2), (.ref x1)]))) (fun t k => XS.aloadN X1.here hx rfl (hb hby d_prog_44_method_4_code_4) rfl rfl k) ?_
  obtain ⟨T2, X2, e2, st2⟩ := getF X1 hx hZ hown (host := "") (Or.inl (hw _ (List.mem_of_getElem? (i := 42) rfl))) Via.refl e1 P1 (g := (mkF m 5 #[.val (.ref a1), .val (.ref a2)] [(.ref a2), (.ref x1)])) rfl rfl (hb hby d_prog_44_method_4_code_5)
  refine own_fw (A' := (T2.setTop (mkF m 8 #[.val (.ref a1), .val (.ref a2)] [(.ref x2), (.ref x1)]))) (fun t k => st2 _ k) ?_
  obtain ⟨cq3, kq3, qa3, qb3, qc3⟩ := isOf hZ e2 (own_strE P4)
  obtain ⟨_, _, ⟨T3, L3, k3, n3⟩, -, X3, ⟨Lc3, hQ3, l3, y3, z3⟩, st3⟩ := X2.virtualBack hx (y := (⟨"java/lang/String", "equals", "(Ljava/lang/Object;)Z"⟩ : MethodName)) (z := (⟨"java/lang/String", "equals", "(Ljava/lang/Object;)Z"⟩ : MethodName)) hown (mvT hZ (hw _ (List.mem_of_getElem? (i := 58) rfl))) (mvT hZ (hw _ (List.mem_of_getElem? (i := 59) rfl))) (notFace_of_selects (args := #[]) (mvT hZ (hw _ (List.mem_of_getElem? (i := 61) rfl)))) (mvT hZ (hw _ (List.mem_of_getElem? (i := 61) rfl))) (mvT hZ (hw _ (List.mem_of_getElem? (i := 60) rfl))) (by decide) (backOf (W := 0) (rmEq l Z a0 hw [] x1 x2 d1 d2 cs h0 n0 Z0 P4 P5 ne_x1_x2 P10 hcs s1 s2) hZ (hw _ (List.mem_of_getElem? (i := 62) rfl)) (hw _ (List.mem_of_getElem? (i := 13) rfl)) (by decide) (by decide)) qa3 qc3 (g := (mkF m 8 #[.val (.ref a1), .val (.ref a2)] [(.ref x2), (.ref x1)])) rfl (by rw [hml]; rfl) (Steps.refl _) (argsL := [(.ref x2)]) (rest := []) (lenOf pd__Ljava_lang_Object__Z rfl) rfl (by show 2 * 0 + _ ≤ _; exact Nat.le_of_eq rfl) (hb hby d_prog_44_method_4_code_8) (fun _ _ => ⟨rfl, e2, (by decide : 0 + 0 ≤ _), (by decide : 0 + 0 ≤ _)⟩)
  dsimp only [Pt.U, Pt.locs, Pt.cells, Pt.slots] at X3 l3 y3 z3 st3 hQ3
  subst l3 y3 z3
  obtain ⟨rfl, Nq3, e3⟩ := hQ3
  have Nf3 := Fr.app N0 Nq3
  refine own_fw (A' := (T3.setTop (mkF m 11 #[.val (.ref a1), .val (.ref a2)] [(.int (own_leq d1 d2))]))) (fun t k => st3.trans k) ?_
  by_cases hc4 : (own_leq d1 d2) = (0 : Int32)
  · refine own_fw (A' := (T3.setTop (mkF m 32 #[.val (.ref a1), .val (.ref a2)] []))) (fun t k => XS.ifYes X3.here hx rfl (pc0 := 11) (pc' := 32) rfl (hb hby d_prog_44_method_4_code_11) rfl (XT.i0_eq_t hc4) (by decide) (by decide) k) ?_
    refine own_fw (A' := (T3.setTop (mkF m 33 #[.val (.ref a1), .val (.ref a2)] [(.int (0 : Int32))]))) (fun t k => XS.iconst X3.here hx rfl (hb hby d_prog_44_method_4_code_32) k) ?_
    obtain ⟨fs, hr, hrun, hended, hW, hsame⟩ := X3.leave (v := some (.int (0 : Int32))) (fun h => by rw [Bd.returns] at h; cases h)
    refine ⟨_, _, ?_, hrun, hended, _, _, rfl, ?_, ⟨_, rfl⟩, hW, hsame.mono (by decide) (by decide)⟩
    · exact retOut X3 hx Bd.returns rfl (Or.inl ⟨rfl, by simp, _, rfl⟩) (hb hby d_prog_44_method_4_code_33) hr
    · show Q_rmAlike Z a1 a2 x1 x2 x3 x4 d1 d2 d3 d4 cs h0 n0 _ T3.heap _
      rw [e3]
      exact ⟨(by simp only [own_ma, if_neg hcs, if_pos s1, if_pos s2, if_pos s3, if_pos s4, if_pos hc4]), Nf3, rfl⟩
  · refine own_fw (A' := (T3.setTop (mkF m 14 #[.val (.ref a1), .val (.ref a2)] []))) (fun t k => XS.ifNo X3.here hx rfl (hb hby d_prog_44_method_4_code_11) rfl (XT.i0_eq_f hc4) k) ?_
    refine own_fw (A' := (T3.setTop (mkF m 15 #[.val (.ref a1), .val (.ref a2)] [(.ref a1)]))) (fun t k => XS.aloadN X3.here hx rfl (hb hby d_prog_44_method_4_code_14) rfl rfl k) ?_
    obtain ⟨T5, X5, e5, st5⟩ := getF X3 hx hZ hown (host := "") (Or.inl (hw _ (List.mem_of_getElem? (i := 46) rfl))) Via.refl e3 P2 (g := (mkF m 15 #[.val (.ref a1), .val (.ref a2)] [(.ref a1)])) rfl rfl (hb hby d_prog_44_method_4_code_15)
    refine own_fw (A' := (T5.setTop (mkF m 18 #[.val (.ref a1), .val (.ref a2)] [(.ref x3)]))) (fun t k => st5 _ k) ?_
    refine own_fw (A' := (T5.setTop (mkF m 19 #[.val (.ref a1), .val (.ref a2)] [(.ref a2), (.ref x3)]))) (fun t k => XS.aloadN X5.here hx rfl (hb hby d_prog_44_method_4_code_18) rfl rfl k) ?_
    obtain ⟨T6, X6, e6, st6⟩ := getF X5 hx hZ hown (host := "") (Or.inl (hw _ (List.mem_of_getElem? (i := 46) rfl))) Via.refl e5 P3 (g := (mkF m 19 #[.val (.ref a1), .val (.ref a2)] [(.ref a2), (.ref x3)])) rfl rfl (hb hby d_prog_44_method_4_code_19)
    refine own_fw (A' := (T6.setTop (mkF m 22 #[.val (.ref a1), .val (.ref a2)] [(.ref x4), (.ref x3)]))) (fun t k => st6 _ k) ?_
    obtain ⟨cq7, kq7, qa7, qb7, qc7⟩ := isOf hZ e6 (own_strE P6)
    obtain ⟨_, _, ⟨T7, L7, k7, n7⟩, -, X7, ⟨Lc7, hQ7, l7, y7, z7⟩, st7⟩ := X6.virtualBack hx (y := (⟨"java/lang/String", "equals", "(Ljava/lang/Object;)Z"⟩ : MethodName)) (z := (⟨"java/lang/String", "equals", "(Ljava/lang/Object;)Z"⟩ : MethodName)) hown (mvT hZ (hw _ (List.mem_of_getElem? (i := 58) rfl))) (mvT hZ (hw _ (List.mem_of_getElem? (i := 59) rfl))) (notFace_of_selects (args := #[]) (mvT hZ (hw _ (List.mem_of_getElem? (i := 61) rfl)))) (mvT hZ (hw _ (List.mem_of_getElem? (i := 61) rfl))) (mvT hZ (hw _ (List.mem_of_getElem? (i := 60) rfl))) (by decide) (backOf (W := 0) (rmEq l Z a0 hw [] x3 x4 d3 d4 cs h0 n0 Z0 P6 P7 ne_x3_x4 P10 hcs s3 s4) hZ (hw _ (List.mem_of_getElem? (i := 62) rfl)) (hw _ (List.mem_of_getElem? (i := 13) rfl)) (by decide) (by decide)) qa7 qc7 (g := (mkF m 22 #[.val (.ref a1), .val (.ref a2)] [(.ref x4), (.ref x3)])) rfl (by rw [hml]; rfl) (Steps.refl _) (argsL := [(.ref x4)]) (rest := []) (lenOf pd__Ljava_lang_Object__Z rfl) rfl (by show 2 * 0 + _ ≤ _; exact Nat.le_of_eq rfl) (hb hby d_prog_44_method_4_code_22) (fun _ _ => ⟨rfl, e6, (by decide : 0 + 0 ≤ _), (by decide : 0 + 0 ≤ _)⟩)
    dsimp only [Pt.U, Pt.locs, Pt.cells, Pt.slots] at X7 l7 y7 z7 st7 hQ7
    subst l7 y7 z7
    obtain ⟨rfl, Nq7, e7⟩ := hQ7
    have Nf7 := Fr.app Nf3 Nq7
    refine own_fw (A' := (T7.setTop (mkF m 25 #[.val (.ref a1), .val (.ref a2)] [(.int (own_leq d3 d4))]))) (fun t k => st7.trans k) ?_
    by_cases hc8 : (own_leq d3 d4) = (0 : Int32)
    · refine own_fw (A' := (T7.setTop (mkF m 32 #[.val (.ref a1), .val (.ref a2)] []))) (fun t k => XS.ifYes X7.here hx rfl (pc0 := 25) (pc' := 32) rfl (hb hby d_prog_44_method_4_code_25) rfl (XT.i0_eq_t hc8) (by decide) (by decide) k) ?_
      refine own_fw (A' := (T7.setTop (mkF m 33 #[.val (.ref a1), .val (.ref a2)] [(.int (0 : Int32))]))) (fun t k => XS.iconst X7.here hx rfl (hb hby d_prog_44_method_4_code_32) k) ?_
      obtain ⟨fs, hr, hrun, hended, hW, hsame⟩ := X7.leave (v := some (.int (0 : Int32))) (fun h => by rw [Bd.returns] at h; cases h)
      refine ⟨_, _, ?_, hrun, hended, _, _, rfl, ?_, ⟨_, rfl⟩, hW, hsame.mono (by decide) (by decide)⟩
      · exact retOut X7 hx Bd.returns rfl (Or.inl ⟨rfl, by simp, _, rfl⟩) (hb hby d_prog_44_method_4_code_33) hr
      · show Q_rmAlike Z a1 a2 x1 x2 x3 x4 d1 d2 d3 d4 cs h0 n0 _ T7.heap _
        rw [e7]
        exact ⟨(by simp only [own_ma, if_neg hcs, if_pos s1, if_pos s2, if_pos s3, if_pos s4, if_neg hc4, if_pos hc8]), Nf7, rfl⟩
    · refine own_fw (A' := (T7.setTop (mkF m 28 #[.val (.ref a1), .val (.ref a2)] []))) (fun t k => XS.ifNo X7.here hx rfl (hb hby d_prog_44_method_4_code_25) rfl (XT.i0_eq_f hc8) k) ?_
      refine own_fw (A' := (T7.setTop (mkF m 29 #[.val (.ref a1), .val (.ref a2)] [(.int (1 : Int32))]))) (fun t k => XS.iconst X7.here hx rfl (hb hby d_prog_44_method_4_code_28) k) ?_
      refine own_fw (A' := (T7.setTop (mkF m 33 #[.val (.ref a1), .val (.ref a2)] [(.int (1 : Int32))]))) (fun t k => XS.goto X7.here hx rfl (pc0 := 29) (pc' := 33) rfl (hb hby d_prog_44_method_4_code_29) (by decide) (by decide) k) ?_
      obtain ⟨fs, hr, hrun, hended, hW, hsame⟩ := X7.leave (v := some (.int (1 : Int32))) (fun h => by rw [Bd.returns] at h; cases h)
      refine ⟨_, _, ?_, hrun, hended, _, _, rfl, ?_, ⟨_, rfl⟩, hW, hsame.mono (by decide) (by decide)⟩
      · exact retOut X7 hx Bd.returns rfl (Or.inl ⟨rfl, by simp, _, rfl⟩) (hb hby d_prog_44_method_4_code_33) hr
      · show Q_rmAlike Z a1 a2 x1 x2 x3 x4 d1 d2 d3 d4 cs h0 n0 _ T7.heap _
        rw [e7]
        exact ⟨(by simp only [own_ma, if_neg hcs, if_pos s1, if_pos s2, if_pos s3, if_pos s4, if_neg hc4, if_neg hc8]), Nf7, rfl⟩
theorem pd__I_Ljava_lang_String_ : parseMethodDescriptor "(I)Ljava/lang/String;" = some ⟨[.int], some (.object "java/lang/String")⟩ := by decide +kernel
theorem pd__Ljava_lang_String_Ljava_lang_String_Ljava_lang_String_Ljava_lang_String__V : parseMethodDescriptor "(Ljava/lang/String;Ljava/lang/String;Ljava/lang/String;Ljava/lang/String;)V" = some ⟨[(.object "java/lang/String"), (.object "java/lang/String"), (.object "java/lang/String"), (.object "java/lang/String")], none⟩ := by decide +kernel
theorem pd__II_Z : parseMethodDescriptor "(II)Z" = some ⟨[.int, .int], some .boolean⟩ := by decide +kernel
theorem pd__Lcom_example_kodnik_kodnik_store_Mapping__Z : parseMethodDescriptor "(Lcom/example/kodnik/kodnik/store/Mapping;)Z" = some ⟨[(.object "com/example/kodnik/kodnik/store/Mapping")], some .boolean⟩ := by decide +kernel
theorem ef_rm0 (m : MethodId) (p1 : Int32) (p2 : Int32) (p3 : Int32) (p4 : Int32) (p5 : Int32) (p6 : Int32) : entryFrame m #[(.int p1), (.int p2), (.int p3), (.int p4), (.int p5), (.int p6)] maxLocals = mkF m 0 #[.val (.int p1), .val (.int p2), .val (.int p3), .val (.int p4), .val (.int p5), .val (.int p6), .unset, .unset, .unset, .unset, .unset] [] := by first | (simp [entryFrame, mkF, argsToLocals, Value.category, maxLocals]; done) | rfl
def Q_rm0 (Z : State) (p1 : Int32) (p2 : Int32) (p3 : Int32) (p4 : Int32) (p5 : Int32) (p6 : Int32) (cs : Int32) (h0 : Heap) (n0 : Nat) (v : Option Value) (h : Heap) (L : List Loc) : Prop := v = some (.int (1 : Int32)) ∧ Fr n0 L
set_option maxRecDepth 65536 in
set_option maxHeartbeats 40000000 in
theorem rm0 (l : Launch) (Z : State) (a0 : Array Value) (hw : ∀ d ∈ tables_1, d.before a0 Z = true) (ws : List Jvm.Cond) (p1 : Int32) (p2 : Int32) (p3 : Int32) (p4 : Int32) (p5 : Int32) (p6 : Int32) (cs : Int32) (h0 : Heap) (n0 : Nat) (Z0 : n0 ≤ h0.size) (P0 : Sta Z h0 "java/lang/String" "COMPACT_STRINGS" "Z" (.int cs)) (hcs : ¬ (cs = (0 : Int32))) :
    MetFree l x (head1 (Jvm.Cond.code x code maxLocals ret :: ws) room_1) (fun a U => a = #[(.int p1), (.int p2), (.int p3), (.int p4), (.int p5), (.int p6)] ∧ Z.Warmed39 U.vm ∧ U.heap = h0 ∧ CHv Z own_EL U.vm h0) (fun _ _ _ _ _ => True) (fun _ U o U' => ∃ v L, o = .returned v ∧ Q_rm0 Z p1 p2 p3 p4 p5 p6 cs h0 n0 v U'.heap L ∧ ReturnedEndW U o U' L room_1.cells room_1.slots) := by
  refine MetFree.of_bodySF (plainFor_of_name pn_com_example_kodnik_kodnik_store_MappingMapsAlikePinLaw) hisR ?_
  intro p e s m args below meth c s₁ Bd hml0 hP hK
  obtain ⟨rfl, hZ, hh, hH⟩ := hP
  have hx := Bd.exec
  have hby := Bd.bytes
  have hml : c.maxLocals = 11 := hml0
  have hown : s.vm.findClass "com/example/kodnik/kodnik/store/MappingMapsAlikePinLaw" = some m.cls := findClass_of_methodNamed Bd.named
  have hnm := (name_of_methodNamed Bd.named Bd.method).1
  have X0 : Stand p l e room_1 (s.setVm s.vm) m #[(.int p1), (.int p2), (.int p3), (.int p4), (.int p5), (.int p6)] below meth c s₁ [] 0 0 := Stand.of_body Bd
  have e0 : s₁.heap = h0 := by rw [← hh, Bd.state]; rfl
  have N0 := Fr.nil n0
  refine own_fw (A' := (s₁.setTop (mkF m 0 #[.val (.int p1), .val (.int p2), .val (.int p3), .val (.int p4), .val (.int p5), .val (.int p6), .unset, .unset, .unset, .unset, .unset] []))) (fun t k => castTop (ef_rm0 m p1 p2 p3 p4 p5 p6) k) ?_
  have hS : s.Since s.vm h0.size := (State.WarmedH.refl s).since _
  have hk : h0.size ≤ h0.size := Nat.le_refl _
  have hC : CHr Z own_EL s.vm h0 s.vm h0 := CHr.refl hH
  refine own_fw (A' := (s₁.setTop (mkF m 2 #[.val (.int p1), .val (.int p2), .val (.int p3), .val (.int p4), .val (.int p5), .val (.int p6), .unset, .unset, .unset, .unset, .unset] [(.int p6)]))) (fun t k => XS.iload X0.here hx rfl (hb hby at_0) rfl k) ?_
  refine own_fw (A' := (s₁.setTop (mkF m 3 #[.val (.int p1), .val (.int p2), .val (.int p3), .val (.int p4), .val (.int p5), .val (.int p6), .unset, .unset, .unset, .unset, .unset] [(.int (1 : Int32)), (.int p6)]))) (fun t k => XS.iconst X0.here hx rfl (hb hby at_2) k) ?_
  refine own_fw (A' := (s₁.setTop (mkF m 4 #[.val (.int p1), .val (.int p2), .val (.int p3), .val (.int p4), .val (.int p5), .val (.int p6), .unset, .unset, .unset, .unset, .unset] [(.int (p6 &&& (1 : Int32)))]))) (fun t k => XS.iand X0.here hx rfl (hb hby at_3) rfl k) ?_
  refine own_fw (A' := (s₁.setTop (mkF m 23 #[.val (.int p1), .val (.int p2), .val (.int p3), .val (.int p4), .val (.int p5), .val (.int p6), .unset, .unset, .unset, .unset, .unset] [(.int (if (p6 &&& (1 : Int32)) = (0 : Int32) then (if (p6 &&& (4 : Int32)) = (0 : Int32) then p3 else p2) else p1))]))) (fun t k => ?_) ?_
  · by_cases hj1 : (p6 &&& (1 : Int32)) = (0 : Int32)
    · try simp only [if_pos hj1] at k
      refine own_st (A' := (s₁.setTop (mkF m 11 #[.val (.int p1), .val (.int p2), .val (.int p3), .val (.int p4), .val (.int p5), .val (.int p6), .unset, .unset, .unset, .unset, .unset] []))) (fun t k => XS.ifYes X0.here hx rfl (pc0 := 4) (pc' := 11) rfl (hb hby at_4) rfl (XT.i0_eq_t hj1) (by decide) (by decide) k) ?_
      refine own_st (A' := (s₁.setTop (mkF m 13 #[.val (.int p1), .val (.int p2), .val (.int p3), .val (.int p4), .val (.int p5), .val (.int p6), .unset, .unset, .unset, .unset, .unset] [(.int p6)]))) (fun t k => XS.iload X0.here hx rfl (hb hby at_11) rfl k) ?_
      refine own_st (A' := (s₁.setTop (mkF m 14 #[.val (.int p1), .val (.int p2), .val (.int p3), .val (.int p4), .val (.int p5), .val (.int p6), .unset, .unset, .unset, .unset, .unset] [(.int (4 : Int32)), (.int p6)]))) (fun t k => XS.iconst X0.here hx rfl (hb hby at_13) k) ?_
      refine own_st (A' := (s₁.setTop (mkF m 15 #[.val (.int p1), .val (.int p2), .val (.int p3), .val (.int p4), .val (.int p5), .val (.int p6), .unset, .unset, .unset, .unset, .unset] [(.int (p6 &&& (4 : Int32)))]))) (fun t k => XS.iand X0.here hx rfl (hb hby at_14) rfl k) ?_
      refine own_st (A' := (s₁.setTop (mkF m 23 #[.val (.int p1), .val (.int p2), .val (.int p3), .val (.int p4), .val (.int p5), .val (.int p6), .unset, .unset, .unset, .unset, .unset] [(.int (if (p6 &&& (4 : Int32)) = (0 : Int32) then p3 else p2))]))) (fun t k => ?_) ?_
      · by_cases hj2 : (p6 &&& (4 : Int32)) = (0 : Int32)
        · try simp only [if_pos hj2] at k
          refine own_st (A' := (s₁.setTop (mkF m 22 #[.val (.int p1), .val (.int p2), .val (.int p3), .val (.int p4), .val (.int p5), .val (.int p6), .unset, .unset, .unset, .unset, .unset] []))) (fun t k => XS.ifYes X0.here hx rfl (pc0 := 15) (pc' := 22) rfl (hb hby at_15) rfl (XT.i0_eq_t hj2) (by decide) (by decide) k) ?_
          refine own_st (A' := (s₁.setTop (mkF m 23 #[.val (.int p1), .val (.int p2), .val (.int p3), .val (.int p4), .val (.int p5), .val (.int p6), .unset, .unset, .unset, .unset, .unset] [(.int p3)]))) (fun t k => XS.iloadN X0.here hx rfl (hb hby at_22) rfl k) ?_
          exact k
        · try simp only [if_neg hj2] at k
          refine own_st (A' := (s₁.setTop (mkF m 18 #[.val (.int p1), .val (.int p2), .val (.int p3), .val (.int p4), .val (.int p5), .val (.int p6), .unset, .unset, .unset, .unset, .unset] []))) (fun t k => XS.ifNo X0.here hx rfl (hb hby at_15) rfl (XT.i0_eq_f hj2) k) ?_
          refine own_st (A' := (s₁.setTop (mkF m 19 #[.val (.int p1), .val (.int p2), .val (.int p3), .val (.int p4), .val (.int p5), .val (.int p6), .unset, .unset, .unset, .unset, .unset] [(.int p2)]))) (fun t k => XS.iloadN X0.here hx rfl (hb hby at_18) rfl k) ?_
          refine own_st (A' := (s₁.setTop (mkF m 23 #[.val (.int p1), .val (.int p2), .val (.int p3), .val (.int p4), .val (.int p5), .val (.int p6), .unset, .unset, .unset, .unset, .unset] [(.int p2)]))) (fun t k => XS.goto X0.here hx rfl (pc0 := 19) (pc' := 23) rfl (hb hby at_19) (by decide) (by decide) k) ?_
          exact k
      exact k
    · try simp only [if_neg hj1] at k
      refine own_st (A' := (s₁.setTop (mkF m 7 #[.val (.int p1), .val (.int p2), .val (.int p3), .val (.int p4), .val (.int p5), .val (.int p6), .unset, .unset, .unset, .unset, .unset] []))) (fun t k => XS.ifNo X0.here hx rfl (hb hby at_4) rfl (XT.i0_eq_f hj1) k) ?_
      refine own_st (A' := (s₁.setTop (mkF m 8 #[.val (.int p1), .val (.int p2), .val (.int p3), .val (.int p4), .val (.int p5), .val (.int p6), .unset, .unset, .unset, .unset, .unset] [(.int p1)]))) (fun t k => XS.iloadN X0.here hx rfl (hb hby at_7) rfl k) ?_
      refine own_st (A' := (s₁.setTop (mkF m 23 #[.val (.int p1), .val (.int p2), .val (.int p3), .val (.int p4), .val (.int p5), .val (.int p6), .unset, .unset, .unset, .unset, .unset] [(.int p1)]))) (fun t k => XS.goto X0.here hx rfl (pc0 := 8) (pc' := 23) rfl (hb hby at_8) (by decide) (by decide) k) ?_
      exact k
  obtain ⟨x2, h_x2⟩ : ∃ z : Int32, z = (if (p6 &&& (1 : Int32)) = (0 : Int32) then (if (p6 &&& (4 : Int32)) = (0 : Int32) then p3 else p2) else p1) := ⟨_, rfl⟩
  rw [← h_x2]
  refine own_fw (A' := (s₁.setTop (mkF m 25 #[.val (.int p1), .val (.int p2), .val (.int p3), .val (.int p4), .val (.int p5), .val (.int p6), .val (.int x2), .unset, .unset, .unset, .unset] []))) (fun t k => XS.istore X0.here hx rfl (hb hby at_23) rfl (l' := #[.val (.int p1), .val (.int p2), .val (.int p3), .val (.int p4), .val (.int p5), .val (.int p6), .val (.int x2), .unset, .unset, .unset, .unset]) rfl k) ?_
  refine own_fw (A' := (s₁.setTop (mkF m 27 #[.val (.int p1), .val (.int p2), .val (.int p3), .val (.int p4), .val (.int p5), .val (.int p6), .val (.int x2), .unset, .unset, .unset, .unset] [(.int p6)]))) (fun t k => XS.iload X0.here hx rfl (hb hby at_25) rfl k) ?_
  refine own_fw (A' := (s₁.setTop (mkF m 28 #[.val (.int p1), .val (.int p2), .val (.int p3), .val (.int p4), .val (.int p5), .val (.int p6), .val (.int x2), .unset, .unset, .unset, .unset] [(.int (2 : Int32)), (.int p6)]))) (fun t k => XS.iconst X0.here hx rfl (hb hby at_27) k) ?_
  refine own_fw (A' := (s₁.setTop (mkF m 29 #[.val (.int p1), .val (.int p2), .val (.int p3), .val (.int p4), .val (.int p5), .val (.int p6), .val (.int x2), .unset, .unset, .unset, .unset] [(.int (p6 &&& (2 : Int32)))]))) (fun t k => XS.iand X0.here hx rfl (hb hby at_28) rfl k) ?_
  refine own_fw (A' := (s₁.setTop (mkF m 49 #[.val (.int p1), .val (.int p2), .val (.int p3), .val (.int p4), .val (.int p5), .val (.int p6), .val (.int x2), .unset, .unset, .unset, .unset] [(.int (if (p6 &&& (2 : Int32)) = (0 : Int32) then (if (p6 &&& (8 : Int32)) = (0 : Int32) then p4 else p1) else p2))]))) (fun t k => ?_) ?_
  · by_cases hj3 : (p6 &&& (2 : Int32)) = (0 : Int32)
    · try simp only [if_pos hj3] at k
      refine own_st (A' := (s₁.setTop (mkF m 36 #[.val (.int p1), .val (.int p2), .val (.int p3), .val (.int p4), .val (.int p5), .val (.int p6), .val (.int x2), .unset, .unset, .unset, .unset] []))) (fun t k => XS.ifYes X0.here hx rfl (pc0 := 29) (pc' := 36) rfl (hb hby at_29) rfl (XT.i0_eq_t hj3) (by decide) (by decide) k) ?_
      refine own_st (A' := (s₁.setTop (mkF m 38 #[.val (.int p1), .val (.int p2), .val (.int p3), .val (.int p4), .val (.int p5), .val (.int p6), .val (.int x2), .unset, .unset, .unset, .unset] [(.int p6)]))) (fun t k => XS.iload X0.here hx rfl (hb hby at_36) rfl k) ?_
      refine own_st (A' := (s₁.setTop (mkF m 40 #[.val (.int p1), .val (.int p2), .val (.int p3), .val (.int p4), .val (.int p5), .val (.int p6), .val (.int x2), .unset, .unset, .unset, .unset] [(.int (8 : Int32)), (.int p6)]))) (fun t k => XS.bipush X0.here hx rfl (hb hby at_38) k) ?_
      refine own_st (A' := (s₁.setTop (mkF m 41 #[.val (.int p1), .val (.int p2), .val (.int p3), .val (.int p4), .val (.int p5), .val (.int p6), .val (.int x2), .unset, .unset, .unset, .unset] [(.int (p6 &&& (8 : Int32)))]))) (fun t k => XS.iand X0.here hx rfl (hb hby at_40) rfl k) ?_
      refine own_st (A' := (s₁.setTop (mkF m 49 #[.val (.int p1), .val (.int p2), .val (.int p3), .val (.int p4), .val (.int p5), .val (.int p6), .val (.int x2), .unset, .unset, .unset, .unset] [(.int (if (p6 &&& (8 : Int32)) = (0 : Int32) then p4 else p1))]))) (fun t k => ?_) ?_
      · by_cases hj4 : (p6 &&& (8 : Int32)) = (0 : Int32)
        · try simp only [if_pos hj4] at k
          refine own_st (A' := (s₁.setTop (mkF m 48 #[.val (.int p1), .val (.int p2), .val (.int p3), .val (.int p4), .val (.int p5), .val (.int p6), .val (.int x2), .unset, .unset, .unset, .unset] []))) (fun t k => XS.ifYes X0.here hx rfl (pc0 := 41) (pc' := 48) rfl (hb hby at_41) rfl (XT.i0_eq_t hj4) (by decide) (by decide) k) ?_
          refine own_st (A' := (s₁.setTop (mkF m 49 #[.val (.int p1), .val (.int p2), .val (.int p3), .val (.int p4), .val (.int p5), .val (.int p6), .val (.int x2), .unset, .unset, .unset, .unset] [(.int p4)]))) (fun t k => XS.iloadN X0.here hx rfl (hb hby at_48) rfl k) ?_
          exact k
        · try simp only [if_neg hj4] at k
          refine own_st (A' := (s₁.setTop (mkF m 44 #[.val (.int p1), .val (.int p2), .val (.int p3), .val (.int p4), .val (.int p5), .val (.int p6), .val (.int x2), .unset, .unset, .unset, .unset] []))) (fun t k => XS.ifNo X0.here hx rfl (hb hby at_41) rfl (XT.i0_eq_f hj4) k) ?_
          refine own_st (A' := (s₁.setTop (mkF m 45 #[.val (.int p1), .val (.int p2), .val (.int p3), .val (.int p4), .val (.int p5), .val (.int p6), .val (.int x2), .unset, .unset, .unset, .unset] [(.int p1)]))) (fun t k => XS.iloadN X0.here hx rfl (hb hby at_44) rfl k) ?_
          refine own_st (A' := (s₁.setTop (mkF m 49 #[.val (.int p1), .val (.int p2), .val (.int p3), .val (.int p4), .val (.int p5), .val (.int p6), .val (.int x2), .unset, .unset, .unset, .unset] [(.int p1)]))) (fun t k => XS.goto X0.here hx rfl (pc0 := 45) (pc' := 49) rfl (hb hby at_45) (by decide) (by decide) k) ?_
          exact k
      exact k
    · try simp only [if_neg hj3] at k
      refine own_st (A' := (s₁.setTop (mkF m 32 #[.val (.int p1), .val (.int p2), .val (.int p3), .val (.int p4), .val (.int p5), .val (.int p6), .val (.int x2), .unset, .unset, .unset, .unset] []))) (fun t k => XS.ifNo X0.here hx rfl (hb hby at_29) rfl (XT.i0_eq_f hj3) k) ?_
      refine own_st (A' := (s₁.setTop (mkF m 33 #[.val (.int p1), .val (.int p2), .val (.int p3), .val (.int p4), .val (.int p5), .val (.int p6), .val (.int x2), .unset, .unset, .unset, .unset] [(.int p2)]))) (fun t k => XS.iloadN X0.here hx rfl (hb hby at_32) rfl k) ?_
      refine own_st (A' := (s₁.setTop (mkF m 49 #[.val (.int p1), .val (.int p2), .val (.int p3), .val (.int p4), .val (.int p5), .val (.int p6), .val (.int x2), .unset, .unset, .unset, .unset] [(.int p2)]))) (fun t k => XS.goto X0.here hx rfl (pc0 := 33) (pc' := 49) rfl (hb hby at_33) (by decide) (by decide) k) ?_
      exact k
  obtain ⟨x3, h_x3⟩ : ∃ z : Int32, z = (if (p6 &&& (2 : Int32)) = (0 : Int32) then (if (p6 &&& (8 : Int32)) = (0 : Int32) then p4 else p1) else p2) := ⟨_, rfl⟩
  rw [← h_x3]
  refine own_fw (A' := (s₁.setTop (mkF m 51 #[.val (.int p1), .val (.int p2), .val (.int p3), .val (.int p4), .val (.int p5), .val (.int p6), .val (.int x2), .val (.int x3), .unset, .unset, .unset] []))) (fun t k => XS.istore X0.here hx rfl (hb hby at_49) rfl (l' := #[.val (.int p1), .val (.int p2), .val (.int p3), .val (.int p4), .val (.int p5), .val (.int p6), .val (.int x2), .val (.int x3), .unset, .unset, .unset]) rfl k) ?_
  obtain ⟨T5, h5, X5, e5, E5, A5, D5, -, st5⟩ := newO X0 hx hZ hown (hw _ (List.mem_of_getElem? (i := 0) rfl)) (hw _ (List.mem_of_getElem? (i := 1) rfl)) (hw _ (List.mem_of_getElem? (i := 2) rfl)) e0 (g := (mkF m 51 #[.val (.int p1), .val (.int p2), .val (.int p3), .val (.int p4), .val (.int p5), .val (.int p6), .val (.int x2), .val (.int x3), .unset, .unset, .unset] [])) rfl (hb hby at_51) (by decide) (by decide)
  obtain ⟨b5, gb5⟩ : ∃ z, z = h0.size := ⟨_, rfl⟩
  have g_b5 : n0 ≤ b5 := Nat.le_trans Z0 (Nat.le_of_eq gb5.symm)
  have sz_b5 : h0.size ≤ b5 := Nat.le_trans (Keep.refl h0 []).1 (Nat.le_of_eq gb5.symm)
  rw [← gb5] at A5 D5 st5
  have F6 : Safe Z own_EL _ h5 b5 := (Safe.ext E5 hH (Safe.new (Nat.le_of_eq gb5.symm) : Safe Z own_EL _ h0 b5))
  have F_sourceSystem_b5 : Fld Z h5 b5 "com/example/kodnik/kodnik/store/Mapping" "sourceSystem" "Ljava/lang/String;" .null := D5 (Or.inr (hw _ (List.mem_of_getElem? (i := 43) rfl))) (ty := (.object "java/lang/String")) (by decide)
  have F_sourceColumn_b5 : Fld Z h5 b5 "com/example/kodnik/kodnik/store/Mapping" "sourceColumn" "Ljava/lang/String;" .null := D5 (Or.inr (hw _ (List.mem_of_getElem? (i := 45) rfl))) (ty := (.object "java/lang/String")) (by decide)
  have F_targetSystem_b5 : Fld Z h5 b5 "com/example/kodnik/kodnik/store/Mapping" "targetSystem" "Ljava/lang/String;" .null := D5 (Or.inr (hw _ (List.mem_of_getElem? (i := 47) rfl))) (ty := (.object "java/lang/String")) (by decide)
  have F_targetColumn_b5 : Fld Z h5 b5 "com/example/kodnik/kodnik/store/Mapping" "targetColumn" "Ljava/lang/String;" .null := D5 (Or.inr (hw _ (List.mem_of_getElem? (i := 49) rfl))) (ty := (.object "java/lang/String")) (by decide)
  have K5 : Keep h0 h5 [] := (Keep.refl h0 []).ext E5
  have Z5 : n0 ≤ h5.size := Nat.le_trans Z0 E5.1
  have hk := Nat.le_trans hk E5.1
  have hC := hC.trans (CHr.ext E5 hH)
  have hH := hC.1
  refine own_fw (A' := (T5.setTop (mkF m 54 #[.val (.int p1), .val (.int p2), .val (.int p3), .val (.int p4), .val (.int p5), .val (.int p6), .val (.int x2), .val (.int x3), .unset, .unset, .unset] [(.ref b5)]))) (fun t k => st5 _ k) ?_
  refine own_fw (A' := (T5.setTop (mkF m 55 #[.val (.int p1), .val (.int p2), .val (.int p3), .val (.int p4), .val (.int p5), .val (.int p6), .val (.int x2), .val (.int x3), .unset, .unset, .unset] [(.ref b5), (.ref b5)]))) (fun t k => XS.dup X5.here hx rfl (hb hby at_54) rfl rfl k) ?_
  refine own_fw (A' := (T5.setTop (mkF m 56 #[.val (.int p1), .val (.int p2), .val (.int p3), .val (.int p4), .val (.int p5), .val (.int p6), .val (.int x2), .val (.int x3), .unset, .unset, .unset] [(.int p1), (.ref b5), (.ref b5)]))) (fun t k => XS.iloadN X5.here hx rfl (hb hby at_55) rfl k) ?_
  obtain ⟨_, _, ⟨T7, L7, k7, n7⟩, -, X7, hS7, gS7, ⟨Lc7, hQ7, l7, y7, z7, r7⟩, st7⟩ := callSS X5 hx (y := (⟨"com/example/kodnik/kodnik/store/MappingMapsAlikePinLaw", "str", "(I)Ljava/lang/String;"⟩ : MethodName)) hown (mvT hZ (hw _ (List.mem_of_getElem? (i := 3) rfl))) (mvT hZ (hw _ (List.mem_of_getElem? (i := 4) rfl))) (mvT hZ (hw _ (List.mem_of_getElem? (i := 5) rfl))) (mvT hZ (hw _ (List.mem_of_getElem? (i := 6) rfl))) (by decide) (backOfSH (W := 2) (rmStr l Z a0 hw [] p1 cs h5 n0 Z5 (P0.ext E5) hcs) hZ (hw _ (List.mem_of_getElem? (i := 6) rfl)) (hw _ (List.mem_of_getElem? (i := 5) rfl)) (by decide) (by decide) (own_EW hw) hH) (g := (mkF m 56 #[.val (.int p1), .val (.int p2), .val (.int p3), .val (.int p4), .val (.int p5), .val (.int p6), .val (.int x2), .val (.int x3), .unset, .unset, .unset] [(.int p1), (.ref b5), (.ref b5)])) rfl (by rw [hml]; rfl) (argsL := [(.int p1)]) (rest := [(.ref b5), (.ref b5)]) (lenOf pd__I_Ljava_lang_String_ rfl) rfl (by show 2 * 0 + _ ≤ _; exact Nat.le_of_eq rfl) (hb hby at_56) (fun _ _ => ⟨rfl, e5, (by decide : 1 + 6 ≤ _), (by decide : 4 + 12 ≤ _)⟩)
  dsimp only [Pt.U, Pt.locs, Pt.cells, Pt.slots] at X7 l7 y7 z7 st7 hQ7 hS7 gS7 r7
  subst l7 y7 z7
  obtain ⟨X7, hS, hZ', hown⟩ := rebS hS (by rw [e5]; exact hk : _ ≤ T5.heap.size) X7 hS7 gS7 hZ hown
  have hk : T7.heap.size ≤ T7.heap.size := Nat.le_refl _
  obtain ⟨b_7, rfl, Nq7, Kq7, Fq7_0, gb_7⟩ := hQ7
  have Nf7 := Fr.app N0 Nq7
  have F8 : Safe Z own_EL _ T7.heap b5 := (CHr.safe r7 A5.lt F6)
  have hC := hC.trans r7
  have hH := hC.1
  have hZ := hZ'
  have K7 : Keep h0 T7.heap [] := K5.trans Kq7 all0
  have sz_b_7 : h0.size ≤ b_7 := Nat.le_trans K5.1 gb_7
  have g_b_7 : n0 ≤ b_7 := Nat.le_trans Z5 gb_7
  have ne_b5_b_7 : b5 ≠ b_7 := Nat.ne_of_lt (Nat.lt_of_lt_of_le A5.lt gb_7)
  have Z7 : n0 ≤ T7.heap.size := Nat.le_trans Z5 Kq7.1
  refine own_fw (A' := (T7.setTop (mkF m 59 #[.val (.int p1), .val (.int p2), .val (.int p3), .val (.int p4), .val (.int p5), .val (.int p6), .val (.int x2), .val (.int x3), .unset, .unset, .unset] [(.ref b_7), (.ref b5), (.ref b5)]))) (fun t k => st7.trans k) ?_
  refine own_fw (A' := (T7.setTop (mkF m 61 #[.val (.int p1), .val (.int p2), .val (.int p3), .val (.int p4), .val (.int p5), .val (.int p6), .val (.int x2), .val (.int x3), .unset, .unset, .unset] [(.int p5), (.ref b_7), (.ref b5), (.ref b5)]))) (fun t k => XS.iload X7.here hx rfl (hb hby at_59) rfl k) ?_
  obtain ⟨_, _, ⟨T9, L9, k9, n9⟩, -, X9, hS9, gS9, ⟨Lc9, hQ9, l9, y9, z9, r9⟩, st9⟩ := callSS X7 hx (y := (⟨"com/example/kodnik/kodnik/store/MappingMapsAlikePinLaw", "str", "(I)Ljava/lang/String;"⟩ : MethodName)) hown (mvT hZ (hw _ (List.mem_of_getElem? (i := 3) rfl))) (mvT hZ (hw _ (List.mem_of_getElem? (i := 4) rfl))) (mvT hZ (hw _ (List.mem_of_getElem? (i := 5) rfl))) (mvT hZ (hw _ (List.mem_of_getElem? (i := 6) rfl))) (by decide) (backOfSH (W := 3) (rmStr l Z a0 hw [] p5 cs T7.heap n0 Z7 (own_staKeep (P0.ext E5) Kq7 all0) hcs) hZ (hw _ (List.mem_of_getElem? (i := 6) rfl)) (hw _ (List.mem_of_getElem? (i := 5) rfl)) (by decide) (by decide) (own_EW hw) hH) (g := (mkF m 61 #[.val (.int p1), .val (.int p2), .val (.int p3), .val (.int p4), .val (.int p5), .val (.int p6), .val (.int x2), .val (.int x3), .unset, .unset, .unset] [(.int p5), (.ref b_7), (.ref b5), (.ref b5)])) rfl (by rw [hml]; rfl) (argsL := [(.int p5)]) (rest := [(.ref b_7), (.ref b5), (.ref b5)]) (lenOf pd__I_Ljava_lang_String_ rfl) rfl (by show 2 * 0 + _ ≤ _; exact Nat.le_of_eq rfl) (hb hby at_61) (fun _ _ => ⟨rfl, rfl, (by decide : 7 + 6 ≤ _), (by decide : 16 + 12 ≤ _)⟩)
  dsimp only [Pt.U, Pt.locs, Pt.cells, Pt.slots] at X9 l9 y9 z9 st9 hQ9 hS9 gS9 r9
  subst l9 y9 z9
  obtain ⟨X9, hS, hZ', hown⟩ := rebS hS hk X9 hS9 gS9 hZ hown
  have hk : T9.heap.size ≤ T9.heap.size := Nat.le_refl _
  obtain ⟨b_9, rfl, Nq9, Kq9, Fq9_0, gb_9⟩ := hQ9
  have Nf9 := Fr.app Nf7 Nq9
  have F10 : Safe Z own_EL _ T9.heap b5 := (CHr.safe r9 (A5.keep Kq7).lt F8)
  have hC := hC.trans r9
  have hH := hC.1
  have hZ := hZ'
  have K9 : Keep h0 T9.heap [] := K7.trans Kq9 all0
  have sz_b_9 : h0.size ≤ b_9 := Nat.le_trans K7.1 gb_9
  have g_b_9 : n0 ≤ b_9 := Nat.le_trans Z7 gb_9
  have ne_b5_b_9 : b5 ≠ b_9 := Nat.ne_of_lt (Nat.lt_of_lt_of_le (A5.keep Kq7).lt gb_9)
  have ne_b_7_b_9 : b_7 ≠ b_9 := Nat.ne_of_lt (Nat.lt_of_lt_of_le (own_strLt Fq7_0) gb_9)
  have Z9 : n0 ≤ T9.heap.size := Nat.le_trans Z7 Kq9.1
  refine own_fw (A' := (T9.setTop (mkF m 64 #[.val (.int p1), .val (.int p2), .val (.int p3), .val (.int p4), .val (.int p5), .val (.int p6), .val (.int x2), .val (.int x3), .unset, .unset, .unset] [(.ref b_9), (.ref b_7), (.ref b5), (.ref b5)]))) (fun t k => st9.trans k) ?_
  refine own_fw (A' := (T9.setTop (mkF m 65 #[.val (.int p1), .val (.int p2), .val (.int p3), .val (.int p4), .val (.int p5), .val (.int p6), .val (.int x2), .val (.int x3), .unset, .unset, .unset] [(.int p2), (.ref b_9), (.ref b_7), (.ref b5), (.ref b5)]))) (fun t k => XS.iloadN X9.here hx rfl (hb hby at_64) rfl k) ?_
  obtain ⟨_, _, ⟨T11, L11, k11, n11⟩, -, X11, hS11, gS11, ⟨Lc11, hQ11, l11, y11, z11, r11⟩, st11⟩ := callSS X9 hx (y := (⟨"com/example/kodnik/kodnik/store/MappingMapsAlikePinLaw", "str", "(I)Ljava/lang/String;"⟩ : MethodName)) hown (mvT hZ (hw _ (List.mem_of_getElem? (i := 3) rfl))) (mvT hZ (hw _ (List.mem_of_getElem? (i := 4) rfl))) (mvT hZ (hw _ (List.mem_of_getElem? (i := 5) rfl))) (mvT hZ (hw _ (List.mem_of_getElem? (i := 6) rfl))) (by decide) (backOfSH (W := 4) (rmStr l Z a0 hw [] p2 cs T9.heap n0 Z9 (own_staKeep (own_staKeep (P0.ext E5) Kq7 all0) Kq9 all0) hcs) hZ (hw _ (List.mem_of_getElem? (i := 6) rfl)) (hw _ (List.mem_of_getElem? (i := 5) rfl)) (by decide) (by decide) (own_EW hw) hH) (g := (mkF m 65 #[.val (.int p1), .val (.int p2), .val (.int p3), .val (.int p4), .val (.int p5), .val (.int p6), .val (.int x2), .val (.int x3), .unset, .unset, .unset] [(.int p2), (.ref b_9), (.ref b_7), (.ref b5), (.ref b5)])) rfl (by rw [hml]; rfl) (argsL := [(.int p2)]) (rest := [(.ref b_9), (.ref b_7), (.ref b5), (.ref b5)]) (lenOf pd__I_Ljava_lang_String_ rfl) rfl (by show 2 * 0 + _ ≤ _; exact Nat.le_of_eq rfl) (hb hby at_65) (fun _ _ => ⟨rfl, rfl, (by decide : 13 + 6 ≤ _), (by decide : 28 + 12 ≤ _)⟩)
  dsimp only [Pt.U, Pt.locs, Pt.cells, Pt.slots] at X11 l11 y11 z11 st11 hQ11 hS11 gS11 r11
  subst l11 y11 z11
  obtain ⟨X11, hS, hZ', hown⟩ := rebS hS hk X11 hS11 gS11 hZ hown
  have hk : T11.heap.size ≤ T11.heap.size := Nat.le_refl _
  obtain ⟨b_11, rfl, Nq11, Kq11, Fq11_0, gb_11⟩ := hQ11
  have Nf11 := Fr.app Nf9 Nq11
  have F12 : Safe Z own_EL _ T11.heap b5 := (CHr.safe r11 ((A5.keep Kq7).keep Kq9).lt F10)
  have hC := hC.trans r11
  have hH := hC.1
  have hZ := hZ'
  have K11 : Keep h0 T11.heap [] := K9.trans Kq11 all0
  have sz_b_11 : h0.size ≤ b_11 := Nat.le_trans K9.1 gb_11
  have g_b_11 : n0 ≤ b_11 := Nat.le_trans Z9 gb_11
  have ne_b5_b_11 : b5 ≠ b_11 := Nat.ne_of_lt (Nat.lt_of_lt_of_le ((A5.keep Kq7).keep Kq9).lt gb_11)
  have ne_b_7_b_11 : b_7 ≠ b_11 := Nat.ne_of_lt (Nat.lt_of_lt_of_le (own_strLt (own_strKeep0 Fq7_0 Kq9)) gb_11)
  have ne_b_9_b_11 : b_9 ≠ b_11 := Nat.ne_of_lt (Nat.lt_of_lt_of_le (own_strLt Fq9_0) gb_11)
  have Z11 : n0 ≤ T11.heap.size := Nat.le_trans Z9 Kq11.1
  refine own_fw (A' := (T11.setTop (mkF m 68 #[.val (.int p1), .val (.int p2), .val (.int p3), .val (.int p4), .val (.int p5), .val (.int p6), .val (.int x2), .val (.int x3), .unset, .unset, .unset] [(.ref b_11), (.ref b_9), (.ref b_7), (.ref b5), (.ref b5)]))) (fun t k => st11.trans k) ?_
  refine own_fw (A' := (T11.setTop (mkF m 70 #[.val (.int p1), .val (.int p2), .val (.int p3), .val (.int p4), .val (.int p5), .val (.int p6), .val (.int x2), .val (.int x3), .unset, .unset, .unset] [(.int p5), (.ref b_11), (.ref b_9), (.ref b_7), (.ref b5), (.ref b5)]))) (fun t k => XS.iload X11.here hx rfl (hb hby at_68) rfl k) ?_
  refine own_fw (A' := (T11.setTop (mkF m 71 #[.val (.int p1), .val (.int p2), .val (.int p3), .val (.int p4), .val (.int p5), .val (.int p6), .val (.int x2), .val (.int x3), .unset, .unset, .unset] [(.int (-1 : Int32)), (.int p5), (.ref b_11), (.ref b_9), (.ref b_7), (.ref b5), (.ref b5)]))) (fun t k => XS.iconst X11.here hx rfl (hb hby at_70) k) ?_
  refine own_fw (A' := (T11.setTop (mkF m 72 #[.val (.int p1), .val (.int p2), .val (.int p3), .val (.int p4), .val (.int p5), .val (.int p6), .val (.int x2), .val (.int x3), .unset, .unset, .unset] [(.int (p5 ^^^ (-1 : Int32))), (.ref b_11), (.ref b_9), (.ref b_7), (.ref b5), (.ref b5)]))) (fun t k => XS.ixor X11.here hx rfl (hb hby at_71) rfl k) ?_
  obtain ⟨_, _, ⟨T13, L13, k13, n13⟩, -, X13, hS13, gS13, ⟨Lc13, hQ13, l13, y13, z13, r13⟩, st13⟩ := callSS X11 hx (y := (⟨"com/example/kodnik/kodnik/store/MappingMapsAlikePinLaw", "str", "(I)Ljava/lang/String;"⟩ : MethodName)) hown (mvT hZ (hw _ (List.mem_of_getElem? (i := 3) rfl))) (mvT hZ (hw _ (List.mem_of_getElem? (i := 4) rfl))) (mvT hZ (hw _ (List.mem_of_getElem? (i := 5) rfl))) (mvT hZ (hw _ (List.mem_of_getElem? (i := 6) rfl))) (by decide) (backOfSH (W := 5) (rmStr l Z a0 hw [] (p5 ^^^ (-1 : Int32)) cs T11.heap n0 Z11 (own_staKeep (own_staKeep (own_staKeep (P0.ext E5) Kq7 all0) Kq9 all0) Kq11 all0) hcs) hZ (hw _ (List.mem_of_getElem? (i := 6) rfl)) (hw _ (List.mem_of_getElem? (i := 5) rfl)) (by decide) (by decide) (own_EW hw) hH) (g := (mkF m 72 #[.val (.int p1), .val (.int p2), .val (.int p3), .val (.int p4), .val (.int p5), .val (.int p6), .val (.int x2), .val (.int x3), .unset, .unset, .unset] [(.int (p5 ^^^ (-1 : Int32))), (.ref b_11), (.ref b_9), (.ref b_7), (.ref b5), (.ref b5)])) rfl (by rw [hml]; rfl) (argsL := [(.int (p5 ^^^ (-1 : Int32)))]) (rest := [(.ref b_11), (.ref b_9), (.ref b_7), (.ref b5), (.ref b5)]) (lenOf pd__I_Ljava_lang_String_ rfl) rfl (by show 2 * 0 + _ ≤ _; exact Nat.le_of_eq rfl) (hb hby at_72) (fun _ _ => ⟨rfl, rfl, (by decide : 19 + 6 ≤ _), (by decide : 40 + 12 ≤ _)⟩)
  dsimp only [Pt.U, Pt.locs, Pt.cells, Pt.slots] at X13 l13 y13 z13 st13 hQ13 hS13 gS13 r13
  subst l13 y13 z13
  obtain ⟨X13, hS, hZ', hown⟩ := rebS hS hk X13 hS13 gS13 hZ hown
  have hk : T13.heap.size ≤ T13.heap.size := Nat.le_refl _
  obtain ⟨b_13, rfl, Nq13, Kq13, Fq13_0, gb_13⟩ := hQ13
  have Nf13 := Fr.app Nf11 Nq13
  have F14 : Safe Z own_EL _ T13.heap b5 := (CHr.safe r13 (((A5.keep Kq7).keep Kq9).keep Kq11).lt F12)
  have hC := hC.trans r13
  have hH := hC.1
  have hZ := hZ'
  have K13 : Keep h0 T13.heap [] := K11.trans Kq13 all0
  have sz_b_13 : h0.size ≤ b_13 := Nat.le_trans K11.1 gb_13
  have g_b_13 : n0 ≤ b_13 := Nat.le_trans Z11 gb_13
  have ne_b5_b_13 : b5 ≠ b_13 := Nat.ne_of_lt (Nat.lt_of_lt_of_le (((A5.keep Kq7).keep Kq9).keep Kq11).lt gb_13)
  have ne_b_7_b_13 : b_7 ≠ b_13 := Nat.ne_of_lt (Nat.lt_of_lt_of_le (own_strLt (own_strKeep0 (own_strKeep0 Fq7_0 Kq9) Kq11)) gb_13)
  have ne_b_9_b_13 : b_9 ≠ b_13 := Nat.ne_of_lt (Nat.lt_of_lt_of_le (own_strLt (own_strKeep0 Fq9_0 Kq11)) gb_13)
  have ne_b_11_b_13 : b_11 ≠ b_13 := Nat.ne_of_lt (Nat.lt_of_lt_of_le (own_strLt Fq11_0) gb_13)
  have Z13 : n0 ≤ T13.heap.size := Nat.le_trans Z11 Kq13.1
  refine own_fw (A' := (T13.setTop (mkF m 75 #[.val (.int p1), .val (.int p2), .val (.int p3), .val (.int p4), .val (.int p5), .val (.int p6), .val (.int x2), .val (.int x3), .unset, .unset, .unset] [(.ref b_13), (.ref b_11), (.ref b_9), (.ref b_7), (.ref b5), (.ref b5)]))) (fun t k => st13.trans k) ?_
  obtain ⟨_, _, ⟨T15, L15, k15, n15⟩, -, X15, ⟨Lc15, hQ15, l15, y15, z15⟩, st15⟩ := X13.specialBack hx (y := (⟨"com/example/kodnik/kodnik/store/Mapping", "<init>", "(Ljava/lang/String;Ljava/lang/String;Ljava/lang/String;Ljava/lang/String;)V"⟩ : MethodName)) rfl hown (mvT hZ (hw _ (List.mem_of_getElem? (i := 33) rfl))) (mvT hZ (hw _ (List.mem_of_getElem? (i := 34) rfl))) (mvT hZ (hw _ (List.mem_of_getElem? (i := 35) rfl))) (by decide) (backOf (W := 1) (rmMap l Z a0 hw [] b5 b_7 b_9 b_11 b_13 T13.heap n0 Z13 ((((A5.keep Kq7).keep Kq9).keep Kq11).keep Kq13) ((((F_sourceSystem_b5.keep Kq7 nin0).keep Kq9 nin0).keep Kq11 nin0).keep Kq13 nin0) ((((F_sourceColumn_b5.keep Kq7 nin0).keep Kq9 nin0).keep Kq11 nin0).keep Kq13 nin0) ((((F_targetSystem_b5.keep Kq7 nin0).keep Kq9 nin0).keep Kq11 nin0).keep Kq13 nin0) ((((F_targetColumn_b5.keep Kq7 nin0).keep Kq9 nin0).keep Kq11 nin0).keep Kq13 nin0) g_b5) hZ (hw _ (List.mem_of_getElem? (i := 35) rfl)) (hw _ (List.mem_of_getElem? (i := 2) rfl)) (by decide) (by decide)) (g := (mkF m 75 #[.val (.int p1), .val (.int p2), .val (.int p3), .val (.int p4), .val (.int p5), .val (.int p6), .val (.int x2), .val (.int x3), .unset, .unset, .unset] [(.ref b_13), (.ref b_11), (.ref b_9), (.ref b_7), (.ref b5), (.ref b5)])) rfl (by rw [hml]; rfl) (Steps.refl _) (a := b5) (argsL := [(.ref b_7), (.ref b_9), (.ref b_11), (.ref b_13)]) (rest := [(.ref b5)]) (lenOf pd__Ljava_lang_String_Ljava_lang_String_Ljava_lang_String_Ljava_lang_String__V rfl) rfl (by show 2 * 0 + _ ≤ _; exact Nat.le_of_eq rfl) (hb hby at_75) (fun _ _ => ⟨rfl, rfl, (by decide : 25 + 0 ≤ _), (by decide : 52 + 0 ≤ _)⟩)
  dsimp only [Pt.U, Pt.locs, Pt.cells, Pt.slots] at X15 l15 y15 z15 st15 hQ15
  subst l15 y15 z15
  obtain ⟨rfl, Nq15, Kq15, Fq15_0, Fq15_1, Fq15_2, Fq15_3, Fq15_4⟩ := hQ15
  have Nf15 := Fr.app Nf13 Nq15
  have hk := Nat.le_trans hk Kq15.1
  have F16 : Safe Z own_EL _ T15.heap b5 := (Safe.keep Kq15 (sfS F14 sf0) hH F14)
  have hC := hC.trans (CHr.keep Kq15 (sfS F14 sf0) hH)
  have hH := hC.1
  have K15 : Keep h0 T15.heap [] := K13.trans Kq15 (allS (Or.inr sz_b5) all0)
  have Z15 : n0 ≤ T15.heap.size := Nat.le_trans Z13 Kq15.1
  refine own_fw (A' := (T15.setTop (mkF m 78 #[.val (.int p1), .val (.int p2), .val (.int p3), .val (.int p4), .val (.int p5), .val (.int p6), .val (.int x2), .val (.int x3), .unset, .unset, .unset] [(.ref b5)]))) (fun t k => st15.trans k) ?_
  refine own_fw (A' := (T15.setTop (mkF m 80 #[.val (.int p1), .val (.int p2), .val (.int p3), .val (.int p4), .val (.int p5), .val (.int p6), .val (.int x2), .val (.int x3), .val (.ref b5), .unset, .unset] []))) (fun t k => XS.astore X15.here hx rfl (hb hby at_78) rfl rfl (l' := #[.val (.int p1), .val (.int p2), .val (.int p3), .val (.int p4), .val (.int p5), .val (.int p6), .val (.int x2), .val (.int x3), .val (.ref b5), .unset, .unset]) rfl k) ?_
  obtain ⟨T17, h17, X17, e17, E17, A17, D17, -, st17⟩ := newO X15 hx hZ hown (hw _ (List.mem_of_getElem? (i := 0) rfl)) (hw _ (List.mem_of_getElem? (i := 1) rfl)) (hw _ (List.mem_of_getElem? (i := 2) rfl)) rfl (g := (mkF m 80 #[.val (.int p1), .val (.int p2), .val (.int p3), .val (.int p4), .val (.int p5), .val (.int p6), .val (.int x2), .val (.int x3), .val (.ref b5), .unset, .unset] [])) rfl (hb hby at_80) (by decide) (by decide)
  obtain ⟨b17, gb17⟩ : ∃ z, z = T15.heap.size := ⟨_, rfl⟩
  have g_b17 : n0 ≤ b17 := Nat.le_trans Z15 (Nat.le_of_eq gb17.symm)
  have sz_b17 : h0.size ≤ b17 := Nat.le_trans K15.1 (Nat.le_of_eq gb17.symm)
  have ne_b5_b17 : b5 ≠ b17 := Nat.ne_of_lt (Nat.lt_of_lt_of_le Fq15_0.lt (Nat.le_of_eq gb17.symm))
  have ne_b_7_b17 : b_7 ≠ b17 := Nat.ne_of_lt (Nat.lt_of_lt_of_le (own_strLt (own_strKeep1 (own_strKeep0 (own_strKeep0 (own_strKeep0 Fq7_0 Kq9) Kq11) Kq13) Kq15 ((((A5.keep Kq7).keep Kq9).keep Kq11).keep Kq13) (by decide) (hw _ (List.mem_of_getElem? (i := 1) rfl)))) (Nat.le_of_eq gb17.symm))
  have ne_b_9_b17 : b_9 ≠ b17 := Nat.ne_of_lt (Nat.lt_of_lt_of_le (own_strLt (own_strKeep1 (own_strKeep0 (own_strKeep0 Fq9_0 Kq11) Kq13) Kq15 ((((A5.keep Kq7).keep Kq9).keep Kq11).keep Kq13) (by decide) (hw _ (List.mem_of_getElem? (i := 1) rfl)))) (Nat.le_of_eq gb17.symm))
  have ne_b_11_b17 : b_11 ≠ b17 := Nat.ne_of_lt (Nat.lt_of_lt_of_le (own_strLt (own_strKeep1 (own_strKeep0 Fq11_0 Kq13) Kq15 ((((A5.keep Kq7).keep Kq9).keep Kq11).keep Kq13) (by decide) (hw _ (List.mem_of_getElem? (i := 1) rfl)))) (Nat.le_of_eq gb17.symm))
  have ne_b_13_b17 : b_13 ≠ b17 := Nat.ne_of_lt (Nat.lt_of_lt_of_le (own_strLt (own_strKeep1 Fq13_0 Kq15 ((((A5.keep Kq7).keep Kq9).keep Kq11).keep Kq13) (by decide) (hw _ (List.mem_of_getElem? (i := 1) rfl)))) (Nat.le_of_eq gb17.symm))
  rw [← gb17] at A17 D17 st17
  have F18 : Safe Z own_EL _ h17 b5 := (Safe.ext E17 hH F16)
  have F19 : Safe Z own_EL _ h17 b17 := (Safe.ext E17 hH (Safe.new (Nat.le_of_eq gb17.symm) : Safe Z own_EL _ T15.heap b17))
  have F_sourceSystem_b17 : Fld Z h17 b17 "com/example/kodnik/kodnik/store/Mapping" "sourceSystem" "Ljava/lang/String;" .null := D17 (Or.inr (hw _ (List.mem_of_getElem? (i := 43) rfl))) (ty := (.object "java/lang/String")) (by decide)
  have F_sourceColumn_b17 : Fld Z h17 b17 "com/example/kodnik/kodnik/store/Mapping" "sourceColumn" "Ljava/lang/String;" .null := D17 (Or.inr (hw _ (List.mem_of_getElem? (i := 45) rfl))) (ty := (.object "java/lang/String")) (by decide)
  have F_targetSystem_b17 : Fld Z h17 b17 "com/example/kodnik/kodnik/store/Mapping" "targetSystem" "Ljava/lang/String;" .null := D17 (Or.inr (hw _ (List.mem_of_getElem? (i := 47) rfl))) (ty := (.object "java/lang/String")) (by decide)
  have F_targetColumn_b17 : Fld Z h17 b17 "com/example/kodnik/kodnik/store/Mapping" "targetColumn" "Ljava/lang/String;" .null := D17 (Or.inr (hw _ (List.mem_of_getElem? (i := 49) rfl))) (ty := (.object "java/lang/String")) (by decide)
  have K17 : Keep h0 h17 [] := K15.ext E17
  have Z17 : n0 ≤ h17.size := Nat.le_trans Z15 E17.1
  have hk := Nat.le_trans hk E17.1
  have hC := hC.trans (CHr.ext E17 hH)
  have hH := hC.1
  refine own_fw (A' := (T17.setTop (mkF m 83 #[.val (.int p1), .val (.int p2), .val (.int p3), .val (.int p4), .val (.int p5), .val (.int p6), .val (.int x2), .val (.int x3), .val (.ref b5), .unset, .unset] [(.ref b17)]))) (fun t k => st17 _ k) ?_
  refine own_fw (A' := (T17.setTop (mkF m 84 #[.val (.int p1), .val (.int p2), .val (.int p3), .val (.int p4), .val (.int p5), .val (.int p6), .val (.int x2), .val (.int x3), .val (.ref b5), .unset, .unset] [(.ref b17), (.ref b17)]))) (fun t k => XS.dup X17.here hx rfl (hb hby at_83) rfl rfl k) ?_
  refine own_fw (A' := (T17.setTop (mkF m 86 #[.val (.int p1), .val (.int p2), .val (.int p3), .val (.int p4), .val (.int p5), .val (.int p6), .val (.int x2), .val (.int x3), .val (.ref b5), .unset, .unset] [(.int x2), (.ref b17), (.ref b17)]))) (fun t k => XS.iload X17.here hx rfl (hb hby at_84) rfl k) ?_
  obtain ⟨_, _, ⟨T20, L20, k20, n20⟩, -, X20, hS20, gS20, ⟨Lc20, hQ20, l20, y20, z20, r20⟩, st20⟩ := callSS X17 hx (y := (⟨"com/example/kodnik/kodnik/store/MappingMapsAlikePinLaw", "str", "(I)Ljava/lang/String;"⟩ : MethodName)) hown (mvT hZ (hw _ (List.mem_of_getElem? (i := 3) rfl))) (mvT hZ (hw _ (List.mem_of_getElem? (i := 4) rfl))) (mvT hZ (hw _ (List.mem_of_getElem? (i := 5) rfl))) (mvT hZ (hw _ (List.mem_of_getElem? (i := 6) rfl))) (by decide) (backOfSH (W := 2) (rmStr l Z a0 hw [] x2 cs h17 n0 Z17 ((own_staKeep (own_staKeep (own_staKeep (own_staKeep (own_staKeep (P0.ext E5) Kq7 all0) Kq9 all0) Kq11 all0) Kq13 all0) Kq15 (allS (own_plainE ((((A5.keep Kq7).keep Kq9).keep Kq11).keep Kq13)) all0)).ext E17) hcs) hZ (hw _ (List.mem_of_getElem? (i := 6) rfl)) (hw _ (List.mem_of_getElem? (i := 5) rfl)) (by decide) (by decide) (own_EW hw) hH) (g := (mkF m 86 #[.val (.int p1), .val (.int p2), .val (.int p3), .val (.int p4), .val (.int p5), .val (.int p6), .val (.int x2), .val (.int x3), .val (.ref b5), .unset, .unset] [(.int x2), (.ref b17), (.ref b17)])) rfl (by rw [hml]; rfl) (argsL := [(.int x2)]) (rest := [(.ref b17), (.ref b17)]) (lenOf pd__I_Ljava_lang_String_ rfl) rfl (by show 2 * 0 + _ ≤ _; exact Nat.le_of_eq rfl) (hb hby at_86) (fun _ _ => ⟨rfl, e17, (by decide : 26 + 6 ≤ _), (by decide : 56 + 12 ≤ _)⟩)
  dsimp only [Pt.U, Pt.locs, Pt.cells, Pt.slots] at X20 l20 y20 z20 st20 hQ20 hS20 gS20 r20
  subst l20 y20 z20
  obtain ⟨X20, hS, hZ', hown⟩ := rebS hS (by rw [e17]; exact hk : _ ≤ T17.heap.size) X20 hS20 gS20 hZ hown
  have hk : T20.heap.size ≤ T20.heap.size := Nat.le_refl _
  obtain ⟨b_20, rfl, Nq20, Kq20, Fq20_0, gb_20⟩ := hQ20
  have Nf20 := Fr.app Nf15 Nq20
  have F21 : Safe Z own_EL _ T20.heap b5 := (CHr.safe r20 (Fq15_0.ext E17).lt F18)
  have F22 : Safe Z own_EL _ T20.heap b17 := (CHr.safe r20 A17.lt F19)
  have hC := hC.trans r20
  have hH := hC.1
  have hZ := hZ'
  have K20 : Keep h0 T20.heap [] := K17.trans Kq20 all0
  have sz_b_20 : h0.size ≤ b_20 := Nat.le_trans K17.1 gb_20
  have g_b_20 : n0 ≤ b_20 := Nat.le_trans Z17 gb_20
  have ne_b5_b_20 : b5 ≠ b_20 := Nat.ne_of_lt (Nat.lt_of_lt_of_le (Fq15_0.ext E17).lt gb_20)
  have ne_b_7_b_20 : b_7 ≠ b_20 := Nat.ne_of_lt (Nat.lt_of_lt_of_le (own_strLt (own_strExt (own_strKeep1 (own_strKeep0 (own_strKeep0 (own_strKeep0 Fq7_0 Kq9) Kq11) Kq13) Kq15 ((((A5.keep Kq7).keep Kq9).keep Kq11).keep Kq13) (by decide) (hw _ (List.mem_of_getElem? (i := 1) rfl))) E17)) gb_20)
  have ne_b_9_b_20 : b_9 ≠ b_20 := Nat.ne_of_lt (Nat.lt_of_lt_of_le (own_strLt (own_strExt (own_strKeep1 (own_strKeep0 (own_strKeep0 Fq9_0 Kq11) Kq13) Kq15 ((((A5.keep Kq7).keep Kq9).keep Kq11).keep Kq13) (by decide) (hw _ (List.mem_of_getElem? (i := 1) rfl))) E17)) gb_20)
  have ne_b_11_b_20 : b_11 ≠ b_20 := Nat.ne_of_lt (Nat.lt_of_lt_of_le (own_strLt (own_strExt (own_strKeep1 (own_strKeep0 Fq11_0 Kq13) Kq15 ((((A5.keep Kq7).keep Kq9).keep Kq11).keep Kq13) (by decide) (hw _ (List.mem_of_getElem? (i := 1) rfl))) E17)) gb_20)
  have ne_b_13_b_20 : b_13 ≠ b_20 := Nat.ne_of_lt (Nat.lt_of_lt_of_le (own_strLt (own_strExt (own_strKeep1 Fq13_0 Kq15 ((((A5.keep Kq7).keep Kq9).keep Kq11).keep Kq13) (by decide) (hw _ (List.mem_of_getElem? (i := 1) rfl))) E17)) gb_20)
  have ne_b17_b_20 : b17 ≠ b_20 := Nat.ne_of_lt (Nat.lt_of_lt_of_le A17.lt gb_20)
  have Z20 : n0 ≤ T20.heap.size := Nat.le_trans Z17 Kq20.1
  refine own_fw (A' := (T20.setTop (mkF m 89 #[.val (.int p1), .val (.int p2), .val (.int p3), .val (.int p4), .val (.int p5), .val (.int p6), .val (.int x2), .val (.int x3), .val (.ref b5), .unset, .unset] [(.ref b_20), (.ref b17), (.ref b17)]))) (fun t k => st20.trans k) ?_
  refine own_fw (A' := (T20.setTop (mkF m 91 #[.val (.int p1), .val (.int p2), .val (.int p3), .val (.int p4), .val (.int p5), .val (.int p6), .val (.int x2), .val (.int x3), .val (.ref b5), .unset, .unset] [(.int p5), (.ref b_20), (.ref b17), (.ref b17)]))) (fun t k => XS.iload X20.here hx rfl (hb hby at_89) rfl k) ?_
  refine own_fw (A' := (T20.setTop (mkF m 93 #[.val (.int p1), .val (.int p2), .val (.int p3), .val (.int p4), .val (.int p5), .val (.int p6), .val (.int x2), .val (.int x3), .val (.ref b5), .unset, .unset] [(.int p6), (.int p5), (.ref b_20), (.ref b17), (.ref b17)]))) (fun t k => XS.iload X20.here hx rfl (hb hby at_91) rfl k) ?_
  refine own_fw (A' := (T20.setTop (mkF m 94 #[.val (.int p1), .val (.int p2), .val (.int p3), .val (.int p4), .val (.int p5), .val (.int p6), .val (.int x2), .val (.int x3), .val (.ref b5), .unset, .unset] [(.int (p5 ^^^ p6)), (.ref b_20), (.ref b17), (.ref b17)]))) (fun t k => XS.ixor X20.here hx rfl (hb hby at_93) rfl k) ?_
  obtain ⟨_, _, ⟨T23, L23, k23, n23⟩, -, X23, hS23, gS23, ⟨Lc23, hQ23, l23, y23, z23, r23⟩, st23⟩ := callSS X20 hx (y := (⟨"com/example/kodnik/kodnik/store/MappingMapsAlikePinLaw", "str", "(I)Ljava/lang/String;"⟩ : MethodName)) hown (mvT hZ (hw _ (List.mem_of_getElem? (i := 3) rfl))) (mvT hZ (hw _ (List.mem_of_getElem? (i := 4) rfl))) (mvT hZ (hw _ (List.mem_of_getElem? (i := 5) rfl))) (mvT hZ (hw _ (List.mem_of_getElem? (i := 6) rfl))) (by decide) (backOfSH (W := 3) (rmStr l Z a0 hw [] (p5 ^^^ p6) cs T20.heap n0 Z20 (own_staKeep ((own_staKeep (own_staKeep (own_staKeep (own_staKeep (own_staKeep (P0.ext E5) Kq7 all0) Kq9 all0) Kq11 all0) Kq13 all0) Kq15 (allS (own_plainE ((((A5.keep Kq7).keep Kq9).keep Kq11).keep Kq13)) all0)).ext E17) Kq20 all0) hcs) hZ (hw _ (List.mem_of_getElem? (i := 6) rfl)) (hw _ (List.mem_of_getElem? (i := 5) rfl)) (by decide) (by decide) (own_EW hw) hH) (g := (mkF m 94 #[.val (.int p1), .val (.int p2), .val (.int p3), .val (.int p4), .val (.int p5), .val (.int p6), .val (.int x2), .val (.int x3), .val (.ref b5), .unset, .unset] [(.int (p5 ^^^ p6)), (.ref b_20), (.ref b17), (.ref b17)])) rfl (by rw [hml]; rfl) (argsL := [(.int (p5 ^^^ p6))]) (rest := [(.ref b_20), (.ref b17), (.ref b17)]) (lenOf pd__I_Ljava_lang_String_ rfl) rfl (by show 2 * 0 + _ ≤ _; exact Nat.le_of_eq rfl) (hb hby at_94) (fun _ _ => ⟨rfl, rfl, (by decide : 32 + 6 ≤ _), (by decide : 68 + 12 ≤ _)⟩)
  dsimp only [Pt.U, Pt.locs, Pt.cells, Pt.slots] at X23 l23 y23 z23 st23 hQ23 hS23 gS23 r23
  subst l23 y23 z23
  obtain ⟨X23, hS, hZ', hown⟩ := rebS hS hk X23 hS23 gS23 hZ hown
  have hk : T23.heap.size ≤ T23.heap.size := Nat.le_refl _
  obtain ⟨b_23, rfl, Nq23, Kq23, Fq23_0, gb_23⟩ := hQ23
  have Nf23 := Fr.app Nf20 Nq23
  have F24 : Safe Z own_EL _ T23.heap b5 := (CHr.safe r23 ((Fq15_0.ext E17).keep Kq20).lt F21)
  have F25 : Safe Z own_EL _ T23.heap b17 := (CHr.safe r23 (A17.keep Kq20).lt F22)
  have hC := hC.trans r23
  have hH := hC.1
  have hZ := hZ'
  have K23 : Keep h0 T23.heap [] := K20.trans Kq23 all0
  have sz_b_23 : h0.size ≤ b_23 := Nat.le_trans K20.1 gb_23
  have g_b_23 : n0 ≤ b_23 := Nat.le_trans Z20 gb_23
  have ne_b5_b_23 : b5 ≠ b_23 := Nat.ne_of_lt (Nat.lt_of_lt_of_le ((Fq15_0.ext E17).keep Kq20).lt gb_23)
  have ne_b_7_b_23 : b_7 ≠ b_23 := Nat.ne_of_lt (Nat.lt_of_lt_of_le (own_strLt (own_strKeep0 (own_strExt (own_strKeep1 (own_strKeep0 (own_strKeep0 (own_strKeep0 Fq7_0 Kq9) Kq11) Kq13) Kq15 ((((A5.keep Kq7).keep Kq9).keep Kq11).keep Kq13) (by decide) (hw _ (List.mem_of_getElem? (i := 1) rfl))) E17) Kq20)) gb_23)
  have ne_b_9_b_23 : b_9 ≠ b_23 := Nat.ne_of_lt (Nat.lt_of_lt_of_le (own_strLt (own_strKeep0 (own_strExt (own_strKeep1 (own_strKeep0 (own_strKeep0 Fq9_0 Kq11) Kq13) Kq15 ((((A5.keep Kq7).keep Kq9).keep Kq11).keep Kq13) (by decide) (hw _ (List.mem_of_getElem? (i := 1) rfl))) E17) Kq20)) gb_23)
  have ne_b_11_b_23 : b_11 ≠ b_23 := Nat.ne_of_lt (Nat.lt_of_lt_of_le (own_strLt (own_strKeep0 (own_strExt (own_strKeep1 (own_strKeep0 Fq11_0 Kq13) Kq15 ((((A5.keep Kq7).keep Kq9).keep Kq11).keep Kq13) (by decide) (hw _ (List.mem_of_getElem? (i := 1) rfl))) E17) Kq20)) gb_23)
  have ne_b_13_b_23 : b_13 ≠ b_23 := Nat.ne_of_lt (Nat.lt_of_lt_of_le (own_strLt (own_strKeep0 (own_strExt (own_strKeep1 Fq13_0 Kq15 ((((A5.keep Kq7).keep Kq9).keep Kq11).keep Kq13) (by decide) (hw _ (List.mem_of_getElem? (i := 1) rfl))) E17) Kq20)) gb_23)
  have ne_b17_b_23 : b17 ≠ b_23 := Nat.ne_of_lt (Nat.lt_of_lt_of_le (A17.keep Kq20).lt gb_23)
  have ne_b_20_b_23 : b_20 ≠ b_23 := Nat.ne_of_lt (Nat.lt_of_lt_of_le (own_strLt Fq20_0) gb_23)
  have Z23 : n0 ≤ T23.heap.size := Nat.le_trans Z20 Kq23.1
  refine own_fw (A' := (T23.setTop (mkF m 97 #[.val (.int p1), .val (.int p2), .val (.int p3), .val (.int p4), .val (.int p5), .val (.int p6), .val (.int x2), .val (.int x3), .val (.ref b5), .unset, .unset] [(.ref b_23), (.ref b_20), (.ref b17), (.ref b17)]))) (fun t k => st23.trans k) ?_
  refine own_fw (A' := (T23.setTop (mkF m 99 #[.val (.int p1), .val (.int p2), .val (.int p3), .val (.int p4), .val (.int p5), .val (.int p6), .val (.int x2), .val (.int x3), .val (.ref b5), .unset, .unset] [(.int x3), (.ref b_23), (.ref b_20), (.ref b17), (.ref b17)]))) (fun t k => XS.iload X23.here hx rfl (hb hby at_97) rfl k) ?_
  obtain ⟨_, _, ⟨T26, L26, k26, n26⟩, -, X26, hS26, gS26, ⟨Lc26, hQ26, l26, y26, z26, r26⟩, st26⟩ := callSS X23 hx (y := (⟨"com/example/kodnik/kodnik/store/MappingMapsAlikePinLaw", "str", "(I)Ljava/lang/String;"⟩ : MethodName)) hown (mvT hZ (hw _ (List.mem_of_getElem? (i := 3) rfl))) (mvT hZ (hw _ (List.mem_of_getElem? (i := 4) rfl))) (mvT hZ (hw _ (List.mem_of_getElem? (i := 5) rfl))) (mvT hZ (hw _ (List.mem_of_getElem? (i := 6) rfl))) (by decide) (backOfSH (W := 4) (rmStr l Z a0 hw [] x3 cs T23.heap n0 Z23 (own_staKeep (own_staKeep ((own_staKeep (own_staKeep (own_staKeep (own_staKeep (own_staKeep (P0.ext E5) Kq7 all0) Kq9 all0) Kq11 all0) Kq13 all0) Kq15 (allS (own_plainE ((((A5.keep Kq7).keep Kq9).keep Kq11).keep Kq13)) all0)).ext E17) Kq20 all0) Kq23 all0) hcs) hZ (hw _ (List.mem_of_getElem? (i := 6) rfl)) (hw _ (List.mem_of_getElem? (i := 5) rfl)) (by decide) (by decide) (own_EW hw) hH) (g := (mkF m 99 #[.val (.int p1), .val (.int p2), .val (.int p3), .val (.int p4), .val (.int p5), .val (.int p6), .val (.int x2), .val (.int x3), .val (.ref b5), .unset, .unset] [(.int x3), (.ref b_23), (.ref b_20), (.ref b17), (.ref b17)])) rfl (by rw [hml]; rfl) (argsL := [(.int x3)]) (rest := [(.ref b_23), (.ref b_20), (.ref b17), (.ref b17)]) (lenOf pd__I_Ljava_lang_String_ rfl) rfl (by show 2 * 0 + _ ≤ _; exact Nat.le_of_eq rfl) (hb hby at_99) (fun _ _ => ⟨rfl, rfl, (by decide : 38 + 6 ≤ _), (by decide : 80 + 12 ≤ _)⟩)
  dsimp only [Pt.U, Pt.locs, Pt.cells, Pt.slots] at X26 l26 y26 z26 st26 hQ26 hS26 gS26 r26
  subst l26 y26 z26
  obtain ⟨X26, hS, hZ', hown⟩ := rebS hS hk X26 hS26 gS26 hZ hown
  have hk : T26.heap.size ≤ T26.heap.size := Nat.le_refl _
  obtain ⟨b_26, rfl, Nq26, Kq26, Fq26_0, gb_26⟩ := hQ26
  have Nf26 := Fr.app Nf23 Nq26
  have F27 : Safe Z own_EL _ T26.heap b5 := (CHr.safe r26 (((Fq15_0.ext E17).keep Kq20).keep Kq23).lt F24)
  have F28 : Safe Z own_EL _ T26.heap b17 := (CHr.safe r26 ((A17.keep Kq20).keep Kq23).lt F25)
  have hC := hC.trans r26
  have hH := hC.1
  have hZ := hZ'
  have K26 : Keep h0 T26.heap [] := K23.trans Kq26 all0
  have sz_b_26 : h0.size ≤ b_26 := Nat.le_trans K23.1 gb_26
  have g_b_26 : n0 ≤ b_26 := Nat.le_trans Z23 gb_26
  have ne_b5_b_26 : b5 ≠ b_26 := Nat.ne_of_lt (Nat.lt_of_lt_of_le (((Fq15_0.ext E17).keep Kq20).keep Kq23).lt gb_26)
  have ne_b_7_b_26 : b_7 ≠ b_26 := Nat.ne_of_lt (Nat.lt_of_lt_of_le (own_strLt (own_strKeep0 (own_strKeep0 (own_strExt (own_strKeep1 (own_strKeep0 (own_strKeep0 (own_strKeep0 Fq7_0 Kq9) Kq11) Kq13) Kq15 ((((A5.keep Kq7).keep Kq9).keep Kq11).keep Kq13) (by decide) (hw _ (List.mem_of_getElem? (i := 1) rfl))) E17) Kq20) Kq23)) gb_26)
  have ne_b_9_b_26 : b_9 ≠ b_26 := Nat.ne_of_lt (Nat.lt_of_lt_of_le (own_strLt (own_strKeep0 (own_strKeep0 (own_strExt (own_strKeep1 (own_strKeep0 (own_strKeep0 Fq9_0 Kq11) Kq13) Kq15 ((((A5.keep Kq7).keep Kq9).keep Kq11).keep Kq13) (by decide) (hw _ (List.mem_of_getElem? (i := 1) rfl))) E17) Kq20) Kq23)) gb_26)
  have ne_b_11_b_26 : b_11 ≠ b_26 := Nat.ne_of_lt (Nat.lt_of_lt_of_le (own_strLt (own_strKeep0 (own_strKeep0 (own_strExt (own_strKeep1 (own_strKeep0 Fq11_0 Kq13) Kq15 ((((A5.keep Kq7).keep Kq9).keep Kq11).keep Kq13) (by decide) (hw _ (List.mem_of_getElem? (i := 1) rfl))) E17) Kq20) Kq23)) gb_26)
  have ne_b_13_b_26 : b_13 ≠ b_26 := Nat.ne_of_lt (Nat.lt_of_lt_of_le (own_strLt (own_strKeep0 (own_strKeep0 (own_strExt (own_strKeep1 Fq13_0 Kq15 ((((A5.keep Kq7).keep Kq9).keep Kq11).keep Kq13) (by decide) (hw _ (List.mem_of_getElem? (i := 1) rfl))) E17) Kq20) Kq23)) gb_26)
  have ne_b17_b_26 : b17 ≠ b_26 := Nat.ne_of_lt (Nat.lt_of_lt_of_le ((A17.keep Kq20).keep Kq23).lt gb_26)
  have ne_b_20_b_26 : b_20 ≠ b_26 := Nat.ne_of_lt (Nat.lt_of_lt_of_le (own_strLt (own_strKeep0 Fq20_0 Kq23)) gb_26)
  have ne_b_23_b_26 : b_23 ≠ b_26 := Nat.ne_of_lt (Nat.lt_of_lt_of_le (own_strLt Fq23_0) gb_26)
  have Z26 : n0 ≤ T26.heap.size := Nat.le_trans Z23 Kq26.1
  refine own_fw (A' := (T26.setTop (mkF m 102 #[.val (.int p1), .val (.int p2), .val (.int p3), .val (.int p4), .val (.int p5), .val (.int p6), .val (.int x2), .val (.int x3), .val (.ref b5), .unset, .unset] [(.ref b_26), (.ref b_23), (.ref b_20), (.ref b17), (.ref b17)]))) (fun t k => st26.trans k) ?_
  refine own_fw (A' := (T26.setTop (mkF m 104 #[.val (.int p1), .val (.int p2), .val (.int p3), .val (.int p4), .val (.int p5), .val (.int p6), .val (.int x2), .val (.int x3), .val (.ref b5), .unset, .unset] [(.int p5), (.ref b_26), (.ref b_23), (.ref b_20), (.ref b17), (.ref b17)]))) (fun t k => XS.iload X26.here hx rfl (hb hby at_102) rfl k) ?_
  refine own_fw (A' := (T26.setTop (mkF m 106 #[.val (.int p1), .val (.int p2), .val (.int p3), .val (.int p4), .val (.int p5), .val (.int p6), .val (.int x2), .val (.int x3), .val (.ref b5), .unset, .unset] [(.int p6), (.int p5), (.ref b_26), (.ref b_23), (.ref b_20), (.ref b17), (.ref b17)]))) (fun t k => XS.iload X26.here hx rfl (hb hby at_104) rfl k) ?_
  refine own_fw (A' := (T26.setTop (mkF m 107 #[.val (.int p1), .val (.int p2), .val (.int p3), .val (.int p4), .val (.int p5), .val (.int p6), .val (.int x2), .val (.int x3), .val (.ref b5), .unset, .unset] [(.int (p5 + p6)), (.ref b_26), (.ref b_23), (.ref b_20), (.ref b17), (.ref b17)]))) (fun t k => XS.iadd X26.here hx rfl (hb hby at_106) rfl k) ?_
  obtain ⟨_, _, ⟨T29, L29, k29, n29⟩, -, X29, hS29, gS29, ⟨Lc29, hQ29, l29, y29, z29, r29⟩, st29⟩ := callSS X26 hx (y := (⟨"com/example/kodnik/kodnik/store/MappingMapsAlikePinLaw", "str", "(I)Ljava/lang/String;"⟩ : MethodName)) hown (mvT hZ (hw _ (List.mem_of_getElem? (i := 3) rfl))) (mvT hZ (hw _ (List.mem_of_getElem? (i := 4) rfl))) (mvT hZ (hw _ (List.mem_of_getElem? (i := 5) rfl))) (mvT hZ (hw _ (List.mem_of_getElem? (i := 6) rfl))) (by decide) (backOfSH (W := 5) (rmStr l Z a0 hw [] (p5 + p6) cs T26.heap n0 Z26 (own_staKeep (own_staKeep (own_staKeep ((own_staKeep (own_staKeep (own_staKeep (own_staKeep (own_staKeep (P0.ext E5) Kq7 all0) Kq9 all0) Kq11 all0) Kq13 all0) Kq15 (allS (own_plainE ((((A5.keep Kq7).keep Kq9).keep Kq11).keep Kq13)) all0)).ext E17) Kq20 all0) Kq23 all0) Kq26 all0) hcs) hZ (hw _ (List.mem_of_getElem? (i := 6) rfl)) (hw _ (List.mem_of_getElem? (i := 5) rfl)) (by decide) (by decide) (own_EW hw) hH) (g := (mkF m 107 #[.val (.int p1), .val (.int p2), .val (.int p3), .val (.int p4), .val (.int p5), .val (.int p6), .val (.int x2), .val (.int x3), .val (.ref b5), .unset, .unset] [(.int (p5 + p6)), (.ref b_26), (.ref b_23), (.ref b_20), (.ref b17), (.ref b17)])) rfl (by rw [hml]; rfl) (argsL := [(.int (p5 + p6))]) (rest := [(.ref b_26), (.ref b_23), (.ref b_20), (.ref b17), (.ref b17)]) (lenOf pd__I_Ljava_lang_String_ rfl) rfl (by show 2 * 0 + _ ≤ _; exact Nat.le_of_eq rfl) (hb hby at_107) (fun _ _ => ⟨rfl, rfl, (by decide : 44 + 6 ≤ _), (by decide : 92 + 12 ≤ _)⟩)
  dsimp only [Pt.U, Pt.locs, Pt.cells, Pt.slots] at X29 l29 y29 z29 st29 hQ29 hS29 gS29 r29
  subst l29 y29 z29
  obtain ⟨X29, hS, hZ', hown⟩ := rebS hS hk X29 hS29 gS29 hZ hown
  have hk : T29.heap.size ≤ T29.heap.size := Nat.le_refl _
  obtain ⟨b_29, rfl, Nq29, Kq29, Fq29_0, gb_29⟩ := hQ29
  have Nf29 := Fr.app Nf26 Nq29
  have F30 : Safe Z own_EL _ T29.heap b5 := (CHr.safe r29 ((((Fq15_0.ext E17).keep Kq20).keep Kq23).keep Kq26).lt F27)
  have F31 : Safe Z own_EL _ T29.heap b17 := (CHr.safe r29 (((A17.keep Kq20).keep Kq23).keep Kq26).lt F28)
  have hC := hC.trans r29
  have hH := hC.1
  have hZ := hZ'
  have K29 : Keep h0 T29.heap [] := K26.trans Kq29 all0
  have sz_b_29 : h0.size ≤ b_29 := Nat.le_trans K26.1 gb_29
  have g_b_29 : n0 ≤ b_29 := Nat.le_trans Z26 gb_29
  have ne_b5_b_29 : b5 ≠ b_29 := Nat.ne_of_lt (Nat.lt_of_lt_of_le ((((Fq15_0.ext E17).keep Kq20).keep Kq23).keep Kq26).lt gb_29)
  have ne_b_7_b_29 : b_7 ≠ b_29 := Nat.ne_of_lt (Nat.lt_of_lt_of_le (own_strLt (own_strKeep0 (own_strKeep0 (own_strKeep0 (own_strExt (own_strKeep1 (own_strKeep0 (own_strKeep0 (own_strKeep0 Fq7_0 Kq9) Kq11) Kq13) Kq15 ((((A5.keep Kq7).keep Kq9).keep Kq11).keep Kq13) (by decide) (hw _ (List.mem_of_getElem? (i := 1) rfl))) E17) Kq20) Kq23) Kq26)) gb_29)
  have ne_b_9_b_29 : b_9 ≠ b_29 := Nat.ne_of_lt (Nat.lt_of_lt_of_le (own_strLt (own_strKeep0 (own_strKeep0 (own_strKeep0 (own_strExt (own_strKeep1 (own_strKeep0 (own_strKeep0 Fq9_0 Kq11) Kq13) Kq15 ((((A5.keep Kq7).keep Kq9).keep Kq11).keep Kq13) (by decide) (hw _ (List.mem_of_getElem? (i := 1) rfl))) E17) Kq20) Kq23) Kq26)) gb_29)
  have ne_b_11_b_29 : b_11 ≠ b_29 := Nat.ne_of_lt (Nat.lt_of_lt_of_le (own_strLt (own_strKeep0 (own_strKeep0 (own_strKeep0 (own_strExt (own_strKeep1 (own_strKeep0 Fq11_0 Kq13) Kq15 ((((A5.keep Kq7).keep Kq9).keep Kq11).keep Kq13) (by decide) (hw _ (List.mem_of_getElem? (i := 1) rfl))) E17) Kq20) Kq23) Kq26)) gb_29)
  have ne_b_13_b_29 : b_13 ≠ b_29 := Nat.ne_of_lt (Nat.lt_of_lt_of_le (own_strLt (own_strKeep0 (own_strKeep0 (own_strKeep0 (own_strExt (own_strKeep1 Fq13_0 Kq15 ((((A5.keep Kq7).keep Kq9).keep Kq11).keep Kq13) (by decide) (hw _ (List.mem_of_getElem? (i := 1) rfl))) E17) Kq20) Kq23) Kq26)) gb_29)
  have ne_b17_b_29 : b17 ≠ b_29 := Nat.ne_of_lt (Nat.lt_of_lt_of_le (((A17.keep Kq20).keep Kq23).keep Kq26).lt gb_29)
  have ne_b_20_b_29 : b_20 ≠ b_29 := Nat.ne_of_lt (Nat.lt_of_lt_of_le (own_strLt (own_strKeep0 (own_strKeep0 Fq20_0 Kq23) Kq26)) gb_29)
  have ne_b_23_b_29 : b_23 ≠ b_29 := Nat.ne_of_lt (Nat.lt_of_lt_of_le (own_strLt (own_strKeep0 Fq23_0 Kq26)) gb_29)
  have ne_b_26_b_29 : b_26 ≠ b_29 := Nat.ne_of_lt (Nat.lt_of_lt_of_le (own_strLt Fq26_0) gb_29)
  have Z29 : n0 ≤ T29.heap.size := Nat.le_trans Z26 Kq29.1
  refine own_fw (A' := (T29.setTop (mkF m 110 #[.val (.int p1), .val (.int p2), .val (.int p3), .val (.int p4), .val (.int p5), .val (.int p6), .val (.int x2), .val (.int x3), .val (.ref b5), .unset, .unset] [(.ref b_29), (.ref b_26), (.ref b_23), (.ref b_20), (.ref b17), (.ref b17)]))) (fun t k => st29.trans k) ?_
  obtain ⟨_, _, ⟨T32, L32, k32, n32⟩, -, X32, ⟨Lc32, hQ32, l32, y32, z32⟩, st32⟩ := X29.specialBack hx (y := (⟨"com/example/kodnik/kodnik/store/Mapping", "<init>", "(Ljava/lang/String;Ljava/lang/String;Ljava/lang/String;Ljava/lang/String;)V"⟩ : MethodName)) rfl hown (mvT hZ (hw _ (List.mem_of_getElem? (i := 33) rfl))) (mvT hZ (hw _ (List.mem_of_getElem? (i := 34) rfl))) (mvT hZ (hw _ (List.mem_of_getElem? (i := 35) rfl))) (by decide) (backOf (W := 1) (rmMap l Z a0 hw [] b17 b_20 b_23 b_26 b_29 T29.heap n0 Z29 ((((A17.keep Kq20).keep Kq23).keep Kq26).keep Kq29) ((((F_sourceSystem_b17.keep Kq20 nin0).keep Kq23 nin0).keep Kq26 nin0).keep Kq29 nin0) ((((F_sourceColumn_b17.keep Kq20 nin0).keep Kq23 nin0).keep Kq26 nin0).keep Kq29 nin0) ((((F_targetSystem_b17.keep Kq20 nin0).keep Kq23 nin0).keep Kq26 nin0).keep Kq29 nin0) ((((F_targetColumn_b17.keep Kq20 nin0).keep Kq23 nin0).keep Kq26 nin0).keep Kq29 nin0) g_b17) hZ (hw _ (List.mem_of_getElem? (i := 35) rfl)) (hw _ (List.mem_of_getElem? (i := 2) rfl)) (by decide) (by decide)) (g := (mkF m 110 #[.val (.int p1), .val (.int p2), .val (.int p3), .val (.int p4), .val (.int p5), .val (.int p6), .val (.int x2), .val (.int x3), .val (.ref b5), .unset, .unset] [(.ref b_29), (.ref b_26), (.ref b_23), (.ref b_20), (.ref b17), (.ref b17)])) rfl (by rw [hml]; rfl) (Steps.refl _) (a := b17) (argsL := [(.ref b_20), (.ref b_23), (.ref b_26), (.ref b_29)]) (rest := [(.ref b17)]) (lenOf pd__Ljava_lang_String_Ljava_lang_String_Ljava_lang_String_Ljava_lang_String__V rfl) rfl (by show 2 * 0 + _ ≤ _; exact Nat.le_of_eq rfl) (hb hby at_110) (fun _ _ => ⟨rfl, rfl, (by decide : 50 + 0 ≤ _), (by decide : 104 + 0 ≤ _)⟩)
  dsimp only [Pt.U, Pt.locs, Pt.cells, Pt.slots] at X32 l32 y32 z32 st32 hQ32
  subst l32 y32 z32
  obtain ⟨rfl, Nq32, Kq32, Fq32_0, Fq32_1, Fq32_2, Fq32_3, Fq32_4⟩ := hQ32
  have Nf32 := Fr.app Nf29 Nq32
  have hk := Nat.le_trans hk Kq32.1
  have F33 : Safe Z own_EL _ T32.heap b5 := (Safe.keep Kq32 (sfS F31 sf0) hH F30)
  have F34 : own_Str Z T32.heap b_7 ((own_chars p1)) := (own_strKeep1 (own_strKeep0 (own_strKeep0 (own_strKeep0 (own_strKeep0 (own_strExt (own_strKeep1 (own_strKeep0 (own_strKeep0 (own_strKeep0 Fq7_0 Kq9) Kq11) Kq13) Kq15 ((((A5.keep Kq7).keep Kq9).keep Kq11).keep Kq13) (by decide) (hw _ (List.mem_of_getElem? (i := 1) rfl))) E17) Kq20) Kq23) Kq26) Kq29) Kq32 ((((A17.keep Kq20).keep Kq23).keep Kq26).keep Kq29) (by decide) (hw _ (List.mem_of_getElem? (i := 1) rfl)))
  have F35 : Safe Z own_EL _ T32.heap b17 := (Safe.keep Kq32 (sfS F31 sf0) hH F31)
  have hC := hC.trans (CHr.keep Kq32 (sfS F31 sf0) hH)
  have hH := hC.1
  have K32 : Keep h0 T32.heap [] := K29.trans Kq32 (allS (Or.inr sz_b17) all0)
  have Z32 : n0 ≤ T32.heap.size := Nat.le_trans Z29 Kq32.1
  refine own_fw (A' := (T32.setTop (mkF m 113 #[.val (.int p1), .val (.int p2), .val (.int p3), .val (.int p4), .val (.int p5), .val (.int p6), .val (.int x2), .val (.int x3), .val (.ref b5), .unset, .unset] [(.ref b17)]))) (fun t k => st32.trans k) ?_
  refine own_fw (A' := (T32.setTop (mkF m 115 #[.val (.int p1), .val (.int p2), .val (.int p3), .val (.int p4), .val (.int p5), .val (.int p6), .val (.int x2), .val (.int x3), .val (.ref b5), .val (.ref b17), .unset] []))) (fun t k => XS.astore X32.here hx rfl (hb hby at_113) rfl rfl (l' := #[.val (.int p1), .val (.int p2), .val (.int p3), .val (.int p4), .val (.int p5), .val (.int p6), .val (.int x2), .val (.int x3), .val (.ref b5), .val (.ref b17), .unset]) rfl k) ?_
  refine own_fw (A' := (T32.setTop (mkF m 116 #[.val (.int p1), .val (.int p2), .val (.int p3), .val (.int p4), .val (.int p5), .val (.int p6), .val (.int x2), .val (.int x3), .val (.ref b5), .val (.ref b17), .unset] [(.int p1)]))) (fun t k => XS.iloadN X32.here hx rfl (hb hby at_115) rfl k) ?_
  refine own_fw (A' := (T32.setTop (mkF m 118 #[.val (.int p1), .val (.int p2), .val (.int p3), .val (.int p4), .val (.int p5), .val (.int p6), .val (.int x2), .val (.int x3), .val (.ref b5), .val (.ref b17), .unset] [(.int x2), (.int p1)]))) (fun t k => XS.iload X32.here hx rfl (hb hby at_116) rfl k) ?_
  obtain ⟨_, _, ⟨T36, L36, k36, n36⟩, -, X36, ⟨Lc36, hQ36, l36, y36, z36⟩, st36⟩ := Jvm.LawKit.callS X32 hx (y := (⟨"com/example/kodnik/kodnik/store/MappingMapsAlikePinLaw", "same", "(II)Z"⟩ : MethodName)) hown (mvT hZ (hw _ (List.mem_of_getElem? (i := 50) rfl))) (mvT hZ (hw _ (List.mem_of_getElem? (i := 51) rfl))) (mvT hZ (hw _ (List.mem_of_getElem? (i := 5) rfl))) (mvT hZ (hw _ (List.mem_of_getElem? (i := 52) rfl))) (by decide) (backOf (W := 0) (rmSame l Z a0 hw [] p1 x2 T32.heap n0 Z32 ) hZ (hw _ (List.mem_of_getElem? (i := 52) rfl)) (hw _ (List.mem_of_getElem? (i := 5) rfl)) (by decide) (by decide)) (g := (mkF m 118 #[.val (.int p1), .val (.int p2), .val (.int p3), .val (.int p4), .val (.int p5), .val (.int p6), .val (.int x2), .val (.int x3), .val (.ref b5), .val (.ref b17), .unset] [(.int x2), (.int p1)])) rfl (by rw [hml]; rfl) (argsL := [(.int p1), (.int x2)]) (rest := []) (lenOf pd__II_Z rfl) rfl (by show 2 * 0 + _ ≤ _; exact Nat.le_of_eq rfl) (hb hby at_118) (fun _ _ => ⟨rfl, rfl, (by decide : 50 + 0 ≤ _), (by decide : 104 + 0 ≤ _)⟩)
  dsimp only [Pt.U, Pt.locs, Pt.cells, Pt.slots] at X36 l36 y36 z36 st36 hQ36
  subst l36 y36 z36
  obtain ⟨rfl, Nq36, e36⟩ := hQ36
  have Nf36 := Fr.app Nf32 Nq36
  refine own_fw (A' := (T36.setTop (mkF m 121 #[.val (.int p1), .val (.int p2), .val (.int p3), .val (.int p4), .val (.int p5), .val (.int p6), .val (.int x2), .val (.int x3), .val (.ref b5), .val (.ref b17), .unset] [(.int (own_same p1 x2))]))) (fun t k => st36 _ k) ?_
  by_cases hc37 : (own_same p1 x2) = (0 : Int32)
  · refine own_fw (A' := (T36.setTop (mkF m 137 #[.val (.int p1), .val (.int p2), .val (.int p3), .val (.int p4), .val (.int p5), .val (.int p6), .val (.int x2), .val (.int x3), .val (.ref b5), .val (.ref b17), .unset] []))) (fun t k => XS.ifYes X36.here hx rfl (pc0 := 121) (pc' := 137) rfl (hb hby at_121) rfl (XT.i0_eq_t hc37) (by decide) (by decide) k) ?_
    refine own_fw (A' := (T36.setTop (mkF m 138 #[.val (.int p1), .val (.int p2), .val (.int p3), .val (.int p4), .val (.int p5), .val (.int p6), .val (.int x2), .val (.int x3), .val (.ref b5), .val (.ref b17), .unset] [(.int (0 : Int32))]))) (fun t k => XS.iconst X36.here hx rfl (hb hby at_137) k) ?_
    refine own_fw (A' := (T36.setTop (mkF m 140 #[.val (.int p1), .val (.int p2), .val (.int p3), .val (.int p4), .val (.int p5), .val (.int p6), .val (.int x2), .val (.int x3), .val (.ref b5), .val (.ref b17), .val (.int (0 : Int32))] []))) (fun t k => XS.istore X36.here hx rfl (hb hby at_138) rfl (l' := #[.val (.int p1), .val (.int p2), .val (.int p3), .val (.int p4), .val (.int p5), .val (.int p6), .val (.int x2), .val (.int x3), .val (.ref b5), .val (.ref b17), .val (.int (0 : Int32))]) rfl k) ?_
    refine own_fw (A' := (T36.setTop (mkF m 142 #[.val (.int p1), .val (.int p2), .val (.int p3), .val (.int p4), .val (.int p5), .val (.int p6), .val (.int x2), .val (.int x3), .val (.ref b5), .val (.ref b17), .val (.int (0 : Int32))] [(.ref b5)]))) (fun t k => XS.aload X36.here hx rfl (hb hby at_140) rfl rfl k) ?_
    refine own_fw (A' := (T36.setTop (mkF m 144 #[.val (.int p1), .val (.int p2), .val (.int p3), .val (.int p4), .val (.int p5), .val (.int p6), .val (.int x2), .val (.int x3), .val (.ref b5), .val (.ref b17), .val (.int (0 : Int32))] [(.ref b17), (.ref b5)]))) (fun t k => XS.aload X36.here hx rfl (hb hby at_142) rfl rfl k) ?_
    obtain ⟨cq38, kq38, qa38, qb38, qc38⟩ := isOf hZ e36 ((((((Fq15_0.ext E17).keep Kq20).keep Kq23).keep Kq26).keep Kq29).keep Kq32)
    obtain ⟨_, _, ⟨T38, L38, k38, n38⟩, -, X38, ⟨Lc38, hQ38, l38, y38, z38⟩, st38⟩ := X36.virtualBack hx (y := (⟨"com/example/kodnik/kodnik/store/Mapping", "mapsAlike", "(Lcom/example/kodnik/kodnik/store/Mapping;)Z"⟩ : MethodName)) (z := (⟨"com/example/kodnik/kodnik/store/Mapping", "mapsAlike", "(Lcom/example/kodnik/kodnik/store/Mapping;)Z"⟩ : MethodName)) hown (mvT hZ (hw _ (List.mem_of_getElem? (i := 53) rfl))) (mvT hZ (hw _ (List.mem_of_getElem? (i := 54) rfl))) (notFace_of_selects (args := #[]) (mvT hZ (hw _ (List.mem_of_getElem? (i := 56) rfl)))) (mvT hZ (hw _ (List.mem_of_getElem? (i := 56) rfl))) (mvT hZ (hw _ (List.mem_of_getElem? (i := 55) rfl))) (by decide) (backOf (W := 0) (rmAlike l Z a0 hw [] b5 b17 b_7 b_20 b_11 b_26 (own_chars p1) (own_chars x2) (own_chars p2) (own_chars x3) cs T32.heap n0 Z32 ((((((Fq15_1.ext E17).keep Kq20 nin0).keep Kq23 nin0).keep Kq26 nin0).keep Kq29 nin0).keep Kq32 (ninS ne_b5_b17 nin0)) Fq32_1 ((((((Fq15_3.ext E17).keep Kq20 nin0).keep Kq23 nin0).keep Kq26 nin0).keep Kq29 nin0).keep Kq32 (ninS ne_b5_b17 nin0)) Fq32_3 F34 (own_strKeep1 (own_strKeep0 (own_strKeep0 (own_strKeep0 Fq20_0 Kq23) Kq26) Kq29) Kq32 ((((A17.keep Kq20).keep Kq23).keep Kq26).keep Kq29) (by decide) (hw _ (List.mem_of_getElem? (i := 1) rfl))) (own_strKeep1 (own_strKeep0 (own_strKeep0 (own_strKeep0 (own_strKeep0 (own_strExt (own_strKeep1 (own_strKeep0 Fq11_0 Kq13) Kq15 ((((A5.keep Kq7).keep Kq9).keep Kq11).keep Kq13) (by decide) (hw _ (List.mem_of_getElem? (i := 1) rfl))) E17) Kq20) Kq23) Kq26) Kq29) Kq32 ((((A17.keep Kq20).keep Kq23).keep Kq26).keep Kq29) (by decide) (hw _ (List.mem_of_getElem? (i := 1) rfl))) (own_strKeep1 (own_strKeep0 Fq26_0 Kq29) Kq32 ((((A17.keep Kq20).keep Kq23).keep Kq26).keep Kq29) (by decide) (hw _ (List.mem_of_getElem? (i := 1) rfl))) ne_b_7_b_20 ne_b_11_b_26 (own_staKeep (own_staKeep (own_staKeep (own_staKeep (own_staKeep ((own_staKeep (own_staKeep (own_staKeep (own_staKeep (own_staKeep (P0.ext E5) Kq7 all0) Kq9 all0) Kq11 all0) Kq13 all0) Kq15 (allS (own_plainE ((((A5.keep Kq7).keep Kq9).keep Kq11).keep Kq13)) all0)).ext E17) Kq20 all0) Kq23 all0) Kq26 all0) Kq29 all0) Kq32 (allS (own_plainE ((((A17.keep Kq20).keep Kq23).keep Kq26).keep Kq29)) all0)) hcs (own_sm _) (own_sm _) (own_sm _) (own_sm _)) hZ (hw _ (List.mem_of_getElem? (i := 57) rfl)) (hw _ (List.mem_of_getElem? (i := 2) rfl)) (by decide) (by decide)) qa38 qc38 (g := (mkF m 144 #[.val (.int p1), .val (.int p2), .val (.int p3), .val (.int p4), .val (.int p5), .val (.int p6), .val (.int x2), .val (.int x3), .val (.ref b5), .val (.ref b17), .val (.int (0 : Int32))] [(.ref b17), (.ref b5)])) rfl (by rw [hml]; rfl) (Steps.refl _) (argsL := [(.ref b17)]) (rest := []) (lenOf pd__Lcom_example_kodnik_kodnik_store_Mapping__Z rfl) rfl (by show 2 * 0 + _ ≤ _; exact Nat.le_of_eq rfl) (hb hby at_144) (fun _ _ => ⟨rfl, e36, (by decide : 50 + 0 ≤ _), (by decide : 104 + 0 ≤ _)⟩)
    dsimp only [Pt.U, Pt.locs, Pt.cells, Pt.slots] at X38 l38 y38 z38 st38 hQ38
    subst l38 y38 z38
    obtain ⟨rfl, Nq38, e38⟩ := hQ38
    have Nf38 := Fr.app Nf36 Nq38
    refine own_fw (A' := (T38.setTop (mkF m 147 #[.val (.int p1), .val (.int p2), .val (.int p3), .val (.int p4), .val (.int p5), .val (.int p6), .val (.int x2), .val (.int x3), .val (.ref b5), .val (.ref b17), .val (.int (0 : Int32))] [(.int (own_ma (own_chars p1) (own_chars x2) (own_chars p2) (own_chars x3)))]))) (fun t k => st38.trans k) ?_
    refine own_fw (A' := (T38.setTop (mkF m 149 #[.val (.int p1), .val (.int p2), .val (.int p3), .val (.int p4), .val (.int p5), .val (.int p6), .val (.int x2), .val (.int x3), .val (.ref b5), .val (.ref b17), .val (.int (0 : Int32))] [(.int (0 : Int32)), (.int (own_ma (own_chars p1) (own_chars x2) (own_chars p2) (own_chars x3)))]))) (fun t k => XS.iload X38.here hx rfl (hb hby at_147) rfl k) ?_
    refine own_fw (A' := (T38.setTop (mkF m 152 #[.val (.int p1), .val (.int p2), .val (.int p3), .val (.int p4), .val (.int p5), .val (.int p6), .val (.int x2), .val (.int x3), .val (.ref b5), .val (.ref b17), .val (.int (0 : Int32))] []))) (fun t k => XS.icmpNo X38.here hx rfl (hb hby at_149) rfl (XT.ii_ne_f (own_fin1 _ _ _ _ hc37)) k) ?_
    refine own_fw (A' := (T38.setTop (mkF m 153 #[.val (.int p1), .val (.int p2), .val (.int p3), .val (.int p4), .val (.int p5), .val (.int p6), .val (.int x2), .val (.int x3), .val (.ref b5), .val (.ref b17), .val (.int (0 : Int32))] [(.int (1 : Int32))]))) (fun t k => XS.iconst X38.here hx rfl (hb hby at_152) k) ?_
    refine own_fw (A' := (T38.setTop (mkF m 157 #[.val (.int p1), .val (.int p2), .val (.int p3), .val (.int p4), .val (.int p5), .val (.int p6), .val (.int x2), .val (.int x3), .val (.ref b5), .val (.ref b17), .val (.int (0 : Int32))] [(.int (1 : Int32))]))) (fun t k => XS.goto X38.here hx rfl (pc0 := 153) (pc' := 157) rfl (hb hby at_153) (by decide) (by decide) k) ?_
    obtain ⟨fs, hr, hrun, hended, hWE⟩ := X38.leaveW hS (by rw [e38]; exact hk : _ ≤ T38.heap.size) (v := some (.int (1 : Int32))) (fun h => by rw [Bd.returns] at h; cases h)
    refine ⟨_, _, ?_, hrun, hended, _, _, rfl, ?_, own_widen hWE (by decide) (by decide)⟩
    · exact retOut X38 hx Bd.returns rfl (Or.inl ⟨rfl, by simp, _, rfl⟩) (hb hby at_157) hr
    · show Q_rm0 Z p1 p2 p3 p4 p5 p6 cs h0 n0 _ T38.heap _
      rw [e38]
      exact ⟨rfl, Nf38⟩
  · refine own_fw (A' := (T36.setTop (mkF m 124 #[.val (.int p1), .val (.int p2), .val (.int p3), .val (.int p4), .val (.int p5), .val (.int p6), .val (.int x2), .val (.int x3), .val (.ref b5), .val (.ref b17), .unset] []))) (fun t k => XS.ifNo X36.here hx rfl (hb hby at_121) rfl (XT.i0_eq_f hc37) k) ?_
    refine own_fw (A' := (T36.setTop (mkF m 125 #[.val (.int p1), .val (.int p2), .val (.int p3), .val (.int p4), .val (.int p5), .val (.int p6), .val (.int x2), .val (.int x3), .val (.ref b5), .val (.ref b17), .unset] [(.int p2)]))) (fun t k => XS.iloadN X36.here hx rfl (hb hby at_124) rfl k) ?_
    refine own_fw (A' := (T36.setTop (mkF m 127 #[.val (.int p1), .val (.int p2), .val (.int p3), .val (.int p4), .val (.int p5), .val (.int p6), .val (.int x2), .val (.int x3), .val (.ref b5), .val (.ref b17), .unset] [(.int x3), (.int p2)]))) (fun t k => XS.iload X36.here hx rfl (hb hby at_125) rfl k) ?_
    obtain ⟨_, _, ⟨T39, L39, k39, n39⟩, -, X39, ⟨Lc39, hQ39, l39, y39, z39⟩, st39⟩ := Jvm.LawKit.callS X36 hx (y := (⟨"com/example/kodnik/kodnik/store/MappingMapsAlikePinLaw", "same", "(II)Z"⟩ : MethodName)) hown (mvT hZ (hw _ (List.mem_of_getElem? (i := 50) rfl))) (mvT hZ (hw _ (List.mem_of_getElem? (i := 51) rfl))) (mvT hZ (hw _ (List.mem_of_getElem? (i := 5) rfl))) (mvT hZ (hw _ (List.mem_of_getElem? (i := 52) rfl))) (by decide) (backOf (W := 0) (rmSame l Z a0 hw [] p2 x3 T32.heap n0 Z32 ) hZ (hw _ (List.mem_of_getElem? (i := 52) rfl)) (hw _ (List.mem_of_getElem? (i := 5) rfl)) (by decide) (by decide)) (g := (mkF m 127 #[.val (.int p1), .val (.int p2), .val (.int p3), .val (.int p4), .val (.int p5), .val (.int p6), .val (.int x2), .val (.int x3), .val (.ref b5), .val (.ref b17), .unset] [(.int x3), (.int p2)])) rfl (by rw [hml]; rfl) (argsL := [(.int p2), (.int x3)]) (rest := []) (lenOf pd__II_Z rfl) rfl (by show 2 * 0 + _ ≤ _; exact Nat.le_of_eq rfl) (hb hby at_127) (fun _ _ => ⟨rfl, e36, (by decide : 50 + 0 ≤ _), (by decide : 104 + 0 ≤ _)⟩)
    dsimp only [Pt.U, Pt.locs, Pt.cells, Pt.slots] at X39 l39 y39 z39 st39 hQ39
    subst l39 y39 z39
    obtain ⟨rfl, Nq39, e39⟩ := hQ39
    have Nf39 := Fr.app Nf36 Nq39
    refine own_fw (A' := (T39.setTop (mkF m 130 #[.val (.int p1), .val (.int p2), .val (.int p3), .val (.int p4), .val (.int p5), .val (.int p6), .val (.int x2), .val (.int x3), .val (.ref b5), .val (.ref b17), .unset] [(.int (own_same p2 x3))]))) (fun t k => st39 _ k) ?_
    by_cases hc40 : (own_same p2 x3) = (0 : Int32)
    · refine own_fw (A' := (T39.setTop (mkF m 137 #[.val (.int p1), .val (.int p2), .val (.int p3), .val (.int p4), .val (.int p5), .val (.int p6), .val (.int x2), .val (.int x3), .val (.ref b5), .val (.ref b17), .unset] []))) (fun t k => XS.ifYes X39.here hx rfl (pc0 := 130) (pc' := 137) rfl (hb hby at_130) rfl (XT.i0_eq_t hc40) (by decide) (by decide) k) ?_
      refine own_fw (A' := (T39.setTop (mkF m 138 #[.val (.int p1), .val (.int p2), .val (.int p3), .val (.int p4), .val (.int p5), .val (.int p6), .val (.int x2), .val (.int x3), .val (.ref b5), .val (.ref b17), .unset] [(.int (0 : Int32))]))) (fun t k => XS.iconst X39.here hx rfl (hb hby at_137) k) ?_
      refine own_fw (A' := (T39.setTop (mkF m 140 #[.val (.int p1), .val (.int p2), .val (.int p3), .val (.int p4), .val (.int p5), .val (.int p6), .val (.int x2), .val (.int x3), .val (.ref b5), .val (.ref b17), .val (.int (0 : Int32))] []))) (fun t k => XS.istore X39.here hx rfl (hb hby at_138) rfl (l' := #[.val (.int p1), .val (.int p2), .val (.int p3), .val (.int p4), .val (.int p5), .val (.int p6), .val (.int x2), .val (.int x3), .val (.ref b5), .val (.ref b17), .val (.int (0 : Int32))]) rfl k) ?_
      refine own_fw (A' := (T39.setTop (mkF m 142 #[.val (.int p1), .val (.int p2), .val (.int p3), .val (.int p4), .val (.int p5), .val (.int p6), .val (.int x2), .val (.int x3), .val (.ref b5), .val (.ref b17), .val (.int (0 : Int32))] [(.ref b5)]))) (fun t k => XS.aload X39.here hx rfl (hb hby at_140) rfl rfl k) ?_
      refine own_fw (A' := (T39.setTop (mkF m 144 #[.val (.int p1), .val (.int p2), .val (.int p3), .val (.int p4), .val (.int p5), .val (.int p6), .val (.int x2), .val (.int x3), .val (.ref b5), .val (.ref b17), .val (.int (0 : Int32))] [(.ref b17), (.ref b5)]))) (fun t k => XS.aload X39.here hx rfl (hb hby at_142) rfl rfl k) ?_
      obtain ⟨cq41, kq41, qa41, qb41, qc41⟩ := isOf hZ e39 ((((((Fq15_0.ext E17).keep Kq20).keep Kq23).keep Kq26).keep Kq29).keep Kq32)
      obtain ⟨_, _, ⟨T41, L41, k41, n41⟩, -, X41, ⟨Lc41, hQ41, l41, y41, z41⟩, st41⟩ := X39.virtualBack hx (y := (⟨"com/example/kodnik/kodnik/store/Mapping", "mapsAlike", "(Lcom/example/kodnik/kodnik/store/Mapping;)Z"⟩ : MethodName)) (z := (⟨"com/example/kodnik/kodnik/store/Mapping", "mapsAlike", "(Lcom/example/kodnik/kodnik/store/Mapping;)Z"⟩ : MethodName)) hown (mvT hZ (hw _ (List.mem_of_getElem? (i := 53) rfl))) (mvT hZ (hw _ (List.mem_of_getElem? (i := 54) rfl))) (notFace_of_selects (args := #[]) (mvT hZ (hw _ (List.mem_of_getElem? (i := 56) rfl)))) (mvT hZ (hw _ (List.mem_of_getElem? (i := 56) rfl))) (mvT hZ (hw _ (List.mem_of_getElem? (i := 55) rfl))) (by decide) (backOf (W := 0) (rmAlike l Z a0 hw [] b5 b17 b_7 b_20 b_11 b_26 (own_chars p1) (own_chars x2) (own_chars p2) (own_chars x3) cs T32.heap n0 Z32 ((((((Fq15_1.ext E17).keep Kq20 nin0).keep Kq23 nin0).keep Kq26 nin0).keep Kq29 nin0).keep Kq32 (ninS ne_b5_b17 nin0)) Fq32_1 ((((((Fq15_3.ext E17).keep Kq20 nin0).keep Kq23 nin0).keep Kq26 nin0).keep Kq29 nin0).keep Kq32 (ninS ne_b5_b17 nin0)) Fq32_3 F34 (own_strKeep1 (own_strKeep0 (own_strKeep0 (own_strKeep0 Fq20_0 Kq23) Kq26) Kq29) Kq32 ((((A17.keep Kq20).keep Kq23).keep Kq26).keep Kq29) (by decide) (hw _ (List.mem_of_getElem? (i := 1) rfl))) (own_strKeep1 (own_strKeep0 (own_strKeep0 (own_strKeep0 (own_strKeep0 (own_strExt (own_strKeep1 (own_strKeep0 Fq11_0 Kq13) Kq15 ((((A5.keep Kq7).keep Kq9).keep Kq11).keep Kq13) (by decide) (hw _ (List.mem_of_getElem? (i := 1) rfl))) E17) Kq20) Kq23) Kq26) Kq29) Kq32 ((((A17.keep Kq20).keep Kq23).keep Kq26).keep Kq29) (by decide) (hw _ (List.mem_of_getElem? (i := 1) rfl))) (own_strKeep1 (own_strKeep0 Fq26_0 Kq29) Kq32 ((((A17.keep Kq20).keep Kq23).keep Kq26).keep Kq29) (by decide) (hw _ (List.mem_of_getElem? (i := 1) rfl))) ne_b_7_b_20 ne_b_11_b_26 (own_staKeep (own_staKeep (own_staKeep (own_staKeep (own_staKeep ((own_staKeep (own_staKeep (own_staKeep (own_staKeep (own_staKeep (P0.ext E5) Kq7 all0) Kq9 all0) Kq11 all0) Kq13 all0) Kq15 (allS (own_plainE ((((A5.keep Kq7).keep Kq9).keep Kq11).keep Kq13)) all0)).ext E17) Kq20 all0) Kq23 all0) Kq26 all0) Kq29 all0) Kq32 (allS (own_plainE ((((A17.keep Kq20).keep Kq23).keep Kq26).keep Kq29)) all0)) hcs (own_sm _) (own_sm _) (own_sm _) (own_sm _)) hZ (hw _ (List.mem_of_getElem? (i := 57) rfl)) (hw _ (List.mem_of_getElem? (i := 2) rfl)) (by decide) (by decide)) qa41 qc41 (g := (mkF m 144 #[.val (.int p1), .val (.int p2), .val (.int p3), .val (.int p4), .val (.int p5), .val (.int p6), .val (.int x2), .val (.int x3), .val (.ref b5), .val (.ref b17), .val (.int (0 : Int32))] [(.ref b17), (.ref b5)])) rfl (by rw [hml]; rfl) (Steps.refl _) (argsL := [(.ref b17)]) (rest := []) (lenOf pd__Lcom_example_kodnik_kodnik_store_Mapping__Z rfl) rfl (by show 2 * 0 + _ ≤ _; exact Nat.le_of_eq rfl) (hb hby at_144) (fun _ _ => ⟨rfl, e39, (by decide : 50 + 0 ≤ _), (by decide : 104 + 0 ≤ _)⟩)
      dsimp only [Pt.U, Pt.locs, Pt.cells, Pt.slots] at X41 l41 y41 z41 st41 hQ41
      subst l41 y41 z41
      obtain ⟨rfl, Nq41, e41⟩ := hQ41
      have Nf41 := Fr.app Nf39 Nq41
      refine own_fw (A' := (T41.setTop (mkF m 147 #[.val (.int p1), .val (.int p2), .val (.int p3), .val (.int p4), .val (.int p5), .val (.int p6), .val (.int x2), .val (.int x3), .val (.ref b5), .val (.ref b17), .val (.int (0 : Int32))] [(.int (own_ma (own_chars p1) (own_chars x2) (own_chars p2) (own_chars x3)))]))) (fun t k => st41.trans k) ?_
      refine own_fw (A' := (T41.setTop (mkF m 149 #[.val (.int p1), .val (.int p2), .val (.int p3), .val (.int p4), .val (.int p5), .val (.int p6), .val (.int x2), .val (.int x3), .val (.ref b5), .val (.ref b17), .val (.int (0 : Int32))] [(.int (0 : Int32)), (.int (own_ma (own_chars p1) (own_chars x2) (own_chars p2) (own_chars x3)))]))) (fun t k => XS.iload X41.here hx rfl (hb hby at_147) rfl k) ?_
      refine own_fw (A' := (T41.setTop (mkF m 152 #[.val (.int p1), .val (.int p2), .val (.int p3), .val (.int p4), .val (.int p5), .val (.int p6), .val (.int x2), .val (.int x3), .val (.ref b5), .val (.ref b17), .val (.int (0 : Int32))] []))) (fun t k => XS.icmpNo X41.here hx rfl (hb hby at_149) rfl (XT.ii_ne_f (own_fin2 _ _ _ _ hc37 hc40)) k) ?_
      refine own_fw (A' := (T41.setTop (mkF m 153 #[.val (.int p1), .val (.int p2), .val (.int p3), .val (.int p4), .val (.int p5), .val (.int p6), .val (.int x2), .val (.int x3), .val (.ref b5), .val (.ref b17), .val (.int (0 : Int32))] [(.int (1 : Int32))]))) (fun t k => XS.iconst X41.here hx rfl (hb hby at_152) k) ?_
      refine own_fw (A' := (T41.setTop (mkF m 157 #[.val (.int p1), .val (.int p2), .val (.int p3), .val (.int p4), .val (.int p5), .val (.int p6), .val (.int x2), .val (.int x3), .val (.ref b5), .val (.ref b17), .val (.int (0 : Int32))] [(.int (1 : Int32))]))) (fun t k => XS.goto X41.here hx rfl (pc0 := 153) (pc' := 157) rfl (hb hby at_153) (by decide) (by decide) k) ?_
      obtain ⟨fs, hr, hrun, hended, hWE⟩ := X41.leaveW hS (by rw [e41]; exact hk : _ ≤ T41.heap.size) (v := some (.int (1 : Int32))) (fun h => by rw [Bd.returns] at h; cases h)
      refine ⟨_, _, ?_, hrun, hended, _, _, rfl, ?_, own_widen hWE (by decide) (by decide)⟩
      · exact retOut X41 hx Bd.returns rfl (Or.inl ⟨rfl, by simp, _, rfl⟩) (hb hby at_157) hr
      · show Q_rm0 Z p1 p2 p3 p4 p5 p6 cs h0 n0 _ T41.heap _
        rw [e41]
        exact ⟨rfl, Nf41⟩
    · refine own_fw (A' := (T39.setTop (mkF m 133 #[.val (.int p1), .val (.int p2), .val (.int p3), .val (.int p4), .val (.int p5), .val (.int p6), .val (.int x2), .val (.int x3), .val (.ref b5), .val (.ref b17), .unset] []))) (fun t k => XS.ifNo X39.here hx rfl (hb hby at_130) rfl (XT.i0_eq_f hc40) k) ?_
      refine own_fw (A' := (T39.setTop (mkF m 134 #[.val (.int p1), .val (.int p2), .val (.int p3), .val (.int p4), .val (.int p5), .val (.int p6), .val (.int x2), .val (.int x3), .val (.ref b5), .val (.ref b17), .unset] [(.int (1 : Int32))]))) (fun t k => XS.iconst X39.here hx rfl (hb hby at_133) k) ?_
      refine own_fw (A' := (T39.setTop (mkF m 138 #[.val (.int p1), .val (.int p2), .val (.int p3), .val (.int p4), .val (.int p5), .val (.int p6), .val (.int x2), .val (.int x3), .val (.ref b5), .val (.ref b17), .unset] [(.int (1 : Int32))]))) (fun t k => XS.goto X39.here hx rfl (pc0 := 134) (pc' := 138) rfl (hb hby at_134) (by decide) (by decide) k) ?_
      refine own_fw (A' := (T39.setTop (mkF m 140 #[.val (.int p1), .val (.int p2), .val (.int p3), .val (.int p4), .val (.int p5), .val (.int p6), .val (.int x2), .val (.int x3), .val (.ref b5), .val (.ref b17), .val (.int (1 : Int32))] []))) (fun t k => XS.istore X39.here hx rfl (hb hby at_138) rfl (l' := #[.val (.int p1), .val (.int p2), .val (.int p3), .val (.int p4), .val (.int p5), .val (.int p6), .val (.int x2), .val (.int x3), .val (.ref b5), .val (.ref b17), .val (.int (1 : Int32))]) rfl k) ?_
      refine own_fw (A' := (T39.setTop (mkF m 142 #[.val (.int p1), .val (.int p2), .val (.int p3), .val (.int p4), .val (.int p5), .val (.int p6), .val (.int x2), .val (.int x3), .val (.ref b5), .val (.ref b17), .val (.int (1 : Int32))] [(.ref b5)]))) (fun t k => XS.aload X39.here hx rfl (hb hby at_140) rfl rfl k) ?_
      refine own_fw (A' := (T39.setTop (mkF m 144 #[.val (.int p1), .val (.int p2), .val (.int p3), .val (.int p4), .val (.int p5), .val (.int p6), .val (.int x2), .val (.int x3), .val (.ref b5), .val (.ref b17), .val (.int (1 : Int32))] [(.ref b17), (.ref b5)]))) (fun t k => XS.aload X39.here hx rfl (hb hby at_142) rfl rfl k) ?_
      obtain ⟨cq42, kq42, qa42, qb42, qc42⟩ := isOf hZ e39 ((((((Fq15_0.ext E17).keep Kq20).keep Kq23).keep Kq26).keep Kq29).keep Kq32)
      obtain ⟨_, _, ⟨T42, L42, k42, n42⟩, -, X42, ⟨Lc42, hQ42, l42, y42, z42⟩, st42⟩ := X39.virtualBack hx (y := (⟨"com/example/kodnik/kodnik/store/Mapping", "mapsAlike", "(Lcom/example/kodnik/kodnik/store/Mapping;)Z"⟩ : MethodName)) (z := (⟨"com/example/kodnik/kodnik/store/Mapping", "mapsAlike", "(Lcom/example/kodnik/kodnik/store/Mapping;)Z"⟩ : MethodName)) hown (mvT hZ (hw _ (List.mem_of_getElem? (i := 53) rfl))) (mvT hZ (hw _ (List.mem_of_getElem? (i := 54) rfl))) (notFace_of_selects (args := #[]) (mvT hZ (hw _ (List.mem_of_getElem? (i := 56) rfl)))) (mvT hZ (hw _ (List.mem_of_getElem? (i := 56) rfl))) (mvT hZ (hw _ (List.mem_of_getElem? (i := 55) rfl))) (by decide) (backOf (W := 0) (rmAlike l Z a0 hw [] b5 b17 b_7 b_20 b_11 b_26 (own_chars p1) (own_chars x2) (own_chars p2) (own_chars x3) cs T32.heap n0 Z32 ((((((Fq15_1.ext E17).keep Kq20 nin0).keep Kq23 nin0).keep Kq26 nin0).keep Kq29 nin0).keep Kq32 (ninS ne_b5_b17 nin0)) Fq32_1 ((((((Fq15_3.ext E17).keep Kq20 nin0).keep Kq23 nin0).keep Kq26 nin0).keep Kq29 nin0).keep Kq32 (ninS ne_b5_b17 nin0)) Fq32_3 F34 (own_strKeep1 (own_strKeep0 (own_strKeep0 (own_strKeep0 Fq20_0 Kq23) Kq26) Kq29) Kq32 ((((A17.keep Kq20).keep Kq23).keep Kq26).keep Kq29) (by decide) (hw _ (List.mem_of_getElem? (i := 1) rfl))) (own_strKeep1 (own_strKeep0 (own_strKeep0 (own_strKeep0 (own_strKeep0 (own_strExt (own_strKeep1 (own_strKeep0 Fq11_0 Kq13) Kq15 ((((A5.keep Kq7).keep Kq9).keep Kq11).keep Kq13) (by decide) (hw _ (List.mem_of_getElem? (i := 1) rfl))) E17) Kq20) Kq23) Kq26) Kq29) Kq32 ((((A17.keep Kq20).keep Kq23).keep Kq26).keep Kq29) (by decide) (hw _ (List.mem_of_getElem? (i := 1) rfl))) (own_strKeep1 (own_strKeep0 Fq26_0 Kq29) Kq32 ((((A17.keep Kq20).keep Kq23).keep Kq26).keep Kq29) (by decide) (hw _ (List.mem_of_getElem? (i := 1) rfl))) ne_b_7_b_20 ne_b_11_b_26 (own_staKeep (own_staKeep (own_staKeep (own_staKeep (own_staKeep ((own_staKeep (own_staKeep (own_staKeep (own_staKeep (own_staKeep (P0.ext E5) Kq7 all0) Kq9 all0) Kq11 all0) Kq13 all0) Kq15 (allS (own_plainE ((((A5.keep Kq7).keep Kq9).keep Kq11).keep Kq13)) all0)).ext E17) Kq20 all0) Kq23 all0) Kq26 all0) Kq29 all0) Kq32 (allS (own_plainE ((((A17.keep Kq20).keep Kq23).keep Kq26).keep Kq29)) all0)) hcs (own_sm _) (own_sm _) (own_sm _) (own_sm _)) hZ (hw _ (List.mem_of_getElem? (i := 57) rfl)) (hw _ (List.mem_of_getElem? (i := 2) rfl)) (by decide) (by decide)) qa42 qc42 (g := (mkF m 144 #[.val (.int p1), .val (.int p2), .val (.int p3), .val (.int p4), .val (.int p5), .val (.int p6), .val (.int x2), .val (.int x3), .val (.ref b5), .val (.ref b17), .val (.int (1 : Int32))] [(.ref b17), (.ref b5)])) rfl (by rw [hml]; rfl) (Steps.refl _) (argsL := [(.ref b17)]) (rest := []) (lenOf pd__Lcom_example_kodnik_kodnik_store_Mapping__Z rfl) rfl (by show 2 * 0 + _ ≤ _; exact Nat.le_of_eq rfl) (hb hby at_144) (fun _ _ => ⟨rfl, e39, (by decide : 50 + 0 ≤ _), (by decide : 104 + 0 ≤ _)⟩)
      dsimp only [Pt.U, Pt.locs, Pt.cells, Pt.slots] at X42 l42 y42 z42 st42 hQ42
      subst l42 y42 z42
      obtain ⟨rfl, Nq42, e42⟩ := hQ42
      have Nf42 := Fr.app Nf39 Nq42
      refine own_fw (A' := (T42.setTop (mkF m 147 #[.val (.int p1), .val (.int p2), .val (.int p3), .val (.int p4), .val (.int p5), .val (.int p6), .val (.int x2), .val (.int x3), .val (.ref b5), .val (.ref b17), .val (.int (1 : Int32))] [(.int (own_ma (own_chars p1) (own_chars x2) (own_chars p2) (own_chars x3)))]))) (fun t k => st42.trans k) ?_
      refine own_fw (A' := (T42.setTop (mkF m 149 #[.val (.int p1), .val (.int p2), .val (.int p3), .val (.int p4), .val (.int p5), .val (.int p6), .val (.int x2), .val (.int x3), .val (.ref b5), .val (.ref b17), .val (.int (1 : Int32))] [(.int (1 : Int32)), (.int (own_ma (own_chars p1) (own_chars x2) (own_chars p2) (own_chars x3)))]))) (fun t k => XS.iload X42.here hx rfl (hb hby at_147) rfl k) ?_
      refine own_fw (A' := (T42.setTop (mkF m 152 #[.val (.int p1), .val (.int p2), .val (.int p3), .val (.int p4), .val (.int p5), .val (.int p6), .val (.int x2), .val (.int x3), .val (.ref b5), .val (.ref b17), .val (.int (1 : Int32))] []))) (fun t k => XS.icmpNo X42.here hx rfl (hb hby at_149) rfl (XT.ii_ne_f (own_fin3 _ _ _ _ hc37 hc40)) k) ?_
      refine own_fw (A' := (T42.setTop (mkF m 153 #[.val (.int p1), .val (.int p2), .val (.int p3), .val (.int p4), .val (.int p5), .val (.int p6), .val (.int x2), .val (.int x3), .val (.ref b5), .val (.ref b17), .val (.int (1 : Int32))] [(.int (1 : Int32))]))) (fun t k => XS.iconst X42.here hx rfl (hb hby at_152) k) ?_
      refine own_fw (A' := (T42.setTop (mkF m 157 #[.val (.int p1), .val (.int p2), .val (.int p3), .val (.int p4), .val (.int p5), .val (.int p6), .val (.int x2), .val (.int x3), .val (.ref b5), .val (.ref b17), .val (.int (1 : Int32))] [(.int (1 : Int32))]))) (fun t k => XS.goto X42.here hx rfl (pc0 := 153) (pc' := 157) rfl (hb hby at_153) (by decide) (by decide) k) ?_
      obtain ⟨fs, hr, hrun, hended, hWE⟩ := X42.leaveW hS (by rw [e42]; exact hk : _ ≤ T42.heap.size) (v := some (.int (1 : Int32))) (fun h => by rw [Bd.returns] at h; cases h)
      refine ⟨_, _, ?_, hrun, hended, _, _, rfl, ?_, own_widen hWE (by decide) (by decide)⟩
      · exact retOut X42 hx Bd.returns rfl (Or.inl ⟨rfl, by simp, _, rfl⟩) (hb hby at_157) hr
      · show Q_rm0 Z p1 p2 p3 p4 p5 p6 cs h0 n0 _ T42.heap _
        rw [e42]
        exact ⟨rfl, Nf42⟩
set_option maxRecDepth 65536 in
set_option maxHeartbeats 40000000 in
theorem comes_1 {Post : Tables → Env → Array Value → State → Outcome → State → Prop} (hpost : ∀ tb e args s v u, (limb_1_1.after args s (.returned v) u = true ∧ limb_1_2.after args s (.returned v) u = true ∧ True) → ReturnedEndW s (.returned v) u (Jvm.fieldLocs frame_1_writes args s ++ Jvm.arrayLocs frame_1_arrays args s ++ Jvm.staticLocs frame_1_statics s) 64 1280 → Post tb e args s (.returned v) u) :
    ArmFor flags0 classFile x code maxLocals ret World_1 tables_1 room_1 Calls_1 rest_1 Pre_1 Post := by
  intro l hfl _ _ p e ha hc hk s m args below hf hA hF happ hP
  obtain ⟨hcalls, hrest, hpre⟩ := hP
  obtain ⟨-, -, -, hnamed, -, -, -, hat⟩ := (Spec.applies_iff hf).mp happ
  obtain ⟨hg, hn⟩ := and_e (Cond.before_iff.mp (show (Jvm.Cond.and given_1 narrow_1).before args s = true from hpre))
  obtain ⟨hcount, hg0⟩ := and_e hg
  obtain ⟨hv0, hg1⟩ := and_e hg0
  obtain ⟨hv1, hg2⟩ := and_e hg1
  obtain ⟨hv2, hg3⟩ := and_e hg2
  obtain ⟨hv3, hg4⟩ := and_e hg3
  obtain ⟨hv4, hg5⟩ := and_e hg4
  have hv5 := hg5
  obtain ⟨w0, w1, w2, w3, w4, w5, rfl⟩ : ∃ w0 w1 w2 w3 w4 w5 : Value, args = #[w0, w1, w2, w3, w4, w5] := by
    have hs : args.size = 6 := by simpa [Cond.value, given_1] using hcount
    obtain ⟨L⟩ := args
    match L, hs with
    | [w0, w1, w2, w3, w4, w5], _ => exact ⟨w0, w1, w2, w3, w4, w5, rfl⟩
  have hw := fun d (hd : d ∈ tables_1) => atoms_spec (ws := Jvm.Cond.code x code maxLocals ret :: tables_1) hat d (List.mem_cons_of_mem _ hd)
  have hfit : Fit s := fun {y c} hc i hi => by
    obtain ⟨ha, rfl⟩ := Array.getElem?_eq_some_iff.mp hc
    have q := List.all_eq_true.mp ((Array.all_eq_true_iff_forall_mem.mp hF) _ (Array.getElem_mem ha)) i (List.mem_range.mpr hi)
    simpa [Array.getElem?_eq_getElem hi] using q
  obtain ⟨hsets, hown0⟩ := atoms_of _ (rest_1_c_eq ▸ (show rest_1_c.before _ s = true from hrest))
  obtain ⟨i0, ei0⟩ := is_v hv0
  obtain rfl : w0 = (.int i0) := Option.some.inj ei0
  obtain ⟨i1, ei1⟩ := is_v hv1
  obtain rfl : w1 = (.int i1) := Option.some.inj ei1
  obtain ⟨i2, ei2⟩ := is_v hv2
  obtain rfl : w2 = (.int i2) := Option.some.inj ei2
  obtain ⟨i3, ei3⟩ := is_v hv3
  obtain rfl : w3 = (.int i3) := Option.some.inj ei3
  obtain ⟨i4, ei4⟩ := is_v hv4
  obtain rfl : w4 = (.int i4) := Option.some.inj ei4
  obtain ⟨i5, ei5⟩ := is_v hv5
  obtain rfl : w5 = (.int i5) := Option.some.inj ei5
  obtain ⟨cs, ev_cs⟩ := is_v (Cond.before_iff.mp (hsets _ (List.mem_of_getElem? (i := 1) rfl)))
  have S_cs := Sta.start ev_cs (Or.inl (hsets _ (List.mem_of_getElem? (i := 0) rfl)))
  have h_cs := own_nz ev_cs (Cond.before_iff.mp (hsets _ (List.mem_of_getElem? (i := 2) rfl)))
  have hCHv : CHv s own_EL s.vm s.heap := CHv.start (own_EW hw) (fun p hp => hcalls.1 p hp) (hsets _ (List.mem_of_getElem? (i := 2) rfl)) (hw _ (List.mem_of_getElem? (i := 26) rfl)) (hw _ (List.mem_of_getElem? (i := 12) rfl))
  obtain ⟨n, o, h1, h2, h3, _, L, rfl, ⟨rfl, N⟩, hq⟩ := rm0 l s _ hw tables_1 i0 i1 i2 i3 i4 i5 cs s.heap s.heap.size (Nat.le_refl _) S_cs h_cs p e ha hc hk s m _ below hf ((Spec.applies_iff_loose hf).mp happ).1 ⟨rfl, State.Warmed39.refl s, rfl, hCHv⟩ trivial
  refine ⟨n, _, h1, h2, h3, hpost _ _ _ _ _ _ ⟨Cond.after_iff.mpr rfl, Cond.after_iff.mpr (eq_i res_at (Term.int_eval (1)) rfl), trivial⟩ ⟨hq.1, hq.2.1, hq.2.2.1, (hq.2.2.2.sift fun y hy => Or.inr (N y hy)).mono (by decide) (by decide)⟩⟩
theorem main_1_1 : Claimed_1_1 := comes_1 fun _ _ _ _ _ _ h hF => ⟨h.1, hF⟩
theorem main_1_2 : Claimed_1_2 := comes_1 fun _ _ _ _ _ _ h hF => ⟨h.2.1, hF⟩
end Jvm.Pilot.@@N@@
namespace Jvm.Pilot.@@N@@
open Jvm Jvm.ClassFile Sem Op Lib Jvm.Free Jvm.Stand Jvm.Pilot.@@N@@.Jvm.D
/-! MADE BY PROGRAM (witnessworld.py) out of the Statement's table words and the real class files: 21 classes; the members and pool entries that the words name. The judged class is class 1, her method 4. -/
namespace start1
open Jvm.ClassFile
def u (s : String) : CpInfo := .utf8 (stringToUtf16 s)
/-- a pool by its gaps: so many unusable entries, then the entry; so many at the end -/
def gap : Nat → List CpInfo → List CpInfo
  | 0, r => r
  | n + 1, r => .unusable :: gap n r
def poolList (es : List (Nat × CpInfo)) (last : Nat) : List CpInfo := es.foldr (fun e r => gap e.1 (e.2 :: r)) (gap last [])
def pool (es : List (Nat × CpInfo)) (last : Nat) : Array CpInfo := ⟨poolList es last⟩
def fileOf (pool : Array CpInfo) (this : Nat) (attrs : Array Attribute := #[]) (ms : Array MethodInfo := #[]) (fl : Nat := 33) (sup : Nat := 0) (ifs : Array Nat := #[]) (fds : Array FieldInfo := #[]) : ClassFile where
  minorVersion := 0
  majorVersion := 65
  constantPool := pool
  accessFlags := fl
  thisClass := this
  superClass := sup
  interfaces := ifs
  fields := fds
  methods := ms
  attributes := attrs
def plain (name : String) (sup : Option ClassId) : Class where
  name := name
  kind := .ordinary
  loader := none
  accessFlags := 33
  super := sup
  interfaces := #[]
  cf := none
  fields := #[]
  methods := #[]
  instanceTypes := #[]
  staticTypes := #[]
  resolved := #[]
  callSites := []
  init := .initialized
  statics := none
  mirror := none

def pool0 : Array CpInfo := pool [(5, u "<init>"), (0, u "()V"), (1, .class_ 10), (1, u "java/lang/Object")] 113

def k0c0 : Code := { maxStack := 0, maxLocals := 1, code := object_method_1_code, exceptionTable := #[], attributes := #[] }
def k0m0 : Method := { name := "<init>", desc := "()V", sig := { parameters := [], returnType := none }, accessFlags := 1, code := some k0c0 }
/-- java/lang/Object -/
def k0 : Class := { plain "java/lang/Object" none with
  accessFlags := 33
  interfaces := #[]
  cf := some (fileOf pool0 8 #[] #[{ accessFlags := 1, nameIndex := 5, descriptorIndex := 6, attributes := #[] }] 33 0 #[] #[])
  fields := #[]
  methods := #[k0m0]
  instanceTypes := #[]
  staticTypes := #[]
  resolved := Array.replicate 124 none
  statics := none }

def pool1 : Array CpInfo := pool [(2, .class_ 4), (1, u "java/lang/Object"), (0, u "<init>"), (0, u "()V"), (0, .integer 65535), (0, .methodref 9 10), (0, .class_ 11), (0, .nameAndType 12 13), (0, u "com/example/kodnik/kodnik/store/MappingMapsAlikePinLaw"), (0, u "len"), (0, u "(I)I"), (0, .class_ 15), (0, u "java/lang/String"), (0, .methodref 14 17), (0, .nameAndType 5 18), (0, u "([C)V"), (0, .class_ 20), (0, u "com/example/kodnik/kodnik/store/Mapping"), (0, .methodref 9 22), (0, .nameAndType 23 24), (0, u "str"), (0, u "(I)Ljava/lang/String;"), (0, .methodref 19 26), (0, .nameAndType 5 27), (0, u "(Ljava/lang/String;Ljava/lang/String;Ljava/lang/String;Ljava/lang/String;)V"), (0, .methodref 9 29), (0, .nameAndType 30 31), (0, u "same"), (0, u "(II)Z"), (0, .methodref 19 33), (0, .nameAndType 34 35), (0, u "mapsAlike"), (0, u "(Lcom/example/kodnik/kodnik/store/Mapping;)Z"), (3, u "law"), (0, u "(IIIIII)Z")] 2

def k1m0 : Method := { name := "<init>", desc := "()V", sig := { parameters := [], returnType := none }, accessFlags := 1, code := none }
def k1c1 : Code := { maxStack := 2, maxLocals := 1, code := method_2_code, exceptionTable := #[], attributes := #[] }
def k1m1 : Method := { name := "len", desc := "(I)I", sig := { parameters := [.int], returnType := some .int }, accessFlags := 10, code := some k1c1 }
def k1c2 : Code := { maxStack := 6, maxLocals := 4, code := method_3_code, exceptionTable := #[], attributes := #[] }
def k1m2 : Method := { name := "str", desc := "(I)Ljava/lang/String;", sig := { parameters := [.int], returnType := some (.object "java/lang/String") }, accessFlags := 10, code := some k1c2 }
def k1c3 : Code := { maxStack := 3, maxLocals := 4, code := method_4_code, exceptionTable := #[], attributes := #[] }
def k1m3 : Method := { name := "same", desc := "(II)Z", sig := { parameters := [.int, .int], returnType := some .boolean }, accessFlags := 10, code := some k1c3 }
def k1c4 : Code := { maxStack := 7, maxLocals := 11, code := code, exceptionTable := #[], attributes := #[] }
def k1m4 : Method := { name := "law", desc := "(IIIIII)Z", sig := { parameters := [.int, .int, .int, .int, .int, .int], returnType := some .boolean }, accessFlags := 9, code := some k1c4 }
/-- com/example/kodnik/kodnik/store/MappingMapsAlikePinLaw -/
def k1 : Class := { plain "com/example/kodnik/kodnik/store/MappingMapsAlikePinLaw" (some 0) with
  accessFlags := 49
  interfaces := #[]
  cf := some (fileOf pool1 9 #[] #[{ accessFlags := 1, nameIndex := 5, descriptorIndex := 6, attributes := #[] }, { accessFlags := 10, nameIndex := 12, descriptorIndex := 13, attributes := #[] }, { accessFlags := 10, nameIndex := 23, descriptorIndex := 24, attributes := #[] }, { accessFlags := 10, nameIndex := 30, descriptorIndex := 31, attributes := #[] }, { accessFlags := 9, nameIndex := 39, descriptorIndex := 40, attributes := #[] }] 49 2 #[] #[])
  fields := #[]
  methods := #[k1m0, k1m1, k1m2, k1m3, k1m4]
  instanceTypes := #[]
  staticTypes := #[]
  resolved := Array.replicate 43 none
  statics := none }

def pool2 : Array CpInfo := pool [(1, .methodref 2 3), (0, .class_ 4), (0, .nameAndType 5 6), (0, u "java/lang/Object"), (0, u "<init>"), (0, u "()V"), (0, .class_ 8), (0, u "java/lang/Record")] 13

def k2c0 : Code := { maxStack := 1, maxLocals := 1, code := jdk_30_method_1_code, exceptionTable := #[], attributes := #[] }
def k2m0 : Method := { name := "<init>", desc := "()V", sig := { parameters := [], returnType := none }, accessFlags := 4, code := some k2c0 }
/-- java/lang/Record -/
def k2 : Class := { plain "java/lang/Record" (some 0) with
  accessFlags := 1057
  interfaces := #[]
  cf := some (fileOf pool2 7 #[] #[{ accessFlags := 4, nameIndex := 5, descriptorIndex := 6, attributes := #[] }] 1057 2 #[] #[])
  fields := #[]
  methods := #[k2m0]
  instanceTypes := #[]
  staticTypes := #[]
  resolved := Array.replicate 22 none
  statics := none }

def pool3 : Array CpInfo := pool [(1, .methodref 2 3), (0, .class_ 4), (0, .nameAndType 5 6), (0, u "java/lang/Record"), (0, u "<init>"), (0, u "()V"), (0, .fieldref 8 9), (0, .class_ 10), (0, .nameAndType 11 12), (0, u "com/example/kodnik/kodnik/store/Mapping"), (0, u "sourceSystem"), (0, u "Ljava/lang/String;"), (0, .fieldref 8 14), (0, .nameAndType 15 12), (0, u "sourceColumn"), (0, .fieldref 8 17), (0, .nameAndType 18 12), (0, u "targetSystem"), (0, .fieldref 8 20), (0, .nameAndType 21 12), (0, u "targetColumn"), (0, .methodref 23 24), (0, .class_ 25), (0, .nameAndType 26 27), (0, u "java/lang/String"), (0, u "equals"), (0, u "(Ljava/lang/Object;)Z"), (17, u "(Ljava/lang/String;Ljava/lang/String;Ljava/lang/String;Ljava/lang/String;)V"), (19, u "mapsAlike"), (0, u "(Lcom/example/kodnik/kodnik/store/Mapping;)Z")] 37

def k3c0 : Code := { maxStack := 2, maxLocals := 5, code := prog_44_method_1_code, exceptionTable := #[], attributes := #[] }
def k3m0 : Method := { name := "<init>", desc := "(Ljava/lang/String;Ljava/lang/String;Ljava/lang/String;Ljava/lang/String;)V", sig := { parameters := [(.object "java/lang/String"), (.object "java/lang/String"), (.object "java/lang/String"), (.object "java/lang/String")], returnType := none }, accessFlags := 1, code := some k3c0 }
def k3c1 : Code := { maxStack := 2, maxLocals := 2, code := prog_44_method_4_code, exceptionTable := #[], attributes := #[] }
def k3m1 : Method := { name := "mapsAlike", desc := "(Lcom/example/kodnik/kodnik/store/Mapping;)Z", sig := { parameters := [(.object "com/example/kodnik/kodnik/store/Mapping")], returnType := some .boolean }, accessFlags := 0, code := some k3c1 }
/-- com/example/kodnik/kodnik/store/Mapping -/
def k3 : Class := { plain "com/example/kodnik/kodnik/store/Mapping" (some 2) with
  accessFlags := 49
  interfaces := #[]
  cf := some (fileOf pool3 8 #[] #[{ accessFlags := 1, nameIndex := 5, descriptorIndex := 45, attributes := #[] }, { accessFlags := 0, nameIndex := 65, descriptorIndex := 66, attributes := #[] }] 49 2 #[] #[{ accessFlags := 18, nameIndex := 11, descriptorIndex := 12, attributes := #[] }, { accessFlags := 18, nameIndex := 15, descriptorIndex := 12, attributes := #[] }, { accessFlags := 18, nameIndex := 18, descriptorIndex := 12, attributes := #[] }, { accessFlags := 18, nameIndex := 21, descriptorIndex := 12, attributes := #[] }])
  fields := #[{ name := "sourceSystem", type := (.object "java/lang/String"), accessFlags := 18, slot := 0, constantValue := 0 }, { name := "sourceColumn", type := (.object "java/lang/String"), accessFlags := 18, slot := 1, constantValue := 0 }, { name := "targetSystem", type := (.object "java/lang/String"), accessFlags := 18, slot := 2, constantValue := 0 }, { name := "targetColumn", type := (.object "java/lang/String"), accessFlags := 18, slot := 3, constantValue := 0 }]
  methods := #[k3m0, k3m1]
  instanceTypes := #[(.object "java/lang/String"), (.object "java/lang/String"), (.object "java/lang/String"), (.object "java/lang/String")]
  staticTypes := #[]
  resolved := Array.replicate 104 none
  statics := none }

def pool4 : Array CpInfo := pool [(1, .class_ 2), (0, u "java/io/Serializable"), (0, .class_ 4), (0, u "java/lang/Object")] 2

/-- java/io/Serializable -/
def k4 : Class := { plain "java/io/Serializable" (some 0) with
  accessFlags := 1537
  interfaces := #[]
  cf := some (fileOf pool4 1 #[] #[] 1537 3 #[] #[])
  fields := #[]
  methods := #[]
  instanceTypes := #[]
  staticTypes := #[]
  resolved := Array.replicate 7 none
  statics := none }

def pool5 : Array CpInfo := pool [(1, .class_ 2), (0, u "java/lang/Comparable"), (0, .class_ 4), (0, u "java/lang/Object")] 7

/-- java/lang/Comparable -/
def k5 : Class := { plain "java/lang/Comparable" (some 0) with
  accessFlags := 1537
  interfaces := #[]
  cf := some (fileOf pool5 1 #[] #[] 1537 3 #[] #[])
  fields := #[]
  methods := #[]
  instanceTypes := #[]
  staticTypes := #[]
  resolved := Array.replicate 12 none
  statics := none }

def pool6 : Array CpInfo := pool [(2, .class_ 4), (1, u "java/lang/CharSequence"), (42, .class_ 48), (0, u "java/lang/CharSequence$1CodePointIterator"), (10, .class_ 60), (0, u "java/lang/CharSequence$1CharIterator"), (5, .class_ 67), (0, u "java/lang/Object")] 63

/-- java/lang/CharSequence -/
def k6 : Class := { plain "java/lang/CharSequence" (some 0) with
  accessFlags := 1537
  interfaces := #[]
  cf := some (fileOf pool6 2 #[.nestMembers #[47, 59]] #[] 1537 66 #[] #[])
  fields := #[]
  methods := #[]
  instanceTypes := #[]
  staticTypes := #[]
  resolved := Array.replicate 131 none
  statics := none }

def pool7 : Array CpInfo := pool [(1, .class_ 2), (0, u "java/lang/constant/Constable"), (0, .class_ 4), (0, u "java/lang/Object")] 6

/-- java/lang/constant/Constable -/
def k7 : Class := { plain "java/lang/constant/Constable" (some 0) with
  accessFlags := 1537
  interfaces := #[]
  cf := some (fileOf pool7 1 #[] #[] 1537 3 #[] #[])
  fields := #[]
  methods := #[]
  instanceTypes := #[]
  staticTypes := #[]
  resolved := Array.replicate 11 none
  statics := none }

def pool8 : Array CpInfo := pool [(1, .class_ 2), (0, u "java/lang/constant/ConstantDesc"), (0, .class_ 4), (0, u "java/lang/Object")] 32

/-- java/lang/constant/ConstantDesc -/
def k8 : Class := { plain "java/lang/constant/ConstantDesc" (some 0) with
  accessFlags := 1537
  interfaces := #[]
  cf := some (fileOf pool8 1 #[] #[] 1537 3 #[] #[])
  fields := #[]
  methods := #[]
  instanceTypes := #[]
  staticTypes := #[]
  resolved := Array.replicate 37 none
  statics := none }

def pool9 : Array CpInfo := pool [(1, .methodref 2 3), (0, .class_ 4), (0, .nameAndType 5 6), (0, u "java/lang/Object"), (0, u "<init>"), (0, u "()V"), (0, .string 8), (0, u ""), (0, .fieldref 10 11), (0, .class_ 12), (0, .nameAndType 13 14), (0, u "java/lang/String"), (0, u "value"), (0, u "[B"), (0, .fieldref 10 16), (0, .nameAndType 17 18), (0, u "coder"), (0, u "B"), (2, u "hash"), (0, u "I"), (2, u "hashIsZero"), (0, u "Z"), (0, .methodref 10 28), (0, .nameAndType 5 29), (0, u "([CIILjava/lang/Void;)V"), (8, .fieldref 10 39), (0, .nameAndType 40 26), (0, u "COMPACT_STRINGS"), (1, .class_ 44), (1, u "java/lang/StringUTF16"), (0, u "compress"), (1, .methodref 42 48), (0, .nameAndType 49 50), (0, u "coderFromArrayLen"), (0, u "([BI)B"), (56, .class_ 109), (1, u "java/lang/StringLatin1"), (67, .methodref 42 178), (0, .nameAndType 45 179), (0, u "([CII)[B"), (361, .methodref 107 542), (0, .nameAndType 543 544), (0, u "equals"), (0, u "([B[B)Z"), (28, u "(Ljava/lang/Object;)Z"), (1, .class_ 576), (0, u "java/lang/CharSequence"), (22, u "CASE_INSENSITIVE_ORDER"), (0, u "Ljava/util/Comparator;"), (409, u "([C)V"), (90, u "serialPersistentFields"), (0, u "[Ljava/io/ObjectStreamField;"), (0, .class_ 1104), (0, u "java/lang/String$CaseInsensitiveComparator"), (1, .class_ 1107), (0, u "java/io/Serializable"), (0, .class_ 1109), (0, u "java/lang/Comparable"), (0, .class_ 1111), (0, u "java/lang/constant/Constable"), (0, .class_ 1113), (0, u "java/lang/constant/ConstantDesc"), (2, u "serialVersionUID"), (0, u "J"), (3, u "REPL"), (0, u "C"), (2, u "LATIN1"), (1, u "UTF16")] 323

def k9m0 : Method := { name := "<init>", desc := "()V", sig := { parameters := [], returnType := none }, accessFlags := 1, code := none }
def k9c1 : Code := { maxStack := 5, maxLocals := 2, code := jdk_42_method_3_code, exceptionTable := #[], attributes := #[] }
def k9m1 : Method := { name := "<init>", desc := "([C)V", sig := { parameters := [(.array .char)], returnType := none }, accessFlags := 1, code := some k9c1 }
def k9c2 : Code := { maxStack := 2, maxLocals := 3, code := jdk_42_method_66_code, exceptionTable := #[], attributes := #[] }
def k9m2 : Method := { name := "equals", desc := "(Ljava/lang/Object;)Z", sig := { parameters := [(.object "java/lang/Object")], returnType := some .boolean }, accessFlags := 1, code := some k9c2 }
def k9c3 : Code := { maxStack := 4, maxLocals := 6, code := jdk_42_method_149_code, exceptionTable := #[], attributes := #[] }
def k9m3 : Method := { name := "<init>", desc := "([CIILjava/lang/Void;)V", sig := { parameters := [(.array .char), .int, .int, (.object "java/lang/Void")], returnType := none }, accessFlags := 2, code := some k9c3 }
/-- java/lang/String -/
def k9 : Class := { plain "java/lang/String" (some 0) with
  accessFlags := 49
  interfaces := #[4, 5, 6, 7, 8]
  cf := some (fileOf pool9 10 #[.nestMembers #[1103]] #[{ accessFlags := 1, nameIndex := 5, descriptorIndex := 6, attributes := #[] }, { accessFlags := 1, nameIndex := 5, descriptorIndex := 1010, attributes := #[] }, { accessFlags := 1, nameIndex := 543, descriptorIndex := 573, attributes := #[] }, { accessFlags := 2, nameIndex := 5, descriptorIndex := 29, attributes := #[] }] 49 2 #[1106, 1108, 575, 1110, 1112] #[{ accessFlags := 18, nameIndex := 13, descriptorIndex := 14, attributes := #[] }, { accessFlags := 18, nameIndex := 17, descriptorIndex := 18, attributes := #[] }, { accessFlags := 2, nameIndex := 21, descriptorIndex := 22, attributes := #[] }, { accessFlags := 2, nameIndex := 25, descriptorIndex := 26, attributes := #[] }, { accessFlags := 26, nameIndex := 1116, descriptorIndex := 1117, attributes := #[] }, { accessFlags := 24, nameIndex := 40, descriptorIndex := 26, attributes := #[] }, { accessFlags := 26, nameIndex := 1101, descriptorIndex := 1102, attributes := #[] }, { accessFlags := 26, nameIndex := 1121, descriptorIndex := 1122, attributes := #[] }, { accessFlags := 25, nameIndex := 599, descriptorIndex := 600, attributes := #[] }, { accessFlags := 24, nameIndex := 1125, descriptorIndex := 18, attributes := #[] }, { accessFlags := 24, nameIndex := 1127, descriptorIndex := 18, attributes := #[] }])
  fields := #[{ name := "value", type := (.array .byte), accessFlags := 18, slot := 0, constantValue := 0 }, { name := "coder", type := .byte, accessFlags := 18, slot := 1, constantValue := 0 }, { name := "hash", type := .int, accessFlags := 2, slot := 2, constantValue := 0 }, { name := "hashIsZero", type := .boolean, accessFlags := 2, slot := 3, constantValue := 0 }, { name := "serialVersionUID", type := .long, accessFlags := 26, slot := 0, constantValue := 0 }, { name := "COMPACT_STRINGS", type := .boolean, accessFlags := 24, slot := 1, constantValue := 0 }, { name := "serialPersistentFields", type := (.array (.object "java/io/ObjectStreamField")), accessFlags := 26, slot := 2, constantValue := 0 }, { name := "REPL", type := .char, accessFlags := 26, slot := 3, constantValue := 0 }, { name := "CASE_INSENSITIVE_ORDER", type := (.object "java/util/Comparator"), accessFlags := 25, slot := 4, constantValue := 0 }, { name := "LATIN1", type := .byte, accessFlags := 24, slot := 5, constantValue := 0 }, { name := "UTF16", type := .byte, accessFlags := 24, slot := 6, constantValue := 0 }]
  methods := #[k9m0, k9m1, k9m2, k9m3]
  instanceTypes := #[(.array .byte), .byte, .int, .boolean]
  staticTypes := #[.long, .boolean, (.array (.object "java/io/ObjectStreamField")), .char, (.object "java/util/Comparator"), .byte, .byte]
  resolved := Array.replicate 1451 none
  statics := some 0 }

def pool10 : Array CpInfo := pool [(4, .class_ 6), (1, u "java/lang/Object"), (0, u "<init>"), (0, u "()V"), (5, .class_ 16), (1, u "java/lang/StringLatin1"), (104, u "$assertionsDisabled"), (0, u "Z"), (98, .class_ 223), (1, u "java/lang/StringLatin1$LinesSpliterator"), (57, u "equals"), (0, u "([B[B)Z"), (107, .class_ 391), (0, u "java/lang/StringLatin1$CharsSpliterator")] 3

def k10m0 : Method := { name := "<init>", desc := "()V", sig := { parameters := [], returnType := none }, accessFlags := 0, code := none }
def k10c1 : Code := { maxStack := 3, maxLocals := 3, code := jdk_43_method_13_code, exceptionTable := #[], attributes := #[] }
def k10m1 : Method := { name := "equals", desc := "([B[B)Z", sig := { parameters := [(.array .byte), (.array .byte)], returnType := some .boolean }, accessFlags := 9, code := some k10c1 }
/-- java/lang/StringLatin1 -/
def k10 : Class := { plain "java/lang/StringLatin1" (some 0) with
  accessFlags := 48
  interfaces := #[]
  cf := some (fileOf pool10 14 #[.nestMembers #[390, 221]] #[{ accessFlags := 0, nameIndex := 7, descriptorIndex := 8, attributes := #[] }, { accessFlags := 9, nameIndex := 281, descriptorIndex := 282, attributes := #[] }] 48 4 #[] #[{ accessFlags := 4120, nameIndex := 121, descriptorIndex := 122, attributes := #[] }])
  fields := #[{ name := "$assertionsDisabled", type := .boolean, accessFlags := 4120, slot := 0, constantValue := 0 }]
  methods := #[k10m0, k10m1]
  instanceTypes := #[]
  staticTypes := #[.boolean]
  resolved := Array.replicate 395 none
  statics := none }

def pool11 : Array CpInfo := pool [(6, .class_ 8), (1, u "java/lang/Object"), (0, u "<init>"), (0, u "()V"), (1, .class_ 14), (1, u "java/lang/StringUTF16"), (31, u "$assertionsDisabled"), (0, u "Z"), (13, u "HI_BYTE_SHIFT"), (0, u "I"), (2, u "LO_BYTE_SHIFT"), (49, .methodref 12 116), (0, .nameAndType 117 118), (0, u "compress"), (0, u "([CI[BII)I"), (3, u "([CII)[B"), (138, u "coderFromArrayLen"), (0, u "([BI)B"), (106, .class_ 371), (1, u "java/lang/StringUTF16$LinesSpliterator"), (58, u "MAX_LENGTH"), (196, .class_ 628), (0, u "java/lang/StringUTF16$CodePointsSpliterator"), (0, .class_ 630), (0, u "java/lang/StringUTF16$CharsSpliterator")] 4

def k11m0 : Method := { name := "<init>", desc := "()V", sig := { parameters := [], returnType := none }, accessFlags := 0, code := none }
def k11c1 : Code := { maxStack := 2, maxLocals := 2, code := jdk_52_method_15_code, exceptionTable := #[], attributes := #[] }
def k11m1 : Method := { name := "coderFromArrayLen", desc := "([BI)B", sig := { parameters := [(.array .byte), .int], returnType := some .byte }, accessFlags := 8, code := some k11c1 }
def k11c2 : Code := { maxStack := 5, maxLocals := 6, code := jdk_52_method_16_code, exceptionTable := #[], attributes := #[] }
def k11m2 : Method := { name := "compress", desc := "([CII)[B", sig := { parameters := [(.array .char), .int, .int], returnType := some (.array .byte) }, accessFlags := 9, code := some k11c2 }
def k11c3 : Code := { maxStack := 3, maxLocals := 7, code := jdk_52_method_21_code, exceptionTable := #[], attributes := #[] }
def k11m3 : Method := { name := "compress", desc := "([CI[BII)I", sig := { parameters := [(.array .char), .int, (.array .byte), .int, .int], returnType := some .int }, accessFlags := 9, code := some k11c3 }
/-- java/lang/StringUTF16 -/
def k11 : Class := { plain "java/lang/StringUTF16" (some 0) with
  accessFlags := 48
  interfaces := #[]
  cf := some (fileOf pool11 12 #[.nestMembers #[627, 629, 369]] #[{ accessFlags := 0, nameIndex := 9, descriptorIndex := 10, attributes := #[] }, { accessFlags := 8, nameIndex := 261, descriptorIndex := 262, attributes := #[] }, { accessFlags := 9, nameIndex := 117, descriptorIndex := 122, attributes := #[] }, { accessFlags := 9, nameIndex := 117, descriptorIndex := 118, attributes := #[] }] 48 6 #[] #[{ accessFlags := 26, nameIndex := 61, descriptorIndex := 62, attributes := #[] }, { accessFlags := 26, nameIndex := 65, descriptorIndex := 62, attributes := #[] }, { accessFlags := 24, nameIndex := 430, descriptorIndex := 62, attributes := #[] }, { accessFlags := 4120, nameIndex := 46, descriptorIndex := 47, attributes := #[] }])
  fields := #[{ name := "HI_BYTE_SHIFT", type := .int, accessFlags := 26, slot := 0, constantValue := 0 }, { name := "LO_BYTE_SHIFT", type := .int, accessFlags := 26, slot := 1, constantValue := 0 }, { name := "MAX_LENGTH", type := .int, accessFlags := 24, slot := 2, constantValue := 0 }, { name := "$assertionsDisabled", type := .boolean, accessFlags := 4120, slot := 3, constantValue := 0 }]
  methods := #[k11m0, k11m1, k11m2, k11m3]
  instanceTypes := #[]
  staticTypes := #[.int, .int, .int, .boolean]
  resolved := Array.replicate 635 none
  statics := none }

def pool12 : Array CpInfo := pool [(2, .class_ 4), (1, u "java/lang/Object"), (0, u "<init>"), (0, u "()V"), (17, .class_ 26), (1, u "jdk/internal/util/Preconditions"), (28, .class_ 56), (0, u "jdk/internal/util/Preconditions$4"), (57, .class_ 115), (0, u "jdk/internal/util/Preconditions$1"), (7, u "SIOOBE_FORMATTER"), (0, u "Ljava/util/function/BiFunction;"), (0, .class_ 126), (0, u "jdk/internal/util/Preconditions$2"), (3, u "AIOOBE_FORMATTER"), (0, .class_ 132), (0, u "jdk/internal/util/Preconditions$3"), (3, u "IOOBE_FORMATTER")] 57

def k12m0 : Method := { name := "<init>", desc := "()V", sig := { parameters := [], returnType := none }, accessFlags := 1, code := none }
/-- jdk/internal/util/Preconditions -/
def k12 : Class := { plain "jdk/internal/util/Preconditions" (some 0) with
  accessFlags := 33
  interfaces := #[]
  cf := some (fileOf pool12 24 #[.nestMembers #[55, 131, 125, 114]] #[{ accessFlags := 1, nameIndex := 5, descriptorIndex := 6, attributes := #[] }] 33 2 #[] #[{ accessFlags := 25, nameIndex := 123, descriptorIndex := 124, attributes := #[] }, { accessFlags := 25, nameIndex := 130, descriptorIndex := 124, attributes := #[] }, { accessFlags := 25, nameIndex := 136, descriptorIndex := 124, attributes := #[] }])
  fields := #[{ name := "SIOOBE_FORMATTER", type := (.object "java/util/function/BiFunction"), accessFlags := 25, slot := 0, constantValue := 0 }, { name := "AIOOBE_FORMATTER", type := (.object "java/util/function/BiFunction"), accessFlags := 25, slot := 1, constantValue := 0 }, { name := "IOOBE_FORMATTER", type := (.object "java/util/function/BiFunction"), accessFlags := 25, slot := 2, constantValue := 0 }]
  methods := #[k12m0]
  instanceTypes := #[]
  staticTypes := #[(.object "java/util/function/BiFunction"), (.object "java/util/function/BiFunction"), (.object "java/util/function/BiFunction")]
  resolved := Array.replicate 194 none
  statics := some 1 }

def pool13 : Array CpInfo := pool [(9, u "<init>"), (6, .class_ 18), (1, u "java/lang/Object"), (0, u "()V"), (1, .class_ 23), (1, u "jdk/internal/util/ArraysSupport"), (0, u "LOG2_ARRAY_LONG_INDEX_SCALE"), (0, u "I"), (2, u "U"), (0, u "Ljdk/internal/misc/Unsafe;"), (8, u "BIG_ENDIAN"), (0, u "Z"), (8, u "LOG2_BYTE_BIT_SIZE"), (4, u "LOG2_ARRAY_INT_INDEX_SCALE"), (54, u "JLA"), (0, u "Ljdk/internal/access/JavaLangAccess;"), (11, u "LOG2_ARRAY_BOOLEAN_INDEX_SCALE"), (9, u "LOG2_ARRAY_BYTE_INDEX_SCALE"), (5, u "LOG2_ARRAY_CHAR_INDEX_SCALE"), (5, u "LOG2_ARRAY_SHORT_INDEX_SCALE"), (18, u "LOG2_ARRAY_FLOAT_INDEX_SCALE"), (24, u "LOG2_ARRAY_DOUBLE_INDEX_SCALE"), (89, u "T_BOOLEAN"), (2, u "T_CHAR"), (1, u "T_FLOAT"), (1, u "T_DOUBLE"), (1, u "T_BYTE"), (1, u "T_SHORT"), (1, u "T_INT"), (1, u "T_LONG"), (1, u "SOFT_MAX_ARRAY_LENGTH")] 83

def k13m0 : Method := { name := "<init>", desc := "()V", sig := { parameters := [], returnType := none }, accessFlags := 2, code := none }
/-- jdk/internal/util/ArraysSupport -/
def k13 : Class := { plain "jdk/internal/util/ArraysSupport" (some 0) with
  accessFlags := 33
  interfaces := #[]
  cf := some (fileOf pool13 21 #[] #[{ accessFlags := 2, nameIndex := 9, descriptorIndex := 19, attributes := #[] }] 33 16 #[] #[{ accessFlags := 24, nameIndex := 28, descriptorIndex := 29, attributes := #[] }, { accessFlags := 26, nameIndex := 38, descriptorIndex := 39, attributes := #[] }, { accessFlags := 25, nameIndex := 121, descriptorIndex := 25, attributes := #[] }, { accessFlags := 25, nameIndex := 131, descriptorIndex := 25, attributes := #[] }, { accessFlags := 25, nameIndex := 137, descriptorIndex := 25, attributes := #[] }, { accessFlags := 25, nameIndex := 143, descriptorIndex := 25, attributes := #[] }, { accessFlags := 25, nameIndex := 53, descriptorIndex := 25, attributes := #[] }, { accessFlags := 25, nameIndex := 24, descriptorIndex := 25, attributes := #[] }, { accessFlags := 25, nameIndex := 162, descriptorIndex := 25, attributes := #[] }, { accessFlags := 25, nameIndex := 187, descriptorIndex := 25, attributes := #[] }, { accessFlags := 26, nameIndex := 48, descriptorIndex := 25, attributes := #[] }, { accessFlags := 25, nameIndex := 277, descriptorIndex := 25, attributes := #[] }, { accessFlags := 25, nameIndex := 280, descriptorIndex := 25, attributes := #[] }, { accessFlags := 25, nameIndex := 282, descriptorIndex := 25, attributes := #[] }, { accessFlags := 25, nameIndex := 284, descriptorIndex := 25, attributes := #[] }, { accessFlags := 25, nameIndex := 286, descriptorIndex := 25, attributes := #[] }, { accessFlags := 25, nameIndex := 288, descriptorIndex := 25, attributes := #[] }, { accessFlags := 25, nameIndex := 290, descriptorIndex := 25, attributes := #[] }, { accessFlags := 25, nameIndex := 292, descriptorIndex := 25, attributes := #[] }, { accessFlags := 26, nameIndex := 108, descriptorIndex := 109, attributes := #[] }, { accessFlags := 25, nameIndex := 294, descriptorIndex := 25, attributes := #[] }])
  fields := #[{ name := "U", type := (.object "jdk/internal/misc/Unsafe"), accessFlags := 24, slot := 0, constantValue := 0 }, { name := "BIG_ENDIAN", type := .boolean, accessFlags := 26, slot := 1, constantValue := 0 }, { name := "LOG2_ARRAY_BOOLEAN_INDEX_SCALE", type := .int, accessFlags := 25, slot := 2, constantValue := 0 }, { name := "LOG2_ARRAY_BYTE_INDEX_SCALE", type := .int, accessFlags := 25, slot := 3, constantValue := 0 }, { name := "LOG2_ARRAY_CHAR_INDEX_SCALE", type := .int, accessFlags := 25, slot := 4, constantValue := 0 }, { name := "LOG2_ARRAY_SHORT_INDEX_SCALE", type := .int, accessFlags := 25, slot := 5, constantValue := 0 }, { name := "LOG2_ARRAY_INT_INDEX_SCALE", type := .int, accessFlags := 25, slot := 6, constantValue := 0 }, { name := "LOG2_ARRAY_LONG_INDEX_SCALE", type := .int, accessFlags := 25, slot := 7, constantValue := 0 }, { name := "LOG2_ARRAY_FLOAT_INDEX_SCALE", type := .int, accessFlags := 25, slot := 8, constantValue := 0 }, { name := "LOG2_ARRAY_DOUBLE_INDEX_SCALE", type := .int, accessFlags := 25, slot := 9, constantValue := 0 }, { name := "LOG2_BYTE_BIT_SIZE", type := .int, accessFlags := 26, slot := 10, constantValue := 0 }, { name := "T_BOOLEAN", type := .int, accessFlags := 25, slot := 11, constantValue := 0 }, { name := "T_CHAR", type := .int, accessFlags := 25, slot := 12, constantValue := 0 }, { name := "T_FLOAT", type := .int, accessFlags := 25, slot := 13, constantValue := 0 }, { name := "T_DOUBLE", type := .int, accessFlags := 25, slot := 14, constantValue := 0 }, { name := "T_BYTE", type := .int, accessFlags := 25, slot := 15, constantValue := 0 }, { name := "T_SHORT", type := .int, accessFlags := 25, slot := 16, constantValue := 0 }, { name := "T_INT", type := .int, accessFlags := 25, slot := 17, constantValue := 0 }, { name := "T_LONG", type := .int, accessFlags := 25, slot := 18, constantValue := 0 }, { name := "JLA", type := (.object "jdk/internal/access/JavaLangAccess"), accessFlags := 26, slot := 19, constantValue := 0 }, { name := "SOFT_MAX_ARRAY_LENGTH", type := .int, accessFlags := 25, slot := 20, constantValue := 0 }]
  methods := #[k13m0]
  instanceTypes := #[]
  staticTypes := #[(.object "jdk/internal/misc/Unsafe"), .boolean, .int, .int, .int, .int, .int, .int, .int, .int, .int, .int, .int, .int, .int, .int, .int, .int, .int, (.object "jdk/internal/access/JavaLangAccess"), .int]
  resolved := Array.replicate 378 none
  statics := none }

def pool14 : Array CpInfo := pool [(1, u "java/lang/Cloneable"), (0, .class_ 1), (0, u "java/lang/Object"), (0, .class_ 3)] 3

/-- java/lang/Cloneable -/
def k14 : Class := { plain "java/lang/Cloneable" (some 0) with
  accessFlags := 1537
  interfaces := #[]
  cf := some (fileOf pool14 2 #[] #[] 1537 4 #[] #[])
  fields := #[]
  methods := #[]
  instanceTypes := #[]
  staticTypes := #[]
  resolved := Array.replicate 8 none
  statics := none }

/-- the primitive byte -/
def k15 : Class := { plain "byte" none with kind := .primitive 'B', accessFlags := 0x411 }
/-- [B -/
def k16 : Class := { plain "[B" (some 0) with kind := .array 15 .byte, interfaces := #[14, 4], accessFlags := 1041 }

/-- the primitive char -/
def k17 : Class := { plain "char" none with kind := .primitive 'C', accessFlags := 0x411 }
/-- [C -/
def k18 : Class := { plain "[C" (some 0) with kind := .array 17 .char, interfaces := #[14, 4], accessFlags := 1041 }

/-- the primitive int -/
def k19 : Class := { plain "int" none with kind := .primitive 'I', accessFlags := 0x411 }
/-- [I -/
def k20 : Class := { plain "[I" (some 0) with kind := .array 19 .int, interfaces := #[14, 4], accessFlags := 1041 }

def heap : Heap := #[{ cls := 9, slots := #[.long 0, .int 1, .null, .int 0, .null, .int 0, .int 0], vm := .statics 9 },
  { cls := 12, slots := #[.null, .null, .null], vm := .statics 12 }]
def classes : Array Class := #[k0, k1, k2, k3, k4, k5, k6, k7, k8, k9, k10, k11, k12, k13, k14, k15, k16, k17, k18, k19, k20]
def interned : List (Array UInt16 × Addr) := []
def slotsUsed : Nat := 10
def theMethod : MethodId := ⟨1, 4⟩
def args0 : Array Value := #[.int 5, .int 3, .int 2, .int 1, .int 0, .int 0]
def aboutOver (below : List Frame) : State where
  vm := { classes := classes, interned := interned.toArray }
  heap := heap
  slotsUsed := slotsUsed
  threads := #[{ frames := .invoking theMethod args0 :: below }]
def below0 : List Frame := [.native { method := ⟨0, 0⟩, args := #[] }]
def about1 : State := aboutOver below0
def p0 : Program := .bare "" "" ""
def e0 : Env := launch0.env 0 0 0
theorem w_frames : about1.frames = Frame.invoking theMethod args0 :: below0 := rfl
set_option maxRecDepth 65536 in
theorem w_args : argsFit about1.vm theMethod args0 = true := by decide +kernel
set_option maxRecDepth 65536 in
theorem w_heap : heapFits about1 = true := by decide +kernel
set_option maxRecDepth 65536 in
theorem w_runnable : about1.curStatus? = some .runnable := by decide +kernel
set_option maxRecDepth 65536 in
theorem w_alone : about1.alone = true := by decide +kernel
set_option maxRecDepth 65536 in
theorem w_named : about1.methodNamed? x = some theMethod := by decide +kernel
set_option maxRecDepth 65536 in
theorem w_hears : about1.hears theMethod below0 = true := by decide +kernel
set_option maxRecDepth 65536 in
theorem w_ripe : about1.ripe theMethod args0 below0 = true := by decide +kernel
theorem w_running : about1.status = .running := rfl
set_option maxRecDepth 65536 in
theorem w_room : about1.hasRoom e0.platform room_1 = true :=
  launch0.hasRoom_least _ room_1 (by decide +kernel) (by decide +kernel) (by decide +kernel) (by decide +kernel) (by decide +kernel) (by decide +kernel)
theorem allAtoms_all (ts : List Jvm.Cond) (a : Array Jvm.Value) (st : Jvm.State) : (allAtoms ts).before a st = ts.all (fun c => c.before a st) := by
  induction ts with
  | nil => rfl
  | cons c t ih =>
    show (Jvm.Cond.and c (allAtoms t)).before a st = _
    rw [Jvm.Cond.before_and, ih, List.all_cons]
def words1 : List Jvm.Cond := Jvm.Cond.code x code maxLocals ret :: tables_1
/-- a 'code' word, met by the world's own term for the bytes: nothing is compared byte by byte -/
theorem code_word {y : MethodName} {bytes : ByteArray} {mx : Nat} {rt : Option FieldType} {a : Array Value} {s : State} {m : MethodId} {meth : Method} {c : Code} (h1 : s.methodNamed? y = some m) (h2 : s.vm.method? m = some meth) (h3 : meth.code = some c) (h4 : c.code = bytes)
    (h5 : (c.maxLocals == mx && c.exceptionTable.isEmpty && decide (c.maxStack ≤ mostOperands) && decide (meth.sig.returnType = rt) && !meth.locks && decide (parseMethodDescriptor y.desc = some meth.sig)) = true) : (Jvm.Cond.code y bytes mx rt).before a s = true := by
  simp only [Bool.and_eq_true, beq_iff_eq, Bool.not_eq_true', decide_eq_true_eq] at h5
  obtain ⟨⟨⟨⟨⟨g1, g2⟩, g3⟩, g4⟩, g5⟩, g6⟩ := h5
  simp [Cond.before, Cond.holds, Cond.value, h1, h2, h3, h4, g1, g2, g3, g4, g5, g6]
def isCode : Jvm.Cond → Bool
  | .code _ _ _ _ => true
  | _ => false
theorem all_split {L : List Jvm.Cond} {P : Jvm.Cond → Bool} (h1 : L.all (fun c => isCode c || P c) = true) (h2 : ∀ c ∈ L.filter isCode, P c = true) : L.all P = true := by
  refine List.all_eq_true.mpr fun c hc => ?_
  have h := List.all_eq_true.mp h1 c hc
  rcases Bool.eq_false_or_eq_true (isCode c) with hi | hi
  · exact h2 c (List.mem_filter.mpr ⟨hc, hi⟩)
  · simpa [hi] using h
set_option maxRecDepth 65536 in
theorem w_c0 : (Jvm.Cond.code x code maxLocals ret).before args0 about1 = true := code_word (m := ⟨1, 4⟩) (meth := k1m4) (c := k1c4) (by decide +kernel) rfl rfl rfl (by decide +kernel)
set_option maxRecDepth 65536 in
theorem w_c1 : (Jvm.Cond.code ({ cls := "com/example/kodnik/kodnik/store/MappingMapsAlikePinLaw", name := "str", desc := "(I)Ljava/lang/String;" } : Jvm.MethodName) method_3_code (4 : Nat) (Option.some (Jvm.ClassFile.FieldType.object "java/lang/String"))).before args0 about1 = true := code_word (m := ⟨1, 2⟩) (meth := k1m2) (c := k1c2) (by decide +kernel) rfl rfl rfl (by decide +kernel)
set_option maxRecDepth 65536 in
theorem w_c2 : (Jvm.Cond.code ({ cls := "com/example/kodnik/kodnik/store/MappingMapsAlikePinLaw", name := "len", desc := "(I)I" } : Jvm.MethodName) method_2_code (1 : Nat) (Option.some Jvm.ClassFile.FieldType.int)).before args0 about1 = true := code_word (m := ⟨1, 1⟩) (meth := k1m1) (c := k1c1) (by decide +kernel) rfl rfl rfl (by decide +kernel)
set_option maxRecDepth 65536 in
theorem w_c3 : (Jvm.Cond.code ({ cls := "java/lang/String", name := "<init>", desc := "([C)V" } : Jvm.MethodName) jdk_42_method_3_code (2 : Nat) (Option.none : Option Jvm.ClassFile.FieldType)).before args0 about1 = true := code_word (m := ⟨9, 1⟩) (meth := k9m1) (c := k9c1) (by decide +kernel) rfl rfl rfl (by decide +kernel)
set_option maxRecDepth 65536 in
theorem w_c4 : (Jvm.Cond.code ({ cls := "java/lang/String", name := "<init>", desc := "([CIILjava/lang/Void;)V" } : Jvm.MethodName) jdk_42_method_149_code (6 : Nat) (Option.none : Option Jvm.ClassFile.FieldType)).before args0 about1 = true := code_word (m := ⟨9, 3⟩) (meth := k9m3) (c := k9c3) (by decide +kernel) rfl rfl rfl (by decide +kernel)
set_option maxRecDepth 65536 in
theorem w_c5 : (Jvm.Cond.code ({ cls := "java/lang/Object", name := "<init>", desc := "()V" } : Jvm.MethodName) object_method_1_code (1 : Nat) (Option.none : Option Jvm.ClassFile.FieldType)).before args0 about1 = true := code_word (m := ⟨0, 0⟩) (meth := k0m0) (c := k0c0) (by decide +kernel) rfl rfl rfl (by decide +kernel)
set_option maxRecDepth 65536 in
theorem w_c6 : (Jvm.Cond.code ({ cls := "com/example/kodnik/kodnik/store/Mapping", name := "<init>", desc := "(Ljava/lang/String;Ljava/lang/String;Ljava/lang/String;Ljava/lang/String;)V" } : Jvm.MethodName) prog_44_method_1_code (5 : Nat) (Option.none : Option Jvm.ClassFile.FieldType)).before args0 about1 = true := code_word (m := ⟨3, 0⟩) (meth := k3m0) (c := k3c0) (by decide +kernel) rfl rfl rfl (by decide +kernel)
set_option maxRecDepth 65536 in
theorem w_c7 : (Jvm.Cond.code ({ cls := "java/lang/Record", name := "<init>", desc := "()V" } : Jvm.MethodName) jdk_30_method_1_code (1 : Nat) (Option.none : Option Jvm.ClassFile.FieldType)).before args0 about1 = true := code_word (m := ⟨2, 0⟩) (meth := k2m0) (c := k2c0) (by decide +kernel) rfl rfl rfl (by decide +kernel)
set_option maxRecDepth 65536 in
theorem w_c8 : (Jvm.Cond.code ({ cls := "com/example/kodnik/kodnik/store/MappingMapsAlikePinLaw", name := "same", desc := "(II)Z" } : Jvm.MethodName) method_4_code (4 : Nat) (Option.some Jvm.ClassFile.FieldType.boolean)).before args0 about1 = true := code_word (m := ⟨1, 3⟩) (meth := k1m3) (c := k1c3) (by decide +kernel) rfl rfl rfl (by decide +kernel)
set_option maxRecDepth 65536 in
theorem w_c9 : (Jvm.Cond.code ({ cls := "com/example/kodnik/kodnik/store/Mapping", name := "mapsAlike", desc := "(Lcom/example/kodnik/kodnik/store/Mapping;)Z" } : Jvm.MethodName) prog_44_method_4_code (2 : Nat) (Option.some Jvm.ClassFile.FieldType.boolean)).before args0 about1 = true := code_word (m := ⟨3, 1⟩) (meth := k3m1) (c := k3c1) (by decide +kernel) rfl rfl rfl (by decide +kernel)
set_option maxRecDepth 65536 in
theorem w_c10 : (Jvm.Cond.code ({ cls := "java/lang/String", name := "equals", desc := "(Ljava/lang/Object;)Z" } : Jvm.MethodName) jdk_42_method_66_code (3 : Nat) (Option.some Jvm.ClassFile.FieldType.boolean)).before args0 about1 = true := code_word (m := ⟨9, 2⟩) (meth := k9m2) (c := k9c2) (by decide +kernel) rfl rfl rfl (by decide +kernel)
set_option maxRecDepth 65536 in
theorem w_c11 : (Jvm.Cond.code ({ cls := "java/lang/StringLatin1", name := "equals", desc := "([B[B)Z" } : Jvm.MethodName) jdk_43_method_13_code (3 : Nat) (Option.some Jvm.ClassFile.FieldType.boolean)).before args0 about1 = true := code_word (m := ⟨10, 1⟩) (meth := k10m1) (c := k10c1) (by decide +kernel) rfl rfl rfl (by decide +kernel)
set_option maxRecDepth 65536 in
theorem w_c12 : (Jvm.Cond.code ({ cls := "java/lang/StringUTF16", name := "compress", desc := "([CII)[B" } : Jvm.MethodName) jdk_52_method_16_code (6 : Nat) (Option.some (Jvm.ClassFile.FieldType.array Jvm.ClassFile.FieldType.byte))).before args0 about1 = true := code_word (m := ⟨11, 2⟩) (meth := k11m2) (c := k11c2) (by decide +kernel) rfl rfl rfl (by decide +kernel)
set_option maxRecDepth 65536 in
theorem w_c13 : (Jvm.Cond.code ({ cls := "java/lang/StringUTF16", name := "compress", desc := "([CI[BII)I" } : Jvm.MethodName) jdk_52_method_21_code (7 : Nat) (Option.some Jvm.ClassFile.FieldType.int)).before args0 about1 = true := code_word (m := ⟨11, 3⟩) (meth := k11m3) (c := k11c3) (by decide +kernel) rfl rfl rfl (by decide +kernel)
set_option maxRecDepth 65536 in
theorem w_c14 : (Jvm.Cond.code ({ cls := "java/lang/StringUTF16", name := "coderFromArrayLen", desc := "([BI)B" } : Jvm.MethodName) jdk_52_method_15_code (2 : Nat) (Option.some Jvm.ClassFile.FieldType.byte)).before args0 about1 = true := code_word (m := ⟨11, 1⟩) (meth := k11m1) (c := k11c1) (by decide +kernel) rfl rfl rfl (by decide +kernel)
def codes1 : List Jvm.Cond := [Jvm.Cond.code x code maxLocals ret, Jvm.Cond.code ({ cls := "com/example/kodnik/kodnik/store/MappingMapsAlikePinLaw", name := "str", desc := "(I)Ljava/lang/String;" } : Jvm.MethodName) method_3_code (4 : Nat) (Option.some (Jvm.ClassFile.FieldType.object "java/lang/String")), Jvm.Cond.code ({ cls := "com/example/kodnik/kodnik/store/MappingMapsAlikePinLaw", name := "len", desc := "(I)I" } : Jvm.MethodName) method_2_code (1 : Nat) (Option.some Jvm.ClassFile.FieldType.int), Jvm.Cond.code ({ cls := "java/lang/String", name := "<init>", desc := "([C)V" } : Jvm.MethodName) jdk_42_method_3_code (2 : Nat) (Option.none : Option Jvm.ClassFile.FieldType), Jvm.Cond.code ({ cls := "java/lang/String", name := "<init>", desc := "([CIILjava/lang/Void;)V" } : Jvm.MethodName) jdk_42_method_149_code (6 : Nat) (Option.none : Option Jvm.ClassFile.FieldType), Jvm.Cond.code ({ cls := "java/lang/Object", name := "<init>", desc := "()V" } : Jvm.MethodName) object_method_1_code (1 : Nat) (Option.none : Option Jvm.ClassFile.FieldType), Jvm.Cond.code ({ cls := "com/example/kodnik/kodnik/store/Mapping", name := "<init>", desc := "(Ljava/lang/String;Ljava/lang/String;Ljava/lang/String;Ljava/lang/String;)V" } : Jvm.MethodName) prog_44_method_1_code (5 : Nat) (Option.none : Option Jvm.ClassFile.FieldType), Jvm.Cond.code ({ cls := "java/lang/Record", name := "<init>", desc := "()V" } : Jvm.MethodName) jdk_30_method_1_code (1 : Nat) (Option.none : Option Jvm.ClassFile.FieldType), Jvm.Cond.code ({ cls := "com/example/kodnik/kodnik/store/MappingMapsAlikePinLaw", name := "same", desc := "(II)Z" } : Jvm.MethodName) method_4_code (4 : Nat) (Option.some Jvm.ClassFile.FieldType.boolean), Jvm.Cond.code ({ cls := "com/example/kodnik/kodnik/store/Mapping", name := "mapsAlike", desc := "(Lcom/example/kodnik/kodnik/store/Mapping;)Z" } : Jvm.MethodName) prog_44_method_4_code (2 : Nat) (Option.some Jvm.ClassFile.FieldType.boolean), Jvm.Cond.code ({ cls := "java/lang/String", name := "equals", desc := "(Ljava/lang/Object;)Z" } : Jvm.MethodName) jdk_42_method_66_code (3 : Nat) (Option.some Jvm.ClassFile.FieldType.boolean), Jvm.Cond.code ({ cls := "java/lang/StringLatin1", name := "equals", desc := "([B[B)Z" } : Jvm.MethodName) jdk_43_method_13_code (3 : Nat) (Option.some Jvm.ClassFile.FieldType.boolean), Jvm.Cond.code ({ cls := "java/lang/StringUTF16", name := "compress", desc := "([CII)[B" } : Jvm.MethodName) jdk_52_method_16_code (6 : Nat) (Option.some (Jvm.ClassFile.FieldType.array Jvm.ClassFile.FieldType.byte)), Jvm.Cond.code ({ cls := "java/lang/StringUTF16", name := "compress", desc := "([CI[BII)I" } : Jvm.MethodName) jdk_52_method_21_code (7 : Nat) (Option.some Jvm.ClassFile.FieldType.int), Jvm.Cond.code ({ cls := "java/lang/StringUTF16", name := "coderFromArrayLen", desc := "([BI)B" } : Jvm.MethodName) jdk_52_method_15_code (2 : Nat) (Option.some Jvm.ClassFile.FieldType.byte)]
set_option maxRecDepth 65536 in
theorem codes_eq : words1.filter isCode = codes1 := rfl
theorem w_codes : ∀ c ∈ words1.filter isCode, c.before args0 about1 = true := by
  rw [codes_eq]
  intro c hc
  simp only [codes1, List.mem_cons, List.not_mem_nil, or_false] at hc
  rcases hc with rfl | rfl | rfl | rfl | rfl | rfl | rfl | rfl | rfl | rfl | rfl | rfl | rfl | rfl | rfl
  · exact w_c0
  · exact w_c1
  · exact w_c2
  · exact w_c3
  · exact w_c4
  · exact w_c5
  · exact w_c6
  · exact w_c7
  · exact w_c8
  · exact w_c9
  · exact w_c10
  · exact w_c11
  · exact w_c12
  · exact w_c13
  · exact w_c14
set_option maxRecDepth 65536 in
theorem w_t1 : (words1.take 24).all (fun c => isCode c || c.before args0 about1) = true := by decide +kernel
set_option maxRecDepth 65536 in
theorem w_t2 : ((words1.drop 24).take 24).all (fun c => isCode c || c.before args0 about1) = true := by decide +kernel
set_option maxRecDepth 65536 in
theorem w_t3 : (((words1.drop 24).drop 24).take 24).all (fun c => isCode c || c.before args0 about1) = true := by decide +kernel
set_option maxRecDepth 65536 in
theorem w_t4 : (((words1.drop 24).drop 24).drop 24).all (fun c => isCode c || c.before args0 about1) = true := by decide +kernel
theorem w_tables : (allAtoms (Jvm.Cond.code x code maxLocals ret :: tables_1)).before args0 about1 = true := by
  rw [allAtoms_all]
  show words1.all (fun c => c.before args0 about1) = true
  refine all_split ?_ w_codes
  rw [← List.take_append_drop 24 words1, List.all_append, w_t1, ← List.take_append_drop 24 (words1.drop 24), List.all_append, w_t2, ← List.take_append_drop 24 ((words1.drop 24).drop 24), List.all_append, w_t3, w_t4]
  rfl
set_option maxRecDepth 65536 in
theorem w_rest : rest_1_c.before args0 about1 = true := by decide +kernel
set_option maxRecDepth 65536 in
theorem w_case : (Jvm.Cond.and given_1 narrow_1).before args0 about1 = true := by decide +kernel
set_option maxRecDepth 65536 in
theorem w_consts : constsHeld consts_1 about1 := Jvm.Lit.constsHeldB_iff.mp (by decide +kernel)
theorem w_applies : (headSpec (Jvm.Cond.code x code maxLocals ret :: tables_1) room_1).applies x e0.platform about1 = true :=
  (Spec.applies_iff w_frames).mpr ⟨w_running, w_runnable, w_alone, w_named, w_hears, w_ripe, w_room, w_tables⟩
theorem atStart : AtStart classFile x code maxLocals ret World_1 tables_1 room_1 Calls_1 rest_1 Pre_1 launch0 p0 e0 about1 theMethod args0 below0 :=
  ⟨lists_1, trivial, launch0.admits_env _ _ _, launch0.least_env, fairChoices_fair.cas, fairChoices_fair.clock, w_frames, w_args, w_heap, w_applies, ⟨w_consts, trivial⟩, w_rest, w_case⟩
end start1
theorem witness_1 : WitnessClaimed_1 := ⟨start1.p0, start1.e0, start1.about1, start1.theMethod, start1.args0, start1.below0, start1.atStart⟩
end Jvm.Pilot.@@N@@
