import JvmDerived
import JvmDerived.Pilot.@@N@@Statement
import JvmDerived.Pilot.@@N@@Code
set_option linter.unusedVariables false
set_option linter.unusedSimpArgs false
namespace Jvm.Pilot.@@N@@
open Jvm Jvm.ClassFile Sem Op Lib Jvm.Free Jvm.Stand Jvm.LawKit Jvm.RoadKit Bundle Jvm.Pilot.@@N@@.Jvm.D
/-! steps, taken forward -/
theorem own_fw {tb : Tables} {e : Env} {below : List Frame} {A A' : State} {P : State → Outcome → Prop} (h : ∀ t, Steps tb e below A' t → Steps tb e below A t) (g : ∃ U o, Steps tb e below A' U ∧ P U o) : ∃ U o, Steps tb e below A U ∧ P U o := by
  obtain ⟨U, o, s, r⟩ := g
  exact ⟨U, o, h U s, r⟩
theorem own_st {tb : Tables} {e : Env} {below : List Frame} {A A' t : State} (h : ∀ t, Steps tb e below A' t → Steps tb e below A t) (g : Steps tb e below A' t) : Steps tb e below A t := h t g
theorem own_plainE {Z : State} {h : Heap} {a : Addr} {C : String} (F : Exa Z h a C) : ∀ cell : Cell, h[a]? = some cell → cell.vm.isStatics = false := fun cell hc => by
  obtain ⟨c1, k1, h1, -, -, h4, -⟩ := F
  cases h1.symm.trans hc
  exact h4
theorem own_plainV {Z : State} {h : Heap} {a : Addr} {k : ClassId} {ty : FieldType} {z : Int32} {vs : List Value} {dv : Value} (F : Arv Z h a k ty z vs dv) : ∀ cell : Cell, h[a]? = some cell → cell.vm.isStatics = false := fun cell hc => by
  obtain ⟨c1, A, -⟩ := F
  cases A.1.symm.trans hc
  exact A.plain
theorem own_staKeep {Z : State} {h h' : Heap} {C n d : String} {v : Value} {ws : List Addr} (F : Sta Z h C n d v) (K : Keep h h' ws) (q : ∀ x ∈ ws, ∀ cell : Cell, h[x]? = some cell → cell.vm.isStatics = false) : Sta Z h' C n d v := by
  obtain ⟨cf, i, k, f, st, cell, h1, h2, h3, h4, h5, h6, h7⟩ := F
  exact ⟨cf, i, k, f, st, cell, h1, h2, h3, h4, K.2.1 st cell h5 (fun m => by rw [q st m cell h5] at h6; cases h6), h6, h7⟩
theorem own_insLt {Z : State} {h : Heap} {a : Addr} {C : String} {bo : Bool} (F : Ins Z h a C bo) : a < h.size := by
  obtain ⟨cell, cT, h1, -⟩ := F
  exact (Array.getElem?_eq_some_iff.mp h1).1
theorem own_insKeep {Z : State} {h h' : Heap} {a : Addr} {C : String} {bo : Bool} {ws : List Addr} (F : Ins Z h a C bo) (K : Keep h h' ws) : Ins Z h' a C bo := by
  obtain ⟨cell, cT, h1, h2, h3⟩ := F
  obtain ⟨c', e1, e2, e3, -⟩ := K.2.2 a cell h1
  exact ⟨c', cT, e1, h2, by rw [e2, e3]; exact h3⟩

set_option maxRecDepth 65536
set_option maxHeartbeats 40000000
abbrev rq0 : Room := ({ frames := 0, cells := 0, slots := 0, locals := 0 } : Room)
abbrev yq1 : MethodName := (⟨"java/lang/StringUTF16", "compress", "([CI[BII)I"⟩ : MethodName)
abbrev rq2 : Room := ({ frames := 1, cells := 1, slots := 1, locals := 18 } : Room)
abbrev yq3 : MethodName := (⟨"java/lang/StringUTF16", "compress", "([CII)[B"⟩ : MethodName)
abbrev yq4 : MethodName := (⟨"java/lang/StringUTF16", "coderFromArrayLen", "([BI)B"⟩ : MethodName)
abbrev rq5 : Room := ({ frames := 2, cells := 1, slots := 1, locals := 35 } : Room)
abbrev yq6 : MethodName := (⟨"java/lang/String", "<init>", "([CIILjava/lang/Void;)V"⟩ : MethodName)
abbrev rq7 : Room := ({ frames := 3, cells := 1, slots := 1, locals := 52 } : Room)
abbrev yq8 : MethodName := (⟨"java/lang/String", "<init>", "([C)V"⟩ : MethodName)
abbrev rq9 : Room := ({ frames := 1, cells := 1, slots := 2, locals := 18 } : Room)
abbrev rq10 : Room := ({ frames := 2, cells := 1, slots := 2, locals := 35 } : Room)
abbrev rq11 : Room := ({ frames := 3, cells := 1, slots := 2, locals := 52 } : Room)
abbrev rq12 : Room := ({ frames := 1, cells := 1, slots := 3, locals := 18 } : Room)
abbrev rq13 : Room := ({ frames := 2, cells := 1, slots := 3, locals := 35 } : Room)
abbrev rq14 : Room := ({ frames := 3, cells := 1, slots := 3, locals := 52 } : Room)
abbrev rq15 : Room := ({ frames := 1, cells := 4, slots := 8, locals := 12 } : Room)
abbrev rq16 : Room := ({ frames := 2, cells := 4, slots := 8, locals := 29 } : Room)
abbrev yq17 : MethodName := (⟨"java/lang/StringUTF16", "newBytesLength", "(I)I"⟩ : MethodName)
abbrev rq18 : Room := ({ frames := 1, cells := 1, slots := 2, locals := 12 } : Room)
abbrev yq19 : MethodName := (⟨"java/lang/StringUTF16", "newBytesFor", "(I)[B"⟩ : MethodName)
abbrev yq20 : MethodName := (⟨"java/lang/StringUTF16", "putChar", "([BII)V"⟩ : MethodName)
abbrev rq21 : Room := ({ frames := 2, cells := 1, slots := 2, locals := 24 } : Room)
abbrev yq22 : MethodName := (⟨"java/lang/StringUTF16", "toBytes", "([CII)[B"⟩ : MethodName)
abbrev yq23 : MethodName := (⟨"java/lang/StringUTF16", "getChar", "([BI)C"⟩ : MethodName)
abbrev rq24 : Room := ({ frames := 3, cells := 2, slots := 3, locals := 40 } : Room)
abbrev rq25 : Room := ({ frames := 4, cells := 2, slots := 3, locals := 57 } : Room)
abbrev rq26 : Room := ({ frames := 5, cells := 2, slots := 3, locals := 74 } : Room)
abbrev rq27 : Room := ({ frames := 1, cells := 1, slots := 4, locals := 12 } : Room)
abbrev rq28 : Room := ({ frames := 2, cells := 1, slots := 4, locals := 24 } : Room)
abbrev rq29 : Room := ({ frames := 3, cells := 2, slots := 6, locals := 40 } : Room)
abbrev rq30 : Room := ({ frames := 4, cells := 2, slots := 6, locals := 57 } : Room)
abbrev rq31 : Room := ({ frames := 5, cells := 2, slots := 6, locals := 74 } : Room)
abbrev rq32 : Room := ({ frames := 1, cells := 1, slots := 6, locals := 12 } : Room)
abbrev rq33 : Room := ({ frames := 2, cells := 1, slots := 6, locals := 24 } : Room)
abbrev rq34 : Room := ({ frames := 3, cells := 2, slots := 9, locals := 40 } : Room)
abbrev rq35 : Room := ({ frames := 4, cells := 2, slots := 9, locals := 57 } : Room)
abbrev rq36 : Room := ({ frames := 5, cells := 2, slots := 9, locals := 74 } : Room)
abbrev rq37 : Room := ({ frames := 1, cells := 0, slots := 0, locals := 14 } : Room)
abbrev yq38 : MethodName := (⟨"jdk/internal/util/Preconditions", "checkIndex", "(IILjava/util/function/BiFunction;)I"⟩ : MethodName)
abbrev yq39 : MethodName := (⟨"java/lang/String", "checkIndex", "(II)V"⟩ : MethodName)
abbrev yq40 : MethodName := (⟨"java/lang/String", "coder", "()B"⟩ : MethodName)
abbrev yq41 : MethodName := (⟨"java/lang/String", "isLatin1", "()Z"⟩ : MethodName)
abbrev rq42 : Room := ({ frames := 1, cells := 0, slots := 0, locals := 13 } : Room)
abbrev yq43 : MethodName := (⟨"java/lang/String", "length", "()I"⟩ : MethodName)
abbrev rq44 : Room := ({ frames := 2, cells := 0, slots := 0, locals := 27 } : Room)
abbrev yq45 : MethodName := (⟨"java/lang/StringLatin1", "charAt", "([BI)C"⟩ : MethodName)
abbrev yq46 : MethodName := (⟨"java/lang/StringUTF16", "length", "([B)I"⟩ : MethodName)
abbrev yq47 : MethodName := (⟨"java/lang/StringUTF16", "checkIndex", "(I[B)V"⟩ : MethodName)
abbrev rq48 : Room := ({ frames := 3, cells := 0, slots := 0, locals := 40 } : Room)
abbrev yq49 : MethodName := (⟨"java/lang/StringUTF16", "charAt", "([BI)C"⟩ : MethodName)
abbrev yq50 : MethodName := (⟨"java/lang/String", "charAt", "(I)C"⟩ : MethodName)
abbrev rq51 : Room := ({ frames := 4, cells := 0, slots := 0, locals := 53 } : Room)
abbrev yq52 : MethodName := (⟨"java/lang/StringLatin1", "equals", "([B[B)Z"⟩ : MethodName)
abbrev yq53 : MethodName := (⟨"java/lang/String", "equals", "(Ljava/lang/Object;)Z"⟩ : MethodName)
abbrev rq54 : Room := ({ frames := 1, cells := 0, slots := 0, locals := 12 } : Room)
abbrev yq55 : MethodName := (⟨"com/example/spanwise/spanwise/cli/InputFile", "<init>", "(Ljava/lang/String;)V"⟩ : MethodName)
abbrev rq56 : Room := ({ frames := 2, cells := 2, slots := 8, locals := 29 } : Room)
abbrev rq57 : Room := ({ frames := 1, cells := 2, slots := 8, locals := 15 } : Room)
abbrev yq58 : MethodName := (⟨"com/example/spanwise/spanwise/cli/InputFile", "isStandardInput", "()Z"⟩ : MethodName)
abbrev yq59 : MethodName := (⟨"com/example/spanwise/spanwise/cli/InputFileIsStandardInputPinLaw", "pick", "(I)C"⟩ : MethodName)
abbrev rq60 : Room := ({ frames := 3, cells := 6, slots := 12, locals := 43 } : Room)
abbrev yq61 : MethodName := (⟨"com/example/spanwise/spanwise/cli/InputFileIsStandardInputPinLaw", "draw", "(ICCC)Ljava/lang/String;"⟩ : MethodName)
abbrev rq62 : Room := ({ frames := 4, cells := 3, slots := 6, locals := 66 } : Room)
abbrev rq63 : Room := ({ frames := 6, cells := 4, slots := 8, locals := 88 } : Room)
abbrev rq64 : Room := ({ frames := 4, cells := 3, slots := 8, locals := 66 } : Room)
abbrev rq65 : Room := ({ frames := 6, cells := 4, slots := 12, locals := 88 } : Room)
abbrev rq66 : Room := ({ frames := 4, cells := 3, slots := 10, locals := 66 } : Room)
abbrev rq67 : Room := ({ frames := 6, cells := 4, slots := 16, locals := 88 } : Room)

theorem own_w {a0 : Array Value} {Z : State} (hw : ∀ d ∈ tables_1, d.before a0 Z = true) (i : Nat) {d : Jvm.Cond} (h : tables_1[i]? = some d) : d.before a0 Z = true := hw d (List.mem_of_getElem? h)


theorem own_widen {s t : State} {o : Outcome} {L : List Loc} {k n k' n' : Nat} (h : ReturnedEndW s o t L k n) (hk : k ≤ k') (hn : n ≤ n') : ReturnedEndW s o t L k' n' := ⟨h.1, h.2.1, h.2.2.1, h.2.2.2.mono hk hn⟩
theorem own_wS {a0 : Array Value} {Z : State} (hw : ∀ d ∈ tables_1, d.before a0 Z = true) : ∀ a ∈ Bundle.stringAtoms, a.before a0 Z = true := by
  intro a ha
  simp only [Bundle.stringAtoms, List.mem_cons, List.not_mem_nil, or_false] at ha
  rcases ha with rfl | rfl | rfl | rfl | rfl | rfl | rfl
  · exact (own_w hw 27 rfl)
  · exact (own_w hw 26 rfl)
  · exact (own_w hw 42 rfl)
  · exact (own_w hw 52 rfl)
  · exact (own_w hw 50 rfl)
  · exact (own_w hw 86 rfl)
  · exact (own_w hw 87 rfl)


def own_EL : List (String × Nat) := [("com/example/spanwise/spanwise/cli/InputFile", 9), ("java/lang/String", 7)]
theorem own_EW {a0 : Array Value} {Z : State} (hw : ∀ d ∈ tables_1, d.before a0 Z = true) : EW Z a0 own_EL := (EW.cons (own_w hw 85 rfl) (by decide) (EW.cons (own_w hw 97 rfl) (by decide) EW.nil))


theorem own_nz {args : Array Value} {s : State} {t : Term} {x : Int32} (ev : t.eval args s none [] s = some (.int x)) (h : (Jvm.Cond.not (.eq t (.int 0))).value args s none s [] = some true) : ¬ (x = (0 : Int32)) := fun q => by
  subst q
  have e := eq_i ev (rfl : (Term.int 0).eval args s none [] s = some (.int 0)) rfl
  rw [not_v h] at e
  simp at e


theorem own_evI {args : Array Value} {s : State} {t : Term} {z : Int32} (h : (Jvm.Cond.eq t (.int z)).value args s none s [] = some true) : t.eval args s none [] s = some (.int z) := by
  obtain ⟨x, y, ex, ey, k1, k2⟩ := cmp_v (Or.inl h)
  have hy : y = .int z := by simpa [Term.eval] using ey.symm
  subst hy
  obtain ⟨w, rfl⟩ : ∃ w, x = .int w := k2
  have e : w = z := by simpa [Cond.value, ex, ey] using h
  subst e
  exact ex


theorem own_narB (c : Int32) : nar .byte (c.toInt8.toInt32) = c.toInt8.toInt32 := by simp [nar]
def own_Str (Z : State) (h : Heap) (a : Addr) (cs : List Int32) : Prop := ∃ b k, Exa Z h a "java/lang/String" ∧ Fld Z h a "java/lang/String" "coder" "B" (.int 0) ∧ Fld Z h a "java/lang/String" "value" "[B" (.ref b) ∧ Arv Z h b k .byte (Int32.ofNat cs.length) (cs.map fun c => Value.int c.toInt8.toInt32) (.int 0)
theorem own_strLt {Z : State} {h : Heap} {a : Addr} {cs : List Int32} (F : own_Str Z h a cs) : a < h.size := by
  obtain ⟨b, k, E, -⟩ := F
  exact E.lt
theorem own_strExt {Z : State} {h h' : Heap} {a : Addr} {cs : List Int32} (F : own_Str Z h a cs) (E : Ext h h') : own_Str Z h' a cs := by
  obtain ⟨b, k, h1, h2, h3, h4⟩ := F
  exact ⟨b, k, h1.ext E, h2.ext E, h3.ext E, h4.ext E⟩
theorem own_strKeep0 {Z : State} {h h' : Heap} {a : Addr} {cs : List Int32} (F : own_Str Z h a cs) (K : Keep h h' []) : own_Str Z h' a cs := by
  obtain ⟨b, k, h1, h2, h3, h4⟩ := F
  exact ⟨b, k, h1.keep K, h2.keep K nin0, h3.keep K nin0, h4.keep K nin0⟩
theorem own_strKeep1 {Z : State} {h h' : Heap} {a w : Addr} {cs : List Int32} {C : String} {n : Nat} {a0 : Array Value} (F : own_Str Z h a cs) (K : Keep h h' [w]) (E : Exa Z h w C) (hC : C ≠ "java/lang/String") (wi : (Jvm.Cond.instantiable C n).before a0 Z = true) : own_Str Z h' a cs := by
  obtain ⟨b, k, h1, h2, h3, h4⟩ := F
  have n1 : a ≠ w := Ne.symm (Exa.ne E h1 hC)
  have n2 : b ≠ w := Ne.symm (Exa.neArv E h4 wi)
  exact ⟨b, k, h1.keep K, h2.keep K (ninS n1 nin0), h3.keep K (ninS n1 nin0), h4.keep K (ninS n2 nin0)⟩


theorem own_safeNull {Z : State} {EL : List (String × Nat)} {vm : Vm} {h : Heap} {x : Addr} (hal : Z.vm.Alike vm) (E : Exa Z h x "java/lang/String") (F : Fld Z h x "java/lang/String" "value" "[B" .null) : Safe Z EL vm h x := fun B => by
  obtain ⟨cell, cf, k, i, f, h1, h2, h3, h4, h5, h6, h7⟩ := F
  obtain ⟨p, -, u, a, -, q, -, G, rfl | rfl⟩ := B
  · have e1 := G.ha
    cases (show h[q.sa]? = some q.sC from e1).symm.trans h1
    obtain ⟨cS, ⟨⟨-, -, -, ⟨c1, k1, i1, f1, -⟩, -, -, -, v1, -⟩, -⟩, -⟩ := G
    obtain ⟨k3, e3, -⟩ := State.fieldFound?_setVm (s := Z) hal h2
    have e4 := (show (Z.setVm vm).fieldFound? _ _ _ = _ from e3).symm.trans (show (Z.setVm vm).fieldFound? _ _ _ = _ from f1)
    simp only [Option.some.injEq, Prod.mk.injEq] at e4
    rw [← e4.2.2.2, h7] at v1
    simp at v1
  · have e1 := G.hd
    obtain ⟨cell2, k2, g1, g2, g3, -, -⟩ := E
    cases (show h[q.sd]? = some q.SA from e1).symm.trans g1
    obtain ⟨cS, -, -, f, -⟩ := G
    have f' : Z.vm.findClass "[B" = some q.SA.cls := by rw [← hal.findClass]; exact f
    exact absurd (rfl : q.SA.cls = q.SA.cls) (ids_ne g2 f' (by decide))


theorem own_strE {Z : State} {h : Heap} {a : Addr} {cs : List Int32} (F : own_Str Z h a cs) : Exa Z h a "java/lang/String" := by
  obtain ⟨b, k, E, -⟩ := F
  exact E
theorem own_metMono {l : Launch} {y : MethodName} {S : Spec} {P : Array Value → State → Prop} {K : Program → Env → List Frame → State → Array Value → Prop} {Q Q' : Array Value → State → Outcome → State → Prop} (M : MetFree l y S P K Q) (hq : ∀ a U o U', Q a U o U' → Q' a U o U') : MetFree l y S P K Q' := by
  intro p e ha hc hk s m args below hf happ hP hK
  obtain ⟨n, o, h1, h2, h3, h4⟩ := M p e ha hc hk s m args below hf happ hP hK
  exact ⟨n, o, h1, h2, h3, hq _ _ _ _ h4⟩
def own_small (cs : List Int32) : Prop := cs.length ≤ 2 ∧ ∀ c ∈ cs, 0 ≤ c.toInt ∧ c.toInt ≤ 255
theorem own_shape {cs : List Int32} (h : own_small cs) : cs = [] ∨ (∃ x, cs = [x]) ∨ ∃ x y, cs = [x, y] := by
  obtain ⟨h1, -⟩ := h
  match cs, h1 with
  | [], _ => exact Or.inl rfl
  | [x], _ => exact Or.inr (Or.inl ⟨x, rfl⟩)
  | [x, y], _ => exact Or.inr (Or.inr ⟨x, y, rfl⟩)
  | _ :: _ :: _ :: _, h => simp at h
theorem own_byteInj {x y : Int32} (hx : 0 ≤ x.toInt ∧ x.toInt ≤ 255) (hy : 0 ≤ y.toInt ∧ y.toInt ≤ 255) (h : x.toInt8.toInt32 = y.toInt8.toInt32) : x = y := by
  have a := c_i2b x
  have b := c_i2b y
  rw [h] at a
  apply Int32.toInt_inj.mp
  omega
def own_leq (a b : List Int32) : Int32 := if a = b then (1 : Int32) else (0 : Int32)

theorem pn_java_lang_StringUTF16 : plainName "java/lang/StringUTF16" = true := by first | (simp [plainName, overriddenIn]; done) | decide +kernel
theorem d9_0 : decode jdk_52_method_21_code 0 = .ok (.iconst 0, 1) := by decide +kernel
theorem d9_1 : decode jdk_52_method_21_code 1 = .ok (.istore 5, 2) := by decide +kernel
theorem d9_3 : decode jdk_52_method_21_code 3 = .ok (.iload 5, 2) := by decide +kernel
theorem d9_5 : decode jdk_52_method_21_code 5 = .ok (.iload 4, 2) := by decide +kernel
theorem d9_7 : decode jdk_52_method_21_code 7 = .ok (.if_icmp .ge 37, 3) := by decide +kernel
theorem d9_10 : decode jdk_52_method_21_code 10 = .ok (.aload_n 0, 1) := by decide +kernel
theorem d9_11 : decode jdk_52_method_21_code 11 = .ok (.iload_n 1, 1) := by decide +kernel
theorem d9_12 : decode jdk_52_method_21_code 12 = .ok (.caload, 1) := by decide +kernel
theorem d9_13 : decode jdk_52_method_21_code 13 = .ok (.istore 6, 2) := by decide +kernel
theorem d9_15 : decode jdk_52_method_21_code 15 = .ok (.iload 6, 2) := by decide +kernel
theorem d9_17 : decode jdk_52_method_21_code 17 = .ok (.sipush 255, 3) := by decide +kernel
theorem d9_20 : decode jdk_52_method_21_code 20 = .ok (.if_icmp .le 6, 3) := by decide +kernel
theorem d9_26 : decode jdk_52_method_21_code 26 = .ok (.aload_n 2, 1) := by decide +kernel
theorem d9_27 : decode jdk_52_method_21_code 27 = .ok (.iload_n 3, 1) := by decide +kernel
theorem d9_28 : decode jdk_52_method_21_code 28 = .ok (.iload 6, 2) := by decide +kernel
theorem d9_30 : decode jdk_52_method_21_code 30 = .ok (.i2b, 1) := by decide +kernel
theorem d9_31 : decode jdk_52_method_21_code 31 = .ok (.bastore, 1) := by decide +kernel
theorem d9_32 : decode jdk_52_method_21_code 32 = .ok (.iinc 1 1, 3) := by decide +kernel
theorem d9_35 : decode jdk_52_method_21_code 35 = .ok (.iinc 3 1, 3) := by decide +kernel
theorem d9_38 : decode jdk_52_method_21_code 38 = .ok (.iinc 5 1, 3) := by decide +kernel
theorem d9_41 : decode jdk_52_method_21_code 41 = .ok (.goto (-38), 3) := by decide +kernel
theorem d9_44 : decode jdk_52_method_21_code 44 = .ok (.iload 4, 2) := by decide +kernel
theorem d9_46 : decode jdk_52_method_21_code 46 = .ok (.ireturn, 1) := by decide +kernel
theorem ef_rmCmpA1 (m : MethodId) (a1 a3 : Addr) : entryFrame m #[(.ref a1), (.int 0), (.ref a3), (.int 0), (.int 1)] 7 = mkF m 0 #[.val (.ref a1), .val (.int 0), .val (.ref a3), .val (.int 0), .val (.int 1), .unset, .unset] [] := by first | (simp [entryFrame, mkF, argsToLocals, Value.category]; done) | rfl
def Q_rmCmpA1 (Z : State) (a1 a3 : Addr) (kc kb : ClassId) (c0 : Int32) (h0 : Heap) (n0 : Nat) (v : Option Value) (h : Heap) (L : List Loc) : Prop := v = some (.int 1) ∧ Fr n0 L ∧ Keep h0 h [a3] ∧ Arv Z h a3 kb .byte (1 : Int32) [(.int (c0.toInt8.toInt32))] (.int 0)
theorem rmCmpA1 (l : Launch) (Z : State) (a0 : Array Value) (hw : ∀ d ∈ tables_1, d.before a0 Z = true) (ws : List Jvm.Cond) (a1 a3 : Addr) (kc kb : ClassId) (c0 : Int32) (h0 : Heap) (n0 : Nat) (Z0 : n0 ≤ h0.size) (P0 : Arv Z h0 a1 kc .char (1 : Int32) [(.int c0)] (.int 0)) (P1 : Arv Z h0 a3 kb .byte (1 : Int32) [(.int 0)] (.int 0)) (g_a3 : n0 ≤ a3) (ne_a1_a3 : a1 ≠ a3) (hc0 : ¬ ((255 : Int32) < c0)) :
    MetFree l yq1 (head1 (Jvm.Cond.code yq1 jdk_52_method_21_code 7 (some .int) :: ws) rq0) (fun a U => a = #[(.ref a1), (.int 0), (.ref a3), (.int 0), (.int 1)] ∧ Z.Warmed39 U.vm ∧ U.heap = h0) (fun _ _ _ _ _ => True) (fun _ U o U' => ∃ v L, o = .returned v ∧ Q_rmCmpA1 Z a1 a3 kc kb c0 h0 n0 v U'.heap L ∧ FrameEnd U o U' L rq0.cells rq0.slots) := by
  refine MetFree.of_bodySF (plainFor_of_name pn_java_lang_StringUTF16) hisR ?_
  intro p e s m args below meth c s₁ Bd hml0 hP hK
  obtain ⟨rfl, hZ, hh⟩ := hP
  have hx := Bd.exec
  have hby := Bd.bytes
  have hml : c.maxLocals = 7 := hml0
  have hown : s.vm.findClass "java/lang/StringUTF16" = some m.cls := findClass_of_methodNamed Bd.named
  have hnm := (name_of_methodNamed Bd.named Bd.method).1
  have X0 : Stand p l e rq0 s m #[(.ref a1), (.int 0), (.ref a3), (.int 0), (.int 1)] below meth c s₁ [] 0 0 := Stand.of_body Bd
  have e0 : s₁.heap = h0 := by rw [← hh, Bd.state]; rfl
  have N0 := Fr.nil n0
  refine own_fw (A' := (s₁.setTop (mkF m 12 #[rv a1, iv 0, rv a3, iv 0, iv 1, iv 0, .unset] [.int 0, .ref a1]))) (fun t k => castTop (ef_rmCmpA1 m a1 a3) (XS.iconst X0.here hx rfl (hb hby d9_0) (XS.istore X0.here hx rfl (hb hby d9_1) rfl (l' := #[.val (.ref a1), .val (.int 0), .val (.ref a3), .val (.int 0), .val (.int 1), .val (.int 0), .unset]) rfl (XS.iload X0.here hx rfl (hb hby d9_3) rfl (XS.iload X0.here hx rfl (hb hby d9_5) rfl (XS.icmpNo X0.here hx rfl (hb hby d9_7) rfl (XT.ii_ge_f (by decide)) (XS.aloadN X0.here hx rfl (hb hby d9_10) rfl rfl (XS.iloadN X0.here hx rfl (hb hby d9_11) rfl k)))))))) ?_
  obtain ⟨cl1, Ar1, q1, S1, M1, H1, G1⟩ := id P0
  have hin1 : ¬ ((0 : Int32) < 0 ∨ cl1.slots.size ≤ ((0 : Int32)).toNatClampNeg) := inb_of S1 ⟨by decide, by decide⟩
  have hat1 : cl1.slots[((0 : Int32)).toNatClampNeg]? = some (.int c0) := H1.at hin1 rfl
  refine own_fw (A' := (s₁.setTop (mkF m 31 #[rv a1, iv 0, rv a3, iv 0, iv 1, iv 0, iv c0] [.int (c0.toInt8.toInt32), .int 0, .ref a3]))) (fun t k => X0.caload hx (j := (0 : Int32)) (v := (.int c0)) (by rw [e0]; exact Ar1.1) (State.isArrayOf_alike hZ.alike Ar1.2.1) Ar1.2.2 hin1 hat1 (g := (mkF m 12 #[rv a1, iv 0, rv a3, iv 0, iv 1, iv 0, .unset] [.int 0, .ref a1])) rfl rfl (hb hby d9_12) _ (XS.istore X0.here hx rfl (hb hby d9_13) rfl (l' := #[.val (.ref a1), .val (.int 0), .val (.ref a3), .val (.int 0), .val (.int 1), .val (.int 0), .val (.int c0)]) rfl (XS.iload X0.here hx rfl (hb hby d9_15) rfl (XS.sipush X0.here hx rfl (hb hby d9_17) (XS.icmpYes X0.here hx rfl (pc0 := 20) (pc' := 26) rfl (hb hby d9_20) rfl (XT.ii_le_t hc0) (by decide) (by decide) (XS.aloadN X0.here hx rfl (hb hby d9_26) rfl rfl (XS.iloadN X0.here hx rfl (hb hby d9_27) rfl (XS.iload X0.here hx rfl (hb hby d9_28) rfl (XS.i2b X0.here hx rfl (hb hby d9_30) rfl k))))))))) ?_
  obtain ⟨cl2, Ar2, q2, S2, M2, H2, G2⟩ := id P1
  have hin2 : ¬ ((0 : Int32) < 0 ∨ cl2.slots.size ≤ ((0 : Int32)).toNatClampNeg) := inb_of S2 ⟨by decide, by decide⟩
  obtain ⟨T2, h2, X2, e2, W2, st2⟩ := stB X0 hx hZ e0 Ar2 (j := (0 : Int32)) hin2 (g := (mkF m 31 #[rv a1, iv 0, rv a3, iv 0, iv 1, iv 0, iv c0] [.int (c0.toInt8.toInt32), .int 0, .ref a3])) rfl rfl (hb hby d9_31)
  rw [own_narB] at W2
  have V2 : Arv Z h2 a3 kb .byte (1 : Int32) [(.int (c0.toInt8.toInt32))] (.int 0) := Arv.set Ar2 q2 S2 M2 H2 G2 (fits_nar_byte _) W2 0 rfl (Nat.le_of_ble_eq_true rfl)
  have Nf2 := Fr.snoc X2 N0 g_a3
  have K2 : Keep h0 h2 [a3] := (Keep.refl h0 [a3]).wr W2 (Or.inl (List.mem_of_getElem? (i := 0) rfl))
  have Z2 : n0 ≤ h2.size := Nat.le_trans Z0 (Keep.of_wr W2).1
  refine own_fw (A' := (T2.setTop (mkF m 46 #[rv a1, iv 1, rv a3, iv 1, iv 1, iv 1, iv c0] [.int 1]))) (fun t k => st2 _ (XS.iinc X2.here hx rfl (hb hby d9_32) rfl (l' := #[.val (.ref a1), .val (.int 1), .val (.ref a3), .val (.int 0), .val (.int 1), .val (.int 0), .val (.int c0)]) rfl (XS.iinc X2.here hx rfl (hb hby d9_35) rfl (l' := #[.val (.ref a1), .val (.int 1), .val (.ref a3), .val (.int 1), .val (.int 1), .val (.int 0), .val (.int c0)]) rfl (XS.iinc X2.here hx rfl (hb hby d9_38) rfl (l' := #[.val (.ref a1), .val (.int 1), .val (.ref a3), .val (.int 1), .val (.int 1), .val (.int 1), .val (.int c0)]) rfl (XS.goto X2.here hx rfl (pc0 := 41) (pc' := 3) rfl (hb hby d9_41) (by decide) (by decide) (XS.iload X2.here hx rfl (hb hby d9_3) rfl (XS.iload X2.here hx rfl (hb hby d9_5) rfl (XS.icmpYes X2.here hx rfl (pc0 := 7) (pc' := 44) rfl (hb hby d9_7) rfl (XT.ii_ge_t (by decide)) (by decide) (by decide) (XS.iload X2.here hx rfl (hb hby d9_44) rfl k))))))))) ?_
  obtain ⟨fs, hr, hrun, hended, hW, hsame⟩ := X2.leave (v := some (.int 1)) (fun h => by rw [Bd.returns] at h; cases h)
  refine ⟨_, _, ?_, hrun, hended, _, _, rfl, ?_, ⟨_, rfl⟩, hW, hsame.mono (by decide) (by decide)⟩
  · exact retOut X2 hx Bd.returns rfl (Or.inl ⟨rfl, by simp, _, rfl⟩) (hb hby d9_46) hr
  · show Q_rmCmpA1 Z a1 a3 kc kb c0 h0 n0 _ T2.heap _
    rw [e2]
    exact ⟨rfl, Nf2, K2, V2⟩
theorem d8_0 : decode jdk_52_method_16_code 0 = .ok (.iload_n 2, 1) := by decide +kernel
theorem d8_1 : decode jdk_52_method_16_code 1 = .ok (.newarray .byte, 2) := by decide +kernel
theorem d8_3 : decode jdk_52_method_16_code 3 = .ok (.astore_n 3, 1) := by decide +kernel
theorem d8_4 : decode jdk_52_method_16_code 4 = .ok (.aload_n 0, 1) := by decide +kernel
theorem d8_5 : decode jdk_52_method_16_code 5 = .ok (.iload_n 1, 1) := by decide +kernel
theorem d8_6 : decode jdk_52_method_16_code 6 = .ok (.aload_n 3, 1) := by decide +kernel
theorem d8_7 : decode jdk_52_method_16_code 7 = .ok (.iconst 0, 1) := by decide +kernel
theorem d8_8 : decode jdk_52_method_16_code 8 = .ok (.iload_n 2, 1) := by decide +kernel
theorem d8_9 : decode jdk_52_method_16_code 9 = .ok (.invokestatic 115, 3) := by decide +kernel
theorem pd___CI_BII_I : parseMethodDescriptor "([CI[BII)I" = some ⟨[(.array .char), .int, (.array .byte), .int, .int], some .int⟩ := by decide +kernel
theorem d8_12 : decode jdk_52_method_16_code 12 = .ok (.istore 4, 2) := by decide +kernel
theorem d8_14 : decode jdk_52_method_16_code 14 = .ok (.iload 4, 2) := by decide +kernel
theorem d8_16 : decode jdk_52_method_16_code 16 = .ok (.iload_n 2, 1) := by decide +kernel
theorem d8_17 : decode jdk_52_method_16_code 17 = .ok (.if_icmp .eq 40, 3) := by decide +kernel
theorem d8_57 : decode jdk_52_method_16_code 57 = .ok (.aload_n 3, 1) := by decide +kernel
theorem d8_58 : decode jdk_52_method_16_code 58 = .ok (.areturn, 1) := by decide +kernel
theorem ef_rmCmpB1 (m : MethodId) (a1 : Addr) : entryFrame m #[(.ref a1), (.int 0), (.int 1)] 6 = mkF m 0 #[.val (.ref a1), .val (.int 0), .val (.int 1), .unset, .unset, .unset] [] := by first | (simp [entryFrame, mkF, argsToLocals, Value.category]; done) | rfl
def Q_rmCmpB1 (Z : State) (a1 : Addr) (kc : ClassId) (c0 : Int32) (h0 : Heap) (n0 : Nat) (v : Option Value) (h : Heap) (L : List Loc) : Prop := ∃ b : Addr, ∃ kb : ClassId, v = some (.ref b) ∧ Fr n0 L ∧ Keep h0 h [] ∧ Arv Z h b kb .byte (1 : Int32) [(.int (c0.toInt8.toInt32))] (.int 0) ∧ (h0.size ≤ b)
theorem rmCmpB1 (l : Launch) (Z : State) (a0 : Array Value) (hw : ∀ d ∈ tables_1, d.before a0 Z = true) (ws : List Jvm.Cond) (a1 : Addr) (kc : ClassId) (c0 : Int32) (h0 : Heap) (n0 : Nat) (Z0 : n0 ≤ h0.size) (P0 : Arv Z h0 a1 kc .char (1 : Int32) [(.int c0)] (.int 0)) (hc0 : ¬ ((255 : Int32) < c0)) :
    MetFree l yq3 (head1 (Jvm.Cond.code yq3 jdk_52_method_16_code 6 (some (.array .byte)) :: ws) rq2) (fun a U => a = #[(.ref a1), (.int 0), (.int 1)] ∧ Z.Warmed39 U.vm ∧ U.heap = h0) (fun _ _ _ _ _ => True) (fun _ U o U' => ∃ v L, o = .returned v ∧ Q_rmCmpB1 Z a1 kc c0 h0 n0 v U'.heap L ∧ FrameEnd U o U' L rq2.cells rq2.slots) := by
  refine MetFree.of_bodySF (plainFor_of_name pn_java_lang_StringUTF16) hisR ?_
  intro p e s m args below meth c s₁ Bd hml0 hP hK
  obtain ⟨rfl, hZ, hh⟩ := hP
  have hx := Bd.exec
  have hby := Bd.bytes
  have hml : c.maxLocals = 6 := hml0
  have hown : s.vm.findClass "java/lang/StringUTF16" = some m.cls := findClass_of_methodNamed Bd.named
  have hnm := (name_of_methodNamed Bd.named Bd.method).1
  have X0 : Stand p l e rq2 s m #[(.ref a1), (.int 0), (.int 1)] below meth c s₁ [] 0 0 := Stand.of_body Bd
  have e0 : s₁.heap = h0 := by rw [← hh, Bd.state]; rfl
  have N0 := Fr.nil n0
  refine own_fw (A' := (s₁.setTop (mkF m 1 #[rv a1, iv 0, iv 1, .unset, .unset, .unset] [.int 1]))) (fun t k => castTop (ef_rmCmpB1 m a1) (XS.iloadN X0.here hx rfl (hb hby d8_0) rfl k)) ?_
  obtain ⟨T1, h1, k1, X1, e1, E1, A1, st1⟩ := newP X0 hx hZ (own_w hw 42 rfl) e0 (g := (mkF m 1 #[rv a1, iv 0, iv 1, .unset, .unset, .unset] [.int 1])) rfl (hb hby d8_1) rfl (by decide) (cap := 1) (by decide) (by decide) (by decide) (by decide)
  obtain ⟨b1, gb1⟩ : ∃ z, z = h0.size := ⟨_, rfl⟩
  have g_b1 : n0 ≤ b1 := Nat.le_trans Z0 (Nat.le_of_eq gb1.symm)
  have sz_b1 : h0.size ≤ b1 := Nat.le_trans (Keep.refl h0 []).1 (Nat.le_of_eq gb1.symm)
  have ne_a1_b1 : a1 ≠ b1 := Nat.ne_of_lt (Nat.lt_of_lt_of_le P0.lt (Nat.le_of_eq gb1.symm))
  rw [← gb1] at A1 st1
  have V_b1 : Arv Z h1 b1 k1 .byte (1 : Int32) [(.int 0)] (.int 0) := (Arv.new A1 (by decide)).pad (pad_rep [] (.int 0) 1)
  have K1 : Keep h0 h1 [] := (Keep.refl h0 []).ext E1
  have Z1 : n0 ≤ h1.size := Nat.le_trans Z0 E1.1
  refine own_fw (A' := (T1.setTop (mkF m 9 #[rv a1, iv 0, iv 1, rv b1, .unset, .unset] [.int 1, .int 0, .ref b1, .int 0, .ref a1]))) (fun t k => st1 _ (XS.astoreN X1.here hx rfl (hb hby d8_3) rfl rfl (l' := #[.val (.ref a1), .val (.int 0), .val (.int 1), .val (.ref b1), .unset, .unset]) rfl (XS.aloadN X1.here hx rfl (hb hby d8_4) rfl rfl (XS.iloadN X1.here hx rfl (hb hby d8_5) rfl (XS.aloadN X1.here hx rfl (hb hby d8_6) rfl rfl (XS.iconst X1.here hx rfl (hb hby d8_7) (XS.iloadN X1.here hx rfl (hb hby d8_8) rfl k))))))) ?_
  obtain ⟨_, _, ⟨T2, L2, k2, n2⟩, -, X2, ⟨Lc2, hQ2, l2, y2, z2⟩, st2⟩ := Jvm.LawKit.callS X1 hx (y := yq1) hown (mvT hZ (own_w hw 43 rfl)) (mvT hZ (own_w hw 44 rfl)) (mvT hZ (own_w hw 40 rfl)) (mvT hZ (own_w hw 45 rfl)) (by decide) (backOf (W := 0) (rmCmpA1 l Z a0 hw [] a1 b1 kc k1 c0 h1 n0 Z1 (P0.ext E1) V_b1 g_b1 ne_a1_b1 hc0) hZ (own_w hw 45 rfl) (own_w hw 40 rfl) (by decide) (by decide)) (g := (mkF m 9 #[rv a1, iv 0, iv 1, rv b1, .unset, .unset] [.int 1, .int 0, .ref b1, .int 0, .ref a1])) rfl (by rw [hml]; rfl) (argsL := [(.ref a1), (.int 0), (.ref b1), (.int 0), (.int 1)]) (rest := []) (lenOf pd___CI_BII_I rfl) rfl (by show 2 * 0 + _ ≤ _; exact Nat.le_of_eq rfl) (hb hby d8_9) (fun _ _ => ⟨rfl, e1, (by decide : 1 + 0 ≤ _), (by decide : 1 + 0 ≤ _)⟩)
  dsimp only [Pt.U, Pt.locs, Pt.cells, Pt.slots] at X2 l2 y2 z2 st2 hQ2
  subst l2 y2 z2
  obtain ⟨rfl, Nq2, Kq2, Fq2_0⟩ := hQ2
  have Nf2 := Fr.app N0 Nq2
  have K2 : Keep h0 T2.heap [] := K1.trans Kq2 (allS (Or.inr sz_b1) all0)
  have Z2 : n0 ≤ T2.heap.size := Nat.le_trans Z1 Kq2.1
  refine own_fw (A' := (T2.setTop (mkF m 58 #[rv a1, iv 0, iv 1, rv b1, iv 1, .unset] [.ref b1]))) (fun t k => st2 _ (XS.istore X2.here hx rfl (hb hby d8_12) rfl (l' := #[.val (.ref a1), .val (.int 0), .val (.int 1), .val (.ref b1), .val (.int 1), .unset]) rfl (XS.iload X2.here hx rfl (hb hby d8_14) rfl (XS.iloadN X2.here hx rfl (hb hby d8_16) rfl (XS.icmpYes X2.here hx rfl (pc0 := 17) (pc' := 57) rfl (hb hby d8_17) rfl (XT.ii_eq_t rfl) (by decide) (by decide) (XS.aloadN X2.here hx rfl (hb hby d8_57) rfl rfl k)))))) ?_
  obtain ⟨fs, hr, hrun, hended, hW, hsame⟩ := X2.leave (v := some (.ref b1)) (fun h => by rw [Bd.returns] at h; cases h)
  refine ⟨_, _, ?_, hrun, hended, _, _, rfl, ?_, ⟨_, rfl⟩, hW, hsame.mono (by decide) (by decide)⟩
  · exact retOut X2 hx Bd.returns rfl (Or.inr (Or.inr (Or.inr (Or.inr ⟨rfl, rfl, rfl⟩)))) (hb hby d8_58) hr
  · show Q_rmCmpB1 Z a1 kc c0 h0 n0 _ T2.heap _
    exact ⟨b1, k1, rfl, Nf2, K2, Fq2_0, sz_b1⟩
theorem d10_0 : decode jdk_52_method_15_code 0 = .ok (.iload_n 1, 1) := by decide +kernel
theorem d10_1 : decode jdk_52_method_15_code 1 = .ok (.aload_n 0, 1) := by decide +kernel
theorem d10_2 : decode jdk_52_method_15_code 2 = .ok (.arraylength, 1) := by decide +kernel
theorem d10_3 : decode jdk_52_method_15_code 3 = .ok (.isub, 1) := by decide +kernel
theorem d10_4 : decode jdk_52_method_15_code 4 = .ok (.bipush 31, 2) := by decide +kernel
theorem d10_6 : decode jdk_52_method_15_code 6 = .ok (.iushr, 1) := by decide +kernel
theorem d10_7 : decode jdk_52_method_15_code 7 = .ok (.i2b, 1) := by decide +kernel
theorem d10_8 : decode jdk_52_method_15_code 8 = .ok (.ireturn, 1) := by decide +kernel
theorem ef_rmCoder1 (m : MethodId) (a1 : Addr) : entryFrame m #[(.ref a1), (.int 1)] 2 = mkF m 0 #[.val (.ref a1), .val (.int 1)] [] := by first | (simp [entryFrame, mkF, argsToLocals, Value.category]; done) | rfl
def Q_rmCoder1 (Z : State) (a1 : Addr) (kb : ClassId) (c0 : Int32) (h0 : Heap) (n0 : Nat) (v : Option Value) (h : Heap) (L : List Loc) : Prop := v = some (.int 0) ∧ Fr n0 L ∧ h = h0
theorem rmCoder1 (l : Launch) (Z : State) (a0 : Array Value) (hw : ∀ d ∈ tables_1, d.before a0 Z = true) (ws : List Jvm.Cond) (a1 : Addr) (kb : ClassId) (c0 : Int32) (h0 : Heap) (n0 : Nat) (Z0 : n0 ≤ h0.size) (P0 : Arv Z h0 a1 kb .byte (1 : Int32) [(.int c0)] (.int 0)) :
    MetFree l yq4 (head1 (Jvm.Cond.code yq4 jdk_52_method_15_code 2 (some .byte) :: ws) rq0) (fun a U => a = #[(.ref a1), (.int 1)] ∧ Z.Warmed39 U.vm ∧ U.heap = h0) (fun _ _ _ _ _ => True) (fun _ U o U' => ∃ v L, o = .returned v ∧ Q_rmCoder1 Z a1 kb c0 h0 n0 v U'.heap L ∧ FrameEnd U o U' L rq0.cells rq0.slots) := by
  refine MetFree.of_bodySF (plainFor_of_name pn_java_lang_StringUTF16) hisR ?_
  intro p e s m args below meth c s₁ Bd hml0 hP hK
  obtain ⟨rfl, hZ, hh⟩ := hP
  have hx := Bd.exec
  have hby := Bd.bytes
  have hml : c.maxLocals = 2 := hml0
  have hown : s.vm.findClass "java/lang/StringUTF16" = some m.cls := findClass_of_methodNamed Bd.named
  have hnm := (name_of_methodNamed Bd.named Bd.method).1
  have X0 : Stand p l e rq0 s m #[(.ref a1), (.int 1)] below meth c s₁ [] 0 0 := Stand.of_body Bd
  have e0 : s₁.heap = h0 := by rw [← hh, Bd.state]; rfl
  have N0 := Fr.nil n0
  refine own_fw (A' := (s₁.setTop (mkF m 2 #[rv a1, iv 1] [.ref a1, .int 1]))) (fun t k => castTop (ef_rmCoder1 m a1) (XS.iloadN X0.here hx rfl (hb hby d10_0) rfl (XS.aloadN X0.here hx rfl (hb hby d10_1) rfl rfl k))) ?_
  obtain ⟨cl1, Ar1, q1, S1, M1, H1, G1⟩ := id P0
  refine own_fw (A' := (s₁.setTop (mkF m 3 #[rv a1, iv 1] [.int 1, .int 1]))) (fun t k => X0.arraylength hx (by rw [e0]; exact Ar1.1) (State.isArrayOf_alike hZ.alike Ar1.2.1) (g := (mkF m 2 #[rv a1, iv 1] [.ref a1, .int 1])) rfl rfl (hb hby d10_2) _ (by rw [len_of S1 M1]; exact k)) ?_
  refine own_fw (A' := (s₁.setTop (mkF m 8 #[rv a1, iv 1] [.int 0]))) (fun t k => XS.isub X0.here hx rfl (hb hby d10_3) rfl (XS.bipush X0.here hx rfl (hb hby d10_4) (XS.iushr X0.here hx rfl (hb hby d10_6) rfl (XS.i2b X0.here hx rfl (hb hby d10_7) rfl k)))) ?_
  obtain ⟨fs, hr, hrun, hended, hW, hsame⟩ := X0.leave (v := some (.int 0)) (fun h => by rw [Bd.returns] at h; cases h)
  refine ⟨_, _, ?_, hrun, hended, _, _, rfl, ?_, ⟨_, rfl⟩, hW, hsame.mono (by decide) (by decide)⟩
  · exact retOut X0 hx Bd.returns rfl (Or.inl ⟨rfl, by simp, _, rfl⟩) (hb hby d10_8) hr
  · show Q_rmCoder1 Z a1 kb c0 h0 n0 _ s₁.heap _
    rw [e0]
    exact ⟨rfl, N0, rfl⟩
theorem pn_java_lang_String : plainName "java/lang/String" = true := by first | (simp [plainName, overriddenIn]; done) | decide +kernel
theorem d7_0 : decode jdk_42_method_149_code 0 = .ok (.aload_n 0, 1) := by decide +kernel
theorem d7_1 : decode jdk_42_method_149_code 1 = .ok (.invokespecial 1, 3) := by decide +kernel
theorem d7_4 : decode jdk_42_method_149_code 4 = .ok (.iload_n 3, 1) := by decide +kernel
theorem d7_5 : decode jdk_42_method_149_code 5 = .ok (.ifCond .ne 22, 3) := by decide +kernel
theorem d7_27 : decode jdk_42_method_149_code 27 = .ok (.getstatic 38, 3) := by decide +kernel
theorem d7_30 : decode jdk_42_method_149_code 30 = .ok (.ifCond .eq 28, 3) := by decide +kernel
theorem d7_33 : decode jdk_42_method_149_code 33 = .ok (.aload_n 1, 1) := by decide +kernel
theorem d7_34 : decode jdk_42_method_149_code 34 = .ok (.iload_n 2, 1) := by decide +kernel
theorem d7_35 : decode jdk_42_method_149_code 35 = .ok (.iload_n 3, 1) := by decide +kernel
theorem d7_36 : decode jdk_42_method_149_code 36 = .ok (.invokestatic 177, 3) := by decide +kernel
theorem pd___CII__B : parseMethodDescriptor "([CII)[B" = some ⟨[(.array .char), .int, .int], some (.array .byte)⟩ := by decide +kernel
theorem d7_39 : decode jdk_42_method_149_code 39 = .ok (.astore 5, 2) := by decide +kernel
theorem d7_41 : decode jdk_42_method_149_code 41 = .ok (.aload_n 0, 1) := by decide +kernel
theorem d7_42 : decode jdk_42_method_149_code 42 = .ok (.aload 5, 2) := by decide +kernel
theorem d7_44 : decode jdk_42_method_149_code 44 = .ok (.iload_n 3, 1) := by decide +kernel
theorem d7_45 : decode jdk_42_method_149_code 45 = .ok (.invokestatic 47, 3) := by decide +kernel
theorem pd___BI_B : parseMethodDescriptor "([BI)B" = some ⟨[(.array .byte), .int], some .byte⟩ := by decide +kernel
theorem d7_48 : decode jdk_42_method_149_code 48 = .ok (.putfield 15, 3) := by decide +kernel
theorem d7_51 : decode jdk_42_method_149_code 51 = .ok (.aload_n 0, 1) := by decide +kernel
theorem d7_52 : decode jdk_42_method_149_code 52 = .ok (.aload 5, 2) := by decide +kernel
theorem d7_54 : decode jdk_42_method_149_code 54 = .ok (.putfield 9, 3) := by decide +kernel
theorem d7_57 : decode jdk_42_method_149_code 57 = .ok (.return_, 1) := by decide +kernel
theorem ef_rmStrB1 (m : MethodId) (a1 a2 : Addr) : entryFrame m #[(.ref a1), (.ref a2), (.int 0), (.int 1), .null] 6 = mkF m 0 #[.val (.ref a1), .val (.ref a2), .val (.int 0), .val (.int 1), .val .null, .unset] [] := by first | (simp [entryFrame, mkF, argsToLocals, Value.category]; done) | rfl
def Q_rmStrB1 (Z : State) (a1 a2 : Addr) (kc : ClassId) (cs c0 : Int32) (h0 : Heap) (n0 : Nat) (v : Option Value) (h : Heap) (L : List Loc) : Prop := ∃ b : Addr, ∃ kb : ClassId, v = none ∧ Fr n0 L ∧ Keep h0 h [a1] ∧ Exa Z h a1 "java/lang/String" ∧ Fld Z h a1 "java/lang/String" "coder" "B" (.int 0) ∧ Fld Z h a1 "java/lang/String" "value" "[B" (.ref b) ∧ Arv Z h b kb .byte (1 : Int32) [(.int (c0.toInt8.toInt32))] (.int 0)
theorem rmStrB1 (l : Launch) (Z : State) (a0 : Array Value) (hw : ∀ d ∈ tables_1, d.before a0 Z = true) (ws : List Jvm.Cond) (a1 a2 : Addr) (kc : ClassId) (cs c0 : Int32) (h0 : Heap) (n0 : Nat) (Z0 : n0 ≤ h0.size) (P0 : Exa Z h0 a1 "java/lang/String") (P1 : Fld Z h0 a1 "java/lang/String" "coder" "B" (.int 0)) (P2 : Fld Z h0 a1 "java/lang/String" "value" "[B" .null) (P3 : Arv Z h0 a2 kc .char (1 : Int32) [(.int c0)] (.int 0)) (g_a1 : n0 ≤ a1) (ne_a1_a2 : a1 ≠ a2) (P6 : Sta Z h0 "java/lang/String" "COMPACT_STRINGS" "Z" (.int cs)) (hcs : ¬ (cs = (0 : Int32))) (hc0 : ¬ ((255 : Int32) < c0)) :
    MetFree l yq6 (head1 (Jvm.Cond.code yq6 jdk_42_method_149_code 6 none :: ws) rq5) (fun a U => a = #[(.ref a1), (.ref a2), (.int 0), (.int 1), .null] ∧ Z.Warmed39 U.vm ∧ U.heap = h0) (fun _ _ _ _ _ => True) (fun _ U o U' => ∃ v L, o = .returned v ∧ Q_rmStrB1 Z a1 a2 kc cs c0 h0 n0 v U'.heap L ∧ FrameEnd U o U' L rq5.cells rq5.slots) := by
  refine MetFree.of_bodySF (plainFor_of_name pn_java_lang_String) hisR ?_
  intro p e s m args below meth c s₁ Bd hml0 hP hK
  obtain ⟨rfl, hZ, hh⟩ := hP
  have hx := Bd.exec
  have hby := Bd.bytes
  have hml : c.maxLocals = 6 := hml0
  have hown : s.vm.findClass "java/lang/String" = some m.cls := findClass_of_methodNamed Bd.named
  have hnm := (name_of_methodNamed Bd.named Bd.method).1
  have X0 : Stand p l e rq5 s m #[(.ref a1), (.ref a2), (.int 0), (.int 1), .null] below meth c s₁ [] 0 0 := Stand.of_body Bd
  have e0 : s₁.heap = h0 := by rw [← hh, Bd.state]; rfl
  have N0 := Fr.nil n0
  refine own_fw (A' := (s₁.setTop (mkF m 1 #[rv a1, rv a2, iv 0, iv 1, .val (.null), .unset] [.ref a1]))) (fun t k => castTop (ef_rmStrB1 m a1 a2) (XS.aloadN X0.here hx rfl (hb hby d7_0) rfl rfl k)) ?_
  obtain ⟨T1, X1, e1, st1⟩ := initO X0 hx hZ hown (own_w hw 36 rfl) (own_w hw 7 rfl) (own_w hw 8 rfl) e0 (g := (mkF m 1 #[rv a1, rv a2, iv 0, iv 1, .val (.null), .unset] [.ref a1])) rfl (by rw [hml]; rfl) rfl (hb hby d7_1) (by decide) (W := 0) (by show 2 * 0 + _ ≤ _; exact Nat.le_of_eq rfl) (by decide)
  refine own_fw (A' := (T1.setTop (mkF m 27 #[rv a1, rv a2, iv 0, iv 1, .val (.null), .unset] []))) (fun t k => st1 _ (XS.iloadN X1.here hx rfl (hb hby d7_4) rfl (XS.ifYes X1.here hx rfl (pc0 := 5) (pc' := 27) rfl (hb hby d7_5) rfl (XT.i0_ne_t (by decide)) (by decide) (by decide) k))) ?_
  obtain ⟨T2, X2, e2, st2⟩ := getS2 X1 hx hZ hown (host := "") (Or.inl (own_w hw 37 rfl)) Via.refl e1 P6 (g := (mkF m 27 #[rv a1, rv a2, iv 0, iv 1, .val (.null), .unset] [])) rfl (hb hby d7_27)
  refine own_fw (A' := (T2.setTop (mkF m 36 #[rv a1, rv a2, iv 0, iv 1, .val (.null), .unset] [.int 1, .int 0, .ref a2]))) (fun t k => st2 _ (XS.ifNo X2.here hx rfl (hb hby d7_30) rfl (XT.i0_eq_f hcs) (XS.aloadN X2.here hx rfl (hb hby d7_33) rfl rfl (XS.iloadN X2.here hx rfl (hb hby d7_34) rfl (XS.iloadN X2.here hx rfl (hb hby d7_35) rfl k))))) ?_
  obtain ⟨_, _, ⟨T3, L3, k3, n3⟩, -, X3, ⟨Lc3, hQ3, l3, y3, z3⟩, st3⟩ := Jvm.LawKit.callS X2 hx (y := yq3) hown (mvT hZ (own_w hw 38 rfl)) (mvT hZ (own_w hw 39 rfl)) (mvT hZ (own_w hw 40 rfl)) (mvT hZ (own_w hw 41 rfl)) (by decide) (backOf (W := 0) (rmCmpB1 l Z a0 hw [] a2 kc c0 h0 n0 Z0 P3 hc0) hZ (own_w hw 41 rfl) (own_w hw 40 rfl) (by decide) (by decide)) (g := (mkF m 36 #[rv a1, rv a2, iv 0, iv 1, .val (.null), .unset] [.int 1, .int 0, .ref a2])) rfl (by rw [hml]; rfl) (argsL := [(.ref a2), (.int 0), (.int 1)]) (rest := []) (lenOf pd___CII__B rfl) rfl (by show 2 * 0 + _ ≤ _; exact Nat.le_of_eq rfl) (hb hby d7_36) (fun _ _ => ⟨rfl, e2, (by decide : 0 + 1 ≤ _), (by decide : 0 + 1 ≤ _)⟩)
  dsimp only [Pt.U, Pt.locs, Pt.cells, Pt.slots] at X3 l3 y3 z3 st3 hQ3
  subst l3 y3 z3
  obtain ⟨b_3, kb_3, rfl, Nq3, Kq3, Fq3_0, gb_3⟩ := hQ3
  have Nf3 := Fr.app N0 Nq3
  have K3 : Keep h0 T3.heap [a1] := (Keep.refl h0 [a1]).trans Kq3 all0
  have sz_b_3 : h0.size ≤ b_3 := Nat.le_trans (Keep.refl h0 [a1]).1 gb_3
  have g_b_3 : n0 ≤ b_3 := Nat.le_trans Z0 gb_3
  have ne_a1_b_3 : a1 ≠ b_3 := Nat.ne_of_lt (Nat.lt_of_lt_of_le P0.lt gb_3)
  have ne_a2_b_3 : a2 ≠ b_3 := Nat.ne_of_lt (Nat.lt_of_lt_of_le P3.lt gb_3)
  have Z3 : n0 ≤ T3.heap.size := Nat.le_trans Z0 Kq3.1
  refine own_fw (A' := (T3.setTop (mkF m 45 #[rv a1, rv a2, iv 0, iv 1, .val (.null), rv b_3] [.int 1, .ref b_3, .ref a1]))) (fun t k => st3 _ (XS.astore X3.here hx rfl (hb hby d7_39) rfl rfl (l' := #[.val (.ref a1), .val (.ref a2), .val (.int 0), .val (.int 1), .val .null, .val (.ref b_3)]) rfl (XS.aloadN X3.here hx rfl (hb hby d7_41) rfl rfl (XS.aload X3.here hx rfl (hb hby d7_42) rfl rfl (XS.iloadN X3.here hx rfl (hb hby d7_44) rfl k))))) ?_
  obtain ⟨_, _, ⟨T4, L4, k4, n4⟩, -, X4, ⟨Lc4, hQ4, l4, y4, z4⟩, st4⟩ := Jvm.LawKit.callS X3 hx (y := yq4) hown (mvT hZ (own_w hw 46 rfl)) (mvT hZ (own_w hw 47 rfl)) (mvT hZ (own_w hw 40 rfl)) (mvT hZ (own_w hw 48 rfl)) (by decide) (backOf (W := 1) (rmCoder1 l Z a0 hw [] b_3 kb_3 (c0.toInt8.toInt32) T3.heap n0 Z3 Fq3_0) hZ (own_w hw 48 rfl) (own_w hw 40 rfl) (by decide) (by decide)) (g := (mkF m 45 #[rv a1, rv a2, iv 0, iv 1, .val (.null), rv b_3] [.int 1, .ref b_3, .ref a1])) rfl (by rw [hml]; rfl) (argsL := [(.ref b_3), (.int 1)]) (rest := [(.ref a1)]) (lenOf pd___BI_B rfl) rfl (by show 2 * 0 + _ ≤ _; exact Nat.le_of_eq rfl) (hb hby d7_45) (fun _ _ => ⟨rfl, rfl, (by decide : 1 + 0 ≤ _), (by decide : 1 + 0 ≤ _)⟩)
  dsimp only [Pt.U, Pt.locs, Pt.cells, Pt.slots] at X4 l4 y4 z4 st4 hQ4
  subst l4 y4 z4
  obtain ⟨rfl, Nq4, e4⟩ := hQ4
  have Nf4 := Fr.app Nf3 Nq4
  refine own_fw (A' := (T4.setTop (mkF m 48 #[rv a1, rv a2, iv 0, iv 1, .val (.null), rv b_3] [.int 0, .ref a1]))) (fun t k => st4 _ k) ?_
  obtain ⟨T5, h5, X5, e5, W5, st5⟩ := putFN X4 hx hZ hown (own_w hw 49 rfl) Via.refl e4 (P1.keep Kq3 nin0) (P0.keep Kq3) (Or.inr ⟨(own_w hw 50 rfl), rfl, hnm⟩) (own_w hw 26 rfl) (ty := .byte) (v' := (.int 0)) (by decide) rfl rfl (g := (mkF m 48 #[rv a1, rv a2, iv 0, iv 1, .val (.null), rv b_3] [.int 0, .ref a1])) rfl rfl (hb hby d7_48)
  have Fw5 : Fld Z h5 a1 "java/lang/String" "coder" "B" (.int 0) := (P1.keep Kq3 nin0).same W5
  have Nf5 := Fr.snoc X5 Nf4 g_a1
  have K5 : Keep h0 h5 [a1] := K3.wr W5 (Or.inl (List.mem_of_getElem? (i := 0) rfl))
  have Z5 : n0 ≤ h5.size := Nat.le_trans Z3 (Keep.of_wr W5).1
  refine own_fw (A' := (T5.setTop (mkF m 54 #[rv a1, rv a2, iv 0, iv 1, .val (.null), rv b_3] [.ref b_3, .ref a1]))) (fun t k => st5 _ (XS.aloadN X5.here hx rfl (hb hby d7_51) rfl rfl (XS.aload X5.here hx rfl (hb hby d7_52) rfl rfl k))) ?_
  obtain ⟨T6, h6, X6, e6, W6, st6⟩ := putF X5 hx hZ hown (host := "") (Or.inl (own_w hw 51 rfl)) Via.refl e5 ((P2.keep Kq3 nin0).other W5 (Or.inr (slot_ne (Or.inr (own_w hw 52 rfl)) (Or.inr (own_w hw 50 rfl)) (by decide) (t := (.array .byte)) (t' := .byte) (by decide) (by decide)))) ((P0.keep Kq3).wr W5) (Or.inr ⟨(own_w hw 52 rfl), rfl, hnm⟩) (own_w hw 26 rfl) (ty := (.array .byte)) (by decide) rfl rfl (g := (mkF m 54 #[rv a1, rv a2, iv 0, iv 1, .val (.null), rv b_3] [.ref b_3, .ref a1])) rfl rfl (hb hby d7_54)
  have Fw6 : Fld Z h6 a1 "java/lang/String" "value" "[B" (.ref b_3) := ((P2.keep Kq3 nin0).other W5 (Or.inr (slot_ne (Or.inr (own_w hw 52 rfl)) (Or.inr (own_w hw 50 rfl)) (by decide) (t := (.array .byte)) (t' := .byte) (by decide) (by decide)))).same W6
  have Nf6 := Fr.snoc X6 Nf5 g_a1
  have K6 : Keep h0 h6 [a1] := K5.wr W6 (Or.inl (List.mem_of_getElem? (i := 0) rfl))
  have Z6 : n0 ≤ h6.size := Nat.le_trans Z5 (Keep.of_wr W6).1
  refine own_fw (A' := (T6.setTop (mkF m 57 #[rv a1, rv a2, iv 0, iv 1, .val (.null), rv b_3] []))) (fun t k => st6 _ k) ?_
  obtain ⟨fs, hr, hrun, hended, hW, hsame⟩ := X6.leave (v := none) (fun _ => rfl)
  refine ⟨_, _, ?_, hrun, hended, _, _, rfl, ?_, ⟨_, rfl⟩, hW, hsame.mono (by decide) (by decide)⟩
  · exact X6.returnOut hx Bd.returns (hb hby d7_57) hr
  · show Q_rmStrB1 Z a1 a2 kc cs c0 h0 n0 _ T6.heap _
    rw [e6]
    exact ⟨b_3, kb_3, rfl, Nf6, K6, (((P0.keep Kq3).wr W5).wr W6), (Fw5.other W6 (Or.inr (slot_ne (Or.inr (own_w hw 50 rfl)) (Or.inr (own_w hw 52 rfl)) (by decide) (t := .byte) (t' := (.array .byte)) (by decide) (by decide)))), Fw6, ((Fq3_0.other W5 (Ne.symm ne_a1_b_3)).other W6 (Ne.symm ne_a1_b_3))⟩
theorem d6_0 : decode jdk_42_method_3_code 0 = .ok (.aload_n 0, 1) := by decide +kernel
theorem d6_1 : decode jdk_42_method_3_code 1 = .ok (.aload_n 1, 1) := by decide +kernel
theorem d6_2 : decode jdk_42_method_3_code 2 = .ok (.iconst 0, 1) := by decide +kernel
theorem d6_3 : decode jdk_42_method_3_code 3 = .ok (.aload_n 1, 1) := by decide +kernel
theorem d6_4 : decode jdk_42_method_3_code 4 = .ok (.arraylength, 1) := by decide +kernel
theorem d6_5 : decode jdk_42_method_3_code 5 = .ok (.aconst_null, 1) := by decide +kernel
theorem d6_6 : decode jdk_42_method_3_code 6 = .ok (.invokespecial 27, 3) := by decide +kernel
theorem pd___CIILjava_lang_Void__V : parseMethodDescriptor "([CIILjava/lang/Void;)V" = some ⟨[(.array .char), .int, .int, (.object "java/lang/Void")], none⟩ := by decide +kernel
theorem d6_9 : decode jdk_42_method_3_code 9 = .ok (.return_, 1) := by decide +kernel
theorem ef_rmStrA1 (m : MethodId) (a1 a2 : Addr) : entryFrame m #[(.ref a1), (.ref a2)] 2 = mkF m 0 #[.val (.ref a1), .val (.ref a2)] [] := by first | (simp [entryFrame, mkF, argsToLocals, Value.category]; done) | rfl
def Q_rmStrA1 (Z : State) (a1 a2 : Addr) (kc : ClassId) (cs c0 : Int32) (h0 : Heap) (n0 : Nat) (v : Option Value) (h : Heap) (L : List Loc) : Prop := ∃ b : Addr, ∃ kb : ClassId, v = none ∧ Fr n0 L ∧ Keep h0 h [a1] ∧ Exa Z h a1 "java/lang/String" ∧ Fld Z h a1 "java/lang/String" "coder" "B" (.int 0) ∧ Fld Z h a1 "java/lang/String" "value" "[B" (.ref b) ∧ Arv Z h b kb .byte (1 : Int32) [(.int (c0.toInt8.toInt32))] (.int 0)
theorem rmStrA1 (l : Launch) (Z : State) (a0 : Array Value) (hw : ∀ d ∈ tables_1, d.before a0 Z = true) (ws : List Jvm.Cond) (a1 a2 : Addr) (kc : ClassId) (cs c0 : Int32) (h0 : Heap) (n0 : Nat) (Z0 : n0 ≤ h0.size) (P0 : Exa Z h0 a1 "java/lang/String") (P1 : Fld Z h0 a1 "java/lang/String" "coder" "B" (.int 0)) (P2 : Fld Z h0 a1 "java/lang/String" "value" "[B" .null) (P3 : Arv Z h0 a2 kc .char (1 : Int32) [(.int c0)] (.int 0)) (g_a1 : n0 ≤ a1) (ne_a1_a2 : a1 ≠ a2) (P6 : Sta Z h0 "java/lang/String" "COMPACT_STRINGS" "Z" (.int cs)) (hcs : ¬ (cs = (0 : Int32))) (hc0 : ¬ ((255 : Int32) < c0)) :
    MetFree l yq8 (head1 (Jvm.Cond.code yq8 jdk_42_method_3_code 2 none :: ws) rq7) (fun a U => a = #[(.ref a1), (.ref a2)] ∧ Z.Warmed39 U.vm ∧ U.heap = h0) (fun _ _ _ _ _ => True) (fun _ U o U' => ∃ v L, o = .returned v ∧ Q_rmStrA1 Z a1 a2 kc cs c0 h0 n0 v U'.heap L ∧ FrameEnd U o U' L rq7.cells rq7.slots) := by
  refine MetFree.of_bodySF (plainFor_of_name pn_java_lang_String) hisR ?_
  intro p e s m args below meth c s₁ Bd hml0 hP hK
  obtain ⟨rfl, hZ, hh⟩ := hP
  have hx := Bd.exec
  have hby := Bd.bytes
  have hml : c.maxLocals = 2 := hml0
  have hown : s.vm.findClass "java/lang/String" = some m.cls := findClass_of_methodNamed Bd.named
  have hnm := (name_of_methodNamed Bd.named Bd.method).1
  have X0 : Stand p l e rq7 s m #[(.ref a1), (.ref a2)] below meth c s₁ [] 0 0 := Stand.of_body Bd
  have e0 : s₁.heap = h0 := by rw [← hh, Bd.state]; rfl
  have N0 := Fr.nil n0
  refine own_fw (A' := (s₁.setTop (mkF m 4 #[rv a1, rv a2] [.ref a2, .int 0, .ref a2, .ref a1]))) (fun t k => castTop (ef_rmStrA1 m a1 a2) (XS.aloadN X0.here hx rfl (hb hby d6_0) rfl rfl (XS.aloadN X0.here hx rfl (hb hby d6_1) rfl rfl (XS.iconst X0.here hx rfl (hb hby d6_2) (XS.aloadN X0.here hx rfl (hb hby d6_3) rfl rfl k))))) ?_
  obtain ⟨cl1, Ar1, q1, S1, M1, H1, G1⟩ := id P3
  refine own_fw (A' := (s₁.setTop (mkF m 5 #[rv a1, rv a2] [.int 1, .int 0, .ref a2, .ref a1]))) (fun t k => X0.arraylength hx (by rw [e0]; exact Ar1.1) (State.isArrayOf_alike hZ.alike Ar1.2.1) (g := (mkF m 4 #[rv a1, rv a2] [.ref a2, .int 0, .ref a2, .ref a1])) rfl rfl (hb hby d6_4) _ (by rw [len_of S1 M1]; exact k)) ?_
  refine own_fw (A' := (s₁.setTop (mkF m 6 #[rv a1, rv a2] [.null, .int 1, .int 0, .ref a2, .ref a1]))) (fun t k => XS.aconstNull X0.here hx rfl (hb hby d6_5) k) ?_
  obtain ⟨_, _, ⟨T2, L2, k2, n2⟩, -, X2, ⟨Lc2, hQ2, l2, y2, z2⟩, st2⟩ := X0.specialBack hx (y := yq6) rfl hown (mvT hZ (own_w hw 32 rfl)) (mvT hZ (own_w hw 33 rfl)) (mvT hZ (own_w hw 35 rfl)) (by decide) (backOf (W := 0) (rmStrB1 l Z a0 hw [] a1 a2 kc cs c0 h0 n0 Z0 P0 P1 P2 P3 g_a1 ne_a1_a2 P6 hcs hc0) hZ (own_w hw 35 rfl) (own_w hw 27 rfl) (by decide) (by decide)) (g := (mkF m 6 #[rv a1, rv a2] [.null, .int 1, .int 0, .ref a2, .ref a1])) rfl (by rw [hml]; rfl) (Steps.refl _) (a := a1) (argsL := [(.ref a2), (.int 0), (.int 1), .null]) (rest := []) (lenOf pd___CIILjava_lang_Void__V rfl) rfl (by show 2 * 0 + _ ≤ _; exact Nat.le_of_eq rfl) (hb hby d6_6) (fun _ _ => ⟨rfl, e0, (by decide : 0 + 1 ≤ _), (by decide : 0 + 1 ≤ _)⟩)
  dsimp only [Pt.U, Pt.locs, Pt.cells, Pt.slots] at X2 l2 y2 z2 st2 hQ2
  subst l2 y2 z2
  obtain ⟨b_2, kb_2, rfl, Nq2, Kq2, Fq2_0, Fq2_1, Fq2_2, Fq2_3⟩ := hQ2
  have Nf2 := Fr.app N0 Nq2
  have K2 : Keep h0 T2.heap [a1] := (Keep.refl h0 [a1]).trans Kq2 (allS (Or.inl (List.mem_of_getElem? (i := 0) rfl)) all0)
  have Z2 : n0 ≤ T2.heap.size := Nat.le_trans Z0 Kq2.1
  refine own_fw (A' := (T2.setTop (mkF m 9 #[rv a1, rv a2] []))) (fun t k => st2.trans k) ?_
  obtain ⟨fs, hr, hrun, hended, hW, hsame⟩ := X2.leave (v := none) (fun _ => rfl)
  refine ⟨_, _, ?_, hrun, hended, _, _, rfl, ?_, ⟨_, rfl⟩, hW, hsame.mono (by decide) (by decide)⟩
  · exact X2.returnOut hx Bd.returns (hb hby d6_9) hr
  · show Q_rmStrA1 Z a1 a2 kc cs c0 h0 n0 _ T2.heap _
    exact ⟨b_2, kb_2, rfl, Nf2, K2, Fq2_0, Fq2_1, Fq2_2, Fq2_3⟩
theorem ef_rmCmpA2 (m : MethodId) (a1 a3 : Addr) : entryFrame m #[(.ref a1), (.int 0), (.ref a3), (.int 0), (.int 2)] 7 = mkF m 0 #[.val (.ref a1), .val (.int 0), .val (.ref a3), .val (.int 0), .val (.int 2), .unset, .unset] [] := by first | (simp [entryFrame, mkF, argsToLocals, Value.category]; done) | rfl
def Q_rmCmpA2 (Z : State) (a1 a3 : Addr) (kc kb : ClassId) (c0 c1 : Int32) (h0 : Heap) (n0 : Nat) (v : Option Value) (h : Heap) (L : List Loc) : Prop := v = some (.int 2) ∧ Fr n0 L ∧ Keep h0 h [a3] ∧ Arv Z h a3 kb .byte (2 : Int32) [(.int (c0.toInt8.toInt32)), (.int (c1.toInt8.toInt32))] (.int 0)
theorem rmCmpA2 (l : Launch) (Z : State) (a0 : Array Value) (hw : ∀ d ∈ tables_1, d.before a0 Z = true) (ws : List Jvm.Cond) (a1 a3 : Addr) (kc kb : ClassId) (c0 c1 : Int32) (h0 : Heap) (n0 : Nat) (Z0 : n0 ≤ h0.size) (P0 : Arv Z h0 a1 kc .char (2 : Int32) [(.int c0), (.int c1)] (.int 0)) (P1 : Arv Z h0 a3 kb .byte (2 : Int32) [(.int 0), (.int 0)] (.int 0)) (g_a3 : n0 ≤ a3) (ne_a1_a3 : a1 ≠ a3) (hc0 : ¬ ((255 : Int32) < c0)) (hc1 : ¬ ((255 : Int32) < c1)) :
    MetFree l yq1 (head1 (Jvm.Cond.code yq1 jdk_52_method_21_code 7 (some .int) :: ws) rq0) (fun a U => a = #[(.ref a1), (.int 0), (.ref a3), (.int 0), (.int 2)] ∧ Z.Warmed39 U.vm ∧ U.heap = h0) (fun _ _ _ _ _ => True) (fun _ U o U' => ∃ v L, o = .returned v ∧ Q_rmCmpA2 Z a1 a3 kc kb c0 c1 h0 n0 v U'.heap L ∧ FrameEnd U o U' L rq0.cells rq0.slots) := by
  refine MetFree.of_bodySF (plainFor_of_name pn_java_lang_StringUTF16) hisR ?_
  intro p e s m args below meth c s₁ Bd hml0 hP hK
  obtain ⟨rfl, hZ, hh⟩ := hP
  have hx := Bd.exec
  have hby := Bd.bytes
  have hml : c.maxLocals = 7 := hml0
  have hown : s.vm.findClass "java/lang/StringUTF16" = some m.cls := findClass_of_methodNamed Bd.named
  have hnm := (name_of_methodNamed Bd.named Bd.method).1
  have X0 : Stand p l e rq0 s m #[(.ref a1), (.int 0), (.ref a3), (.int 0), (.int 2)] below meth c s₁ [] 0 0 := Stand.of_body Bd
  have e0 : s₁.heap = h0 := by rw [← hh, Bd.state]; rfl
  have N0 := Fr.nil n0
  refine own_fw (A' := (s₁.setTop (mkF m 12 #[rv a1, iv 0, rv a3, iv 0, iv 2, iv 0, .unset] [.int 0, .ref a1]))) (fun t k => castTop (ef_rmCmpA2 m a1 a3) (XS.iconst X0.here hx rfl (hb hby d9_0) (XS.istore X0.here hx rfl (hb hby d9_1) rfl (l' := #[.val (.ref a1), .val (.int 0), .val (.ref a3), .val (.int 0), .val (.int 2), .val (.int 0), .unset]) rfl (XS.iload X0.here hx rfl (hb hby d9_3) rfl (XS.iload X0.here hx rfl (hb hby d9_5) rfl (XS.icmpNo X0.here hx rfl (hb hby d9_7) rfl (XT.ii_ge_f (by decide)) (XS.aloadN X0.here hx rfl (hb hby d9_10) rfl rfl (XS.iloadN X0.here hx rfl (hb hby d9_11) rfl k)))))))) ?_
  obtain ⟨cl1, Ar1, q1, S1, M1, H1, G1⟩ := id P0
  have hin1 : ¬ ((0 : Int32) < 0 ∨ cl1.slots.size ≤ ((0 : Int32)).toNatClampNeg) := inb_of S1 ⟨by decide, by decide⟩
  have hat1 : cl1.slots[((0 : Int32)).toNatClampNeg]? = some (.int c0) := H1.at hin1 rfl
  refine own_fw (A' := (s₁.setTop (mkF m 31 #[rv a1, iv 0, rv a3, iv 0, iv 2, iv 0, iv c0] [.int (c0.toInt8.toInt32), .int 0, .ref a3]))) (fun t k => X0.caload hx (j := (0 : Int32)) (v := (.int c0)) (by rw [e0]; exact Ar1.1) (State.isArrayOf_alike hZ.alike Ar1.2.1) Ar1.2.2 hin1 hat1 (g := (mkF m 12 #[rv a1, iv 0, rv a3, iv 0, iv 2, iv 0, .unset] [.int 0, .ref a1])) rfl rfl (hb hby d9_12) _ (XS.istore X0.here hx rfl (hb hby d9_13) rfl (l' := #[.val (.ref a1), .val (.int 0), .val (.ref a3), .val (.int 0), .val (.int 2), .val (.int 0), .val (.int c0)]) rfl (XS.iload X0.here hx rfl (hb hby d9_15) rfl (XS.sipush X0.here hx rfl (hb hby d9_17) (XS.icmpYes X0.here hx rfl (pc0 := 20) (pc' := 26) rfl (hb hby d9_20) rfl (XT.ii_le_t hc0) (by decide) (by decide) (XS.aloadN X0.here hx rfl (hb hby d9_26) rfl rfl (XS.iloadN X0.here hx rfl (hb hby d9_27) rfl (XS.iload X0.here hx rfl (hb hby d9_28) rfl (XS.i2b X0.here hx rfl (hb hby d9_30) rfl k))))))))) ?_
  obtain ⟨cl2, Ar2, q2, S2, M2, H2, G2⟩ := id P1
  have hin2 : ¬ ((0 : Int32) < 0 ∨ cl2.slots.size ≤ ((0 : Int32)).toNatClampNeg) := inb_of S2 ⟨by decide, by decide⟩
  obtain ⟨T2, h2, X2, e2, W2, st2⟩ := stB X0 hx hZ e0 Ar2 (j := (0 : Int32)) hin2 (g := (mkF m 31 #[rv a1, iv 0, rv a3, iv 0, iv 2, iv 0, iv c0] [.int (c0.toInt8.toInt32), .int 0, .ref a3])) rfl rfl (hb hby d9_31)
  rw [own_narB] at W2
  have V2 : Arv Z h2 a3 kb .byte (2 : Int32) [(.int (c0.toInt8.toInt32)), (.int 0)] (.int 0) := Arv.set Ar2 q2 S2 M2 H2 G2 (fits_nar_byte _) W2 0 rfl (Nat.le_of_ble_eq_true rfl)
  have Nf2 := Fr.snoc X2 N0 g_a3
  have K2 : Keep h0 h2 [a3] := (Keep.refl h0 [a3]).wr W2 (Or.inl (List.mem_of_getElem? (i := 0) rfl))
  have Z2 : n0 ≤ h2.size := Nat.le_trans Z0 (Keep.of_wr W2).1
  refine own_fw (A' := (T2.setTop (mkF m 12 #[rv a1, iv 1, rv a3, iv 1, iv 2, iv 1, iv c0] [.int 1, .ref a1]))) (fun t k => st2 _ (XS.iinc X2.here hx rfl (hb hby d9_32) rfl (l' := #[.val (.ref a1), .val (.int 1), .val (.ref a3), .val (.int 0), .val (.int 2), .val (.int 0), .val (.int c0)]) rfl (XS.iinc X2.here hx rfl (hb hby d9_35) rfl (l' := #[.val (.ref a1), .val (.int 1), .val (.ref a3), .val (.int 1), .val (.int 2), .val (.int 0), .val (.int c0)]) rfl (XS.iinc X2.here hx rfl (hb hby d9_38) rfl (l' := #[.val (.ref a1), .val (.int 1), .val (.ref a3), .val (.int 1), .val (.int 2), .val (.int 1), .val (.int c0)]) rfl (XS.goto X2.here hx rfl (pc0 := 41) (pc' := 3) rfl (hb hby d9_41) (by decide) (by decide) (XS.iload X2.here hx rfl (hb hby d9_3) rfl (XS.iload X2.here hx rfl (hb hby d9_5) rfl (XS.icmpNo X2.here hx rfl (hb hby d9_7) rfl (XT.ii_ge_f (by decide)) (XS.aloadN X2.here hx rfl (hb hby d9_10) rfl rfl (XS.iloadN X2.here hx rfl (hb hby d9_11) rfl k)))))))))) ?_
  obtain ⟨cl3, Ar3, q3, S3, M3, H3, G3⟩ := id (P0.other W2 ne_a1_a3)
  have hin3 : ¬ ((1 : Int32) < 0 ∨ cl3.slots.size ≤ ((1 : Int32)).toNatClampNeg) := inb_of S3 ⟨by decide, by decide⟩
  have hat3 : cl3.slots[((1 : Int32)).toNatClampNeg]? = some (.int c1) := H3.at hin3 rfl
  refine own_fw (A' := (T2.setTop (mkF m 31 #[rv a1, iv 1, rv a3, iv 1, iv 2, iv 1, iv c1] [.int (c1.toInt8.toInt32), .int 1, .ref a3]))) (fun t k => X2.caload hx (j := (1 : Int32)) (v := (.int c1)) (by rw [e2]; exact Ar3.1) (State.isArrayOf_alike hZ.alike Ar3.2.1) Ar3.2.2 hin3 hat3 (g := (mkF m 12 #[rv a1, iv 1, rv a3, iv 1, iv 2, iv 1, iv c0] [.int 1, .ref a1])) rfl rfl (hb hby d9_12) _ (XS.istore X2.here hx rfl (hb hby d9_13) rfl (l' := #[.val (.ref a1), .val (.int 1), .val (.ref a3), .val (.int 1), .val (.int 2), .val (.int 1), .val (.int c1)]) rfl (XS.iload X2.here hx rfl (hb hby d9_15) rfl (XS.sipush X2.here hx rfl (hb hby d9_17) (XS.icmpYes X2.here hx rfl (pc0 := 20) (pc' := 26) rfl (hb hby d9_20) rfl (XT.ii_le_t hc1) (by decide) (by decide) (XS.aloadN X2.here hx rfl (hb hby d9_26) rfl rfl (XS.iloadN X2.here hx rfl (hb hby d9_27) rfl (XS.iload X2.here hx rfl (hb hby d9_28) rfl (XS.i2b X2.here hx rfl (hb hby d9_30) rfl k))))))))) ?_
  obtain ⟨cl4, Ar4, q4, S4, M4, H4, G4⟩ := id V2
  have hin4 : ¬ ((1 : Int32) < 0 ∨ cl4.slots.size ≤ ((1 : Int32)).toNatClampNeg) := inb_of S4 ⟨by decide, by decide⟩
  obtain ⟨T4, h4, X4, e4, W4, st4⟩ := stB X2 hx hZ e2 Ar4 (j := (1 : Int32)) hin4 (g := (mkF m 31 #[rv a1, iv 1, rv a3, iv 1, iv 2, iv 1, iv c1] [.int (c1.toInt8.toInt32), .int 1, .ref a3])) rfl rfl (hb hby d9_31)
  rw [own_narB] at W4
  have V4 : Arv Z h4 a3 kb .byte (2 : Int32) [(.int (c0.toInt8.toInt32)), (.int (c1.toInt8.toInt32))] (.int 0) := Arv.set Ar4 q4 S4 M4 H4 G4 (fits_nar_byte _) W4 1 rfl (Nat.le_of_ble_eq_true rfl)
  have Nf4 := Fr.snoc X4 Nf2 g_a3
  have K4 : Keep h0 h4 [a3] := K2.wr W4 (Or.inl (List.mem_of_getElem? (i := 0) rfl))
  have Z4 : n0 ≤ h4.size := Nat.le_trans Z2 (Keep.of_wr W4).1
  refine own_fw (A' := (T4.setTop (mkF m 46 #[rv a1, iv 2, rv a3, iv 2, iv 2, iv 2, iv c1] [.int 2]))) (fun t k => st4 _ (XS.iinc X4.here hx rfl (hb hby d9_32) rfl (l' := #[.val (.ref a1), .val (.int 2), .val (.ref a3), .val (.int 1), .val (.int 2), .val (.int 1), .val (.int c1)]) rfl (XS.iinc X4.here hx rfl (hb hby d9_35) rfl (l' := #[.val (.ref a1), .val (.int 2), .val (.ref a3), .val (.int 2), .val (.int 2), .val (.int 1), .val (.int c1)]) rfl (XS.iinc X4.here hx rfl (hb hby d9_38) rfl (l' := #[.val (.ref a1), .val (.int 2), .val (.ref a3), .val (.int 2), .val (.int 2), .val (.int 2), .val (.int c1)]) rfl (XS.goto X4.here hx rfl (pc0 := 41) (pc' := 3) rfl (hb hby d9_41) (by decide) (by decide) (XS.iload X4.here hx rfl (hb hby d9_3) rfl (XS.iload X4.here hx rfl (hb hby d9_5) rfl (XS.icmpYes X4.here hx rfl (pc0 := 7) (pc' := 44) rfl (hb hby d9_7) rfl (XT.ii_ge_t (by decide)) (by decide) (by decide) (XS.iload X4.here hx rfl (hb hby d9_44) rfl k))))))))) ?_
  obtain ⟨fs, hr, hrun, hended, hW, hsame⟩ := X4.leave (v := some (.int 2)) (fun h => by rw [Bd.returns] at h; cases h)
  refine ⟨_, _, ?_, hrun, hended, _, _, rfl, ?_, ⟨_, rfl⟩, hW, hsame.mono (by decide) (by decide)⟩
  · exact retOut X4 hx Bd.returns rfl (Or.inl ⟨rfl, by simp, _, rfl⟩) (hb hby d9_46) hr
  · show Q_rmCmpA2 Z a1 a3 kc kb c0 c1 h0 n0 _ T4.heap _
    rw [e4]
    exact ⟨rfl, Nf4, K4, V4⟩
theorem ef_rmCmpB2 (m : MethodId) (a1 : Addr) : entryFrame m #[(.ref a1), (.int 0), (.int 2)] 6 = mkF m 0 #[.val (.ref a1), .val (.int 0), .val (.int 2), .unset, .unset, .unset] [] := by first | (simp [entryFrame, mkF, argsToLocals, Value.category]; done) | rfl
def Q_rmCmpB2 (Z : State) (a1 : Addr) (kc : ClassId) (c0 c1 : Int32) (h0 : Heap) (n0 : Nat) (v : Option Value) (h : Heap) (L : List Loc) : Prop := ∃ b : Addr, ∃ kb : ClassId, v = some (.ref b) ∧ Fr n0 L ∧ Keep h0 h [] ∧ Arv Z h b kb .byte (2 : Int32) [(.int (c0.toInt8.toInt32)), (.int (c1.toInt8.toInt32))] (.int 0) ∧ (h0.size ≤ b)
theorem rmCmpB2 (l : Launch) (Z : State) (a0 : Array Value) (hw : ∀ d ∈ tables_1, d.before a0 Z = true) (ws : List Jvm.Cond) (a1 : Addr) (kc : ClassId) (c0 c1 : Int32) (h0 : Heap) (n0 : Nat) (Z0 : n0 ≤ h0.size) (P0 : Arv Z h0 a1 kc .char (2 : Int32) [(.int c0), (.int c1)] (.int 0)) (hc0 : ¬ ((255 : Int32) < c0)) (hc1 : ¬ ((255 : Int32) < c1)) :
    MetFree l yq3 (head1 (Jvm.Cond.code yq3 jdk_52_method_16_code 6 (some (.array .byte)) :: ws) rq9) (fun a U => a = #[(.ref a1), (.int 0), (.int 2)] ∧ Z.Warmed39 U.vm ∧ U.heap = h0) (fun _ _ _ _ _ => True) (fun _ U o U' => ∃ v L, o = .returned v ∧ Q_rmCmpB2 Z a1 kc c0 c1 h0 n0 v U'.heap L ∧ FrameEnd U o U' L rq9.cells rq9.slots) := by
  refine MetFree.of_bodySF (plainFor_of_name pn_java_lang_StringUTF16) hisR ?_
  intro p e s m args below meth c s₁ Bd hml0 hP hK
  obtain ⟨rfl, hZ, hh⟩ := hP
  have hx := Bd.exec
  have hby := Bd.bytes
  have hml : c.maxLocals = 6 := hml0
  have hown : s.vm.findClass "java/lang/StringUTF16" = some m.cls := findClass_of_methodNamed Bd.named
  have hnm := (name_of_methodNamed Bd.named Bd.method).1
  have X0 : Stand p l e rq9 s m #[(.ref a1), (.int 0), (.int 2)] below meth c s₁ [] 0 0 := Stand.of_body Bd
  have e0 : s₁.heap = h0 := by rw [← hh, Bd.state]; rfl
  have N0 := Fr.nil n0
  refine own_fw (A' := (s₁.setTop (mkF m 1 #[rv a1, iv 0, iv 2, .unset, .unset, .unset] [.int 2]))) (fun t k => castTop (ef_rmCmpB2 m a1) (XS.iloadN X0.here hx rfl (hb hby d8_0) rfl k)) ?_
  obtain ⟨T1, h1, k1, X1, e1, E1, A1, st1⟩ := newP X0 hx hZ (own_w hw 42 rfl) e0 (g := (mkF m 1 #[rv a1, iv 0, iv 2, .unset, .unset, .unset] [.int 2])) rfl (hb hby d8_1) rfl (by decide) (cap := 2) (by decide) (by decide) (by decide) (by decide)
  obtain ⟨b1, gb1⟩ : ∃ z, z = h0.size := ⟨_, rfl⟩
  have g_b1 : n0 ≤ b1 := Nat.le_trans Z0 (Nat.le_of_eq gb1.symm)
  have sz_b1 : h0.size ≤ b1 := Nat.le_trans (Keep.refl h0 []).1 (Nat.le_of_eq gb1.symm)
  have ne_a1_b1 : a1 ≠ b1 := Nat.ne_of_lt (Nat.lt_of_lt_of_le P0.lt (Nat.le_of_eq gb1.symm))
  rw [← gb1] at A1 st1
  have V_b1 : Arv Z h1 b1 k1 .byte (2 : Int32) [(.int 0), (.int 0)] (.int 0) := (Arv.new A1 (by decide)).pad (pad_rep [] (.int 0) 2)
  have K1 : Keep h0 h1 [] := (Keep.refl h0 []).ext E1
  have Z1 : n0 ≤ h1.size := Nat.le_trans Z0 E1.1
  refine own_fw (A' := (T1.setTop (mkF m 9 #[rv a1, iv 0, iv 2, rv b1, .unset, .unset] [.int 2, .int 0, .ref b1, .int 0, .ref a1]))) (fun t k => st1 _ (XS.astoreN X1.here hx rfl (hb hby d8_3) rfl rfl (l' := #[.val (.ref a1), .val (.int 0), .val (.int 2), .val (.ref b1), .unset, .unset]) rfl (XS.aloadN X1.here hx rfl (hb hby d8_4) rfl rfl (XS.iloadN X1.here hx rfl (hb hby d8_5) rfl (XS.aloadN X1.here hx rfl (hb hby d8_6) rfl rfl (XS.iconst X1.here hx rfl (hb hby d8_7) (XS.iloadN X1.here hx rfl (hb hby d8_8) rfl k))))))) ?_
  obtain ⟨_, _, ⟨T2, L2, k2, n2⟩, -, X2, ⟨Lc2, hQ2, l2, y2, z2⟩, st2⟩ := Jvm.LawKit.callS X1 hx (y := yq1) hown (mvT hZ (own_w hw 43 rfl)) (mvT hZ (own_w hw 44 rfl)) (mvT hZ (own_w hw 40 rfl)) (mvT hZ (own_w hw 45 rfl)) (by decide) (backOf (W := 0) (rmCmpA2 l Z a0 hw [] a1 b1 kc k1 c0 c1 h1 n0 Z1 (P0.ext E1) V_b1 g_b1 ne_a1_b1 hc0 hc1) hZ (own_w hw 45 rfl) (own_w hw 40 rfl) (by decide) (by decide)) (g := (mkF m 9 #[rv a1, iv 0, iv 2, rv b1, .unset, .unset] [.int 2, .int 0, .ref b1, .int 0, .ref a1])) rfl (by rw [hml]; rfl) (argsL := [(.ref a1), (.int 0), (.ref b1), (.int 0), (.int 2)]) (rest := []) (lenOf pd___CI_BII_I rfl) rfl (by show 2 * 0 + _ ≤ _; exact Nat.le_of_eq rfl) (hb hby d8_9) (fun _ _ => ⟨rfl, e1, (by decide : 1 + 0 ≤ _), (by decide : 2 + 0 ≤ _)⟩)
  dsimp only [Pt.U, Pt.locs, Pt.cells, Pt.slots] at X2 l2 y2 z2 st2 hQ2
  subst l2 y2 z2
  obtain ⟨rfl, Nq2, Kq2, Fq2_0⟩ := hQ2
  have Nf2 := Fr.app N0 Nq2
  have K2 : Keep h0 T2.heap [] := K1.trans Kq2 (allS (Or.inr sz_b1) all0)
  have Z2 : n0 ≤ T2.heap.size := Nat.le_trans Z1 Kq2.1
  refine own_fw (A' := (T2.setTop (mkF m 58 #[rv a1, iv 0, iv 2, rv b1, iv 2, .unset] [.ref b1]))) (fun t k => st2 _ (XS.istore X2.here hx rfl (hb hby d8_12) rfl (l' := #[.val (.ref a1), .val (.int 0), .val (.int 2), .val (.ref b1), .val (.int 2), .unset]) rfl (XS.iload X2.here hx rfl (hb hby d8_14) rfl (XS.iloadN X2.here hx rfl (hb hby d8_16) rfl (XS.icmpYes X2.here hx rfl (pc0 := 17) (pc' := 57) rfl (hb hby d8_17) rfl (XT.ii_eq_t rfl) (by decide) (by decide) (XS.aloadN X2.here hx rfl (hb hby d8_57) rfl rfl k)))))) ?_
  obtain ⟨fs, hr, hrun, hended, hW, hsame⟩ := X2.leave (v := some (.ref b1)) (fun h => by rw [Bd.returns] at h; cases h)
  refine ⟨_, _, ?_, hrun, hended, _, _, rfl, ?_, ⟨_, rfl⟩, hW, hsame.mono (by decide) (by decide)⟩
  · exact retOut X2 hx Bd.returns rfl (Or.inr (Or.inr (Or.inr (Or.inr ⟨rfl, rfl, rfl⟩)))) (hb hby d8_58) hr
  · show Q_rmCmpB2 Z a1 kc c0 c1 h0 n0 _ T2.heap _
    exact ⟨b1, k1, rfl, Nf2, K2, Fq2_0, sz_b1⟩
theorem ef_rmCoder2 (m : MethodId) (a1 : Addr) : entryFrame m #[(.ref a1), (.int 2)] 2 = mkF m 0 #[.val (.ref a1), .val (.int 2)] [] := by first | (simp [entryFrame, mkF, argsToLocals, Value.category]; done) | rfl
def Q_rmCoder2 (Z : State) (a1 : Addr) (kb : ClassId) (c0 c1 : Int32) (h0 : Heap) (n0 : Nat) (v : Option Value) (h : Heap) (L : List Loc) : Prop := v = some (.int 0) ∧ Fr n0 L ∧ h = h0
theorem rmCoder2 (l : Launch) (Z : State) (a0 : Array Value) (hw : ∀ d ∈ tables_1, d.before a0 Z = true) (ws : List Jvm.Cond) (a1 : Addr) (kb : ClassId) (c0 c1 : Int32) (h0 : Heap) (n0 : Nat) (Z0 : n0 ≤ h0.size) (P0 : Arv Z h0 a1 kb .byte (2 : Int32) [(.int c0), (.int c1)] (.int 0)) :
    MetFree l yq4 (head1 (Jvm.Cond.code yq4 jdk_52_method_15_code 2 (some .byte) :: ws) rq0) (fun a U => a = #[(.ref a1), (.int 2)] ∧ Z.Warmed39 U.vm ∧ U.heap = h0) (fun _ _ _ _ _ => True) (fun _ U o U' => ∃ v L, o = .returned v ∧ Q_rmCoder2 Z a1 kb c0 c1 h0 n0 v U'.heap L ∧ FrameEnd U o U' L rq0.cells rq0.slots) := by
  refine MetFree.of_bodySF (plainFor_of_name pn_java_lang_StringUTF16) hisR ?_
  intro p e s m args below meth c s₁ Bd hml0 hP hK
  obtain ⟨rfl, hZ, hh⟩ := hP
  have hx := Bd.exec
  have hby := Bd.bytes
  have hml : c.maxLocals = 2 := hml0
  have hown : s.vm.findClass "java/lang/StringUTF16" = some m.cls := findClass_of_methodNamed Bd.named
  have hnm := (name_of_methodNamed Bd.named Bd.method).1
  have X0 : Stand p l e rq0 s m #[(.ref a1), (.int 2)] below meth c s₁ [] 0 0 := Stand.of_body Bd
  have e0 : s₁.heap = h0 := by rw [← hh, Bd.state]; rfl
  have N0 := Fr.nil n0
  refine own_fw (A' := (s₁.setTop (mkF m 2 #[rv a1, iv 2] [.ref a1, .int 2]))) (fun t k => castTop (ef_rmCoder2 m a1) (XS.iloadN X0.here hx rfl (hb hby d10_0) rfl (XS.aloadN X0.here hx rfl (hb hby d10_1) rfl rfl k))) ?_
  obtain ⟨cl1, Ar1, q1, S1, M1, H1, G1⟩ := id P0
  refine own_fw (A' := (s₁.setTop (mkF m 3 #[rv a1, iv 2] [.int 2, .int 2]))) (fun t k => X0.arraylength hx (by rw [e0]; exact Ar1.1) (State.isArrayOf_alike hZ.alike Ar1.2.1) (g := (mkF m 2 #[rv a1, iv 2] [.ref a1, .int 2])) rfl rfl (hb hby d10_2) _ (by rw [len_of S1 M1]; exact k)) ?_
  refine own_fw (A' := (s₁.setTop (mkF m 8 #[rv a1, iv 2] [.int 0]))) (fun t k => XS.isub X0.here hx rfl (hb hby d10_3) rfl (XS.bipush X0.here hx rfl (hb hby d10_4) (XS.iushr X0.here hx rfl (hb hby d10_6) rfl (XS.i2b X0.here hx rfl (hb hby d10_7) rfl k)))) ?_
  obtain ⟨fs, hr, hrun, hended, hW, hsame⟩ := X0.leave (v := some (.int 0)) (fun h => by rw [Bd.returns] at h; cases h)
  refine ⟨_, _, ?_, hrun, hended, _, _, rfl, ?_, ⟨_, rfl⟩, hW, hsame.mono (by decide) (by decide)⟩
  · exact retOut X0 hx Bd.returns rfl (Or.inl ⟨rfl, by simp, _, rfl⟩) (hb hby d10_8) hr
  · show Q_rmCoder2 Z a1 kb c0 c1 h0 n0 _ s₁.heap _
    rw [e0]
    exact ⟨rfl, N0, rfl⟩
theorem ef_rmStrB2 (m : MethodId) (a1 a2 : Addr) : entryFrame m #[(.ref a1), (.ref a2), (.int 0), (.int 2), .null] 6 = mkF m 0 #[.val (.ref a1), .val (.ref a2), .val (.int 0), .val (.int 2), .val .null, .unset] [] := by first | (simp [entryFrame, mkF, argsToLocals, Value.category]; done) | rfl
def Q_rmStrB2 (Z : State) (a1 a2 : Addr) (kc : ClassId) (cs c0 c1 : Int32) (h0 : Heap) (n0 : Nat) (v : Option Value) (h : Heap) (L : List Loc) : Prop := ∃ b : Addr, ∃ kb : ClassId, v = none ∧ Fr n0 L ∧ Keep h0 h [a1] ∧ Exa Z h a1 "java/lang/String" ∧ Fld Z h a1 "java/lang/String" "coder" "B" (.int 0) ∧ Fld Z h a1 "java/lang/String" "value" "[B" (.ref b) ∧ Arv Z h b kb .byte (2 : Int32) [(.int (c0.toInt8.toInt32)), (.int (c1.toInt8.toInt32))] (.int 0)
theorem rmStrB2 (l : Launch) (Z : State) (a0 : Array Value) (hw : ∀ d ∈ tables_1, d.before a0 Z = true) (ws : List Jvm.Cond) (a1 a2 : Addr) (kc : ClassId) (cs c0 c1 : Int32) (h0 : Heap) (n0 : Nat) (Z0 : n0 ≤ h0.size) (P0 : Exa Z h0 a1 "java/lang/String") (P1 : Fld Z h0 a1 "java/lang/String" "coder" "B" (.int 0)) (P2 : Fld Z h0 a1 "java/lang/String" "value" "[B" .null) (P3 : Arv Z h0 a2 kc .char (2 : Int32) [(.int c0), (.int c1)] (.int 0)) (g_a1 : n0 ≤ a1) (ne_a1_a2 : a1 ≠ a2) (P6 : Sta Z h0 "java/lang/String" "COMPACT_STRINGS" "Z" (.int cs)) (hcs : ¬ (cs = (0 : Int32))) (hc0 : ¬ ((255 : Int32) < c0)) (hc1 : ¬ ((255 : Int32) < c1)) :
    MetFree l yq6 (head1 (Jvm.Cond.code yq6 jdk_42_method_149_code 6 none :: ws) rq10) (fun a U => a = #[(.ref a1), (.ref a2), (.int 0), (.int 2), .null] ∧ Z.Warmed39 U.vm ∧ U.heap = h0) (fun _ _ _ _ _ => True) (fun _ U o U' => ∃ v L, o = .returned v ∧ Q_rmStrB2 Z a1 a2 kc cs c0 c1 h0 n0 v U'.heap L ∧ FrameEnd U o U' L rq10.cells rq10.slots) := by
  refine MetFree.of_bodySF (plainFor_of_name pn_java_lang_String) hisR ?_
  intro p e s m args below meth c s₁ Bd hml0 hP hK
  obtain ⟨rfl, hZ, hh⟩ := hP
  have hx := Bd.exec
  have hby := Bd.bytes
  have hml : c.maxLocals = 6 := hml0
  have hown : s.vm.findClass "java/lang/String" = some m.cls := findClass_of_methodNamed Bd.named
  have hnm := (name_of_methodNamed Bd.named Bd.method).1
  have X0 : Stand p l e rq10 s m #[(.ref a1), (.ref a2), (.int 0), (.int 2), .null] below meth c s₁ [] 0 0 := Stand.of_body Bd
  have e0 : s₁.heap = h0 := by rw [← hh, Bd.state]; rfl
  have N0 := Fr.nil n0
  refine own_fw (A' := (s₁.setTop (mkF m 1 #[rv a1, rv a2, iv 0, iv 2, .val (.null), .unset] [.ref a1]))) (fun t k => castTop (ef_rmStrB2 m a1 a2) (XS.aloadN X0.here hx rfl (hb hby d7_0) rfl rfl k)) ?_
  obtain ⟨T1, X1, e1, st1⟩ := initO X0 hx hZ hown (own_w hw 36 rfl) (own_w hw 7 rfl) (own_w hw 8 rfl) e0 (g := (mkF m 1 #[rv a1, rv a2, iv 0, iv 2, .val (.null), .unset] [.ref a1])) rfl (by rw [hml]; rfl) rfl (hb hby d7_1) (by decide) (W := 0) (by show 2 * 0 + _ ≤ _; exact Nat.le_of_eq rfl) (by decide)
  refine own_fw (A' := (T1.setTop (mkF m 27 #[rv a1, rv a2, iv 0, iv 2, .val (.null), .unset] []))) (fun t k => st1 _ (XS.iloadN X1.here hx rfl (hb hby d7_4) rfl (XS.ifYes X1.here hx rfl (pc0 := 5) (pc' := 27) rfl (hb hby d7_5) rfl (XT.i0_ne_t (by decide)) (by decide) (by decide) k))) ?_
  obtain ⟨T2, X2, e2, st2⟩ := getS2 X1 hx hZ hown (host := "") (Or.inl (own_w hw 37 rfl)) Via.refl e1 P6 (g := (mkF m 27 #[rv a1, rv a2, iv 0, iv 2, .val (.null), .unset] [])) rfl (hb hby d7_27)
  refine own_fw (A' := (T2.setTop (mkF m 36 #[rv a1, rv a2, iv 0, iv 2, .val (.null), .unset] [.int 2, .int 0, .ref a2]))) (fun t k => st2 _ (XS.ifNo X2.here hx rfl (hb hby d7_30) rfl (XT.i0_eq_f hcs) (XS.aloadN X2.here hx rfl (hb hby d7_33) rfl rfl (XS.iloadN X2.here hx rfl (hb hby d7_34) rfl (XS.iloadN X2.here hx rfl (hb hby d7_35) rfl k))))) ?_
  obtain ⟨_, _, ⟨T3, L3, k3, n3⟩, -, X3, ⟨Lc3, hQ3, l3, y3, z3⟩, st3⟩ := Jvm.LawKit.callS X2 hx (y := yq3) hown (mvT hZ (own_w hw 38 rfl)) (mvT hZ (own_w hw 39 rfl)) (mvT hZ (own_w hw 40 rfl)) (mvT hZ (own_w hw 41 rfl)) (by decide) (backOf (W := 0) (rmCmpB2 l Z a0 hw [] a2 kc c0 c1 h0 n0 Z0 P3 hc0 hc1) hZ (own_w hw 41 rfl) (own_w hw 40 rfl) (by decide) (by decide)) (g := (mkF m 36 #[rv a1, rv a2, iv 0, iv 2, .val (.null), .unset] [.int 2, .int 0, .ref a2])) rfl (by rw [hml]; rfl) (argsL := [(.ref a2), (.int 0), (.int 2)]) (rest := []) (lenOf pd___CII__B rfl) rfl (by show 2 * 0 + _ ≤ _; exact Nat.le_of_eq rfl) (hb hby d7_36) (fun _ _ => ⟨rfl, e2, (by decide : 0 + 1 ≤ _), (by decide : 0 + 2 ≤ _)⟩)
  dsimp only [Pt.U, Pt.locs, Pt.cells, Pt.slots] at X3 l3 y3 z3 st3 hQ3
  subst l3 y3 z3
  obtain ⟨b_3, kb_3, rfl, Nq3, Kq3, Fq3_0, gb_3⟩ := hQ3
  have Nf3 := Fr.app N0 Nq3
  have K3 : Keep h0 T3.heap [a1] := (Keep.refl h0 [a1]).trans Kq3 all0
  have sz_b_3 : h0.size ≤ b_3 := Nat.le_trans (Keep.refl h0 [a1]).1 gb_3
  have g_b_3 : n0 ≤ b_3 := Nat.le_trans Z0 gb_3
  have ne_a1_b_3 : a1 ≠ b_3 := Nat.ne_of_lt (Nat.lt_of_lt_of_le P0.lt gb_3)
  have ne_a2_b_3 : a2 ≠ b_3 := Nat.ne_of_lt (Nat.lt_of_lt_of_le P3.lt gb_3)
  have Z3 : n0 ≤ T3.heap.size := Nat.le_trans Z0 Kq3.1
  refine own_fw (A' := (T3.setTop (mkF m 45 #[rv a1, rv a2, iv 0, iv 2, .val (.null), rv b_3] [.int 2, .ref b_3, .ref a1]))) (fun t k => st3 _ (XS.astore X3.here hx rfl (hb hby d7_39) rfl rfl (l' := #[.val (.ref a1), .val (.ref a2), .val (.int 0), .val (.int 2), .val .null, .val (.ref b_3)]) rfl (XS.aloadN X3.here hx rfl (hb hby d7_41) rfl rfl (XS.aload X3.here hx rfl (hb hby d7_42) rfl rfl (XS.iloadN X3.here hx rfl (hb hby d7_44) rfl k))))) ?_
  obtain ⟨_, _, ⟨T4, L4, k4, n4⟩, -, X4, ⟨Lc4, hQ4, l4, y4, z4⟩, st4⟩ := Jvm.LawKit.callS X3 hx (y := yq4) hown (mvT hZ (own_w hw 46 rfl)) (mvT hZ (own_w hw 47 rfl)) (mvT hZ (own_w hw 40 rfl)) (mvT hZ (own_w hw 48 rfl)) (by decide) (backOf (W := 1) (rmCoder2 l Z a0 hw [] b_3 kb_3 (c0.toInt8.toInt32) (c1.toInt8.toInt32) T3.heap n0 Z3 Fq3_0) hZ (own_w hw 48 rfl) (own_w hw 40 rfl) (by decide) (by decide)) (g := (mkF m 45 #[rv a1, rv a2, iv 0, iv 2, .val (.null), rv b_3] [.int 2, .ref b_3, .ref a1])) rfl (by rw [hml]; rfl) (argsL := [(.ref b_3), (.int 2)]) (rest := [(.ref a1)]) (lenOf pd___BI_B rfl) rfl (by show 2 * 0 + _ ≤ _; exact Nat.le_of_eq rfl) (hb hby d7_45) (fun _ _ => ⟨rfl, rfl, (by decide : 1 + 0 ≤ _), (by decide : 2 + 0 ≤ _)⟩)
  dsimp only [Pt.U, Pt.locs, Pt.cells, Pt.slots] at X4 l4 y4 z4 st4 hQ4
  subst l4 y4 z4
  obtain ⟨rfl, Nq4, e4⟩ := hQ4
  have Nf4 := Fr.app Nf3 Nq4
  refine own_fw (A' := (T4.setTop (mkF m 48 #[rv a1, rv a2, iv 0, iv 2, .val (.null), rv b_3] [.int 0, .ref a1]))) (fun t k => st4 _ k) ?_
  obtain ⟨T5, h5, X5, e5, W5, st5⟩ := putFN X4 hx hZ hown (own_w hw 49 rfl) Via.refl e4 (P1.keep Kq3 nin0) (P0.keep Kq3) (Or.inr ⟨(own_w hw 50 rfl), rfl, hnm⟩) (own_w hw 26 rfl) (ty := .byte) (v' := (.int 0)) (by decide) rfl rfl (g := (mkF m 48 #[rv a1, rv a2, iv 0, iv 2, .val (.null), rv b_3] [.int 0, .ref a1])) rfl rfl (hb hby d7_48)
  have Fw5 : Fld Z h5 a1 "java/lang/String" "coder" "B" (.int 0) := (P1.keep Kq3 nin0).same W5
  have Nf5 := Fr.snoc X5 Nf4 g_a1
  have K5 : Keep h0 h5 [a1] := K3.wr W5 (Or.inl (List.mem_of_getElem? (i := 0) rfl))
  have Z5 : n0 ≤ h5.size := Nat.le_trans Z3 (Keep.of_wr W5).1
  refine own_fw (A' := (T5.setTop (mkF m 54 #[rv a1, rv a2, iv 0, iv 2, .val (.null), rv b_3] [.ref b_3, .ref a1]))) (fun t k => st5 _ (XS.aloadN X5.here hx rfl (hb hby d7_51) rfl rfl (XS.aload X5.here hx rfl (hb hby d7_52) rfl rfl k))) ?_
  obtain ⟨T6, h6, X6, e6, W6, st6⟩ := putF X5 hx hZ hown (host := "") (Or.inl (own_w hw 51 rfl)) Via.refl e5 ((P2.keep Kq3 nin0).other W5 (Or.inr (slot_ne (Or.inr (own_w hw 52 rfl)) (Or.inr (own_w hw 50 rfl)) (by decide) (t := (.array .byte)) (t' := .byte) (by decide) (by decide)))) ((P0.keep Kq3).wr W5) (Or.inr ⟨(own_w hw 52 rfl), rfl, hnm⟩) (own_w hw 26 rfl) (ty := (.array .byte)) (by decide) rfl rfl (g := (mkF m 54 #[rv a1, rv a2, iv 0, iv 2, .val (.null), rv b_3] [.ref b_3, .ref a1])) rfl rfl (hb hby d7_54)
  have Fw6 : Fld Z h6 a1 "java/lang/String" "value" "[B" (.ref b_3) := ((P2.keep Kq3 nin0).other W5 (Or.inr (slot_ne (Or.inr (own_w hw 52 rfl)) (Or.inr (own_w hw 50 rfl)) (by decide) (t := (.array .byte)) (t' := .byte) (by decide) (by decide)))).same W6
  have Nf6 := Fr.snoc X6 Nf5 g_a1
  have K6 : Keep h0 h6 [a1] := K5.wr W6 (Or.inl (List.mem_of_getElem? (i := 0) rfl))
  have Z6 : n0 ≤ h6.size := Nat.le_trans Z5 (Keep.of_wr W6).1
  refine own_fw (A' := (T6.setTop (mkF m 57 #[rv a1, rv a2, iv 0, iv 2, .val (.null), rv b_3] []))) (fun t k => st6 _ k) ?_
  obtain ⟨fs, hr, hrun, hended, hW, hsame⟩ := X6.leave (v := none) (fun _ => rfl)
  refine ⟨_, _, ?_, hrun, hended, _, _, rfl, ?_, ⟨_, rfl⟩, hW, hsame.mono (by decide) (by decide)⟩
  · exact X6.returnOut hx Bd.returns (hb hby d7_57) hr
  · show Q_rmStrB2 Z a1 a2 kc cs c0 c1 h0 n0 _ T6.heap _
    rw [e6]
    exact ⟨b_3, kb_3, rfl, Nf6, K6, (((P0.keep Kq3).wr W5).wr W6), (Fw5.other W6 (Or.inr (slot_ne (Or.inr (own_w hw 50 rfl)) (Or.inr (own_w hw 52 rfl)) (by decide) (t := .byte) (t' := (.array .byte)) (by decide) (by decide)))), Fw6, ((Fq3_0.other W5 (Ne.symm ne_a1_b_3)).other W6 (Ne.symm ne_a1_b_3))⟩
theorem ef_rmStrA2 (m : MethodId) (a1 a2 : Addr) : entryFrame m #[(.ref a1), (.ref a2)] 2 = mkF m 0 #[.val (.ref a1), .val (.ref a2)] [] := by first | (simp [entryFrame, mkF, argsToLocals, Value.category]; done) | rfl
def Q_rmStrA2 (Z : State) (a1 a2 : Addr) (kc : ClassId) (cs c0 c1 : Int32) (h0 : Heap) (n0 : Nat) (v : Option Value) (h : Heap) (L : List Loc) : Prop := ∃ b : Addr, ∃ kb : ClassId, v = none ∧ Fr n0 L ∧ Keep h0 h [a1] ∧ Exa Z h a1 "java/lang/String" ∧ Fld Z h a1 "java/lang/String" "coder" "B" (.int 0) ∧ Fld Z h a1 "java/lang/String" "value" "[B" (.ref b) ∧ Arv Z h b kb .byte (2 : Int32) [(.int (c0.toInt8.toInt32)), (.int (c1.toInt8.toInt32))] (.int 0)
theorem rmStrA2 (l : Launch) (Z : State) (a0 : Array Value) (hw : ∀ d ∈ tables_1, d.before a0 Z = true) (ws : List Jvm.Cond) (a1 a2 : Addr) (kc : ClassId) (cs c0 c1 : Int32) (h0 : Heap) (n0 : Nat) (Z0 : n0 ≤ h0.size) (P0 : Exa Z h0 a1 "java/lang/String") (P1 : Fld Z h0 a1 "java/lang/String" "coder" "B" (.int 0)) (P2 : Fld Z h0 a1 "java/lang/String" "value" "[B" .null) (P3 : Arv Z h0 a2 kc .char (2 : Int32) [(.int c0), (.int c1)] (.int 0)) (g_a1 : n0 ≤ a1) (ne_a1_a2 : a1 ≠ a2) (P6 : Sta Z h0 "java/lang/String" "COMPACT_STRINGS" "Z" (.int cs)) (hcs : ¬ (cs = (0 : Int32))) (hc0 : ¬ ((255 : Int32) < c0)) (hc1 : ¬ ((255 : Int32) < c1)) :
    MetFree l yq8 (head1 (Jvm.Cond.code yq8 jdk_42_method_3_code 2 none :: ws) rq11) (fun a U => a = #[(.ref a1), (.ref a2)] ∧ Z.Warmed39 U.vm ∧ U.heap = h0) (fun _ _ _ _ _ => True) (fun _ U o U' => ∃ v L, o = .returned v ∧ Q_rmStrA2 Z a1 a2 kc cs c0 c1 h0 n0 v U'.heap L ∧ FrameEnd U o U' L rq11.cells rq11.slots) := by
  refine MetFree.of_bodySF (plainFor_of_name pn_java_lang_String) hisR ?_
  intro p e s m args below meth c s₁ Bd hml0 hP hK
  obtain ⟨rfl, hZ, hh⟩ := hP
  have hx := Bd.exec
  have hby := Bd.bytes
  have hml : c.maxLocals = 2 := hml0
  have hown : s.vm.findClass "java/lang/String" = some m.cls := findClass_of_methodNamed Bd.named
  have hnm := (name_of_methodNamed Bd.named Bd.method).1
  have X0 : Stand p l e rq11 s m #[(.ref a1), (.ref a2)] below meth c s₁ [] 0 0 := Stand.of_body Bd
  have e0 : s₁.heap = h0 := by rw [← hh, Bd.state]; rfl
  have N0 := Fr.nil n0
  refine own_fw (A' := (s₁.setTop (mkF m 4 #[rv a1, rv a2] [.ref a2, .int 0, .ref a2, .ref a1]))) (fun t k => castTop (ef_rmStrA2 m a1 a2) (XS.aloadN X0.here hx rfl (hb hby d6_0) rfl rfl (XS.aloadN X0.here hx rfl (hb hby d6_1) rfl rfl (XS.iconst X0.here hx rfl (hb hby d6_2) (XS.aloadN X0.here hx rfl (hb hby d6_3) rfl rfl k))))) ?_
  obtain ⟨cl1, Ar1, q1, S1, M1, H1, G1⟩ := id P3
  refine own_fw (A' := (s₁.setTop (mkF m 5 #[rv a1, rv a2] [.int 2, .int 0, .ref a2, .ref a1]))) (fun t k => X0.arraylength hx (by rw [e0]; exact Ar1.1) (State.isArrayOf_alike hZ.alike Ar1.2.1) (g := (mkF m 4 #[rv a1, rv a2] [.ref a2, .int 0, .ref a2, .ref a1])) rfl rfl (hb hby d6_4) _ (by rw [len_of S1 M1]; exact k)) ?_
  refine own_fw (A' := (s₁.setTop (mkF m 6 #[rv a1, rv a2] [.null, .int 2, .int 0, .ref a2, .ref a1]))) (fun t k => XS.aconstNull X0.here hx rfl (hb hby d6_5) k) ?_
  obtain ⟨_, _, ⟨T2, L2, k2, n2⟩, -, X2, ⟨Lc2, hQ2, l2, y2, z2⟩, st2⟩ := X0.specialBack hx (y := yq6) rfl hown (mvT hZ (own_w hw 32 rfl)) (mvT hZ (own_w hw 33 rfl)) (mvT hZ (own_w hw 35 rfl)) (by decide) (backOf (W := 0) (rmStrB2 l Z a0 hw [] a1 a2 kc cs c0 c1 h0 n0 Z0 P0 P1 P2 P3 g_a1 ne_a1_a2 P6 hcs hc0 hc1) hZ (own_w hw 35 rfl) (own_w hw 27 rfl) (by decide) (by decide)) (g := (mkF m 6 #[rv a1, rv a2] [.null, .int 2, .int 0, .ref a2, .ref a1])) rfl (by rw [hml]; rfl) (Steps.refl _) (a := a1) (argsL := [(.ref a2), (.int 0), (.int 2), .null]) (rest := []) (lenOf pd___CIILjava_lang_Void__V rfl) rfl (by show 2 * 0 + _ ≤ _; exact Nat.le_of_eq rfl) (hb hby d6_6) (fun _ _ => ⟨rfl, e0, (by decide : 0 + 1 ≤ _), (by decide : 0 + 2 ≤ _)⟩)
  dsimp only [Pt.U, Pt.locs, Pt.cells, Pt.slots] at X2 l2 y2 z2 st2 hQ2
  subst l2 y2 z2
  obtain ⟨b_2, kb_2, rfl, Nq2, Kq2, Fq2_0, Fq2_1, Fq2_2, Fq2_3⟩ := hQ2
  have Nf2 := Fr.app N0 Nq2
  have K2 : Keep h0 T2.heap [a1] := (Keep.refl h0 [a1]).trans Kq2 (allS (Or.inl (List.mem_of_getElem? (i := 0) rfl)) all0)
  have Z2 : n0 ≤ T2.heap.size := Nat.le_trans Z0 Kq2.1
  refine own_fw (A' := (T2.setTop (mkF m 9 #[rv a1, rv a2] []))) (fun t k => st2.trans k) ?_
  obtain ⟨fs, hr, hrun, hended, hW, hsame⟩ := X2.leave (v := none) (fun _ => rfl)
  refine ⟨_, _, ?_, hrun, hended, _, _, rfl, ?_, ⟨_, rfl⟩, hW, hsame.mono (by decide) (by decide)⟩
  · exact X2.returnOut hx Bd.returns (hb hby d6_9) hr
  · show Q_rmStrA2 Z a1 a2 kc cs c0 c1 h0 n0 _ T2.heap _
    exact ⟨b_2, kb_2, rfl, Nf2, K2, Fq2_0, Fq2_1, Fq2_2, Fq2_3⟩
theorem ef_rmCmpA3 (m : MethodId) (a1 a3 : Addr) : entryFrame m #[(.ref a1), (.int 0), (.ref a3), (.int 0), (.int 3)] 7 = mkF m 0 #[.val (.ref a1), .val (.int 0), .val (.ref a3), .val (.int 0), .val (.int 3), .unset, .unset] [] := by first | (simp [entryFrame, mkF, argsToLocals, Value.category]; done) | rfl
def Q_rmCmpA3 (Z : State) (a1 a3 : Addr) (kc kb : ClassId) (c0 c1 c2 : Int32) (h0 : Heap) (n0 : Nat) (v : Option Value) (h : Heap) (L : List Loc) : Prop := v = some (.int 3) ∧ Fr n0 L ∧ Keep h0 h [a3] ∧ Arv Z h a3 kb .byte (3 : Int32) [(.int (c0.toInt8.toInt32)), (.int (c1.toInt8.toInt32)), (.int (c2.toInt8.toInt32))] (.int 0)
theorem rmCmpA3 (l : Launch) (Z : State) (a0 : Array Value) (hw : ∀ d ∈ tables_1, d.before a0 Z = true) (ws : List Jvm.Cond) (a1 a3 : Addr) (kc kb : ClassId) (c0 c1 c2 : Int32) (h0 : Heap) (n0 : Nat) (Z0 : n0 ≤ h0.size) (P0 : Arv Z h0 a1 kc .char (3 : Int32) [(.int c0), (.int c1), (.int c2)] (.int 0)) (P1 : Arv Z h0 a3 kb .byte (3 : Int32) [(.int 0), (.int 0), (.int 0)] (.int 0)) (g_a3 : n0 ≤ a3) (ne_a1_a3 : a1 ≠ a3) (hc0 : ¬ ((255 : Int32) < c0)) (hc1 : ¬ ((255 : Int32) < c1)) (hc2 : ¬ ((255 : Int32) < c2)) :
    MetFree l yq1 (head1 (Jvm.Cond.code yq1 jdk_52_method_21_code 7 (some .int) :: ws) rq0) (fun a U => a = #[(.ref a1), (.int 0), (.ref a3), (.int 0), (.int 3)] ∧ Z.Warmed39 U.vm ∧ U.heap = h0) (fun _ _ _ _ _ => True) (fun _ U o U' => ∃ v L, o = .returned v ∧ Q_rmCmpA3 Z a1 a3 kc kb c0 c1 c2 h0 n0 v U'.heap L ∧ FrameEnd U o U' L rq0.cells rq0.slots) := by
  refine MetFree.of_bodySF (plainFor_of_name pn_java_lang_StringUTF16) hisR ?_
  intro p e s m args below meth c s₁ Bd hml0 hP hK
  obtain ⟨rfl, hZ, hh⟩ := hP
  have hx := Bd.exec
  have hby := Bd.bytes
  have hml : c.maxLocals = 7 := hml0
  have hown : s.vm.findClass "java/lang/StringUTF16" = some m.cls := findClass_of_methodNamed Bd.named
  have hnm := (name_of_methodNamed Bd.named Bd.method).1
  have X0 : Stand p l e rq0 s m #[(.ref a1), (.int 0), (.ref a3), (.int 0), (.int 3)] below meth c s₁ [] 0 0 := Stand.of_body Bd
  have e0 : s₁.heap = h0 := by rw [← hh, Bd.state]; rfl
  have N0 := Fr.nil n0
  refine own_fw (A' := (s₁.setTop (mkF m 12 #[rv a1, iv 0, rv a3, iv 0, iv 3, iv 0, .unset] [.int 0, .ref a1]))) (fun t k => castTop (ef_rmCmpA3 m a1 a3) (XS.iconst X0.here hx rfl (hb hby d9_0) (XS.istore X0.here hx rfl (hb hby d9_1) rfl (l' := #[.val (.ref a1), .val (.int 0), .val (.ref a3), .val (.int 0), .val (.int 3), .val (.int 0), .unset]) rfl (XS.iload X0.here hx rfl (hb hby d9_3) rfl (XS.iload X0.here hx rfl (hb hby d9_5) rfl (XS.icmpNo X0.here hx rfl (hb hby d9_7) rfl (XT.ii_ge_f (by decide)) (XS.aloadN X0.here hx rfl (hb hby d9_10) rfl rfl (XS.iloadN X0.here hx rfl (hb hby d9_11) rfl k)))))))) ?_
  obtain ⟨cl1, Ar1, q1, S1, M1, H1, G1⟩ := id P0
  have hin1 : ¬ ((0 : Int32) < 0 ∨ cl1.slots.size ≤ ((0 : Int32)).toNatClampNeg) := inb_of S1 ⟨by decide, by decide⟩
  have hat1 : cl1.slots[((0 : Int32)).toNatClampNeg]? = some (.int c0) := H1.at hin1 rfl
  refine own_fw (A' := (s₁.setTop (mkF m 31 #[rv a1, iv 0, rv a3, iv 0, iv 3, iv 0, iv c0] [.int (c0.toInt8.toInt32), .int 0, .ref a3]))) (fun t k => X0.caload hx (j := (0 : Int32)) (v := (.int c0)) (by rw [e0]; exact Ar1.1) (State.isArrayOf_alike hZ.alike Ar1.2.1) Ar1.2.2 hin1 hat1 (g := (mkF m 12 #[rv a1, iv 0, rv a3, iv 0, iv 3, iv 0, .unset] [.int 0, .ref a1])) rfl rfl (hb hby d9_12) _ (XS.istore X0.here hx rfl (hb hby d9_13) rfl (l' := #[.val (.ref a1), .val (.int 0), .val (.ref a3), .val (.int 0), .val (.int 3), .val (.int 0), .val (.int c0)]) rfl (XS.iload X0.here hx rfl (hb hby d9_15) rfl (XS.sipush X0.here hx rfl (hb hby d9_17) (XS.icmpYes X0.here hx rfl (pc0 := 20) (pc' := 26) rfl (hb hby d9_20) rfl (XT.ii_le_t hc0) (by decide) (by decide) (XS.aloadN X0.here hx rfl (hb hby d9_26) rfl rfl (XS.iloadN X0.here hx rfl (hb hby d9_27) rfl (XS.iload X0.here hx rfl (hb hby d9_28) rfl (XS.i2b X0.here hx rfl (hb hby d9_30) rfl k))))))))) ?_
  obtain ⟨cl2, Ar2, q2, S2, M2, H2, G2⟩ := id P1
  have hin2 : ¬ ((0 : Int32) < 0 ∨ cl2.slots.size ≤ ((0 : Int32)).toNatClampNeg) := inb_of S2 ⟨by decide, by decide⟩
  obtain ⟨T2, h2, X2, e2, W2, st2⟩ := stB X0 hx hZ e0 Ar2 (j := (0 : Int32)) hin2 (g := (mkF m 31 #[rv a1, iv 0, rv a3, iv 0, iv 3, iv 0, iv c0] [.int (c0.toInt8.toInt32), .int 0, .ref a3])) rfl rfl (hb hby d9_31)
  rw [own_narB] at W2
  have V2 : Arv Z h2 a3 kb .byte (3 : Int32) [(.int (c0.toInt8.toInt32)), (.int 0), (.int 0)] (.int 0) := Arv.set Ar2 q2 S2 M2 H2 G2 (fits_nar_byte _) W2 0 rfl (Nat.le_of_ble_eq_true rfl)
  have Nf2 := Fr.snoc X2 N0 g_a3
  have K2 : Keep h0 h2 [a3] := (Keep.refl h0 [a3]).wr W2 (Or.inl (List.mem_of_getElem? (i := 0) rfl))
  have Z2 : n0 ≤ h2.size := Nat.le_trans Z0 (Keep.of_wr W2).1
  refine own_fw (A' := (T2.setTop (mkF m 12 #[rv a1, iv 1, rv a3, iv 1, iv 3, iv 1, iv c0] [.int 1, .ref a1]))) (fun t k => st2 _ (XS.iinc X2.here hx rfl (hb hby d9_32) rfl (l' := #[.val (.ref a1), .val (.int 1), .val (.ref a3), .val (.int 0), .val (.int 3), .val (.int 0), .val (.int c0)]) rfl (XS.iinc X2.here hx rfl (hb hby d9_35) rfl (l' := #[.val (.ref a1), .val (.int 1), .val (.ref a3), .val (.int 1), .val (.int 3), .val (.int 0), .val (.int c0)]) rfl (XS.iinc X2.here hx rfl (hb hby d9_38) rfl (l' := #[.val (.ref a1), .val (.int 1), .val (.ref a3), .val (.int 1), .val (.int 3), .val (.int 1), .val (.int c0)]) rfl (XS.goto X2.here hx rfl (pc0 := 41) (pc' := 3) rfl (hb hby d9_41) (by decide) (by decide) (XS.iload X2.here hx rfl (hb hby d9_3) rfl (XS.iload X2.here hx rfl (hb hby d9_5) rfl (XS.icmpNo X2.here hx rfl (hb hby d9_7) rfl (XT.ii_ge_f (by decide)) (XS.aloadN X2.here hx rfl (hb hby d9_10) rfl rfl (XS.iloadN X2.here hx rfl (hb hby d9_11) rfl k)))))))))) ?_
  obtain ⟨cl3, Ar3, q3, S3, M3, H3, G3⟩ := id (P0.other W2 ne_a1_a3)
  have hin3 : ¬ ((1 : Int32) < 0 ∨ cl3.slots.size ≤ ((1 : Int32)).toNatClampNeg) := inb_of S3 ⟨by decide, by decide⟩
  have hat3 : cl3.slots[((1 : Int32)).toNatClampNeg]? = some (.int c1) := H3.at hin3 rfl
  refine own_fw (A' := (T2.setTop (mkF m 31 #[rv a1, iv 1, rv a3, iv 1, iv 3, iv 1, iv c1] [.int (c1.toInt8.toInt32), .int 1, .ref a3]))) (fun t k => X2.caload hx (j := (1 : Int32)) (v := (.int c1)) (by rw [e2]; exact Ar3.1) (State.isArrayOf_alike hZ.alike Ar3.2.1) Ar3.2.2 hin3 hat3 (g := (mkF m 12 #[rv a1, iv 1, rv a3, iv 1, iv 3, iv 1, iv c0] [.int 1, .ref a1])) rfl rfl (hb hby d9_12) _ (XS.istore X2.here hx rfl (hb hby d9_13) rfl (l' := #[.val (.ref a1), .val (.int 1), .val (.ref a3), .val (.int 1), .val (.int 3), .val (.int 1), .val (.int c1)]) rfl (XS.iload X2.here hx rfl (hb hby d9_15) rfl (XS.sipush X2.here hx rfl (hb hby d9_17) (XS.icmpYes X2.here hx rfl (pc0 := 20) (pc' := 26) rfl (hb hby d9_20) rfl (XT.ii_le_t hc1) (by decide) (by decide) (XS.aloadN X2.here hx rfl (hb hby d9_26) rfl rfl (XS.iloadN X2.here hx rfl (hb hby d9_27) rfl (XS.iload X2.here hx rfl (hb hby d9_28) rfl (XS.i2b X2.here hx rfl (hb hby d9_30) rfl k))))))))) ?_
  obtain ⟨cl4, Ar4, q4, S4, M4, H4, G4⟩ := id V2
  have hin4 : ¬ ((1 : Int32) < 0 ∨ cl4.slots.size ≤ ((1 : Int32)).toNatClampNeg) := inb_of S4 ⟨by decide, by decide⟩
  obtain ⟨T4, h4, X4, e4, W4, st4⟩ := stB X2 hx hZ e2 Ar4 (j := (1 : Int32)) hin4 (g := (mkF m 31 #[rv a1, iv 1, rv a3, iv 1, iv 3, iv 1, iv c1] [.int (c1.toInt8.toInt32), .int 1, .ref a3])) rfl rfl (hb hby d9_31)
  rw [own_narB] at W4
  have V4 : Arv Z h4 a3 kb .byte (3 : Int32) [(.int (c0.toInt8.toInt32)), (.int (c1.toInt8.toInt32)), (.int 0)] (.int 0) := Arv.set Ar4 q4 S4 M4 H4 G4 (fits_nar_byte _) W4 1 rfl (Nat.le_of_ble_eq_true rfl)
  have Nf4 := Fr.snoc X4 Nf2 g_a3
  have K4 : Keep h0 h4 [a3] := K2.wr W4 (Or.inl (List.mem_of_getElem? (i := 0) rfl))
  have Z4 : n0 ≤ h4.size := Nat.le_trans Z2 (Keep.of_wr W4).1
  refine own_fw (A' := (T4.setTop (mkF m 12 #[rv a1, iv 2, rv a3, iv 2, iv 3, iv 2, iv c1] [.int 2, .ref a1]))) (fun t k => st4 _ (XS.iinc X4.here hx rfl (hb hby d9_32) rfl (l' := #[.val (.ref a1), .val (.int 2), .val (.ref a3), .val (.int 1), .val (.int 3), .val (.int 1), .val (.int c1)]) rfl (XS.iinc X4.here hx rfl (hb hby d9_35) rfl (l' := #[.val (.ref a1), .val (.int 2), .val (.ref a3), .val (.int 2), .val (.int 3), .val (.int 1), .val (.int c1)]) rfl (XS.iinc X4.here hx rfl (hb hby d9_38) rfl (l' := #[.val (.ref a1), .val (.int 2), .val (.ref a3), .val (.int 2), .val (.int 3), .val (.int 2), .val (.int c1)]) rfl (XS.goto X4.here hx rfl (pc0 := 41) (pc' := 3) rfl (hb hby d9_41) (by decide) (by decide) (XS.iload X4.here hx rfl (hb hby d9_3) rfl (XS.iload X4.here hx rfl (hb hby d9_5) rfl (XS.icmpNo X4.here hx rfl (hb hby d9_7) rfl (XT.ii_ge_f (by decide)) (XS.aloadN X4.here hx rfl (hb hby d9_10) rfl rfl (XS.iloadN X4.here hx rfl (hb hby d9_11) rfl k)))))))))) ?_
  obtain ⟨cl5, Ar5, q5, S5, M5, H5, G5⟩ := id ((P0.other W2 ne_a1_a3).other W4 ne_a1_a3)
  have hin5 : ¬ ((2 : Int32) < 0 ∨ cl5.slots.size ≤ ((2 : Int32)).toNatClampNeg) := inb_of S5 ⟨by decide, by decide⟩
  have hat5 : cl5.slots[((2 : Int32)).toNatClampNeg]? = some (.int c2) := H5.at hin5 rfl
  refine own_fw (A' := (T4.setTop (mkF m 31 #[rv a1, iv 2, rv a3, iv 2, iv 3, iv 2, iv c2] [.int (c2.toInt8.toInt32), .int 2, .ref a3]))) (fun t k => X4.caload hx (j := (2 : Int32)) (v := (.int c2)) (by rw [e4]; exact Ar5.1) (State.isArrayOf_alike hZ.alike Ar5.2.1) Ar5.2.2 hin5 hat5 (g := (mkF m 12 #[rv a1, iv 2, rv a3, iv 2, iv 3, iv 2, iv c1] [.int 2, .ref a1])) rfl rfl (hb hby d9_12) _ (XS.istore X4.here hx rfl (hb hby d9_13) rfl (l' := #[.val (.ref a1), .val (.int 2), .val (.ref a3), .val (.int 2), .val (.int 3), .val (.int 2), .val (.int c2)]) rfl (XS.iload X4.here hx rfl (hb hby d9_15) rfl (XS.sipush X4.here hx rfl (hb hby d9_17) (XS.icmpYes X4.here hx rfl (pc0 := 20) (pc' := 26) rfl (hb hby d9_20) rfl (XT.ii_le_t hc2) (by decide) (by decide) (XS.aloadN X4.here hx rfl (hb hby d9_26) rfl rfl (XS.iloadN X4.here hx rfl (hb hby d9_27) rfl (XS.iload X4.here hx rfl (hb hby d9_28) rfl (XS.i2b X4.here hx rfl (hb hby d9_30) rfl k))))))))) ?_
  obtain ⟨cl6, Ar6, q6, S6, M6, H6, G6⟩ := id V4
  have hin6 : ¬ ((2 : Int32) < 0 ∨ cl6.slots.size ≤ ((2 : Int32)).toNatClampNeg) := inb_of S6 ⟨by decide, by decide⟩
  obtain ⟨T6, h6, X6, e6, W6, st6⟩ := stB X4 hx hZ e4 Ar6 (j := (2 : Int32)) hin6 (g := (mkF m 31 #[rv a1, iv 2, rv a3, iv 2, iv 3, iv 2, iv c2] [.int (c2.toInt8.toInt32), .int 2, .ref a3])) rfl rfl (hb hby d9_31)
  rw [own_narB] at W6
  have V6 : Arv Z h6 a3 kb .byte (3 : Int32) [(.int (c0.toInt8.toInt32)), (.int (c1.toInt8.toInt32)), (.int (c2.toInt8.toInt32))] (.int 0) := Arv.set Ar6 q6 S6 M6 H6 G6 (fits_nar_byte _) W6 2 rfl (Nat.le_of_ble_eq_true rfl)
  have Nf6 := Fr.snoc X6 Nf4 g_a3
  have K6 : Keep h0 h6 [a3] := K4.wr W6 (Or.inl (List.mem_of_getElem? (i := 0) rfl))
  have Z6 : n0 ≤ h6.size := Nat.le_trans Z4 (Keep.of_wr W6).1
  refine own_fw (A' := (T6.setTop (mkF m 46 #[rv a1, iv 3, rv a3, iv 3, iv 3, iv 3, iv c2] [.int 3]))) (fun t k => st6 _ (XS.iinc X6.here hx rfl (hb hby d9_32) rfl (l' := #[.val (.ref a1), .val (.int 3), .val (.ref a3), .val (.int 2), .val (.int 3), .val (.int 2), .val (.int c2)]) rfl (XS.iinc X6.here hx rfl (hb hby d9_35) rfl (l' := #[.val (.ref a1), .val (.int 3), .val (.ref a3), .val (.int 3), .val (.int 3), .val (.int 2), .val (.int c2)]) rfl (XS.iinc X6.here hx rfl (hb hby d9_38) rfl (l' := #[.val (.ref a1), .val (.int 3), .val (.ref a3), .val (.int 3), .val (.int 3), .val (.int 3), .val (.int c2)]) rfl (XS.goto X6.here hx rfl (pc0 := 41) (pc' := 3) rfl (hb hby d9_41) (by decide) (by decide) (XS.iload X6.here hx rfl (hb hby d9_3) rfl (XS.iload X6.here hx rfl (hb hby d9_5) rfl (XS.icmpYes X6.here hx rfl (pc0 := 7) (pc' := 44) rfl (hb hby d9_7) rfl (XT.ii_ge_t (by decide)) (by decide) (by decide) (XS.iload X6.here hx rfl (hb hby d9_44) rfl k))))))))) ?_
  obtain ⟨fs, hr, hrun, hended, hW, hsame⟩ := X6.leave (v := some (.int 3)) (fun h => by rw [Bd.returns] at h; cases h)
  refine ⟨_, _, ?_, hrun, hended, _, _, rfl, ?_, ⟨_, rfl⟩, hW, hsame.mono (by decide) (by decide)⟩
  · exact retOut X6 hx Bd.returns rfl (Or.inl ⟨rfl, by simp, _, rfl⟩) (hb hby d9_46) hr
  · show Q_rmCmpA3 Z a1 a3 kc kb c0 c1 c2 h0 n0 _ T6.heap _
    rw [e6]
    exact ⟨rfl, Nf6, K6, V6⟩
theorem ef_rmCmpB3 (m : MethodId) (a1 : Addr) : entryFrame m #[(.ref a1), (.int 0), (.int 3)] 6 = mkF m 0 #[.val (.ref a1), .val (.int 0), .val (.int 3), .unset, .unset, .unset] [] := by first | (simp [entryFrame, mkF, argsToLocals, Value.category]; done) | rfl
def Q_rmCmpB3 (Z : State) (a1 : Addr) (kc : ClassId) (c0 c1 c2 : Int32) (h0 : Heap) (n0 : Nat) (v : Option Value) (h : Heap) (L : List Loc) : Prop := ∃ b : Addr, ∃ kb : ClassId, v = some (.ref b) ∧ Fr n0 L ∧ Keep h0 h [] ∧ Arv Z h b kb .byte (3 : Int32) [(.int (c0.toInt8.toInt32)), (.int (c1.toInt8.toInt32)), (.int (c2.toInt8.toInt32))] (.int 0) ∧ (h0.size ≤ b)
theorem rmCmpB3 (l : Launch) (Z : State) (a0 : Array Value) (hw : ∀ d ∈ tables_1, d.before a0 Z = true) (ws : List Jvm.Cond) (a1 : Addr) (kc : ClassId) (c0 c1 c2 : Int32) (h0 : Heap) (n0 : Nat) (Z0 : n0 ≤ h0.size) (P0 : Arv Z h0 a1 kc .char (3 : Int32) [(.int c0), (.int c1), (.int c2)] (.int 0)) (hc0 : ¬ ((255 : Int32) < c0)) (hc1 : ¬ ((255 : Int32) < c1)) (hc2 : ¬ ((255 : Int32) < c2)) :
    MetFree l yq3 (head1 (Jvm.Cond.code yq3 jdk_52_method_16_code 6 (some (.array .byte)) :: ws) rq12) (fun a U => a = #[(.ref a1), (.int 0), (.int 3)] ∧ Z.Warmed39 U.vm ∧ U.heap = h0) (fun _ _ _ _ _ => True) (fun _ U o U' => ∃ v L, o = .returned v ∧ Q_rmCmpB3 Z a1 kc c0 c1 c2 h0 n0 v U'.heap L ∧ FrameEnd U o U' L rq12.cells rq12.slots) := by
  refine MetFree.of_bodySF (plainFor_of_name pn_java_lang_StringUTF16) hisR ?_
  intro p e s m args below meth c s₁ Bd hml0 hP hK
  obtain ⟨rfl, hZ, hh⟩ := hP
  have hx := Bd.exec
  have hby := Bd.bytes
  have hml : c.maxLocals = 6 := hml0
  have hown : s.vm.findClass "java/lang/StringUTF16" = some m.cls := findClass_of_methodNamed Bd.named
  have hnm := (name_of_methodNamed Bd.named Bd.method).1
  have X0 : Stand p l e rq12 s m #[(.ref a1), (.int 0), (.int 3)] below meth c s₁ [] 0 0 := Stand.of_body Bd
  have e0 : s₁.heap = h0 := by rw [← hh, Bd.state]; rfl
  have N0 := Fr.nil n0
  refine own_fw (A' := (s₁.setTop (mkF m 1 #[rv a1, iv 0, iv 3, .unset, .unset, .unset] [.int 3]))) (fun t k => castTop (ef_rmCmpB3 m a1) (XS.iloadN X0.here hx rfl (hb hby d8_0) rfl k)) ?_
  obtain ⟨T1, h1, k1, X1, e1, E1, A1, st1⟩ := newP X0 hx hZ (own_w hw 42 rfl) e0 (g := (mkF m 1 #[rv a1, iv 0, iv 3, .unset, .unset, .unset] [.int 3])) rfl (hb hby d8_1) rfl (by decide) (cap := 3) (by decide) (by decide) (by decide) (by decide)
  obtain ⟨b1, gb1⟩ : ∃ z, z = h0.size := ⟨_, rfl⟩
  have g_b1 : n0 ≤ b1 := Nat.le_trans Z0 (Nat.le_of_eq gb1.symm)
  have sz_b1 : h0.size ≤ b1 := Nat.le_trans (Keep.refl h0 []).1 (Nat.le_of_eq gb1.symm)
  have ne_a1_b1 : a1 ≠ b1 := Nat.ne_of_lt (Nat.lt_of_lt_of_le P0.lt (Nat.le_of_eq gb1.symm))
  rw [← gb1] at A1 st1
  have V_b1 : Arv Z h1 b1 k1 .byte (3 : Int32) [(.int 0), (.int 0), (.int 0)] (.int 0) := (Arv.new A1 (by decide)).pad (pad_rep [] (.int 0) 3)
  have K1 : Keep h0 h1 [] := (Keep.refl h0 []).ext E1
  have Z1 : n0 ≤ h1.size := Nat.le_trans Z0 E1.1
  refine own_fw (A' := (T1.setTop (mkF m 9 #[rv a1, iv 0, iv 3, rv b1, .unset, .unset] [.int 3, .int 0, .ref b1, .int 0, .ref a1]))) (fun t k => st1 _ (XS.astoreN X1.here hx rfl (hb hby d8_3) rfl rfl (l' := #[.val (.ref a1), .val (.int 0), .val (.int 3), .val (.ref b1), .unset, .unset]) rfl (XS.aloadN X1.here hx rfl (hb hby d8_4) rfl rfl (XS.iloadN X1.here hx rfl (hb hby d8_5) rfl (XS.aloadN X1.here hx rfl (hb hby d8_6) rfl rfl (XS.iconst X1.here hx rfl (hb hby d8_7) (XS.iloadN X1.here hx rfl (hb hby d8_8) rfl k))))))) ?_
  obtain ⟨_, _, ⟨T2, L2, k2, n2⟩, -, X2, ⟨Lc2, hQ2, l2, y2, z2⟩, st2⟩ := Jvm.LawKit.callS X1 hx (y := yq1) hown (mvT hZ (own_w hw 43 rfl)) (mvT hZ (own_w hw 44 rfl)) (mvT hZ (own_w hw 40 rfl)) (mvT hZ (own_w hw 45 rfl)) (by decide) (backOf (W := 0) (rmCmpA3 l Z a0 hw [] a1 b1 kc k1 c0 c1 c2 h1 n0 Z1 (P0.ext E1) V_b1 g_b1 ne_a1_b1 hc0 hc1 hc2) hZ (own_w hw 45 rfl) (own_w hw 40 rfl) (by decide) (by decide)) (g := (mkF m 9 #[rv a1, iv 0, iv 3, rv b1, .unset, .unset] [.int 3, .int 0, .ref b1, .int 0, .ref a1])) rfl (by rw [hml]; rfl) (argsL := [(.ref a1), (.int 0), (.ref b1), (.int 0), (.int 3)]) (rest := []) (lenOf pd___CI_BII_I rfl) rfl (by show 2 * 0 + _ ≤ _; exact Nat.le_of_eq rfl) (hb hby d8_9) (fun _ _ => ⟨rfl, e1, (by decide : 1 + 0 ≤ _), (by decide : 3 + 0 ≤ _)⟩)
  dsimp only [Pt.U, Pt.locs, Pt.cells, Pt.slots] at X2 l2 y2 z2 st2 hQ2
  subst l2 y2 z2
  obtain ⟨rfl, Nq2, Kq2, Fq2_0⟩ := hQ2
  have Nf2 := Fr.app N0 Nq2
  have K2 : Keep h0 T2.heap [] := K1.trans Kq2 (allS (Or.inr sz_b1) all0)
  have Z2 : n0 ≤ T2.heap.size := Nat.le_trans Z1 Kq2.1
  refine own_fw (A' := (T2.setTop (mkF m 58 #[rv a1, iv 0, iv 3, rv b1, iv 3, .unset] [.ref b1]))) (fun t k => st2 _ (XS.istore X2.here hx rfl (hb hby d8_12) rfl (l' := #[.val (.ref a1), .val (.int 0), .val (.int 3), .val (.ref b1), .val (.int 3), .unset]) rfl (XS.iload X2.here hx rfl (hb hby d8_14) rfl (XS.iloadN X2.here hx rfl (hb hby d8_16) rfl (XS.icmpYes X2.here hx rfl (pc0 := 17) (pc' := 57) rfl (hb hby d8_17) rfl (XT.ii_eq_t rfl) (by decide) (by decide) (XS.aloadN X2.here hx rfl (hb hby d8_57) rfl rfl k)))))) ?_
  obtain ⟨fs, hr, hrun, hended, hW, hsame⟩ := X2.leave (v := some (.ref b1)) (fun h => by rw [Bd.returns] at h; cases h)
  refine ⟨_, _, ?_, hrun, hended, _, _, rfl, ?_, ⟨_, rfl⟩, hW, hsame.mono (by decide) (by decide)⟩
  · exact retOut X2 hx Bd.returns rfl (Or.inr (Or.inr (Or.inr (Or.inr ⟨rfl, rfl, rfl⟩)))) (hb hby d8_58) hr
  · show Q_rmCmpB3 Z a1 kc c0 c1 c2 h0 n0 _ T2.heap _
    exact ⟨b1, k1, rfl, Nf2, K2, Fq2_0, sz_b1⟩
theorem ef_rmCoder3 (m : MethodId) (a1 : Addr) : entryFrame m #[(.ref a1), (.int 3)] 2 = mkF m 0 #[.val (.ref a1), .val (.int 3)] [] := by first | (simp [entryFrame, mkF, argsToLocals, Value.category]; done) | rfl
def Q_rmCoder3 (Z : State) (a1 : Addr) (kb : ClassId) (c0 c1 c2 : Int32) (h0 : Heap) (n0 : Nat) (v : Option Value) (h : Heap) (L : List Loc) : Prop := v = some (.int 0) ∧ Fr n0 L ∧ h = h0
theorem rmCoder3 (l : Launch) (Z : State) (a0 : Array Value) (hw : ∀ d ∈ tables_1, d.before a0 Z = true) (ws : List Jvm.Cond) (a1 : Addr) (kb : ClassId) (c0 c1 c2 : Int32) (h0 : Heap) (n0 : Nat) (Z0 : n0 ≤ h0.size) (P0 : Arv Z h0 a1 kb .byte (3 : Int32) [(.int c0), (.int c1), (.int c2)] (.int 0)) :
    MetFree l yq4 (head1 (Jvm.Cond.code yq4 jdk_52_method_15_code 2 (some .byte) :: ws) rq0) (fun a U => a = #[(.ref a1), (.int 3)] ∧ Z.Warmed39 U.vm ∧ U.heap = h0) (fun _ _ _ _ _ => True) (fun _ U o U' => ∃ v L, o = .returned v ∧ Q_rmCoder3 Z a1 kb c0 c1 c2 h0 n0 v U'.heap L ∧ FrameEnd U o U' L rq0.cells rq0.slots) := by
  refine MetFree.of_bodySF (plainFor_of_name pn_java_lang_StringUTF16) hisR ?_
  intro p e s m args below meth c s₁ Bd hml0 hP hK
  obtain ⟨rfl, hZ, hh⟩ := hP
  have hx := Bd.exec
  have hby := Bd.bytes
  have hml : c.maxLocals = 2 := hml0
  have hown : s.vm.findClass "java/lang/StringUTF16" = some m.cls := findClass_of_methodNamed Bd.named
  have hnm := (name_of_methodNamed Bd.named Bd.method).1
  have X0 : Stand p l e rq0 s m #[(.ref a1), (.int 3)] below meth c s₁ [] 0 0 := Stand.of_body Bd
  have e0 : s₁.heap = h0 := by rw [← hh, Bd.state]; rfl
  have N0 := Fr.nil n0
  refine own_fw (A' := (s₁.setTop (mkF m 2 #[rv a1, iv 3] [.ref a1, .int 3]))) (fun t k => castTop (ef_rmCoder3 m a1) (XS.iloadN X0.here hx rfl (hb hby d10_0) rfl (XS.aloadN X0.here hx rfl (hb hby d10_1) rfl rfl k))) ?_
  obtain ⟨cl1, Ar1, q1, S1, M1, H1, G1⟩ := id P0
  refine own_fw (A' := (s₁.setTop (mkF m 3 #[rv a1, iv 3] [.int 3, .int 3]))) (fun t k => X0.arraylength hx (by rw [e0]; exact Ar1.1) (State.isArrayOf_alike hZ.alike Ar1.2.1) (g := (mkF m 2 #[rv a1, iv 3] [.ref a1, .int 3])) rfl rfl (hb hby d10_2) _ (by rw [len_of S1 M1]; exact k)) ?_
  refine own_fw (A' := (s₁.setTop (mkF m 8 #[rv a1, iv 3] [.int 0]))) (fun t k => XS.isub X0.here hx rfl (hb hby d10_3) rfl (XS.bipush X0.here hx rfl (hb hby d10_4) (XS.iushr X0.here hx rfl (hb hby d10_6) rfl (XS.i2b X0.here hx rfl (hb hby d10_7) rfl k)))) ?_
  obtain ⟨fs, hr, hrun, hended, hW, hsame⟩ := X0.leave (v := some (.int 0)) (fun h => by rw [Bd.returns] at h; cases h)
  refine ⟨_, _, ?_, hrun, hended, _, _, rfl, ?_, ⟨_, rfl⟩, hW, hsame.mono (by decide) (by decide)⟩
  · exact retOut X0 hx Bd.returns rfl (Or.inl ⟨rfl, by simp, _, rfl⟩) (hb hby d10_8) hr
  · show Q_rmCoder3 Z a1 kb c0 c1 c2 h0 n0 _ s₁.heap _
    rw [e0]
    exact ⟨rfl, N0, rfl⟩
theorem ef_rmStrB3 (m : MethodId) (a1 a2 : Addr) : entryFrame m #[(.ref a1), (.ref a2), (.int 0), (.int 3), .null] 6 = mkF m 0 #[.val (.ref a1), .val (.ref a2), .val (.int 0), .val (.int 3), .val .null, .unset] [] := by first | (simp [entryFrame, mkF, argsToLocals, Value.category]; done) | rfl
def Q_rmStrB3 (Z : State) (a1 a2 : Addr) (kc : ClassId) (cs c0 c1 c2 : Int32) (h0 : Heap) (n0 : Nat) (v : Option Value) (h : Heap) (L : List Loc) : Prop := ∃ b : Addr, ∃ kb : ClassId, v = none ∧ Fr n0 L ∧ Keep h0 h [a1] ∧ Exa Z h a1 "java/lang/String" ∧ Fld Z h a1 "java/lang/String" "coder" "B" (.int 0) ∧ Fld Z h a1 "java/lang/String" "value" "[B" (.ref b) ∧ Arv Z h b kb .byte (3 : Int32) [(.int (c0.toInt8.toInt32)), (.int (c1.toInt8.toInt32)), (.int (c2.toInt8.toInt32))] (.int 0)
theorem rmStrB3 (l : Launch) (Z : State) (a0 : Array Value) (hw : ∀ d ∈ tables_1, d.before a0 Z = true) (ws : List Jvm.Cond) (a1 a2 : Addr) (kc : ClassId) (cs c0 c1 c2 : Int32) (h0 : Heap) (n0 : Nat) (Z0 : n0 ≤ h0.size) (P0 : Exa Z h0 a1 "java/lang/String") (P1 : Fld Z h0 a1 "java/lang/String" "coder" "B" (.int 0)) (P2 : Fld Z h0 a1 "java/lang/String" "value" "[B" .null) (P3 : Arv Z h0 a2 kc .char (3 : Int32) [(.int c0), (.int c1), (.int c2)] (.int 0)) (g_a1 : n0 ≤ a1) (ne_a1_a2 : a1 ≠ a2) (P6 : Sta Z h0 "java/lang/String" "COMPACT_STRINGS" "Z" (.int cs)) (hcs : ¬ (cs = (0 : Int32))) (hc0 : ¬ ((255 : Int32) < c0)) (hc1 : ¬ ((255 : Int32) < c1)) (hc2 : ¬ ((255 : Int32) < c2)) :
    MetFree l yq6 (head1 (Jvm.Cond.code yq6 jdk_42_method_149_code 6 none :: ws) rq13) (fun a U => a = #[(.ref a1), (.ref a2), (.int 0), (.int 3), .null] ∧ Z.Warmed39 U.vm ∧ U.heap = h0) (fun _ _ _ _ _ => True) (fun _ U o U' => ∃ v L, o = .returned v ∧ Q_rmStrB3 Z a1 a2 kc cs c0 c1 c2 h0 n0 v U'.heap L ∧ FrameEnd U o U' L rq13.cells rq13.slots) := by
  refine MetFree.of_bodySF (plainFor_of_name pn_java_lang_String) hisR ?_
  intro p e s m args below meth c s₁ Bd hml0 hP hK
  obtain ⟨rfl, hZ, hh⟩ := hP
  have hx := Bd.exec
  have hby := Bd.bytes
  have hml : c.maxLocals = 6 := hml0
  have hown : s.vm.findClass "java/lang/String" = some m.cls := findClass_of_methodNamed Bd.named
  have hnm := (name_of_methodNamed Bd.named Bd.method).1
  have X0 : Stand p l e rq13 s m #[(.ref a1), (.ref a2), (.int 0), (.int 3), .null] below meth c s₁ [] 0 0 := Stand.of_body Bd
  have e0 : s₁.heap = h0 := by rw [← hh, Bd.state]; rfl
  have N0 := Fr.nil n0
  refine own_fw (A' := (s₁.setTop (mkF m 1 #[rv a1, rv a2, iv 0, iv 3, .val (.null), .unset] [.ref a1]))) (fun t k => castTop (ef_rmStrB3 m a1 a2) (XS.aloadN X0.here hx rfl (hb hby d7_0) rfl rfl k)) ?_
  obtain ⟨T1, X1, e1, st1⟩ := initO X0 hx hZ hown (own_w hw 36 rfl) (own_w hw 7 rfl) (own_w hw 8 rfl) e0 (g := (mkF m 1 #[rv a1, rv a2, iv 0, iv 3, .val (.null), .unset] [.ref a1])) rfl (by rw [hml]; rfl) rfl (hb hby d7_1) (by decide) (W := 0) (by show 2 * 0 + _ ≤ _; exact Nat.le_of_eq rfl) (by decide)
  refine own_fw (A' := (T1.setTop (mkF m 27 #[rv a1, rv a2, iv 0, iv 3, .val (.null), .unset] []))) (fun t k => st1 _ (XS.iloadN X1.here hx rfl (hb hby d7_4) rfl (XS.ifYes X1.here hx rfl (pc0 := 5) (pc' := 27) rfl (hb hby d7_5) rfl (XT.i0_ne_t (by decide)) (by decide) (by decide) k))) ?_
  obtain ⟨T2, X2, e2, st2⟩ := getS2 X1 hx hZ hown (host := "") (Or.inl (own_w hw 37 rfl)) Via.refl e1 P6 (g := (mkF m 27 #[rv a1, rv a2, iv 0, iv 3, .val (.null), .unset] [])) rfl (hb hby d7_27)
  refine own_fw (A' := (T2.setTop (mkF m 36 #[rv a1, rv a2, iv 0, iv 3, .val (.null), .unset] [.int 3, .int 0, .ref a2]))) (fun t k => st2 _ (XS.ifNo X2.here hx rfl (hb hby d7_30) rfl (XT.i0_eq_f hcs) (XS.aloadN X2.here hx rfl (hb hby d7_33) rfl rfl (XS.iloadN X2.here hx rfl (hb hby d7_34) rfl (XS.iloadN X2.here hx rfl (hb hby d7_35) rfl k))))) ?_
  obtain ⟨_, _, ⟨T3, L3, k3, n3⟩, -, X3, ⟨Lc3, hQ3, l3, y3, z3⟩, st3⟩ := Jvm.LawKit.callS X2 hx (y := yq3) hown (mvT hZ (own_w hw 38 rfl)) (mvT hZ (own_w hw 39 rfl)) (mvT hZ (own_w hw 40 rfl)) (mvT hZ (own_w hw 41 rfl)) (by decide) (backOf (W := 0) (rmCmpB3 l Z a0 hw [] a2 kc c0 c1 c2 h0 n0 Z0 P3 hc0 hc1 hc2) hZ (own_w hw 41 rfl) (own_w hw 40 rfl) (by decide) (by decide)) (g := (mkF m 36 #[rv a1, rv a2, iv 0, iv 3, .val (.null), .unset] [.int 3, .int 0, .ref a2])) rfl (by rw [hml]; rfl) (argsL := [(.ref a2), (.int 0), (.int 3)]) (rest := []) (lenOf pd___CII__B rfl) rfl (by show 2 * 0 + _ ≤ _; exact Nat.le_of_eq rfl) (hb hby d7_36) (fun _ _ => ⟨rfl, e2, (by decide : 0 + 1 ≤ _), (by decide : 0 + 3 ≤ _)⟩)
  dsimp only [Pt.U, Pt.locs, Pt.cells, Pt.slots] at X3 l3 y3 z3 st3 hQ3
  subst l3 y3 z3
  obtain ⟨b_3, kb_3, rfl, Nq3, Kq3, Fq3_0, gb_3⟩ := hQ3
  have Nf3 := Fr.app N0 Nq3
  have K3 : Keep h0 T3.heap [a1] := (Keep.refl h0 [a1]).trans Kq3 all0
  have sz_b_3 : h0.size ≤ b_3 := Nat.le_trans (Keep.refl h0 [a1]).1 gb_3
  have g_b_3 : n0 ≤ b_3 := Nat.le_trans Z0 gb_3
  have ne_a1_b_3 : a1 ≠ b_3 := Nat.ne_of_lt (Nat.lt_of_lt_of_le P0.lt gb_3)
  have ne_a2_b_3 : a2 ≠ b_3 := Nat.ne_of_lt (Nat.lt_of_lt_of_le P3.lt gb_3)
  have Z3 : n0 ≤ T3.heap.size := Nat.le_trans Z0 Kq3.1
  refine own_fw (A' := (T3.setTop (mkF m 45 #[rv a1, rv a2, iv 0, iv 3, .val (.null), rv b_3] [.int 3, .ref b_3, .ref a1]))) (fun t k => st3 _ (XS.astore X3.here hx rfl (hb hby d7_39) rfl rfl (l' := #[.val (.ref a1), .val (.ref a2), .val (.int 0), .val (.int 3), .val .null, .val (.ref b_3)]) rfl (XS.aloadN X3.here hx rfl (hb hby d7_41) rfl rfl (XS.aload X3.here hx rfl (hb hby d7_42) rfl rfl (XS.iloadN X3.here hx rfl (hb hby d7_44) rfl k))))) ?_
  obtain ⟨_, _, ⟨T4, L4, k4, n4⟩, -, X4, ⟨Lc4, hQ4, l4, y4, z4⟩, st4⟩ := Jvm.LawKit.callS X3 hx (y := yq4) hown (mvT hZ (own_w hw 46 rfl)) (mvT hZ (own_w hw 47 rfl)) (mvT hZ (own_w hw 40 rfl)) (mvT hZ (own_w hw 48 rfl)) (by decide) (backOf (W := 1) (rmCoder3 l Z a0 hw [] b_3 kb_3 (c0.toInt8.toInt32) (c1.toInt8.toInt32) (c2.toInt8.toInt32) T3.heap n0 Z3 Fq3_0) hZ (own_w hw 48 rfl) (own_w hw 40 rfl) (by decide) (by decide)) (g := (mkF m 45 #[rv a1, rv a2, iv 0, iv 3, .val (.null), rv b_3] [.int 3, .ref b_3, .ref a1])) rfl (by rw [hml]; rfl) (argsL := [(.ref b_3), (.int 3)]) (rest := [(.ref a1)]) (lenOf pd___BI_B rfl) rfl (by show 2 * 0 + _ ≤ _; exact Nat.le_of_eq rfl) (hb hby d7_45) (fun _ _ => ⟨rfl, rfl, (by decide : 1 + 0 ≤ _), (by decide : 3 + 0 ≤ _)⟩)
  dsimp only [Pt.U, Pt.locs, Pt.cells, Pt.slots] at X4 l4 y4 z4 st4 hQ4
  subst l4 y4 z4
  obtain ⟨rfl, Nq4, e4⟩ := hQ4
  have Nf4 := Fr.app Nf3 Nq4
  refine own_fw (A' := (T4.setTop (mkF m 48 #[rv a1, rv a2, iv 0, iv 3, .val (.null), rv b_3] [.int 0, .ref a1]))) (fun t k => st4 _ k) ?_
  obtain ⟨T5, h5, X5, e5, W5, st5⟩ := putFN X4 hx hZ hown (own_w hw 49 rfl) Via.refl e4 (P1.keep Kq3 nin0) (P0.keep Kq3) (Or.inr ⟨(own_w hw 50 rfl), rfl, hnm⟩) (own_w hw 26 rfl) (ty := .byte) (v' := (.int 0)) (by decide) rfl rfl (g := (mkF m 48 #[rv a1, rv a2, iv 0, iv 3, .val (.null), rv b_3] [.int 0, .ref a1])) rfl rfl (hb hby d7_48)
  have Fw5 : Fld Z h5 a1 "java/lang/String" "coder" "B" (.int 0) := (P1.keep Kq3 nin0).same W5
  have Nf5 := Fr.snoc X5 Nf4 g_a1
  have K5 : Keep h0 h5 [a1] := K3.wr W5 (Or.inl (List.mem_of_getElem? (i := 0) rfl))
  have Z5 : n0 ≤ h5.size := Nat.le_trans Z3 (Keep.of_wr W5).1
  refine own_fw (A' := (T5.setTop (mkF m 54 #[rv a1, rv a2, iv 0, iv 3, .val (.null), rv b_3] [.ref b_3, .ref a1]))) (fun t k => st5 _ (XS.aloadN X5.here hx rfl (hb hby d7_51) rfl rfl (XS.aload X5.here hx rfl (hb hby d7_52) rfl rfl k))) ?_
  obtain ⟨T6, h6, X6, e6, W6, st6⟩ := putF X5 hx hZ hown (host := "") (Or.inl (own_w hw 51 rfl)) Via.refl e5 ((P2.keep Kq3 nin0).other W5 (Or.inr (slot_ne (Or.inr (own_w hw 52 rfl)) (Or.inr (own_w hw 50 rfl)) (by decide) (t := (.array .byte)) (t' := .byte) (by decide) (by decide)))) ((P0.keep Kq3).wr W5) (Or.inr ⟨(own_w hw 52 rfl), rfl, hnm⟩) (own_w hw 26 rfl) (ty := (.array .byte)) (by decide) rfl rfl (g := (mkF m 54 #[rv a1, rv a2, iv 0, iv 3, .val (.null), rv b_3] [.ref b_3, .ref a1])) rfl rfl (hb hby d7_54)
  have Fw6 : Fld Z h6 a1 "java/lang/String" "value" "[B" (.ref b_3) := ((P2.keep Kq3 nin0).other W5 (Or.inr (slot_ne (Or.inr (own_w hw 52 rfl)) (Or.inr (own_w hw 50 rfl)) (by decide) (t := (.array .byte)) (t' := .byte) (by decide) (by decide)))).same W6
  have Nf6 := Fr.snoc X6 Nf5 g_a1
  have K6 : Keep h0 h6 [a1] := K5.wr W6 (Or.inl (List.mem_of_getElem? (i := 0) rfl))
  have Z6 : n0 ≤ h6.size := Nat.le_trans Z5 (Keep.of_wr W6).1
  refine own_fw (A' := (T6.setTop (mkF m 57 #[rv a1, rv a2, iv 0, iv 3, .val (.null), rv b_3] []))) (fun t k => st6 _ k) ?_
  obtain ⟨fs, hr, hrun, hended, hW, hsame⟩ := X6.leave (v := none) (fun _ => rfl)
  refine ⟨_, _, ?_, hrun, hended, _, _, rfl, ?_, ⟨_, rfl⟩, hW, hsame.mono (by decide) (by decide)⟩
  · exact X6.returnOut hx Bd.returns (hb hby d7_57) hr
  · show Q_rmStrB3 Z a1 a2 kc cs c0 c1 c2 h0 n0 _ T6.heap _
    rw [e6]
    exact ⟨b_3, kb_3, rfl, Nf6, K6, (((P0.keep Kq3).wr W5).wr W6), (Fw5.other W6 (Or.inr (slot_ne (Or.inr (own_w hw 50 rfl)) (Or.inr (own_w hw 52 rfl)) (by decide) (t := .byte) (t' := (.array .byte)) (by decide) (by decide)))), Fw6, ((Fq3_0.other W5 (Ne.symm ne_a1_b_3)).other W6 (Ne.symm ne_a1_b_3))⟩
theorem ef_rmStrA3 (m : MethodId) (a1 a2 : Addr) : entryFrame m #[(.ref a1), (.ref a2)] 2 = mkF m 0 #[.val (.ref a1), .val (.ref a2)] [] := by first | (simp [entryFrame, mkF, argsToLocals, Value.category]; done) | rfl
def Q_rmStrA3 (Z : State) (a1 a2 : Addr) (kc : ClassId) (cs c0 c1 c2 : Int32) (h0 : Heap) (n0 : Nat) (v : Option Value) (h : Heap) (L : List Loc) : Prop := ∃ b : Addr, ∃ kb : ClassId, v = none ∧ Fr n0 L ∧ Keep h0 h [a1] ∧ Exa Z h a1 "java/lang/String" ∧ Fld Z h a1 "java/lang/String" "coder" "B" (.int 0) ∧ Fld Z h a1 "java/lang/String" "value" "[B" (.ref b) ∧ Arv Z h b kb .byte (3 : Int32) [(.int (c0.toInt8.toInt32)), (.int (c1.toInt8.toInt32)), (.int (c2.toInt8.toInt32))] (.int 0)
theorem rmStrA3 (l : Launch) (Z : State) (a0 : Array Value) (hw : ∀ d ∈ tables_1, d.before a0 Z = true) (ws : List Jvm.Cond) (a1 a2 : Addr) (kc : ClassId) (cs c0 c1 c2 : Int32) (h0 : Heap) (n0 : Nat) (Z0 : n0 ≤ h0.size) (P0 : Exa Z h0 a1 "java/lang/String") (P1 : Fld Z h0 a1 "java/lang/String" "coder" "B" (.int 0)) (P2 : Fld Z h0 a1 "java/lang/String" "value" "[B" .null) (P3 : Arv Z h0 a2 kc .char (3 : Int32) [(.int c0), (.int c1), (.int c2)] (.int 0)) (g_a1 : n0 ≤ a1) (ne_a1_a2 : a1 ≠ a2) (P6 : Sta Z h0 "java/lang/String" "COMPACT_STRINGS" "Z" (.int cs)) (hcs : ¬ (cs = (0 : Int32))) (hc0 : ¬ ((255 : Int32) < c0)) (hc1 : ¬ ((255 : Int32) < c1)) (hc2 : ¬ ((255 : Int32) < c2)) :
    MetFree l yq8 (head1 (Jvm.Cond.code yq8 jdk_42_method_3_code 2 none :: ws) rq14) (fun a U => a = #[(.ref a1), (.ref a2)] ∧ Z.Warmed39 U.vm ∧ U.heap = h0) (fun _ _ _ _ _ => True) (fun _ U o U' => ∃ v L, o = .returned v ∧ Q_rmStrA3 Z a1 a2 kc cs c0 c1 c2 h0 n0 v U'.heap L ∧ FrameEnd U o U' L rq14.cells rq14.slots) := by
  refine MetFree.of_bodySF (plainFor_of_name pn_java_lang_String) hisR ?_
  intro p e s m args below meth c s₁ Bd hml0 hP hK
  obtain ⟨rfl, hZ, hh⟩ := hP
  have hx := Bd.exec
  have hby := Bd.bytes
  have hml : c.maxLocals = 2 := hml0
  have hown : s.vm.findClass "java/lang/String" = some m.cls := findClass_of_methodNamed Bd.named
  have hnm := (name_of_methodNamed Bd.named Bd.method).1
  have X0 : Stand p l e rq14 s m #[(.ref a1), (.ref a2)] below meth c s₁ [] 0 0 := Stand.of_body Bd
  have e0 : s₁.heap = h0 := by rw [← hh, Bd.state]; rfl
  have N0 := Fr.nil n0
  refine own_fw (A' := (s₁.setTop (mkF m 4 #[rv a1, rv a2] [.ref a2, .int 0, .ref a2, .ref a1]))) (fun t k => castTop (ef_rmStrA3 m a1 a2) (XS.aloadN X0.here hx rfl (hb hby d6_0) rfl rfl (XS.aloadN X0.here hx rfl (hb hby d6_1) rfl rfl (XS.iconst X0.here hx rfl (hb hby d6_2) (XS.aloadN X0.here hx rfl (hb hby d6_3) rfl rfl k))))) ?_
  obtain ⟨cl1, Ar1, q1, S1, M1, H1, G1⟩ := id P3
  refine own_fw (A' := (s₁.setTop (mkF m 5 #[rv a1, rv a2] [.int 3, .int 0, .ref a2, .ref a1]))) (fun t k => X0.arraylength hx (by rw [e0]; exact Ar1.1) (State.isArrayOf_alike hZ.alike Ar1.2.1) (g := (mkF m 4 #[rv a1, rv a2] [.ref a2, .int 0, .ref a2, .ref a1])) rfl rfl (hb hby d6_4) _ (by rw [len_of S1 M1]; exact k)) ?_
  refine own_fw (A' := (s₁.setTop (mkF m 6 #[rv a1, rv a2] [.null, .int 3, .int 0, .ref a2, .ref a1]))) (fun t k => XS.aconstNull X0.here hx rfl (hb hby d6_5) k) ?_
  obtain ⟨_, _, ⟨T2, L2, k2, n2⟩, -, X2, ⟨Lc2, hQ2, l2, y2, z2⟩, st2⟩ := X0.specialBack hx (y := yq6) rfl hown (mvT hZ (own_w hw 32 rfl)) (mvT hZ (own_w hw 33 rfl)) (mvT hZ (own_w hw 35 rfl)) (by decide) (backOf (W := 0) (rmStrB3 l Z a0 hw [] a1 a2 kc cs c0 c1 c2 h0 n0 Z0 P0 P1 P2 P3 g_a1 ne_a1_a2 P6 hcs hc0 hc1 hc2) hZ (own_w hw 35 rfl) (own_w hw 27 rfl) (by decide) (by decide)) (g := (mkF m 6 #[rv a1, rv a2] [.null, .int 3, .int 0, .ref a2, .ref a1])) rfl (by rw [hml]; rfl) (Steps.refl _) (a := a1) (argsL := [(.ref a2), (.int 0), (.int 3), .null]) (rest := []) (lenOf pd___CIILjava_lang_Void__V rfl) rfl (by show 2 * 0 + _ ≤ _; exact Nat.le_of_eq rfl) (hb hby d6_6) (fun _ _ => ⟨rfl, e0, (by decide : 0 + 1 ≤ _), (by decide : 0 + 3 ≤ _)⟩)
  dsimp only [Pt.U, Pt.locs, Pt.cells, Pt.slots] at X2 l2 y2 z2 st2 hQ2
  subst l2 y2 z2
  obtain ⟨b_2, kb_2, rfl, Nq2, Kq2, Fq2_0, Fq2_1, Fq2_2, Fq2_3⟩ := hQ2
  have Nf2 := Fr.app N0 Nq2
  have K2 : Keep h0 T2.heap [a1] := (Keep.refl h0 [a1]).trans Kq2 (allS (Or.inl (List.mem_of_getElem? (i := 0) rfl)) all0)
  have Z2 : n0 ≤ T2.heap.size := Nat.le_trans Z0 Kq2.1
  refine own_fw (A' := (T2.setTop (mkF m 9 #[rv a1, rv a2] []))) (fun t k => st2.trans k) ?_
  obtain ⟨fs, hr, hrun, hended, hW, hsame⟩ := X2.leave (v := none) (fun _ => rfl)
  refine ⟨_, _, ?_, hrun, hended, _, _, rfl, ?_, ⟨_, rfl⟩, hW, hsame.mono (by decide) (by decide)⟩
  · exact X2.returnOut hx Bd.returns (hb hby d6_9) hr
  · show Q_rmStrA3 Z a1 a2 kc cs c0 c1 c2 h0 n0 _ T2.heap _
    exact ⟨b_2, kb_2, rfl, Nf2, K2, Fq2_0, Fq2_1, Fq2_2, Fq2_3⟩
theorem d7_8 : decode jdk_42_method_149_code 8 = .ok (.aload_n 0, 1) := by decide +kernel
theorem d7_9 : decode jdk_42_method_149_code 9 = .ok (.ldc 7, 2) := by decide +kernel
theorem d7_11 : decode jdk_42_method_149_code 11 = .ok (.getfield 9, 3) := by decide +kernel
theorem d7_14 : decode jdk_42_method_149_code 14 = .ok (.putfield 9, 3) := by decide +kernel
theorem d7_17 : decode jdk_42_method_149_code 17 = .ok (.aload_n 0, 1) := by decide +kernel
theorem d7_18 : decode jdk_42_method_149_code 18 = .ok (.ldc 7, 2) := by decide +kernel
theorem d7_20 : decode jdk_42_method_149_code 20 = .ok (.getfield 15, 3) := by decide +kernel
theorem d7_23 : decode jdk_42_method_149_code 23 = .ok (.putfield 15, 3) := by decide +kernel
theorem d7_26 : decode jdk_42_method_149_code 26 = .ok (.return_, 1) := by decide +kernel
theorem ef_rmStrB0 (m : MethodId) (a1 a2 : Addr) : entryFrame m #[(.ref a1), (.ref a2), (.int 0), (.int 0), .null] 6 = mkF m 0 #[.val (.ref a1), .val (.ref a2), .val (.int 0), .val (.int 0), .val .null, .unset] [] := by first | (simp [entryFrame, mkF, argsToLocals, Value.category]; done) | rfl
def Q_rmStrB0 (Z : State) (a1 a2 : Addr) (h0 : Heap) (n0 : Nat) (v : Option Value) (h : Heap) (L : List Loc) : Prop := ∃ b : Addr, ∃ kb : ClassId, v = none ∧ Fr n0 L ∧ Keep h0 h [a1] ∧ Exa Z h a1 "java/lang/String" ∧ Fld Z h a1 "java/lang/String" "coder" "B" (.int 0) ∧ Fld Z h a1 "java/lang/String" "value" "[B" (.ref b) ∧ Arv Z h b kb .byte (0 : Int32) [] (.int 0)
theorem rmStrB0 (l : Launch) (Z : State) (a0 : Array Value) (hw : ∀ d ∈ tables_1, d.before a0 Z = true) (ws : List Jvm.Cond) (a1 a2 : Addr) (h0 : Heap) (n0 : Nat) (Z0 : n0 ≤ h0.size) (P0 : Exa Z h0 a1 "java/lang/String") (P1 : Fld Z h0 a1 "java/lang/String" "coder" "B" (.int 0)) (P2 : Fld Z h0 a1 "java/lang/String" "value" "[B" .null) (g_a1 : n0 ≤ a1) :
    MetFree l yq6 (head1 (Jvm.Cond.code yq6 jdk_42_method_149_code 6 none :: ws) rq15) (fun a U => a = #[(.ref a1), (.ref a2), (.int 0), (.int 0), .null] ∧ Z.Warmed39 U.vm ∧ U.heap = h0 ∧ CHv Z own_EL U.vm h0) (fun _ _ _ _ _ => True) (fun _ U o U' => ∃ v L, o = .returned v ∧ Q_rmStrB0 Z a1 a2 h0 n0 v U'.heap L ∧ CHr Z own_EL U.vm U.heap U'.vm U'.heap ∧ ReturnedEndW U o U' L rq15.cells rq15.slots) := by
  refine MetFree.of_bodySF (plainFor_of_name pn_java_lang_String) hisR ?_
  intro p e s m args below meth c s₁ Bd hml0 hP hK
  obtain ⟨rfl, hZ, hh, hH⟩ := hP
  have hx := Bd.exec
  have hby := Bd.bytes
  have hml : c.maxLocals = 6 := hml0
  have hown : s.vm.findClass "java/lang/String" = some m.cls := findClass_of_methodNamed Bd.named
  have hnm := (name_of_methodNamed Bd.named Bd.method).1
  have X0 : Stand p l e rq15 (s.setVm s.vm) m #[(.ref a1), (.ref a2), (.int 0), (.int 0), .null] below meth c s₁ [] 0 0 := Stand.of_body Bd
  have e0 : s₁.heap = h0 := by rw [← hh, Bd.state]; rfl
  have N0 := Fr.nil n0
  refine own_fw (A' := (s₁.setTop (mkF m 0 #[.val (.ref a1), .val (.ref a2), .val (.int 0), .val (.int 0), .val .null, .unset] []))) (fun t k => castTop (ef_rmStrB0 m a1 a2) k) ?_
  have hS : s.Since s.vm h0.size := (State.WarmedH.refl s).since _
  have hk : h0.size ≤ h0.size := Nat.le_refl _
  have hC : CHr Z own_EL s.vm h0 s.vm h0 := CHr.refl hH
  have SFa1 : Safe Z own_EL s.vm h0 a1 := own_safeNull hZ.alike P0 P2
  refine own_fw (A' := (s₁.setTop (mkF m 1 #[rv a1, rv a2, iv 0, iv 0, .val (.null), .unset] [.ref a1]))) (fun t k => XS.aloadN X0.here hx rfl (hb hby d7_0) rfl rfl k) ?_
  obtain ⟨T1, X1, e1, st1⟩ := initO X0 hx hZ hown (own_w hw 36 rfl) (own_w hw 7 rfl) (own_w hw 8 rfl) e0 (g := (mkF m 1 #[rv a1, rv a2, iv 0, iv 0, .val (.null), .unset] [.ref a1])) rfl (by rw [hml]; rfl) rfl (hb hby d7_1) (by decide) (W := 0) (by show 2 * 0 + _ ≤ _; exact Nat.le_of_eq rfl) (by decide)
  refine own_fw (A' := (T1.setTop (mkF m 9 #[rv a1, rv a2, iv 0, iv 0, .val (.null), .unset] [.ref a1]))) (fun t k => st1 _ (XS.iloadN X1.here hx rfl (hb hby d7_4) rfl (XS.ifNo X1.here hx rfl (hb hby d7_5) rfl (XT.i0_ne_f rfl) (XS.aloadN X1.here hx rfl (hb hby d7_8) rfl rfl k)))) ?_
  obtain ⟨sa2, T2, h2, k2, sb2, kk2, X2, e2, E2, hS, hk, hZ', hown, SE2, SC2, SV2, SA2, -, -, r2, -, sn2, st2⟩ := ldcCH X1 hx hZ hown (own_w hw 97 rfl) (own_wS hw) e1 hS hk (own_EW hw) (List.mem_of_getElem? (i := 1) rfl) hH (vs := []) (z := (0 : Int32)) ⟨by decide, rfl⟩ (by decide) (by decide) (g := (mkF m 9 #[rv a1, rv a2, iv 0, iv 0, .val (.null), .unset] [.ref a1])) rfl (hb hby d7_9) (n := 0) (by decide) (by decide) (by decide) (by decide)
  have F3 : Safe Z own_EL _ h2 a1 := (CHr.safe r2 P0.lt SFa1)
  have hC := hC.trans r2
  have hH := hC.1
  have hZ := hZ'
  have K2 : Keep h0 h2 [a1] := (Keep.refl h0 [a1]).ext E2
  have Z2 : n0 ≤ h2.size := Nat.le_trans Z0 E2.1
  refine own_fw (A' := (T2.setTop (mkF m 11 #[rv a1, rv a2, iv 0, iv 0, .val (.null), .unset] [.ref sa2, .ref a1]))) (fun t k => st2 _ k) ?_
  obtain ⟨T4, X4, e4, st4⟩ := getF X2 hx hZ hown (host := "") (Or.inl (own_w hw 51 rfl)) Via.refl e2 SV2 (g := (mkF m 11 #[rv a1, rv a2, iv 0, iv 0, .val (.null), .unset] [.ref sa2, .ref a1])) rfl rfl (hb hby d7_11)
  refine own_fw (A' := (T4.setTop (mkF m 14 #[rv a1, rv a2, iv 0, iv 0, .val (.null), .unset] [.ref sb2, .ref a1]))) (fun t k => st4 _ k) ?_
  obtain ⟨T5, h5, X5, e5, W5, st5⟩ := putF X4 hx hZ hown (host := "") (Or.inl (own_w hw 51 rfl)) Via.refl e4 (P2.ext E2) (P0.ext E2) (Or.inr ⟨(own_w hw 52 rfl), rfl, hnm⟩) (own_w hw 26 rfl) (ty := (.array .byte)) (by decide) rfl rfl (g := (mkF m 14 #[rv a1, rv a2, iv 0, iv 0, .val (.null), .unset] [.ref sb2, .ref a1])) rfl rfl (hb hby d7_14)
  have Fw5 : Fld Z h5 a1 "java/lang/String" "value" "[B" (.ref sb2) := (P2.ext E2).same W5
  have F6 : Safe Z own_EL _ h5 a1 := (Safe.wr W5 F3 hH F3)
  have Nf5 := Fr.snoc X5 N0 g_a1
  have K5 : Keep h0 h5 [a1] := K2.wr W5 (Or.inl (List.mem_of_getElem? (i := 0) rfl))
  have Z5 : n0 ≤ h5.size := Nat.le_trans Z2 (Keep.of_wr W5).1
  have hk := Nat.le_trans hk (Keep.of_wr W5).1
  have hC := hC.trans (CHr.wr W5 F3 hH)
  have hH := hC.1
  refine own_fw (A' := (T5.setTop (mkF m 18 #[rv a1, rv a2, iv 0, iv 0, .val (.null), .unset] [.ref a1]))) (fun t k => st5 _ (XS.aloadN X5.here hx rfl (hb hby d7_17) rfl rfl k)) ?_
  obtain ⟨sa7, T7, h7, k7, sb7, kk7, X7, e7, E7, hS, hk, hZ', hown, SE7, SC7, SV7, SA7, -, -, r7, -, sn7, st7⟩ := ldcCH X5 hx hZ hown (own_w hw 97 rfl) (own_wS hw) e5 hS hk (own_EW hw) (List.mem_of_getElem? (i := 1) rfl) hH (vs := []) (z := (0 : Int32)) ⟨by decide, rfl⟩ (by decide) (by decide) (g := (mkF m 18 #[rv a1, rv a2, iv 0, iv 0, .val (.null), .unset] [.ref a1])) rfl (hb hby d7_18) (n := 0) (by decide) (by decide) (by decide) (by decide)
  have F8 : Safe Z own_EL _ h7 a1 := (CHr.safe r7 ((P0.ext E2).wr W5).lt F6)
  have hC := hC.trans r7
  have hH := hC.1
  have hZ := hZ'
  have K7 : Keep h0 h7 [a1] := K5.ext E7
  have Z7 : n0 ≤ h7.size := Nat.le_trans Z5 E7.1
  refine own_fw (A' := (T7.setTop (mkF m 20 #[rv a1, rv a2, iv 0, iv 0, .val (.null), .unset] [.ref sa7, .ref a1]))) (fun t k => st7 _ k) ?_
  obtain ⟨T9, X9, e9, st9⟩ := getF X7 hx hZ hown (host := "") (Or.inl (own_w hw 49 rfl)) Via.refl e7 SC7 (g := (mkF m 20 #[rv a1, rv a2, iv 0, iv 0, .val (.null), .unset] [.ref sa7, .ref a1])) rfl rfl (hb hby d7_20)
  refine own_fw (A' := (T9.setTop (mkF m 23 #[rv a1, rv a2, iv 0, iv 0, .val (.null), .unset] [.int 0, .ref a1]))) (fun t k => st9 _ k) ?_
  obtain ⟨T10, h10, X10, e10, W10, st10⟩ := putFN X9 hx hZ hown (own_w hw 49 rfl) Via.refl e9 (((P1.ext E2).other W5 (Or.inr (slot_ne (Or.inr (own_w hw 50 rfl)) (Or.inr (own_w hw 52 rfl)) (by decide) (t := .byte) (t' := (.array .byte)) (by decide) (by decide)))).ext E7) (((P0.ext E2).wr W5).ext E7) (Or.inr ⟨(own_w hw 50 rfl), rfl, hnm⟩) (own_w hw 26 rfl) (ty := .byte) (v' := (.int 0)) (by decide) rfl rfl (g := (mkF m 23 #[rv a1, rv a2, iv 0, iv 0, .val (.null), .unset] [.int 0, .ref a1])) rfl rfl (hb hby d7_23)
  have Fw10 : Fld Z h10 a1 "java/lang/String" "coder" "B" (.int 0) := (((P1.ext E2).other W5 (Or.inr (slot_ne (Or.inr (own_w hw 50 rfl)) (Or.inr (own_w hw 52 rfl)) (by decide) (t := .byte) (t' := (.array .byte)) (by decide) (by decide)))).ext E7).same W10
  have F11 : Safe Z own_EL _ h10 a1 := (Safe.wr W10 F8 hH F8)
  have Nf10 := Fr.snoc X10 Nf5 g_a1
  have K10 : Keep h0 h10 [a1] := K7.wr W10 (Or.inl (List.mem_of_getElem? (i := 0) rfl))
  have Z10 : n0 ≤ h10.size := Nat.le_trans Z7 (Keep.of_wr W10).1
  have hk := Nat.le_trans hk (Keep.of_wr W10).1
  have hC := hC.trans (CHr.wr W10 F8 hH)
  have hH := hC.1
  refine own_fw (A' := (T10.setTop (mkF m 26 #[rv a1, rv a2, iv 0, iv 0, .val (.null), .unset] []))) (fun t k => st10 _ k) ?_
  obtain ⟨fs, hr, hrun, hended, hWE⟩ := X10.leaveW hS (by rw [e10]; exact hk : _ ≤ T10.heap.size) (v := none) (fun _ => rfl)
  have hCE : CHr Z own_EL s.vm s.heap (T10.setFrames fs).vm (T10.setFrames fs).heap := by rw [hh]; show CHr Z own_EL s.vm h0 T10.vm T10.heap; rw [e10]; exact hC.trans (CHv.at X10 hZ (own_EW hw) hH)
  refine ⟨_, _, ?_, hrun, hended, _, _, rfl, ?_, hCE, own_widen hWE (by decide) (by decide)⟩
  · exact X10.returnOut hx Bd.returns (hb hby d7_26) hr
  · show Q_rmStrB0 Z a1 a2 h0 n0 _ T10.heap _
    rw [e10]
    exact ⟨sb2, kk2, rfl, Nf10, K10, ((((P0.ext E2).wr W5).ext E7).wr W10), Fw10, ((Fw5.ext E7).other W10 (Or.inr (slot_ne (Or.inr (own_w hw 52 rfl)) (Or.inr (own_w hw 50 rfl)) (by decide) (t := (.array .byte)) (t' := .byte) (by decide) (by decide)))), (((SA2.other W5 (Ne.symm (sn2 _ F3).2)).ext E7).other W10 (Ne.symm (sn2 _ F3).2))⟩
theorem ef_rmStrA0 (m : MethodId) (a1 a2 : Addr) : entryFrame m #[(.ref a1), (.ref a2)] 2 = mkF m 0 #[.val (.ref a1), .val (.ref a2)] [] := by first | (simp [entryFrame, mkF, argsToLocals, Value.category]; done) | rfl
def Q_rmStrA0 (Z : State) (a1 a2 : Addr) (kc : ClassId) (h0 : Heap) (n0 : Nat) (v : Option Value) (h : Heap) (L : List Loc) : Prop := ∃ b : Addr, ∃ kb : ClassId, v = none ∧ Fr n0 L ∧ Keep h0 h [a1] ∧ Exa Z h a1 "java/lang/String" ∧ Fld Z h a1 "java/lang/String" "coder" "B" (.int 0) ∧ Fld Z h a1 "java/lang/String" "value" "[B" (.ref b) ∧ Arv Z h b kb .byte (0 : Int32) [] (.int 0)
theorem rmStrA0 (l : Launch) (Z : State) (a0 : Array Value) (hw : ∀ d ∈ tables_1, d.before a0 Z = true) (ws : List Jvm.Cond) (a1 a2 : Addr) (kc : ClassId) (h0 : Heap) (n0 : Nat) (Z0 : n0 ≤ h0.size) (P0 : Exa Z h0 a1 "java/lang/String") (P1 : Fld Z h0 a1 "java/lang/String" "coder" "B" (.int 0)) (P2 : Fld Z h0 a1 "java/lang/String" "value" "[B" .null) (P3 : Arv Z h0 a2 kc .char (0 : Int32) [] (.int 0)) (g_a1 : n0 ≤ a1) :
    MetFree l yq8 (head1 (Jvm.Cond.code yq8 jdk_42_method_3_code 2 none :: ws) rq16) (fun a U => a = #[(.ref a1), (.ref a2)] ∧ Z.Warmed39 U.vm ∧ U.heap = h0 ∧ CHv Z own_EL U.vm h0) (fun _ _ _ _ _ => True) (fun _ U o U' => ∃ v L, o = .returned v ∧ Q_rmStrA0 Z a1 a2 kc h0 n0 v U'.heap L ∧ CHr Z own_EL U.vm U.heap U'.vm U'.heap ∧ ReturnedEndW U o U' L rq16.cells rq16.slots) := by
  refine MetFree.of_bodySF (plainFor_of_name pn_java_lang_String) hisR ?_
  intro p e s m args below meth c s₁ Bd hml0 hP hK
  obtain ⟨rfl, hZ, hh, hH⟩ := hP
  have hx := Bd.exec
  have hby := Bd.bytes
  have hml : c.maxLocals = 2 := hml0
  have hown : s.vm.findClass "java/lang/String" = some m.cls := findClass_of_methodNamed Bd.named
  have hnm := (name_of_methodNamed Bd.named Bd.method).1
  have X0 : Stand p l e rq16 (s.setVm s.vm) m #[(.ref a1), (.ref a2)] below meth c s₁ [] 0 0 := Stand.of_body Bd
  have e0 : s₁.heap = h0 := by rw [← hh, Bd.state]; rfl
  have N0 := Fr.nil n0
  refine own_fw (A' := (s₁.setTop (mkF m 0 #[.val (.ref a1), .val (.ref a2)] []))) (fun t k => castTop (ef_rmStrA0 m a1 a2) k) ?_
  have hS : s.Since s.vm h0.size := (State.WarmedH.refl s).since _
  have hk : h0.size ≤ h0.size := Nat.le_refl _
  have hC : CHr Z own_EL s.vm h0 s.vm h0 := CHr.refl hH
  refine own_fw (A' := (s₁.setTop (mkF m 4 #[rv a1, rv a2] [.ref a2, .int 0, .ref a2, .ref a1]))) (fun t k => XS.aloadN X0.here hx rfl (hb hby d6_0) rfl rfl (XS.aloadN X0.here hx rfl (hb hby d6_1) rfl rfl (XS.iconst X0.here hx rfl (hb hby d6_2) (XS.aloadN X0.here hx rfl (hb hby d6_3) rfl rfl k)))) ?_
  obtain ⟨cl1, Ar1, q1, S1, M1, H1, G1⟩ := id P3
  refine own_fw (A' := (s₁.setTop (mkF m 5 #[rv a1, rv a2] [.int 0, .int 0, .ref a2, .ref a1]))) (fun t k => X0.arraylength hx (by rw [e0]; exact Ar1.1) (State.isArrayOf_alike hZ.alike Ar1.2.1) (g := (mkF m 4 #[rv a1, rv a2] [.ref a2, .int 0, .ref a2, .ref a1])) rfl rfl (hb hby d6_4) _ (by rw [len_of S1 M1]; exact k)) ?_
  refine own_fw (A' := (s₁.setTop (mkF m 6 #[rv a1, rv a2] [.null, .int 0, .int 0, .ref a2, .ref a1]))) (fun t k => XS.aconstNull X0.here hx rfl (hb hby d6_5) k) ?_
  obtain ⟨_, _, ⟨T2, L2, k2, n2⟩, -, X2, hS2, gS2, ⟨Lc2, hQ2, l2, y2, z2, r2⟩, st2⟩ := X0.specialBackS hx (y := yq6) rfl hown (mvT hZ (own_w hw 32 rfl)) (mvT hZ (own_w hw 33 rfl)) (mvT hZ (own_w hw 35 rfl)) (by decide) (backOfSH (W := 0) (rmStrB0 l Z a0 hw [] a1 a2 h0 n0 Z0 P0 P1 P2 g_a1) hZ (own_w hw 35 rfl) (own_w hw 27 rfl) (by decide) (by decide) (own_EW hw) hH) (g := (mkF m 6 #[rv a1, rv a2] [.null, .int 0, .int 0, .ref a2, .ref a1])) rfl (by rw [hml]; rfl) (Steps.refl _) (a := a1) (argsL := [(.ref a2), (.int 0), (.int 0), .null]) (rest := []) (lenOf pd___CIILjava_lang_Void__V rfl) rfl (by show 2 * 0 + _ ≤ _; exact Nat.le_of_eq rfl) (hb hby d6_6) (fun _ _ => ⟨rfl, e0, (by decide : 0 + 4 ≤ _), (by decide : 0 + 8 ≤ _)⟩)
  dsimp only [Pt.U, Pt.locs, Pt.cells, Pt.slots] at X2 l2 y2 z2 st2 hQ2 hS2 gS2 r2
  subst l2 y2 z2
  obtain ⟨X2, hS, hZ', hown⟩ := rebS hS (by rw [e0]; exact hk : _ ≤ s₁.heap.size) X2 hS2 gS2 hZ hown
  have hk : T2.heap.size ≤ T2.heap.size := Nat.le_refl _
  obtain ⟨b_2, kb_2, rfl, Nq2, Kq2, Fq2_0, Fq2_1, Fq2_2, Fq2_3⟩ := hQ2
  have Nf2 := Fr.app N0 Nq2
  have hC := hC.trans r2
  have hH := hC.1
  have hZ := hZ'
  have K2 : Keep h0 T2.heap [a1] := (Keep.refl h0 [a1]).trans Kq2 (allS (Or.inl (List.mem_of_getElem? (i := 0) rfl)) all0)
  have Z2 : n0 ≤ T2.heap.size := Nat.le_trans Z0 Kq2.1
  refine own_fw (A' := (T2.setTop (mkF m 9 #[rv a1, rv a2] []))) (fun t k => st2.trans k) ?_
  obtain ⟨fs, hr, hrun, hended, hWE⟩ := X2.leaveW hS hk (v := none) (fun _ => rfl)
  have hCE : CHr Z own_EL s.vm s.heap (T2.setFrames fs).vm (T2.setFrames fs).heap := by rw [hh]; show CHr Z own_EL s.vm h0 T2.vm T2.heap; exact hC.trans (CHv.at X2 hZ (own_EW hw) hH)
  refine ⟨_, _, ?_, hrun, hended, _, _, rfl, ?_, hCE, own_widen hWE (by decide) (by decide)⟩
  · exact X2.returnOut hx Bd.returns (hb hby d6_9) hr
  · show Q_rmStrA0 Z a1 a2 kc h0 n0 _ T2.heap _
    exact ⟨b_2, kb_2, rfl, Nf2, K2, Fq2_0, Fq2_1, Fq2_2, Fq2_3⟩

def own_gc (lo hi : Int32) : Int32 := (((lo &&& (255 : Int32)) <<< ((0 : Int32) &&& 31)) ||| ((hi &&& (255 : Int32)) <<< ((8 : Int32) &&& 31))).toUInt32.toUInt16.toUInt32.toInt32
def own_c16 (c : Int32) : Prop := 0 ≤ c.toInt ∧ c.toInt ≤ 65535
theorem own_gcc {c : Int32} (h : own_c16 c) : own_gc ((c >>> ((0 : Int32) &&& 31)).toInt8.toInt32) ((c >>> ((8 : Int32) &&& 31)).toInt8.toInt32) = c := by
  have hb := h
  unfold own_c16 at hb
  have s0 : (c >>> ((0 : Int32) &&& 31)).toInt = c.toInt := by
    have := c_ishr c 0 0 (by decide)
    omega
  have s8 := c_ishr c 8 8 (by decide)
  have b0 := c_i2b (c >>> ((0 : Int32) &&& 31))
  have b8 := c_i2b (c >>> ((8 : Int32) &&& 31))
  generalize e0 : (c >>> ((0 : Int32) &&& 31)).toInt8.toInt32 = lo at *
  generalize e8 : (c >>> ((8 : Int32) &&& 31)).toInt8.toInt32 = hi at *
  have m0 := c_mask lo 255 8 (by decide) (by decide)
  have m8 := c_mask hi 255 8 (by decide) (by decide)
  have l0 := c_ishl (lo &&& (255 : Int32)) 0 0 (by decide)
  have l8 := c_ishl (hi &&& (255 : Int32)) 8 8 (by decide)
  have r0 := rng32 ((lo &&& (255 : Int32)) <<< ((0 : Int32) &&& 31))
  have r8 := rng32 ((hi &&& (255 : Int32)) <<< ((8 : Int32) &&& 31))
  have o := c_or' ((lo &&& (255 : Int32)) <<< ((0 : Int32) &&& 31)) ((hi &&& (255 : Int32)) <<< ((8 : Int32) &&& 31)) 8 (by decide) 256 (by decide) (by omega) (by omega) (by omega)
  have ro := rng32 (((lo &&& (255 : Int32)) <<< ((0 : Int32) &&& 31)) ||| ((hi &&& (255 : Int32)) <<< ((8 : Int32) &&& 31)))
  have c2 := c_i2c (((lo &&& (255 : Int32)) <<< ((0 : Int32) &&& 31)) ||| ((hi &&& (255 : Int32)) <<< ((8 : Int32) &&& 31)))
  unfold own_gc
  apply Int32.toInt_inj.mp
  omega

theorem d22_0 : decode jdk_52_method_3_code 0 = .ok (.iload_n 0, 1) := by decide +kernel
theorem d22_1 : decode jdk_52_method_3_code 1 = .ok (.ifCond .ge 11, 3) := by decide +kernel
theorem d22_12 : decode jdk_52_method_3_code 12 = .ok (.iload_n 0, 1) := by decide +kernel
theorem d22_13 : decode jdk_52_method_3_code 13 = .ok (.ldc 20, 2) := by decide +kernel
theorem d22_15 : decode jdk_52_method_3_code 15 = .ok (.if_icmp .lt 40, 3) := by decide +kernel
theorem d22_55 : decode jdk_52_method_3_code 55 = .ok (.iload_n 0, 1) := by decide +kernel
theorem d22_56 : decode jdk_52_method_3_code 56 = .ok (.iconst 1, 1) := by decide +kernel
theorem d22_57 : decode jdk_52_method_3_code 57 = .ok (.ishl, 1) := by decide +kernel
theorem d22_58 : decode jdk_52_method_3_code 58 = .ok (.ireturn, 1) := by decide +kernel
theorem ef_rmNBL1 (m : MethodId) : entryFrame m #[(.int 1)] 1 = mkF m 0 #[.val (.int 1)] [] := by first | (simp [entryFrame, mkF, argsToLocals, Value.category]; done) | rfl
def Q_rmNBL1 (Z : State) (h0 : Heap) (n0 : Nat) (v : Option Value) (h : Heap) (L : List Loc) : Prop := v = some (.int 2) ∧ Fr n0 L ∧ h = h0
theorem rmNBL1 (l : Launch) (Z : State) (a0 : Array Value) (hw : ∀ d ∈ tables_1, d.before a0 Z = true) (ws : List Jvm.Cond) (h0 : Heap) (n0 : Nat) (Z0 : n0 ≤ h0.size)  :
    MetFree l yq17 (head1 (Jvm.Cond.code yq17 jdk_52_method_3_code 1 (some .int) :: ws) rq0) (fun a U => a = #[(.int 1)] ∧ Z.Warmed39 U.vm ∧ U.heap = h0) (fun _ _ _ _ _ => True) (fun _ U o U' => ∃ v L, o = .returned v ∧ Q_rmNBL1 Z  h0 n0 v U'.heap L ∧ FrameEnd U o U' L rq0.cells rq0.slots) := by
  refine MetFree.of_bodySF (plainFor_of_name pn_java_lang_StringUTF16) hisR ?_
  intro p e s m args below meth c s₁ Bd hml0 hP hK
  obtain ⟨rfl, hZ, hh⟩ := hP
  have hx := Bd.exec
  have hby := Bd.bytes
  have hml : c.maxLocals = 1 := hml0
  have hown : s.vm.findClass "java/lang/StringUTF16" = some m.cls := findClass_of_methodNamed Bd.named
  have hnm := (name_of_methodNamed Bd.named Bd.method).1
  have X0 : Stand p l e rq0 s m #[(.int 1)] below meth c s₁ [] 0 0 := Stand.of_body Bd
  have e0 : s₁.heap = h0 := by rw [← hh, Bd.state]; rfl
  have N0 := Fr.nil n0
  refine own_fw (A' := (s₁.setTop (mkF m 58 #[iv 1] [.int 2]))) (fun t k => castTop (ef_rmNBL1 m) (XS.iloadN X0.here hx rfl (hb hby d22_0) rfl (XS.ifYes X0.here hx rfl (pc0 := 1) (pc' := 12) rfl (hb hby d22_1) rfl (XT.i0_ge_t (by decide)) (by decide) (by decide) (XS.iloadN X0.here hx rfl (hb hby d22_12) rfl (X0.ldcInt hx hown (mvT hZ (own_w hw 107 rfl)) (g := (mkF m 13 #[iv 1] [.int 1])) rfl (hb hby d22_13) _ (XS.icmpYes X0.here hx rfl (pc0 := 15) (pc' := 55) rfl (hb hby d22_15) rfl (XT.ii_lt_t (by decide)) (by decide) (by decide) (XS.iloadN X0.here hx rfl (hb hby d22_55) rfl (XS.iconst X0.here hx rfl (hb hby d22_56) (XS.ishl X0.here hx rfl (hb hby d22_57) rfl k))))))))) ?_
  obtain ⟨fs, hr, hrun, hended, hW, hsame⟩ := X0.leave (v := some (.int 2)) (fun h => by rw [Bd.returns] at h; cases h)
  refine ⟨_, _, ?_, hrun, hended, _, _, rfl, ?_, ⟨_, rfl⟩, hW, hsame.mono (by decide) (by decide)⟩
  · exact retOut X0 hx Bd.returns rfl (Or.inl ⟨rfl, by simp, _, rfl⟩) (hb hby d22_58) hr
  · show Q_rmNBL1 Z  h0 n0 _ s₁.heap _
    rw [e0]
    exact ⟨rfl, N0, rfl⟩
theorem d21_0 : decode jdk_52_method_2_code 0 = .ok (.iload_n 0, 1) := by decide +kernel
theorem d21_1 : decode jdk_52_method_2_code 1 = .ok (.invokestatic 11, 3) := by decide +kernel
theorem pd__I_I : parseMethodDescriptor "(I)I" = some ⟨[.int], some .int⟩ := by decide +kernel
theorem d21_4 : decode jdk_52_method_2_code 4 = .ok (.newarray .byte, 2) := by decide +kernel
theorem d21_6 : decode jdk_52_method_2_code 6 = .ok (.areturn, 1) := by decide +kernel
theorem ef_rmNBF1 (m : MethodId) : entryFrame m #[(.int 1)] 1 = mkF m 0 #[.val (.int 1)] [] := by first | (simp [entryFrame, mkF, argsToLocals, Value.category]; done) | rfl
def Q_rmNBF1 (Z : State) (h0 : Heap) (n0 : Nat) (v : Option Value) (h : Heap) (L : List Loc) : Prop := ∃ b : Addr, ∃ kb : ClassId, v = some (.ref b) ∧ Fr n0 L ∧ Keep h0 h [] ∧ Arv Z h b kb .byte (2 : Int32) [(.int 0), (.int 0)] (.int 0) ∧ (h0.size ≤ b)
theorem rmNBF1 (l : Launch) (Z : State) (a0 : Array Value) (hw : ∀ d ∈ tables_1, d.before a0 Z = true) (ws : List Jvm.Cond) (h0 : Heap) (n0 : Nat) (Z0 : n0 ≤ h0.size)  :
    MetFree l yq19 (head1 (Jvm.Cond.code yq19 jdk_52_method_2_code 1 (some (.array .byte)) :: ws) rq18) (fun a U => a = #[(.int 1)] ∧ Z.Warmed39 U.vm ∧ U.heap = h0) (fun _ _ _ _ _ => True) (fun _ U o U' => ∃ v L, o = .returned v ∧ Q_rmNBF1 Z  h0 n0 v U'.heap L ∧ FrameEnd U o U' L rq18.cells rq18.slots) := by
  refine MetFree.of_bodySF (plainFor_of_name pn_java_lang_StringUTF16) hisR ?_
  intro p e s m args below meth c s₁ Bd hml0 hP hK
  obtain ⟨rfl, hZ, hh⟩ := hP
  have hx := Bd.exec
  have hby := Bd.bytes
  have hml : c.maxLocals = 1 := hml0
  have hown : s.vm.findClass "java/lang/StringUTF16" = some m.cls := findClass_of_methodNamed Bd.named
  have hnm := (name_of_methodNamed Bd.named Bd.method).1
  have X0 : Stand p l e rq18 s m #[(.int 1)] below meth c s₁ [] 0 0 := Stand.of_body Bd
  have e0 : s₁.heap = h0 := by rw [← hh, Bd.state]; rfl
  have N0 := Fr.nil n0
  refine own_fw (A' := (s₁.setTop (mkF m 1 #[iv 1] [.int 1]))) (fun t k => castTop (ef_rmNBF1 m) (XS.iloadN X0.here hx rfl (hb hby d21_0) rfl k)) ?_
  obtain ⟨_, _, ⟨T1, L1, k1, n1⟩, -, X1, ⟨Lc1, hQ1, l1, y1, z1⟩, st1⟩ := Jvm.LawKit.callS X0 hx (y := yq17) hown (mvT hZ (own_w hw 104 rfl)) (mvT hZ (own_w hw 105 rfl)) (mvT hZ (own_w hw 40 rfl)) (mvT hZ (own_w hw 106 rfl)) (by decide) (backOf (W := 0) (rmNBL1 l Z a0 hw []  h0 n0 Z0 ) hZ (own_w hw 106 rfl) (own_w hw 40 rfl) (by decide) (by decide)) (g := (mkF m 1 #[iv 1] [.int 1])) rfl (by rw [hml]; rfl) (argsL := [(.int 1)]) (rest := []) (lenOf pd__I_I rfl) rfl (by show 2 * 0 + _ ≤ _; exact Nat.le_of_eq rfl) (hb hby d21_1) (fun _ _ => ⟨rfl, e0, (by decide : 0 + 0 ≤ _), (by decide : 0 + 0 ≤ _)⟩)
  dsimp only [Pt.U, Pt.locs, Pt.cells, Pt.slots] at X1 l1 y1 z1 st1 hQ1
  subst l1 y1 z1
  obtain ⟨rfl, Nq1, e1⟩ := hQ1
  have Nf1 := Fr.app N0 Nq1
  refine own_fw (A' := (T1.setTop (mkF m 4 #[iv 1] [.int 2]))) (fun t k => st1 _ k) ?_
  obtain ⟨T2, h2, k2, X2, e2, E2, A2, st2⟩ := newP X1 hx hZ (own_w hw 42 rfl) e1 (g := (mkF m 4 #[iv 1] [.int 2])) rfl (hb hby d21_4) rfl (by decide) (cap := 2) (by decide) (by decide) (by decide) (by decide)
  obtain ⟨b2, gb2⟩ : ∃ z, z = h0.size := ⟨_, rfl⟩
  have g_b2 : n0 ≤ b2 := Nat.le_trans Z0 (Nat.le_of_eq gb2.symm)
  have sz_b2 : h0.size ≤ b2 := Nat.le_trans (Keep.refl h0 []).1 (Nat.le_of_eq gb2.symm)
  rw [← gb2] at A2 st2
  have V_b2 : Arv Z h2 b2 k2 .byte (2 : Int32) [(.int 0), (.int 0)] (.int 0) := (Arv.new A2 (by decide)).pad (pad_rep [] (.int 0) 2)
  have K2 : Keep h0 h2 [] := (Keep.refl h0 []).ext E2
  have Z2 : n0 ≤ h2.size := Nat.le_trans Z0 E2.1
  refine own_fw (A' := (T2.setTop (mkF m 6 #[iv 1] [.ref b2]))) (fun t k => st2 _ k) ?_
  obtain ⟨fs, hr, hrun, hended, hW, hsame⟩ := X2.leave (v := some (.ref b2)) (fun h => by rw [Bd.returns] at h; cases h)
  refine ⟨_, _, ?_, hrun, hended, _, _, rfl, ?_, ⟨_, rfl⟩, hW, hsame.mono (by decide) (by decide)⟩
  · exact retOut X2 hx Bd.returns rfl (Or.inr (Or.inr (Or.inr (Or.inr ⟨rfl, rfl, rfl⟩)))) (hb hby d21_6) hr
  · show Q_rmNBF1 Z  h0 n0 _ T2.heap _
    rw [e2]
    exact ⟨b2, k2, rfl, Nf1, K2, V_b2, sz_b2⟩
theorem d23_0 : decode jdk_52_method_4_code 0 = .ok (.getstatic 44, 3) := by decide +kernel
theorem d23_3 : decode jdk_52_method_4_code 3 = .ok (.ifCond .ne 25, 3) := by decide +kernel
theorem d23_28 : decode jdk_52_method_4_code 28 = .ok (.iload_n 1, 1) := by decide +kernel
theorem d23_29 : decode jdk_52_method_4_code 29 = .ok (.iconst 1, 1) := by decide +kernel
theorem d23_30 : decode jdk_52_method_4_code 30 = .ok (.ishl, 1) := by decide +kernel
theorem d23_31 : decode jdk_52_method_4_code 31 = .ok (.istore_n 1, 1) := by decide +kernel
theorem d23_32 : decode jdk_52_method_4_code 32 = .ok (.aload_n 0, 1) := by decide +kernel
theorem d23_33 : decode jdk_52_method_4_code 33 = .ok (.iload_n 1, 1) := by decide +kernel
theorem d23_34 : decode jdk_52_method_4_code 34 = .ok (.iinc 1 1, 3) := by decide +kernel
theorem d23_37 : decode jdk_52_method_4_code 37 = .ok (.iload_n 2, 1) := by decide +kernel
theorem d23_38 : decode jdk_52_method_4_code 38 = .ok (.getstatic 59, 3) := by decide +kernel
theorem d23_41 : decode jdk_52_method_4_code 41 = .ok (.ishr, 1) := by decide +kernel
theorem d23_42 : decode jdk_52_method_4_code 42 = .ok (.i2b, 1) := by decide +kernel
theorem d23_43 : decode jdk_52_method_4_code 43 = .ok (.bastore, 1) := by decide +kernel
theorem d23_44 : decode jdk_52_method_4_code 44 = .ok (.aload_n 0, 1) := by decide +kernel
theorem d23_45 : decode jdk_52_method_4_code 45 = .ok (.iload_n 1, 1) := by decide +kernel
theorem d23_46 : decode jdk_52_method_4_code 46 = .ok (.iload_n 2, 1) := by decide +kernel
theorem d23_47 : decode jdk_52_method_4_code 47 = .ok (.getstatic 63, 3) := by decide +kernel
theorem d23_50 : decode jdk_52_method_4_code 50 = .ok (.ishr, 1) := by decide +kernel
theorem d23_51 : decode jdk_52_method_4_code 51 = .ok (.i2b, 1) := by decide +kernel
theorem d23_52 : decode jdk_52_method_4_code 52 = .ok (.bastore, 1) := by decide +kernel
theorem d23_53 : decode jdk_52_method_4_code 53 = .ok (.return_, 1) := by decide +kernel
theorem ef_rmPut10 (m : MethodId) (a1 : Addr) (c0 : Int32) : entryFrame m #[(.ref a1), (.int 0), (.int c0)] 3 = mkF m 0 #[.val (.ref a1), .val (.int 0), .val (.int c0)] [] := by first | (simp [entryFrame, mkF, argsToLocals, Value.category]; done) | rfl
def Q_rmPut10 (Z : State) (a1 : Addr) (kb : ClassId) (c0 x0 x1 : Int32) (h0 : Heap) (n0 : Nat) (v : Option Value) (h : Heap) (L : List Loc) : Prop := v = none ∧ Fr n0 L ∧ Keep h0 h [a1] ∧ Arv Z h a1 kb .byte (2 : Int32) [(.int ((c0 >>> ((0 : Int32) &&& 31)).toInt8.toInt32)), (.int ((c0 >>> ((8 : Int32) &&& 31)).toInt8.toInt32))] (.int 0)
theorem rmPut10 (l : Launch) (Z : State) (a0 : Array Value) (hw : ∀ d ∈ tables_1, d.before a0 Z = true) (ws : List Jvm.Cond) (a1 : Addr) (kb : ClassId) (c0 x0 x1 : Int32) (h0 : Heap) (n0 : Nat) (Z0 : n0 ≤ h0.size) (P0 : Arv Z h0 a1 kb .byte (2 : Int32) [(.int x0), (.int x1)] (.int 0)) (g_a1 : n0 ≤ a1) (P2 : Sta Z h0 "java/lang/StringUTF16" "$assertionsDisabled" "Z" (.int 1)) (P3 : Sta Z h0 "java/lang/StringUTF16" "HI_BYTE_SHIFT" "I" (.int 0)) (P4 : Sta Z h0 "java/lang/StringUTF16" "LO_BYTE_SHIFT" "I" (.int 8)) :
    MetFree l yq20 (head1 (Jvm.Cond.code yq20 jdk_52_method_4_code 3 none :: ws) rq0) (fun a U => a = #[(.ref a1), (.int 0), (.int c0)] ∧ Z.Warmed39 U.vm ∧ U.heap = h0) (fun _ _ _ _ _ => True) (fun _ U o U' => ∃ v L, o = .returned v ∧ Q_rmPut10 Z a1 kb c0 x0 x1 h0 n0 v U'.heap L ∧ FrameEnd U o U' L rq0.cells rq0.slots) := by
  refine MetFree.of_bodySF (plainFor_of_name pn_java_lang_StringUTF16) hisR ?_
  intro p e s m args below meth c s₁ Bd hml0 hP hK
  obtain ⟨rfl, hZ, hh⟩ := hP
  have hx := Bd.exec
  have hby := Bd.bytes
  have hml : c.maxLocals = 3 := hml0
  have hown : s.vm.findClass "java/lang/StringUTF16" = some m.cls := findClass_of_methodNamed Bd.named
  have hnm := (name_of_methodNamed Bd.named Bd.method).1
  have X0 : Stand p l e rq0 s m #[(.ref a1), (.int 0), (.int c0)] below meth c s₁ [] 0 0 := Stand.of_body Bd
  have e0 : s₁.heap = h0 := by rw [← hh, Bd.state]; rfl
  have N0 := Fr.nil n0
  refine own_fw (A' := (s₁.setTop (mkF m 0 #[.val (.ref a1), .val (.int 0), .val (.int c0)] []))) (fun t k => castTop (ef_rmPut10 m a1 c0) k) ?_
  obtain ⟨T1, X1, e1, st1⟩ := getS2 X0 hx hZ hown (host := "") (Or.inl (own_w hw 111 rfl)) Via.refl e0 P2 (g := (mkF m 0 #[rv a1, iv 0, iv c0] [])) rfl (hb hby d23_0)
  refine own_fw (A' := (T1.setTop (mkF m 38 #[rv a1, iv 1, iv c0] [.int c0, .int 0, .ref a1]))) (fun t k => st1 _ (XS.ifYes X1.here hx rfl (pc0 := 3) (pc' := 28) rfl (hb hby d23_3) rfl (XT.i0_ne_t (by decide)) (by decide) (by decide) (XS.iloadN X1.here hx rfl (hb hby d23_28) rfl (XS.iconst X1.here hx rfl (hb hby d23_29) (XS.ishl X1.here hx rfl (hb hby d23_30) rfl (XS.istoreN X1.here hx rfl (hb hby d23_31) rfl (l' := #[.val (.ref a1), .val (.int 0), .val (.int c0)]) rfl (XS.aloadN X1.here hx rfl (hb hby d23_32) rfl rfl (XS.iloadN X1.here hx rfl (hb hby d23_33) rfl (XS.iinc X1.here hx rfl (hb hby d23_34) rfl (l' := #[.val (.ref a1), .val (.int 1), .val (.int c0)]) rfl (XS.iloadN X1.here hx rfl (hb hby d23_37) rfl k)))))))))) ?_
  obtain ⟨T2, X2, e2, st2⟩ := getS2 X1 hx hZ hown (host := "") (Or.inl (own_w hw 112 rfl)) Via.refl e1 P3 (g := (mkF m 38 #[rv a1, iv 1, iv c0] [.int c0, .int 0, .ref a1])) rfl (hb hby d23_38)
  refine own_fw (A' := (T2.setTop (mkF m 43 #[rv a1, iv 1, iv c0] [.int ((c0 >>> ((0 : Int32) &&& 31)).toInt8.toInt32), .int 0, .ref a1]))) (fun t k => st2 _ (XS.ishr X2.here hx rfl (hb hby d23_41) rfl (XS.i2b X2.here hx rfl (hb hby d23_42) rfl k))) ?_
  obtain ⟨cl3, Ar3, q3, S3, M3, H3, G3⟩ := id P0
  have hin3 : ¬ ((0 : Int32) < 0 ∨ cl3.slots.size ≤ ((0 : Int32)).toNatClampNeg) := inb_of S3 ⟨by decide, by decide⟩
  obtain ⟨T3, h3, X3, e3, W3, st3⟩ := stB X2 hx hZ e2 Ar3 (j := (0 : Int32)) hin3 (g := (mkF m 43 #[rv a1, iv 1, iv c0] [.int ((c0 >>> ((0 : Int32) &&& 31)).toInt8.toInt32), .int 0, .ref a1])) rfl rfl (hb hby d23_43)
  rw [own_narB] at W3
  have V3 : Arv Z h3 a1 kb .byte (2 : Int32) [(.int ((c0 >>> ((0 : Int32) &&& 31)).toInt8.toInt32)), (.int x1)] (.int 0) := Arv.set Ar3 q3 S3 M3 H3 G3 (fits_nar_byte _) W3 0 rfl (Nat.le_of_ble_eq_true rfl)
  have Nf3 := Fr.snoc X3 N0 g_a1
  have K3 : Keep h0 h3 [a1] := (Keep.refl h0 [a1]).wr W3 (Or.inl (List.mem_of_getElem? (i := 0) rfl))
  have Z3 : n0 ≤ h3.size := Nat.le_trans Z0 (Keep.of_wr W3).1
  refine own_fw (A' := (T3.setTop (mkF m 47 #[rv a1, iv 1, iv c0] [.int c0, .int 1, .ref a1]))) (fun t k => st3 _ (XS.aloadN X3.here hx rfl (hb hby d23_44) rfl rfl (XS.iloadN X3.here hx rfl (hb hby d23_45) rfl (XS.iloadN X3.here hx rfl (hb hby d23_46) rfl k)))) ?_
  obtain ⟨T4, X4, e4, st4⟩ := getS2 X3 hx hZ hown (host := "") (Or.inl (own_w hw 113 rfl)) Via.refl e3 (P4.wr W3) (g := (mkF m 47 #[rv a1, iv 1, iv c0] [.int c0, .int 1, .ref a1])) rfl (hb hby d23_47)
  refine own_fw (A' := (T4.setTop (mkF m 52 #[rv a1, iv 1, iv c0] [.int ((c0 >>> ((8 : Int32) &&& 31)).toInt8.toInt32), .int 1, .ref a1]))) (fun t k => st4 _ (XS.ishr X4.here hx rfl (hb hby d23_50) rfl (XS.i2b X4.here hx rfl (hb hby d23_51) rfl k))) ?_
  obtain ⟨cl5, Ar5, q5, S5, M5, H5, G5⟩ := id V3
  have hin5 : ¬ ((1 : Int32) < 0 ∨ cl5.slots.size ≤ ((1 : Int32)).toNatClampNeg) := inb_of S5 ⟨by decide, by decide⟩
  obtain ⟨T5, h5, X5, e5, W5, st5⟩ := stB X4 hx hZ e4 Ar5 (j := (1 : Int32)) hin5 (g := (mkF m 52 #[rv a1, iv 1, iv c0] [.int ((c0 >>> ((8 : Int32) &&& 31)).toInt8.toInt32), .int 1, .ref a1])) rfl rfl (hb hby d23_52)
  rw [own_narB] at W5
  have V5 : Arv Z h5 a1 kb .byte (2 : Int32) [(.int ((c0 >>> ((0 : Int32) &&& 31)).toInt8.toInt32)), (.int ((c0 >>> ((8 : Int32) &&& 31)).toInt8.toInt32))] (.int 0) := Arv.set Ar5 q5 S5 M5 H5 G5 (fits_nar_byte _) W5 1 rfl (Nat.le_of_ble_eq_true rfl)
  have Nf5 := Fr.snoc X5 Nf3 g_a1
  have K5 : Keep h0 h5 [a1] := K3.wr W5 (Or.inl (List.mem_of_getElem? (i := 0) rfl))
  have Z5 : n0 ≤ h5.size := Nat.le_trans Z3 (Keep.of_wr W5).1
  refine own_fw (A' := (T5.setTop (mkF m 53 #[rv a1, iv 1, iv c0] []))) (fun t k => st5 _ k) ?_
  obtain ⟨fs, hr, hrun, hended, hW, hsame⟩ := X5.leave (v := none) (fun _ => rfl)
  refine ⟨_, _, ?_, hrun, hended, _, _, rfl, ?_, ⟨_, rfl⟩, hW, hsame.mono (by decide) (by decide)⟩
  · exact X5.returnOut hx Bd.returns (hb hby d23_53) hr
  · show Q_rmPut10 Z a1 kb c0 x0 x1 h0 n0 _ T5.heap _
    rw [e5]
    exact ⟨rfl, Nf5, K5, V5⟩
theorem d20_0 : decode jdk_52_method_14_code 0 = .ok (.iload_n 2, 1) := by decide +kernel
theorem d20_1 : decode jdk_52_method_14_code 1 = .ok (.invokestatic 107, 3) := by decide +kernel
theorem pd__I__B : parseMethodDescriptor "(I)[B" = some ⟨[.int], some (.array .byte)⟩ := by decide +kernel
theorem d20_4 : decode jdk_52_method_14_code 4 = .ok (.astore_n 3, 1) := by decide +kernel
theorem d20_5 : decode jdk_52_method_14_code 5 = .ok (.iconst 0, 1) := by decide +kernel
theorem d20_6 : decode jdk_52_method_14_code 6 = .ok (.istore 4, 2) := by decide +kernel
theorem d20_8 : decode jdk_52_method_14_code 8 = .ok (.iload 4, 2) := by decide +kernel
theorem d20_10 : decode jdk_52_method_14_code 10 = .ok (.iload_n 2, 1) := by decide +kernel
theorem d20_11 : decode jdk_52_method_14_code 11 = .ok (.if_icmp .ge 21, 3) := by decide +kernel
theorem d20_14 : decode jdk_52_method_14_code 14 = .ok (.aload_n 3, 1) := by decide +kernel
theorem d20_15 : decode jdk_52_method_14_code 15 = .ok (.iload 4, 2) := by decide +kernel
theorem d20_17 : decode jdk_52_method_14_code 17 = .ok (.aload_n 0, 1) := by decide +kernel
theorem d20_18 : decode jdk_52_method_14_code 18 = .ok (.iload_n 1, 1) := by decide +kernel
theorem d20_19 : decode jdk_52_method_14_code 19 = .ok (.caload, 1) := by decide +kernel
theorem d20_20 : decode jdk_52_method_14_code 20 = .ok (.invokestatic 111, 3) := by decide +kernel
theorem pd___BII_V : parseMethodDescriptor "([BII)V" = some ⟨[(.array .byte), .int, .int], none⟩ := by decide +kernel
theorem d20_23 : decode jdk_52_method_14_code 23 = .ok (.iinc 1 1, 3) := by decide +kernel
theorem d20_26 : decode jdk_52_method_14_code 26 = .ok (.iinc 4 1, 3) := by decide +kernel
theorem d20_29 : decode jdk_52_method_14_code 29 = .ok (.goto (-21), 3) := by decide +kernel
theorem d20_32 : decode jdk_52_method_14_code 32 = .ok (.aload_n 3, 1) := by decide +kernel
theorem d20_33 : decode jdk_52_method_14_code 33 = .ok (.areturn, 1) := by decide +kernel
theorem ef_rmToB1 (m : MethodId) (a1 : Addr) : entryFrame m #[(.ref a1), (.int 0), (.int 1)] 5 = mkF m 0 #[.val (.ref a1), .val (.int 0), .val (.int 1), .unset, .unset] [] := by first | (simp [entryFrame, mkF, argsToLocals, Value.category]; done) | rfl
def Q_rmToB1 (Z : State) (a1 : Addr) (kc : ClassId) (c0 : Int32) (h0 : Heap) (n0 : Nat) (v : Option Value) (h : Heap) (L : List Loc) : Prop := ∃ b : Addr, ∃ kb : ClassId, v = some (.ref b) ∧ Fr n0 L ∧ Keep h0 h [] ∧ Arv Z h b kb .byte (2 : Int32) [(.int ((c0 >>> ((0 : Int32) &&& 31)).toInt8.toInt32)), (.int ((c0 >>> ((8 : Int32) &&& 31)).toInt8.toInt32))] (.int 0) ∧ (h0.size ≤ b)
theorem rmToB1 (l : Launch) (Z : State) (a0 : Array Value) (hw : ∀ d ∈ tables_1, d.before a0 Z = true) (ws : List Jvm.Cond) (a1 : Addr) (kc : ClassId) (c0 : Int32) (h0 : Heap) (n0 : Nat) (Z0 : n0 ≤ h0.size) (P0 : Arv Z h0 a1 kc .char (1 : Int32) [(.int c0)] (.int 0)) (P1 : Sta Z h0 "java/lang/StringUTF16" "$assertionsDisabled" "Z" (.int 1)) (P2 : Sta Z h0 "java/lang/StringUTF16" "HI_BYTE_SHIFT" "I" (.int 0)) (P3 : Sta Z h0 "java/lang/StringUTF16" "LO_BYTE_SHIFT" "I" (.int 8)) :
    MetFree l yq22 (head1 (Jvm.Cond.code yq22 jdk_52_method_14_code 5 (some (.array .byte)) :: ws) rq21) (fun a U => a = #[(.ref a1), (.int 0), (.int 1)] ∧ Z.Warmed39 U.vm ∧ U.heap = h0) (fun _ _ _ _ _ => True) (fun _ U o U' => ∃ v L, o = .returned v ∧ Q_rmToB1 Z a1 kc c0 h0 n0 v U'.heap L ∧ FrameEnd U o U' L rq21.cells rq21.slots) := by
  refine MetFree.of_bodySF (plainFor_of_name pn_java_lang_StringUTF16) hisR ?_
  intro p e s m args below meth c s₁ Bd hml0 hP hK
  obtain ⟨rfl, hZ, hh⟩ := hP
  have hx := Bd.exec
  have hby := Bd.bytes
  have hml : c.maxLocals = 5 := hml0
  have hown : s.vm.findClass "java/lang/StringUTF16" = some m.cls := findClass_of_methodNamed Bd.named
  have hnm := (name_of_methodNamed Bd.named Bd.method).1
  have X0 : Stand p l e rq21 s m #[(.ref a1), (.int 0), (.int 1)] below meth c s₁ [] 0 0 := Stand.of_body Bd
  have e0 : s₁.heap = h0 := by rw [← hh, Bd.state]; rfl
  have N0 := Fr.nil n0
  refine own_fw (A' := (s₁.setTop (mkF m 1 #[rv a1, iv 0, iv 1, .unset, .unset] [.int 1]))) (fun t k => castTop (ef_rmToB1 m a1) (XS.iloadN X0.here hx rfl (hb hby d20_0) rfl k)) ?_
  obtain ⟨_, _, ⟨T1, L1, k1, n1⟩, -, X1, ⟨Lc1, hQ1, l1, y1, z1⟩, st1⟩ := Jvm.LawKit.callS X0 hx (y := yq19) hown (mvT hZ (own_w hw 101 rfl)) (mvT hZ (own_w hw 102 rfl)) (mvT hZ (own_w hw 40 rfl)) (mvT hZ (own_w hw 103 rfl)) (by decide) (backOf (W := 0) (rmNBF1 l Z a0 hw []  h0 n0 Z0 ) hZ (own_w hw 103 rfl) (own_w hw 40 rfl) (by decide) (by decide)) (g := (mkF m 1 #[rv a1, iv 0, iv 1, .unset, .unset] [.int 1])) rfl (by rw [hml]; rfl) (argsL := [(.int 1)]) (rest := []) (lenOf pd__I__B rfl) rfl (by show 2 * 0 + _ ≤ _; exact Nat.le_of_eq rfl) (hb hby d20_1) (fun _ _ => ⟨rfl, e0, (by decide : 0 + 1 ≤ _), (by decide : 0 + 2 ≤ _)⟩)
  dsimp only [Pt.U, Pt.locs, Pt.cells, Pt.slots] at X1 l1 y1 z1 st1 hQ1
  subst l1 y1 z1
  obtain ⟨b_1, kb_1, rfl, Nq1, Kq1, Fq1_0, gb_1⟩ := hQ1
  have Nf1 := Fr.app N0 Nq1
  have K1 : Keep h0 T1.heap [] := (Keep.refl h0 []).trans Kq1 all0
  have sz_b_1 : h0.size ≤ b_1 := Nat.le_trans (Keep.refl h0 []).1 gb_1
  have g_b_1 : n0 ≤ b_1 := Nat.le_trans Z0 gb_1
  have ne_a1_b_1 : a1 ≠ b_1 := Nat.ne_of_lt (Nat.lt_of_lt_of_le P0.lt gb_1)
  have Z1 : n0 ≤ T1.heap.size := Nat.le_trans Z0 Kq1.1
  refine own_fw (A' := (T1.setTop (mkF m 19 #[rv a1, iv 0, iv 1, rv b_1, iv 0] [.int 0, .ref a1, .int 0, .ref b_1]))) (fun t k => st1 _ (XS.astoreN X1.here hx rfl (hb hby d20_4) rfl rfl (l' := #[.val (.ref a1), .val (.int 0), .val (.int 1), .val (.ref b_1), .unset]) rfl (XS.iconst X1.here hx rfl (hb hby d20_5) (XS.istore X1.here hx rfl (hb hby d20_6) rfl (l' := #[.val (.ref a1), .val (.int 0), .val (.int 1), .val (.ref b_1), .val (.int 0)]) rfl (XS.iload X1.here hx rfl (hb hby d20_8) rfl (XS.iloadN X1.here hx rfl (hb hby d20_10) rfl (XS.icmpNo X1.here hx rfl (hb hby d20_11) rfl (XT.ii_ge_f (by decide)) (XS.aloadN X1.here hx rfl (hb hby d20_14) rfl rfl (XS.iload X1.here hx rfl (hb hby d20_15) rfl (XS.aloadN X1.here hx rfl (hb hby d20_17) rfl rfl (XS.iloadN X1.here hx rfl (hb hby d20_18) rfl k))))))))))) ?_
  obtain ⟨cl2, Ar2, q2, S2, M2, H2, G2⟩ := id (P0.keep Kq1 nin0)
  have hin2 : ¬ ((0 : Int32) < 0 ∨ cl2.slots.size ≤ ((0 : Int32)).toNatClampNeg) := inb_of S2 ⟨by decide, by decide⟩
  have hat2 : cl2.slots[((0 : Int32)).toNatClampNeg]? = some (.int c0) := H2.at hin2 rfl
  refine own_fw (A' := (T1.setTop (mkF m 20 #[rv a1, iv 0, iv 1, rv b_1, iv 0] [.int c0, .int 0, .ref b_1]))) (fun t k => X1.caload hx (j := (0 : Int32)) (v := (.int c0)) (by exact Ar2.1) (State.isArrayOf_alike hZ.alike Ar2.2.1) Ar2.2.2 hin2 hat2 (g := (mkF m 19 #[rv a1, iv 0, iv 1, rv b_1, iv 0] [.int 0, .ref a1, .int 0, .ref b_1])) rfl rfl (hb hby d20_19) _ k) ?_
  obtain ⟨_, _, ⟨T3, L3, k3, n3⟩, -, X3, ⟨Lc3, hQ3, l3, y3, z3⟩, st3⟩ := Jvm.LawKit.callS X1 hx (y := yq20) hown (mvT hZ (own_w hw 108 rfl)) (mvT hZ (own_w hw 109 rfl)) (mvT hZ (own_w hw 40 rfl)) (mvT hZ (own_w hw 110 rfl)) (by decide) (backOf (W := 0) (rmPut10 l Z a0 hw [] b_1 kb_1 c0 (0 : Int32) (0 : Int32) T1.heap n0 Z1 Fq1_0 g_b_1 (own_staKeep P1 Kq1 all0) (own_staKeep P2 Kq1 all0) (own_staKeep P3 Kq1 all0)) hZ (own_w hw 110 rfl) (own_w hw 40 rfl) (by decide) (by decide)) (g := (mkF m 20 #[rv a1, iv 0, iv 1, rv b_1, iv 0] [.int c0, .int 0, .ref b_1])) rfl (by rw [hml]; rfl) (argsL := [(.ref b_1), (.int 0), (.int c0)]) (rest := []) (lenOf pd___BII_V rfl) rfl (by show 2 * 0 + _ ≤ _; exact Nat.le_of_eq rfl) (hb hby d20_20) (fun _ _ => ⟨rfl, rfl, (by decide : 1 + 0 ≤ _), (by decide : 2 + 0 ≤ _)⟩)
  dsimp only [Pt.U, Pt.locs, Pt.cells, Pt.slots] at X3 l3 y3 z3 st3 hQ3
  subst l3 y3 z3
  obtain ⟨rfl, Nq3, Kq3, Fq3_0⟩ := hQ3
  have Nf3 := Fr.app Nf1 Nq3
  have K3 : Keep h0 T3.heap [] := K1.trans Kq3 (allS (Or.inr sz_b_1) all0)
  have Z3 : n0 ≤ T3.heap.size := Nat.le_trans Z1 Kq3.1
  refine own_fw (A' := (T3.setTop (mkF m 33 #[rv a1, iv 1, iv 1, rv b_1, iv 1] [.ref b_1]))) (fun t k => st3 _ (XS.iinc X3.here hx rfl (hb hby d20_23) rfl (l' := #[.val (.ref a1), .val (.int 1), .val (.int 1), .val (.ref b_1), .val (.int 0)]) rfl (XS.iinc X3.here hx rfl (hb hby d20_26) rfl (l' := #[.val (.ref a1), .val (.int 1), .val (.int 1), .val (.ref b_1), .val (.int 1)]) rfl (XS.goto X3.here hx rfl (pc0 := 29) (pc' := 8) rfl (hb hby d20_29) (by decide) (by decide) (XS.iload X3.here hx rfl (hb hby d20_8) rfl (XS.iloadN X3.here hx rfl (hb hby d20_10) rfl (XS.icmpYes X3.here hx rfl (pc0 := 11) (pc' := 32) rfl (hb hby d20_11) rfl (XT.ii_ge_t (by decide)) (by decide) (by decide) (XS.aloadN X3.here hx rfl (hb hby d20_32) rfl rfl k)))))))) ?_
  obtain ⟨fs, hr, hrun, hended, hW, hsame⟩ := X3.leave (v := some (.ref b_1)) (fun h => by rw [Bd.returns] at h; cases h)
  refine ⟨_, _, ?_, hrun, hended, _, _, rfl, ?_, ⟨_, rfl⟩, hW, hsame.mono (by decide) (by decide)⟩
  · exact retOut X3 hx Bd.returns rfl (Or.inr (Or.inr (Or.inr (Or.inr ⟨rfl, rfl, rfl⟩)))) (hb hby d20_33) hr
  · show Q_rmToB1 Z a1 kc c0 h0 n0 _ T3.heap _
    exact ⟨b_1, kb_1, rfl, Nf3, K3, Fq3_0, sz_b_1⟩
theorem d24_0 : decode jdk_52_method_5_code 0 = .ok (.getstatic 44, 3) := by decide +kernel
theorem d24_3 : decode jdk_52_method_5_code 3 = .ok (.ifCond .ne 25, 3) := by decide +kernel
theorem d24_28 : decode jdk_52_method_5_code 28 = .ok (.iload_n 1, 1) := by decide +kernel
theorem d24_29 : decode jdk_52_method_5_code 29 = .ok (.iconst 1, 1) := by decide +kernel
theorem d24_30 : decode jdk_52_method_5_code 30 = .ok (.ishl, 1) := by decide +kernel
theorem d24_31 : decode jdk_52_method_5_code 31 = .ok (.istore_n 1, 1) := by decide +kernel
theorem d24_32 : decode jdk_52_method_5_code 32 = .ok (.aload_n 0, 1) := by decide +kernel
theorem d24_33 : decode jdk_52_method_5_code 33 = .ok (.iload_n 1, 1) := by decide +kernel
theorem d24_34 : decode jdk_52_method_5_code 34 = .ok (.iinc 1 1, 3) := by decide +kernel
theorem d24_37 : decode jdk_52_method_5_code 37 = .ok (.baload, 1) := by decide +kernel
theorem d24_38 : decode jdk_52_method_5_code 38 = .ok (.sipush 255, 3) := by decide +kernel
theorem d24_41 : decode jdk_52_method_5_code 41 = .ok (.iand, 1) := by decide +kernel
theorem d24_42 : decode jdk_52_method_5_code 42 = .ok (.getstatic 59, 3) := by decide +kernel
theorem d24_45 : decode jdk_52_method_5_code 45 = .ok (.ishl, 1) := by decide +kernel
theorem d24_46 : decode jdk_52_method_5_code 46 = .ok (.aload_n 0, 1) := by decide +kernel
theorem d24_47 : decode jdk_52_method_5_code 47 = .ok (.iload_n 1, 1) := by decide +kernel
theorem d24_48 : decode jdk_52_method_5_code 48 = .ok (.baload, 1) := by decide +kernel
theorem d24_49 : decode jdk_52_method_5_code 49 = .ok (.sipush 255, 3) := by decide +kernel
theorem d24_52 : decode jdk_52_method_5_code 52 = .ok (.iand, 1) := by decide +kernel
theorem d24_53 : decode jdk_52_method_5_code 53 = .ok (.getstatic 63, 3) := by decide +kernel
theorem d24_56 : decode jdk_52_method_5_code 56 = .ok (.ishl, 1) := by decide +kernel
theorem d24_57 : decode jdk_52_method_5_code 57 = .ok (.ior, 1) := by decide +kernel
theorem d24_58 : decode jdk_52_method_5_code 58 = .ok (.i2c, 1) := by decide +kernel
theorem d24_59 : decode jdk_52_method_5_code 59 = .ok (.ireturn, 1) := by decide +kernel
theorem ef_rmGet10 (m : MethodId) (a1 : Addr) : entryFrame m #[(.ref a1), (.int 0)] 2 = mkF m 0 #[.val (.ref a1), .val (.int 0)] [] := by first | (simp [entryFrame, mkF, argsToLocals, Value.category]; done) | rfl
def Q_rmGet10 (Z : State) (a1 : Addr) (kb : ClassId) (x0 x1 : Int32) (h0 : Heap) (n0 : Nat) (v : Option Value) (h : Heap) (L : List Loc) : Prop := v = some (.int (own_gc x0 x1)) ∧ Fr n0 L ∧ h = h0
theorem rmGet10 (l : Launch) (Z : State) (a0 : Array Value) (hw : ∀ d ∈ tables_1, d.before a0 Z = true) (ws : List Jvm.Cond) (a1 : Addr) (kb : ClassId) (x0 x1 : Int32) (h0 : Heap) (n0 : Nat) (Z0 : n0 ≤ h0.size) (P0 : Arv Z h0 a1 kb .byte (2 : Int32) [(.int x0), (.int x1)] (.int 0)) (P1 : Sta Z h0 "java/lang/StringUTF16" "$assertionsDisabled" "Z" (.int 1)) (P2 : Sta Z h0 "java/lang/StringUTF16" "HI_BYTE_SHIFT" "I" (.int 0)) (P3 : Sta Z h0 "java/lang/StringUTF16" "LO_BYTE_SHIFT" "I" (.int 8)) :
    MetFree l yq23 (head1 (Jvm.Cond.code yq23 jdk_52_method_5_code 2 (some .char) :: ws) rq0) (fun a U => a = #[(.ref a1), (.int 0)] ∧ Z.Warmed39 U.vm ∧ U.heap = h0) (fun _ _ _ _ _ => True) (fun _ U o U' => ∃ v L, o = .returned v ∧ Q_rmGet10 Z a1 kb x0 x1 h0 n0 v U'.heap L ∧ FrameEnd U o U' L rq0.cells rq0.slots) := by
  refine MetFree.of_bodySF (plainFor_of_name pn_java_lang_StringUTF16) hisR ?_
  intro p e s m args below meth c s₁ Bd hml0 hP hK
  obtain ⟨rfl, hZ, hh⟩ := hP
  have hx := Bd.exec
  have hby := Bd.bytes
  have hml : c.maxLocals = 2 := hml0
  have hown : s.vm.findClass "java/lang/StringUTF16" = some m.cls := findClass_of_methodNamed Bd.named
  have hnm := (name_of_methodNamed Bd.named Bd.method).1
  have X0 : Stand p l e rq0 s m #[(.ref a1), (.int 0)] below meth c s₁ [] 0 0 := Stand.of_body Bd
  have e0 : s₁.heap = h0 := by rw [← hh, Bd.state]; rfl
  have N0 := Fr.nil n0
  refine own_fw (A' := (s₁.setTop (mkF m 0 #[.val (.ref a1), .val (.int 0)] []))) (fun t k => castTop (ef_rmGet10 m a1) k) ?_
  obtain ⟨T1, X1, e1, st1⟩ := getS2 X0 hx hZ hown (host := "") (Or.inl (own_w hw 111 rfl)) Via.refl e0 P1 (g := (mkF m 0 #[rv a1, iv 0] [])) rfl (hb hby d24_0)
  refine own_fw (A' := (T1.setTop (mkF m 37 #[rv a1, iv 1] [.int 0, .ref a1]))) (fun t k => st1 _ (XS.ifYes X1.here hx rfl (pc0 := 3) (pc' := 28) rfl (hb hby d24_3) rfl (XT.i0_ne_t (by decide)) (by decide) (by decide) (XS.iloadN X1.here hx rfl (hb hby d24_28) rfl (XS.iconst X1.here hx rfl (hb hby d24_29) (XS.ishl X1.here hx rfl (hb hby d24_30) rfl (XS.istoreN X1.here hx rfl (hb hby d24_31) rfl (l' := #[.val (.ref a1), .val (.int 0)]) rfl (XS.aloadN X1.here hx rfl (hb hby d24_32) rfl rfl (XS.iloadN X1.here hx rfl (hb hby d24_33) rfl (XS.iinc X1.here hx rfl (hb hby d24_34) rfl (l' := #[.val (.ref a1), .val (.int 1)]) rfl k))))))))) ?_
  obtain ⟨cl2, Ar2, q2, S2, M2, H2, G2⟩ := id P0
  have hin2 : ¬ ((0 : Int32) < 0 ∨ cl2.slots.size ≤ ((0 : Int32)).toNatClampNeg) := inb_of S2 ⟨by decide, by decide⟩
  have hat2 : cl2.slots[((0 : Int32)).toNatClampNeg]? = some (.int x0) := H2.at hin2 rfl
  refine own_fw (A' := (T1.setTop (mkF m 42 #[rv a1, iv 1] [.int (x0 &&& (255 : Int32))]))) (fun t k => X1.baloadBytes hx (j := (0 : Int32)) (v := (.int x0)) (by rw [e1]; exact Ar2.1) (State.isArrayOf_alike hZ.alike Ar2.2.1) Ar2.2.2 hin2 hat2 (g := (mkF m 37 #[rv a1, iv 1] [.int 0, .ref a1])) rfl rfl (hb hby d24_37) _ (XS.sipush X1.here hx rfl (hb hby d24_38) (XS.iand X1.here hx rfl (hb hby d24_41) rfl k))) ?_
  obtain ⟨T3, X3, e3, st3⟩ := getS2 X1 hx hZ hown (host := "") (Or.inl (own_w hw 112 rfl)) Via.refl e1 P2 (g := (mkF m 42 #[rv a1, iv 1] [.int (x0 &&& (255 : Int32))])) rfl (hb hby d24_42)
  refine own_fw (A' := (T3.setTop (mkF m 48 #[rv a1, iv 1] [.int 1, .ref a1, .int ((x0 &&& (255 : Int32)) <<< ((0 : Int32) &&& 31))]))) (fun t k => st3 _ (XS.ishl X3.here hx rfl (hb hby d24_45) rfl (XS.aloadN X3.here hx rfl (hb hby d24_46) rfl rfl (XS.iloadN X3.here hx rfl (hb hby d24_47) rfl k)))) ?_
  obtain ⟨cl4, Ar4, q4, S4, M4, H4, G4⟩ := id P0
  have hin4 : ¬ ((1 : Int32) < 0 ∨ cl4.slots.size ≤ ((1 : Int32)).toNatClampNeg) := inb_of S4 ⟨by decide, by decide⟩
  have hat4 : cl4.slots[((1 : Int32)).toNatClampNeg]? = some (.int x1) := H4.at hin4 rfl
  refine own_fw (A' := (T3.setTop (mkF m 53 #[rv a1, iv 1] [.int (x1 &&& (255 : Int32)), .int ((x0 &&& (255 : Int32)) <<< ((0 : Int32) &&& 31))]))) (fun t k => X3.baloadBytes hx (j := (1 : Int32)) (v := (.int x1)) (by rw [e3]; exact Ar4.1) (State.isArrayOf_alike hZ.alike Ar4.2.1) Ar4.2.2 hin4 hat4 (g := (mkF m 48 #[rv a1, iv 1] [.int 1, .ref a1, .int ((x0 &&& (255 : Int32)) <<< ((0 : Int32) &&& 31))])) rfl rfl (hb hby d24_48) _ (XS.sipush X3.here hx rfl (hb hby d24_49) (XS.iand X3.here hx rfl (hb hby d24_52) rfl k))) ?_
  obtain ⟨T5, X5, e5, st5⟩ := getS2 X3 hx hZ hown (host := "") (Or.inl (own_w hw 113 rfl)) Via.refl e3 P3 (g := (mkF m 53 #[rv a1, iv 1] [.int (x1 &&& (255 : Int32)), .int ((x0 &&& (255 : Int32)) <<< ((0 : Int32) &&& 31))])) rfl (hb hby d24_53)
  refine own_fw (A' := (T5.setTop (mkF m 59 #[rv a1, iv 1] [.int ((((x0 &&& (255 : Int32)) <<< ((0 : Int32) &&& 31)) ||| ((x1 &&& (255 : Int32)) <<< ((8 : Int32) &&& 31))).toUInt32.toUInt16.toUInt32.toInt32)]))) (fun t k => st5 _ (XS.ishl X5.here hx rfl (hb hby d24_56) rfl (XS.ior X5.here hx rfl (hb hby d24_57) rfl (XS.i2c X5.here hx rfl (hb hby d24_58) rfl k)))) ?_
  obtain ⟨fs, hr, hrun, hended, hW, hsame⟩ := X5.leave (v := some (.int ((((x0 &&& (255 : Int32)) <<< ((0 : Int32) &&& 31)) ||| ((x1 &&& (255 : Int32)) <<< ((8 : Int32) &&& 31))).toUInt32.toUInt16.toUInt32.toInt32))) (fun h => by rw [Bd.returns] at h; cases h)
  refine ⟨_, _, ?_, hrun, hended, _, _, rfl, ?_, ⟨_, rfl⟩, hW, hsame.mono (by decide) (by decide)⟩
  · exact retOut X5 hx Bd.returns (XT.narrow_c _) (Or.inl ⟨rfl, by simp, _, rfl⟩) (hb hby d24_59) hr
  · show Q_rmGet10 Z a1 kb x0 x1 h0 n0 _ T5.heap _
    rw [e5]
    exact ⟨rfl, N0, rfl⟩
theorem ef_rmCoderU1 (m : MethodId) (a1 : Addr) : entryFrame m #[(.ref a1), (.int 1)] 2 = mkF m 0 #[.val (.ref a1), .val (.int 1)] [] := by first | (simp [entryFrame, mkF, argsToLocals, Value.category]; done) | rfl
def Q_rmCoderU1 (Z : State) (a1 : Addr) (kb : ClassId) (x0 x1 : Int32) (h0 : Heap) (n0 : Nat) (v : Option Value) (h : Heap) (L : List Loc) : Prop := v = some (.int 1) ∧ Fr n0 L ∧ h = h0
theorem rmCoderU1 (l : Launch) (Z : State) (a0 : Array Value) (hw : ∀ d ∈ tables_1, d.before a0 Z = true) (ws : List Jvm.Cond) (a1 : Addr) (kb : ClassId) (x0 x1 : Int32) (h0 : Heap) (n0 : Nat) (Z0 : n0 ≤ h0.size) (P0 : Arv Z h0 a1 kb .byte (2 : Int32) [(.int x0), (.int x1)] (.int 0)) :
    MetFree l yq4 (head1 (Jvm.Cond.code yq4 jdk_52_method_15_code 2 (some .byte) :: ws) rq0) (fun a U => a = #[(.ref a1), (.int 1)] ∧ Z.Warmed39 U.vm ∧ U.heap = h0) (fun _ _ _ _ _ => True) (fun _ U o U' => ∃ v L, o = .returned v ∧ Q_rmCoderU1 Z a1 kb x0 x1 h0 n0 v U'.heap L ∧ FrameEnd U o U' L rq0.cells rq0.slots) := by
  refine MetFree.of_bodySF (plainFor_of_name pn_java_lang_StringUTF16) hisR ?_
  intro p e s m args below meth c s₁ Bd hml0 hP hK
  obtain ⟨rfl, hZ, hh⟩ := hP
  have hx := Bd.exec
  have hby := Bd.bytes
  have hml : c.maxLocals = 2 := hml0
  have hown : s.vm.findClass "java/lang/StringUTF16" = some m.cls := findClass_of_methodNamed Bd.named
  have hnm := (name_of_methodNamed Bd.named Bd.method).1
  have X0 : Stand p l e rq0 s m #[(.ref a1), (.int 1)] below meth c s₁ [] 0 0 := Stand.of_body Bd
  have e0 : s₁.heap = h0 := by rw [← hh, Bd.state]; rfl
  have N0 := Fr.nil n0
  refine own_fw (A' := (s₁.setTop (mkF m 2 #[rv a1, iv 1] [.ref a1, .int 1]))) (fun t k => castTop (ef_rmCoderU1 m a1) (XS.iloadN X0.here hx rfl (hb hby d10_0) rfl (XS.aloadN X0.here hx rfl (hb hby d10_1) rfl rfl k))) ?_
  obtain ⟨cl1, Ar1, q1, S1, M1, H1, G1⟩ := id P0
  refine own_fw (A' := (s₁.setTop (mkF m 3 #[rv a1, iv 1] [.int 2, .int 1]))) (fun t k => X0.arraylength hx (by rw [e0]; exact Ar1.1) (State.isArrayOf_alike hZ.alike Ar1.2.1) (g := (mkF m 2 #[rv a1, iv 1] [.ref a1, .int 1])) rfl rfl (hb hby d10_2) _ (by rw [len_of S1 M1]; exact k)) ?_
  refine own_fw (A' := (s₁.setTop (mkF m 8 #[rv a1, iv 1] [.int 1]))) (fun t k => XS.isub X0.here hx rfl (hb hby d10_3) rfl (XS.bipush X0.here hx rfl (hb hby d10_4) (XS.iushr X0.here hx rfl (hb hby d10_6) rfl (XS.i2b X0.here hx rfl (hb hby d10_7) rfl k)))) ?_
  obtain ⟨fs, hr, hrun, hended, hW, hsame⟩ := X0.leave (v := some (.int 1)) (fun h => by rw [Bd.returns] at h; cases h)
  refine ⟨_, _, ?_, hrun, hended, _, _, rfl, ?_, ⟨_, rfl⟩, hW, hsame.mono (by decide) (by decide)⟩
  · exact retOut X0 hx Bd.returns rfl (Or.inl ⟨rfl, by simp, _, rfl⟩) (hb hby d10_8) hr
  · show Q_rmCoderU1 Z a1 kb x0 x1 h0 n0 _ s₁.heap _
    rw [e0]
    exact ⟨rfl, N0, rfl⟩
theorem d9_23 : decode jdk_52_method_21_code 23 = .ok (.iload 5, 2) := by decide +kernel
theorem d9_25 : decode jdk_52_method_21_code 25 = .ok (.ireturn, 1) := by decide +kernel
theorem ef_rmCmpA1_0 (m : MethodId) (a1 a3 : Addr) : entryFrame m #[(.ref a1), (.int 0), (.ref a3), (.int 0), (.int 1)] 7 = mkF m 0 #[.val (.ref a1), .val (.int 0), .val (.ref a3), .val (.int 0), .val (.int 1), .unset, .unset] [] := by first | (simp [entryFrame, mkF, argsToLocals, Value.category]; done) | rfl
def Q_rmCmpA1_0 (Z : State) (a1 a3 : Addr) (kc kb : ClassId) (c0 : Int32) (h0 : Heap) (n0 : Nat) (v : Option Value) (h : Heap) (L : List Loc) : Prop := v = some (.int 0) ∧ Fr n0 L ∧ Keep h0 h [a3]
theorem rmCmpA1_0 (l : Launch) (Z : State) (a0 : Array Value) (hw : ∀ d ∈ tables_1, d.before a0 Z = true) (ws : List Jvm.Cond) (a1 a3 : Addr) (kc kb : ClassId) (c0 : Int32) (h0 : Heap) (n0 : Nat) (Z0 : n0 ≤ h0.size) (P0 : Arv Z h0 a1 kc .char (1 : Int32) [(.int c0)] (.int 0)) (P1 : Arv Z h0 a3 kb .byte (1 : Int32) [(.int 0)] (.int 0)) (g_a3 : n0 ≤ a3) (ne_a1_a3 : a1 ≠ a3) (hc0 : (255 : Int32) < c0) :
    MetFree l yq1 (head1 (Jvm.Cond.code yq1 jdk_52_method_21_code 7 (some .int) :: ws) rq0) (fun a U => a = #[(.ref a1), (.int 0), (.ref a3), (.int 0), (.int 1)] ∧ Z.Warmed39 U.vm ∧ U.heap = h0) (fun _ _ _ _ _ => True) (fun _ U o U' => ∃ v L, o = .returned v ∧ Q_rmCmpA1_0 Z a1 a3 kc kb c0 h0 n0 v U'.heap L ∧ FrameEnd U o U' L rq0.cells rq0.slots) := by
  refine MetFree.of_bodySF (plainFor_of_name pn_java_lang_StringUTF16) hisR ?_
  intro p e s m args below meth c s₁ Bd hml0 hP hK
  obtain ⟨rfl, hZ, hh⟩ := hP
  have hx := Bd.exec
  have hby := Bd.bytes
  have hml : c.maxLocals = 7 := hml0
  have hown : s.vm.findClass "java/lang/StringUTF16" = some m.cls := findClass_of_methodNamed Bd.named
  have hnm := (name_of_methodNamed Bd.named Bd.method).1
  have X0 : Stand p l e rq0 s m #[(.ref a1), (.int 0), (.ref a3), (.int 0), (.int 1)] below meth c s₁ [] 0 0 := Stand.of_body Bd
  have e0 : s₁.heap = h0 := by rw [← hh, Bd.state]; rfl
  have N0 := Fr.nil n0
  refine own_fw (A' := (s₁.setTop (mkF m 12 #[rv a1, iv 0, rv a3, iv 0, iv 1, iv 0, .unset] [.int 0, .ref a1]))) (fun t k => castTop (ef_rmCmpA1_0 m a1 a3) (XS.iconst X0.here hx rfl (hb hby d9_0) (XS.istore X0.here hx rfl (hb hby d9_1) rfl (l' := #[.val (.ref a1), .val (.int 0), .val (.ref a3), .val (.int 0), .val (.int 1), .val (.int 0), .unset]) rfl (XS.iload X0.here hx rfl (hb hby d9_3) rfl (XS.iload X0.here hx rfl (hb hby d9_5) rfl (XS.icmpNo X0.here hx rfl (hb hby d9_7) rfl (XT.ii_ge_f (by decide)) (XS.aloadN X0.here hx rfl (hb hby d9_10) rfl rfl (XS.iloadN X0.here hx rfl (hb hby d9_11) rfl k)))))))) ?_
  obtain ⟨cl1, Ar1, q1, S1, M1, H1, G1⟩ := id P0
  have hin1 : ¬ ((0 : Int32) < 0 ∨ cl1.slots.size ≤ ((0 : Int32)).toNatClampNeg) := inb_of S1 ⟨by decide, by decide⟩
  have hat1 : cl1.slots[((0 : Int32)).toNatClampNeg]? = some (.int c0) := H1.at hin1 rfl
  refine own_fw (A' := (s₁.setTop (mkF m 25 #[rv a1, iv 0, rv a3, iv 0, iv 1, iv 0, iv c0] [.int 0]))) (fun t k => X0.caload hx (j := (0 : Int32)) (v := (.int c0)) (by rw [e0]; exact Ar1.1) (State.isArrayOf_alike hZ.alike Ar1.2.1) Ar1.2.2 hin1 hat1 (g := (mkF m 12 #[rv a1, iv 0, rv a3, iv 0, iv 1, iv 0, .unset] [.int 0, .ref a1])) rfl rfl (hb hby d9_12) _ (XS.istore X0.here hx rfl (hb hby d9_13) rfl (l' := #[.val (.ref a1), .val (.int 0), .val (.ref a3), .val (.int 0), .val (.int 1), .val (.int 0), .val (.int c0)]) rfl (XS.iload X0.here hx rfl (hb hby d9_15) rfl (XS.sipush X0.here hx rfl (hb hby d9_17) (XS.icmpNo X0.here hx rfl (hb hby d9_20) rfl (XT.ii_le_f hc0) (XS.iload X0.here hx rfl (hb hby d9_23) rfl k)))))) ?_
  obtain ⟨fs, hr, hrun, hended, hW, hsame⟩ := X0.leave (v := some (.int 0)) (fun h => by rw [Bd.returns] at h; cases h)
  refine ⟨_, _, ?_, hrun, hended, _, _, rfl, ?_, ⟨_, rfl⟩, hW, hsame.mono (by decide) (by decide)⟩
  · exact retOut X0 hx Bd.returns rfl (Or.inl ⟨rfl, by simp, _, rfl⟩) (hb hby d9_25) hr
  · show Q_rmCmpA1_0 Z a1 a3 kc kb c0 h0 n0 _ s₁.heap _
    rw [e0]
    exact ⟨rfl, N0, (Keep.refl h0 [a3])⟩
theorem d8_20 : decode jdk_52_method_16_code 20 = .ok (.aload_n 0, 1) := by decide +kernel
theorem d8_21 : decode jdk_52_method_16_code 21 = .ok (.iload_n 1, 1) := by decide +kernel
theorem d8_22 : decode jdk_52_method_16_code 22 = .ok (.iload_n 2, 1) := by decide +kernel
theorem d8_23 : decode jdk_52_method_16_code 23 = .ok (.invokestatic 119, 3) := by decide +kernel
theorem d8_26 : decode jdk_52_method_16_code 26 = .ok (.astore 5, 2) := by decide +kernel
theorem d8_28 : decode jdk_52_method_16_code 28 = .ok (.aload 5, 2) := by decide +kernel
theorem d8_30 : decode jdk_52_method_16_code 30 = .ok (.iload 4, 2) := by decide +kernel
theorem d8_32 : decode jdk_52_method_16_code 32 = .ok (.invokestatic 71, 3) := by decide +kernel
theorem pd___BI_C : parseMethodDescriptor "([BI)C" = some ⟨[(.array .byte), .int], some .char⟩ := by decide +kernel
theorem d8_35 : decode jdk_52_method_16_code 35 = .ok (.sipush 255, 3) := by decide +kernel
theorem d8_38 : decode jdk_52_method_16_code 38 = .ok (.if_icmp .gt 16, 3) := by decide +kernel
theorem d8_54 : decode jdk_52_method_16_code 54 = .ok (.aload 5, 2) := by decide +kernel
theorem d8_56 : decode jdk_52_method_16_code 56 = .ok (.areturn, 1) := by decide +kernel
theorem ef_rmCmpB1_0 (m : MethodId) (a1 : Addr) : entryFrame m #[(.ref a1), (.int 0), (.int 1)] 6 = mkF m 0 #[.val (.ref a1), .val (.int 0), .val (.int 1), .unset, .unset, .unset] [] := by first | (simp [entryFrame, mkF, argsToLocals, Value.category]; done) | rfl
def Q_rmCmpB1_0 (Z : State) (a1 : Addr) (kc : ClassId) (c0 : Int32) (h0 : Heap) (n0 : Nat) (v : Option Value) (h : Heap) (L : List Loc) : Prop := ∃ b : Addr, ∃ kb : ClassId, v = some (.ref b) ∧ Fr n0 L ∧ Keep h0 h [] ∧ Arv Z h b kb .byte (2 : Int32) [(.int ((c0 >>> ((0 : Int32) &&& 31)).toInt8.toInt32)), (.int ((c0 >>> ((8 : Int32) &&& 31)).toInt8.toInt32))] (.int 0) ∧ (h0.size ≤ b)
theorem rmCmpB1_0 (l : Launch) (Z : State) (a0 : Array Value) (hw : ∀ d ∈ tables_1, d.before a0 Z = true) (ws : List Jvm.Cond) (a1 : Addr) (kc : ClassId) (c0 : Int32) (h0 : Heap) (n0 : Nat) (Z0 : n0 ≤ h0.size) (P0 : Arv Z h0 a1 kc .char (1 : Int32) [(.int c0)] (.int 0)) (P1 : Sta Z h0 "java/lang/StringUTF16" "$assertionsDisabled" "Z" (.int 1)) (P2 : Sta Z h0 "java/lang/StringUTF16" "HI_BYTE_SHIFT" "I" (.int 0)) (P3 : Sta Z h0 "java/lang/StringUTF16" "LO_BYTE_SHIFT" "I" (.int 8)) (hc0 : (255 : Int32) < c0) (hr0 : own_c16 c0) :
    MetFree l yq3 (head1 (Jvm.Cond.code yq3 jdk_52_method_16_code 6 (some (.array .byte)) :: ws) rq24) (fun a U => a = #[(.ref a1), (.int 0), (.int 1)] ∧ Z.Warmed39 U.vm ∧ U.heap = h0) (fun _ _ _ _ _ => True) (fun _ U o U' => ∃ v L, o = .returned v ∧ Q_rmCmpB1_0 Z a1 kc c0 h0 n0 v U'.heap L ∧ FrameEnd U o U' L rq24.cells rq24.slots) := by
  refine MetFree.of_bodySF (plainFor_of_name pn_java_lang_StringUTF16) hisR ?_
  intro p e s m args below meth c s₁ Bd hml0 hP hK
  obtain ⟨rfl, hZ, hh⟩ := hP
  have hx := Bd.exec
  have hby := Bd.bytes
  have hml : c.maxLocals = 6 := hml0
  have hown : s.vm.findClass "java/lang/StringUTF16" = some m.cls := findClass_of_methodNamed Bd.named
  have hnm := (name_of_methodNamed Bd.named Bd.method).1
  have X0 : Stand p l e rq24 s m #[(.ref a1), (.int 0), (.int 1)] below meth c s₁ [] 0 0 := Stand.of_body Bd
  have e0 : s₁.heap = h0 := by rw [← hh, Bd.state]; rfl
  have N0 := Fr.nil n0
  refine own_fw (A' := (s₁.setTop (mkF m 1 #[rv a1, iv 0, iv 1, .unset, .unset, .unset] [.int 1]))) (fun t k => castTop (ef_rmCmpB1_0 m a1) (XS.iloadN X0.here hx rfl (hb hby d8_0) rfl k)) ?_
  obtain ⟨T1, h1, k1, X1, e1, E1, A1, st1⟩ := newP X0 hx hZ (own_w hw 42 rfl) e0 (g := (mkF m 1 #[rv a1, iv 0, iv 1, .unset, .unset, .unset] [.int 1])) rfl (hb hby d8_1) rfl (by decide) (cap := 1) (by decide) (by decide) (by decide) (by decide)
  obtain ⟨b1, gb1⟩ : ∃ z, z = h0.size := ⟨_, rfl⟩
  have g_b1 : n0 ≤ b1 := Nat.le_trans Z0 (Nat.le_of_eq gb1.symm)
  have sz_b1 : h0.size ≤ b1 := Nat.le_trans (Keep.refl h0 []).1 (Nat.le_of_eq gb1.symm)
  have ne_a1_b1 : a1 ≠ b1 := Nat.ne_of_lt (Nat.lt_of_lt_of_le P0.lt (Nat.le_of_eq gb1.symm))
  rw [← gb1] at A1 st1
  have V_b1 : Arv Z h1 b1 k1 .byte (1 : Int32) [(.int 0)] (.int 0) := (Arv.new A1 (by decide)).pad (pad_rep [] (.int 0) 1)
  have K1 : Keep h0 h1 [] := (Keep.refl h0 []).ext E1
  have Z1 : n0 ≤ h1.size := Nat.le_trans Z0 E1.1
  refine own_fw (A' := (T1.setTop (mkF m 9 #[rv a1, iv 0, iv 1, rv b1, .unset, .unset] [.int 1, .int 0, .ref b1, .int 0, .ref a1]))) (fun t k => st1 _ (XS.astoreN X1.here hx rfl (hb hby d8_3) rfl rfl (l' := #[.val (.ref a1), .val (.int 0), .val (.int 1), .val (.ref b1), .unset, .unset]) rfl (XS.aloadN X1.here hx rfl (hb hby d8_4) rfl rfl (XS.iloadN X1.here hx rfl (hb hby d8_5) rfl (XS.aloadN X1.here hx rfl (hb hby d8_6) rfl rfl (XS.iconst X1.here hx rfl (hb hby d8_7) (XS.iloadN X1.here hx rfl (hb hby d8_8) rfl k))))))) ?_
  obtain ⟨_, _, ⟨T2, L2, k2, n2⟩, -, X2, ⟨Lc2, hQ2, l2, y2, z2⟩, st2⟩ := Jvm.LawKit.callS X1 hx (y := yq1) hown (mvT hZ (own_w hw 43 rfl)) (mvT hZ (own_w hw 44 rfl)) (mvT hZ (own_w hw 40 rfl)) (mvT hZ (own_w hw 45 rfl)) (by decide) (backOf (W := 0) (rmCmpA1_0 l Z a0 hw [] a1 b1 kc k1 c0 h1 n0 Z1 (P0.ext E1) V_b1 g_b1 ne_a1_b1 hc0) hZ (own_w hw 45 rfl) (own_w hw 40 rfl) (by decide) (by decide)) (g := (mkF m 9 #[rv a1, iv 0, iv 1, rv b1, .unset, .unset] [.int 1, .int 0, .ref b1, .int 0, .ref a1])) rfl (by rw [hml]; rfl) (argsL := [(.ref a1), (.int 0), (.ref b1), (.int 0), (.int 1)]) (rest := []) (lenOf pd___CI_BII_I rfl) rfl (by show 2 * 0 + _ ≤ _; exact Nat.le_of_eq rfl) (hb hby d8_9) (fun _ _ => ⟨rfl, e1, (by decide : 1 + 0 ≤ _), (by decide : 1 + 0 ≤ _)⟩)
  dsimp only [Pt.U, Pt.locs, Pt.cells, Pt.slots] at X2 l2 y2 z2 st2 hQ2
  subst l2 y2 z2
  obtain ⟨rfl, Nq2, Kq2⟩ := hQ2
  have Nf2 := Fr.app N0 Nq2
  have K2 : Keep h0 T2.heap [] := K1.trans Kq2 (allS (Or.inr sz_b1) all0)
  have Z2 : n0 ≤ T2.heap.size := Nat.le_trans Z1 Kq2.1
  refine own_fw (A' := (T2.setTop (mkF m 23 #[rv a1, iv 0, iv 1, rv b1, iv 0, .unset] [.int 1, .int 0, .ref a1]))) (fun t k => st2 _ (XS.istore X2.here hx rfl (hb hby d8_12) rfl (l' := #[.val (.ref a1), .val (.int 0), .val (.int 1), .val (.ref b1), .val (.int 0), .unset]) rfl (XS.iload X2.here hx rfl (hb hby d8_14) rfl (XS.iloadN X2.here hx rfl (hb hby d8_16) rfl (XS.icmpNo X2.here hx rfl (hb hby d8_17) rfl (XT.ii_eq_f (by decide)) (XS.aloadN X2.here hx rfl (hb hby d8_20) rfl rfl (XS.iloadN X2.here hx rfl (hb hby d8_21) rfl (XS.iloadN X2.here hx rfl (hb hby d8_22) rfl k)))))))) ?_
  obtain ⟨_, _, ⟨T3, L3, k3, n3⟩, -, X3, ⟨Lc3, hQ3, l3, y3, z3⟩, st3⟩ := Jvm.LawKit.callS X2 hx (y := yq22) hown (mvT hZ (own_w hw 98 rfl)) (mvT hZ (own_w hw 99 rfl)) (mvT hZ (own_w hw 40 rfl)) (mvT hZ (own_w hw 100 rfl)) (by decide) (backOf (W := 0) (rmToB1 l Z a0 hw [] a1 kc c0 T2.heap n0 Z2 ((P0.ext E1).keep Kq2 (ninS ne_a1_b1 nin0)) (own_staKeep (P1.ext E1) Kq2 (allS (own_plainV V_b1) all0)) (own_staKeep (P2.ext E1) Kq2 (allS (own_plainV V_b1) all0)) (own_staKeep (P3.ext E1) Kq2 (allS (own_plainV V_b1) all0))) hZ (own_w hw 100 rfl) (own_w hw 40 rfl) (by decide) (by decide)) (g := (mkF m 23 #[rv a1, iv 0, iv 1, rv b1, iv 0, .unset] [.int 1, .int 0, .ref a1])) rfl (by rw [hml]; rfl) (argsL := [(.ref a1), (.int 0), (.int 1)]) (rest := []) (lenOf pd___CII__B rfl) rfl (by show 2 * 0 + _ ≤ _; exact Nat.le_of_eq rfl) (hb hby d8_23) (fun _ _ => ⟨rfl, rfl, (by decide : 1 + 1 ≤ _), (by decide : 1 + 2 ≤ _)⟩)
  dsimp only [Pt.U, Pt.locs, Pt.cells, Pt.slots] at X3 l3 y3 z3 st3 hQ3
  subst l3 y3 z3
  obtain ⟨b_3, kb_3, rfl, Nq3, Kq3, Fq3_0, gb_3⟩ := hQ3
  have Nf3 := Fr.app Nf2 Nq3
  have K3 : Keep h0 T3.heap [] := K2.trans Kq3 all0
  have sz_b_3 : h0.size ≤ b_3 := Nat.le_trans K2.1 gb_3
  have g_b_3 : n0 ≤ b_3 := Nat.le_trans Z2 gb_3
  have ne_a1_b_3 : a1 ≠ b_3 := Nat.ne_of_lt (Nat.lt_of_lt_of_le ((P0.ext E1).keep Kq2 (ninS ne_a1_b1 nin0)).lt gb_3)
  have Z3 : n0 ≤ T3.heap.size := Nat.le_trans Z2 Kq3.1
  refine own_fw (A' := (T3.setTop (mkF m 32 #[rv a1, iv 0, iv 1, rv b1, iv 0, rv b_3] [.int 0, .ref b_3]))) (fun t k => st3 _ (XS.astore X3.here hx rfl (hb hby d8_26) rfl rfl (l' := #[.val (.ref a1), .val (.int 0), .val (.int 1), .val (.ref b1), .val (.int 0), .val (.ref b_3)]) rfl (XS.aload X3.here hx rfl (hb hby d8_28) rfl rfl (XS.iload X3.here hx rfl (hb hby d8_30) rfl k)))) ?_
  obtain ⟨_, _, ⟨T4, L4, k4, n4⟩, -, X4, ⟨Lc4, hQ4, l4, y4, z4⟩, st4⟩ := Jvm.LawKit.callS X3 hx (y := yq23) hown (mvT hZ (own_w hw 114 rfl)) (mvT hZ (own_w hw 115 rfl)) (mvT hZ (own_w hw 40 rfl)) (mvT hZ (own_w hw 116 rfl)) (by decide) (backOf (W := 0) (rmGet10 l Z a0 hw [] b_3 kb_3 ((c0 >>> ((0 : Int32) &&& 31)).toInt8.toInt32) ((c0 >>> ((8 : Int32) &&& 31)).toInt8.toInt32) T3.heap n0 Z3 Fq3_0 (own_staKeep (own_staKeep (P1.ext E1) Kq2 (allS (own_plainV V_b1) all0)) Kq3 all0) (own_staKeep (own_staKeep (P2.ext E1) Kq2 (allS (own_plainV V_b1) all0)) Kq3 all0) (own_staKeep (own_staKeep (P3.ext E1) Kq2 (allS (own_plainV V_b1) all0)) Kq3 all0)) hZ (own_w hw 116 rfl) (own_w hw 40 rfl) (by decide) (by decide)) (g := (mkF m 32 #[rv a1, iv 0, iv 1, rv b1, iv 0, rv b_3] [.int 0, .ref b_3])) rfl (by rw [hml]; rfl) (argsL := [(.ref b_3), (.int 0)]) (rest := []) (lenOf pd___BI_C rfl) rfl (by show 2 * 0 + _ ≤ _; exact Nat.le_of_eq rfl) (hb hby d8_32) (fun _ _ => ⟨rfl, rfl, (by decide : 2 + 0 ≤ _), (by decide : 3 + 0 ≤ _)⟩)
  dsimp only [Pt.U, Pt.locs, Pt.cells, Pt.slots] at X4 l4 y4 z4 st4 hQ4
  subst l4 y4 z4
  obtain ⟨rfl, Nq4, e4⟩ := hQ4
  have Nf4 := Fr.app Nf3 Nq4
  refine own_fw (A' := (T4.setTop (mkF m 56 #[rv a1, iv 0, iv 1, rv b1, iv 0, rv b_3] [.ref b_3]))) (fun t k => st4 _ (XS.sipush X4.here hx rfl (hb hby d8_35) (XS.icmpYes X4.here hx rfl (pc0 := 38) (pc' := 54) rfl (hb hby d8_38) rfl (XT.ii_gt_t (by rw [own_gcc hr0]; exact hc0)) (by decide) (by decide) (XS.aload X4.here hx rfl (hb hby d8_54) rfl rfl k)))) ?_
  obtain ⟨fs, hr, hrun, hended, hW, hsame⟩ := X4.leave (v := some (.ref b_3)) (fun h => by rw [Bd.returns] at h; cases h)
  refine ⟨_, _, ?_, hrun, hended, _, _, rfl, ?_, ⟨_, rfl⟩, hW, hsame.mono (by decide) (by decide)⟩
  · exact retOut X4 hx Bd.returns rfl (Or.inr (Or.inr (Or.inr (Or.inr ⟨rfl, rfl, rfl⟩)))) (hb hby d8_56) hr
  · show Q_rmCmpB1_0 Z a1 kc c0 h0 n0 _ T4.heap _
    rw [e4]
    exact ⟨b_3, kb_3, rfl, Nf4, K3, Fq3_0, sz_b_3⟩
theorem ef_rmStrB1_0 (m : MethodId) (a1 a2 : Addr) : entryFrame m #[(.ref a1), (.ref a2), (.int 0), (.int 1), .null] 6 = mkF m 0 #[.val (.ref a1), .val (.ref a2), .val (.int 0), .val (.int 1), .val .null, .unset] [] := by first | (simp [entryFrame, mkF, argsToLocals, Value.category]; done) | rfl
def Q_rmStrB1_0 (Z : State) (a1 a2 : Addr) (kc : ClassId) (cs c0 : Int32) (h0 : Heap) (n0 : Nat) (v : Option Value) (h : Heap) (L : List Loc) : Prop := ∃ b : Addr, ∃ kb : ClassId, v = none ∧ Fr n0 L ∧ Keep h0 h [a1] ∧ Exa Z h a1 "java/lang/String" ∧ Fld Z h a1 "java/lang/String" "coder" "B" (.int 1) ∧ Fld Z h a1 "java/lang/String" "value" "[B" (.ref b) ∧ Arv Z h b kb .byte (2 : Int32) [(.int ((c0 >>> ((0 : Int32) &&& 31)).toInt8.toInt32)), (.int ((c0 >>> ((8 : Int32) &&& 31)).toInt8.toInt32))] (.int 0)
theorem rmStrB1_0 (l : Launch) (Z : State) (a0 : Array Value) (hw : ∀ d ∈ tables_1, d.before a0 Z = true) (ws : List Jvm.Cond) (a1 a2 : Addr) (kc : ClassId) (cs c0 : Int32) (h0 : Heap) (n0 : Nat) (Z0 : n0 ≤ h0.size) (P0 : Exa Z h0 a1 "java/lang/String") (P1 : Fld Z h0 a1 "java/lang/String" "coder" "B" (.int 0)) (P2 : Fld Z h0 a1 "java/lang/String" "value" "[B" .null) (P3 : Arv Z h0 a2 kc .char (1 : Int32) [(.int c0)] (.int 0)) (g_a1 : n0 ≤ a1) (ne_a1_a2 : a1 ≠ a2) (P6 : Sta Z h0 "java/lang/String" "COMPACT_STRINGS" "Z" (.int cs)) (hcs : ¬ (cs = (0 : Int32))) (P8 : Sta Z h0 "java/lang/StringUTF16" "$assertionsDisabled" "Z" (.int 1)) (P9 : Sta Z h0 "java/lang/StringUTF16" "HI_BYTE_SHIFT" "I" (.int 0)) (P10 : Sta Z h0 "java/lang/StringUTF16" "LO_BYTE_SHIFT" "I" (.int 8)) (hc0 : (255 : Int32) < c0) (hr0 : own_c16 c0) :
    MetFree l yq6 (head1 (Jvm.Cond.code yq6 jdk_42_method_149_code 6 none :: ws) rq25) (fun a U => a = #[(.ref a1), (.ref a2), (.int 0), (.int 1), .null] ∧ Z.Warmed39 U.vm ∧ U.heap = h0) (fun _ _ _ _ _ => True) (fun _ U o U' => ∃ v L, o = .returned v ∧ Q_rmStrB1_0 Z a1 a2 kc cs c0 h0 n0 v U'.heap L ∧ FrameEnd U o U' L rq25.cells rq25.slots) := by
  refine MetFree.of_bodySF (plainFor_of_name pn_java_lang_String) hisR ?_
  intro p e s m args below meth c s₁ Bd hml0 hP hK
  obtain ⟨rfl, hZ, hh⟩ := hP
  have hx := Bd.exec
  have hby := Bd.bytes
  have hml : c.maxLocals = 6 := hml0
  have hown : s.vm.findClass "java/lang/String" = some m.cls := findClass_of_methodNamed Bd.named
  have hnm := (name_of_methodNamed Bd.named Bd.method).1
  have X0 : Stand p l e rq25 s m #[(.ref a1), (.ref a2), (.int 0), (.int 1), .null] below meth c s₁ [] 0 0 := Stand.of_body Bd
  have e0 : s₁.heap = h0 := by rw [← hh, Bd.state]; rfl
  have N0 := Fr.nil n0
  refine own_fw (A' := (s₁.setTop (mkF m 1 #[rv a1, rv a2, iv 0, iv 1, .val (.null), .unset] [.ref a1]))) (fun t k => castTop (ef_rmStrB1_0 m a1 a2) (XS.aloadN X0.here hx rfl (hb hby d7_0) rfl rfl k)) ?_
  obtain ⟨T1, X1, e1, st1⟩ := initO X0 hx hZ hown (own_w hw 36 rfl) (own_w hw 7 rfl) (own_w hw 8 rfl) e0 (g := (mkF m 1 #[rv a1, rv a2, iv 0, iv 1, .val (.null), .unset] [.ref a1])) rfl (by rw [hml]; rfl) rfl (hb hby d7_1) (by decide) (W := 0) (by show 2 * 0 + _ ≤ _; exact Nat.le_of_eq rfl) (by decide)
  refine own_fw (A' := (T1.setTop (mkF m 27 #[rv a1, rv a2, iv 0, iv 1, .val (.null), .unset] []))) (fun t k => st1 _ (XS.iloadN X1.here hx rfl (hb hby d7_4) rfl (XS.ifYes X1.here hx rfl (pc0 := 5) (pc' := 27) rfl (hb hby d7_5) rfl (XT.i0_ne_t (by decide)) (by decide) (by decide) k))) ?_
  obtain ⟨T2, X2, e2, st2⟩ := getS2 X1 hx hZ hown (host := "") (Or.inl (own_w hw 37 rfl)) Via.refl e1 P6 (g := (mkF m 27 #[rv a1, rv a2, iv 0, iv 1, .val (.null), .unset] [])) rfl (hb hby d7_27)
  refine own_fw (A' := (T2.setTop (mkF m 36 #[rv a1, rv a2, iv 0, iv 1, .val (.null), .unset] [.int 1, .int 0, .ref a2]))) (fun t k => st2 _ (XS.ifNo X2.here hx rfl (hb hby d7_30) rfl (XT.i0_eq_f hcs) (XS.aloadN X2.here hx rfl (hb hby d7_33) rfl rfl (XS.iloadN X2.here hx rfl (hb hby d7_34) rfl (XS.iloadN X2.here hx rfl (hb hby d7_35) rfl k))))) ?_
  obtain ⟨_, _, ⟨T3, L3, k3, n3⟩, -, X3, ⟨Lc3, hQ3, l3, y3, z3⟩, st3⟩ := Jvm.LawKit.callS X2 hx (y := yq3) hown (mvT hZ (own_w hw 38 rfl)) (mvT hZ (own_w hw 39 rfl)) (mvT hZ (own_w hw 40 rfl)) (mvT hZ (own_w hw 41 rfl)) (by decide) (backOf (W := 0) (rmCmpB1_0 l Z a0 hw [] a2 kc c0 h0 n0 Z0 P3 P8 P9 P10 hc0 hr0) hZ (own_w hw 41 rfl) (own_w hw 40 rfl) (by decide) (by decide)) (g := (mkF m 36 #[rv a1, rv a2, iv 0, iv 1, .val (.null), .unset] [.int 1, .int 0, .ref a2])) rfl (by rw [hml]; rfl) (argsL := [(.ref a2), (.int 0), (.int 1)]) (rest := []) (lenOf pd___CII__B rfl) rfl (by show 2 * 0 + _ ≤ _; exact Nat.le_of_eq rfl) (hb hby d7_36) (fun _ _ => ⟨rfl, e2, (by decide : 0 + 2 ≤ _), (by decide : 0 + 3 ≤ _)⟩)
  dsimp only [Pt.U, Pt.locs, Pt.cells, Pt.slots] at X3 l3 y3 z3 st3 hQ3
  subst l3 y3 z3
  obtain ⟨b_3, kb_3, rfl, Nq3, Kq3, Fq3_0, gb_3⟩ := hQ3
  have Nf3 := Fr.app N0 Nq3
  have K3 : Keep h0 T3.heap [a1] := (Keep.refl h0 [a1]).trans Kq3 all0
  have sz_b_3 : h0.size ≤ b_3 := Nat.le_trans (Keep.refl h0 [a1]).1 gb_3
  have g_b_3 : n0 ≤ b_3 := Nat.le_trans Z0 gb_3
  have ne_a1_b_3 : a1 ≠ b_3 := Nat.ne_of_lt (Nat.lt_of_lt_of_le P0.lt gb_3)
  have ne_a2_b_3 : a2 ≠ b_3 := Nat.ne_of_lt (Nat.lt_of_lt_of_le P3.lt gb_3)
  have Z3 : n0 ≤ T3.heap.size := Nat.le_trans Z0 Kq3.1
  refine own_fw (A' := (T3.setTop (mkF m 45 #[rv a1, rv a2, iv 0, iv 1, .val (.null), rv b_3] [.int 1, .ref b_3, .ref a1]))) (fun t k => st3 _ (XS.astore X3.here hx rfl (hb hby d7_39) rfl rfl (l' := #[.val (.ref a1), .val (.ref a2), .val (.int 0), .val (.int 1), .val .null, .val (.ref b_3)]) rfl (XS.aloadN X3.here hx rfl (hb hby d7_41) rfl rfl (XS.aload X3.here hx rfl (hb hby d7_42) rfl rfl (XS.iloadN X3.here hx rfl (hb hby d7_44) rfl k))))) ?_
  obtain ⟨_, _, ⟨T4, L4, k4, n4⟩, -, X4, ⟨Lc4, hQ4, l4, y4, z4⟩, st4⟩ := Jvm.LawKit.callS X3 hx (y := yq4) hown (mvT hZ (own_w hw 46 rfl)) (mvT hZ (own_w hw 47 rfl)) (mvT hZ (own_w hw 40 rfl)) (mvT hZ (own_w hw 48 rfl)) (by decide) (backOf (W := 1) (rmCoderU1 l Z a0 hw [] b_3 kb_3 ((c0 >>> ((0 : Int32) &&& 31)).toInt8.toInt32) ((c0 >>> ((8 : Int32) &&& 31)).toInt8.toInt32) T3.heap n0 Z3 Fq3_0) hZ (own_w hw 48 rfl) (own_w hw 40 rfl) (by decide) (by decide)) (g := (mkF m 45 #[rv a1, rv a2, iv 0, iv 1, .val (.null), rv b_3] [.int 1, .ref b_3, .ref a1])) rfl (by rw [hml]; rfl) (argsL := [(.ref b_3), (.int 1)]) (rest := [(.ref a1)]) (lenOf pd___BI_B rfl) rfl (by show 2 * 0 + _ ≤ _; exact Nat.le_of_eq rfl) (hb hby d7_45) (fun _ _ => ⟨rfl, rfl, (by decide : 2 + 0 ≤ _), (by decide : 3 + 0 ≤ _)⟩)
  dsimp only [Pt.U, Pt.locs, Pt.cells, Pt.slots] at X4 l4 y4 z4 st4 hQ4
  subst l4 y4 z4
  obtain ⟨rfl, Nq4, e4⟩ := hQ4
  have Nf4 := Fr.app Nf3 Nq4
  refine own_fw (A' := (T4.setTop (mkF m 48 #[rv a1, rv a2, iv 0, iv 1, .val (.null), rv b_3] [.int 1, .ref a1]))) (fun t k => st4 _ k) ?_
  obtain ⟨T5, h5, X5, e5, W5, st5⟩ := putFN X4 hx hZ hown (own_w hw 49 rfl) Via.refl e4 (P1.keep Kq3 nin0) (P0.keep Kq3) (Or.inr ⟨(own_w hw 50 rfl), rfl, hnm⟩) (own_w hw 26 rfl) (ty := .byte) (v' := (.int 1)) (by decide) rfl rfl (g := (mkF m 48 #[rv a1, rv a2, iv 0, iv 1, .val (.null), rv b_3] [.int 1, .ref a1])) rfl rfl (hb hby d7_48)
  have Fw5 : Fld Z h5 a1 "java/lang/String" "coder" "B" (.int 1) := (P1.keep Kq3 nin0).same W5
  have Nf5 := Fr.snoc X5 Nf4 g_a1
  have K5 : Keep h0 h5 [a1] := K3.wr W5 (Or.inl (List.mem_of_getElem? (i := 0) rfl))
  have Z5 : n0 ≤ h5.size := Nat.le_trans Z3 (Keep.of_wr W5).1
  refine own_fw (A' := (T5.setTop (mkF m 54 #[rv a1, rv a2, iv 0, iv 1, .val (.null), rv b_3] [.ref b_3, .ref a1]))) (fun t k => st5 _ (XS.aloadN X5.here hx rfl (hb hby d7_51) rfl rfl (XS.aload X5.here hx rfl (hb hby d7_52) rfl rfl k))) ?_
  obtain ⟨T6, h6, X6, e6, W6, st6⟩ := putF X5 hx hZ hown (host := "") (Or.inl (own_w hw 51 rfl)) Via.refl e5 ((P2.keep Kq3 nin0).other W5 (Or.inr (slot_ne (Or.inr (own_w hw 52 rfl)) (Or.inr (own_w hw 50 rfl)) (by decide) (t := (.array .byte)) (t' := .byte) (by decide) (by decide)))) ((P0.keep Kq3).wr W5) (Or.inr ⟨(own_w hw 52 rfl), rfl, hnm⟩) (own_w hw 26 rfl) (ty := (.array .byte)) (by decide) rfl rfl (g := (mkF m 54 #[rv a1, rv a2, iv 0, iv 1, .val (.null), rv b_3] [.ref b_3, .ref a1])) rfl rfl (hb hby d7_54)
  have Fw6 : Fld Z h6 a1 "java/lang/String" "value" "[B" (.ref b_3) := ((P2.keep Kq3 nin0).other W5 (Or.inr (slot_ne (Or.inr (own_w hw 52 rfl)) (Or.inr (own_w hw 50 rfl)) (by decide) (t := (.array .byte)) (t' := .byte) (by decide) (by decide)))).same W6
  have Nf6 := Fr.snoc X6 Nf5 g_a1
  have K6 : Keep h0 h6 [a1] := K5.wr W6 (Or.inl (List.mem_of_getElem? (i := 0) rfl))
  have Z6 : n0 ≤ h6.size := Nat.le_trans Z5 (Keep.of_wr W6).1
  refine own_fw (A' := (T6.setTop (mkF m 57 #[rv a1, rv a2, iv 0, iv 1, .val (.null), rv b_3] []))) (fun t k => st6 _ k) ?_
  obtain ⟨fs, hr, hrun, hended, hW, hsame⟩ := X6.leave (v := none) (fun _ => rfl)
  refine ⟨_, _, ?_, hrun, hended, _, _, rfl, ?_, ⟨_, rfl⟩, hW, hsame.mono (by decide) (by decide)⟩
  · exact X6.returnOut hx Bd.returns (hb hby d7_57) hr
  · show Q_rmStrB1_0 Z a1 a2 kc cs c0 h0 n0 _ T6.heap _
    rw [e6]
    exact ⟨b_3, kb_3, rfl, Nf6, K6, (((P0.keep Kq3).wr W5).wr W6), (Fw5.other W6 (Or.inr (slot_ne (Or.inr (own_w hw 50 rfl)) (Or.inr (own_w hw 52 rfl)) (by decide) (t := .byte) (t' := (.array .byte)) (by decide) (by decide)))), Fw6, ((Fq3_0.other W5 (Ne.symm ne_a1_b_3)).other W6 (Ne.symm ne_a1_b_3))⟩
theorem ef_rmStrA1_0 (m : MethodId) (a1 a2 : Addr) : entryFrame m #[(.ref a1), (.ref a2)] 2 = mkF m 0 #[.val (.ref a1), .val (.ref a2)] [] := by first | (simp [entryFrame, mkF, argsToLocals, Value.category]; done) | rfl
def Q_rmStrA1_0 (Z : State) (a1 a2 : Addr) (kc : ClassId) (cs c0 : Int32) (h0 : Heap) (n0 : Nat) (v : Option Value) (h : Heap) (L : List Loc) : Prop := ∃ b : Addr, ∃ kb : ClassId, v = none ∧ Fr n0 L ∧ Keep h0 h [a1] ∧ Exa Z h a1 "java/lang/String" ∧ Fld Z h a1 "java/lang/String" "coder" "B" (.int 1) ∧ Fld Z h a1 "java/lang/String" "value" "[B" (.ref b) ∧ Arv Z h b kb .byte (2 : Int32) [(.int ((c0 >>> ((0 : Int32) &&& 31)).toInt8.toInt32)), (.int ((c0 >>> ((8 : Int32) &&& 31)).toInt8.toInt32))] (.int 0)
theorem rmStrA1_0 (l : Launch) (Z : State) (a0 : Array Value) (hw : ∀ d ∈ tables_1, d.before a0 Z = true) (ws : List Jvm.Cond) (a1 a2 : Addr) (kc : ClassId) (cs c0 : Int32) (h0 : Heap) (n0 : Nat) (Z0 : n0 ≤ h0.size) (P0 : Exa Z h0 a1 "java/lang/String") (P1 : Fld Z h0 a1 "java/lang/String" "coder" "B" (.int 0)) (P2 : Fld Z h0 a1 "java/lang/String" "value" "[B" .null) (P3 : Arv Z h0 a2 kc .char (1 : Int32) [(.int c0)] (.int 0)) (g_a1 : n0 ≤ a1) (ne_a1_a2 : a1 ≠ a2) (P6 : Sta Z h0 "java/lang/String" "COMPACT_STRINGS" "Z" (.int cs)) (hcs : ¬ (cs = (0 : Int32))) (P8 : Sta Z h0 "java/lang/StringUTF16" "$assertionsDisabled" "Z" (.int 1)) (P9 : Sta Z h0 "java/lang/StringUTF16" "HI_BYTE_SHIFT" "I" (.int 0)) (P10 : Sta Z h0 "java/lang/StringUTF16" "LO_BYTE_SHIFT" "I" (.int 8)) (hc0 : (255 : Int32) < c0) (hr0 : own_c16 c0) :
    MetFree l yq8 (head1 (Jvm.Cond.code yq8 jdk_42_method_3_code 2 none :: ws) rq26) (fun a U => a = #[(.ref a1), (.ref a2)] ∧ Z.Warmed39 U.vm ∧ U.heap = h0) (fun _ _ _ _ _ => True) (fun _ U o U' => ∃ v L, o = .returned v ∧ Q_rmStrA1_0 Z a1 a2 kc cs c0 h0 n0 v U'.heap L ∧ FrameEnd U o U' L rq26.cells rq26.slots) := by
  refine MetFree.of_bodySF (plainFor_of_name pn_java_lang_String) hisR ?_
  intro p e s m args below meth c s₁ Bd hml0 hP hK
  obtain ⟨rfl, hZ, hh⟩ := hP
  have hx := Bd.exec
  have hby := Bd.bytes
  have hml : c.maxLocals = 2 := hml0
  have hown : s.vm.findClass "java/lang/String" = some m.cls := findClass_of_methodNamed Bd.named
  have hnm := (name_of_methodNamed Bd.named Bd.method).1
  have X0 : Stand p l e rq26 s m #[(.ref a1), (.ref a2)] below meth c s₁ [] 0 0 := Stand.of_body Bd
  have e0 : s₁.heap = h0 := by rw [← hh, Bd.state]; rfl
  have N0 := Fr.nil n0
  refine own_fw (A' := (s₁.setTop (mkF m 4 #[rv a1, rv a2] [.ref a2, .int 0, .ref a2, .ref a1]))) (fun t k => castTop (ef_rmStrA1_0 m a1 a2) (XS.aloadN X0.here hx rfl (hb hby d6_0) rfl rfl (XS.aloadN X0.here hx rfl (hb hby d6_1) rfl rfl (XS.iconst X0.here hx rfl (hb hby d6_2) (XS.aloadN X0.here hx rfl (hb hby d6_3) rfl rfl k))))) ?_
  obtain ⟨cl1, Ar1, q1, S1, M1, H1, G1⟩ := id P3
  refine own_fw (A' := (s₁.setTop (mkF m 5 #[rv a1, rv a2] [.int 1, .int 0, .ref a2, .ref a1]))) (fun t k => X0.arraylength hx (by rw [e0]; exact Ar1.1) (State.isArrayOf_alike hZ.alike Ar1.2.1) (g := (mkF m 4 #[rv a1, rv a2] [.ref a2, .int 0, .ref a2, .ref a1])) rfl rfl (hb hby d6_4) _ (by rw [len_of S1 M1]; exact k)) ?_
  refine own_fw (A' := (s₁.setTop (mkF m 6 #[rv a1, rv a2] [.null, .int 1, .int 0, .ref a2, .ref a1]))) (fun t k => XS.aconstNull X0.here hx rfl (hb hby d6_5) k) ?_
  obtain ⟨_, _, ⟨T2, L2, k2, n2⟩, -, X2, ⟨Lc2, hQ2, l2, y2, z2⟩, st2⟩ := X0.specialBack hx (y := yq6) rfl hown (mvT hZ (own_w hw 32 rfl)) (mvT hZ (own_w hw 33 rfl)) (mvT hZ (own_w hw 35 rfl)) (by decide) (backOf (W := 0) (rmStrB1_0 l Z a0 hw [] a1 a2 kc cs c0 h0 n0 Z0 P0 P1 P2 P3 g_a1 ne_a1_a2 P6 hcs P8 P9 P10 hc0 hr0) hZ (own_w hw 35 rfl) (own_w hw 27 rfl) (by decide) (by decide)) (g := (mkF m 6 #[rv a1, rv a2] [.null, .int 1, .int 0, .ref a2, .ref a1])) rfl (by rw [hml]; rfl) (Steps.refl _) (a := a1) (argsL := [(.ref a2), (.int 0), (.int 1), .null]) (rest := []) (lenOf pd___CIILjava_lang_Void__V rfl) rfl (by show 2 * 0 + _ ≤ _; exact Nat.le_of_eq rfl) (hb hby d6_6) (fun _ _ => ⟨rfl, e0, (by decide : 0 + 2 ≤ _), (by decide : 0 + 3 ≤ _)⟩)
  dsimp only [Pt.U, Pt.locs, Pt.cells, Pt.slots] at X2 l2 y2 z2 st2 hQ2
  subst l2 y2 z2
  obtain ⟨b_2, kb_2, rfl, Nq2, Kq2, Fq2_0, Fq2_1, Fq2_2, Fq2_3⟩ := hQ2
  have Nf2 := Fr.app N0 Nq2
  have K2 : Keep h0 T2.heap [a1] := (Keep.refl h0 [a1]).trans Kq2 (allS (Or.inl (List.mem_of_getElem? (i := 0) rfl)) all0)
  have Z2 : n0 ≤ T2.heap.size := Nat.le_trans Z0 Kq2.1
  refine own_fw (A' := (T2.setTop (mkF m 9 #[rv a1, rv a2] []))) (fun t k => st2.trans k) ?_
  obtain ⟨fs, hr, hrun, hended, hW, hsame⟩ := X2.leave (v := none) (fun _ => rfl)
  refine ⟨_, _, ?_, hrun, hended, _, _, rfl, ?_, ⟨_, rfl⟩, hW, hsame.mono (by decide) (by decide)⟩
  · exact X2.returnOut hx Bd.returns (hb hby d6_9) hr
  · show Q_rmStrA1_0 Z a1 a2 kc cs c0 h0 n0 _ T2.heap _
    exact ⟨b_2, kb_2, rfl, Nf2, K2, Fq2_0, Fq2_1, Fq2_2, Fq2_3⟩
theorem ef_rmNBL2 (m : MethodId) : entryFrame m #[(.int 2)] 1 = mkF m 0 #[.val (.int 2)] [] := by first | (simp [entryFrame, mkF, argsToLocals, Value.category]; done) | rfl
def Q_rmNBL2 (Z : State) (h0 : Heap) (n0 : Nat) (v : Option Value) (h : Heap) (L : List Loc) : Prop := v = some (.int 4) ∧ Fr n0 L ∧ h = h0
theorem rmNBL2 (l : Launch) (Z : State) (a0 : Array Value) (hw : ∀ d ∈ tables_1, d.before a0 Z = true) (ws : List Jvm.Cond) (h0 : Heap) (n0 : Nat) (Z0 : n0 ≤ h0.size)  :
    MetFree l yq17 (head1 (Jvm.Cond.code yq17 jdk_52_method_3_code 1 (some .int) :: ws) rq0) (fun a U => a = #[(.int 2)] ∧ Z.Warmed39 U.vm ∧ U.heap = h0) (fun _ _ _ _ _ => True) (fun _ U o U' => ∃ v L, o = .returned v ∧ Q_rmNBL2 Z  h0 n0 v U'.heap L ∧ FrameEnd U o U' L rq0.cells rq0.slots) := by
  refine MetFree.of_bodySF (plainFor_of_name pn_java_lang_StringUTF16) hisR ?_
  intro p e s m args below meth c s₁ Bd hml0 hP hK
  obtain ⟨rfl, hZ, hh⟩ := hP
  have hx := Bd.exec
  have hby := Bd.bytes
  have hml : c.maxLocals = 1 := hml0
  have hown : s.vm.findClass "java/lang/StringUTF16" = some m.cls := findClass_of_methodNamed Bd.named
  have hnm := (name_of_methodNamed Bd.named Bd.method).1
  have X0 : Stand p l e rq0 s m #[(.int 2)] below meth c s₁ [] 0 0 := Stand.of_body Bd
  have e0 : s₁.heap = h0 := by rw [← hh, Bd.state]; rfl
  have N0 := Fr.nil n0
  refine own_fw (A' := (s₁.setTop (mkF m 58 #[iv 2] [.int 4]))) (fun t k => castTop (ef_rmNBL2 m) (XS.iloadN X0.here hx rfl (hb hby d22_0) rfl (XS.ifYes X0.here hx rfl (pc0 := 1) (pc' := 12) rfl (hb hby d22_1) rfl (XT.i0_ge_t (by decide)) (by decide) (by decide) (XS.iloadN X0.here hx rfl (hb hby d22_12) rfl (X0.ldcInt hx hown (mvT hZ (own_w hw 107 rfl)) (g := (mkF m 13 #[iv 2] [.int 2])) rfl (hb hby d22_13) _ (XS.icmpYes X0.here hx rfl (pc0 := 15) (pc' := 55) rfl (hb hby d22_15) rfl (XT.ii_lt_t (by decide)) (by decide) (by decide) (XS.iloadN X0.here hx rfl (hb hby d22_55) rfl (XS.iconst X0.here hx rfl (hb hby d22_56) (XS.ishl X0.here hx rfl (hb hby d22_57) rfl k))))))))) ?_
  obtain ⟨fs, hr, hrun, hended, hW, hsame⟩ := X0.leave (v := some (.int 4)) (fun h => by rw [Bd.returns] at h; cases h)
  refine ⟨_, _, ?_, hrun, hended, _, _, rfl, ?_, ⟨_, rfl⟩, hW, hsame.mono (by decide) (by decide)⟩
  · exact retOut X0 hx Bd.returns rfl (Or.inl ⟨rfl, by simp, _, rfl⟩) (hb hby d22_58) hr
  · show Q_rmNBL2 Z  h0 n0 _ s₁.heap _
    rw [e0]
    exact ⟨rfl, N0, rfl⟩
theorem ef_rmNBF2 (m : MethodId) : entryFrame m #[(.int 2)] 1 = mkF m 0 #[.val (.int 2)] [] := by first | (simp [entryFrame, mkF, argsToLocals, Value.category]; done) | rfl
def Q_rmNBF2 (Z : State) (h0 : Heap) (n0 : Nat) (v : Option Value) (h : Heap) (L : List Loc) : Prop := ∃ b : Addr, ∃ kb : ClassId, v = some (.ref b) ∧ Fr n0 L ∧ Keep h0 h [] ∧ Arv Z h b kb .byte (4 : Int32) [(.int 0), (.int 0), (.int 0), (.int 0)] (.int 0) ∧ (h0.size ≤ b)
theorem rmNBF2 (l : Launch) (Z : State) (a0 : Array Value) (hw : ∀ d ∈ tables_1, d.before a0 Z = true) (ws : List Jvm.Cond) (h0 : Heap) (n0 : Nat) (Z0 : n0 ≤ h0.size)  :
    MetFree l yq19 (head1 (Jvm.Cond.code yq19 jdk_52_method_2_code 1 (some (.array .byte)) :: ws) rq27) (fun a U => a = #[(.int 2)] ∧ Z.Warmed39 U.vm ∧ U.heap = h0) (fun _ _ _ _ _ => True) (fun _ U o U' => ∃ v L, o = .returned v ∧ Q_rmNBF2 Z  h0 n0 v U'.heap L ∧ FrameEnd U o U' L rq27.cells rq27.slots) := by
  refine MetFree.of_bodySF (plainFor_of_name pn_java_lang_StringUTF16) hisR ?_
  intro p e s m args below meth c s₁ Bd hml0 hP hK
  obtain ⟨rfl, hZ, hh⟩ := hP
  have hx := Bd.exec
  have hby := Bd.bytes
  have hml : c.maxLocals = 1 := hml0
  have hown : s.vm.findClass "java/lang/StringUTF16" = some m.cls := findClass_of_methodNamed Bd.named
  have hnm := (name_of_methodNamed Bd.named Bd.method).1
  have X0 : Stand p l e rq27 s m #[(.int 2)] below meth c s₁ [] 0 0 := Stand.of_body Bd
  have e0 : s₁.heap = h0 := by rw [← hh, Bd.state]; rfl
  have N0 := Fr.nil n0
  refine own_fw (A' := (s₁.setTop (mkF m 1 #[iv 2] [.int 2]))) (fun t k => castTop (ef_rmNBF2 m) (XS.iloadN X0.here hx rfl (hb hby d21_0) rfl k)) ?_
  obtain ⟨_, _, ⟨T1, L1, k1, n1⟩, -, X1, ⟨Lc1, hQ1, l1, y1, z1⟩, st1⟩ := Jvm.LawKit.callS X0 hx (y := yq17) hown (mvT hZ (own_w hw 104 rfl)) (mvT hZ (own_w hw 105 rfl)) (mvT hZ (own_w hw 40 rfl)) (mvT hZ (own_w hw 106 rfl)) (by decide) (backOf (W := 0) (rmNBL2 l Z a0 hw []  h0 n0 Z0 ) hZ (own_w hw 106 rfl) (own_w hw 40 rfl) (by decide) (by decide)) (g := (mkF m 1 #[iv 2] [.int 2])) rfl (by rw [hml]; rfl) (argsL := [(.int 2)]) (rest := []) (lenOf pd__I_I rfl) rfl (by show 2 * 0 + _ ≤ _; exact Nat.le_of_eq rfl) (hb hby d21_1) (fun _ _ => ⟨rfl, e0, (by decide : 0 + 0 ≤ _), (by decide : 0 + 0 ≤ _)⟩)
  dsimp only [Pt.U, Pt.locs, Pt.cells, Pt.slots] at X1 l1 y1 z1 st1 hQ1
  subst l1 y1 z1
  obtain ⟨rfl, Nq1, e1⟩ := hQ1
  have Nf1 := Fr.app N0 Nq1
  refine own_fw (A' := (T1.setTop (mkF m 4 #[iv 2] [.int 4]))) (fun t k => st1 _ k) ?_
  obtain ⟨T2, h2, k2, X2, e2, E2, A2, st2⟩ := newP X1 hx hZ (own_w hw 42 rfl) e1 (g := (mkF m 4 #[iv 2] [.int 4])) rfl (hb hby d21_4) rfl (by decide) (cap := 4) (by decide) (by decide) (by decide) (by decide)
  obtain ⟨b2, gb2⟩ : ∃ z, z = h0.size := ⟨_, rfl⟩
  have g_b2 : n0 ≤ b2 := Nat.le_trans Z0 (Nat.le_of_eq gb2.symm)
  have sz_b2 : h0.size ≤ b2 := Nat.le_trans (Keep.refl h0 []).1 (Nat.le_of_eq gb2.symm)
  rw [← gb2] at A2 st2
  have V_b2 : Arv Z h2 b2 k2 .byte (4 : Int32) [(.int 0), (.int 0), (.int 0), (.int 0)] (.int 0) := (Arv.new A2 (by decide)).pad (pad_rep [] (.int 0) 4)
  have K2 : Keep h0 h2 [] := (Keep.refl h0 []).ext E2
  have Z2 : n0 ≤ h2.size := Nat.le_trans Z0 E2.1
  refine own_fw (A' := (T2.setTop (mkF m 6 #[iv 2] [.ref b2]))) (fun t k => st2 _ k) ?_
  obtain ⟨fs, hr, hrun, hended, hW, hsame⟩ := X2.leave (v := some (.ref b2)) (fun h => by rw [Bd.returns] at h; cases h)
  refine ⟨_, _, ?_, hrun, hended, _, _, rfl, ?_, ⟨_, rfl⟩, hW, hsame.mono (by decide) (by decide)⟩
  · exact retOut X2 hx Bd.returns rfl (Or.inr (Or.inr (Or.inr (Or.inr ⟨rfl, rfl, rfl⟩)))) (hb hby d21_6) hr
  · show Q_rmNBF2 Z  h0 n0 _ T2.heap _
    rw [e2]
    exact ⟨b2, k2, rfl, Nf1, K2, V_b2, sz_b2⟩
theorem ef_rmPut20 (m : MethodId) (a1 : Addr) (c0 : Int32) : entryFrame m #[(.ref a1), (.int 0), (.int c0)] 3 = mkF m 0 #[.val (.ref a1), .val (.int 0), .val (.int c0)] [] := by first | (simp [entryFrame, mkF, argsToLocals, Value.category]; done) | rfl
def Q_rmPut20 (Z : State) (a1 : Addr) (kb : ClassId) (c0 x0 x1 x2 x3 : Int32) (h0 : Heap) (n0 : Nat) (v : Option Value) (h : Heap) (L : List Loc) : Prop := v = none ∧ Fr n0 L ∧ Keep h0 h [a1] ∧ Arv Z h a1 kb .byte (4 : Int32) [(.int ((c0 >>> ((0 : Int32) &&& 31)).toInt8.toInt32)), (.int ((c0 >>> ((8 : Int32) &&& 31)).toInt8.toInt32)), (.int x2), (.int x3)] (.int 0)
theorem rmPut20 (l : Launch) (Z : State) (a0 : Array Value) (hw : ∀ d ∈ tables_1, d.before a0 Z = true) (ws : List Jvm.Cond) (a1 : Addr) (kb : ClassId) (c0 x0 x1 x2 x3 : Int32) (h0 : Heap) (n0 : Nat) (Z0 : n0 ≤ h0.size) (P0 : Arv Z h0 a1 kb .byte (4 : Int32) [(.int x0), (.int x1), (.int x2), (.int x3)] (.int 0)) (g_a1 : n0 ≤ a1) (P2 : Sta Z h0 "java/lang/StringUTF16" "$assertionsDisabled" "Z" (.int 1)) (P3 : Sta Z h0 "java/lang/StringUTF16" "HI_BYTE_SHIFT" "I" (.int 0)) (P4 : Sta Z h0 "java/lang/StringUTF16" "LO_BYTE_SHIFT" "I" (.int 8)) :
    MetFree l yq20 (head1 (Jvm.Cond.code yq20 jdk_52_method_4_code 3 none :: ws) rq0) (fun a U => a = #[(.ref a1), (.int 0), (.int c0)] ∧ Z.Warmed39 U.vm ∧ U.heap = h0) (fun _ _ _ _ _ => True) (fun _ U o U' => ∃ v L, o = .returned v ∧ Q_rmPut20 Z a1 kb c0 x0 x1 x2 x3 h0 n0 v U'.heap L ∧ FrameEnd U o U' L rq0.cells rq0.slots) := by
  refine MetFree.of_bodySF (plainFor_of_name pn_java_lang_StringUTF16) hisR ?_
  intro p e s m args below meth c s₁ Bd hml0 hP hK
  obtain ⟨rfl, hZ, hh⟩ := hP
  have hx := Bd.exec
  have hby := Bd.bytes
  have hml : c.maxLocals = 3 := hml0
  have hown : s.vm.findClass "java/lang/StringUTF16" = some m.cls := findClass_of_methodNamed Bd.named
  have hnm := (name_of_methodNamed Bd.named Bd.method).1
  have X0 : Stand p l e rq0 s m #[(.ref a1), (.int 0), (.int c0)] below meth c s₁ [] 0 0 := Stand.of_body Bd
  have e0 : s₁.heap = h0 := by rw [← hh, Bd.state]; rfl
  have N0 := Fr.nil n0
  refine own_fw (A' := (s₁.setTop (mkF m 0 #[.val (.ref a1), .val (.int 0), .val (.int c0)] []))) (fun t k => castTop (ef_rmPut20 m a1 c0) k) ?_
  obtain ⟨T1, X1, e1, st1⟩ := getS2 X0 hx hZ hown (host := "") (Or.inl (own_w hw 111 rfl)) Via.refl e0 P2 (g := (mkF m 0 #[rv a1, iv 0, iv c0] [])) rfl (hb hby d23_0)
  refine own_fw (A' := (T1.setTop (mkF m 38 #[rv a1, iv 1, iv c0] [.int c0, .int 0, .ref a1]))) (fun t k => st1 _ (XS.ifYes X1.here hx rfl (pc0 := 3) (pc' := 28) rfl (hb hby d23_3) rfl (XT.i0_ne_t (by decide)) (by decide) (by decide) (XS.iloadN X1.here hx rfl (hb hby d23_28) rfl (XS.iconst X1.here hx rfl (hb hby d23_29) (XS.ishl X1.here hx rfl (hb hby d23_30) rfl (XS.istoreN X1.here hx rfl (hb hby d23_31) rfl (l' := #[.val (.ref a1), .val (.int 0), .val (.int c0)]) rfl (XS.aloadN X1.here hx rfl (hb hby d23_32) rfl rfl (XS.iloadN X1.here hx rfl (hb hby d23_33) rfl (XS.iinc X1.here hx rfl (hb hby d23_34) rfl (l' := #[.val (.ref a1), .val (.int 1), .val (.int c0)]) rfl (XS.iloadN X1.here hx rfl (hb hby d23_37) rfl k)))))))))) ?_
  obtain ⟨T2, X2, e2, st2⟩ := getS2 X1 hx hZ hown (host := "") (Or.inl (own_w hw 112 rfl)) Via.refl e1 P3 (g := (mkF m 38 #[rv a1, iv 1, iv c0] [.int c0, .int 0, .ref a1])) rfl (hb hby d23_38)
  refine own_fw (A' := (T2.setTop (mkF m 43 #[rv a1, iv 1, iv c0] [.int ((c0 >>> ((0 : Int32) &&& 31)).toInt8.toInt32), .int 0, .ref a1]))) (fun t k => st2 _ (XS.ishr X2.here hx rfl (hb hby d23_41) rfl (XS.i2b X2.here hx rfl (hb hby d23_42) rfl k))) ?_
  obtain ⟨cl3, Ar3, q3, S3, M3, H3, G3⟩ := id P0
  have hin3 : ¬ ((0 : Int32) < 0 ∨ cl3.slots.size ≤ ((0 : Int32)).toNatClampNeg) := inb_of S3 ⟨by decide, by decide⟩
  obtain ⟨T3, h3, X3, e3, W3, st3⟩ := stB X2 hx hZ e2 Ar3 (j := (0 : Int32)) hin3 (g := (mkF m 43 #[rv a1, iv 1, iv c0] [.int ((c0 >>> ((0 : Int32) &&& 31)).toInt8.toInt32), .int 0, .ref a1])) rfl rfl (hb hby d23_43)
  rw [own_narB] at W3
  have V3 : Arv Z h3 a1 kb .byte (4 : Int32) [(.int ((c0 >>> ((0 : Int32) &&& 31)).toInt8.toInt32)), (.int x1), (.int x2), (.int x3)] (.int 0) := Arv.set Ar3 q3 S3 M3 H3 G3 (fits_nar_byte _) W3 0 rfl (Nat.le_of_ble_eq_true rfl)
  have Nf3 := Fr.snoc X3 N0 g_a1
  have K3 : Keep h0 h3 [a1] := (Keep.refl h0 [a1]).wr W3 (Or.inl (List.mem_of_getElem? (i := 0) rfl))
  have Z3 : n0 ≤ h3.size := Nat.le_trans Z0 (Keep.of_wr W3).1
  refine own_fw (A' := (T3.setTop (mkF m 47 #[rv a1, iv 1, iv c0] [.int c0, .int 1, .ref a1]))) (fun t k => st3 _ (XS.aloadN X3.here hx rfl (hb hby d23_44) rfl rfl (XS.iloadN X3.here hx rfl (hb hby d23_45) rfl (XS.iloadN X3.here hx rfl (hb hby d23_46) rfl k)))) ?_
  obtain ⟨T4, X4, e4, st4⟩ := getS2 X3 hx hZ hown (host := "") (Or.inl (own_w hw 113 rfl)) Via.refl e3 (P4.wr W3) (g := (mkF m 47 #[rv a1, iv 1, iv c0] [.int c0, .int 1, .ref a1])) rfl (hb hby d23_47)
  refine own_fw (A' := (T4.setTop (mkF m 52 #[rv a1, iv 1, iv c0] [.int ((c0 >>> ((8 : Int32) &&& 31)).toInt8.toInt32), .int 1, .ref a1]))) (fun t k => st4 _ (XS.ishr X4.here hx rfl (hb hby d23_50) rfl (XS.i2b X4.here hx rfl (hb hby d23_51) rfl k))) ?_
  obtain ⟨cl5, Ar5, q5, S5, M5, H5, G5⟩ := id V3
  have hin5 : ¬ ((1 : Int32) < 0 ∨ cl5.slots.size ≤ ((1 : Int32)).toNatClampNeg) := inb_of S5 ⟨by decide, by decide⟩
  obtain ⟨T5, h5, X5, e5, W5, st5⟩ := stB X4 hx hZ e4 Ar5 (j := (1 : Int32)) hin5 (g := (mkF m 52 #[rv a1, iv 1, iv c0] [.int ((c0 >>> ((8 : Int32) &&& 31)).toInt8.toInt32), .int 1, .ref a1])) rfl rfl (hb hby d23_52)
  rw [own_narB] at W5
  have V5 : Arv Z h5 a1 kb .byte (4 : Int32) [(.int ((c0 >>> ((0 : Int32) &&& 31)).toInt8.toInt32)), (.int ((c0 >>> ((8 : Int32) &&& 31)).toInt8.toInt32)), (.int x2), (.int x3)] (.int 0) := Arv.set Ar5 q5 S5 M5 H5 G5 (fits_nar_byte _) W5 1 rfl (Nat.le_of_ble_eq_true rfl)
  have Nf5 := Fr.snoc X5 Nf3 g_a1
  have K5 : Keep h0 h5 [a1] := K3.wr W5 (Or.inl (List.mem_of_getElem? (i := 0) rfl))
  have Z5 : n0 ≤ h5.size := Nat.le_trans Z3 (Keep.of_wr W5).1
  refine own_fw (A' := (T5.setTop (mkF m 53 #[rv a1, iv 1, iv c0] []))) (fun t k => st5 _ k) ?_
  obtain ⟨fs, hr, hrun, hended, hW, hsame⟩ := X5.leave (v := none) (fun _ => rfl)
  refine ⟨_, _, ?_, hrun, hended, _, _, rfl, ?_, ⟨_, rfl⟩, hW, hsame.mono (by decide) (by decide)⟩
  · exact X5.returnOut hx Bd.returns (hb hby d23_53) hr
  · show Q_rmPut20 Z a1 kb c0 x0 x1 x2 x3 h0 n0 _ T5.heap _
    rw [e5]
    exact ⟨rfl, Nf5, K5, V5⟩
theorem ef_rmPut21 (m : MethodId) (a1 : Addr) (c0 : Int32) : entryFrame m #[(.ref a1), (.int 1), (.int c0)] 3 = mkF m 0 #[.val (.ref a1), .val (.int 1), .val (.int c0)] [] := by first | (simp [entryFrame, mkF, argsToLocals, Value.category]; done) | rfl
def Q_rmPut21 (Z : State) (a1 : Addr) (kb : ClassId) (c0 x0 x1 x2 x3 : Int32) (h0 : Heap) (n0 : Nat) (v : Option Value) (h : Heap) (L : List Loc) : Prop := v = none ∧ Fr n0 L ∧ Keep h0 h [a1] ∧ Arv Z h a1 kb .byte (4 : Int32) [(.int x0), (.int x1), (.int ((c0 >>> ((0 : Int32) &&& 31)).toInt8.toInt32)), (.int ((c0 >>> ((8 : Int32) &&& 31)).toInt8.toInt32))] (.int 0)
theorem rmPut21 (l : Launch) (Z : State) (a0 : Array Value) (hw : ∀ d ∈ tables_1, d.before a0 Z = true) (ws : List Jvm.Cond) (a1 : Addr) (kb : ClassId) (c0 x0 x1 x2 x3 : Int32) (h0 : Heap) (n0 : Nat) (Z0 : n0 ≤ h0.size) (P0 : Arv Z h0 a1 kb .byte (4 : Int32) [(.int x0), (.int x1), (.int x2), (.int x3)] (.int 0)) (g_a1 : n0 ≤ a1) (P2 : Sta Z h0 "java/lang/StringUTF16" "$assertionsDisabled" "Z" (.int 1)) (P3 : Sta Z h0 "java/lang/StringUTF16" "HI_BYTE_SHIFT" "I" (.int 0)) (P4 : Sta Z h0 "java/lang/StringUTF16" "LO_BYTE_SHIFT" "I" (.int 8)) :
    MetFree l yq20 (head1 (Jvm.Cond.code yq20 jdk_52_method_4_code 3 none :: ws) rq0) (fun a U => a = #[(.ref a1), (.int 1), (.int c0)] ∧ Z.Warmed39 U.vm ∧ U.heap = h0) (fun _ _ _ _ _ => True) (fun _ U o U' => ∃ v L, o = .returned v ∧ Q_rmPut21 Z a1 kb c0 x0 x1 x2 x3 h0 n0 v U'.heap L ∧ FrameEnd U o U' L rq0.cells rq0.slots) := by
  refine MetFree.of_bodySF (plainFor_of_name pn_java_lang_StringUTF16) hisR ?_
  intro p e s m args below meth c s₁ Bd hml0 hP hK
  obtain ⟨rfl, hZ, hh⟩ := hP
  have hx := Bd.exec
  have hby := Bd.bytes
  have hml : c.maxLocals = 3 := hml0
  have hown : s.vm.findClass "java/lang/StringUTF16" = some m.cls := findClass_of_methodNamed Bd.named
  have hnm := (name_of_methodNamed Bd.named Bd.method).1
  have X0 : Stand p l e rq0 s m #[(.ref a1), (.int 1), (.int c0)] below meth c s₁ [] 0 0 := Stand.of_body Bd
  have e0 : s₁.heap = h0 := by rw [← hh, Bd.state]; rfl
  have N0 := Fr.nil n0
  refine own_fw (A' := (s₁.setTop (mkF m 0 #[.val (.ref a1), .val (.int 1), .val (.int c0)] []))) (fun t k => castTop (ef_rmPut21 m a1 c0) k) ?_
  obtain ⟨T1, X1, e1, st1⟩ := getS2 X0 hx hZ hown (host := "") (Or.inl (own_w hw 111 rfl)) Via.refl e0 P2 (g := (mkF m 0 #[rv a1, iv 1, iv c0] [])) rfl (hb hby d23_0)
  refine own_fw (A' := (T1.setTop (mkF m 38 #[rv a1, iv 3, iv c0] [.int c0, .int 2, .ref a1]))) (fun t k => st1 _ (XS.ifYes X1.here hx rfl (pc0 := 3) (pc' := 28) rfl (hb hby d23_3) rfl (XT.i0_ne_t (by decide)) (by decide) (by decide) (XS.iloadN X1.here hx rfl (hb hby d23_28) rfl (XS.iconst X1.here hx rfl (hb hby d23_29) (XS.ishl X1.here hx rfl (hb hby d23_30) rfl (XS.istoreN X1.here hx rfl (hb hby d23_31) rfl (l' := #[.val (.ref a1), .val (.int 2), .val (.int c0)]) rfl (XS.aloadN X1.here hx rfl (hb hby d23_32) rfl rfl (XS.iloadN X1.here hx rfl (hb hby d23_33) rfl (XS.iinc X1.here hx rfl (hb hby d23_34) rfl (l' := #[.val (.ref a1), .val (.int 3), .val (.int c0)]) rfl (XS.iloadN X1.here hx rfl (hb hby d23_37) rfl k)))))))))) ?_
  obtain ⟨T2, X2, e2, st2⟩ := getS2 X1 hx hZ hown (host := "") (Or.inl (own_w hw 112 rfl)) Via.refl e1 P3 (g := (mkF m 38 #[rv a1, iv 3, iv c0] [.int c0, .int 2, .ref a1])) rfl (hb hby d23_38)
  refine own_fw (A' := (T2.setTop (mkF m 43 #[rv a1, iv 3, iv c0] [.int ((c0 >>> ((0 : Int32) &&& 31)).toInt8.toInt32), .int 2, .ref a1]))) (fun t k => st2 _ (XS.ishr X2.here hx rfl (hb hby d23_41) rfl (XS.i2b X2.here hx rfl (hb hby d23_42) rfl k))) ?_
  obtain ⟨cl3, Ar3, q3, S3, M3, H3, G3⟩ := id P0
  have hin3 : ¬ ((2 : Int32) < 0 ∨ cl3.slots.size ≤ ((2 : Int32)).toNatClampNeg) := inb_of S3 ⟨by decide, by decide⟩
  obtain ⟨T3, h3, X3, e3, W3, st3⟩ := stB X2 hx hZ e2 Ar3 (j := (2 : Int32)) hin3 (g := (mkF m 43 #[rv a1, iv 3, iv c0] [.int ((c0 >>> ((0 : Int32) &&& 31)).toInt8.toInt32), .int 2, .ref a1])) rfl rfl (hb hby d23_43)
  rw [own_narB] at W3
  have V3 : Arv Z h3 a1 kb .byte (4 : Int32) [(.int x0), (.int x1), (.int ((c0 >>> ((0 : Int32) &&& 31)).toInt8.toInt32)), (.int x3)] (.int 0) := Arv.set Ar3 q3 S3 M3 H3 G3 (fits_nar_byte _) W3 2 rfl (Nat.le_of_ble_eq_true rfl)
  have Nf3 := Fr.snoc X3 N0 g_a1
  have K3 : Keep h0 h3 [a1] := (Keep.refl h0 [a1]).wr W3 (Or.inl (List.mem_of_getElem? (i := 0) rfl))
  have Z3 : n0 ≤ h3.size := Nat.le_trans Z0 (Keep.of_wr W3).1
  refine own_fw (A' := (T3.setTop (mkF m 47 #[rv a1, iv 3, iv c0] [.int c0, .int 3, .ref a1]))) (fun t k => st3 _ (XS.aloadN X3.here hx rfl (hb hby d23_44) rfl rfl (XS.iloadN X3.here hx rfl (hb hby d23_45) rfl (XS.iloadN X3.here hx rfl (hb hby d23_46) rfl k)))) ?_
  obtain ⟨T4, X4, e4, st4⟩ := getS2 X3 hx hZ hown (host := "") (Or.inl (own_w hw 113 rfl)) Via.refl e3 (P4.wr W3) (g := (mkF m 47 #[rv a1, iv 3, iv c0] [.int c0, .int 3, .ref a1])) rfl (hb hby d23_47)
  refine own_fw (A' := (T4.setTop (mkF m 52 #[rv a1, iv 3, iv c0] [.int ((c0 >>> ((8 : Int32) &&& 31)).toInt8.toInt32), .int 3, .ref a1]))) (fun t k => st4 _ (XS.ishr X4.here hx rfl (hb hby d23_50) rfl (XS.i2b X4.here hx rfl (hb hby d23_51) rfl k))) ?_
  obtain ⟨cl5, Ar5, q5, S5, M5, H5, G5⟩ := id V3
  have hin5 : ¬ ((3 : Int32) < 0 ∨ cl5.slots.size ≤ ((3 : Int32)).toNatClampNeg) := inb_of S5 ⟨by decide, by decide⟩
  obtain ⟨T5, h5, X5, e5, W5, st5⟩ := stB X4 hx hZ e4 Ar5 (j := (3 : Int32)) hin5 (g := (mkF m 52 #[rv a1, iv 3, iv c0] [.int ((c0 >>> ((8 : Int32) &&& 31)).toInt8.toInt32), .int 3, .ref a1])) rfl rfl (hb hby d23_52)
  rw [own_narB] at W5
  have V5 : Arv Z h5 a1 kb .byte (4 : Int32) [(.int x0), (.int x1), (.int ((c0 >>> ((0 : Int32) &&& 31)).toInt8.toInt32)), (.int ((c0 >>> ((8 : Int32) &&& 31)).toInt8.toInt32))] (.int 0) := Arv.set Ar5 q5 S5 M5 H5 G5 (fits_nar_byte _) W5 3 rfl (Nat.le_of_ble_eq_true rfl)
  have Nf5 := Fr.snoc X5 Nf3 g_a1
  have K5 : Keep h0 h5 [a1] := K3.wr W5 (Or.inl (List.mem_of_getElem? (i := 0) rfl))
  have Z5 : n0 ≤ h5.size := Nat.le_trans Z3 (Keep.of_wr W5).1
  refine own_fw (A' := (T5.setTop (mkF m 53 #[rv a1, iv 3, iv c0] []))) (fun t k => st5 _ k) ?_
  obtain ⟨fs, hr, hrun, hended, hW, hsame⟩ := X5.leave (v := none) (fun _ => rfl)
  refine ⟨_, _, ?_, hrun, hended, _, _, rfl, ?_, ⟨_, rfl⟩, hW, hsame.mono (by decide) (by decide)⟩
  · exact X5.returnOut hx Bd.returns (hb hby d23_53) hr
  · show Q_rmPut21 Z a1 kb c0 x0 x1 x2 x3 h0 n0 _ T5.heap _
    rw [e5]
    exact ⟨rfl, Nf5, K5, V5⟩
theorem ef_rmToB2 (m : MethodId) (a1 : Addr) : entryFrame m #[(.ref a1), (.int 0), (.int 2)] 5 = mkF m 0 #[.val (.ref a1), .val (.int 0), .val (.int 2), .unset, .unset] [] := by first | (simp [entryFrame, mkF, argsToLocals, Value.category]; done) | rfl
def Q_rmToB2 (Z : State) (a1 : Addr) (kc : ClassId) (c0 c1 : Int32) (h0 : Heap) (n0 : Nat) (v : Option Value) (h : Heap) (L : List Loc) : Prop := ∃ b : Addr, ∃ kb : ClassId, v = some (.ref b) ∧ Fr n0 L ∧ Keep h0 h [] ∧ Arv Z h b kb .byte (4 : Int32) [(.int ((c0 >>> ((0 : Int32) &&& 31)).toInt8.toInt32)), (.int ((c0 >>> ((8 : Int32) &&& 31)).toInt8.toInt32)), (.int ((c1 >>> ((0 : Int32) &&& 31)).toInt8.toInt32)), (.int ((c1 >>> ((8 : Int32) &&& 31)).toInt8.toInt32))] (.int 0) ∧ (h0.size ≤ b)
theorem rmToB2 (l : Launch) (Z : State) (a0 : Array Value) (hw : ∀ d ∈ tables_1, d.before a0 Z = true) (ws : List Jvm.Cond) (a1 : Addr) (kc : ClassId) (c0 c1 : Int32) (h0 : Heap) (n0 : Nat) (Z0 : n0 ≤ h0.size) (P0 : Arv Z h0 a1 kc .char (2 : Int32) [(.int c0), (.int c1)] (.int 0)) (P1 : Sta Z h0 "java/lang/StringUTF16" "$assertionsDisabled" "Z" (.int 1)) (P2 : Sta Z h0 "java/lang/StringUTF16" "HI_BYTE_SHIFT" "I" (.int 0)) (P3 : Sta Z h0 "java/lang/StringUTF16" "LO_BYTE_SHIFT" "I" (.int 8)) :
    MetFree l yq22 (head1 (Jvm.Cond.code yq22 jdk_52_method_14_code 5 (some (.array .byte)) :: ws) rq28) (fun a U => a = #[(.ref a1), (.int 0), (.int 2)] ∧ Z.Warmed39 U.vm ∧ U.heap = h0) (fun _ _ _ _ _ => True) (fun _ U o U' => ∃ v L, o = .returned v ∧ Q_rmToB2 Z a1 kc c0 c1 h0 n0 v U'.heap L ∧ FrameEnd U o U' L rq28.cells rq28.slots) := by
  refine MetFree.of_bodySF (plainFor_of_name pn_java_lang_StringUTF16) hisR ?_
  intro p e s m args below meth c s₁ Bd hml0 hP hK
  obtain ⟨rfl, hZ, hh⟩ := hP
  have hx := Bd.exec
  have hby := Bd.bytes
  have hml : c.maxLocals = 5 := hml0
  have hown : s.vm.findClass "java/lang/StringUTF16" = some m.cls := findClass_of_methodNamed Bd.named
  have hnm := (name_of_methodNamed Bd.named Bd.method).1
  have X0 : Stand p l e rq28 s m #[(.ref a1), (.int 0), (.int 2)] below meth c s₁ [] 0 0 := Stand.of_body Bd
  have e0 : s₁.heap = h0 := by rw [← hh, Bd.state]; rfl
  have N0 := Fr.nil n0
  refine own_fw (A' := (s₁.setTop (mkF m 1 #[rv a1, iv 0, iv 2, .unset, .unset] [.int 2]))) (fun t k => castTop (ef_rmToB2 m a1) (XS.iloadN X0.here hx rfl (hb hby d20_0) rfl k)) ?_
  obtain ⟨_, _, ⟨T1, L1, k1, n1⟩, -, X1, ⟨Lc1, hQ1, l1, y1, z1⟩, st1⟩ := Jvm.LawKit.callS X0 hx (y := yq19) hown (mvT hZ (own_w hw 101 rfl)) (mvT hZ (own_w hw 102 rfl)) (mvT hZ (own_w hw 40 rfl)) (mvT hZ (own_w hw 103 rfl)) (by decide) (backOf (W := 0) (rmNBF2 l Z a0 hw []  h0 n0 Z0 ) hZ (own_w hw 103 rfl) (own_w hw 40 rfl) (by decide) (by decide)) (g := (mkF m 1 #[rv a1, iv 0, iv 2, .unset, .unset] [.int 2])) rfl (by rw [hml]; rfl) (argsL := [(.int 2)]) (rest := []) (lenOf pd__I__B rfl) rfl (by show 2 * 0 + _ ≤ _; exact Nat.le_of_eq rfl) (hb hby d20_1) (fun _ _ => ⟨rfl, e0, (by decide : 0 + 1 ≤ _), (by decide : 0 + 4 ≤ _)⟩)
  dsimp only [Pt.U, Pt.locs, Pt.cells, Pt.slots] at X1 l1 y1 z1 st1 hQ1
  subst l1 y1 z1
  obtain ⟨b_1, kb_1, rfl, Nq1, Kq1, Fq1_0, gb_1⟩ := hQ1
  have Nf1 := Fr.app N0 Nq1
  have K1 : Keep h0 T1.heap [] := (Keep.refl h0 []).trans Kq1 all0
  have sz_b_1 : h0.size ≤ b_1 := Nat.le_trans (Keep.refl h0 []).1 gb_1
  have g_b_1 : n0 ≤ b_1 := Nat.le_trans Z0 gb_1
  have ne_a1_b_1 : a1 ≠ b_1 := Nat.ne_of_lt (Nat.lt_of_lt_of_le P0.lt gb_1)
  have Z1 : n0 ≤ T1.heap.size := Nat.le_trans Z0 Kq1.1
  refine own_fw (A' := (T1.setTop (mkF m 19 #[rv a1, iv 0, iv 2, rv b_1, iv 0] [.int 0, .ref a1, .int 0, .ref b_1]))) (fun t k => st1 _ (XS.astoreN X1.here hx rfl (hb hby d20_4) rfl rfl (l' := #[.val (.ref a1), .val (.int 0), .val (.int 2), .val (.ref b_1), .unset]) rfl (XS.iconst X1.here hx rfl (hb hby d20_5) (XS.istore X1.here hx rfl (hb hby d20_6) rfl (l' := #[.val (.ref a1), .val (.int 0), .val (.int 2), .val (.ref b_1), .val (.int 0)]) rfl (XS.iload X1.here hx rfl (hb hby d20_8) rfl (XS.iloadN X1.here hx rfl (hb hby d20_10) rfl (XS.icmpNo X1.here hx rfl (hb hby d20_11) rfl (XT.ii_ge_f (by decide)) (XS.aloadN X1.here hx rfl (hb hby d20_14) rfl rfl (XS.iload X1.here hx rfl (hb hby d20_15) rfl (XS.aloadN X1.here hx rfl (hb hby d20_17) rfl rfl (XS.iloadN X1.here hx rfl (hb hby d20_18) rfl k))))))))))) ?_
  obtain ⟨cl2, Ar2, q2, S2, M2, H2, G2⟩ := id (P0.keep Kq1 nin0)
  have hin2 : ¬ ((0 : Int32) < 0 ∨ cl2.slots.size ≤ ((0 : Int32)).toNatClampNeg) := inb_of S2 ⟨by decide, by decide⟩
  have hat2 : cl2.slots[((0 : Int32)).toNatClampNeg]? = some (.int c0) := H2.at hin2 rfl
  refine own_fw (A' := (T1.setTop (mkF m 20 #[rv a1, iv 0, iv 2, rv b_1, iv 0] [.int c0, .int 0, .ref b_1]))) (fun t k => X1.caload hx (j := (0 : Int32)) (v := (.int c0)) (by exact Ar2.1) (State.isArrayOf_alike hZ.alike Ar2.2.1) Ar2.2.2 hin2 hat2 (g := (mkF m 19 #[rv a1, iv 0, iv 2, rv b_1, iv 0] [.int 0, .ref a1, .int 0, .ref b_1])) rfl rfl (hb hby d20_19) _ k) ?_
  obtain ⟨_, _, ⟨T3, L3, k3, n3⟩, -, X3, ⟨Lc3, hQ3, l3, y3, z3⟩, st3⟩ := Jvm.LawKit.callS X1 hx (y := yq20) hown (mvT hZ (own_w hw 108 rfl)) (mvT hZ (own_w hw 109 rfl)) (mvT hZ (own_w hw 40 rfl)) (mvT hZ (own_w hw 110 rfl)) (by decide) (backOf (W := 0) (rmPut20 l Z a0 hw [] b_1 kb_1 c0 (0 : Int32) (0 : Int32) (0 : Int32) (0 : Int32) T1.heap n0 Z1 Fq1_0 g_b_1 (own_staKeep P1 Kq1 all0) (own_staKeep P2 Kq1 all0) (own_staKeep P3 Kq1 all0)) hZ (own_w hw 110 rfl) (own_w hw 40 rfl) (by decide) (by decide)) (g := (mkF m 20 #[rv a1, iv 0, iv 2, rv b_1, iv 0] [.int c0, .int 0, .ref b_1])) rfl (by rw [hml]; rfl) (argsL := [(.ref b_1), (.int 0), (.int c0)]) (rest := []) (lenOf pd___BII_V rfl) rfl (by show 2 * 0 + _ ≤ _; exact Nat.le_of_eq rfl) (hb hby d20_20) (fun _ _ => ⟨rfl, rfl, (by decide : 1 + 0 ≤ _), (by decide : 4 + 0 ≤ _)⟩)
  dsimp only [Pt.U, Pt.locs, Pt.cells, Pt.slots] at X3 l3 y3 z3 st3 hQ3
  subst l3 y3 z3
  obtain ⟨rfl, Nq3, Kq3, Fq3_0⟩ := hQ3
  have Nf3 := Fr.app Nf1 Nq3
  have K3 : Keep h0 T3.heap [] := K1.trans Kq3 (allS (Or.inr sz_b_1) all0)
  have Z3 : n0 ≤ T3.heap.size := Nat.le_trans Z1 Kq3.1
  refine own_fw (A' := (T3.setTop (mkF m 19 #[rv a1, iv 1, iv 2, rv b_1, iv 1] [.int 1, .ref a1, .int 1, .ref b_1]))) (fun t k => st3 _ (XS.iinc X3.here hx rfl (hb hby d20_23) rfl (l' := #[.val (.ref a1), .val (.int 1), .val (.int 2), .val (.ref b_1), .val (.int 0)]) rfl (XS.iinc X3.here hx rfl (hb hby d20_26) rfl (l' := #[.val (.ref a1), .val (.int 1), .val (.int 2), .val (.ref b_1), .val (.int 1)]) rfl (XS.goto X3.here hx rfl (pc0 := 29) (pc' := 8) rfl (hb hby d20_29) (by decide) (by decide) (XS.iload X3.here hx rfl (hb hby d20_8) rfl (XS.iloadN X3.here hx rfl (hb hby d20_10) rfl (XS.icmpNo X3.here hx rfl (hb hby d20_11) rfl (XT.ii_ge_f (by decide)) (XS.aloadN X3.here hx rfl (hb hby d20_14) rfl rfl (XS.iload X3.here hx rfl (hb hby d20_15) rfl (XS.aloadN X3.here hx rfl (hb hby d20_17) rfl rfl (XS.iloadN X3.here hx rfl (hb hby d20_18) rfl k))))))))))) ?_
  obtain ⟨cl4, Ar4, q4, S4, M4, H4, G4⟩ := id ((P0.keep Kq1 nin0).keep Kq3 (ninS ne_a1_b_1 nin0))
  have hin4 : ¬ ((1 : Int32) < 0 ∨ cl4.slots.size ≤ ((1 : Int32)).toNatClampNeg) := inb_of S4 ⟨by decide, by decide⟩
  have hat4 : cl4.slots[((1 : Int32)).toNatClampNeg]? = some (.int c1) := H4.at hin4 rfl
  refine own_fw (A' := (T3.setTop (mkF m 20 #[rv a1, iv 1, iv 2, rv b_1, iv 1] [.int c1, .int 1, .ref b_1]))) (fun t k => X3.caload hx (j := (1 : Int32)) (v := (.int c1)) (by exact Ar4.1) (State.isArrayOf_alike hZ.alike Ar4.2.1) Ar4.2.2 hin4 hat4 (g := (mkF m 19 #[rv a1, iv 1, iv 2, rv b_1, iv 1] [.int 1, .ref a1, .int 1, .ref b_1])) rfl rfl (hb hby d20_19) _ k) ?_
  obtain ⟨_, _, ⟨T5, L5, k5, n5⟩, -, X5, ⟨Lc5, hQ5, l5, y5, z5⟩, st5⟩ := Jvm.LawKit.callS X3 hx (y := yq20) hown (mvT hZ (own_w hw 108 rfl)) (mvT hZ (own_w hw 109 rfl)) (mvT hZ (own_w hw 40 rfl)) (mvT hZ (own_w hw 110 rfl)) (by decide) (backOf (W := 0) (rmPut21 l Z a0 hw [] b_1 kb_1 c1 ((c0 >>> ((0 : Int32) &&& 31)).toInt8.toInt32) ((c0 >>> ((8 : Int32) &&& 31)).toInt8.toInt32) (0 : Int32) (0 : Int32) T3.heap n0 Z3 Fq3_0 g_b_1 (own_staKeep (own_staKeep P1 Kq1 all0) Kq3 (allS (own_plainV Fq1_0) all0)) (own_staKeep (own_staKeep P2 Kq1 all0) Kq3 (allS (own_plainV Fq1_0) all0)) (own_staKeep (own_staKeep P3 Kq1 all0) Kq3 (allS (own_plainV Fq1_0) all0))) hZ (own_w hw 110 rfl) (own_w hw 40 rfl) (by decide) (by decide)) (g := (mkF m 20 #[rv a1, iv 1, iv 2, rv b_1, iv 1] [.int c1, .int 1, .ref b_1])) rfl (by rw [hml]; rfl) (argsL := [(.ref b_1), (.int 1), (.int c1)]) (rest := []) (lenOf pd___BII_V rfl) rfl (by show 2 * 0 + _ ≤ _; exact Nat.le_of_eq rfl) (hb hby d20_20) (fun _ _ => ⟨rfl, rfl, (by decide : 1 + 0 ≤ _), (by decide : 4 + 0 ≤ _)⟩)
  dsimp only [Pt.U, Pt.locs, Pt.cells, Pt.slots] at X5 l5 y5 z5 st5 hQ5
  subst l5 y5 z5
  obtain ⟨rfl, Nq5, Kq5, Fq5_0⟩ := hQ5
  have Nf5 := Fr.app Nf3 Nq5
  have K5 : Keep h0 T5.heap [] := K3.trans Kq5 (allS (Or.inr sz_b_1) all0)
  have Z5 : n0 ≤ T5.heap.size := Nat.le_trans Z3 Kq5.1
  refine own_fw (A' := (T5.setTop (mkF m 33 #[rv a1, iv 2, iv 2, rv b_1, iv 2] [.ref b_1]))) (fun t k => st5 _ (XS.iinc X5.here hx rfl (hb hby d20_23) rfl (l' := #[.val (.ref a1), .val (.int 2), .val (.int 2), .val (.ref b_1), .val (.int 1)]) rfl (XS.iinc X5.here hx rfl (hb hby d20_26) rfl (l' := #[.val (.ref a1), .val (.int 2), .val (.int 2), .val (.ref b_1), .val (.int 2)]) rfl (XS.goto X5.here hx rfl (pc0 := 29) (pc' := 8) rfl (hb hby d20_29) (by decide) (by decide) (XS.iload X5.here hx rfl (hb hby d20_8) rfl (XS.iloadN X5.here hx rfl (hb hby d20_10) rfl (XS.icmpYes X5.here hx rfl (pc0 := 11) (pc' := 32) rfl (hb hby d20_11) rfl (XT.ii_ge_t (by decide)) (by decide) (by decide) (XS.aloadN X5.here hx rfl (hb hby d20_32) rfl rfl k)))))))) ?_
  obtain ⟨fs, hr, hrun, hended, hW, hsame⟩ := X5.leave (v := some (.ref b_1)) (fun h => by rw [Bd.returns] at h; cases h)
  refine ⟨_, _, ?_, hrun, hended, _, _, rfl, ?_, ⟨_, rfl⟩, hW, hsame.mono (by decide) (by decide)⟩
  · exact retOut X5 hx Bd.returns rfl (Or.inr (Or.inr (Or.inr (Or.inr ⟨rfl, rfl, rfl⟩)))) (hb hby d20_33) hr
  · show Q_rmToB2 Z a1 kc c0 c1 h0 n0 _ T5.heap _
    exact ⟨b_1, kb_1, rfl, Nf5, K5, Fq5_0, sz_b_1⟩
theorem ef_rmGet20 (m : MethodId) (a1 : Addr) : entryFrame m #[(.ref a1), (.int 0)] 2 = mkF m 0 #[.val (.ref a1), .val (.int 0)] [] := by first | (simp [entryFrame, mkF, argsToLocals, Value.category]; done) | rfl
def Q_rmGet20 (Z : State) (a1 : Addr) (kb : ClassId) (x0 x1 x2 x3 : Int32) (h0 : Heap) (n0 : Nat) (v : Option Value) (h : Heap) (L : List Loc) : Prop := v = some (.int (own_gc x0 x1)) ∧ Fr n0 L ∧ h = h0
theorem rmGet20 (l : Launch) (Z : State) (a0 : Array Value) (hw : ∀ d ∈ tables_1, d.before a0 Z = true) (ws : List Jvm.Cond) (a1 : Addr) (kb : ClassId) (x0 x1 x2 x3 : Int32) (h0 : Heap) (n0 : Nat) (Z0 : n0 ≤ h0.size) (P0 : Arv Z h0 a1 kb .byte (4 : Int32) [(.int x0), (.int x1), (.int x2), (.int x3)] (.int 0)) (P1 : Sta Z h0 "java/lang/StringUTF16" "$assertionsDisabled" "Z" (.int 1)) (P2 : Sta Z h0 "java/lang/StringUTF16" "HI_BYTE_SHIFT" "I" (.int 0)) (P3 : Sta Z h0 "java/lang/StringUTF16" "LO_BYTE_SHIFT" "I" (.int 8)) :
    MetFree l yq23 (head1 (Jvm.Cond.code yq23 jdk_52_method_5_code 2 (some .char) :: ws) rq0) (fun a U => a = #[(.ref a1), (.int 0)] ∧ Z.Warmed39 U.vm ∧ U.heap = h0) (fun _ _ _ _ _ => True) (fun _ U o U' => ∃ v L, o = .returned v ∧ Q_rmGet20 Z a1 kb x0 x1 x2 x3 h0 n0 v U'.heap L ∧ FrameEnd U o U' L rq0.cells rq0.slots) := by
  refine MetFree.of_bodySF (plainFor_of_name pn_java_lang_StringUTF16) hisR ?_
  intro p e s m args below meth c s₁ Bd hml0 hP hK
  obtain ⟨rfl, hZ, hh⟩ := hP
  have hx := Bd.exec
  have hby := Bd.bytes
  have hml : c.maxLocals = 2 := hml0
  have hown : s.vm.findClass "java/lang/StringUTF16" = some m.cls := findClass_of_methodNamed Bd.named
  have hnm := (name_of_methodNamed Bd.named Bd.method).1
  have X0 : Stand p l e rq0 s m #[(.ref a1), (.int 0)] below meth c s₁ [] 0 0 := Stand.of_body Bd
  have e0 : s₁.heap = h0 := by rw [← hh, Bd.state]; rfl
  have N0 := Fr.nil n0
  refine own_fw (A' := (s₁.setTop (mkF m 0 #[.val (.ref a1), .val (.int 0)] []))) (fun t k => castTop (ef_rmGet20 m a1) k) ?_
  obtain ⟨T1, X1, e1, st1⟩ := getS2 X0 hx hZ hown (host := "") (Or.inl (own_w hw 111 rfl)) Via.refl e0 P1 (g := (mkF m 0 #[rv a1, iv 0] [])) rfl (hb hby d24_0)
  refine own_fw (A' := (T1.setTop (mkF m 37 #[rv a1, iv 1] [.int 0, .ref a1]))) (fun t k => st1 _ (XS.ifYes X1.here hx rfl (pc0 := 3) (pc' := 28) rfl (hb hby d24_3) rfl (XT.i0_ne_t (by decide)) (by decide) (by decide) (XS.iloadN X1.here hx rfl (hb hby d24_28) rfl (XS.iconst X1.here hx rfl (hb hby d24_29) (XS.ishl X1.here hx rfl (hb hby d24_30) rfl (XS.istoreN X1.here hx rfl (hb hby d24_31) rfl (l' := #[.val (.ref a1), .val (.int 0)]) rfl (XS.aloadN X1.here hx rfl (hb hby d24_32) rfl rfl (XS.iloadN X1.here hx rfl (hb hby d24_33) rfl (XS.iinc X1.here hx rfl (hb hby d24_34) rfl (l' := #[.val (.ref a1), .val (.int 1)]) rfl k))))))))) ?_
  obtain ⟨cl2, Ar2, q2, S2, M2, H2, G2⟩ := id P0
  have hin2 : ¬ ((0 : Int32) < 0 ∨ cl2.slots.size ≤ ((0 : Int32)).toNatClampNeg) := inb_of S2 ⟨by decide, by decide⟩
  have hat2 : cl2.slots[((0 : Int32)).toNatClampNeg]? = some (.int x0) := H2.at hin2 rfl
  refine own_fw (A' := (T1.setTop (mkF m 42 #[rv a1, iv 1] [.int (x0 &&& (255 : Int32))]))) (fun t k => X1.baloadBytes hx (j := (0 : Int32)) (v := (.int x0)) (by rw [e1]; exact Ar2.1) (State.isArrayOf_alike hZ.alike Ar2.2.1) Ar2.2.2 hin2 hat2 (g := (mkF m 37 #[rv a1, iv 1] [.int 0, .ref a1])) rfl rfl (hb hby d24_37) _ (XS.sipush X1.here hx rfl (hb hby d24_38) (XS.iand X1.here hx rfl (hb hby d24_41) rfl k))) ?_
  obtain ⟨T3, X3, e3, st3⟩ := getS2 X1 hx hZ hown (host := "") (Or.inl (own_w hw 112 rfl)) Via.refl e1 P2 (g := (mkF m 42 #[rv a1, iv 1] [.int (x0 &&& (255 : Int32))])) rfl (hb hby d24_42)
  refine own_fw (A' := (T3.setTop (mkF m 48 #[rv a1, iv 1] [.int 1, .ref a1, .int ((x0 &&& (255 : Int32)) <<< ((0 : Int32) &&& 31))]))) (fun t k => st3 _ (XS.ishl X3.here hx rfl (hb hby d24_45) rfl (XS.aloadN X3.here hx rfl (hb hby d24_46) rfl rfl (XS.iloadN X3.here hx rfl (hb hby d24_47) rfl k)))) ?_
  obtain ⟨cl4, Ar4, q4, S4, M4, H4, G4⟩ := id P0
  have hin4 : ¬ ((1 : Int32) < 0 ∨ cl4.slots.size ≤ ((1 : Int32)).toNatClampNeg) := inb_of S4 ⟨by decide, by decide⟩
  have hat4 : cl4.slots[((1 : Int32)).toNatClampNeg]? = some (.int x1) := H4.at hin4 rfl
  refine own_fw (A' := (T3.setTop (mkF m 53 #[rv a1, iv 1] [.int (x1 &&& (255 : Int32)), .int ((x0 &&& (255 : Int32)) <<< ((0 : Int32) &&& 31))]))) (fun t k => X3.baloadBytes hx (j := (1 : Int32)) (v := (.int x1)) (by rw [e3]; exact Ar4.1) (State.isArrayOf_alike hZ.alike Ar4.2.1) Ar4.2.2 hin4 hat4 (g := (mkF m 48 #[rv a1, iv 1] [.int 1, .ref a1, .int ((x0 &&& (255 : Int32)) <<< ((0 : Int32) &&& 31))])) rfl rfl (hb hby d24_48) _ (XS.sipush X3.here hx rfl (hb hby d24_49) (XS.iand X3.here hx rfl (hb hby d24_52) rfl k))) ?_
  obtain ⟨T5, X5, e5, st5⟩ := getS2 X3 hx hZ hown (host := "") (Or.inl (own_w hw 113 rfl)) Via.refl e3 P3 (g := (mkF m 53 #[rv a1, iv 1] [.int (x1 &&& (255 : Int32)), .int ((x0 &&& (255 : Int32)) <<< ((0 : Int32) &&& 31))])) rfl (hb hby d24_53)
  refine own_fw (A' := (T5.setTop (mkF m 59 #[rv a1, iv 1] [.int ((((x0 &&& (255 : Int32)) <<< ((0 : Int32) &&& 31)) ||| ((x1 &&& (255 : Int32)) <<< ((8 : Int32) &&& 31))).toUInt32.toUInt16.toUInt32.toInt32)]))) (fun t k => st5 _ (XS.ishl X5.here hx rfl (hb hby d24_56) rfl (XS.ior X5.here hx rfl (hb hby d24_57) rfl (XS.i2c X5.here hx rfl (hb hby d24_58) rfl k)))) ?_
  obtain ⟨fs, hr, hrun, hended, hW, hsame⟩ := X5.leave (v := some (.int ((((x0 &&& (255 : Int32)) <<< ((0 : Int32) &&& 31)) ||| ((x1 &&& (255 : Int32)) <<< ((8 : Int32) &&& 31))).toUInt32.toUInt16.toUInt32.toInt32))) (fun h => by rw [Bd.returns] at h; cases h)
  refine ⟨_, _, ?_, hrun, hended, _, _, rfl, ?_, ⟨_, rfl⟩, hW, hsame.mono (by decide) (by decide)⟩
  · exact retOut X5 hx Bd.returns (XT.narrow_c _) (Or.inl ⟨rfl, by simp, _, rfl⟩) (hb hby d24_59) hr
  · show Q_rmGet20 Z a1 kb x0 x1 x2 x3 h0 n0 _ T5.heap _
    rw [e5]
    exact ⟨rfl, N0, rfl⟩
theorem ef_rmGet21 (m : MethodId) (a1 : Addr) : entryFrame m #[(.ref a1), (.int 1)] 2 = mkF m 0 #[.val (.ref a1), .val (.int 1)] [] := by first | (simp [entryFrame, mkF, argsToLocals, Value.category]; done) | rfl
def Q_rmGet21 (Z : State) (a1 : Addr) (kb : ClassId) (x0 x1 x2 x3 : Int32) (h0 : Heap) (n0 : Nat) (v : Option Value) (h : Heap) (L : List Loc) : Prop := v = some (.int (own_gc x2 x3)) ∧ Fr n0 L ∧ h = h0
theorem rmGet21 (l : Launch) (Z : State) (a0 : Array Value) (hw : ∀ d ∈ tables_1, d.before a0 Z = true) (ws : List Jvm.Cond) (a1 : Addr) (kb : ClassId) (x0 x1 x2 x3 : Int32) (h0 : Heap) (n0 : Nat) (Z0 : n0 ≤ h0.size) (P0 : Arv Z h0 a1 kb .byte (4 : Int32) [(.int x0), (.int x1), (.int x2), (.int x3)] (.int 0)) (P1 : Sta Z h0 "java/lang/StringUTF16" "$assertionsDisabled" "Z" (.int 1)) (P2 : Sta Z h0 "java/lang/StringUTF16" "HI_BYTE_SHIFT" "I" (.int 0)) (P3 : Sta Z h0 "java/lang/StringUTF16" "LO_BYTE_SHIFT" "I" (.int 8)) :
    MetFree l yq23 (head1 (Jvm.Cond.code yq23 jdk_52_method_5_code 2 (some .char) :: ws) rq0) (fun a U => a = #[(.ref a1), (.int 1)] ∧ Z.Warmed39 U.vm ∧ U.heap = h0) (fun _ _ _ _ _ => True) (fun _ U o U' => ∃ v L, o = .returned v ∧ Q_rmGet21 Z a1 kb x0 x1 x2 x3 h0 n0 v U'.heap L ∧ FrameEnd U o U' L rq0.cells rq0.slots) := by
  refine MetFree.of_bodySF (plainFor_of_name pn_java_lang_StringUTF16) hisR ?_
  intro p e s m args below meth c s₁ Bd hml0 hP hK
  obtain ⟨rfl, hZ, hh⟩ := hP
  have hx := Bd.exec
  have hby := Bd.bytes
  have hml : c.maxLocals = 2 := hml0
  have hown : s.vm.findClass "java/lang/StringUTF16" = some m.cls := findClass_of_methodNamed Bd.named
  have hnm := (name_of_methodNamed Bd.named Bd.method).1
  have X0 : Stand p l e rq0 s m #[(.ref a1), (.int 1)] below meth c s₁ [] 0 0 := Stand.of_body Bd
  have e0 : s₁.heap = h0 := by rw [← hh, Bd.state]; rfl
  have N0 := Fr.nil n0
  refine own_fw (A' := (s₁.setTop (mkF m 0 #[.val (.ref a1), .val (.int 1)] []))) (fun t k => castTop (ef_rmGet21 m a1) k) ?_
  obtain ⟨T1, X1, e1, st1⟩ := getS2 X0 hx hZ hown (host := "") (Or.inl (own_w hw 111 rfl)) Via.refl e0 P1 (g := (mkF m 0 #[rv a1, iv 1] [])) rfl (hb hby d24_0)
  refine own_fw (A' := (T1.setTop (mkF m 37 #[rv a1, iv 3] [.int 2, .ref a1]))) (fun t k => st1 _ (XS.ifYes X1.here hx rfl (pc0 := 3) (pc' := 28) rfl (hb hby d24_3) rfl (XT.i0_ne_t (by decide)) (by decide) (by decide) (XS.iloadN X1.here hx rfl (hb hby d24_28) rfl (XS.iconst X1.here hx rfl (hb hby d24_29) (XS.ishl X1.here hx rfl (hb hby d24_30) rfl (XS.istoreN X1.here hx rfl (hb hby d24_31) rfl (l' := #[.val (.ref a1), .val (.int 2)]) rfl (XS.aloadN X1.here hx rfl (hb hby d24_32) rfl rfl (XS.iloadN X1.here hx rfl (hb hby d24_33) rfl (XS.iinc X1.here hx rfl (hb hby d24_34) rfl (l' := #[.val (.ref a1), .val (.int 3)]) rfl k))))))))) ?_
  obtain ⟨cl2, Ar2, q2, S2, M2, H2, G2⟩ := id P0
  have hin2 : ¬ ((2 : Int32) < 0 ∨ cl2.slots.size ≤ ((2 : Int32)).toNatClampNeg) := inb_of S2 ⟨by decide, by decide⟩
  have hat2 : cl2.slots[((2 : Int32)).toNatClampNeg]? = some (.int x2) := H2.at hin2 rfl
  refine own_fw (A' := (T1.setTop (mkF m 42 #[rv a1, iv 3] [.int (x2 &&& (255 : Int32))]))) (fun t k => X1.baloadBytes hx (j := (2 : Int32)) (v := (.int x2)) (by rw [e1]; exact Ar2.1) (State.isArrayOf_alike hZ.alike Ar2.2.1) Ar2.2.2 hin2 hat2 (g := (mkF m 37 #[rv a1, iv 3] [.int 2, .ref a1])) rfl rfl (hb hby d24_37) _ (XS.sipush X1.here hx rfl (hb hby d24_38) (XS.iand X1.here hx rfl (hb hby d24_41) rfl k))) ?_
  obtain ⟨T3, X3, e3, st3⟩ := getS2 X1 hx hZ hown (host := "") (Or.inl (own_w hw 112 rfl)) Via.refl e1 P2 (g := (mkF m 42 #[rv a1, iv 3] [.int (x2 &&& (255 : Int32))])) rfl (hb hby d24_42)
  refine own_fw (A' := (T3.setTop (mkF m 48 #[rv a1, iv 3] [.int 3, .ref a1, .int ((x2 &&& (255 : Int32)) <<< ((0 : Int32) &&& 31))]))) (fun t k => st3 _ (XS.ishl X3.here hx rfl (hb hby d24_45) rfl (XS.aloadN X3.here hx rfl (hb hby d24_46) rfl rfl (XS.iloadN X3.here hx rfl (hb hby d24_47) rfl k)))) ?_
  obtain ⟨cl4, Ar4, q4, S4, M4, H4, G4⟩ := id P0
  have hin4 : ¬ ((3 : Int32) < 0 ∨ cl4.slots.size ≤ ((3 : Int32)).toNatClampNeg) := inb_of S4 ⟨by decide, by decide⟩
  have hat4 : cl4.slots[((3 : Int32)).toNatClampNeg]? = some (.int x3) := H4.at hin4 rfl
  refine own_fw (A' := (T3.setTop (mkF m 53 #[rv a1, iv 3] [.int (x3 &&& (255 : Int32)), .int ((x2 &&& (255 : Int32)) <<< ((0 : Int32) &&& 31))]))) (fun t k => X3.baloadBytes hx (j := (3 : Int32)) (v := (.int x3)) (by rw [e3]; exact Ar4.1) (State.isArrayOf_alike hZ.alike Ar4.2.1) Ar4.2.2 hin4 hat4 (g := (mkF m 48 #[rv a1, iv 3] [.int 3, .ref a1, .int ((x2 &&& (255 : Int32)) <<< ((0 : Int32) &&& 31))])) rfl rfl (hb hby d24_48) _ (XS.sipush X3.here hx rfl (hb hby d24_49) (XS.iand X3.here hx rfl (hb hby d24_52) rfl k))) ?_
  obtain ⟨T5, X5, e5, st5⟩ := getS2 X3 hx hZ hown (host := "") (Or.inl (own_w hw 113 rfl)) Via.refl e3 P3 (g := (mkF m 53 #[rv a1, iv 3] [.int (x3 &&& (255 : Int32)), .int ((x2 &&& (255 : Int32)) <<< ((0 : Int32) &&& 31))])) rfl (hb hby d24_53)
  refine own_fw (A' := (T5.setTop (mkF m 59 #[rv a1, iv 3] [.int ((((x2 &&& (255 : Int32)) <<< ((0 : Int32) &&& 31)) ||| ((x3 &&& (255 : Int32)) <<< ((8 : Int32) &&& 31))).toUInt32.toUInt16.toUInt32.toInt32)]))) (fun t k => st5 _ (XS.ishl X5.here hx rfl (hb hby d24_56) rfl (XS.ior X5.here hx rfl (hb hby d24_57) rfl (XS.i2c X5.here hx rfl (hb hby d24_58) rfl k)))) ?_
  obtain ⟨fs, hr, hrun, hended, hW, hsame⟩ := X5.leave (v := some (.int ((((x2 &&& (255 : Int32)) <<< ((0 : Int32) &&& 31)) ||| ((x3 &&& (255 : Int32)) <<< ((8 : Int32) &&& 31))).toUInt32.toUInt16.toUInt32.toInt32))) (fun h => by rw [Bd.returns] at h; cases h)
  refine ⟨_, _, ?_, hrun, hended, _, _, rfl, ?_, ⟨_, rfl⟩, hW, hsame.mono (by decide) (by decide)⟩
  · exact retOut X5 hx Bd.returns (XT.narrow_c _) (Or.inl ⟨rfl, by simp, _, rfl⟩) (hb hby d24_59) hr
  · show Q_rmGet21 Z a1 kb x0 x1 x2 x3 h0 n0 _ T5.heap _
    rw [e5]
    exact ⟨rfl, N0, rfl⟩
theorem ef_rmCoderU2 (m : MethodId) (a1 : Addr) : entryFrame m #[(.ref a1), (.int 2)] 2 = mkF m 0 #[.val (.ref a1), .val (.int 2)] [] := by first | (simp [entryFrame, mkF, argsToLocals, Value.category]; done) | rfl
def Q_rmCoderU2 (Z : State) (a1 : Addr) (kb : ClassId) (x0 x1 x2 x3 : Int32) (h0 : Heap) (n0 : Nat) (v : Option Value) (h : Heap) (L : List Loc) : Prop := v = some (.int 1) ∧ Fr n0 L ∧ h = h0
theorem rmCoderU2 (l : Launch) (Z : State) (a0 : Array Value) (hw : ∀ d ∈ tables_1, d.before a0 Z = true) (ws : List Jvm.Cond) (a1 : Addr) (kb : ClassId) (x0 x1 x2 x3 : Int32) (h0 : Heap) (n0 : Nat) (Z0 : n0 ≤ h0.size) (P0 : Arv Z h0 a1 kb .byte (4 : Int32) [(.int x0), (.int x1), (.int x2), (.int x3)] (.int 0)) :
    MetFree l yq4 (head1 (Jvm.Cond.code yq4 jdk_52_method_15_code 2 (some .byte) :: ws) rq0) (fun a U => a = #[(.ref a1), (.int 2)] ∧ Z.Warmed39 U.vm ∧ U.heap = h0) (fun _ _ _ _ _ => True) (fun _ U o U' => ∃ v L, o = .returned v ∧ Q_rmCoderU2 Z a1 kb x0 x1 x2 x3 h0 n0 v U'.heap L ∧ FrameEnd U o U' L rq0.cells rq0.slots) := by
  refine MetFree.of_bodySF (plainFor_of_name pn_java_lang_StringUTF16) hisR ?_
  intro p e s m args below meth c s₁ Bd hml0 hP hK
  obtain ⟨rfl, hZ, hh⟩ := hP
  have hx := Bd.exec
  have hby := Bd.bytes
  have hml : c.maxLocals = 2 := hml0
  have hown : s.vm.findClass "java/lang/StringUTF16" = some m.cls := findClass_of_methodNamed Bd.named
  have hnm := (name_of_methodNamed Bd.named Bd.method).1
  have X0 : Stand p l e rq0 s m #[(.ref a1), (.int 2)] below meth c s₁ [] 0 0 := Stand.of_body Bd
  have e0 : s₁.heap = h0 := by rw [← hh, Bd.state]; rfl
  have N0 := Fr.nil n0
  refine own_fw (A' := (s₁.setTop (mkF m 2 #[rv a1, iv 2] [.ref a1, .int 2]))) (fun t k => castTop (ef_rmCoderU2 m a1) (XS.iloadN X0.here hx rfl (hb hby d10_0) rfl (XS.aloadN X0.here hx rfl (hb hby d10_1) rfl rfl k))) ?_
  obtain ⟨cl1, Ar1, q1, S1, M1, H1, G1⟩ := id P0
  refine own_fw (A' := (s₁.setTop (mkF m 3 #[rv a1, iv 2] [.int 4, .int 2]))) (fun t k => X0.arraylength hx (by rw [e0]; exact Ar1.1) (State.isArrayOf_alike hZ.alike Ar1.2.1) (g := (mkF m 2 #[rv a1, iv 2] [.ref a1, .int 2])) rfl rfl (hb hby d10_2) _ (by rw [len_of S1 M1]; exact k)) ?_
  refine own_fw (A' := (s₁.setTop (mkF m 8 #[rv a1, iv 2] [.int 1]))) (fun t k => XS.isub X0.here hx rfl (hb hby d10_3) rfl (XS.bipush X0.here hx rfl (hb hby d10_4) (XS.iushr X0.here hx rfl (hb hby d10_6) rfl (XS.i2b X0.here hx rfl (hb hby d10_7) rfl k)))) ?_
  obtain ⟨fs, hr, hrun, hended, hW, hsame⟩ := X0.leave (v := some (.int 1)) (fun h => by rw [Bd.returns] at h; cases h)
  refine ⟨_, _, ?_, hrun, hended, _, _, rfl, ?_, ⟨_, rfl⟩, hW, hsame.mono (by decide) (by decide)⟩
  · exact retOut X0 hx Bd.returns rfl (Or.inl ⟨rfl, by simp, _, rfl⟩) (hb hby d10_8) hr
  · show Q_rmCoderU2 Z a1 kb x0 x1 x2 x3 h0 n0 _ s₁.heap _
    rw [e0]
    exact ⟨rfl, N0, rfl⟩
theorem ef_rmCmpA2_0 (m : MethodId) (a1 a3 : Addr) : entryFrame m #[(.ref a1), (.int 0), (.ref a3), (.int 0), (.int 2)] 7 = mkF m 0 #[.val (.ref a1), .val (.int 0), .val (.ref a3), .val (.int 0), .val (.int 2), .unset, .unset] [] := by first | (simp [entryFrame, mkF, argsToLocals, Value.category]; done) | rfl
def Q_rmCmpA2_0 (Z : State) (a1 a3 : Addr) (kc kb : ClassId) (c0 c1 : Int32) (h0 : Heap) (n0 : Nat) (v : Option Value) (h : Heap) (L : List Loc) : Prop := v = some (.int 0) ∧ Fr n0 L ∧ Keep h0 h [a3]
theorem rmCmpA2_0 (l : Launch) (Z : State) (a0 : Array Value) (hw : ∀ d ∈ tables_1, d.before a0 Z = true) (ws : List Jvm.Cond) (a1 a3 : Addr) (kc kb : ClassId) (c0 c1 : Int32) (h0 : Heap) (n0 : Nat) (Z0 : n0 ≤ h0.size) (P0 : Arv Z h0 a1 kc .char (2 : Int32) [(.int c0), (.int c1)] (.int 0)) (P1 : Arv Z h0 a3 kb .byte (2 : Int32) [(.int 0), (.int 0)] (.int 0)) (g_a3 : n0 ≤ a3) (ne_a1_a3 : a1 ≠ a3) (hc0 : (255 : Int32) < c0) :
    MetFree l yq1 (head1 (Jvm.Cond.code yq1 jdk_52_method_21_code 7 (some .int) :: ws) rq0) (fun a U => a = #[(.ref a1), (.int 0), (.ref a3), (.int 0), (.int 2)] ∧ Z.Warmed39 U.vm ∧ U.heap = h0) (fun _ _ _ _ _ => True) (fun _ U o U' => ∃ v L, o = .returned v ∧ Q_rmCmpA2_0 Z a1 a3 kc kb c0 c1 h0 n0 v U'.heap L ∧ FrameEnd U o U' L rq0.cells rq0.slots) := by
  refine MetFree.of_bodySF (plainFor_of_name pn_java_lang_StringUTF16) hisR ?_
  intro p e s m args below meth c s₁ Bd hml0 hP hK
  obtain ⟨rfl, hZ, hh⟩ := hP
  have hx := Bd.exec
  have hby := Bd.bytes
  have hml : c.maxLocals = 7 := hml0
  have hown : s.vm.findClass "java/lang/StringUTF16" = some m.cls := findClass_of_methodNamed Bd.named
  have hnm := (name_of_methodNamed Bd.named Bd.method).1
  have X0 : Stand p l e rq0 s m #[(.ref a1), (.int 0), (.ref a3), (.int 0), (.int 2)] below meth c s₁ [] 0 0 := Stand.of_body Bd
  have e0 : s₁.heap = h0 := by rw [← hh, Bd.state]; rfl
  have N0 := Fr.nil n0
  refine own_fw (A' := (s₁.setTop (mkF m 12 #[rv a1, iv 0, rv a3, iv 0, iv 2, iv 0, .unset] [.int 0, .ref a1]))) (fun t k => castTop (ef_rmCmpA2_0 m a1 a3) (XS.iconst X0.here hx rfl (hb hby d9_0) (XS.istore X0.here hx rfl (hb hby d9_1) rfl (l' := #[.val (.ref a1), .val (.int 0), .val (.ref a3), .val (.int 0), .val (.int 2), .val (.int 0), .unset]) rfl (XS.iload X0.here hx rfl (hb hby d9_3) rfl (XS.iload X0.here hx rfl (hb hby d9_5) rfl (XS.icmpNo X0.here hx rfl (hb hby d9_7) rfl (XT.ii_ge_f (by decide)) (XS.aloadN X0.here hx rfl (hb hby d9_10) rfl rfl (XS.iloadN X0.here hx rfl (hb hby d9_11) rfl k)))))))) ?_
  obtain ⟨cl1, Ar1, q1, S1, M1, H1, G1⟩ := id P0
  have hin1 : ¬ ((0 : Int32) < 0 ∨ cl1.slots.size ≤ ((0 : Int32)).toNatClampNeg) := inb_of S1 ⟨by decide, by decide⟩
  have hat1 : cl1.slots[((0 : Int32)).toNatClampNeg]? = some (.int c0) := H1.at hin1 rfl
  refine own_fw (A' := (s₁.setTop (mkF m 25 #[rv a1, iv 0, rv a3, iv 0, iv 2, iv 0, iv c0] [.int 0]))) (fun t k => X0.caload hx (j := (0 : Int32)) (v := (.int c0)) (by rw [e0]; exact Ar1.1) (State.isArrayOf_alike hZ.alike Ar1.2.1) Ar1.2.2 hin1 hat1 (g := (mkF m 12 #[rv a1, iv 0, rv a3, iv 0, iv 2, iv 0, .unset] [.int 0, .ref a1])) rfl rfl (hb hby d9_12) _ (XS.istore X0.here hx rfl (hb hby d9_13) rfl (l' := #[.val (.ref a1), .val (.int 0), .val (.ref a3), .val (.int 0), .val (.int 2), .val (.int 0), .val (.int c0)]) rfl (XS.iload X0.here hx rfl (hb hby d9_15) rfl (XS.sipush X0.here hx rfl (hb hby d9_17) (XS.icmpNo X0.here hx rfl (hb hby d9_20) rfl (XT.ii_le_f hc0) (XS.iload X0.here hx rfl (hb hby d9_23) rfl k)))))) ?_
  obtain ⟨fs, hr, hrun, hended, hW, hsame⟩ := X0.leave (v := some (.int 0)) (fun h => by rw [Bd.returns] at h; cases h)
  refine ⟨_, _, ?_, hrun, hended, _, _, rfl, ?_, ⟨_, rfl⟩, hW, hsame.mono (by decide) (by decide)⟩
  · exact retOut X0 hx Bd.returns rfl (Or.inl ⟨rfl, by simp, _, rfl⟩) (hb hby d9_25) hr
  · show Q_rmCmpA2_0 Z a1 a3 kc kb c0 c1 h0 n0 _ s₁.heap _
    rw [e0]
    exact ⟨rfl, N0, (Keep.refl h0 [a3])⟩
theorem ef_rmCmpB2_0 (m : MethodId) (a1 : Addr) : entryFrame m #[(.ref a1), (.int 0), (.int 2)] 6 = mkF m 0 #[.val (.ref a1), .val (.int 0), .val (.int 2), .unset, .unset, .unset] [] := by first | (simp [entryFrame, mkF, argsToLocals, Value.category]; done) | rfl
def Q_rmCmpB2_0 (Z : State) (a1 : Addr) (kc : ClassId) (c0 c1 : Int32) (h0 : Heap) (n0 : Nat) (v : Option Value) (h : Heap) (L : List Loc) : Prop := ∃ b : Addr, ∃ kb : ClassId, v = some (.ref b) ∧ Fr n0 L ∧ Keep h0 h [] ∧ Arv Z h b kb .byte (4 : Int32) [(.int ((c0 >>> ((0 : Int32) &&& 31)).toInt8.toInt32)), (.int ((c0 >>> ((8 : Int32) &&& 31)).toInt8.toInt32)), (.int ((c1 >>> ((0 : Int32) &&& 31)).toInt8.toInt32)), (.int ((c1 >>> ((8 : Int32) &&& 31)).toInt8.toInt32))] (.int 0) ∧ (h0.size ≤ b)
theorem rmCmpB2_0 (l : Launch) (Z : State) (a0 : Array Value) (hw : ∀ d ∈ tables_1, d.before a0 Z = true) (ws : List Jvm.Cond) (a1 : Addr) (kc : ClassId) (c0 c1 : Int32) (h0 : Heap) (n0 : Nat) (Z0 : n0 ≤ h0.size) (P0 : Arv Z h0 a1 kc .char (2 : Int32) [(.int c0), (.int c1)] (.int 0)) (P1 : Sta Z h0 "java/lang/StringUTF16" "$assertionsDisabled" "Z" (.int 1)) (P2 : Sta Z h0 "java/lang/StringUTF16" "HI_BYTE_SHIFT" "I" (.int 0)) (P3 : Sta Z h0 "java/lang/StringUTF16" "LO_BYTE_SHIFT" "I" (.int 8)) (hc0 : (255 : Int32) < c0) (hr0 : own_c16 c0) :
    MetFree l yq3 (head1 (Jvm.Cond.code yq3 jdk_52_method_16_code 6 (some (.array .byte)) :: ws) rq29) (fun a U => a = #[(.ref a1), (.int 0), (.int 2)] ∧ Z.Warmed39 U.vm ∧ U.heap = h0) (fun _ _ _ _ _ => True) (fun _ U o U' => ∃ v L, o = .returned v ∧ Q_rmCmpB2_0 Z a1 kc c0 c1 h0 n0 v U'.heap L ∧ FrameEnd U o U' L rq29.cells rq29.slots) := by
  refine MetFree.of_bodySF (plainFor_of_name pn_java_lang_StringUTF16) hisR ?_
  intro p e s m args below meth c s₁ Bd hml0 hP hK
  obtain ⟨rfl, hZ, hh⟩ := hP
  have hx := Bd.exec
  have hby := Bd.bytes
  have hml : c.maxLocals = 6 := hml0
  have hown : s.vm.findClass "java/lang/StringUTF16" = some m.cls := findClass_of_methodNamed Bd.named
  have hnm := (name_of_methodNamed Bd.named Bd.method).1
  have X0 : Stand p l e rq29 s m #[(.ref a1), (.int 0), (.int 2)] below meth c s₁ [] 0 0 := Stand.of_body Bd
  have e0 : s₁.heap = h0 := by rw [← hh, Bd.state]; rfl
  have N0 := Fr.nil n0
  refine own_fw (A' := (s₁.setTop (mkF m 1 #[rv a1, iv 0, iv 2, .unset, .unset, .unset] [.int 2]))) (fun t k => castTop (ef_rmCmpB2_0 m a1) (XS.iloadN X0.here hx rfl (hb hby d8_0) rfl k)) ?_
  obtain ⟨T1, h1, k1, X1, e1, E1, A1, st1⟩ := newP X0 hx hZ (own_w hw 42 rfl) e0 (g := (mkF m 1 #[rv a1, iv 0, iv 2, .unset, .unset, .unset] [.int 2])) rfl (hb hby d8_1) rfl (by decide) (cap := 2) (by decide) (by decide) (by decide) (by decide)
  obtain ⟨b1, gb1⟩ : ∃ z, z = h0.size := ⟨_, rfl⟩
  have g_b1 : n0 ≤ b1 := Nat.le_trans Z0 (Nat.le_of_eq gb1.symm)
  have sz_b1 : h0.size ≤ b1 := Nat.le_trans (Keep.refl h0 []).1 (Nat.le_of_eq gb1.symm)
  have ne_a1_b1 : a1 ≠ b1 := Nat.ne_of_lt (Nat.lt_of_lt_of_le P0.lt (Nat.le_of_eq gb1.symm))
  rw [← gb1] at A1 st1
  have V_b1 : Arv Z h1 b1 k1 .byte (2 : Int32) [(.int 0), (.int 0)] (.int 0) := (Arv.new A1 (by decide)).pad (pad_rep [] (.int 0) 2)
  have K1 : Keep h0 h1 [] := (Keep.refl h0 []).ext E1
  have Z1 : n0 ≤ h1.size := Nat.le_trans Z0 E1.1
  refine own_fw (A' := (T1.setTop (mkF m 9 #[rv a1, iv 0, iv 2, rv b1, .unset, .unset] [.int 2, .int 0, .ref b1, .int 0, .ref a1]))) (fun t k => st1 _ (XS.astoreN X1.here hx rfl (hb hby d8_3) rfl rfl (l' := #[.val (.ref a1), .val (.int 0), .val (.int 2), .val (.ref b1), .unset, .unset]) rfl (XS.aloadN X1.here hx rfl (hb hby d8_4) rfl rfl (XS.iloadN X1.here hx rfl (hb hby d8_5) rfl (XS.aloadN X1.here hx rfl (hb hby d8_6) rfl rfl (XS.iconst X1.here hx rfl (hb hby d8_7) (XS.iloadN X1.here hx rfl (hb hby d8_8) rfl k))))))) ?_
  obtain ⟨_, _, ⟨T2, L2, k2, n2⟩, -, X2, ⟨Lc2, hQ2, l2, y2, z2⟩, st2⟩ := Jvm.LawKit.callS X1 hx (y := yq1) hown (mvT hZ (own_w hw 43 rfl)) (mvT hZ (own_w hw 44 rfl)) (mvT hZ (own_w hw 40 rfl)) (mvT hZ (own_w hw 45 rfl)) (by decide) (backOf (W := 0) (rmCmpA2_0 l Z a0 hw [] a1 b1 kc k1 c0 c1 h1 n0 Z1 (P0.ext E1) V_b1 g_b1 ne_a1_b1 hc0) hZ (own_w hw 45 rfl) (own_w hw 40 rfl) (by decide) (by decide)) (g := (mkF m 9 #[rv a1, iv 0, iv 2, rv b1, .unset, .unset] [.int 2, .int 0, .ref b1, .int 0, .ref a1])) rfl (by rw [hml]; rfl) (argsL := [(.ref a1), (.int 0), (.ref b1), (.int 0), (.int 2)]) (rest := []) (lenOf pd___CI_BII_I rfl) rfl (by show 2 * 0 + _ ≤ _; exact Nat.le_of_eq rfl) (hb hby d8_9) (fun _ _ => ⟨rfl, e1, (by decide : 1 + 0 ≤ _), (by decide : 2 + 0 ≤ _)⟩)
  dsimp only [Pt.U, Pt.locs, Pt.cells, Pt.slots] at X2 l2 y2 z2 st2 hQ2
  subst l2 y2 z2
  obtain ⟨rfl, Nq2, Kq2⟩ := hQ2
  have Nf2 := Fr.app N0 Nq2
  have K2 : Keep h0 T2.heap [] := K1.trans Kq2 (allS (Or.inr sz_b1) all0)
  have Z2 : n0 ≤ T2.heap.size := Nat.le_trans Z1 Kq2.1
  refine own_fw (A' := (T2.setTop (mkF m 23 #[rv a1, iv 0, iv 2, rv b1, iv 0, .unset] [.int 2, .int 0, .ref a1]))) (fun t k => st2 _ (XS.istore X2.here hx rfl (hb hby d8_12) rfl (l' := #[.val (.ref a1), .val (.int 0), .val (.int 2), .val (.ref b1), .val (.int 0), .unset]) rfl (XS.iload X2.here hx rfl (hb hby d8_14) rfl (XS.iloadN X2.here hx rfl (hb hby d8_16) rfl (XS.icmpNo X2.here hx rfl (hb hby d8_17) rfl (XT.ii_eq_f (by decide)) (XS.aloadN X2.here hx rfl (hb hby d8_20) rfl rfl (XS.iloadN X2.here hx rfl (hb hby d8_21) rfl (XS.iloadN X2.here hx rfl (hb hby d8_22) rfl k)))))))) ?_
  obtain ⟨_, _, ⟨T3, L3, k3, n3⟩, -, X3, ⟨Lc3, hQ3, l3, y3, z3⟩, st3⟩ := Jvm.LawKit.callS X2 hx (y := yq22) hown (mvT hZ (own_w hw 98 rfl)) (mvT hZ (own_w hw 99 rfl)) (mvT hZ (own_w hw 40 rfl)) (mvT hZ (own_w hw 100 rfl)) (by decide) (backOf (W := 0) (rmToB2 l Z a0 hw [] a1 kc c0 c1 T2.heap n0 Z2 ((P0.ext E1).keep Kq2 (ninS ne_a1_b1 nin0)) (own_staKeep (P1.ext E1) Kq2 (allS (own_plainV V_b1) all0)) (own_staKeep (P2.ext E1) Kq2 (allS (own_plainV V_b1) all0)) (own_staKeep (P3.ext E1) Kq2 (allS (own_plainV V_b1) all0))) hZ (own_w hw 100 rfl) (own_w hw 40 rfl) (by decide) (by decide)) (g := (mkF m 23 #[rv a1, iv 0, iv 2, rv b1, iv 0, .unset] [.int 2, .int 0, .ref a1])) rfl (by rw [hml]; rfl) (argsL := [(.ref a1), (.int 0), (.int 2)]) (rest := []) (lenOf pd___CII__B rfl) rfl (by show 2 * 0 + _ ≤ _; exact Nat.le_of_eq rfl) (hb hby d8_23) (fun _ _ => ⟨rfl, rfl, (by decide : 1 + 1 ≤ _), (by decide : 2 + 4 ≤ _)⟩)
  dsimp only [Pt.U, Pt.locs, Pt.cells, Pt.slots] at X3 l3 y3 z3 st3 hQ3
  subst l3 y3 z3
  obtain ⟨b_3, kb_3, rfl, Nq3, Kq3, Fq3_0, gb_3⟩ := hQ3
  have Nf3 := Fr.app Nf2 Nq3
  have K3 : Keep h0 T3.heap [] := K2.trans Kq3 all0
  have sz_b_3 : h0.size ≤ b_3 := Nat.le_trans K2.1 gb_3
  have g_b_3 : n0 ≤ b_3 := Nat.le_trans Z2 gb_3
  have ne_a1_b_3 : a1 ≠ b_3 := Nat.ne_of_lt (Nat.lt_of_lt_of_le ((P0.ext E1).keep Kq2 (ninS ne_a1_b1 nin0)).lt gb_3)
  have Z3 : n0 ≤ T3.heap.size := Nat.le_trans Z2 Kq3.1
  refine own_fw (A' := (T3.setTop (mkF m 32 #[rv a1, iv 0, iv 2, rv b1, iv 0, rv b_3] [.int 0, .ref b_3]))) (fun t k => st3 _ (XS.astore X3.here hx rfl (hb hby d8_26) rfl rfl (l' := #[.val (.ref a1), .val (.int 0), .val (.int 2), .val (.ref b1), .val (.int 0), .val (.ref b_3)]) rfl (XS.aload X3.here hx rfl (hb hby d8_28) rfl rfl (XS.iload X3.here hx rfl (hb hby d8_30) rfl k)))) ?_
  obtain ⟨_, _, ⟨T4, L4, k4, n4⟩, -, X4, ⟨Lc4, hQ4, l4, y4, z4⟩, st4⟩ := Jvm.LawKit.callS X3 hx (y := yq23) hown (mvT hZ (own_w hw 114 rfl)) (mvT hZ (own_w hw 115 rfl)) (mvT hZ (own_w hw 40 rfl)) (mvT hZ (own_w hw 116 rfl)) (by decide) (backOf (W := 0) (rmGet20 l Z a0 hw [] b_3 kb_3 ((c0 >>> ((0 : Int32) &&& 31)).toInt8.toInt32) ((c0 >>> ((8 : Int32) &&& 31)).toInt8.toInt32) ((c1 >>> ((0 : Int32) &&& 31)).toInt8.toInt32) ((c1 >>> ((8 : Int32) &&& 31)).toInt8.toInt32) T3.heap n0 Z3 Fq3_0 (own_staKeep (own_staKeep (P1.ext E1) Kq2 (allS (own_plainV V_b1) all0)) Kq3 all0) (own_staKeep (own_staKeep (P2.ext E1) Kq2 (allS (own_plainV V_b1) all0)) Kq3 all0) (own_staKeep (own_staKeep (P3.ext E1) Kq2 (allS (own_plainV V_b1) all0)) Kq3 all0)) hZ (own_w hw 116 rfl) (own_w hw 40 rfl) (by decide) (by decide)) (g := (mkF m 32 #[rv a1, iv 0, iv 2, rv b1, iv 0, rv b_3] [.int 0, .ref b_3])) rfl (by rw [hml]; rfl) (argsL := [(.ref b_3), (.int 0)]) (rest := []) (lenOf pd___BI_C rfl) rfl (by show 2 * 0 + _ ≤ _; exact Nat.le_of_eq rfl) (hb hby d8_32) (fun _ _ => ⟨rfl, rfl, (by decide : 2 + 0 ≤ _), (by decide : 6 + 0 ≤ _)⟩)
  dsimp only [Pt.U, Pt.locs, Pt.cells, Pt.slots] at X4 l4 y4 z4 st4 hQ4
  subst l4 y4 z4
  obtain ⟨rfl, Nq4, e4⟩ := hQ4
  have Nf4 := Fr.app Nf3 Nq4
  refine own_fw (A' := (T4.setTop (mkF m 56 #[rv a1, iv 0, iv 2, rv b1, iv 0, rv b_3] [.ref b_3]))) (fun t k => st4 _ (XS.sipush X4.here hx rfl (hb hby d8_35) (XS.icmpYes X4.here hx rfl (pc0 := 38) (pc' := 54) rfl (hb hby d8_38) rfl (XT.ii_gt_t (by rw [own_gcc hr0]; exact hc0)) (by decide) (by decide) (XS.aload X4.here hx rfl (hb hby d8_54) rfl rfl k)))) ?_
  obtain ⟨fs, hr, hrun, hended, hW, hsame⟩ := X4.leave (v := some (.ref b_3)) (fun h => by rw [Bd.returns] at h; cases h)
  refine ⟨_, _, ?_, hrun, hended, _, _, rfl, ?_, ⟨_, rfl⟩, hW, hsame.mono (by decide) (by decide)⟩
  · exact retOut X4 hx Bd.returns rfl (Or.inr (Or.inr (Or.inr (Or.inr ⟨rfl, rfl, rfl⟩)))) (hb hby d8_56) hr
  · show Q_rmCmpB2_0 Z a1 kc c0 c1 h0 n0 _ T4.heap _
    rw [e4]
    exact ⟨b_3, kb_3, rfl, Nf4, K3, Fq3_0, sz_b_3⟩
theorem ef_rmStrB2_0 (m : MethodId) (a1 a2 : Addr) : entryFrame m #[(.ref a1), (.ref a2), (.int 0), (.int 2), .null] 6 = mkF m 0 #[.val (.ref a1), .val (.ref a2), .val (.int 0), .val (.int 2), .val .null, .unset] [] := by first | (simp [entryFrame, mkF, argsToLocals, Value.category]; done) | rfl
def Q_rmStrB2_0 (Z : State) (a1 a2 : Addr) (kc : ClassId) (cs c0 c1 : Int32) (h0 : Heap) (n0 : Nat) (v : Option Value) (h : Heap) (L : List Loc) : Prop := ∃ b : Addr, ∃ kb : ClassId, v = none ∧ Fr n0 L ∧ Keep h0 h [a1] ∧ Exa Z h a1 "java/lang/String" ∧ Fld Z h a1 "java/lang/String" "coder" "B" (.int 1) ∧ Fld Z h a1 "java/lang/String" "value" "[B" (.ref b) ∧ Arv Z h b kb .byte (4 : Int32) [(.int ((c0 >>> ((0 : Int32) &&& 31)).toInt8.toInt32)), (.int ((c0 >>> ((8 : Int32) &&& 31)).toInt8.toInt32)), (.int ((c1 >>> ((0 : Int32) &&& 31)).toInt8.toInt32)), (.int ((c1 >>> ((8 : Int32) &&& 31)).toInt8.toInt32))] (.int 0)
theorem rmStrB2_0 (l : Launch) (Z : State) (a0 : Array Value) (hw : ∀ d ∈ tables_1, d.before a0 Z = true) (ws : List Jvm.Cond) (a1 a2 : Addr) (kc : ClassId) (cs c0 c1 : Int32) (h0 : Heap) (n0 : Nat) (Z0 : n0 ≤ h0.size) (P0 : Exa Z h0 a1 "java/lang/String") (P1 : Fld Z h0 a1 "java/lang/String" "coder" "B" (.int 0)) (P2 : Fld Z h0 a1 "java/lang/String" "value" "[B" .null) (P3 : Arv Z h0 a2 kc .char (2 : Int32) [(.int c0), (.int c1)] (.int 0)) (g_a1 : n0 ≤ a1) (ne_a1_a2 : a1 ≠ a2) (P6 : Sta Z h0 "java/lang/String" "COMPACT_STRINGS" "Z" (.int cs)) (hcs : ¬ (cs = (0 : Int32))) (P8 : Sta Z h0 "java/lang/StringUTF16" "$assertionsDisabled" "Z" (.int 1)) (P9 : Sta Z h0 "java/lang/StringUTF16" "HI_BYTE_SHIFT" "I" (.int 0)) (P10 : Sta Z h0 "java/lang/StringUTF16" "LO_BYTE_SHIFT" "I" (.int 8)) (hc0 : (255 : Int32) < c0) (hr0 : own_c16 c0) :
    MetFree l yq6 (head1 (Jvm.Cond.code yq6 jdk_42_method_149_code 6 none :: ws) rq30) (fun a U => a = #[(.ref a1), (.ref a2), (.int 0), (.int 2), .null] ∧ Z.Warmed39 U.vm ∧ U.heap = h0) (fun _ _ _ _ _ => True) (fun _ U o U' => ∃ v L, o = .returned v ∧ Q_rmStrB2_0 Z a1 a2 kc cs c0 c1 h0 n0 v U'.heap L ∧ FrameEnd U o U' L rq30.cells rq30.slots) := by
  refine MetFree.of_bodySF (plainFor_of_name pn_java_lang_String) hisR ?_
  intro p e s m args below meth c s₁ Bd hml0 hP hK
  obtain ⟨rfl, hZ, hh⟩ := hP
  have hx := Bd.exec
  have hby := Bd.bytes
  have hml : c.maxLocals = 6 := hml0
  have hown : s.vm.findClass "java/lang/String" = some m.cls := findClass_of_methodNamed Bd.named
  have hnm := (name_of_methodNamed Bd.named Bd.method).1
  have X0 : Stand p l e rq30 s m #[(.ref a1), (.ref a2), (.int 0), (.int 2), .null] below meth c s₁ [] 0 0 := Stand.of_body Bd
  have e0 : s₁.heap = h0 := by rw [← hh, Bd.state]; rfl
  have N0 := Fr.nil n0
  refine own_fw (A' := (s₁.setTop (mkF m 1 #[rv a1, rv a2, iv 0, iv 2, .val (.null), .unset] [.ref a1]))) (fun t k => castTop (ef_rmStrB2_0 m a1 a2) (XS.aloadN X0.here hx rfl (hb hby d7_0) rfl rfl k)) ?_
  obtain ⟨T1, X1, e1, st1⟩ := initO X0 hx hZ hown (own_w hw 36 rfl) (own_w hw 7 rfl) (own_w hw 8 rfl) e0 (g := (mkF m 1 #[rv a1, rv a2, iv 0, iv 2, .val (.null), .unset] [.ref a1])) rfl (by rw [hml]; rfl) rfl (hb hby d7_1) (by decide) (W := 0) (by show 2 * 0 + _ ≤ _; exact Nat.le_of_eq rfl) (by decide)
  refine own_fw (A' := (T1.setTop (mkF m 27 #[rv a1, rv a2, iv 0, iv 2, .val (.null), .unset] []))) (fun t k => st1 _ (XS.iloadN X1.here hx rfl (hb hby d7_4) rfl (XS.ifYes X1.here hx rfl (pc0 := 5) (pc' := 27) rfl (hb hby d7_5) rfl (XT.i0_ne_t (by decide)) (by decide) (by decide) k))) ?_
  obtain ⟨T2, X2, e2, st2⟩ := getS2 X1 hx hZ hown (host := "") (Or.inl (own_w hw 37 rfl)) Via.refl e1 P6 (g := (mkF m 27 #[rv a1, rv a2, iv 0, iv 2, .val (.null), .unset] [])) rfl (hb hby d7_27)
  refine own_fw (A' := (T2.setTop (mkF m 36 #[rv a1, rv a2, iv 0, iv 2, .val (.null), .unset] [.int 2, .int 0, .ref a2]))) (fun t k => st2 _ (XS.ifNo X2.here hx rfl (hb hby d7_30) rfl (XT.i0_eq_f hcs) (XS.aloadN X2.here hx rfl (hb hby d7_33) rfl rfl (XS.iloadN X2.here hx rfl (hb hby d7_34) rfl (XS.iloadN X2.here hx rfl (hb hby d7_35) rfl k))))) ?_
  obtain ⟨_, _, ⟨T3, L3, k3, n3⟩, -, X3, ⟨Lc3, hQ3, l3, y3, z3⟩, st3⟩ := Jvm.LawKit.callS X2 hx (y := yq3) hown (mvT hZ (own_w hw 38 rfl)) (mvT hZ (own_w hw 39 rfl)) (mvT hZ (own_w hw 40 rfl)) (mvT hZ (own_w hw 41 rfl)) (by decide) (backOf (W := 0) (rmCmpB2_0 l Z a0 hw [] a2 kc c0 c1 h0 n0 Z0 P3 P8 P9 P10 hc0 hr0) hZ (own_w hw 41 rfl) (own_w hw 40 rfl) (by decide) (by decide)) (g := (mkF m 36 #[rv a1, rv a2, iv 0, iv 2, .val (.null), .unset] [.int 2, .int 0, .ref a2])) rfl (by rw [hml]; rfl) (argsL := [(.ref a2), (.int 0), (.int 2)]) (rest := []) (lenOf pd___CII__B rfl) rfl (by show 2 * 0 + _ ≤ _; exact Nat.le_of_eq rfl) (hb hby d7_36) (fun _ _ => ⟨rfl, e2, (by decide : 0 + 2 ≤ _), (by decide : 0 + 6 ≤ _)⟩)
  dsimp only [Pt.U, Pt.locs, Pt.cells, Pt.slots] at X3 l3 y3 z3 st3 hQ3
  subst l3 y3 z3
  obtain ⟨b_3, kb_3, rfl, Nq3, Kq3, Fq3_0, gb_3⟩ := hQ3
  have Nf3 := Fr.app N0 Nq3
  have K3 : Keep h0 T3.heap [a1] := (Keep.refl h0 [a1]).trans Kq3 all0
  have sz_b_3 : h0.size ≤ b_3 := Nat.le_trans (Keep.refl h0 [a1]).1 gb_3
  have g_b_3 : n0 ≤ b_3 := Nat.le_trans Z0 gb_3
  have ne_a1_b_3 : a1 ≠ b_3 := Nat.ne_of_lt (Nat.lt_of_lt_of_le P0.lt gb_3)
  have ne_a2_b_3 : a2 ≠ b_3 := Nat.ne_of_lt (Nat.lt_of_lt_of_le P3.lt gb_3)
  have Z3 : n0 ≤ T3.heap.size := Nat.le_trans Z0 Kq3.1
  refine own_fw (A' := (T3.setTop (mkF m 45 #[rv a1, rv a2, iv 0, iv 2, .val (.null), rv b_3] [.int 2, .ref b_3, .ref a1]))) (fun t k => st3 _ (XS.astore X3.here hx rfl (hb hby d7_39) rfl rfl (l' := #[.val (.ref a1), .val (.ref a2), .val (.int 0), .val (.int 2), .val .null, .val (.ref b_3)]) rfl (XS.aloadN X3.here hx rfl (hb hby d7_41) rfl rfl (XS.aload X3.here hx rfl (hb hby d7_42) rfl rfl (XS.iloadN X3.here hx rfl (hb hby d7_44) rfl k))))) ?_
  obtain ⟨_, _, ⟨T4, L4, k4, n4⟩, -, X4, ⟨Lc4, hQ4, l4, y4, z4⟩, st4⟩ := Jvm.LawKit.callS X3 hx (y := yq4) hown (mvT hZ (own_w hw 46 rfl)) (mvT hZ (own_w hw 47 rfl)) (mvT hZ (own_w hw 40 rfl)) (mvT hZ (own_w hw 48 rfl)) (by decide) (backOf (W := 1) (rmCoderU2 l Z a0 hw [] b_3 kb_3 ((c0 >>> ((0 : Int32) &&& 31)).toInt8.toInt32) ((c0 >>> ((8 : Int32) &&& 31)).toInt8.toInt32) ((c1 >>> ((0 : Int32) &&& 31)).toInt8.toInt32) ((c1 >>> ((8 : Int32) &&& 31)).toInt8.toInt32) T3.heap n0 Z3 Fq3_0) hZ (own_w hw 48 rfl) (own_w hw 40 rfl) (by decide) (by decide)) (g := (mkF m 45 #[rv a1, rv a2, iv 0, iv 2, .val (.null), rv b_3] [.int 2, .ref b_3, .ref a1])) rfl (by rw [hml]; rfl) (argsL := [(.ref b_3), (.int 2)]) (rest := [(.ref a1)]) (lenOf pd___BI_B rfl) rfl (by show 2 * 0 + _ ≤ _; exact Nat.le_of_eq rfl) (hb hby d7_45) (fun _ _ => ⟨rfl, rfl, (by decide : 2 + 0 ≤ _), (by decide : 6 + 0 ≤ _)⟩)
  dsimp only [Pt.U, Pt.locs, Pt.cells, Pt.slots] at X4 l4 y4 z4 st4 hQ4
  subst l4 y4 z4
  obtain ⟨rfl, Nq4, e4⟩ := hQ4
  have Nf4 := Fr.app Nf3 Nq4
  refine own_fw (A' := (T4.setTop (mkF m 48 #[rv a1, rv a2, iv 0, iv 2, .val (.null), rv b_3] [.int 1, .ref a1]))) (fun t k => st4 _ k) ?_
  obtain ⟨T5, h5, X5, e5, W5, st5⟩ := putFN X4 hx hZ hown (own_w hw 49 rfl) Via.refl e4 (P1.keep Kq3 nin0) (P0.keep Kq3) (Or.inr ⟨(own_w hw 50 rfl), rfl, hnm⟩) (own_w hw 26 rfl) (ty := .byte) (v' := (.int 1)) (by decide) rfl rfl (g := (mkF m 48 #[rv a1, rv a2, iv 0, iv 2, .val (.null), rv b_3] [.int 1, .ref a1])) rfl rfl (hb hby d7_48)
  have Fw5 : Fld Z h5 a1 "java/lang/String" "coder" "B" (.int 1) := (P1.keep Kq3 nin0).same W5
  have Nf5 := Fr.snoc X5 Nf4 g_a1
  have K5 : Keep h0 h5 [a1] := K3.wr W5 (Or.inl (List.mem_of_getElem? (i := 0) rfl))
  have Z5 : n0 ≤ h5.size := Nat.le_trans Z3 (Keep.of_wr W5).1
  refine own_fw (A' := (T5.setTop (mkF m 54 #[rv a1, rv a2, iv 0, iv 2, .val (.null), rv b_3] [.ref b_3, .ref a1]))) (fun t k => st5 _ (XS.aloadN X5.here hx rfl (hb hby d7_51) rfl rfl (XS.aload X5.here hx rfl (hb hby d7_52) rfl rfl k))) ?_
  obtain ⟨T6, h6, X6, e6, W6, st6⟩ := putF X5 hx hZ hown (host := "") (Or.inl (own_w hw 51 rfl)) Via.refl e5 ((P2.keep Kq3 nin0).other W5 (Or.inr (slot_ne (Or.inr (own_w hw 52 rfl)) (Or.inr (own_w hw 50 rfl)) (by decide) (t := (.array .byte)) (t' := .byte) (by decide) (by decide)))) ((P0.keep Kq3).wr W5) (Or.inr ⟨(own_w hw 52 rfl), rfl, hnm⟩) (own_w hw 26 rfl) (ty := (.array .byte)) (by decide) rfl rfl (g := (mkF m 54 #[rv a1, rv a2, iv 0, iv 2, .val (.null), rv b_3] [.ref b_3, .ref a1])) rfl rfl (hb hby d7_54)
  have Fw6 : Fld Z h6 a1 "java/lang/String" "value" "[B" (.ref b_3) := ((P2.keep Kq3 nin0).other W5 (Or.inr (slot_ne (Or.inr (own_w hw 52 rfl)) (Or.inr (own_w hw 50 rfl)) (by decide) (t := (.array .byte)) (t' := .byte) (by decide) (by decide)))).same W6
  have Nf6 := Fr.snoc X6 Nf5 g_a1
  have K6 : Keep h0 h6 [a1] := K5.wr W6 (Or.inl (List.mem_of_getElem? (i := 0) rfl))
  have Z6 : n0 ≤ h6.size := Nat.le_trans Z5 (Keep.of_wr W6).1
  refine own_fw (A' := (T6.setTop (mkF m 57 #[rv a1, rv a2, iv 0, iv 2, .val (.null), rv b_3] []))) (fun t k => st6 _ k) ?_
  obtain ⟨fs, hr, hrun, hended, hW, hsame⟩ := X6.leave (v := none) (fun _ => rfl)
  refine ⟨_, _, ?_, hrun, hended, _, _, rfl, ?_, ⟨_, rfl⟩, hW, hsame.mono (by decide) (by decide)⟩
  · exact X6.returnOut hx Bd.returns (hb hby d7_57) hr
  · show Q_rmStrB2_0 Z a1 a2 kc cs c0 c1 h0 n0 _ T6.heap _
    rw [e6]
    exact ⟨b_3, kb_3, rfl, Nf6, K6, (((P0.keep Kq3).wr W5).wr W6), (Fw5.other W6 (Or.inr (slot_ne (Or.inr (own_w hw 50 rfl)) (Or.inr (own_w hw 52 rfl)) (by decide) (t := .byte) (t' := (.array .byte)) (by decide) (by decide)))), Fw6, ((Fq3_0.other W5 (Ne.symm ne_a1_b_3)).other W6 (Ne.symm ne_a1_b_3))⟩
theorem ef_rmStrA2_0 (m : MethodId) (a1 a2 : Addr) : entryFrame m #[(.ref a1), (.ref a2)] 2 = mkF m 0 #[.val (.ref a1), .val (.ref a2)] [] := by first | (simp [entryFrame, mkF, argsToLocals, Value.category]; done) | rfl
def Q_rmStrA2_0 (Z : State) (a1 a2 : Addr) (kc : ClassId) (cs c0 c1 : Int32) (h0 : Heap) (n0 : Nat) (v : Option Value) (h : Heap) (L : List Loc) : Prop := ∃ b : Addr, ∃ kb : ClassId, v = none ∧ Fr n0 L ∧ Keep h0 h [a1] ∧ Exa Z h a1 "java/lang/String" ∧ Fld Z h a1 "java/lang/String" "coder" "B" (.int 1) ∧ Fld Z h a1 "java/lang/String" "value" "[B" (.ref b) ∧ Arv Z h b kb .byte (4 : Int32) [(.int ((c0 >>> ((0 : Int32) &&& 31)).toInt8.toInt32)), (.int ((c0 >>> ((8 : Int32) &&& 31)).toInt8.toInt32)), (.int ((c1 >>> ((0 : Int32) &&& 31)).toInt8.toInt32)), (.int ((c1 >>> ((8 : Int32) &&& 31)).toInt8.toInt32))] (.int 0)
theorem rmStrA2_0 (l : Launch) (Z : State) (a0 : Array Value) (hw : ∀ d ∈ tables_1, d.before a0 Z = true) (ws : List Jvm.Cond) (a1 a2 : Addr) (kc : ClassId) (cs c0 c1 : Int32) (h0 : Heap) (n0 : Nat) (Z0 : n0 ≤ h0.size) (P0 : Exa Z h0 a1 "java/lang/String") (P1 : Fld Z h0 a1 "java/lang/String" "coder" "B" (.int 0)) (P2 : Fld Z h0 a1 "java/lang/String" "value" "[B" .null) (P3 : Arv Z h0 a2 kc .char (2 : Int32) [(.int c0), (.int c1)] (.int 0)) (g_a1 : n0 ≤ a1) (ne_a1_a2 : a1 ≠ a2) (P6 : Sta Z h0 "java/lang/String" "COMPACT_STRINGS" "Z" (.int cs)) (hcs : ¬ (cs = (0 : Int32))) (P8 : Sta Z h0 "java/lang/StringUTF16" "$assertionsDisabled" "Z" (.int 1)) (P9 : Sta Z h0 "java/lang/StringUTF16" "HI_BYTE_SHIFT" "I" (.int 0)) (P10 : Sta Z h0 "java/lang/StringUTF16" "LO_BYTE_SHIFT" "I" (.int 8)) (hc0 : (255 : Int32) < c0) (hr0 : own_c16 c0) :
    MetFree l yq8 (head1 (Jvm.Cond.code yq8 jdk_42_method_3_code 2 none :: ws) rq31) (fun a U => a = #[(.ref a1), (.ref a2)] ∧ Z.Warmed39 U.vm ∧ U.heap = h0) (fun _ _ _ _ _ => True) (fun _ U o U' => ∃ v L, o = .returned v ∧ Q_rmStrA2_0 Z a1 a2 kc cs c0 c1 h0 n0 v U'.heap L ∧ FrameEnd U o U' L rq31.cells rq31.slots) := by
  refine MetFree.of_bodySF (plainFor_of_name pn_java_lang_String) hisR ?_
  intro p e s m args below meth c s₁ Bd hml0 hP hK
  obtain ⟨rfl, hZ, hh⟩ := hP
  have hx := Bd.exec
  have hby := Bd.bytes
  have hml : c.maxLocals = 2 := hml0
  have hown : s.vm.findClass "java/lang/String" = some m.cls := findClass_of_methodNamed Bd.named
  have hnm := (name_of_methodNamed Bd.named Bd.method).1
  have X0 : Stand p l e rq31 s m #[(.ref a1), (.ref a2)] below meth c s₁ [] 0 0 := Stand.of_body Bd
  have e0 : s₁.heap = h0 := by rw [← hh, Bd.state]; rfl
  have N0 := Fr.nil n0
  refine own_fw (A' := (s₁.setTop (mkF m 4 #[rv a1, rv a2] [.ref a2, .int 0, .ref a2, .ref a1]))) (fun t k => castTop (ef_rmStrA2_0 m a1 a2) (XS.aloadN X0.here hx rfl (hb hby d6_0) rfl rfl (XS.aloadN X0.here hx rfl (hb hby d6_1) rfl rfl (XS.iconst X0.here hx rfl (hb hby d6_2) (XS.aloadN X0.here hx rfl (hb hby d6_3) rfl rfl k))))) ?_
  obtain ⟨cl1, Ar1, q1, S1, M1, H1, G1⟩ := id P3
  refine own_fw (A' := (s₁.setTop (mkF m 5 #[rv a1, rv a2] [.int 2, .int 0, .ref a2, .ref a1]))) (fun t k => X0.arraylength hx (by rw [e0]; exact Ar1.1) (State.isArrayOf_alike hZ.alike Ar1.2.1) (g := (mkF m 4 #[rv a1, rv a2] [.ref a2, .int 0, .ref a2, .ref a1])) rfl rfl (hb hby d6_4) _ (by rw [len_of S1 M1]; exact k)) ?_
  refine own_fw (A' := (s₁.setTop (mkF m 6 #[rv a1, rv a2] [.null, .int 2, .int 0, .ref a2, .ref a1]))) (fun t k => XS.aconstNull X0.here hx rfl (hb hby d6_5) k) ?_
  obtain ⟨_, _, ⟨T2, L2, k2, n2⟩, -, X2, ⟨Lc2, hQ2, l2, y2, z2⟩, st2⟩ := X0.specialBack hx (y := yq6) rfl hown (mvT hZ (own_w hw 32 rfl)) (mvT hZ (own_w hw 33 rfl)) (mvT hZ (own_w hw 35 rfl)) (by decide) (backOf (W := 0) (rmStrB2_0 l Z a0 hw [] a1 a2 kc cs c0 c1 h0 n0 Z0 P0 P1 P2 P3 g_a1 ne_a1_a2 P6 hcs P8 P9 P10 hc0 hr0) hZ (own_w hw 35 rfl) (own_w hw 27 rfl) (by decide) (by decide)) (g := (mkF m 6 #[rv a1, rv a2] [.null, .int 2, .int 0, .ref a2, .ref a1])) rfl (by rw [hml]; rfl) (Steps.refl _) (a := a1) (argsL := [(.ref a2), (.int 0), (.int 2), .null]) (rest := []) (lenOf pd___CIILjava_lang_Void__V rfl) rfl (by show 2 * 0 + _ ≤ _; exact Nat.le_of_eq rfl) (hb hby d6_6) (fun _ _ => ⟨rfl, e0, (by decide : 0 + 2 ≤ _), (by decide : 0 + 6 ≤ _)⟩)
  dsimp only [Pt.U, Pt.locs, Pt.cells, Pt.slots] at X2 l2 y2 z2 st2 hQ2
  subst l2 y2 z2
  obtain ⟨b_2, kb_2, rfl, Nq2, Kq2, Fq2_0, Fq2_1, Fq2_2, Fq2_3⟩ := hQ2
  have Nf2 := Fr.app N0 Nq2
  have K2 : Keep h0 T2.heap [a1] := (Keep.refl h0 [a1]).trans Kq2 (allS (Or.inl (List.mem_of_getElem? (i := 0) rfl)) all0)
  have Z2 : n0 ≤ T2.heap.size := Nat.le_trans Z0 Kq2.1
  refine own_fw (A' := (T2.setTop (mkF m 9 #[rv a1, rv a2] []))) (fun t k => st2.trans k) ?_
  obtain ⟨fs, hr, hrun, hended, hW, hsame⟩ := X2.leave (v := none) (fun _ => rfl)
  refine ⟨_, _, ?_, hrun, hended, _, _, rfl, ?_, ⟨_, rfl⟩, hW, hsame.mono (by decide) (by decide)⟩
  · exact X2.returnOut hx Bd.returns (hb hby d6_9) hr
  · show Q_rmStrA2_0 Z a1 a2 kc cs c0 c1 h0 n0 _ T2.heap _
    exact ⟨b_2, kb_2, rfl, Nf2, K2, Fq2_0, Fq2_1, Fq2_2, Fq2_3⟩
theorem ef_rmCmpA2_1 (m : MethodId) (a1 a3 : Addr) : entryFrame m #[(.ref a1), (.int 0), (.ref a3), (.int 0), (.int 2)] 7 = mkF m 0 #[.val (.ref a1), .val (.int 0), .val (.ref a3), .val (.int 0), .val (.int 2), .unset, .unset] [] := by first | (simp [entryFrame, mkF, argsToLocals, Value.category]; done) | rfl
def Q_rmCmpA2_1 (Z : State) (a1 a3 : Addr) (kc kb : ClassId) (c0 c1 : Int32) (h0 : Heap) (n0 : Nat) (v : Option Value) (h : Heap) (L : List Loc) : Prop := v = some (.int 1) ∧ Fr n0 L ∧ Keep h0 h [a3]
theorem rmCmpA2_1 (l : Launch) (Z : State) (a0 : Array Value) (hw : ∀ d ∈ tables_1, d.before a0 Z = true) (ws : List Jvm.Cond) (a1 a3 : Addr) (kc kb : ClassId) (c0 c1 : Int32) (h0 : Heap) (n0 : Nat) (Z0 : n0 ≤ h0.size) (P0 : Arv Z h0 a1 kc .char (2 : Int32) [(.int c0), (.int c1)] (.int 0)) (P1 : Arv Z h0 a3 kb .byte (2 : Int32) [(.int 0), (.int 0)] (.int 0)) (g_a3 : n0 ≤ a3) (ne_a1_a3 : a1 ≠ a3) (hc0 : ¬ ((255 : Int32) < c0)) (hc1 : (255 : Int32) < c1) :
    MetFree l yq1 (head1 (Jvm.Cond.code yq1 jdk_52_method_21_code 7 (some .int) :: ws) rq0) (fun a U => a = #[(.ref a1), (.int 0), (.ref a3), (.int 0), (.int 2)] ∧ Z.Warmed39 U.vm ∧ U.heap = h0) (fun _ _ _ _ _ => True) (fun _ U o U' => ∃ v L, o = .returned v ∧ Q_rmCmpA2_1 Z a1 a3 kc kb c0 c1 h0 n0 v U'.heap L ∧ FrameEnd U o U' L rq0.cells rq0.slots) := by
  refine MetFree.of_bodySF (plainFor_of_name pn_java_lang_StringUTF16) hisR ?_
  intro p e s m args below meth c s₁ Bd hml0 hP hK
  obtain ⟨rfl, hZ, hh⟩ := hP
  have hx := Bd.exec
  have hby := Bd.bytes
  have hml : c.maxLocals = 7 := hml0
  have hown : s.vm.findClass "java/lang/StringUTF16" = some m.cls := findClass_of_methodNamed Bd.named
  have hnm := (name_of_methodNamed Bd.named Bd.method).1
  have X0 : Stand p l e rq0 s m #[(.ref a1), (.int 0), (.ref a3), (.int 0), (.int 2)] below meth c s₁ [] 0 0 := Stand.of_body Bd
  have e0 : s₁.heap = h0 := by rw [← hh, Bd.state]; rfl
  have N0 := Fr.nil n0
  refine own_fw (A' := (s₁.setTop (mkF m 12 #[rv a1, iv 0, rv a3, iv 0, iv 2, iv 0, .unset] [.int 0, .ref a1]))) (fun t k => castTop (ef_rmCmpA2_1 m a1 a3) (XS.iconst X0.here hx rfl (hb hby d9_0) (XS.istore X0.here hx rfl (hb hby d9_1) rfl (l' := #[.val (.ref a1), .val (.int 0), .val (.ref a3), .val (.int 0), .val (.int 2), .val (.int 0), .unset]) rfl (XS.iload X0.here hx rfl (hb hby d9_3) rfl (XS.iload X0.here hx rfl (hb hby d9_5) rfl (XS.icmpNo X0.here hx rfl (hb hby d9_7) rfl (XT.ii_ge_f (by decide)) (XS.aloadN X0.here hx rfl (hb hby d9_10) rfl rfl (XS.iloadN X0.here hx rfl (hb hby d9_11) rfl k)))))))) ?_
  obtain ⟨cl1, Ar1, q1, S1, M1, H1, G1⟩ := id P0
  have hin1 : ¬ ((0 : Int32) < 0 ∨ cl1.slots.size ≤ ((0 : Int32)).toNatClampNeg) := inb_of S1 ⟨by decide, by decide⟩
  have hat1 : cl1.slots[((0 : Int32)).toNatClampNeg]? = some (.int c0) := H1.at hin1 rfl
  refine own_fw (A' := (s₁.setTop (mkF m 31 #[rv a1, iv 0, rv a3, iv 0, iv 2, iv 0, iv c0] [.int (c0.toInt8.toInt32), .int 0, .ref a3]))) (fun t k => X0.caload hx (j := (0 : Int32)) (v := (.int c0)) (by rw [e0]; exact Ar1.1) (State.isArrayOf_alike hZ.alike Ar1.2.1) Ar1.2.2 hin1 hat1 (g := (mkF m 12 #[rv a1, iv 0, rv a3, iv 0, iv 2, iv 0, .unset] [.int 0, .ref a1])) rfl rfl (hb hby d9_12) _ (XS.istore X0.here hx rfl (hb hby d9_13) rfl (l' := #[.val (.ref a1), .val (.int 0), .val (.ref a3), .val (.int 0), .val (.int 2), .val (.int 0), .val (.int c0)]) rfl (XS.iload X0.here hx rfl (hb hby d9_15) rfl (XS.sipush X0.here hx rfl (hb hby d9_17) (XS.icmpYes X0.here hx rfl (pc0 := 20) (pc' := 26) rfl (hb hby d9_20) rfl (XT.ii_le_t hc0) (by decide) (by decide) (XS.aloadN X0.here hx rfl (hb hby d9_26) rfl rfl (XS.iloadN X0.here hx rfl (hb hby d9_27) rfl (XS.iload X0.here hx rfl (hb hby d9_28) rfl (XS.i2b X0.here hx rfl (hb hby d9_30) rfl k))))))))) ?_
  obtain ⟨cl2, Ar2, q2, S2, M2, H2, G2⟩ := id P1
  have hin2 : ¬ ((0 : Int32) < 0 ∨ cl2.slots.size ≤ ((0 : Int32)).toNatClampNeg) := inb_of S2 ⟨by decide, by decide⟩
  obtain ⟨T2, h2, X2, e2, W2, st2⟩ := stB X0 hx hZ e0 Ar2 (j := (0 : Int32)) hin2 (g := (mkF m 31 #[rv a1, iv 0, rv a3, iv 0, iv 2, iv 0, iv c0] [.int (c0.toInt8.toInt32), .int 0, .ref a3])) rfl rfl (hb hby d9_31)
  rw [own_narB] at W2
  have V2 : Arv Z h2 a3 kb .byte (2 : Int32) [(.int (c0.toInt8.toInt32)), (.int 0)] (.int 0) := Arv.set Ar2 q2 S2 M2 H2 G2 (fits_nar_byte _) W2 0 rfl (Nat.le_of_ble_eq_true rfl)
  have Nf2 := Fr.snoc X2 N0 g_a3
  have K2 : Keep h0 h2 [a3] := (Keep.refl h0 [a3]).wr W2 (Or.inl (List.mem_of_getElem? (i := 0) rfl))
  have Z2 : n0 ≤ h2.size := Nat.le_trans Z0 (Keep.of_wr W2).1
  refine own_fw (A' := (T2.setTop (mkF m 12 #[rv a1, iv 1, rv a3, iv 1, iv 2, iv 1, iv c0] [.int 1, .ref a1]))) (fun t k => st2 _ (XS.iinc X2.here hx rfl (hb hby d9_32) rfl (l' := #[.val (.ref a1), .val (.int 1), .val (.ref a3), .val (.int 0), .val (.int 2), .val (.int 0), .val (.int c0)]) rfl (XS.iinc X2.here hx rfl (hb hby d9_35) rfl (l' := #[.val (.ref a1), .val (.int 1), .val (.ref a3), .val (.int 1), .val (.int 2), .val (.int 0), .val (.int c0)]) rfl (XS.iinc X2.here hx rfl (hb hby d9_38) rfl (l' := #[.val (.ref a1), .val (.int 1), .val (.ref a3), .val (.int 1), .val (.int 2), .val (.int 1), .val (.int c0)]) rfl (XS.goto X2.here hx rfl (pc0 := 41) (pc' := 3) rfl (hb hby d9_41) (by decide) (by decide) (XS.iload X2.here hx rfl (hb hby d9_3) rfl (XS.iload X2.here hx rfl (hb hby d9_5) rfl (XS.icmpNo X2.here hx rfl (hb hby d9_7) rfl (XT.ii_ge_f (by decide)) (XS.aloadN X2.here hx rfl (hb hby d9_10) rfl rfl (XS.iloadN X2.here hx rfl (hb hby d9_11) rfl k)))))))))) ?_
  obtain ⟨cl3, Ar3, q3, S3, M3, H3, G3⟩ := id (P0.other W2 ne_a1_a3)
  have hin3 : ¬ ((1 : Int32) < 0 ∨ cl3.slots.size ≤ ((1 : Int32)).toNatClampNeg) := inb_of S3 ⟨by decide, by decide⟩
  have hat3 : cl3.slots[((1 : Int32)).toNatClampNeg]? = some (.int c1) := H3.at hin3 rfl
  refine own_fw (A' := (T2.setTop (mkF m 25 #[rv a1, iv 1, rv a3, iv 1, iv 2, iv 1, iv c1] [.int 1]))) (fun t k => X2.caload hx (j := (1 : Int32)) (v := (.int c1)) (by rw [e2]; exact Ar3.1) (State.isArrayOf_alike hZ.alike Ar3.2.1) Ar3.2.2 hin3 hat3 (g := (mkF m 12 #[rv a1, iv 1, rv a3, iv 1, iv 2, iv 1, iv c0] [.int 1, .ref a1])) rfl rfl (hb hby d9_12) _ (XS.istore X2.here hx rfl (hb hby d9_13) rfl (l' := #[.val (.ref a1), .val (.int 1), .val (.ref a3), .val (.int 1), .val (.int 2), .val (.int 1), .val (.int c1)]) rfl (XS.iload X2.here hx rfl (hb hby d9_15) rfl (XS.sipush X2.here hx rfl (hb hby d9_17) (XS.icmpNo X2.here hx rfl (hb hby d9_20) rfl (XT.ii_le_f hc1) (XS.iload X2.here hx rfl (hb hby d9_23) rfl k)))))) ?_
  obtain ⟨fs, hr, hrun, hended, hW, hsame⟩ := X2.leave (v := some (.int 1)) (fun h => by rw [Bd.returns] at h; cases h)
  refine ⟨_, _, ?_, hrun, hended, _, _, rfl, ?_, ⟨_, rfl⟩, hW, hsame.mono (by decide) (by decide)⟩
  · exact retOut X2 hx Bd.returns rfl (Or.inl ⟨rfl, by simp, _, rfl⟩) (hb hby d9_25) hr
  · show Q_rmCmpA2_1 Z a1 a3 kc kb c0 c1 h0 n0 _ T2.heap _
    rw [e2]
    exact ⟨rfl, Nf2, K2⟩
theorem ef_rmCmpB2_1 (m : MethodId) (a1 : Addr) : entryFrame m #[(.ref a1), (.int 0), (.int 2)] 6 = mkF m 0 #[.val (.ref a1), .val (.int 0), .val (.int 2), .unset, .unset, .unset] [] := by first | (simp [entryFrame, mkF, argsToLocals, Value.category]; done) | rfl
def Q_rmCmpB2_1 (Z : State) (a1 : Addr) (kc : ClassId) (c0 c1 : Int32) (h0 : Heap) (n0 : Nat) (v : Option Value) (h : Heap) (L : List Loc) : Prop := ∃ b : Addr, ∃ kb : ClassId, v = some (.ref b) ∧ Fr n0 L ∧ Keep h0 h [] ∧ Arv Z h b kb .byte (4 : Int32) [(.int ((c0 >>> ((0 : Int32) &&& 31)).toInt8.toInt32)), (.int ((c0 >>> ((8 : Int32) &&& 31)).toInt8.toInt32)), (.int ((c1 >>> ((0 : Int32) &&& 31)).toInt8.toInt32)), (.int ((c1 >>> ((8 : Int32) &&& 31)).toInt8.toInt32))] (.int 0) ∧ (h0.size ≤ b)
theorem rmCmpB2_1 (l : Launch) (Z : State) (a0 : Array Value) (hw : ∀ d ∈ tables_1, d.before a0 Z = true) (ws : List Jvm.Cond) (a1 : Addr) (kc : ClassId) (c0 c1 : Int32) (h0 : Heap) (n0 : Nat) (Z0 : n0 ≤ h0.size) (P0 : Arv Z h0 a1 kc .char (2 : Int32) [(.int c0), (.int c1)] (.int 0)) (P1 : Sta Z h0 "java/lang/StringUTF16" "$assertionsDisabled" "Z" (.int 1)) (P2 : Sta Z h0 "java/lang/StringUTF16" "HI_BYTE_SHIFT" "I" (.int 0)) (P3 : Sta Z h0 "java/lang/StringUTF16" "LO_BYTE_SHIFT" "I" (.int 8)) (hc0 : ¬ ((255 : Int32) < c0)) (hc1 : (255 : Int32) < c1) (hr1 : own_c16 c1) :
    MetFree l yq3 (head1 (Jvm.Cond.code yq3 jdk_52_method_16_code 6 (some (.array .byte)) :: ws) rq29) (fun a U => a = #[(.ref a1), (.int 0), (.int 2)] ∧ Z.Warmed39 U.vm ∧ U.heap = h0) (fun _ _ _ _ _ => True) (fun _ U o U' => ∃ v L, o = .returned v ∧ Q_rmCmpB2_1 Z a1 kc c0 c1 h0 n0 v U'.heap L ∧ FrameEnd U o U' L rq29.cells rq29.slots) := by
  refine MetFree.of_bodySF (plainFor_of_name pn_java_lang_StringUTF16) hisR ?_
  intro p e s m args below meth c s₁ Bd hml0 hP hK
  obtain ⟨rfl, hZ, hh⟩ := hP
  have hx := Bd.exec
  have hby := Bd.bytes
  have hml : c.maxLocals = 6 := hml0
  have hown : s.vm.findClass "java/lang/StringUTF16" = some m.cls := findClass_of_methodNamed Bd.named
  have hnm := (name_of_methodNamed Bd.named Bd.method).1
  have X0 : Stand p l e rq29 s m #[(.ref a1), (.int 0), (.int 2)] below meth c s₁ [] 0 0 := Stand.of_body Bd
  have e0 : s₁.heap = h0 := by rw [← hh, Bd.state]; rfl
  have N0 := Fr.nil n0
  refine own_fw (A' := (s₁.setTop (mkF m 1 #[rv a1, iv 0, iv 2, .unset, .unset, .unset] [.int 2]))) (fun t k => castTop (ef_rmCmpB2_1 m a1) (XS.iloadN X0.here hx rfl (hb hby d8_0) rfl k)) ?_
  obtain ⟨T1, h1, k1, X1, e1, E1, A1, st1⟩ := newP X0 hx hZ (own_w hw 42 rfl) e0 (g := (mkF m 1 #[rv a1, iv 0, iv 2, .unset, .unset, .unset] [.int 2])) rfl (hb hby d8_1) rfl (by decide) (cap := 2) (by decide) (by decide) (by decide) (by decide)
  obtain ⟨b1, gb1⟩ : ∃ z, z = h0.size := ⟨_, rfl⟩
  have g_b1 : n0 ≤ b1 := Nat.le_trans Z0 (Nat.le_of_eq gb1.symm)
  have sz_b1 : h0.size ≤ b1 := Nat.le_trans (Keep.refl h0 []).1 (Nat.le_of_eq gb1.symm)
  have ne_a1_b1 : a1 ≠ b1 := Nat.ne_of_lt (Nat.lt_of_lt_of_le P0.lt (Nat.le_of_eq gb1.symm))
  rw [← gb1] at A1 st1
  have V_b1 : Arv Z h1 b1 k1 .byte (2 : Int32) [(.int 0), (.int 0)] (.int 0) := (Arv.new A1 (by decide)).pad (pad_rep [] (.int 0) 2)
  have K1 : Keep h0 h1 [] := (Keep.refl h0 []).ext E1
  have Z1 : n0 ≤ h1.size := Nat.le_trans Z0 E1.1
  refine own_fw (A' := (T1.setTop (mkF m 9 #[rv a1, iv 0, iv 2, rv b1, .unset, .unset] [.int 2, .int 0, .ref b1, .int 0, .ref a1]))) (fun t k => st1 _ (XS.astoreN X1.here hx rfl (hb hby d8_3) rfl rfl (l' := #[.val (.ref a1), .val (.int 0), .val (.int 2), .val (.ref b1), .unset, .unset]) rfl (XS.aloadN X1.here hx rfl (hb hby d8_4) rfl rfl (XS.iloadN X1.here hx rfl (hb hby d8_5) rfl (XS.aloadN X1.here hx rfl (hb hby d8_6) rfl rfl (XS.iconst X1.here hx rfl (hb hby d8_7) (XS.iloadN X1.here hx rfl (hb hby d8_8) rfl k))))))) ?_
  obtain ⟨_, _, ⟨T2, L2, k2, n2⟩, -, X2, ⟨Lc2, hQ2, l2, y2, z2⟩, st2⟩ := Jvm.LawKit.callS X1 hx (y := yq1) hown (mvT hZ (own_w hw 43 rfl)) (mvT hZ (own_w hw 44 rfl)) (mvT hZ (own_w hw 40 rfl)) (mvT hZ (own_w hw 45 rfl)) (by decide) (backOf (W := 0) (rmCmpA2_1 l Z a0 hw [] a1 b1 kc k1 c0 c1 h1 n0 Z1 (P0.ext E1) V_b1 g_b1 ne_a1_b1 hc0 hc1) hZ (own_w hw 45 rfl) (own_w hw 40 rfl) (by decide) (by decide)) (g := (mkF m 9 #[rv a1, iv 0, iv 2, rv b1, .unset, .unset] [.int 2, .int 0, .ref b1, .int 0, .ref a1])) rfl (by rw [hml]; rfl) (argsL := [(.ref a1), (.int 0), (.ref b1), (.int 0), (.int 2)]) (rest := []) (lenOf pd___CI_BII_I rfl) rfl (by show 2 * 0 + _ ≤ _; exact Nat.le_of_eq rfl) (hb hby d8_9) (fun _ _ => ⟨rfl, e1, (by decide : 1 + 0 ≤ _), (by decide : 2 + 0 ≤ _)⟩)
  dsimp only [Pt.U, Pt.locs, Pt.cells, Pt.slots] at X2 l2 y2 z2 st2 hQ2
  subst l2 y2 z2
  obtain ⟨rfl, Nq2, Kq2⟩ := hQ2
  have Nf2 := Fr.app N0 Nq2
  have K2 : Keep h0 T2.heap [] := K1.trans Kq2 (allS (Or.inr sz_b1) all0)
  have Z2 : n0 ≤ T2.heap.size := Nat.le_trans Z1 Kq2.1
  refine own_fw (A' := (T2.setTop (mkF m 23 #[rv a1, iv 0, iv 2, rv b1, iv 1, .unset] [.int 2, .int 0, .ref a1]))) (fun t k => st2 _ (XS.istore X2.here hx rfl (hb hby d8_12) rfl (l' := #[.val (.ref a1), .val (.int 0), .val (.int 2), .val (.ref b1), .val (.int 1), .unset]) rfl (XS.iload X2.here hx rfl (hb hby d8_14) rfl (XS.iloadN X2.here hx rfl (hb hby d8_16) rfl (XS.icmpNo X2.here hx rfl (hb hby d8_17) rfl (XT.ii_eq_f (by decide)) (XS.aloadN X2.here hx rfl (hb hby d8_20) rfl rfl (XS.iloadN X2.here hx rfl (hb hby d8_21) rfl (XS.iloadN X2.here hx rfl (hb hby d8_22) rfl k)))))))) ?_
  obtain ⟨_, _, ⟨T3, L3, k3, n3⟩, -, X3, ⟨Lc3, hQ3, l3, y3, z3⟩, st3⟩ := Jvm.LawKit.callS X2 hx (y := yq22) hown (mvT hZ (own_w hw 98 rfl)) (mvT hZ (own_w hw 99 rfl)) (mvT hZ (own_w hw 40 rfl)) (mvT hZ (own_w hw 100 rfl)) (by decide) (backOf (W := 0) (rmToB2 l Z a0 hw [] a1 kc c0 c1 T2.heap n0 Z2 ((P0.ext E1).keep Kq2 (ninS ne_a1_b1 nin0)) (own_staKeep (P1.ext E1) Kq2 (allS (own_plainV V_b1) all0)) (own_staKeep (P2.ext E1) Kq2 (allS (own_plainV V_b1) all0)) (own_staKeep (P3.ext E1) Kq2 (allS (own_plainV V_b1) all0))) hZ (own_w hw 100 rfl) (own_w hw 40 rfl) (by decide) (by decide)) (g := (mkF m 23 #[rv a1, iv 0, iv 2, rv b1, iv 1, .unset] [.int 2, .int 0, .ref a1])) rfl (by rw [hml]; rfl) (argsL := [(.ref a1), (.int 0), (.int 2)]) (rest := []) (lenOf pd___CII__B rfl) rfl (by show 2 * 0 + _ ≤ _; exact Nat.le_of_eq rfl) (hb hby d8_23) (fun _ _ => ⟨rfl, rfl, (by decide : 1 + 1 ≤ _), (by decide : 2 + 4 ≤ _)⟩)
  dsimp only [Pt.U, Pt.locs, Pt.cells, Pt.slots] at X3 l3 y3 z3 st3 hQ3
  subst l3 y3 z3
  obtain ⟨b_3, kb_3, rfl, Nq3, Kq3, Fq3_0, gb_3⟩ := hQ3
  have Nf3 := Fr.app Nf2 Nq3
  have K3 : Keep h0 T3.heap [] := K2.trans Kq3 all0
  have sz_b_3 : h0.size ≤ b_3 := Nat.le_trans K2.1 gb_3
  have g_b_3 : n0 ≤ b_3 := Nat.le_trans Z2 gb_3
  have ne_a1_b_3 : a1 ≠ b_3 := Nat.ne_of_lt (Nat.lt_of_lt_of_le ((P0.ext E1).keep Kq2 (ninS ne_a1_b1 nin0)).lt gb_3)
  have Z3 : n0 ≤ T3.heap.size := Nat.le_trans Z2 Kq3.1
  refine own_fw (A' := (T3.setTop (mkF m 32 #[rv a1, iv 0, iv 2, rv b1, iv 1, rv b_3] [.int 1, .ref b_3]))) (fun t k => st3 _ (XS.astore X3.here hx rfl (hb hby d8_26) rfl rfl (l' := #[.val (.ref a1), .val (.int 0), .val (.int 2), .val (.ref b1), .val (.int 1), .val (.ref b_3)]) rfl (XS.aload X3.here hx rfl (hb hby d8_28) rfl rfl (XS.iload X3.here hx rfl (hb hby d8_30) rfl k)))) ?_
  obtain ⟨_, _, ⟨T4, L4, k4, n4⟩, -, X4, ⟨Lc4, hQ4, l4, y4, z4⟩, st4⟩ := Jvm.LawKit.callS X3 hx (y := yq23) hown (mvT hZ (own_w hw 114 rfl)) (mvT hZ (own_w hw 115 rfl)) (mvT hZ (own_w hw 40 rfl)) (mvT hZ (own_w hw 116 rfl)) (by decide) (backOf (W := 0) (rmGet21 l Z a0 hw [] b_3 kb_3 ((c0 >>> ((0 : Int32) &&& 31)).toInt8.toInt32) ((c0 >>> ((8 : Int32) &&& 31)).toInt8.toInt32) ((c1 >>> ((0 : Int32) &&& 31)).toInt8.toInt32) ((c1 >>> ((8 : Int32) &&& 31)).toInt8.toInt32) T3.heap n0 Z3 Fq3_0 (own_staKeep (own_staKeep (P1.ext E1) Kq2 (allS (own_plainV V_b1) all0)) Kq3 all0) (own_staKeep (own_staKeep (P2.ext E1) Kq2 (allS (own_plainV V_b1) all0)) Kq3 all0) (own_staKeep (own_staKeep (P3.ext E1) Kq2 (allS (own_plainV V_b1) all0)) Kq3 all0)) hZ (own_w hw 116 rfl) (own_w hw 40 rfl) (by decide) (by decide)) (g := (mkF m 32 #[rv a1, iv 0, iv 2, rv b1, iv 1, rv b_3] [.int 1, .ref b_3])) rfl (by rw [hml]; rfl) (argsL := [(.ref b_3), (.int 1)]) (rest := []) (lenOf pd___BI_C rfl) rfl (by show 2 * 0 + _ ≤ _; exact Nat.le_of_eq rfl) (hb hby d8_32) (fun _ _ => ⟨rfl, rfl, (by decide : 2 + 0 ≤ _), (by decide : 6 + 0 ≤ _)⟩)
  dsimp only [Pt.U, Pt.locs, Pt.cells, Pt.slots] at X4 l4 y4 z4 st4 hQ4
  subst l4 y4 z4
  obtain ⟨rfl, Nq4, e4⟩ := hQ4
  have Nf4 := Fr.app Nf3 Nq4
  refine own_fw (A' := (T4.setTop (mkF m 56 #[rv a1, iv 0, iv 2, rv b1, iv 1, rv b_3] [.ref b_3]))) (fun t k => st4 _ (XS.sipush X4.here hx rfl (hb hby d8_35) (XS.icmpYes X4.here hx rfl (pc0 := 38) (pc' := 54) rfl (hb hby d8_38) rfl (XT.ii_gt_t (by rw [own_gcc hr1]; exact hc1)) (by decide) (by decide) (XS.aload X4.here hx rfl (hb hby d8_54) rfl rfl k)))) ?_
  obtain ⟨fs, hr, hrun, hended, hW, hsame⟩ := X4.leave (v := some (.ref b_3)) (fun h => by rw [Bd.returns] at h; cases h)
  refine ⟨_, _, ?_, hrun, hended, _, _, rfl, ?_, ⟨_, rfl⟩, hW, hsame.mono (by decide) (by decide)⟩
  · exact retOut X4 hx Bd.returns rfl (Or.inr (Or.inr (Or.inr (Or.inr ⟨rfl, rfl, rfl⟩)))) (hb hby d8_56) hr
  · show Q_rmCmpB2_1 Z a1 kc c0 c1 h0 n0 _ T4.heap _
    rw [e4]
    exact ⟨b_3, kb_3, rfl, Nf4, K3, Fq3_0, sz_b_3⟩
theorem ef_rmStrB2_1 (m : MethodId) (a1 a2 : Addr) : entryFrame m #[(.ref a1), (.ref a2), (.int 0), (.int 2), .null] 6 = mkF m 0 #[.val (.ref a1), .val (.ref a2), .val (.int 0), .val (.int 2), .val .null, .unset] [] := by first | (simp [entryFrame, mkF, argsToLocals, Value.category]; done) | rfl
def Q_rmStrB2_1 (Z : State) (a1 a2 : Addr) (kc : ClassId) (cs c0 c1 : Int32) (h0 : Heap) (n0 : Nat) (v : Option Value) (h : Heap) (L : List Loc) : Prop := ∃ b : Addr, ∃ kb : ClassId, v = none ∧ Fr n0 L ∧ Keep h0 h [a1] ∧ Exa Z h a1 "java/lang/String" ∧ Fld Z h a1 "java/lang/String" "coder" "B" (.int 1) ∧ Fld Z h a1 "java/lang/String" "value" "[B" (.ref b) ∧ Arv Z h b kb .byte (4 : Int32) [(.int ((c0 >>> ((0 : Int32) &&& 31)).toInt8.toInt32)), (.int ((c0 >>> ((8 : Int32) &&& 31)).toInt8.toInt32)), (.int ((c1 >>> ((0 : Int32) &&& 31)).toInt8.toInt32)), (.int ((c1 >>> ((8 : Int32) &&& 31)).toInt8.toInt32))] (.int 0)
theorem rmStrB2_1 (l : Launch) (Z : State) (a0 : Array Value) (hw : ∀ d ∈ tables_1, d.before a0 Z = true) (ws : List Jvm.Cond) (a1 a2 : Addr) (kc : ClassId) (cs c0 c1 : Int32) (h0 : Heap) (n0 : Nat) (Z0 : n0 ≤ h0.size) (P0 : Exa Z h0 a1 "java/lang/String") (P1 : Fld Z h0 a1 "java/lang/String" "coder" "B" (.int 0)) (P2 : Fld Z h0 a1 "java/lang/String" "value" "[B" .null) (P3 : Arv Z h0 a2 kc .char (2 : Int32) [(.int c0), (.int c1)] (.int 0)) (g_a1 : n0 ≤ a1) (ne_a1_a2 : a1 ≠ a2) (P6 : Sta Z h0 "java/lang/String" "COMPACT_STRINGS" "Z" (.int cs)) (hcs : ¬ (cs = (0 : Int32))) (P8 : Sta Z h0 "java/lang/StringUTF16" "$assertionsDisabled" "Z" (.int 1)) (P9 : Sta Z h0 "java/lang/StringUTF16" "HI_BYTE_SHIFT" "I" (.int 0)) (P10 : Sta Z h0 "java/lang/StringUTF16" "LO_BYTE_SHIFT" "I" (.int 8)) (hc0 : ¬ ((255 : Int32) < c0)) (hc1 : (255 : Int32) < c1) (hr1 : own_c16 c1) :
    MetFree l yq6 (head1 (Jvm.Cond.code yq6 jdk_42_method_149_code 6 none :: ws) rq30) (fun a U => a = #[(.ref a1), (.ref a2), (.int 0), (.int 2), .null] ∧ Z.Warmed39 U.vm ∧ U.heap = h0) (fun _ _ _ _ _ => True) (fun _ U o U' => ∃ v L, o = .returned v ∧ Q_rmStrB2_1 Z a1 a2 kc cs c0 c1 h0 n0 v U'.heap L ∧ FrameEnd U o U' L rq30.cells rq30.slots) := by
  refine MetFree.of_bodySF (plainFor_of_name pn_java_lang_String) hisR ?_
  intro p e s m args below meth c s₁ Bd hml0 hP hK
  obtain ⟨rfl, hZ, hh⟩ := hP
  have hx := Bd.exec
  have hby := Bd.bytes
  have hml : c.maxLocals = 6 := hml0
  have hown : s.vm.findClass "java/lang/String" = some m.cls := findClass_of_methodNamed Bd.named
  have hnm := (name_of_methodNamed Bd.named Bd.method).1
  have X0 : Stand p l e rq30 s m #[(.ref a1), (.ref a2), (.int 0), (.int 2), .null] below meth c s₁ [] 0 0 := Stand.of_body Bd
  have e0 : s₁.heap = h0 := by rw [← hh, Bd.state]; rfl
  have N0 := Fr.nil n0
  refine own_fw (A' := (s₁.setTop (mkF m 1 #[rv a1, rv a2, iv 0, iv 2, .val (.null), .unset] [.ref a1]))) (fun t k => castTop (ef_rmStrB2_1 m a1 a2) (XS.aloadN X0.here hx rfl (hb hby d7_0) rfl rfl k)) ?_
  obtain ⟨T1, X1, e1, st1⟩ := initO X0 hx hZ hown (own_w hw 36 rfl) (own_w hw 7 rfl) (own_w hw 8 rfl) e0 (g := (mkF m 1 #[rv a1, rv a2, iv 0, iv 2, .val (.null), .unset] [.ref a1])) rfl (by rw [hml]; rfl) rfl (hb hby d7_1) (by decide) (W := 0) (by show 2 * 0 + _ ≤ _; exact Nat.le_of_eq rfl) (by decide)
  refine own_fw (A' := (T1.setTop (mkF m 27 #[rv a1, rv a2, iv 0, iv 2, .val (.null), .unset] []))) (fun t k => st1 _ (XS.iloadN X1.here hx rfl (hb hby d7_4) rfl (XS.ifYes X1.here hx rfl (pc0 := 5) (pc' := 27) rfl (hb hby d7_5) rfl (XT.i0_ne_t (by decide)) (by decide) (by decide) k))) ?_
  obtain ⟨T2, X2, e2, st2⟩ := getS2 X1 hx hZ hown (host := "") (Or.inl (own_w hw 37 rfl)) Via.refl e1 P6 (g := (mkF m 27 #[rv a1, rv a2, iv 0, iv 2, .val (.null), .unset] [])) rfl (hb hby d7_27)
  refine own_fw (A' := (T2.setTop (mkF m 36 #[rv a1, rv a2, iv 0, iv 2, .val (.null), .unset] [.int 2, .int 0, .ref a2]))) (fun t k => st2 _ (XS.ifNo X2.here hx rfl (hb hby d7_30) rfl (XT.i0_eq_f hcs) (XS.aloadN X2.here hx rfl (hb hby d7_33) rfl rfl (XS.iloadN X2.here hx rfl (hb hby d7_34) rfl (XS.iloadN X2.here hx rfl (hb hby d7_35) rfl k))))) ?_
  obtain ⟨_, _, ⟨T3, L3, k3, n3⟩, -, X3, ⟨Lc3, hQ3, l3, y3, z3⟩, st3⟩ := Jvm.LawKit.callS X2 hx (y := yq3) hown (mvT hZ (own_w hw 38 rfl)) (mvT hZ (own_w hw 39 rfl)) (mvT hZ (own_w hw 40 rfl)) (mvT hZ (own_w hw 41 rfl)) (by decide) (backOf (W := 0) (rmCmpB2_1 l Z a0 hw [] a2 kc c0 c1 h0 n0 Z0 P3 P8 P9 P10 hc0 hc1 hr1) hZ (own_w hw 41 rfl) (own_w hw 40 rfl) (by decide) (by decide)) (g := (mkF m 36 #[rv a1, rv a2, iv 0, iv 2, .val (.null), .unset] [.int 2, .int 0, .ref a2])) rfl (by rw [hml]; rfl) (argsL := [(.ref a2), (.int 0), (.int 2)]) (rest := []) (lenOf pd___CII__B rfl) rfl (by show 2 * 0 + _ ≤ _; exact Nat.le_of_eq rfl) (hb hby d7_36) (fun _ _ => ⟨rfl, e2, (by decide : 0 + 2 ≤ _), (by decide : 0 + 6 ≤ _)⟩)
  dsimp only [Pt.U, Pt.locs, Pt.cells, Pt.slots] at X3 l3 y3 z3 st3 hQ3
  subst l3 y3 z3
  obtain ⟨b_3, kb_3, rfl, Nq3, Kq3, Fq3_0, gb_3⟩ := hQ3
  have Nf3 := Fr.app N0 Nq3
  have K3 : Keep h0 T3.heap [a1] := (Keep.refl h0 [a1]).trans Kq3 all0
  have sz_b_3 : h0.size ≤ b_3 := Nat.le_trans (Keep.refl h0 [a1]).1 gb_3
  have g_b_3 : n0 ≤ b_3 := Nat.le_trans Z0 gb_3
  have ne_a1_b_3 : a1 ≠ b_3 := Nat.ne_of_lt (Nat.lt_of_lt_of_le P0.lt gb_3)
  have ne_a2_b_3 : a2 ≠ b_3 := Nat.ne_of_lt (Nat.lt_of_lt_of_le P3.lt gb_3)
  have Z3 : n0 ≤ T3.heap.size := Nat.le_trans Z0 Kq3.1
  refine own_fw (A' := (T3.setTop (mkF m 45 #[rv a1, rv a2, iv 0, iv 2, .val (.null), rv b_3] [.int 2, .ref b_3, .ref a1]))) (fun t k => st3 _ (XS.astore X3.here hx rfl (hb hby d7_39) rfl rfl (l' := #[.val (.ref a1), .val (.ref a2), .val (.int 0), .val (.int 2), .val .null, .val (.ref b_3)]) rfl (XS.aloadN X3.here hx rfl (hb hby d7_41) rfl rfl (XS.aload X3.here hx rfl (hb hby d7_42) rfl rfl (XS.iloadN X3.here hx rfl (hb hby d7_44) rfl k))))) ?_
  obtain ⟨_, _, ⟨T4, L4, k4, n4⟩, -, X4, ⟨Lc4, hQ4, l4, y4, z4⟩, st4⟩ := Jvm.LawKit.callS X3 hx (y := yq4) hown (mvT hZ (own_w hw 46 rfl)) (mvT hZ (own_w hw 47 rfl)) (mvT hZ (own_w hw 40 rfl)) (mvT hZ (own_w hw 48 rfl)) (by decide) (backOf (W := 1) (rmCoderU2 l Z a0 hw [] b_3 kb_3 ((c0 >>> ((0 : Int32) &&& 31)).toInt8.toInt32) ((c0 >>> ((8 : Int32) &&& 31)).toInt8.toInt32) ((c1 >>> ((0 : Int32) &&& 31)).toInt8.toInt32) ((c1 >>> ((8 : Int32) &&& 31)).toInt8.toInt32) T3.heap n0 Z3 Fq3_0) hZ (own_w hw 48 rfl) (own_w hw 40 rfl) (by decide) (by decide)) (g := (mkF m 45 #[rv a1, rv a2, iv 0, iv 2, .val (.null), rv b_3] [.int 2, .ref b_3, .ref a1])) rfl (by rw [hml]; rfl) (argsL := [(.ref b_3), (.int 2)]) (rest := [(.ref a1)]) (lenOf pd___BI_B rfl) rfl (by show 2 * 0 + _ ≤ _; exact Nat.le_of_eq rfl) (hb hby d7_45) (fun _ _ => ⟨rfl, rfl, (by decide : 2 + 0 ≤ _), (by decide : 6 + 0 ≤ _)⟩)
  dsimp only [Pt.U, Pt.locs, Pt.cells, Pt.slots] at X4 l4 y4 z4 st4 hQ4
  subst l4 y4 z4
  obtain ⟨rfl, Nq4, e4⟩ := hQ4
  have Nf4 := Fr.app Nf3 Nq4
  refine own_fw (A' := (T4.setTop (mkF m 48 #[rv a1, rv a2, iv 0, iv 2, .val (.null), rv b_3] [.int 1, .ref a1]))) (fun t k => st4 _ k) ?_
  obtain ⟨T5, h5, X5, e5, W5, st5⟩ := putFN X4 hx hZ hown (own_w hw 49 rfl) Via.refl e4 (P1.keep Kq3 nin0) (P0.keep Kq3) (Or.inr ⟨(own_w hw 50 rfl), rfl, hnm⟩) (own_w hw 26 rfl) (ty := .byte) (v' := (.int 1)) (by decide) rfl rfl (g := (mkF m 48 #[rv a1, rv a2, iv 0, iv 2, .val (.null), rv b_3] [.int 1, .ref a1])) rfl rfl (hb hby d7_48)
  have Fw5 : Fld Z h5 a1 "java/lang/String" "coder" "B" (.int 1) := (P1.keep Kq3 nin0).same W5
  have Nf5 := Fr.snoc X5 Nf4 g_a1
  have K5 : Keep h0 h5 [a1] := K3.wr W5 (Or.inl (List.mem_of_getElem? (i := 0) rfl))
  have Z5 : n0 ≤ h5.size := Nat.le_trans Z3 (Keep.of_wr W5).1
  refine own_fw (A' := (T5.setTop (mkF m 54 #[rv a1, rv a2, iv 0, iv 2, .val (.null), rv b_3] [.ref b_3, .ref a1]))) (fun t k => st5 _ (XS.aloadN X5.here hx rfl (hb hby d7_51) rfl rfl (XS.aload X5.here hx rfl (hb hby d7_52) rfl rfl k))) ?_
  obtain ⟨T6, h6, X6, e6, W6, st6⟩ := putF X5 hx hZ hown (host := "") (Or.inl (own_w hw 51 rfl)) Via.refl e5 ((P2.keep Kq3 nin0).other W5 (Or.inr (slot_ne (Or.inr (own_w hw 52 rfl)) (Or.inr (own_w hw 50 rfl)) (by decide) (t := (.array .byte)) (t' := .byte) (by decide) (by decide)))) ((P0.keep Kq3).wr W5) (Or.inr ⟨(own_w hw 52 rfl), rfl, hnm⟩) (own_w hw 26 rfl) (ty := (.array .byte)) (by decide) rfl rfl (g := (mkF m 54 #[rv a1, rv a2, iv 0, iv 2, .val (.null), rv b_3] [.ref b_3, .ref a1])) rfl rfl (hb hby d7_54)
  have Fw6 : Fld Z h6 a1 "java/lang/String" "value" "[B" (.ref b_3) := ((P2.keep Kq3 nin0).other W5 (Or.inr (slot_ne (Or.inr (own_w hw 52 rfl)) (Or.inr (own_w hw 50 rfl)) (by decide) (t := (.array .byte)) (t' := .byte) (by decide) (by decide)))).same W6
  have Nf6 := Fr.snoc X6 Nf5 g_a1
  have K6 : Keep h0 h6 [a1] := K5.wr W6 (Or.inl (List.mem_of_getElem? (i := 0) rfl))
  have Z6 : n0 ≤ h6.size := Nat.le_trans Z5 (Keep.of_wr W6).1
  refine own_fw (A' := (T6.setTop (mkF m 57 #[rv a1, rv a2, iv 0, iv 2, .val (.null), rv b_3] []))) (fun t k => st6 _ k) ?_
  obtain ⟨fs, hr, hrun, hended, hW, hsame⟩ := X6.leave (v := none) (fun _ => rfl)
  refine ⟨_, _, ?_, hrun, hended, _, _, rfl, ?_, ⟨_, rfl⟩, hW, hsame.mono (by decide) (by decide)⟩
  · exact X6.returnOut hx Bd.returns (hb hby d7_57) hr
  · show Q_rmStrB2_1 Z a1 a2 kc cs c0 c1 h0 n0 _ T6.heap _
    rw [e6]
    exact ⟨b_3, kb_3, rfl, Nf6, K6, (((P0.keep Kq3).wr W5).wr W6), (Fw5.other W6 (Or.inr (slot_ne (Or.inr (own_w hw 50 rfl)) (Or.inr (own_w hw 52 rfl)) (by decide) (t := .byte) (t' := (.array .byte)) (by decide) (by decide)))), Fw6, ((Fq3_0.other W5 (Ne.symm ne_a1_b_3)).other W6 (Ne.symm ne_a1_b_3))⟩
theorem ef_rmStrA2_1 (m : MethodId) (a1 a2 : Addr) : entryFrame m #[(.ref a1), (.ref a2)] 2 = mkF m 0 #[.val (.ref a1), .val (.ref a2)] [] := by first | (simp [entryFrame, mkF, argsToLocals, Value.category]; done) | rfl
def Q_rmStrA2_1 (Z : State) (a1 a2 : Addr) (kc : ClassId) (cs c0 c1 : Int32) (h0 : Heap) (n0 : Nat) (v : Option Value) (h : Heap) (L : List Loc) : Prop := ∃ b : Addr, ∃ kb : ClassId, v = none ∧ Fr n0 L ∧ Keep h0 h [a1] ∧ Exa Z h a1 "java/lang/String" ∧ Fld Z h a1 "java/lang/String" "coder" "B" (.int 1) ∧ Fld Z h a1 "java/lang/String" "value" "[B" (.ref b) ∧ Arv Z h b kb .byte (4 : Int32) [(.int ((c0 >>> ((0 : Int32) &&& 31)).toInt8.toInt32)), (.int ((c0 >>> ((8 : Int32) &&& 31)).toInt8.toInt32)), (.int ((c1 >>> ((0 : Int32) &&& 31)).toInt8.toInt32)), (.int ((c1 >>> ((8 : Int32) &&& 31)).toInt8.toInt32))] (.int 0)
theorem rmStrA2_1 (l : Launch) (Z : State) (a0 : Array Value) (hw : ∀ d ∈ tables_1, d.before a0 Z = true) (ws : List Jvm.Cond) (a1 a2 : Addr) (kc : ClassId) (cs c0 c1 : Int32) (h0 : Heap) (n0 : Nat) (Z0 : n0 ≤ h0.size) (P0 : Exa Z h0 a1 "java/lang/String") (P1 : Fld Z h0 a1 "java/lang/String" "coder" "B" (.int 0)) (P2 : Fld Z h0 a1 "java/lang/String" "value" "[B" .null) (P3 : Arv Z h0 a2 kc .char (2 : Int32) [(.int c0), (.int c1)] (.int 0)) (g_a1 : n0 ≤ a1) (ne_a1_a2 : a1 ≠ a2) (P6 : Sta Z h0 "java/lang/String" "COMPACT_STRINGS" "Z" (.int cs)) (hcs : ¬ (cs = (0 : Int32))) (P8 : Sta Z h0 "java/lang/StringUTF16" "$assertionsDisabled" "Z" (.int 1)) (P9 : Sta Z h0 "java/lang/StringUTF16" "HI_BYTE_SHIFT" "I" (.int 0)) (P10 : Sta Z h0 "java/lang/StringUTF16" "LO_BYTE_SHIFT" "I" (.int 8)) (hc0 : ¬ ((255 : Int32) < c0)) (hc1 : (255 : Int32) < c1) (hr1 : own_c16 c1) :
    MetFree l yq8 (head1 (Jvm.Cond.code yq8 jdk_42_method_3_code 2 none :: ws) rq31) (fun a U => a = #[(.ref a1), (.ref a2)] ∧ Z.Warmed39 U.vm ∧ U.heap = h0) (fun _ _ _ _ _ => True) (fun _ U o U' => ∃ v L, o = .returned v ∧ Q_rmStrA2_1 Z a1 a2 kc cs c0 c1 h0 n0 v U'.heap L ∧ FrameEnd U o U' L rq31.cells rq31.slots) := by
  refine MetFree.of_bodySF (plainFor_of_name pn_java_lang_String) hisR ?_
  intro p e s m args below meth c s₁ Bd hml0 hP hK
  obtain ⟨rfl, hZ, hh⟩ := hP
  have hx := Bd.exec
  have hby := Bd.bytes
  have hml : c.maxLocals = 2 := hml0
  have hown : s.vm.findClass "java/lang/String" = some m.cls := findClass_of_methodNamed Bd.named
  have hnm := (name_of_methodNamed Bd.named Bd.method).1
  have X0 : Stand p l e rq31 s m #[(.ref a1), (.ref a2)] below meth c s₁ [] 0 0 := Stand.of_body Bd
  have e0 : s₁.heap = h0 := by rw [← hh, Bd.state]; rfl
  have N0 := Fr.nil n0
  refine own_fw (A' := (s₁.setTop (mkF m 4 #[rv a1, rv a2] [.ref a2, .int 0, .ref a2, .ref a1]))) (fun t k => castTop (ef_rmStrA2_1 m a1 a2) (XS.aloadN X0.here hx rfl (hb hby d6_0) rfl rfl (XS.aloadN X0.here hx rfl (hb hby d6_1) rfl rfl (XS.iconst X0.here hx rfl (hb hby d6_2) (XS.aloadN X0.here hx rfl (hb hby d6_3) rfl rfl k))))) ?_
  obtain ⟨cl1, Ar1, q1, S1, M1, H1, G1⟩ := id P3
  refine own_fw (A' := (s₁.setTop (mkF m 5 #[rv a1, rv a2] [.int 2, .int 0, .ref a2, .ref a1]))) (fun t k => X0.arraylength hx (by rw [e0]; exact Ar1.1) (State.isArrayOf_alike hZ.alike Ar1.2.1) (g := (mkF m 4 #[rv a1, rv a2] [.ref a2, .int 0, .ref a2, .ref a1])) rfl rfl (hb hby d6_4) _ (by rw [len_of S1 M1]; exact k)) ?_
  refine own_fw (A' := (s₁.setTop (mkF m 6 #[rv a1, rv a2] [.null, .int 2, .int 0, .ref a2, .ref a1]))) (fun t k => XS.aconstNull X0.here hx rfl (hb hby d6_5) k) ?_
  obtain ⟨_, _, ⟨T2, L2, k2, n2⟩, -, X2, ⟨Lc2, hQ2, l2, y2, z2⟩, st2⟩ := X0.specialBack hx (y := yq6) rfl hown (mvT hZ (own_w hw 32 rfl)) (mvT hZ (own_w hw 33 rfl)) (mvT hZ (own_w hw 35 rfl)) (by decide) (backOf (W := 0) (rmStrB2_1 l Z a0 hw [] a1 a2 kc cs c0 c1 h0 n0 Z0 P0 P1 P2 P3 g_a1 ne_a1_a2 P6 hcs P8 P9 P10 hc0 hc1 hr1) hZ (own_w hw 35 rfl) (own_w hw 27 rfl) (by decide) (by decide)) (g := (mkF m 6 #[rv a1, rv a2] [.null, .int 2, .int 0, .ref a2, .ref a1])) rfl (by rw [hml]; rfl) (Steps.refl _) (a := a1) (argsL := [(.ref a2), (.int 0), (.int 2), .null]) (rest := []) (lenOf pd___CIILjava_lang_Void__V rfl) rfl (by show 2 * 0 + _ ≤ _; exact Nat.le_of_eq rfl) (hb hby d6_6) (fun _ _ => ⟨rfl, e0, (by decide : 0 + 2 ≤ _), (by decide : 0 + 6 ≤ _)⟩)
  dsimp only [Pt.U, Pt.locs, Pt.cells, Pt.slots] at X2 l2 y2 z2 st2 hQ2
  subst l2 y2 z2
  obtain ⟨b_2, kb_2, rfl, Nq2, Kq2, Fq2_0, Fq2_1, Fq2_2, Fq2_3⟩ := hQ2
  have Nf2 := Fr.app N0 Nq2
  have K2 : Keep h0 T2.heap [a1] := (Keep.refl h0 [a1]).trans Kq2 (allS (Or.inl (List.mem_of_getElem? (i := 0) rfl)) all0)
  have Z2 : n0 ≤ T2.heap.size := Nat.le_trans Z0 Kq2.1
  refine own_fw (A' := (T2.setTop (mkF m 9 #[rv a1, rv a2] []))) (fun t k => st2.trans k) ?_
  obtain ⟨fs, hr, hrun, hended, hW, hsame⟩ := X2.leave (v := none) (fun _ => rfl)
  refine ⟨_, _, ?_, hrun, hended, _, _, rfl, ?_, ⟨_, rfl⟩, hW, hsame.mono (by decide) (by decide)⟩
  · exact X2.returnOut hx Bd.returns (hb hby d6_9) hr
  · show Q_rmStrA2_1 Z a1 a2 kc cs c0 c1 h0 n0 _ T2.heap _
    exact ⟨b_2, kb_2, rfl, Nf2, K2, Fq2_0, Fq2_1, Fq2_2, Fq2_3⟩
theorem ef_rmNBL3 (m : MethodId) : entryFrame m #[(.int 3)] 1 = mkF m 0 #[.val (.int 3)] [] := by first | (simp [entryFrame, mkF, argsToLocals, Value.category]; done) | rfl
def Q_rmNBL3 (Z : State) (h0 : Heap) (n0 : Nat) (v : Option Value) (h : Heap) (L : List Loc) : Prop := v = some (.int 6) ∧ Fr n0 L ∧ h = h0
theorem rmNBL3 (l : Launch) (Z : State) (a0 : Array Value) (hw : ∀ d ∈ tables_1, d.before a0 Z = true) (ws : List Jvm.Cond) (h0 : Heap) (n0 : Nat) (Z0 : n0 ≤ h0.size)  :
    MetFree l yq17 (head1 (Jvm.Cond.code yq17 jdk_52_method_3_code 1 (some .int) :: ws) rq0) (fun a U => a = #[(.int 3)] ∧ Z.Warmed39 U.vm ∧ U.heap = h0) (fun _ _ _ _ _ => True) (fun _ U o U' => ∃ v L, o = .returned v ∧ Q_rmNBL3 Z  h0 n0 v U'.heap L ∧ FrameEnd U o U' L rq0.cells rq0.slots) := by
  refine MetFree.of_bodySF (plainFor_of_name pn_java_lang_StringUTF16) hisR ?_
  intro p e s m args below meth c s₁ Bd hml0 hP hK
  obtain ⟨rfl, hZ, hh⟩ := hP
  have hx := Bd.exec
  have hby := Bd.bytes
  have hml : c.maxLocals = 1 := hml0
  have hown : s.vm.findClass "java/lang/StringUTF16" = some m.cls := findClass_of_methodNamed Bd.named
  have hnm := (name_of_methodNamed Bd.named Bd.method).1
  have X0 : Stand p l e rq0 s m #[(.int 3)] below meth c s₁ [] 0 0 := Stand.of_body Bd
  have e0 : s₁.heap = h0 := by rw [← hh, Bd.state]; rfl
  have N0 := Fr.nil n0
  refine own_fw (A' := (s₁.setTop (mkF m 58 #[iv 3] [.int 6]))) (fun t k => castTop (ef_rmNBL3 m) (XS.iloadN X0.here hx rfl (hb hby d22_0) rfl (XS.ifYes X0.here hx rfl (pc0 := 1) (pc' := 12) rfl (hb hby d22_1) rfl (XT.i0_ge_t (by decide)) (by decide) (by decide) (XS.iloadN X0.here hx rfl (hb hby d22_12) rfl (X0.ldcInt hx hown (mvT hZ (own_w hw 107 rfl)) (g := (mkF m 13 #[iv 3] [.int 3])) rfl (hb hby d22_13) _ (XS.icmpYes X0.here hx rfl (pc0 := 15) (pc' := 55) rfl (hb hby d22_15) rfl (XT.ii_lt_t (by decide)) (by decide) (by decide) (XS.iloadN X0.here hx rfl (hb hby d22_55) rfl (XS.iconst X0.here hx rfl (hb hby d22_56) (XS.ishl X0.here hx rfl (hb hby d22_57) rfl k))))))))) ?_
  obtain ⟨fs, hr, hrun, hended, hW, hsame⟩ := X0.leave (v := some (.int 6)) (fun h => by rw [Bd.returns] at h; cases h)
  refine ⟨_, _, ?_, hrun, hended, _, _, rfl, ?_, ⟨_, rfl⟩, hW, hsame.mono (by decide) (by decide)⟩
  · exact retOut X0 hx Bd.returns rfl (Or.inl ⟨rfl, by simp, _, rfl⟩) (hb hby d22_58) hr
  · show Q_rmNBL3 Z  h0 n0 _ s₁.heap _
    rw [e0]
    exact ⟨rfl, N0, rfl⟩
theorem ef_rmNBF3 (m : MethodId) : entryFrame m #[(.int 3)] 1 = mkF m 0 #[.val (.int 3)] [] := by first | (simp [entryFrame, mkF, argsToLocals, Value.category]; done) | rfl
def Q_rmNBF3 (Z : State) (h0 : Heap) (n0 : Nat) (v : Option Value) (h : Heap) (L : List Loc) : Prop := ∃ b : Addr, ∃ kb : ClassId, v = some (.ref b) ∧ Fr n0 L ∧ Keep h0 h [] ∧ Arv Z h b kb .byte (6 : Int32) [(.int 0), (.int 0), (.int 0), (.int 0), (.int 0), (.int 0)] (.int 0) ∧ (h0.size ≤ b)
theorem rmNBF3 (l : Launch) (Z : State) (a0 : Array Value) (hw : ∀ d ∈ tables_1, d.before a0 Z = true) (ws : List Jvm.Cond) (h0 : Heap) (n0 : Nat) (Z0 : n0 ≤ h0.size)  :
    MetFree l yq19 (head1 (Jvm.Cond.code yq19 jdk_52_method_2_code 1 (some (.array .byte)) :: ws) rq32) (fun a U => a = #[(.int 3)] ∧ Z.Warmed39 U.vm ∧ U.heap = h0) (fun _ _ _ _ _ => True) (fun _ U o U' => ∃ v L, o = .returned v ∧ Q_rmNBF3 Z  h0 n0 v U'.heap L ∧ FrameEnd U o U' L rq32.cells rq32.slots) := by
  refine MetFree.of_bodySF (plainFor_of_name pn_java_lang_StringUTF16) hisR ?_
  intro p e s m args below meth c s₁ Bd hml0 hP hK
  obtain ⟨rfl, hZ, hh⟩ := hP
  have hx := Bd.exec
  have hby := Bd.bytes
  have hml : c.maxLocals = 1 := hml0
  have hown : s.vm.findClass "java/lang/StringUTF16" = some m.cls := findClass_of_methodNamed Bd.named
  have hnm := (name_of_methodNamed Bd.named Bd.method).1
  have X0 : Stand p l e rq32 s m #[(.int 3)] below meth c s₁ [] 0 0 := Stand.of_body Bd
  have e0 : s₁.heap = h0 := by rw [← hh, Bd.state]; rfl
  have N0 := Fr.nil n0
  refine own_fw (A' := (s₁.setTop (mkF m 1 #[iv 3] [.int 3]))) (fun t k => castTop (ef_rmNBF3 m) (XS.iloadN X0.here hx rfl (hb hby d21_0) rfl k)) ?_
  obtain ⟨_, _, ⟨T1, L1, k1, n1⟩, -, X1, ⟨Lc1, hQ1, l1, y1, z1⟩, st1⟩ := Jvm.LawKit.callS X0 hx (y := yq17) hown (mvT hZ (own_w hw 104 rfl)) (mvT hZ (own_w hw 105 rfl)) (mvT hZ (own_w hw 40 rfl)) (mvT hZ (own_w hw 106 rfl)) (by decide) (backOf (W := 0) (rmNBL3 l Z a0 hw []  h0 n0 Z0 ) hZ (own_w hw 106 rfl) (own_w hw 40 rfl) (by decide) (by decide)) (g := (mkF m 1 #[iv 3] [.int 3])) rfl (by rw [hml]; rfl) (argsL := [(.int 3)]) (rest := []) (lenOf pd__I_I rfl) rfl (by show 2 * 0 + _ ≤ _; exact Nat.le_of_eq rfl) (hb hby d21_1) (fun _ _ => ⟨rfl, e0, (by decide : 0 + 0 ≤ _), (by decide : 0 + 0 ≤ _)⟩)
  dsimp only [Pt.U, Pt.locs, Pt.cells, Pt.slots] at X1 l1 y1 z1 st1 hQ1
  subst l1 y1 z1
  obtain ⟨rfl, Nq1, e1⟩ := hQ1
  have Nf1 := Fr.app N0 Nq1
  refine own_fw (A' := (T1.setTop (mkF m 4 #[iv 3] [.int 6]))) (fun t k => st1 _ k) ?_
  obtain ⟨T2, h2, k2, X2, e2, E2, A2, st2⟩ := newP X1 hx hZ (own_w hw 42 rfl) e1 (g := (mkF m 4 #[iv 3] [.int 6])) rfl (hb hby d21_4) rfl (by decide) (cap := 6) (by decide) (by decide) (by decide) (by decide)
  obtain ⟨b2, gb2⟩ : ∃ z, z = h0.size := ⟨_, rfl⟩
  have g_b2 : n0 ≤ b2 := Nat.le_trans Z0 (Nat.le_of_eq gb2.symm)
  have sz_b2 : h0.size ≤ b2 := Nat.le_trans (Keep.refl h0 []).1 (Nat.le_of_eq gb2.symm)
  rw [← gb2] at A2 st2
  have V_b2 : Arv Z h2 b2 k2 .byte (6 : Int32) [(.int 0), (.int 0), (.int 0), (.int 0), (.int 0), (.int 0)] (.int 0) := (Arv.new A2 (by decide)).pad (pad_rep [] (.int 0) 6)
  have K2 : Keep h0 h2 [] := (Keep.refl h0 []).ext E2
  have Z2 : n0 ≤ h2.size := Nat.le_trans Z0 E2.1
  refine own_fw (A' := (T2.setTop (mkF m 6 #[iv 3] [.ref b2]))) (fun t k => st2 _ k) ?_
  obtain ⟨fs, hr, hrun, hended, hW, hsame⟩ := X2.leave (v := some (.ref b2)) (fun h => by rw [Bd.returns] at h; cases h)
  refine ⟨_, _, ?_, hrun, hended, _, _, rfl, ?_, ⟨_, rfl⟩, hW, hsame.mono (by decide) (by decide)⟩
  · exact retOut X2 hx Bd.returns rfl (Or.inr (Or.inr (Or.inr (Or.inr ⟨rfl, rfl, rfl⟩)))) (hb hby d21_6) hr
  · show Q_rmNBF3 Z  h0 n0 _ T2.heap _
    rw [e2]
    exact ⟨b2, k2, rfl, Nf1, K2, V_b2, sz_b2⟩
theorem ef_rmPut30 (m : MethodId) (a1 : Addr) (c0 : Int32) : entryFrame m #[(.ref a1), (.int 0), (.int c0)] 3 = mkF m 0 #[.val (.ref a1), .val (.int 0), .val (.int c0)] [] := by first | (simp [entryFrame, mkF, argsToLocals, Value.category]; done) | rfl
def Q_rmPut30 (Z : State) (a1 : Addr) (kb : ClassId) (c0 x0 x1 x2 x3 x4 x5 : Int32) (h0 : Heap) (n0 : Nat) (v : Option Value) (h : Heap) (L : List Loc) : Prop := v = none ∧ Fr n0 L ∧ Keep h0 h [a1] ∧ Arv Z h a1 kb .byte (6 : Int32) [(.int ((c0 >>> ((0 : Int32) &&& 31)).toInt8.toInt32)), (.int ((c0 >>> ((8 : Int32) &&& 31)).toInt8.toInt32)), (.int x2), (.int x3), (.int x4), (.int x5)] (.int 0)
theorem rmPut30 (l : Launch) (Z : State) (a0 : Array Value) (hw : ∀ d ∈ tables_1, d.before a0 Z = true) (ws : List Jvm.Cond) (a1 : Addr) (kb : ClassId) (c0 x0 x1 x2 x3 x4 x5 : Int32) (h0 : Heap) (n0 : Nat) (Z0 : n0 ≤ h0.size) (P0 : Arv Z h0 a1 kb .byte (6 : Int32) [(.int x0), (.int x1), (.int x2), (.int x3), (.int x4), (.int x5)] (.int 0)) (g_a1 : n0 ≤ a1) (P2 : Sta Z h0 "java/lang/StringUTF16" "$assertionsDisabled" "Z" (.int 1)) (P3 : Sta Z h0 "java/lang/StringUTF16" "HI_BYTE_SHIFT" "I" (.int 0)) (P4 : Sta Z h0 "java/lang/StringUTF16" "LO_BYTE_SHIFT" "I" (.int 8)) :
    MetFree l yq20 (head1 (Jvm.Cond.code yq20 jdk_52_method_4_code 3 none :: ws) rq0) (fun a U => a = #[(.ref a1), (.int 0), (.int c0)] ∧ Z.Warmed39 U.vm ∧ U.heap = h0) (fun _ _ _ _ _ => True) (fun _ U o U' => ∃ v L, o = .returned v ∧ Q_rmPut30 Z a1 kb c0 x0 x1 x2 x3 x4 x5 h0 n0 v U'.heap L ∧ FrameEnd U o U' L rq0.cells rq0.slots) := by
  refine MetFree.of_bodySF (plainFor_of_name pn_java_lang_StringUTF16) hisR ?_
  intro p e s m args below meth c s₁ Bd hml0 hP hK
  obtain ⟨rfl, hZ, hh⟩ := hP
  have hx := Bd.exec
  have hby := Bd.bytes
  have hml : c.maxLocals = 3 := hml0
  have hown : s.vm.findClass "java/lang/StringUTF16" = some m.cls := findClass_of_methodNamed Bd.named
  have hnm := (name_of_methodNamed Bd.named Bd.method).1
  have X0 : Stand p l e rq0 s m #[(.ref a1), (.int 0), (.int c0)] below meth c s₁ [] 0 0 := Stand.of_body Bd
  have e0 : s₁.heap = h0 := by rw [← hh, Bd.state]; rfl
  have N0 := Fr.nil n0
  refine own_fw (A' := (s₁.setTop (mkF m 0 #[.val (.ref a1), .val (.int 0), .val (.int c0)] []))) (fun t k => castTop (ef_rmPut30 m a1 c0) k) ?_
  obtain ⟨T1, X1, e1, st1⟩ := getS2 X0 hx hZ hown (host := "") (Or.inl (own_w hw 111 rfl)) Via.refl e0 P2 (g := (mkF m 0 #[rv a1, iv 0, iv c0] [])) rfl (hb hby d23_0)
  refine own_fw (A' := (T1.setTop (mkF m 38 #[rv a1, iv 1, iv c0] [.int c0, .int 0, .ref a1]))) (fun t k => st1 _ (XS.ifYes X1.here hx rfl (pc0 := 3) (pc' := 28) rfl (hb hby d23_3) rfl (XT.i0_ne_t (by decide)) (by decide) (by decide) (XS.iloadN X1.here hx rfl (hb hby d23_28) rfl (XS.iconst X1.here hx rfl (hb hby d23_29) (XS.ishl X1.here hx rfl (hb hby d23_30) rfl (XS.istoreN X1.here hx rfl (hb hby d23_31) rfl (l' := #[.val (.ref a1), .val (.int 0), .val (.int c0)]) rfl (XS.aloadN X1.here hx rfl (hb hby d23_32) rfl rfl (XS.iloadN X1.here hx rfl (hb hby d23_33) rfl (XS.iinc X1.here hx rfl (hb hby d23_34) rfl (l' := #[.val (.ref a1), .val (.int 1), .val (.int c0)]) rfl (XS.iloadN X1.here hx rfl (hb hby d23_37) rfl k)))))))))) ?_
  obtain ⟨T2, X2, e2, st2⟩ := getS2 X1 hx hZ hown (host := "") (Or.inl (own_w hw 112 rfl)) Via.refl e1 P3 (g := (mkF m 38 #[rv a1, iv 1, iv c0] [.int c0, .int 0, .ref a1])) rfl (hb hby d23_38)
  refine own_fw (A' := (T2.setTop (mkF m 43 #[rv a1, iv 1, iv c0] [.int ((c0 >>> ((0 : Int32) &&& 31)).toInt8.toInt32), .int 0, .ref a1]))) (fun t k => st2 _ (XS.ishr X2.here hx rfl (hb hby d23_41) rfl (XS.i2b X2.here hx rfl (hb hby d23_42) rfl k))) ?_
  obtain ⟨cl3, Ar3, q3, S3, M3, H3, G3⟩ := id P0
  have hin3 : ¬ ((0 : Int32) < 0 ∨ cl3.slots.size ≤ ((0 : Int32)).toNatClampNeg) := inb_of S3 ⟨by decide, by decide⟩
  obtain ⟨T3, h3, X3, e3, W3, st3⟩ := stB X2 hx hZ e2 Ar3 (j := (0 : Int32)) hin3 (g := (mkF m 43 #[rv a1, iv 1, iv c0] [.int ((c0 >>> ((0 : Int32) &&& 31)).toInt8.toInt32), .int 0, .ref a1])) rfl rfl (hb hby d23_43)
  rw [own_narB] at W3
  have V3 : Arv Z h3 a1 kb .byte (6 : Int32) [(.int ((c0 >>> ((0 : Int32) &&& 31)).toInt8.toInt32)), (.int x1), (.int x2), (.int x3), (.int x4), (.int x5)] (.int 0) := Arv.set Ar3 q3 S3 M3 H3 G3 (fits_nar_byte _) W3 0 rfl (Nat.le_of_ble_eq_true rfl)
  have Nf3 := Fr.snoc X3 N0 g_a1
  have K3 : Keep h0 h3 [a1] := (Keep.refl h0 [a1]).wr W3 (Or.inl (List.mem_of_getElem? (i := 0) rfl))
  have Z3 : n0 ≤ h3.size := Nat.le_trans Z0 (Keep.of_wr W3).1
  refine own_fw (A' := (T3.setTop (mkF m 47 #[rv a1, iv 1, iv c0] [.int c0, .int 1, .ref a1]))) (fun t k => st3 _ (XS.aloadN X3.here hx rfl (hb hby d23_44) rfl rfl (XS.iloadN X3.here hx rfl (hb hby d23_45) rfl (XS.iloadN X3.here hx rfl (hb hby d23_46) rfl k)))) ?_
  obtain ⟨T4, X4, e4, st4⟩ := getS2 X3 hx hZ hown (host := "") (Or.inl (own_w hw 113 rfl)) Via.refl e3 (P4.wr W3) (g := (mkF m 47 #[rv a1, iv 1, iv c0] [.int c0, .int 1, .ref a1])) rfl (hb hby d23_47)
  refine own_fw (A' := (T4.setTop (mkF m 52 #[rv a1, iv 1, iv c0] [.int ((c0 >>> ((8 : Int32) &&& 31)).toInt8.toInt32), .int 1, .ref a1]))) (fun t k => st4 _ (XS.ishr X4.here hx rfl (hb hby d23_50) rfl (XS.i2b X4.here hx rfl (hb hby d23_51) rfl k))) ?_
  obtain ⟨cl5, Ar5, q5, S5, M5, H5, G5⟩ := id V3
  have hin5 : ¬ ((1 : Int32) < 0 ∨ cl5.slots.size ≤ ((1 : Int32)).toNatClampNeg) := inb_of S5 ⟨by decide, by decide⟩
  obtain ⟨T5, h5, X5, e5, W5, st5⟩ := stB X4 hx hZ e4 Ar5 (j := (1 : Int32)) hin5 (g := (mkF m 52 #[rv a1, iv 1, iv c0] [.int ((c0 >>> ((8 : Int32) &&& 31)).toInt8.toInt32), .int 1, .ref a1])) rfl rfl (hb hby d23_52)
  rw [own_narB] at W5
  have V5 : Arv Z h5 a1 kb .byte (6 : Int32) [(.int ((c0 >>> ((0 : Int32) &&& 31)).toInt8.toInt32)), (.int ((c0 >>> ((8 : Int32) &&& 31)).toInt8.toInt32)), (.int x2), (.int x3), (.int x4), (.int x5)] (.int 0) := Arv.set Ar5 q5 S5 M5 H5 G5 (fits_nar_byte _) W5 1 rfl (Nat.le_of_ble_eq_true rfl)
  have Nf5 := Fr.snoc X5 Nf3 g_a1
  have K5 : Keep h0 h5 [a1] := K3.wr W5 (Or.inl (List.mem_of_getElem? (i := 0) rfl))
  have Z5 : n0 ≤ h5.size := Nat.le_trans Z3 (Keep.of_wr W5).1
  refine own_fw (A' := (T5.setTop (mkF m 53 #[rv a1, iv 1, iv c0] []))) (fun t k => st5 _ k) ?_
  obtain ⟨fs, hr, hrun, hended, hW, hsame⟩ := X5.leave (v := none) (fun _ => rfl)
  refine ⟨_, _, ?_, hrun, hended, _, _, rfl, ?_, ⟨_, rfl⟩, hW, hsame.mono (by decide) (by decide)⟩
  · exact X5.returnOut hx Bd.returns (hb hby d23_53) hr
  · show Q_rmPut30 Z a1 kb c0 x0 x1 x2 x3 x4 x5 h0 n0 _ T5.heap _
    rw [e5]
    exact ⟨rfl, Nf5, K5, V5⟩
theorem ef_rmPut31 (m : MethodId) (a1 : Addr) (c0 : Int32) : entryFrame m #[(.ref a1), (.int 1), (.int c0)] 3 = mkF m 0 #[.val (.ref a1), .val (.int 1), .val (.int c0)] [] := by first | (simp [entryFrame, mkF, argsToLocals, Value.category]; done) | rfl
def Q_rmPut31 (Z : State) (a1 : Addr) (kb : ClassId) (c0 x0 x1 x2 x3 x4 x5 : Int32) (h0 : Heap) (n0 : Nat) (v : Option Value) (h : Heap) (L : List Loc) : Prop := v = none ∧ Fr n0 L ∧ Keep h0 h [a1] ∧ Arv Z h a1 kb .byte (6 : Int32) [(.int x0), (.int x1), (.int ((c0 >>> ((0 : Int32) &&& 31)).toInt8.toInt32)), (.int ((c0 >>> ((8 : Int32) &&& 31)).toInt8.toInt32)), (.int x4), (.int x5)] (.int 0)
theorem rmPut31 (l : Launch) (Z : State) (a0 : Array Value) (hw : ∀ d ∈ tables_1, d.before a0 Z = true) (ws : List Jvm.Cond) (a1 : Addr) (kb : ClassId) (c0 x0 x1 x2 x3 x4 x5 : Int32) (h0 : Heap) (n0 : Nat) (Z0 : n0 ≤ h0.size) (P0 : Arv Z h0 a1 kb .byte (6 : Int32) [(.int x0), (.int x1), (.int x2), (.int x3), (.int x4), (.int x5)] (.int 0)) (g_a1 : n0 ≤ a1) (P2 : Sta Z h0 "java/lang/StringUTF16" "$assertionsDisabled" "Z" (.int 1)) (P3 : Sta Z h0 "java/lang/StringUTF16" "HI_BYTE_SHIFT" "I" (.int 0)) (P4 : Sta Z h0 "java/lang/StringUTF16" "LO_BYTE_SHIFT" "I" (.int 8)) :
    MetFree l yq20 (head1 (Jvm.Cond.code yq20 jdk_52_method_4_code 3 none :: ws) rq0) (fun a U => a = #[(.ref a1), (.int 1), (.int c0)] ∧ Z.Warmed39 U.vm ∧ U.heap = h0) (fun _ _ _ _ _ => True) (fun _ U o U' => ∃ v L, o = .returned v ∧ Q_rmPut31 Z a1 kb c0 x0 x1 x2 x3 x4 x5 h0 n0 v U'.heap L ∧ FrameEnd U o U' L rq0.cells rq0.slots) := by
  refine MetFree.of_bodySF (plainFor_of_name pn_java_lang_StringUTF16) hisR ?_
  intro p e s m args below meth c s₁ Bd hml0 hP hK
  obtain ⟨rfl, hZ, hh⟩ := hP
  have hx := Bd.exec
  have hby := Bd.bytes
  have hml : c.maxLocals = 3 := hml0
  have hown : s.vm.findClass "java/lang/StringUTF16" = some m.cls := findClass_of_methodNamed Bd.named
  have hnm := (name_of_methodNamed Bd.named Bd.method).1
  have X0 : Stand p l e rq0 s m #[(.ref a1), (.int 1), (.int c0)] below meth c s₁ [] 0 0 := Stand.of_body Bd
  have e0 : s₁.heap = h0 := by rw [← hh, Bd.state]; rfl
  have N0 := Fr.nil n0
  refine own_fw (A' := (s₁.setTop (mkF m 0 #[.val (.ref a1), .val (.int 1), .val (.int c0)] []))) (fun t k => castTop (ef_rmPut31 m a1 c0) k) ?_
  obtain ⟨T1, X1, e1, st1⟩ := getS2 X0 hx hZ hown (host := "") (Or.inl (own_w hw 111 rfl)) Via.refl e0 P2 (g := (mkF m 0 #[rv a1, iv 1, iv c0] [])) rfl (hb hby d23_0)
  refine own_fw (A' := (T1.setTop (mkF m 38 #[rv a1, iv 3, iv c0] [.int c0, .int 2, .ref a1]))) (fun t k => st1 _ (XS.ifYes X1.here hx rfl (pc0 := 3) (pc' := 28) rfl (hb hby d23_3) rfl (XT.i0_ne_t (by decide)) (by decide) (by decide) (XS.iloadN X1.here hx rfl (hb hby d23_28) rfl (XS.iconst X1.here hx rfl (hb hby d23_29) (XS.ishl X1.here hx rfl (hb hby d23_30) rfl (XS.istoreN X1.here hx rfl (hb hby d23_31) rfl (l' := #[.val (.ref a1), .val (.int 2), .val (.int c0)]) rfl (XS.aloadN X1.here hx rfl (hb hby d23_32) rfl rfl (XS.iloadN X1.here hx rfl (hb hby d23_33) rfl (XS.iinc X1.here hx rfl (hb hby d23_34) rfl (l' := #[.val (.ref a1), .val (.int 3), .val (.int c0)]) rfl (XS.iloadN X1.here hx rfl (hb hby d23_37) rfl k)))))))))) ?_
  obtain ⟨T2, X2, e2, st2⟩ := getS2 X1 hx hZ hown (host := "") (Or.inl (own_w hw 112 rfl)) Via.refl e1 P3 (g := (mkF m 38 #[rv a1, iv 3, iv c0] [.int c0, .int 2, .ref a1])) rfl (hb hby d23_38)
  refine own_fw (A' := (T2.setTop (mkF m 43 #[rv a1, iv 3, iv c0] [.int ((c0 >>> ((0 : Int32) &&& 31)).toInt8.toInt32), .int 2, .ref a1]))) (fun t k => st2 _ (XS.ishr X2.here hx rfl (hb hby d23_41) rfl (XS.i2b X2.here hx rfl (hb hby d23_42) rfl k))) ?_
  obtain ⟨cl3, Ar3, q3, S3, M3, H3, G3⟩ := id P0
  have hin3 : ¬ ((2 : Int32) < 0 ∨ cl3.slots.size ≤ ((2 : Int32)).toNatClampNeg) := inb_of S3 ⟨by decide, by decide⟩
  obtain ⟨T3, h3, X3, e3, W3, st3⟩ := stB X2 hx hZ e2 Ar3 (j := (2 : Int32)) hin3 (g := (mkF m 43 #[rv a1, iv 3, iv c0] [.int ((c0 >>> ((0 : Int32) &&& 31)).toInt8.toInt32), .int 2, .ref a1])) rfl rfl (hb hby d23_43)
  rw [own_narB] at W3
  have V3 : Arv Z h3 a1 kb .byte (6 : Int32) [(.int x0), (.int x1), (.int ((c0 >>> ((0 : Int32) &&& 31)).toInt8.toInt32)), (.int x3), (.int x4), (.int x5)] (.int 0) := Arv.set Ar3 q3 S3 M3 H3 G3 (fits_nar_byte _) W3 2 rfl (Nat.le_of_ble_eq_true rfl)
  have Nf3 := Fr.snoc X3 N0 g_a1
  have K3 : Keep h0 h3 [a1] := (Keep.refl h0 [a1]).wr W3 (Or.inl (List.mem_of_getElem? (i := 0) rfl))
  have Z3 : n0 ≤ h3.size := Nat.le_trans Z0 (Keep.of_wr W3).1
  refine own_fw (A' := (T3.setTop (mkF m 47 #[rv a1, iv 3, iv c0] [.int c0, .int 3, .ref a1]))) (fun t k => st3 _ (XS.aloadN X3.here hx rfl (hb hby d23_44) rfl rfl (XS.iloadN X3.here hx rfl (hb hby d23_45) rfl (XS.iloadN X3.here hx rfl (hb hby d23_46) rfl k)))) ?_
  obtain ⟨T4, X4, e4, st4⟩ := getS2 X3 hx hZ hown (host := "") (Or.inl (own_w hw 113 rfl)) Via.refl e3 (P4.wr W3) (g := (mkF m 47 #[rv a1, iv 3, iv c0] [.int c0, .int 3, .ref a1])) rfl (hb hby d23_47)
  refine own_fw (A' := (T4.setTop (mkF m 52 #[rv a1, iv 3, iv c0] [.int ((c0 >>> ((8 : Int32) &&& 31)).toInt8.toInt32), .int 3, .ref a1]))) (fun t k => st4 _ (XS.ishr X4.here hx rfl (hb hby d23_50) rfl (XS.i2b X4.here hx rfl (hb hby d23_51) rfl k))) ?_
  obtain ⟨cl5, Ar5, q5, S5, M5, H5, G5⟩ := id V3
  have hin5 : ¬ ((3 : Int32) < 0 ∨ cl5.slots.size ≤ ((3 : Int32)).toNatClampNeg) := inb_of S5 ⟨by decide, by decide⟩
  obtain ⟨T5, h5, X5, e5, W5, st5⟩ := stB X4 hx hZ e4 Ar5 (j := (3 : Int32)) hin5 (g := (mkF m 52 #[rv a1, iv 3, iv c0] [.int ((c0 >>> ((8 : Int32) &&& 31)).toInt8.toInt32), .int 3, .ref a1])) rfl rfl (hb hby d23_52)
  rw [own_narB] at W5
  have V5 : Arv Z h5 a1 kb .byte (6 : Int32) [(.int x0), (.int x1), (.int ((c0 >>> ((0 : Int32) &&& 31)).toInt8.toInt32)), (.int ((c0 >>> ((8 : Int32) &&& 31)).toInt8.toInt32)), (.int x4), (.int x5)] (.int 0) := Arv.set Ar5 q5 S5 M5 H5 G5 (fits_nar_byte _) W5 3 rfl (Nat.le_of_ble_eq_true rfl)
  have Nf5 := Fr.snoc X5 Nf3 g_a1
  have K5 : Keep h0 h5 [a1] := K3.wr W5 (Or.inl (List.mem_of_getElem? (i := 0) rfl))
  have Z5 : n0 ≤ h5.size := Nat.le_trans Z3 (Keep.of_wr W5).1
  refine own_fw (A' := (T5.setTop (mkF m 53 #[rv a1, iv 3, iv c0] []))) (fun t k => st5 _ k) ?_
  obtain ⟨fs, hr, hrun, hended, hW, hsame⟩ := X5.leave (v := none) (fun _ => rfl)
  refine ⟨_, _, ?_, hrun, hended, _, _, rfl, ?_, ⟨_, rfl⟩, hW, hsame.mono (by decide) (by decide)⟩
  · exact X5.returnOut hx Bd.returns (hb hby d23_53) hr
  · show Q_rmPut31 Z a1 kb c0 x0 x1 x2 x3 x4 x5 h0 n0 _ T5.heap _
    rw [e5]
    exact ⟨rfl, Nf5, K5, V5⟩
theorem ef_rmPut32 (m : MethodId) (a1 : Addr) (c0 : Int32) : entryFrame m #[(.ref a1), (.int 2), (.int c0)] 3 = mkF m 0 #[.val (.ref a1), .val (.int 2), .val (.int c0)] [] := by first | (simp [entryFrame, mkF, argsToLocals, Value.category]; done) | rfl
def Q_rmPut32 (Z : State) (a1 : Addr) (kb : ClassId) (c0 x0 x1 x2 x3 x4 x5 : Int32) (h0 : Heap) (n0 : Nat) (v : Option Value) (h : Heap) (L : List Loc) : Prop := v = none ∧ Fr n0 L ∧ Keep h0 h [a1] ∧ Arv Z h a1 kb .byte (6 : Int32) [(.int x0), (.int x1), (.int x2), (.int x3), (.int ((c0 >>> ((0 : Int32) &&& 31)).toInt8.toInt32)), (.int ((c0 >>> ((8 : Int32) &&& 31)).toInt8.toInt32))] (.int 0)
theorem rmPut32 (l : Launch) (Z : State) (a0 : Array Value) (hw : ∀ d ∈ tables_1, d.before a0 Z = true) (ws : List Jvm.Cond) (a1 : Addr) (kb : ClassId) (c0 x0 x1 x2 x3 x4 x5 : Int32) (h0 : Heap) (n0 : Nat) (Z0 : n0 ≤ h0.size) (P0 : Arv Z h0 a1 kb .byte (6 : Int32) [(.int x0), (.int x1), (.int x2), (.int x3), (.int x4), (.int x5)] (.int 0)) (g_a1 : n0 ≤ a1) (P2 : Sta Z h0 "java/lang/StringUTF16" "$assertionsDisabled" "Z" (.int 1)) (P3 : Sta Z h0 "java/lang/StringUTF16" "HI_BYTE_SHIFT" "I" (.int 0)) (P4 : Sta Z h0 "java/lang/StringUTF16" "LO_BYTE_SHIFT" "I" (.int 8)) :
    MetFree l yq20 (head1 (Jvm.Cond.code yq20 jdk_52_method_4_code 3 none :: ws) rq0) (fun a U => a = #[(.ref a1), (.int 2), (.int c0)] ∧ Z.Warmed39 U.vm ∧ U.heap = h0) (fun _ _ _ _ _ => True) (fun _ U o U' => ∃ v L, o = .returned v ∧ Q_rmPut32 Z a1 kb c0 x0 x1 x2 x3 x4 x5 h0 n0 v U'.heap L ∧ FrameEnd U o U' L rq0.cells rq0.slots) := by
  refine MetFree.of_bodySF (plainFor_of_name pn_java_lang_StringUTF16) hisR ?_
  intro p e s m args below meth c s₁ Bd hml0 hP hK
  obtain ⟨rfl, hZ, hh⟩ := hP
  have hx := Bd.exec
  have hby := Bd.bytes
  have hml : c.maxLocals = 3 := hml0
  have hown : s.vm.findClass "java/lang/StringUTF16" = some m.cls := findClass_of_methodNamed Bd.named
  have hnm := (name_of_methodNamed Bd.named Bd.method).1
  have X0 : Stand p l e rq0 s m #[(.ref a1), (.int 2), (.int c0)] below meth c s₁ [] 0 0 := Stand.of_body Bd
  have e0 : s₁.heap = h0 := by rw [← hh, Bd.state]; rfl
  have N0 := Fr.nil n0
  refine own_fw (A' := (s₁.setTop (mkF m 0 #[.val (.ref a1), .val (.int 2), .val (.int c0)] []))) (fun t k => castTop (ef_rmPut32 m a1 c0) k) ?_
  obtain ⟨T1, X1, e1, st1⟩ := getS2 X0 hx hZ hown (host := "") (Or.inl (own_w hw 111 rfl)) Via.refl e0 P2 (g := (mkF m 0 #[rv a1, iv 2, iv c0] [])) rfl (hb hby d23_0)
  refine own_fw (A' := (T1.setTop (mkF m 38 #[rv a1, iv 5, iv c0] [.int c0, .int 4, .ref a1]))) (fun t k => st1 _ (XS.ifYes X1.here hx rfl (pc0 := 3) (pc' := 28) rfl (hb hby d23_3) rfl (XT.i0_ne_t (by decide)) (by decide) (by decide) (XS.iloadN X1.here hx rfl (hb hby d23_28) rfl (XS.iconst X1.here hx rfl (hb hby d23_29) (XS.ishl X1.here hx rfl (hb hby d23_30) rfl (XS.istoreN X1.here hx rfl (hb hby d23_31) rfl (l' := #[.val (.ref a1), .val (.int 4), .val (.int c0)]) rfl (XS.aloadN X1.here hx rfl (hb hby d23_32) rfl rfl (XS.iloadN X1.here hx rfl (hb hby d23_33) rfl (XS.iinc X1.here hx rfl (hb hby d23_34) rfl (l' := #[.val (.ref a1), .val (.int 5), .val (.int c0)]) rfl (XS.iloadN X1.here hx rfl (hb hby d23_37) rfl k)))))))))) ?_
  obtain ⟨T2, X2, e2, st2⟩ := getS2 X1 hx hZ hown (host := "") (Or.inl (own_w hw 112 rfl)) Via.refl e1 P3 (g := (mkF m 38 #[rv a1, iv 5, iv c0] [.int c0, .int 4, .ref a1])) rfl (hb hby d23_38)
  refine own_fw (A' := (T2.setTop (mkF m 43 #[rv a1, iv 5, iv c0] [.int ((c0 >>> ((0 : Int32) &&& 31)).toInt8.toInt32), .int 4, .ref a1]))) (fun t k => st2 _ (XS.ishr X2.here hx rfl (hb hby d23_41) rfl (XS.i2b X2.here hx rfl (hb hby d23_42) rfl k))) ?_
  obtain ⟨cl3, Ar3, q3, S3, M3, H3, G3⟩ := id P0
  have hin3 : ¬ ((4 : Int32) < 0 ∨ cl3.slots.size ≤ ((4 : Int32)).toNatClampNeg) := inb_of S3 ⟨by decide, by decide⟩
  obtain ⟨T3, h3, X3, e3, W3, st3⟩ := stB X2 hx hZ e2 Ar3 (j := (4 : Int32)) hin3 (g := (mkF m 43 #[rv a1, iv 5, iv c0] [.int ((c0 >>> ((0 : Int32) &&& 31)).toInt8.toInt32), .int 4, .ref a1])) rfl rfl (hb hby d23_43)
  rw [own_narB] at W3
  have V3 : Arv Z h3 a1 kb .byte (6 : Int32) [(.int x0), (.int x1), (.int x2), (.int x3), (.int ((c0 >>> ((0 : Int32) &&& 31)).toInt8.toInt32)), (.int x5)] (.int 0) := Arv.set Ar3 q3 S3 M3 H3 G3 (fits_nar_byte _) W3 4 rfl (Nat.le_of_ble_eq_true rfl)
  have Nf3 := Fr.snoc X3 N0 g_a1
  have K3 : Keep h0 h3 [a1] := (Keep.refl h0 [a1]).wr W3 (Or.inl (List.mem_of_getElem? (i := 0) rfl))
  have Z3 : n0 ≤ h3.size := Nat.le_trans Z0 (Keep.of_wr W3).1
  refine own_fw (A' := (T3.setTop (mkF m 47 #[rv a1, iv 5, iv c0] [.int c0, .int 5, .ref a1]))) (fun t k => st3 _ (XS.aloadN X3.here hx rfl (hb hby d23_44) rfl rfl (XS.iloadN X3.here hx rfl (hb hby d23_45) rfl (XS.iloadN X3.here hx rfl (hb hby d23_46) rfl k)))) ?_
  obtain ⟨T4, X4, e4, st4⟩ := getS2 X3 hx hZ hown (host := "") (Or.inl (own_w hw 113 rfl)) Via.refl e3 (P4.wr W3) (g := (mkF m 47 #[rv a1, iv 5, iv c0] [.int c0, .int 5, .ref a1])) rfl (hb hby d23_47)
  refine own_fw (A' := (T4.setTop (mkF m 52 #[rv a1, iv 5, iv c0] [.int ((c0 >>> ((8 : Int32) &&& 31)).toInt8.toInt32), .int 5, .ref a1]))) (fun t k => st4 _ (XS.ishr X4.here hx rfl (hb hby d23_50) rfl (XS.i2b X4.here hx rfl (hb hby d23_51) rfl k))) ?_
  obtain ⟨cl5, Ar5, q5, S5, M5, H5, G5⟩ := id V3
  have hin5 : ¬ ((5 : Int32) < 0 ∨ cl5.slots.size ≤ ((5 : Int32)).toNatClampNeg) := inb_of S5 ⟨by decide, by decide⟩
  obtain ⟨T5, h5, X5, e5, W5, st5⟩ := stB X4 hx hZ e4 Ar5 (j := (5 : Int32)) hin5 (g := (mkF m 52 #[rv a1, iv 5, iv c0] [.int ((c0 >>> ((8 : Int32) &&& 31)).toInt8.toInt32), .int 5, .ref a1])) rfl rfl (hb hby d23_52)
  rw [own_narB] at W5
  have V5 : Arv Z h5 a1 kb .byte (6 : Int32) [(.int x0), (.int x1), (.int x2), (.int x3), (.int ((c0 >>> ((0 : Int32) &&& 31)).toInt8.toInt32)), (.int ((c0 >>> ((8 : Int32) &&& 31)).toInt8.toInt32))] (.int 0) := Arv.set Ar5 q5 S5 M5 H5 G5 (fits_nar_byte _) W5 5 rfl (Nat.le_of_ble_eq_true rfl)
  have Nf5 := Fr.snoc X5 Nf3 g_a1
  have K5 : Keep h0 h5 [a1] := K3.wr W5 (Or.inl (List.mem_of_getElem? (i := 0) rfl))
  have Z5 : n0 ≤ h5.size := Nat.le_trans Z3 (Keep.of_wr W5).1
  refine own_fw (A' := (T5.setTop (mkF m 53 #[rv a1, iv 5, iv c0] []))) (fun t k => st5 _ k) ?_
  obtain ⟨fs, hr, hrun, hended, hW, hsame⟩ := X5.leave (v := none) (fun _ => rfl)
  refine ⟨_, _, ?_, hrun, hended, _, _, rfl, ?_, ⟨_, rfl⟩, hW, hsame.mono (by decide) (by decide)⟩
  · exact X5.returnOut hx Bd.returns (hb hby d23_53) hr
  · show Q_rmPut32 Z a1 kb c0 x0 x1 x2 x3 x4 x5 h0 n0 _ T5.heap _
    rw [e5]
    exact ⟨rfl, Nf5, K5, V5⟩
theorem ef_rmToB3 (m : MethodId) (a1 : Addr) : entryFrame m #[(.ref a1), (.int 0), (.int 3)] 5 = mkF m 0 #[.val (.ref a1), .val (.int 0), .val (.int 3), .unset, .unset] [] := by first | (simp [entryFrame, mkF, argsToLocals, Value.category]; done) | rfl
def Q_rmToB3 (Z : State) (a1 : Addr) (kc : ClassId) (c0 c1 c2 : Int32) (h0 : Heap) (n0 : Nat) (v : Option Value) (h : Heap) (L : List Loc) : Prop := ∃ b : Addr, ∃ kb : ClassId, v = some (.ref b) ∧ Fr n0 L ∧ Keep h0 h [] ∧ Arv Z h b kb .byte (6 : Int32) [(.int ((c0 >>> ((0 : Int32) &&& 31)).toInt8.toInt32)), (.int ((c0 >>> ((8 : Int32) &&& 31)).toInt8.toInt32)), (.int ((c1 >>> ((0 : Int32) &&& 31)).toInt8.toInt32)), (.int ((c1 >>> ((8 : Int32) &&& 31)).toInt8.toInt32)), (.int ((c2 >>> ((0 : Int32) &&& 31)).toInt8.toInt32)), (.int ((c2 >>> ((8 : Int32) &&& 31)).toInt8.toInt32))] (.int 0) ∧ (h0.size ≤ b)
theorem rmToB3 (l : Launch) (Z : State) (a0 : Array Value) (hw : ∀ d ∈ tables_1, d.before a0 Z = true) (ws : List Jvm.Cond) (a1 : Addr) (kc : ClassId) (c0 c1 c2 : Int32) (h0 : Heap) (n0 : Nat) (Z0 : n0 ≤ h0.size) (P0 : Arv Z h0 a1 kc .char (3 : Int32) [(.int c0), (.int c1), (.int c2)] (.int 0)) (P1 : Sta Z h0 "java/lang/StringUTF16" "$assertionsDisabled" "Z" (.int 1)) (P2 : Sta Z h0 "java/lang/StringUTF16" "HI_BYTE_SHIFT" "I" (.int 0)) (P3 : Sta Z h0 "java/lang/StringUTF16" "LO_BYTE_SHIFT" "I" (.int 8)) :
    MetFree l yq22 (head1 (Jvm.Cond.code yq22 jdk_52_method_14_code 5 (some (.array .byte)) :: ws) rq33) (fun a U => a = #[(.ref a1), (.int 0), (.int 3)] ∧ Z.Warmed39 U.vm ∧ U.heap = h0) (fun _ _ _ _ _ => True) (fun _ U o U' => ∃ v L, o = .returned v ∧ Q_rmToB3 Z a1 kc c0 c1 c2 h0 n0 v U'.heap L ∧ FrameEnd U o U' L rq33.cells rq33.slots) := by
  refine MetFree.of_bodySF (plainFor_of_name pn_java_lang_StringUTF16) hisR ?_
  intro p e s m args below meth c s₁ Bd hml0 hP hK
  obtain ⟨rfl, hZ, hh⟩ := hP
  have hx := Bd.exec
  have hby := Bd.bytes
  have hml : c.maxLocals = 5 := hml0
  have hown : s.vm.findClass "java/lang/StringUTF16" = some m.cls := findClass_of_methodNamed Bd.named
  have hnm := (name_of_methodNamed Bd.named Bd.method).1
  have X0 : Stand p l e rq33 s m #[(.ref a1), (.int 0), (.int 3)] below meth c s₁ [] 0 0 := Stand.of_body Bd
  have e0 : s₁.heap = h0 := by rw [← hh, Bd.state]; rfl
  have N0 := Fr.nil n0
  refine own_fw (A' := (s₁.setTop (mkF m 1 #[rv a1, iv 0, iv 3, .unset, .unset] [.int 3]))) (fun t k => castTop (ef_rmToB3 m a1) (XS.iloadN X0.here hx rfl (hb hby d20_0) rfl k)) ?_
  obtain ⟨_, _, ⟨T1, L1, k1, n1⟩, -, X1, ⟨Lc1, hQ1, l1, y1, z1⟩, st1⟩ := Jvm.LawKit.callS X0 hx (y := yq19) hown (mvT hZ (own_w hw 101 rfl)) (mvT hZ (own_w hw 102 rfl)) (mvT hZ (own_w hw 40 rfl)) (mvT hZ (own_w hw 103 rfl)) (by decide) (backOf (W := 0) (rmNBF3 l Z a0 hw []  h0 n0 Z0 ) hZ (own_w hw 103 rfl) (own_w hw 40 rfl) (by decide) (by decide)) (g := (mkF m 1 #[rv a1, iv 0, iv 3, .unset, .unset] [.int 3])) rfl (by rw [hml]; rfl) (argsL := [(.int 3)]) (rest := []) (lenOf pd__I__B rfl) rfl (by show 2 * 0 + _ ≤ _; exact Nat.le_of_eq rfl) (hb hby d20_1) (fun _ _ => ⟨rfl, e0, (by decide : 0 + 1 ≤ _), (by decide : 0 + 6 ≤ _)⟩)
  dsimp only [Pt.U, Pt.locs, Pt.cells, Pt.slots] at X1 l1 y1 z1 st1 hQ1
  subst l1 y1 z1
  obtain ⟨b_1, kb_1, rfl, Nq1, Kq1, Fq1_0, gb_1⟩ := hQ1
  have Nf1 := Fr.app N0 Nq1
  have K1 : Keep h0 T1.heap [] := (Keep.refl h0 []).trans Kq1 all0
  have sz_b_1 : h0.size ≤ b_1 := Nat.le_trans (Keep.refl h0 []).1 gb_1
  have g_b_1 : n0 ≤ b_1 := Nat.le_trans Z0 gb_1
  have ne_a1_b_1 : a1 ≠ b_1 := Nat.ne_of_lt (Nat.lt_of_lt_of_le P0.lt gb_1)
  have Z1 : n0 ≤ T1.heap.size := Nat.le_trans Z0 Kq1.1
  refine own_fw (A' := (T1.setTop (mkF m 19 #[rv a1, iv 0, iv 3, rv b_1, iv 0] [.int 0, .ref a1, .int 0, .ref b_1]))) (fun t k => st1 _ (XS.astoreN X1.here hx rfl (hb hby d20_4) rfl rfl (l' := #[.val (.ref a1), .val (.int 0), .val (.int 3), .val (.ref b_1), .unset]) rfl (XS.iconst X1.here hx rfl (hb hby d20_5) (XS.istore X1.here hx rfl (hb hby d20_6) rfl (l' := #[.val (.ref a1), .val (.int 0), .val (.int 3), .val (.ref b_1), .val (.int 0)]) rfl (XS.iload X1.here hx rfl (hb hby d20_8) rfl (XS.iloadN X1.here hx rfl (hb hby d20_10) rfl (XS.icmpNo X1.here hx rfl (hb hby d20_11) rfl (XT.ii_ge_f (by decide)) (XS.aloadN X1.here hx rfl (hb hby d20_14) rfl rfl (XS.iload X1.here hx rfl (hb hby d20_15) rfl (XS.aloadN X1.here hx rfl (hb hby d20_17) rfl rfl (XS.iloadN X1.here hx rfl (hb hby d20_18) rfl k))))))))))) ?_
  obtain ⟨cl2, Ar2, q2, S2, M2, H2, G2⟩ := id (P0.keep Kq1 nin0)
  have hin2 : ¬ ((0 : Int32) < 0 ∨ cl2.slots.size ≤ ((0 : Int32)).toNatClampNeg) := inb_of S2 ⟨by decide, by decide⟩
  have hat2 : cl2.slots[((0 : Int32)).toNatClampNeg]? = some (.int c0) := H2.at hin2 rfl
  refine own_fw (A' := (T1.setTop (mkF m 20 #[rv a1, iv 0, iv 3, rv b_1, iv 0] [.int c0, .int 0, .ref b_1]))) (fun t k => X1.caload hx (j := (0 : Int32)) (v := (.int c0)) (by exact Ar2.1) (State.isArrayOf_alike hZ.alike Ar2.2.1) Ar2.2.2 hin2 hat2 (g := (mkF m 19 #[rv a1, iv 0, iv 3, rv b_1, iv 0] [.int 0, .ref a1, .int 0, .ref b_1])) rfl rfl (hb hby d20_19) _ k) ?_
  obtain ⟨_, _, ⟨T3, L3, k3, n3⟩, -, X3, ⟨Lc3, hQ3, l3, y3, z3⟩, st3⟩ := Jvm.LawKit.callS X1 hx (y := yq20) hown (mvT hZ (own_w hw 108 rfl)) (mvT hZ (own_w hw 109 rfl)) (mvT hZ (own_w hw 40 rfl)) (mvT hZ (own_w hw 110 rfl)) (by decide) (backOf (W := 0) (rmPut30 l Z a0 hw [] b_1 kb_1 c0 (0 : Int32) (0 : Int32) (0 : Int32) (0 : Int32) (0 : Int32) (0 : Int32) T1.heap n0 Z1 Fq1_0 g_b_1 (own_staKeep P1 Kq1 all0) (own_staKeep P2 Kq1 all0) (own_staKeep P3 Kq1 all0)) hZ (own_w hw 110 rfl) (own_w hw 40 rfl) (by decide) (by decide)) (g := (mkF m 20 #[rv a1, iv 0, iv 3, rv b_1, iv 0] [.int c0, .int 0, .ref b_1])) rfl (by rw [hml]; rfl) (argsL := [(.ref b_1), (.int 0), (.int c0)]) (rest := []) (lenOf pd___BII_V rfl) rfl (by show 2 * 0 + _ ≤ _; exact Nat.le_of_eq rfl) (hb hby d20_20) (fun _ _ => ⟨rfl, rfl, (by decide : 1 + 0 ≤ _), (by decide : 6 + 0 ≤ _)⟩)
  dsimp only [Pt.U, Pt.locs, Pt.cells, Pt.slots] at X3 l3 y3 z3 st3 hQ3
  subst l3 y3 z3
  obtain ⟨rfl, Nq3, Kq3, Fq3_0⟩ := hQ3
  have Nf3 := Fr.app Nf1 Nq3
  have K3 : Keep h0 T3.heap [] := K1.trans Kq3 (allS (Or.inr sz_b_1) all0)
  have Z3 : n0 ≤ T3.heap.size := Nat.le_trans Z1 Kq3.1
  refine own_fw (A' := (T3.setTop (mkF m 19 #[rv a1, iv 1, iv 3, rv b_1, iv 1] [.int 1, .ref a1, .int 1, .ref b_1]))) (fun t k => st3 _ (XS.iinc X3.here hx rfl (hb hby d20_23) rfl (l' := #[.val (.ref a1), .val (.int 1), .val (.int 3), .val (.ref b_1), .val (.int 0)]) rfl (XS.iinc X3.here hx rfl (hb hby d20_26) rfl (l' := #[.val (.ref a1), .val (.int 1), .val (.int 3), .val (.ref b_1), .val (.int 1)]) rfl (XS.goto X3.here hx rfl (pc0 := 29) (pc' := 8) rfl (hb hby d20_29) (by decide) (by decide) (XS.iload X3.here hx rfl (hb hby d20_8) rfl (XS.iloadN X3.here hx rfl (hb hby d20_10) rfl (XS.icmpNo X3.here hx rfl (hb hby d20_11) rfl (XT.ii_ge_f (by decide)) (XS.aloadN X3.here hx rfl (hb hby d20_14) rfl rfl (XS.iload X3.here hx rfl (hb hby d20_15) rfl (XS.aloadN X3.here hx rfl (hb hby d20_17) rfl rfl (XS.iloadN X3.here hx rfl (hb hby d20_18) rfl k))))))))))) ?_
  obtain ⟨cl4, Ar4, q4, S4, M4, H4, G4⟩ := id ((P0.keep Kq1 nin0).keep Kq3 (ninS ne_a1_b_1 nin0))
  have hin4 : ¬ ((1 : Int32) < 0 ∨ cl4.slots.size ≤ ((1 : Int32)).toNatClampNeg) := inb_of S4 ⟨by decide, by decide⟩
  have hat4 : cl4.slots[((1 : Int32)).toNatClampNeg]? = some (.int c1) := H4.at hin4 rfl
  refine own_fw (A' := (T3.setTop (mkF m 20 #[rv a1, iv 1, iv 3, rv b_1, iv 1] [.int c1, .int 1, .ref b_1]))) (fun t k => X3.caload hx (j := (1 : Int32)) (v := (.int c1)) (by exact Ar4.1) (State.isArrayOf_alike hZ.alike Ar4.2.1) Ar4.2.2 hin4 hat4 (g := (mkF m 19 #[rv a1, iv 1, iv 3, rv b_1, iv 1] [.int 1, .ref a1, .int 1, .ref b_1])) rfl rfl (hb hby d20_19) _ k) ?_
  obtain ⟨_, _, ⟨T5, L5, k5, n5⟩, -, X5, ⟨Lc5, hQ5, l5, y5, z5⟩, st5⟩ := Jvm.LawKit.callS X3 hx (y := yq20) hown (mvT hZ (own_w hw 108 rfl)) (mvT hZ (own_w hw 109 rfl)) (mvT hZ (own_w hw 40 rfl)) (mvT hZ (own_w hw 110 rfl)) (by decide) (backOf (W := 0) (rmPut31 l Z a0 hw [] b_1 kb_1 c1 ((c0 >>> ((0 : Int32) &&& 31)).toInt8.toInt32) ((c0 >>> ((8 : Int32) &&& 31)).toInt8.toInt32) (0 : Int32) (0 : Int32) (0 : Int32) (0 : Int32) T3.heap n0 Z3 Fq3_0 g_b_1 (own_staKeep (own_staKeep P1 Kq1 all0) Kq3 (allS (own_plainV Fq1_0) all0)) (own_staKeep (own_staKeep P2 Kq1 all0) Kq3 (allS (own_plainV Fq1_0) all0)) (own_staKeep (own_staKeep P3 Kq1 all0) Kq3 (allS (own_plainV Fq1_0) all0))) hZ (own_w hw 110 rfl) (own_w hw 40 rfl) (by decide) (by decide)) (g := (mkF m 20 #[rv a1, iv 1, iv 3, rv b_1, iv 1] [.int c1, .int 1, .ref b_1])) rfl (by rw [hml]; rfl) (argsL := [(.ref b_1), (.int 1), (.int c1)]) (rest := []) (lenOf pd___BII_V rfl) rfl (by show 2 * 0 + _ ≤ _; exact Nat.le_of_eq rfl) (hb hby d20_20) (fun _ _ => ⟨rfl, rfl, (by decide : 1 + 0 ≤ _), (by decide : 6 + 0 ≤ _)⟩)
  dsimp only [Pt.U, Pt.locs, Pt.cells, Pt.slots] at X5 l5 y5 z5 st5 hQ5
  subst l5 y5 z5
  obtain ⟨rfl, Nq5, Kq5, Fq5_0⟩ := hQ5
  have Nf5 := Fr.app Nf3 Nq5
  have K5 : Keep h0 T5.heap [] := K3.trans Kq5 (allS (Or.inr sz_b_1) all0)
  have Z5 : n0 ≤ T5.heap.size := Nat.le_trans Z3 Kq5.1
  refine own_fw (A' := (T5.setTop (mkF m 19 #[rv a1, iv 2, iv 3, rv b_1, iv 2] [.int 2, .ref a1, .int 2, .ref b_1]))) (fun t k => st5 _ (XS.iinc X5.here hx rfl (hb hby d20_23) rfl (l' := #[.val (.ref a1), .val (.int 2), .val (.int 3), .val (.ref b_1), .val (.int 1)]) rfl (XS.iinc X5.here hx rfl (hb hby d20_26) rfl (l' := #[.val (.ref a1), .val (.int 2), .val (.int 3), .val (.ref b_1), .val (.int 2)]) rfl (XS.goto X5.here hx rfl (pc0 := 29) (pc' := 8) rfl (hb hby d20_29) (by decide) (by decide) (XS.iload X5.here hx rfl (hb hby d20_8) rfl (XS.iloadN X5.here hx rfl (hb hby d20_10) rfl (XS.icmpNo X5.here hx rfl (hb hby d20_11) rfl (XT.ii_ge_f (by decide)) (XS.aloadN X5.here hx rfl (hb hby d20_14) rfl rfl (XS.iload X5.here hx rfl (hb hby d20_15) rfl (XS.aloadN X5.here hx rfl (hb hby d20_17) rfl rfl (XS.iloadN X5.here hx rfl (hb hby d20_18) rfl k))))))))))) ?_
  obtain ⟨cl6, Ar6, q6, S6, M6, H6, G6⟩ := id (((P0.keep Kq1 nin0).keep Kq3 (ninS ne_a1_b_1 nin0)).keep Kq5 (ninS ne_a1_b_1 nin0))
  have hin6 : ¬ ((2 : Int32) < 0 ∨ cl6.slots.size ≤ ((2 : Int32)).toNatClampNeg) := inb_of S6 ⟨by decide, by decide⟩
  have hat6 : cl6.slots[((2 : Int32)).toNatClampNeg]? = some (.int c2) := H6.at hin6 rfl
  refine own_fw (A' := (T5.setTop (mkF m 20 #[rv a1, iv 2, iv 3, rv b_1, iv 2] [.int c2, .int 2, .ref b_1]))) (fun t k => X5.caload hx (j := (2 : Int32)) (v := (.int c2)) (by exact Ar6.1) (State.isArrayOf_alike hZ.alike Ar6.2.1) Ar6.2.2 hin6 hat6 (g := (mkF m 19 #[rv a1, iv 2, iv 3, rv b_1, iv 2] [.int 2, .ref a1, .int 2, .ref b_1])) rfl rfl (hb hby d20_19) _ k) ?_
  obtain ⟨_, _, ⟨T7, L7, k7, n7⟩, -, X7, ⟨Lc7, hQ7, l7, y7, z7⟩, st7⟩ := Jvm.LawKit.callS X5 hx (y := yq20) hown (mvT hZ (own_w hw 108 rfl)) (mvT hZ (own_w hw 109 rfl)) (mvT hZ (own_w hw 40 rfl)) (mvT hZ (own_w hw 110 rfl)) (by decide) (backOf (W := 0) (rmPut32 l Z a0 hw [] b_1 kb_1 c2 ((c0 >>> ((0 : Int32) &&& 31)).toInt8.toInt32) ((c0 >>> ((8 : Int32) &&& 31)).toInt8.toInt32) ((c1 >>> ((0 : Int32) &&& 31)).toInt8.toInt32) ((c1 >>> ((8 : Int32) &&& 31)).toInt8.toInt32) (0 : Int32) (0 : Int32) T5.heap n0 Z5 Fq5_0 g_b_1 (own_staKeep (own_staKeep (own_staKeep P1 Kq1 all0) Kq3 (allS (own_plainV Fq1_0) all0)) Kq5 (allS (own_plainV Fq3_0) all0)) (own_staKeep (own_staKeep (own_staKeep P2 Kq1 all0) Kq3 (allS (own_plainV Fq1_0) all0)) Kq5 (allS (own_plainV Fq3_0) all0)) (own_staKeep (own_staKeep (own_staKeep P3 Kq1 all0) Kq3 (allS (own_plainV Fq1_0) all0)) Kq5 (allS (own_plainV Fq3_0) all0))) hZ (own_w hw 110 rfl) (own_w hw 40 rfl) (by decide) (by decide)) (g := (mkF m 20 #[rv a1, iv 2, iv 3, rv b_1, iv 2] [.int c2, .int 2, .ref b_1])) rfl (by rw [hml]; rfl) (argsL := [(.ref b_1), (.int 2), (.int c2)]) (rest := []) (lenOf pd___BII_V rfl) rfl (by show 2 * 0 + _ ≤ _; exact Nat.le_of_eq rfl) (hb hby d20_20) (fun _ _ => ⟨rfl, rfl, (by decide : 1 + 0 ≤ _), (by decide : 6 + 0 ≤ _)⟩)
  dsimp only [Pt.U, Pt.locs, Pt.cells, Pt.slots] at X7 l7 y7 z7 st7 hQ7
  subst l7 y7 z7
  obtain ⟨rfl, Nq7, Kq7, Fq7_0⟩ := hQ7
  have Nf7 := Fr.app Nf5 Nq7
  have K7 : Keep h0 T7.heap [] := K5.trans Kq7 (allS (Or.inr sz_b_1) all0)
  have Z7 : n0 ≤ T7.heap.size := Nat.le_trans Z5 Kq7.1
  refine own_fw (A' := (T7.setTop (mkF m 33 #[rv a1, iv 3, iv 3, rv b_1, iv 3] [.ref b_1]))) (fun t k => st7 _ (XS.iinc X7.here hx rfl (hb hby d20_23) rfl (l' := #[.val (.ref a1), .val (.int 3), .val (.int 3), .val (.ref b_1), .val (.int 2)]) rfl (XS.iinc X7.here hx rfl (hb hby d20_26) rfl (l' := #[.val (.ref a1), .val (.int 3), .val (.int 3), .val (.ref b_1), .val (.int 3)]) rfl (XS.goto X7.here hx rfl (pc0 := 29) (pc' := 8) rfl (hb hby d20_29) (by decide) (by decide) (XS.iload X7.here hx rfl (hb hby d20_8) rfl (XS.iloadN X7.here hx rfl (hb hby d20_10) rfl (XS.icmpYes X7.here hx rfl (pc0 := 11) (pc' := 32) rfl (hb hby d20_11) rfl (XT.ii_ge_t (by decide)) (by decide) (by decide) (XS.aloadN X7.here hx rfl (hb hby d20_32) rfl rfl k)))))))) ?_
  obtain ⟨fs, hr, hrun, hended, hW, hsame⟩ := X7.leave (v := some (.ref b_1)) (fun h => by rw [Bd.returns] at h; cases h)
  refine ⟨_, _, ?_, hrun, hended, _, _, rfl, ?_, ⟨_, rfl⟩, hW, hsame.mono (by decide) (by decide)⟩
  · exact retOut X7 hx Bd.returns rfl (Or.inr (Or.inr (Or.inr (Or.inr ⟨rfl, rfl, rfl⟩)))) (hb hby d20_33) hr
  · show Q_rmToB3 Z a1 kc c0 c1 c2 h0 n0 _ T7.heap _
    exact ⟨b_1, kb_1, rfl, Nf7, K7, Fq7_0, sz_b_1⟩
theorem ef_rmGet30 (m : MethodId) (a1 : Addr) : entryFrame m #[(.ref a1), (.int 0)] 2 = mkF m 0 #[.val (.ref a1), .val (.int 0)] [] := by first | (simp [entryFrame, mkF, argsToLocals, Value.category]; done) | rfl
def Q_rmGet30 (Z : State) (a1 : Addr) (kb : ClassId) (x0 x1 x2 x3 x4 x5 : Int32) (h0 : Heap) (n0 : Nat) (v : Option Value) (h : Heap) (L : List Loc) : Prop := v = some (.int (own_gc x0 x1)) ∧ Fr n0 L ∧ h = h0
theorem rmGet30 (l : Launch) (Z : State) (a0 : Array Value) (hw : ∀ d ∈ tables_1, d.before a0 Z = true) (ws : List Jvm.Cond) (a1 : Addr) (kb : ClassId) (x0 x1 x2 x3 x4 x5 : Int32) (h0 : Heap) (n0 : Nat) (Z0 : n0 ≤ h0.size) (P0 : Arv Z h0 a1 kb .byte (6 : Int32) [(.int x0), (.int x1), (.int x2), (.int x3), (.int x4), (.int x5)] (.int 0)) (P1 : Sta Z h0 "java/lang/StringUTF16" "$assertionsDisabled" "Z" (.int 1)) (P2 : Sta Z h0 "java/lang/StringUTF16" "HI_BYTE_SHIFT" "I" (.int 0)) (P3 : Sta Z h0 "java/lang/StringUTF16" "LO_BYTE_SHIFT" "I" (.int 8)) :
    MetFree l yq23 (head1 (Jvm.Cond.code yq23 jdk_52_method_5_code 2 (some .char) :: ws) rq0) (fun a U => a = #[(.ref a1), (.int 0)] ∧ Z.Warmed39 U.vm ∧ U.heap = h0) (fun _ _ _ _ _ => True) (fun _ U o U' => ∃ v L, o = .returned v ∧ Q_rmGet30 Z a1 kb x0 x1 x2 x3 x4 x5 h0 n0 v U'.heap L ∧ FrameEnd U o U' L rq0.cells rq0.slots) := by
  refine MetFree.of_bodySF (plainFor_of_name pn_java_lang_StringUTF16) hisR ?_
  intro p e s m args below meth c s₁ Bd hml0 hP hK
  obtain ⟨rfl, hZ, hh⟩ := hP
  have hx := Bd.exec
  have hby := Bd.bytes
  have hml : c.maxLocals = 2 := hml0
  have hown : s.vm.findClass "java/lang/StringUTF16" = some m.cls := findClass_of_methodNamed Bd.named
  have hnm := (name_of_methodNamed Bd.named Bd.method).1
  have X0 : Stand p l e rq0 s m #[(.ref a1), (.int 0)] below meth c s₁ [] 0 0 := Stand.of_body Bd
  have e0 : s₁.heap = h0 := by rw [← hh, Bd.state]; rfl
  have N0 := Fr.nil n0
  refine own_fw (A' := (s₁.setTop (mkF m 0 #[.val (.ref a1), .val (.int 0)] []))) (fun t k => castTop (ef_rmGet30 m a1) k) ?_
  obtain ⟨T1, X1, e1, st1⟩ := getS2 X0 hx hZ hown (host := "") (Or.inl (own_w hw 111 rfl)) Via.refl e0 P1 (g := (mkF m 0 #[rv a1, iv 0] [])) rfl (hb hby d24_0)
  refine own_fw (A' := (T1.setTop (mkF m 37 #[rv a1, iv 1] [.int 0, .ref a1]))) (fun t k => st1 _ (XS.ifYes X1.here hx rfl (pc0 := 3) (pc' := 28) rfl (hb hby d24_3) rfl (XT.i0_ne_t (by decide)) (by decide) (by decide) (XS.iloadN X1.here hx rfl (hb hby d24_28) rfl (XS.iconst X1.here hx rfl (hb hby d24_29) (XS.ishl X1.here hx rfl (hb hby d24_30) rfl (XS.istoreN X1.here hx rfl (hb hby d24_31) rfl (l' := #[.val (.ref a1), .val (.int 0)]) rfl (XS.aloadN X1.here hx rfl (hb hby d24_32) rfl rfl (XS.iloadN X1.here hx rfl (hb hby d24_33) rfl (XS.iinc X1.here hx rfl (hb hby d24_34) rfl (l' := #[.val (.ref a1), .val (.int 1)]) rfl k))))))))) ?_
  obtain ⟨cl2, Ar2, q2, S2, M2, H2, G2⟩ := id P0
  have hin2 : ¬ ((0 : Int32) < 0 ∨ cl2.slots.size ≤ ((0 : Int32)).toNatClampNeg) := inb_of S2 ⟨by decide, by decide⟩
  have hat2 : cl2.slots[((0 : Int32)).toNatClampNeg]? = some (.int x0) := H2.at hin2 rfl
  refine own_fw (A' := (T1.setTop (mkF m 42 #[rv a1, iv 1] [.int (x0 &&& (255 : Int32))]))) (fun t k => X1.baloadBytes hx (j := (0 : Int32)) (v := (.int x0)) (by rw [e1]; exact Ar2.1) (State.isArrayOf_alike hZ.alike Ar2.2.1) Ar2.2.2 hin2 hat2 (g := (mkF m 37 #[rv a1, iv 1] [.int 0, .ref a1])) rfl rfl (hb hby d24_37) _ (XS.sipush X1.here hx rfl (hb hby d24_38) (XS.iand X1.here hx rfl (hb hby d24_41) rfl k))) ?_
  obtain ⟨T3, X3, e3, st3⟩ := getS2 X1 hx hZ hown (host := "") (Or.inl (own_w hw 112 rfl)) Via.refl e1 P2 (g := (mkF m 42 #[rv a1, iv 1] [.int (x0 &&& (255 : Int32))])) rfl (hb hby d24_42)
  refine own_fw (A' := (T3.setTop (mkF m 48 #[rv a1, iv 1] [.int 1, .ref a1, .int ((x0 &&& (255 : Int32)) <<< ((0 : Int32) &&& 31))]))) (fun t k => st3 _ (XS.ishl X3.here hx rfl (hb hby d24_45) rfl (XS.aloadN X3.here hx rfl (hb hby d24_46) rfl rfl (XS.iloadN X3.here hx rfl (hb hby d24_47) rfl k)))) ?_
  obtain ⟨cl4, Ar4, q4, S4, M4, H4, G4⟩ := id P0
  have hin4 : ¬ ((1 : Int32) < 0 ∨ cl4.slots.size ≤ ((1 : Int32)).toNatClampNeg) := inb_of S4 ⟨by decide, by decide⟩
  have hat4 : cl4.slots[((1 : Int32)).toNatClampNeg]? = some (.int x1) := H4.at hin4 rfl
  refine own_fw (A' := (T3.setTop (mkF m 53 #[rv a1, iv 1] [.int (x1 &&& (255 : Int32)), .int ((x0 &&& (255 : Int32)) <<< ((0 : Int32) &&& 31))]))) (fun t k => X3.baloadBytes hx (j := (1 : Int32)) (v := (.int x1)) (by rw [e3]; exact Ar4.1) (State.isArrayOf_alike hZ.alike Ar4.2.1) Ar4.2.2 hin4 hat4 (g := (mkF m 48 #[rv a1, iv 1] [.int 1, .ref a1, .int ((x0 &&& (255 : Int32)) <<< ((0 : Int32) &&& 31))])) rfl rfl (hb hby d24_48) _ (XS.sipush X3.here hx rfl (hb hby d24_49) (XS.iand X3.here hx rfl (hb hby d24_52) rfl k))) ?_
  obtain ⟨T5, X5, e5, st5⟩ := getS2 X3 hx hZ hown (host := "") (Or.inl (own_w hw 113 rfl)) Via.refl e3 P3 (g := (mkF m 53 #[rv a1, iv 1] [.int (x1 &&& (255 : Int32)), .int ((x0 &&& (255 : Int32)) <<< ((0 : Int32) &&& 31))])) rfl (hb hby d24_53)
  refine own_fw (A' := (T5.setTop (mkF m 59 #[rv a1, iv 1] [.int ((((x0 &&& (255 : Int32)) <<< ((0 : Int32) &&& 31)) ||| ((x1 &&& (255 : Int32)) <<< ((8 : Int32) &&& 31))).toUInt32.toUInt16.toUInt32.toInt32)]))) (fun t k => st5 _ (XS.ishl X5.here hx rfl (hb hby d24_56) rfl (XS.ior X5.here hx rfl (hb hby d24_57) rfl (XS.i2c X5.here hx rfl (hb hby d24_58) rfl k)))) ?_
  obtain ⟨fs, hr, hrun, hended, hW, hsame⟩ := X5.leave (v := some (.int ((((x0 &&& (255 : Int32)) <<< ((0 : Int32) &&& 31)) ||| ((x1 &&& (255 : Int32)) <<< ((8 : Int32) &&& 31))).toUInt32.toUInt16.toUInt32.toInt32))) (fun h => by rw [Bd.returns] at h; cases h)
  refine ⟨_, _, ?_, hrun, hended, _, _, rfl, ?_, ⟨_, rfl⟩, hW, hsame.mono (by decide) (by decide)⟩
  · exact retOut X5 hx Bd.returns (XT.narrow_c _) (Or.inl ⟨rfl, by simp, _, rfl⟩) (hb hby d24_59) hr
  · show Q_rmGet30 Z a1 kb x0 x1 x2 x3 x4 x5 h0 n0 _ T5.heap _
    rw [e5]
    exact ⟨rfl, N0, rfl⟩
theorem ef_rmGet31 (m : MethodId) (a1 : Addr) : entryFrame m #[(.ref a1), (.int 1)] 2 = mkF m 0 #[.val (.ref a1), .val (.int 1)] [] := by first | (simp [entryFrame, mkF, argsToLocals, Value.category]; done) | rfl
def Q_rmGet31 (Z : State) (a1 : Addr) (kb : ClassId) (x0 x1 x2 x3 x4 x5 : Int32) (h0 : Heap) (n0 : Nat) (v : Option Value) (h : Heap) (L : List Loc) : Prop := v = some (.int (own_gc x2 x3)) ∧ Fr n0 L ∧ h = h0
theorem rmGet31 (l : Launch) (Z : State) (a0 : Array Value) (hw : ∀ d ∈ tables_1, d.before a0 Z = true) (ws : List Jvm.Cond) (a1 : Addr) (kb : ClassId) (x0 x1 x2 x3 x4 x5 : Int32) (h0 : Heap) (n0 : Nat) (Z0 : n0 ≤ h0.size) (P0 : Arv Z h0 a1 kb .byte (6 : Int32) [(.int x0), (.int x1), (.int x2), (.int x3), (.int x4), (.int x5)] (.int 0)) (P1 : Sta Z h0 "java/lang/StringUTF16" "$assertionsDisabled" "Z" (.int 1)) (P2 : Sta Z h0 "java/lang/StringUTF16" "HI_BYTE_SHIFT" "I" (.int 0)) (P3 : Sta Z h0 "java/lang/StringUTF16" "LO_BYTE_SHIFT" "I" (.int 8)) :
    MetFree l yq23 (head1 (Jvm.Cond.code yq23 jdk_52_method_5_code 2 (some .char) :: ws) rq0) (fun a U => a = #[(.ref a1), (.int 1)] ∧ Z.Warmed39 U.vm ∧ U.heap = h0) (fun _ _ _ _ _ => True) (fun _ U o U' => ∃ v L, o = .returned v ∧ Q_rmGet31 Z a1 kb x0 x1 x2 x3 x4 x5 h0 n0 v U'.heap L ∧ FrameEnd U o U' L rq0.cells rq0.slots) := by
  refine MetFree.of_bodySF (plainFor_of_name pn_java_lang_StringUTF16) hisR ?_
  intro p e s m args below meth c s₁ Bd hml0 hP hK
  obtain ⟨rfl, hZ, hh⟩ := hP
  have hx := Bd.exec
  have hby := Bd.bytes
  have hml : c.maxLocals = 2 := hml0
  have hown : s.vm.findClass "java/lang/StringUTF16" = some m.cls := findClass_of_methodNamed Bd.named
  have hnm := (name_of_methodNamed Bd.named Bd.method).1
  have X0 : Stand p l e rq0 s m #[(.ref a1), (.int 1)] below meth c s₁ [] 0 0 := Stand.of_body Bd
  have e0 : s₁.heap = h0 := by rw [← hh, Bd.state]; rfl
  have N0 := Fr.nil n0
  refine own_fw (A' := (s₁.setTop (mkF m 0 #[.val (.ref a1), .val (.int 1)] []))) (fun t k => castTop (ef_rmGet31 m a1) k) ?_
  obtain ⟨T1, X1, e1, st1⟩ := getS2 X0 hx hZ hown (host := "") (Or.inl (own_w hw 111 rfl)) Via.refl e0 P1 (g := (mkF m 0 #[rv a1, iv 1] [])) rfl (hb hby d24_0)
  refine own_fw (A' := (T1.setTop (mkF m 37 #[rv a1, iv 3] [.int 2, .ref a1]))) (fun t k => st1 _ (XS.ifYes X1.here hx rfl (pc0 := 3) (pc' := 28) rfl (hb hby d24_3) rfl (XT.i0_ne_t (by decide)) (by decide) (by decide) (XS.iloadN X1.here hx rfl (hb hby d24_28) rfl (XS.iconst X1.here hx rfl (hb hby d24_29) (XS.ishl X1.here hx rfl (hb hby d24_30) rfl (XS.istoreN X1.here hx rfl (hb hby d24_31) rfl (l' := #[.val (.ref a1), .val (.int 2)]) rfl (XS.aloadN X1.here hx rfl (hb hby d24_32) rfl rfl (XS.iloadN X1.here hx rfl (hb hby d24_33) rfl (XS.iinc X1.here hx rfl (hb hby d24_34) rfl (l' := #[.val (.ref a1), .val (.int 3)]) rfl k))))))))) ?_
  obtain ⟨cl2, Ar2, q2, S2, M2, H2, G2⟩ := id P0
  have hin2 : ¬ ((2 : Int32) < 0 ∨ cl2.slots.size ≤ ((2 : Int32)).toNatClampNeg) := inb_of S2 ⟨by decide, by decide⟩
  have hat2 : cl2.slots[((2 : Int32)).toNatClampNeg]? = some (.int x2) := H2.at hin2 rfl
  refine own_fw (A' := (T1.setTop (mkF m 42 #[rv a1, iv 3] [.int (x2 &&& (255 : Int32))]))) (fun t k => X1.baloadBytes hx (j := (2 : Int32)) (v := (.int x2)) (by rw [e1]; exact Ar2.1) (State.isArrayOf_alike hZ.alike Ar2.2.1) Ar2.2.2 hin2 hat2 (g := (mkF m 37 #[rv a1, iv 3] [.int 2, .ref a1])) rfl rfl (hb hby d24_37) _ (XS.sipush X1.here hx rfl (hb hby d24_38) (XS.iand X1.here hx rfl (hb hby d24_41) rfl k))) ?_
  obtain ⟨T3, X3, e3, st3⟩ := getS2 X1 hx hZ hown (host := "") (Or.inl (own_w hw 112 rfl)) Via.refl e1 P2 (g := (mkF m 42 #[rv a1, iv 3] [.int (x2 &&& (255 : Int32))])) rfl (hb hby d24_42)
  refine own_fw (A' := (T3.setTop (mkF m 48 #[rv a1, iv 3] [.int 3, .ref a1, .int ((x2 &&& (255 : Int32)) <<< ((0 : Int32) &&& 31))]))) (fun t k => st3 _ (XS.ishl X3.here hx rfl (hb hby d24_45) rfl (XS.aloadN X3.here hx rfl (hb hby d24_46) rfl rfl (XS.iloadN X3.here hx rfl (hb hby d24_47) rfl k)))) ?_
  obtain ⟨cl4, Ar4, q4, S4, M4, H4, G4⟩ := id P0
  have hin4 : ¬ ((3 : Int32) < 0 ∨ cl4.slots.size ≤ ((3 : Int32)).toNatClampNeg) := inb_of S4 ⟨by decide, by decide⟩
  have hat4 : cl4.slots[((3 : Int32)).toNatClampNeg]? = some (.int x3) := H4.at hin4 rfl
  refine own_fw (A' := (T3.setTop (mkF m 53 #[rv a1, iv 3] [.int (x3 &&& (255 : Int32)), .int ((x2 &&& (255 : Int32)) <<< ((0 : Int32) &&& 31))]))) (fun t k => X3.baloadBytes hx (j := (3 : Int32)) (v := (.int x3)) (by rw [e3]; exact Ar4.1) (State.isArrayOf_alike hZ.alike Ar4.2.1) Ar4.2.2 hin4 hat4 (g := (mkF m 48 #[rv a1, iv 3] [.int 3, .ref a1, .int ((x2 &&& (255 : Int32)) <<< ((0 : Int32) &&& 31))])) rfl rfl (hb hby d24_48) _ (XS.sipush X3.here hx rfl (hb hby d24_49) (XS.iand X3.here hx rfl (hb hby d24_52) rfl k))) ?_
  obtain ⟨T5, X5, e5, st5⟩ := getS2 X3 hx hZ hown (host := "") (Or.inl (own_w hw 113 rfl)) Via.refl e3 P3 (g := (mkF m 53 #[rv a1, iv 3] [.int (x3 &&& (255 : Int32)), .int ((x2 &&& (255 : Int32)) <<< ((0 : Int32) &&& 31))])) rfl (hb hby d24_53)
  refine own_fw (A' := (T5.setTop (mkF m 59 #[rv a1, iv 3] [.int ((((x2 &&& (255 : Int32)) <<< ((0 : Int32) &&& 31)) ||| ((x3 &&& (255 : Int32)) <<< ((8 : Int32) &&& 31))).toUInt32.toUInt16.toUInt32.toInt32)]))) (fun t k => st5 _ (XS.ishl X5.here hx rfl (hb hby d24_56) rfl (XS.ior X5.here hx rfl (hb hby d24_57) rfl (XS.i2c X5.here hx rfl (hb hby d24_58) rfl k)))) ?_
  obtain ⟨fs, hr, hrun, hended, hW, hsame⟩ := X5.leave (v := some (.int ((((x2 &&& (255 : Int32)) <<< ((0 : Int32) &&& 31)) ||| ((x3 &&& (255 : Int32)) <<< ((8 : Int32) &&& 31))).toUInt32.toUInt16.toUInt32.toInt32))) (fun h => by rw [Bd.returns] at h; cases h)
  refine ⟨_, _, ?_, hrun, hended, _, _, rfl, ?_, ⟨_, rfl⟩, hW, hsame.mono (by decide) (by decide)⟩
  · exact retOut X5 hx Bd.returns (XT.narrow_c _) (Or.inl ⟨rfl, by simp, _, rfl⟩) (hb hby d24_59) hr
  · show Q_rmGet31 Z a1 kb x0 x1 x2 x3 x4 x5 h0 n0 _ T5.heap _
    rw [e5]
    exact ⟨rfl, N0, rfl⟩
theorem ef_rmGet32 (m : MethodId) (a1 : Addr) : entryFrame m #[(.ref a1), (.int 2)] 2 = mkF m 0 #[.val (.ref a1), .val (.int 2)] [] := by first | (simp [entryFrame, mkF, argsToLocals, Value.category]; done) | rfl
def Q_rmGet32 (Z : State) (a1 : Addr) (kb : ClassId) (x0 x1 x2 x3 x4 x5 : Int32) (h0 : Heap) (n0 : Nat) (v : Option Value) (h : Heap) (L : List Loc) : Prop := v = some (.int (own_gc x4 x5)) ∧ Fr n0 L ∧ h = h0
theorem rmGet32 (l : Launch) (Z : State) (a0 : Array Value) (hw : ∀ d ∈ tables_1, d.before a0 Z = true) (ws : List Jvm.Cond) (a1 : Addr) (kb : ClassId) (x0 x1 x2 x3 x4 x5 : Int32) (h0 : Heap) (n0 : Nat) (Z0 : n0 ≤ h0.size) (P0 : Arv Z h0 a1 kb .byte (6 : Int32) [(.int x0), (.int x1), (.int x2), (.int x3), (.int x4), (.int x5)] (.int 0)) (P1 : Sta Z h0 "java/lang/StringUTF16" "$assertionsDisabled" "Z" (.int 1)) (P2 : Sta Z h0 "java/lang/StringUTF16" "HI_BYTE_SHIFT" "I" (.int 0)) (P3 : Sta Z h0 "java/lang/StringUTF16" "LO_BYTE_SHIFT" "I" (.int 8)) :
    MetFree l yq23 (head1 (Jvm.Cond.code yq23 jdk_52_method_5_code 2 (some .char) :: ws) rq0) (fun a U => a = #[(.ref a1), (.int 2)] ∧ Z.Warmed39 U.vm ∧ U.heap = h0) (fun _ _ _ _ _ => True) (fun _ U o U' => ∃ v L, o = .returned v ∧ Q_rmGet32 Z a1 kb x0 x1 x2 x3 x4 x5 h0 n0 v U'.heap L ∧ FrameEnd U o U' L rq0.cells rq0.slots) := by
  refine MetFree.of_bodySF (plainFor_of_name pn_java_lang_StringUTF16) hisR ?_
  intro p e s m args below meth c s₁ Bd hml0 hP hK
  obtain ⟨rfl, hZ, hh⟩ := hP
  have hx := Bd.exec
  have hby := Bd.bytes
  have hml : c.maxLocals = 2 := hml0
  have hown : s.vm.findClass "java/lang/StringUTF16" = some m.cls := findClass_of_methodNamed Bd.named
  have hnm := (name_of_methodNamed Bd.named Bd.method).1
  have X0 : Stand p l e rq0 s m #[(.ref a1), (.int 2)] below meth c s₁ [] 0 0 := Stand.of_body Bd
  have e0 : s₁.heap = h0 := by rw [← hh, Bd.state]; rfl
  have N0 := Fr.nil n0
  refine own_fw (A' := (s₁.setTop (mkF m 0 #[.val (.ref a1), .val (.int 2)] []))) (fun t k => castTop (ef_rmGet32 m a1) k) ?_
  obtain ⟨T1, X1, e1, st1⟩ := getS2 X0 hx hZ hown (host := "") (Or.inl (own_w hw 111 rfl)) Via.refl e0 P1 (g := (mkF m 0 #[rv a1, iv 2] [])) rfl (hb hby d24_0)
  refine own_fw (A' := (T1.setTop (mkF m 37 #[rv a1, iv 5] [.int 4, .ref a1]))) (fun t k => st1 _ (XS.ifYes X1.here hx rfl (pc0 := 3) (pc' := 28) rfl (hb hby d24_3) rfl (XT.i0_ne_t (by decide)) (by decide) (by decide) (XS.iloadN X1.here hx rfl (hb hby d24_28) rfl (XS.iconst X1.here hx rfl (hb hby d24_29) (XS.ishl X1.here hx rfl (hb hby d24_30) rfl (XS.istoreN X1.here hx rfl (hb hby d24_31) rfl (l' := #[.val (.ref a1), .val (.int 4)]) rfl (XS.aloadN X1.here hx rfl (hb hby d24_32) rfl rfl (XS.iloadN X1.here hx rfl (hb hby d24_33) rfl (XS.iinc X1.here hx rfl (hb hby d24_34) rfl (l' := #[.val (.ref a1), .val (.int 5)]) rfl k))))))))) ?_
  obtain ⟨cl2, Ar2, q2, S2, M2, H2, G2⟩ := id P0
  have hin2 : ¬ ((4 : Int32) < 0 ∨ cl2.slots.size ≤ ((4 : Int32)).toNatClampNeg) := inb_of S2 ⟨by decide, by decide⟩
  have hat2 : cl2.slots[((4 : Int32)).toNatClampNeg]? = some (.int x4) := H2.at hin2 rfl
  refine own_fw (A' := (T1.setTop (mkF m 42 #[rv a1, iv 5] [.int (x4 &&& (255 : Int32))]))) (fun t k => X1.baloadBytes hx (j := (4 : Int32)) (v := (.int x4)) (by rw [e1]; exact Ar2.1) (State.isArrayOf_alike hZ.alike Ar2.2.1) Ar2.2.2 hin2 hat2 (g := (mkF m 37 #[rv a1, iv 5] [.int 4, .ref a1])) rfl rfl (hb hby d24_37) _ (XS.sipush X1.here hx rfl (hb hby d24_38) (XS.iand X1.here hx rfl (hb hby d24_41) rfl k))) ?_
  obtain ⟨T3, X3, e3, st3⟩ := getS2 X1 hx hZ hown (host := "") (Or.inl (own_w hw 112 rfl)) Via.refl e1 P2 (g := (mkF m 42 #[rv a1, iv 5] [.int (x4 &&& (255 : Int32))])) rfl (hb hby d24_42)
  refine own_fw (A' := (T3.setTop (mkF m 48 #[rv a1, iv 5] [.int 5, .ref a1, .int ((x4 &&& (255 : Int32)) <<< ((0 : Int32) &&& 31))]))) (fun t k => st3 _ (XS.ishl X3.here hx rfl (hb hby d24_45) rfl (XS.aloadN X3.here hx rfl (hb hby d24_46) rfl rfl (XS.iloadN X3.here hx rfl (hb hby d24_47) rfl k)))) ?_
  obtain ⟨cl4, Ar4, q4, S4, M4, H4, G4⟩ := id P0
  have hin4 : ¬ ((5 : Int32) < 0 ∨ cl4.slots.size ≤ ((5 : Int32)).toNatClampNeg) := inb_of S4 ⟨by decide, by decide⟩
  have hat4 : cl4.slots[((5 : Int32)).toNatClampNeg]? = some (.int x5) := H4.at hin4 rfl
  refine own_fw (A' := (T3.setTop (mkF m 53 #[rv a1, iv 5] [.int (x5 &&& (255 : Int32)), .int ((x4 &&& (255 : Int32)) <<< ((0 : Int32) &&& 31))]))) (fun t k => X3.baloadBytes hx (j := (5 : Int32)) (v := (.int x5)) (by rw [e3]; exact Ar4.1) (State.isArrayOf_alike hZ.alike Ar4.2.1) Ar4.2.2 hin4 hat4 (g := (mkF m 48 #[rv a1, iv 5] [.int 5, .ref a1, .int ((x4 &&& (255 : Int32)) <<< ((0 : Int32) &&& 31))])) rfl rfl (hb hby d24_48) _ (XS.sipush X3.here hx rfl (hb hby d24_49) (XS.iand X3.here hx rfl (hb hby d24_52) rfl k))) ?_
  obtain ⟨T5, X5, e5, st5⟩ := getS2 X3 hx hZ hown (host := "") (Or.inl (own_w hw 113 rfl)) Via.refl e3 P3 (g := (mkF m 53 #[rv a1, iv 5] [.int (x5 &&& (255 : Int32)), .int ((x4 &&& (255 : Int32)) <<< ((0 : Int32) &&& 31))])) rfl (hb hby d24_53)
  refine own_fw (A' := (T5.setTop (mkF m 59 #[rv a1, iv 5] [.int ((((x4 &&& (255 : Int32)) <<< ((0 : Int32) &&& 31)) ||| ((x5 &&& (255 : Int32)) <<< ((8 : Int32) &&& 31))).toUInt32.toUInt16.toUInt32.toInt32)]))) (fun t k => st5 _ (XS.ishl X5.here hx rfl (hb hby d24_56) rfl (XS.ior X5.here hx rfl (hb hby d24_57) rfl (XS.i2c X5.here hx rfl (hb hby d24_58) rfl k)))) ?_
  obtain ⟨fs, hr, hrun, hended, hW, hsame⟩ := X5.leave (v := some (.int ((((x4 &&& (255 : Int32)) <<< ((0 : Int32) &&& 31)) ||| ((x5 &&& (255 : Int32)) <<< ((8 : Int32) &&& 31))).toUInt32.toUInt16.toUInt32.toInt32))) (fun h => by rw [Bd.returns] at h; cases h)
  refine ⟨_, _, ?_, hrun, hended, _, _, rfl, ?_, ⟨_, rfl⟩, hW, hsame.mono (by decide) (by decide)⟩
  · exact retOut X5 hx Bd.returns (XT.narrow_c _) (Or.inl ⟨rfl, by simp, _, rfl⟩) (hb hby d24_59) hr
  · show Q_rmGet32 Z a1 kb x0 x1 x2 x3 x4 x5 h0 n0 _ T5.heap _
    rw [e5]
    exact ⟨rfl, N0, rfl⟩
theorem ef_rmCoderU3 (m : MethodId) (a1 : Addr) : entryFrame m #[(.ref a1), (.int 3)] 2 = mkF m 0 #[.val (.ref a1), .val (.int 3)] [] := by first | (simp [entryFrame, mkF, argsToLocals, Value.category]; done) | rfl
def Q_rmCoderU3 (Z : State) (a1 : Addr) (kb : ClassId) (x0 x1 x2 x3 x4 x5 : Int32) (h0 : Heap) (n0 : Nat) (v : Option Value) (h : Heap) (L : List Loc) : Prop := v = some (.int 1) ∧ Fr n0 L ∧ h = h0
theorem rmCoderU3 (l : Launch) (Z : State) (a0 : Array Value) (hw : ∀ d ∈ tables_1, d.before a0 Z = true) (ws : List Jvm.Cond) (a1 : Addr) (kb : ClassId) (x0 x1 x2 x3 x4 x5 : Int32) (h0 : Heap) (n0 : Nat) (Z0 : n0 ≤ h0.size) (P0 : Arv Z h0 a1 kb .byte (6 : Int32) [(.int x0), (.int x1), (.int x2), (.int x3), (.int x4), (.int x5)] (.int 0)) :
    MetFree l yq4 (head1 (Jvm.Cond.code yq4 jdk_52_method_15_code 2 (some .byte) :: ws) rq0) (fun a U => a = #[(.ref a1), (.int 3)] ∧ Z.Warmed39 U.vm ∧ U.heap = h0) (fun _ _ _ _ _ => True) (fun _ U o U' => ∃ v L, o = .returned v ∧ Q_rmCoderU3 Z a1 kb x0 x1 x2 x3 x4 x5 h0 n0 v U'.heap L ∧ FrameEnd U o U' L rq0.cells rq0.slots) := by
  refine MetFree.of_bodySF (plainFor_of_name pn_java_lang_StringUTF16) hisR ?_
  intro p e s m args below meth c s₁ Bd hml0 hP hK
  obtain ⟨rfl, hZ, hh⟩ := hP
  have hx := Bd.exec
  have hby := Bd.bytes
  have hml : c.maxLocals = 2 := hml0
  have hown : s.vm.findClass "java/lang/StringUTF16" = some m.cls := findClass_of_methodNamed Bd.named
  have hnm := (name_of_methodNamed Bd.named Bd.method).1
  have X0 : Stand p l e rq0 s m #[(.ref a1), (.int 3)] below meth c s₁ [] 0 0 := Stand.of_body Bd
  have e0 : s₁.heap = h0 := by rw [← hh, Bd.state]; rfl
  have N0 := Fr.nil n0
  refine own_fw (A' := (s₁.setTop (mkF m 2 #[rv a1, iv 3] [.ref a1, .int 3]))) (fun t k => castTop (ef_rmCoderU3 m a1) (XS.iloadN X0.here hx rfl (hb hby d10_0) rfl (XS.aloadN X0.here hx rfl (hb hby d10_1) rfl rfl k))) ?_
  obtain ⟨cl1, Ar1, q1, S1, M1, H1, G1⟩ := id P0
  refine own_fw (A' := (s₁.setTop (mkF m 3 #[rv a1, iv 3] [.int 6, .int 3]))) (fun t k => X0.arraylength hx (by rw [e0]; exact Ar1.1) (State.isArrayOf_alike hZ.alike Ar1.2.1) (g := (mkF m 2 #[rv a1, iv 3] [.ref a1, .int 3])) rfl rfl (hb hby d10_2) _ (by rw [len_of S1 M1]; exact k)) ?_
  refine own_fw (A' := (s₁.setTop (mkF m 8 #[rv a1, iv 3] [.int 1]))) (fun t k => XS.isub X0.here hx rfl (hb hby d10_3) rfl (XS.bipush X0.here hx rfl (hb hby d10_4) (XS.iushr X0.here hx rfl (hb hby d10_6) rfl (XS.i2b X0.here hx rfl (hb hby d10_7) rfl k)))) ?_
  obtain ⟨fs, hr, hrun, hended, hW, hsame⟩ := X0.leave (v := some (.int 1)) (fun h => by rw [Bd.returns] at h; cases h)
  refine ⟨_, _, ?_, hrun, hended, _, _, rfl, ?_, ⟨_, rfl⟩, hW, hsame.mono (by decide) (by decide)⟩
  · exact retOut X0 hx Bd.returns rfl (Or.inl ⟨rfl, by simp, _, rfl⟩) (hb hby d10_8) hr
  · show Q_rmCoderU3 Z a1 kb x0 x1 x2 x3 x4 x5 h0 n0 _ s₁.heap _
    rw [e0]
    exact ⟨rfl, N0, rfl⟩
theorem ef_rmCmpA3_0 (m : MethodId) (a1 a3 : Addr) : entryFrame m #[(.ref a1), (.int 0), (.ref a3), (.int 0), (.int 3)] 7 = mkF m 0 #[.val (.ref a1), .val (.int 0), .val (.ref a3), .val (.int 0), .val (.int 3), .unset, .unset] [] := by first | (simp [entryFrame, mkF, argsToLocals, Value.category]; done) | rfl
def Q_rmCmpA3_0 (Z : State) (a1 a3 : Addr) (kc kb : ClassId) (c0 c1 c2 : Int32) (h0 : Heap) (n0 : Nat) (v : Option Value) (h : Heap) (L : List Loc) : Prop := v = some (.int 0) ∧ Fr n0 L ∧ Keep h0 h [a3]
theorem rmCmpA3_0 (l : Launch) (Z : State) (a0 : Array Value) (hw : ∀ d ∈ tables_1, d.before a0 Z = true) (ws : List Jvm.Cond) (a1 a3 : Addr) (kc kb : ClassId) (c0 c1 c2 : Int32) (h0 : Heap) (n0 : Nat) (Z0 : n0 ≤ h0.size) (P0 : Arv Z h0 a1 kc .char (3 : Int32) [(.int c0), (.int c1), (.int c2)] (.int 0)) (P1 : Arv Z h0 a3 kb .byte (3 : Int32) [(.int 0), (.int 0), (.int 0)] (.int 0)) (g_a3 : n0 ≤ a3) (ne_a1_a3 : a1 ≠ a3) (hc0 : (255 : Int32) < c0) :
    MetFree l yq1 (head1 (Jvm.Cond.code yq1 jdk_52_method_21_code 7 (some .int) :: ws) rq0) (fun a U => a = #[(.ref a1), (.int 0), (.ref a3), (.int 0), (.int 3)] ∧ Z.Warmed39 U.vm ∧ U.heap = h0) (fun _ _ _ _ _ => True) (fun _ U o U' => ∃ v L, o = .returned v ∧ Q_rmCmpA3_0 Z a1 a3 kc kb c0 c1 c2 h0 n0 v U'.heap L ∧ FrameEnd U o U' L rq0.cells rq0.slots) := by
  refine MetFree.of_bodySF (plainFor_of_name pn_java_lang_StringUTF16) hisR ?_
  intro p e s m args below meth c s₁ Bd hml0 hP hK
  obtain ⟨rfl, hZ, hh⟩ := hP
  have hx := Bd.exec
  have hby := Bd.bytes
  have hml : c.maxLocals = 7 := hml0
  have hown : s.vm.findClass "java/lang/StringUTF16" = some m.cls := findClass_of_methodNamed Bd.named
  have hnm := (name_of_methodNamed Bd.named Bd.method).1
  have X0 : Stand p l e rq0 s m #[(.ref a1), (.int 0), (.ref a3), (.int 0), (.int 3)] below meth c s₁ [] 0 0 := Stand.of_body Bd
  have e0 : s₁.heap = h0 := by rw [← hh, Bd.state]; rfl
  have N0 := Fr.nil n0
  refine own_fw (A' := (s₁.setTop (mkF m 12 #[rv a1, iv 0, rv a3, iv 0, iv 3, iv 0, .unset] [.int 0, .ref a1]))) (fun t k => castTop (ef_rmCmpA3_0 m a1 a3) (XS.iconst X0.here hx rfl (hb hby d9_0) (XS.istore X0.here hx rfl (hb hby d9_1) rfl (l' := #[.val (.ref a1), .val (.int 0), .val (.ref a3), .val (.int 0), .val (.int 3), .val (.int 0), .unset]) rfl (XS.iload X0.here hx rfl (hb hby d9_3) rfl (XS.iload X0.here hx rfl (hb hby d9_5) rfl (XS.icmpNo X0.here hx rfl (hb hby d9_7) rfl (XT.ii_ge_f (by decide)) (XS.aloadN X0.here hx rfl (hb hby d9_10) rfl rfl (XS.iloadN X0.here hx rfl (hb hby d9_11) rfl k)))))))) ?_
  obtain ⟨cl1, Ar1, q1, S1, M1, H1, G1⟩ := id P0
  have hin1 : ¬ ((0 : Int32) < 0 ∨ cl1.slots.size ≤ ((0 : Int32)).toNatClampNeg) := inb_of S1 ⟨by decide, by decide⟩
  have hat1 : cl1.slots[((0 : Int32)).toNatClampNeg]? = some (.int c0) := H1.at hin1 rfl
  refine own_fw (A' := (s₁.setTop (mkF m 25 #[rv a1, iv 0, rv a3, iv 0, iv 3, iv 0, iv c0] [.int 0]))) (fun t k => X0.caload hx (j := (0 : Int32)) (v := (.int c0)) (by rw [e0]; exact Ar1.1) (State.isArrayOf_alike hZ.alike Ar1.2.1) Ar1.2.2 hin1 hat1 (g := (mkF m 12 #[rv a1, iv 0, rv a3, iv 0, iv 3, iv 0, .unset] [.int 0, .ref a1])) rfl rfl (hb hby d9_12) _ (XS.istore X0.here hx rfl (hb hby d9_13) rfl (l' := #[.val (.ref a1), .val (.int 0), .val (.ref a3), .val (.int 0), .val (.int 3), .val (.int 0), .val (.int c0)]) rfl (XS.iload X0.here hx rfl (hb hby d9_15) rfl (XS.sipush X0.here hx rfl (hb hby d9_17) (XS.icmpNo X0.here hx rfl (hb hby d9_20) rfl (XT.ii_le_f hc0) (XS.iload X0.here hx rfl (hb hby d9_23) rfl k)))))) ?_
  obtain ⟨fs, hr, hrun, hended, hW, hsame⟩ := X0.leave (v := some (.int 0)) (fun h => by rw [Bd.returns] at h; cases h)
  refine ⟨_, _, ?_, hrun, hended, _, _, rfl, ?_, ⟨_, rfl⟩, hW, hsame.mono (by decide) (by decide)⟩
  · exact retOut X0 hx Bd.returns rfl (Or.inl ⟨rfl, by simp, _, rfl⟩) (hb hby d9_25) hr
  · show Q_rmCmpA3_0 Z a1 a3 kc kb c0 c1 c2 h0 n0 _ s₁.heap _
    rw [e0]
    exact ⟨rfl, N0, (Keep.refl h0 [a3])⟩
theorem ef_rmCmpB3_0 (m : MethodId) (a1 : Addr) : entryFrame m #[(.ref a1), (.int 0), (.int 3)] 6 = mkF m 0 #[.val (.ref a1), .val (.int 0), .val (.int 3), .unset, .unset, .unset] [] := by first | (simp [entryFrame, mkF, argsToLocals, Value.category]; done) | rfl
def Q_rmCmpB3_0 (Z : State) (a1 : Addr) (kc : ClassId) (c0 c1 c2 : Int32) (h0 : Heap) (n0 : Nat) (v : Option Value) (h : Heap) (L : List Loc) : Prop := ∃ b : Addr, ∃ kb : ClassId, v = some (.ref b) ∧ Fr n0 L ∧ Keep h0 h [] ∧ Arv Z h b kb .byte (6 : Int32) [(.int ((c0 >>> ((0 : Int32) &&& 31)).toInt8.toInt32)), (.int ((c0 >>> ((8 : Int32) &&& 31)).toInt8.toInt32)), (.int ((c1 >>> ((0 : Int32) &&& 31)).toInt8.toInt32)), (.int ((c1 >>> ((8 : Int32) &&& 31)).toInt8.toInt32)), (.int ((c2 >>> ((0 : Int32) &&& 31)).toInt8.toInt32)), (.int ((c2 >>> ((8 : Int32) &&& 31)).toInt8.toInt32))] (.int 0) ∧ (h0.size ≤ b)
theorem rmCmpB3_0 (l : Launch) (Z : State) (a0 : Array Value) (hw : ∀ d ∈ tables_1, d.before a0 Z = true) (ws : List Jvm.Cond) (a1 : Addr) (kc : ClassId) (c0 c1 c2 : Int32) (h0 : Heap) (n0 : Nat) (Z0 : n0 ≤ h0.size) (P0 : Arv Z h0 a1 kc .char (3 : Int32) [(.int c0), (.int c1), (.int c2)] (.int 0)) (P1 : Sta Z h0 "java/lang/StringUTF16" "$assertionsDisabled" "Z" (.int 1)) (P2 : Sta Z h0 "java/lang/StringUTF16" "HI_BYTE_SHIFT" "I" (.int 0)) (P3 : Sta Z h0 "java/lang/StringUTF16" "LO_BYTE_SHIFT" "I" (.int 8)) (hc0 : (255 : Int32) < c0) (hr0 : own_c16 c0) :
    MetFree l yq3 (head1 (Jvm.Cond.code yq3 jdk_52_method_16_code 6 (some (.array .byte)) :: ws) rq34) (fun a U => a = #[(.ref a1), (.int 0), (.int 3)] ∧ Z.Warmed39 U.vm ∧ U.heap = h0) (fun _ _ _ _ _ => True) (fun _ U o U' => ∃ v L, o = .returned v ∧ Q_rmCmpB3_0 Z a1 kc c0 c1 c2 h0 n0 v U'.heap L ∧ FrameEnd U o U' L rq34.cells rq34.slots) := by
  refine MetFree.of_bodySF (plainFor_of_name pn_java_lang_StringUTF16) hisR ?_
  intro p e s m args below meth c s₁ Bd hml0 hP hK
  obtain ⟨rfl, hZ, hh⟩ := hP
  have hx := Bd.exec
  have hby := Bd.bytes
  have hml : c.maxLocals = 6 := hml0
  have hown : s.vm.findClass "java/lang/StringUTF16" = some m.cls := findClass_of_methodNamed Bd.named
  have hnm := (name_of_methodNamed Bd.named Bd.method).1
  have X0 : Stand p l e rq34 s m #[(.ref a1), (.int 0), (.int 3)] below meth c s₁ [] 0 0 := Stand.of_body Bd
  have e0 : s₁.heap = h0 := by rw [← hh, Bd.state]; rfl
  have N0 := Fr.nil n0
  refine own_fw (A' := (s₁.setTop (mkF m 1 #[rv a1, iv 0, iv 3, .unset, .unset, .unset] [.int 3]))) (fun t k => castTop (ef_rmCmpB3_0 m a1) (XS.iloadN X0.here hx rfl (hb hby d8_0) rfl k)) ?_
  obtain ⟨T1, h1, k1, X1, e1, E1, A1, st1⟩ := newP X0 hx hZ (own_w hw 42 rfl) e0 (g := (mkF m 1 #[rv a1, iv 0, iv 3, .unset, .unset, .unset] [.int 3])) rfl (hb hby d8_1) rfl (by decide) (cap := 3) (by decide) (by decide) (by decide) (by decide)
  obtain ⟨b1, gb1⟩ : ∃ z, z = h0.size := ⟨_, rfl⟩
  have g_b1 : n0 ≤ b1 := Nat.le_trans Z0 (Nat.le_of_eq gb1.symm)
  have sz_b1 : h0.size ≤ b1 := Nat.le_trans (Keep.refl h0 []).1 (Nat.le_of_eq gb1.symm)
  have ne_a1_b1 : a1 ≠ b1 := Nat.ne_of_lt (Nat.lt_of_lt_of_le P0.lt (Nat.le_of_eq gb1.symm))
  rw [← gb1] at A1 st1
  have V_b1 : Arv Z h1 b1 k1 .byte (3 : Int32) [(.int 0), (.int 0), (.int 0)] (.int 0) := (Arv.new A1 (by decide)).pad (pad_rep [] (.int 0) 3)
  have K1 : Keep h0 h1 [] := (Keep.refl h0 []).ext E1
  have Z1 : n0 ≤ h1.size := Nat.le_trans Z0 E1.1
  refine own_fw (A' := (T1.setTop (mkF m 9 #[rv a1, iv 0, iv 3, rv b1, .unset, .unset] [.int 3, .int 0, .ref b1, .int 0, .ref a1]))) (fun t k => st1 _ (XS.astoreN X1.here hx rfl (hb hby d8_3) rfl rfl (l' := #[.val (.ref a1), .val (.int 0), .val (.int 3), .val (.ref b1), .unset, .unset]) rfl (XS.aloadN X1.here hx rfl (hb hby d8_4) rfl rfl (XS.iloadN X1.here hx rfl (hb hby d8_5) rfl (XS.aloadN X1.here hx rfl (hb hby d8_6) rfl rfl (XS.iconst X1.here hx rfl (hb hby d8_7) (XS.iloadN X1.here hx rfl (hb hby d8_8) rfl k))))))) ?_
  obtain ⟨_, _, ⟨T2, L2, k2, n2⟩, -, X2, ⟨Lc2, hQ2, l2, y2, z2⟩, st2⟩ := Jvm.LawKit.callS X1 hx (y := yq1) hown (mvT hZ (own_w hw 43 rfl)) (mvT hZ (own_w hw 44 rfl)) (mvT hZ (own_w hw 40 rfl)) (mvT hZ (own_w hw 45 rfl)) (by decide) (backOf (W := 0) (rmCmpA3_0 l Z a0 hw [] a1 b1 kc k1 c0 c1 c2 h1 n0 Z1 (P0.ext E1) V_b1 g_b1 ne_a1_b1 hc0) hZ (own_w hw 45 rfl) (own_w hw 40 rfl) (by decide) (by decide)) (g := (mkF m 9 #[rv a1, iv 0, iv 3, rv b1, .unset, .unset] [.int 3, .int 0, .ref b1, .int 0, .ref a1])) rfl (by rw [hml]; rfl) (argsL := [(.ref a1), (.int 0), (.ref b1), (.int 0), (.int 3)]) (rest := []) (lenOf pd___CI_BII_I rfl) rfl (by show 2 * 0 + _ ≤ _; exact Nat.le_of_eq rfl) (hb hby d8_9) (fun _ _ => ⟨rfl, e1, (by decide : 1 + 0 ≤ _), (by decide : 3 + 0 ≤ _)⟩)
  dsimp only [Pt.U, Pt.locs, Pt.cells, Pt.slots] at X2 l2 y2 z2 st2 hQ2
  subst l2 y2 z2
  obtain ⟨rfl, Nq2, Kq2⟩ := hQ2
  have Nf2 := Fr.app N0 Nq2
  have K2 : Keep h0 T2.heap [] := K1.trans Kq2 (allS (Or.inr sz_b1) all0)
  have Z2 : n0 ≤ T2.heap.size := Nat.le_trans Z1 Kq2.1
  refine own_fw (A' := (T2.setTop (mkF m 23 #[rv a1, iv 0, iv 3, rv b1, iv 0, .unset] [.int 3, .int 0, .ref a1]))) (fun t k => st2 _ (XS.istore X2.here hx rfl (hb hby d8_12) rfl (l' := #[.val (.ref a1), .val (.int 0), .val (.int 3), .val (.ref b1), .val (.int 0), .unset]) rfl (XS.iload X2.here hx rfl (hb hby d8_14) rfl (XS.iloadN X2.here hx rfl (hb hby d8_16) rfl (XS.icmpNo X2.here hx rfl (hb hby d8_17) rfl (XT.ii_eq_f (by decide)) (XS.aloadN X2.here hx rfl (hb hby d8_20) rfl rfl (XS.iloadN X2.here hx rfl (hb hby d8_21) rfl (XS.iloadN X2.here hx rfl (hb hby d8_22) rfl k)))))))) ?_
  obtain ⟨_, _, ⟨T3, L3, k3, n3⟩, -, X3, ⟨Lc3, hQ3, l3, y3, z3⟩, st3⟩ := Jvm.LawKit.callS X2 hx (y := yq22) hown (mvT hZ (own_w hw 98 rfl)) (mvT hZ (own_w hw 99 rfl)) (mvT hZ (own_w hw 40 rfl)) (mvT hZ (own_w hw 100 rfl)) (by decide) (backOf (W := 0) (rmToB3 l Z a0 hw [] a1 kc c0 c1 c2 T2.heap n0 Z2 ((P0.ext E1).keep Kq2 (ninS ne_a1_b1 nin0)) (own_staKeep (P1.ext E1) Kq2 (allS (own_plainV V_b1) all0)) (own_staKeep (P2.ext E1) Kq2 (allS (own_plainV V_b1) all0)) (own_staKeep (P3.ext E1) Kq2 (allS (own_plainV V_b1) all0))) hZ (own_w hw 100 rfl) (own_w hw 40 rfl) (by decide) (by decide)) (g := (mkF m 23 #[rv a1, iv 0, iv 3, rv b1, iv 0, .unset] [.int 3, .int 0, .ref a1])) rfl (by rw [hml]; rfl) (argsL := [(.ref a1), (.int 0), (.int 3)]) (rest := []) (lenOf pd___CII__B rfl) rfl (by show 2 * 0 + _ ≤ _; exact Nat.le_of_eq rfl) (hb hby d8_23) (fun _ _ => ⟨rfl, rfl, (by decide : 1 + 1 ≤ _), (by decide : 3 + 6 ≤ _)⟩)
  dsimp only [Pt.U, Pt.locs, Pt.cells, Pt.slots] at X3 l3 y3 z3 st3 hQ3
  subst l3 y3 z3
  obtain ⟨b_3, kb_3, rfl, Nq3, Kq3, Fq3_0, gb_3⟩ := hQ3
  have Nf3 := Fr.app Nf2 Nq3
  have K3 : Keep h0 T3.heap [] := K2.trans Kq3 all0
  have sz_b_3 : h0.size ≤ b_3 := Nat.le_trans K2.1 gb_3
  have g_b_3 : n0 ≤ b_3 := Nat.le_trans Z2 gb_3
  have ne_a1_b_3 : a1 ≠ b_3 := Nat.ne_of_lt (Nat.lt_of_lt_of_le ((P0.ext E1).keep Kq2 (ninS ne_a1_b1 nin0)).lt gb_3)
  have Z3 : n0 ≤ T3.heap.size := Nat.le_trans Z2 Kq3.1
  refine own_fw (A' := (T3.setTop (mkF m 32 #[rv a1, iv 0, iv 3, rv b1, iv 0, rv b_3] [.int 0, .ref b_3]))) (fun t k => st3 _ (XS.astore X3.here hx rfl (hb hby d8_26) rfl rfl (l' := #[.val (.ref a1), .val (.int 0), .val (.int 3), .val (.ref b1), .val (.int 0), .val (.ref b_3)]) rfl (XS.aload X3.here hx rfl (hb hby d8_28) rfl rfl (XS.iload X3.here hx rfl (hb hby d8_30) rfl k)))) ?_
  obtain ⟨_, _, ⟨T4, L4, k4, n4⟩, -, X4, ⟨Lc4, hQ4, l4, y4, z4⟩, st4⟩ := Jvm.LawKit.callS X3 hx (y := yq23) hown (mvT hZ (own_w hw 114 rfl)) (mvT hZ (own_w hw 115 rfl)) (mvT hZ (own_w hw 40 rfl)) (mvT hZ (own_w hw 116 rfl)) (by decide) (backOf (W := 0) (rmGet30 l Z a0 hw [] b_3 kb_3 ((c0 >>> ((0 : Int32) &&& 31)).toInt8.toInt32) ((c0 >>> ((8 : Int32) &&& 31)).toInt8.toInt32) ((c1 >>> ((0 : Int32) &&& 31)).toInt8.toInt32) ((c1 >>> ((8 : Int32) &&& 31)).toInt8.toInt32) ((c2 >>> ((0 : Int32) &&& 31)).toInt8.toInt32) ((c2 >>> ((8 : Int32) &&& 31)).toInt8.toInt32) T3.heap n0 Z3 Fq3_0 (own_staKeep (own_staKeep (P1.ext E1) Kq2 (allS (own_plainV V_b1) all0)) Kq3 all0) (own_staKeep (own_staKeep (P2.ext E1) Kq2 (allS (own_plainV V_b1) all0)) Kq3 all0) (own_staKeep (own_staKeep (P3.ext E1) Kq2 (allS (own_plainV V_b1) all0)) Kq3 all0)) hZ (own_w hw 116 rfl) (own_w hw 40 rfl) (by decide) (by decide)) (g := (mkF m 32 #[rv a1, iv 0, iv 3, rv b1, iv 0, rv b_3] [.int 0, .ref b_3])) rfl (by rw [hml]; rfl) (argsL := [(.ref b_3), (.int 0)]) (rest := []) (lenOf pd___BI_C rfl) rfl (by show 2 * 0 + _ ≤ _; exact Nat.le_of_eq rfl) (hb hby d8_32) (fun _ _ => ⟨rfl, rfl, (by decide : 2 + 0 ≤ _), (by decide : 9 + 0 ≤ _)⟩)
  dsimp only [Pt.U, Pt.locs, Pt.cells, Pt.slots] at X4 l4 y4 z4 st4 hQ4
  subst l4 y4 z4
  obtain ⟨rfl, Nq4, e4⟩ := hQ4
  have Nf4 := Fr.app Nf3 Nq4
  refine own_fw (A' := (T4.setTop (mkF m 56 #[rv a1, iv 0, iv 3, rv b1, iv 0, rv b_3] [.ref b_3]))) (fun t k => st4 _ (XS.sipush X4.here hx rfl (hb hby d8_35) (XS.icmpYes X4.here hx rfl (pc0 := 38) (pc' := 54) rfl (hb hby d8_38) rfl (XT.ii_gt_t (by rw [own_gcc hr0]; exact hc0)) (by decide) (by decide) (XS.aload X4.here hx rfl (hb hby d8_54) rfl rfl k)))) ?_
  obtain ⟨fs, hr, hrun, hended, hW, hsame⟩ := X4.leave (v := some (.ref b_3)) (fun h => by rw [Bd.returns] at h; cases h)
  refine ⟨_, _, ?_, hrun, hended, _, _, rfl, ?_, ⟨_, rfl⟩, hW, hsame.mono (by decide) (by decide)⟩
  · exact retOut X4 hx Bd.returns rfl (Or.inr (Or.inr (Or.inr (Or.inr ⟨rfl, rfl, rfl⟩)))) (hb hby d8_56) hr
  · show Q_rmCmpB3_0 Z a1 kc c0 c1 c2 h0 n0 _ T4.heap _
    rw [e4]
    exact ⟨b_3, kb_3, rfl, Nf4, K3, Fq3_0, sz_b_3⟩
theorem ef_rmStrB3_0 (m : MethodId) (a1 a2 : Addr) : entryFrame m #[(.ref a1), (.ref a2), (.int 0), (.int 3), .null] 6 = mkF m 0 #[.val (.ref a1), .val (.ref a2), .val (.int 0), .val (.int 3), .val .null, .unset] [] := by first | (simp [entryFrame, mkF, argsToLocals, Value.category]; done) | rfl
def Q_rmStrB3_0 (Z : State) (a1 a2 : Addr) (kc : ClassId) (cs c0 c1 c2 : Int32) (h0 : Heap) (n0 : Nat) (v : Option Value) (h : Heap) (L : List Loc) : Prop := ∃ b : Addr, ∃ kb : ClassId, v = none ∧ Fr n0 L ∧ Keep h0 h [a1] ∧ Exa Z h a1 "java/lang/String" ∧ Fld Z h a1 "java/lang/String" "coder" "B" (.int 1) ∧ Fld Z h a1 "java/lang/String" "value" "[B" (.ref b) ∧ Arv Z h b kb .byte (6 : Int32) [(.int ((c0 >>> ((0 : Int32) &&& 31)).toInt8.toInt32)), (.int ((c0 >>> ((8 : Int32) &&& 31)).toInt8.toInt32)), (.int ((c1 >>> ((0 : Int32) &&& 31)).toInt8.toInt32)), (.int ((c1 >>> ((8 : Int32) &&& 31)).toInt8.toInt32)), (.int ((c2 >>> ((0 : Int32) &&& 31)).toInt8.toInt32)), (.int ((c2 >>> ((8 : Int32) &&& 31)).toInt8.toInt32))] (.int 0)
theorem rmStrB3_0 (l : Launch) (Z : State) (a0 : Array Value) (hw : ∀ d ∈ tables_1, d.before a0 Z = true) (ws : List Jvm.Cond) (a1 a2 : Addr) (kc : ClassId) (cs c0 c1 c2 : Int32) (h0 : Heap) (n0 : Nat) (Z0 : n0 ≤ h0.size) (P0 : Exa Z h0 a1 "java/lang/String") (P1 : Fld Z h0 a1 "java/lang/String" "coder" "B" (.int 0)) (P2 : Fld Z h0 a1 "java/lang/String" "value" "[B" .null) (P3 : Arv Z h0 a2 kc .char (3 : Int32) [(.int c0), (.int c1), (.int c2)] (.int 0)) (g_a1 : n0 ≤ a1) (ne_a1_a2 : a1 ≠ a2) (P6 : Sta Z h0 "java/lang/String" "COMPACT_STRINGS" "Z" (.int cs)) (hcs : ¬ (cs = (0 : Int32))) (P8 : Sta Z h0 "java/lang/StringUTF16" "$assertionsDisabled" "Z" (.int 1)) (P9 : Sta Z h0 "java/lang/StringUTF16" "HI_BYTE_SHIFT" "I" (.int 0)) (P10 : Sta Z h0 "java/lang/StringUTF16" "LO_BYTE_SHIFT" "I" (.int 8)) (hc0 : (255 : Int32) < c0) (hr0 : own_c16 c0) :
    MetFree l yq6 (head1 (Jvm.Cond.code yq6 jdk_42_method_149_code 6 none :: ws) rq35) (fun a U => a = #[(.ref a1), (.ref a2), (.int 0), (.int 3), .null] ∧ Z.Warmed39 U.vm ∧ U.heap = h0) (fun _ _ _ _ _ => True) (fun _ U o U' => ∃ v L, o = .returned v ∧ Q_rmStrB3_0 Z a1 a2 kc cs c0 c1 c2 h0 n0 v U'.heap L ∧ FrameEnd U o U' L rq35.cells rq35.slots) := by
  refine MetFree.of_bodySF (plainFor_of_name pn_java_lang_String) hisR ?_
  intro p e s m args below meth c s₁ Bd hml0 hP hK
  obtain ⟨rfl, hZ, hh⟩ := hP
  have hx := Bd.exec
  have hby := Bd.bytes
  have hml : c.maxLocals = 6 := hml0
  have hown : s.vm.findClass "java/lang/String" = some m.cls := findClass_of_methodNamed Bd.named
  have hnm := (name_of_methodNamed Bd.named Bd.method).1
  have X0 : Stand p l e rq35 s m #[(.ref a1), (.ref a2), (.int 0), (.int 3), .null] below meth c s₁ [] 0 0 := Stand.of_body Bd
  have e0 : s₁.heap = h0 := by rw [← hh, Bd.state]; rfl
  have N0 := Fr.nil n0
  refine own_fw (A' := (s₁.setTop (mkF m 1 #[rv a1, rv a2, iv 0, iv 3, .val (.null), .unset] [.ref a1]))) (fun t k => castTop (ef_rmStrB3_0 m a1 a2) (XS.aloadN X0.here hx rfl (hb hby d7_0) rfl rfl k)) ?_
  obtain ⟨T1, X1, e1, st1⟩ := initO X0 hx hZ hown (own_w hw 36 rfl) (own_w hw 7 rfl) (own_w hw 8 rfl) e0 (g := (mkF m 1 #[rv a1, rv a2, iv 0, iv 3, .val (.null), .unset] [.ref a1])) rfl (by rw [hml]; rfl) rfl (hb hby d7_1) (by decide) (W := 0) (by show 2 * 0 + _ ≤ _; exact Nat.le_of_eq rfl) (by decide)
  refine own_fw (A' := (T1.setTop (mkF m 27 #[rv a1, rv a2, iv 0, iv 3, .val (.null), .unset] []))) (fun t k => st1 _ (XS.iloadN X1.here hx rfl (hb hby d7_4) rfl (XS.ifYes X1.here hx rfl (pc0 := 5) (pc' := 27) rfl (hb hby d7_5) rfl (XT.i0_ne_t (by decide)) (by decide) (by decide) k))) ?_
  obtain ⟨T2, X2, e2, st2⟩ := getS2 X1 hx hZ hown (host := "") (Or.inl (own_w hw 37 rfl)) Via.refl e1 P6 (g := (mkF m 27 #[rv a1, rv a2, iv 0, iv 3, .val (.null), .unset] [])) rfl (hb hby d7_27)
  refine own_fw (A' := (T2.setTop (mkF m 36 #[rv a1, rv a2, iv 0, iv 3, .val (.null), .unset] [.int 3, .int 0, .ref a2]))) (fun t k => st2 _ (XS.ifNo X2.here hx rfl (hb hby d7_30) rfl (XT.i0_eq_f hcs) (XS.aloadN X2.here hx rfl (hb hby d7_33) rfl rfl (XS.iloadN X2.here hx rfl (hb hby d7_34) rfl (XS.iloadN X2.here hx rfl (hb hby d7_35) rfl k))))) ?_
  obtain ⟨_, _, ⟨T3, L3, k3, n3⟩, -, X3, ⟨Lc3, hQ3, l3, y3, z3⟩, st3⟩ := Jvm.LawKit.callS X2 hx (y := yq3) hown (mvT hZ (own_w hw 38 rfl)) (mvT hZ (own_w hw 39 rfl)) (mvT hZ (own_w hw 40 rfl)) (mvT hZ (own_w hw 41 rfl)) (by decide) (backOf (W := 0) (rmCmpB3_0 l Z a0 hw [] a2 kc c0 c1 c2 h0 n0 Z0 P3 P8 P9 P10 hc0 hr0) hZ (own_w hw 41 rfl) (own_w hw 40 rfl) (by decide) (by decide)) (g := (mkF m 36 #[rv a1, rv a2, iv 0, iv 3, .val (.null), .unset] [.int 3, .int 0, .ref a2])) rfl (by rw [hml]; rfl) (argsL := [(.ref a2), (.int 0), (.int 3)]) (rest := []) (lenOf pd___CII__B rfl) rfl (by show 2 * 0 + _ ≤ _; exact Nat.le_of_eq rfl) (hb hby d7_36) (fun _ _ => ⟨rfl, e2, (by decide : 0 + 2 ≤ _), (by decide : 0 + 9 ≤ _)⟩)
  dsimp only [Pt.U, Pt.locs, Pt.cells, Pt.slots] at X3 l3 y3 z3 st3 hQ3
  subst l3 y3 z3
  obtain ⟨b_3, kb_3, rfl, Nq3, Kq3, Fq3_0, gb_3⟩ := hQ3
  have Nf3 := Fr.app N0 Nq3
  have K3 : Keep h0 T3.heap [a1] := (Keep.refl h0 [a1]).trans Kq3 all0
  have sz_b_3 : h0.size ≤ b_3 := Nat.le_trans (Keep.refl h0 [a1]).1 gb_3
  have g_b_3 : n0 ≤ b_3 := Nat.le_trans Z0 gb_3
  have ne_a1_b_3 : a1 ≠ b_3 := Nat.ne_of_lt (Nat.lt_of_lt_of_le P0.lt gb_3)
  have ne_a2_b_3 : a2 ≠ b_3 := Nat.ne_of_lt (Nat.lt_of_lt_of_le P3.lt gb_3)
  have Z3 : n0 ≤ T3.heap.size := Nat.le_trans Z0 Kq3.1
  refine own_fw (A' := (T3.setTop (mkF m 45 #[rv a1, rv a2, iv 0, iv 3, .val (.null), rv b_3] [.int 3, .ref b_3, .ref a1]))) (fun t k => st3 _ (XS.astore X3.here hx rfl (hb hby d7_39) rfl rfl (l' := #[.val (.ref a1), .val (.ref a2), .val (.int 0), .val (.int 3), .val .null, .val (.ref b_3)]) rfl (XS.aloadN X3.here hx rfl (hb hby d7_41) rfl rfl (XS.aload X3.here hx rfl (hb hby d7_42) rfl rfl (XS.iloadN X3.here hx rfl (hb hby d7_44) rfl k))))) ?_
  obtain ⟨_, _, ⟨T4, L4, k4, n4⟩, -, X4, ⟨Lc4, hQ4, l4, y4, z4⟩, st4⟩ := Jvm.LawKit.callS X3 hx (y := yq4) hown (mvT hZ (own_w hw 46 rfl)) (mvT hZ (own_w hw 47 rfl)) (mvT hZ (own_w hw 40 rfl)) (mvT hZ (own_w hw 48 rfl)) (by decide) (backOf (W := 1) (rmCoderU3 l Z a0 hw [] b_3 kb_3 ((c0 >>> ((0 : Int32) &&& 31)).toInt8.toInt32) ((c0 >>> ((8 : Int32) &&& 31)).toInt8.toInt32) ((c1 >>> ((0 : Int32) &&& 31)).toInt8.toInt32) ((c1 >>> ((8 : Int32) &&& 31)).toInt8.toInt32) ((c2 >>> ((0 : Int32) &&& 31)).toInt8.toInt32) ((c2 >>> ((8 : Int32) &&& 31)).toInt8.toInt32) T3.heap n0 Z3 Fq3_0) hZ (own_w hw 48 rfl) (own_w hw 40 rfl) (by decide) (by decide)) (g := (mkF m 45 #[rv a1, rv a2, iv 0, iv 3, .val (.null), rv b_3] [.int 3, .ref b_3, .ref a1])) rfl (by rw [hml]; rfl) (argsL := [(.ref b_3), (.int 3)]) (rest := [(.ref a1)]) (lenOf pd___BI_B rfl) rfl (by show 2 * 0 + _ ≤ _; exact Nat.le_of_eq rfl) (hb hby d7_45) (fun _ _ => ⟨rfl, rfl, (by decide : 2 + 0 ≤ _), (by decide : 9 + 0 ≤ _)⟩)
  dsimp only [Pt.U, Pt.locs, Pt.cells, Pt.slots] at X4 l4 y4 z4 st4 hQ4
  subst l4 y4 z4
  obtain ⟨rfl, Nq4, e4⟩ := hQ4
  have Nf4 := Fr.app Nf3 Nq4
  refine own_fw (A' := (T4.setTop (mkF m 48 #[rv a1, rv a2, iv 0, iv 3, .val (.null), rv b_3] [.int 1, .ref a1]))) (fun t k => st4 _ k) ?_
  obtain ⟨T5, h5, X5, e5, W5, st5⟩ := putFN X4 hx hZ hown (own_w hw 49 rfl) Via.refl e4 (P1.keep Kq3 nin0) (P0.keep Kq3) (Or.inr ⟨(own_w hw 50 rfl), rfl, hnm⟩) (own_w hw 26 rfl) (ty := .byte) (v' := (.int 1)) (by decide) rfl rfl (g := (mkF m 48 #[rv a1, rv a2, iv 0, iv 3, .val (.null), rv b_3] [.int 1, .ref a1])) rfl rfl (hb hby d7_48)
  have Fw5 : Fld Z h5 a1 "java/lang/String" "coder" "B" (.int 1) := (P1.keep Kq3 nin0).same W5
  have Nf5 := Fr.snoc X5 Nf4 g_a1
  have K5 : Keep h0 h5 [a1] := K3.wr W5 (Or.inl (List.mem_of_getElem? (i := 0) rfl))
  have Z5 : n0 ≤ h5.size := Nat.le_trans Z3 (Keep.of_wr W5).1
  refine own_fw (A' := (T5.setTop (mkF m 54 #[rv a1, rv a2, iv 0, iv 3, .val (.null), rv b_3] [.ref b_3, .ref a1]))) (fun t k => st5 _ (XS.aloadN X5.here hx rfl (hb hby d7_51) rfl rfl (XS.aload X5.here hx rfl (hb hby d7_52) rfl rfl k))) ?_
  obtain ⟨T6, h6, X6, e6, W6, st6⟩ := putF X5 hx hZ hown (host := "") (Or.inl (own_w hw 51 rfl)) Via.refl e5 ((P2.keep Kq3 nin0).other W5 (Or.inr (slot_ne (Or.inr (own_w hw 52 rfl)) (Or.inr (own_w hw 50 rfl)) (by decide) (t := (.array .byte)) (t' := .byte) (by decide) (by decide)))) ((P0.keep Kq3).wr W5) (Or.inr ⟨(own_w hw 52 rfl), rfl, hnm⟩) (own_w hw 26 rfl) (ty := (.array .byte)) (by decide) rfl rfl (g := (mkF m 54 #[rv a1, rv a2, iv 0, iv 3, .val (.null), rv b_3] [.ref b_3, .ref a1])) rfl rfl (hb hby d7_54)
  have Fw6 : Fld Z h6 a1 "java/lang/String" "value" "[B" (.ref b_3) := ((P2.keep Kq3 nin0).other W5 (Or.inr (slot_ne (Or.inr (own_w hw 52 rfl)) (Or.inr (own_w hw 50 rfl)) (by decide) (t := (.array .byte)) (t' := .byte) (by decide) (by decide)))).same W6
  have Nf6 := Fr.snoc X6 Nf5 g_a1
  have K6 : Keep h0 h6 [a1] := K5.wr W6 (Or.inl (List.mem_of_getElem? (i := 0) rfl))
  have Z6 : n0 ≤ h6.size := Nat.le_trans Z5 (Keep.of_wr W6).1
  refine own_fw (A' := (T6.setTop (mkF m 57 #[rv a1, rv a2, iv 0, iv 3, .val (.null), rv b_3] []))) (fun t k => st6 _ k) ?_
  obtain ⟨fs, hr, hrun, hended, hW, hsame⟩ := X6.leave (v := none) (fun _ => rfl)
  refine ⟨_, _, ?_, hrun, hended, _, _, rfl, ?_, ⟨_, rfl⟩, hW, hsame.mono (by decide) (by decide)⟩
  · exact X6.returnOut hx Bd.returns (hb hby d7_57) hr
  · show Q_rmStrB3_0 Z a1 a2 kc cs c0 c1 c2 h0 n0 _ T6.heap _
    rw [e6]
    exact ⟨b_3, kb_3, rfl, Nf6, K6, (((P0.keep Kq3).wr W5).wr W6), (Fw5.other W6 (Or.inr (slot_ne (Or.inr (own_w hw 50 rfl)) (Or.inr (own_w hw 52 rfl)) (by decide) (t := .byte) (t' := (.array .byte)) (by decide) (by decide)))), Fw6, ((Fq3_0.other W5 (Ne.symm ne_a1_b_3)).other W6 (Ne.symm ne_a1_b_3))⟩
theorem ef_rmStrA3_0 (m : MethodId) (a1 a2 : Addr) : entryFrame m #[(.ref a1), (.ref a2)] 2 = mkF m 0 #[.val (.ref a1), .val (.ref a2)] [] := by first | (simp [entryFrame, mkF, argsToLocals, Value.category]; done) | rfl
def Q_rmStrA3_0 (Z : State) (a1 a2 : Addr) (kc : ClassId) (cs c0 c1 c2 : Int32) (h0 : Heap) (n0 : Nat) (v : Option Value) (h : Heap) (L : List Loc) : Prop := ∃ b : Addr, ∃ kb : ClassId, v = none ∧ Fr n0 L ∧ Keep h0 h [a1] ∧ Exa Z h a1 "java/lang/String" ∧ Fld Z h a1 "java/lang/String" "coder" "B" (.int 1) ∧ Fld Z h a1 "java/lang/String" "value" "[B" (.ref b) ∧ Arv Z h b kb .byte (6 : Int32) [(.int ((c0 >>> ((0 : Int32) &&& 31)).toInt8.toInt32)), (.int ((c0 >>> ((8 : Int32) &&& 31)).toInt8.toInt32)), (.int ((c1 >>> ((0 : Int32) &&& 31)).toInt8.toInt32)), (.int ((c1 >>> ((8 : Int32) &&& 31)).toInt8.toInt32)), (.int ((c2 >>> ((0 : Int32) &&& 31)).toInt8.toInt32)), (.int ((c2 >>> ((8 : Int32) &&& 31)).toInt8.toInt32))] (.int 0)
theorem rmStrA3_0 (l : Launch) (Z : State) (a0 : Array Value) (hw : ∀ d ∈ tables_1, d.before a0 Z = true) (ws : List Jvm.Cond) (a1 a2 : Addr) (kc : ClassId) (cs c0 c1 c2 : Int32) (h0 : Heap) (n0 : Nat) (Z0 : n0 ≤ h0.size) (P0 : Exa Z h0 a1 "java/lang/String") (P1 : Fld Z h0 a1 "java/lang/String" "coder" "B" (.int 0)) (P2 : Fld Z h0 a1 "java/lang/String" "value" "[B" .null) (P3 : Arv Z h0 a2 kc .char (3 : Int32) [(.int c0), (.int c1), (.int c2)] (.int 0)) (g_a1 : n0 ≤ a1) (ne_a1_a2 : a1 ≠ a2) (P6 : Sta Z h0 "java/lang/String" "COMPACT_STRINGS" "Z" (.int cs)) (hcs : ¬ (cs = (0 : Int32))) (P8 : Sta Z h0 "java/lang/StringUTF16" "$assertionsDisabled" "Z" (.int 1)) (P9 : Sta Z h0 "java/lang/StringUTF16" "HI_BYTE_SHIFT" "I" (.int 0)) (P10 : Sta Z h0 "java/lang/StringUTF16" "LO_BYTE_SHIFT" "I" (.int 8)) (hc0 : (255 : Int32) < c0) (hr0 : own_c16 c0) :
    MetFree l yq8 (head1 (Jvm.Cond.code yq8 jdk_42_method_3_code 2 none :: ws) rq36) (fun a U => a = #[(.ref a1), (.ref a2)] ∧ Z.Warmed39 U.vm ∧ U.heap = h0) (fun _ _ _ _ _ => True) (fun _ U o U' => ∃ v L, o = .returned v ∧ Q_rmStrA3_0 Z a1 a2 kc cs c0 c1 c2 h0 n0 v U'.heap L ∧ FrameEnd U o U' L rq36.cells rq36.slots) := by
  refine MetFree.of_bodySF (plainFor_of_name pn_java_lang_String) hisR ?_
  intro p e s m args below meth c s₁ Bd hml0 hP hK
  obtain ⟨rfl, hZ, hh⟩ := hP
  have hx := Bd.exec
  have hby := Bd.bytes
  have hml : c.maxLocals = 2 := hml0
  have hown : s.vm.findClass "java/lang/String" = some m.cls := findClass_of_methodNamed Bd.named
  have hnm := (name_of_methodNamed Bd.named Bd.method).1
  have X0 : Stand p l e rq36 s m #[(.ref a1), (.ref a2)] below meth c s₁ [] 0 0 := Stand.of_body Bd
  have e0 : s₁.heap = h0 := by rw [← hh, Bd.state]; rfl
  have N0 := Fr.nil n0
  refine own_fw (A' := (s₁.setTop (mkF m 4 #[rv a1, rv a2] [.ref a2, .int 0, .ref a2, .ref a1]))) (fun t k => castTop (ef_rmStrA3_0 m a1 a2) (XS.aloadN X0.here hx rfl (hb hby d6_0) rfl rfl (XS.aloadN X0.here hx rfl (hb hby d6_1) rfl rfl (XS.iconst X0.here hx rfl (hb hby d6_2) (XS.aloadN X0.here hx rfl (hb hby d6_3) rfl rfl k))))) ?_
  obtain ⟨cl1, Ar1, q1, S1, M1, H1, G1⟩ := id P3
  refine own_fw (A' := (s₁.setTop (mkF m 5 #[rv a1, rv a2] [.int 3, .int 0, .ref a2, .ref a1]))) (fun t k => X0.arraylength hx (by rw [e0]; exact Ar1.1) (State.isArrayOf_alike hZ.alike Ar1.2.1) (g := (mkF m 4 #[rv a1, rv a2] [.ref a2, .int 0, .ref a2, .ref a1])) rfl rfl (hb hby d6_4) _ (by rw [len_of S1 M1]; exact k)) ?_
  refine own_fw (A' := (s₁.setTop (mkF m 6 #[rv a1, rv a2] [.null, .int 3, .int 0, .ref a2, .ref a1]))) (fun t k => XS.aconstNull X0.here hx rfl (hb hby d6_5) k) ?_
  obtain ⟨_, _, ⟨T2, L2, k2, n2⟩, -, X2, ⟨Lc2, hQ2, l2, y2, z2⟩, st2⟩ := X0.specialBack hx (y := yq6) rfl hown (mvT hZ (own_w hw 32 rfl)) (mvT hZ (own_w hw 33 rfl)) (mvT hZ (own_w hw 35 rfl)) (by decide) (backOf (W := 0) (rmStrB3_0 l Z a0 hw [] a1 a2 kc cs c0 c1 c2 h0 n0 Z0 P0 P1 P2 P3 g_a1 ne_a1_a2 P6 hcs P8 P9 P10 hc0 hr0) hZ (own_w hw 35 rfl) (own_w hw 27 rfl) (by decide) (by decide)) (g := (mkF m 6 #[rv a1, rv a2] [.null, .int 3, .int 0, .ref a2, .ref a1])) rfl (by rw [hml]; rfl) (Steps.refl _) (a := a1) (argsL := [(.ref a2), (.int 0), (.int 3), .null]) (rest := []) (lenOf pd___CIILjava_lang_Void__V rfl) rfl (by show 2 * 0 + _ ≤ _; exact Nat.le_of_eq rfl) (hb hby d6_6) (fun _ _ => ⟨rfl, e0, (by decide : 0 + 2 ≤ _), (by decide : 0 + 9 ≤ _)⟩)
  dsimp only [Pt.U, Pt.locs, Pt.cells, Pt.slots] at X2 l2 y2 z2 st2 hQ2
  subst l2 y2 z2
  obtain ⟨b_2, kb_2, rfl, Nq2, Kq2, Fq2_0, Fq2_1, Fq2_2, Fq2_3⟩ := hQ2
  have Nf2 := Fr.app N0 Nq2
  have K2 : Keep h0 T2.heap [a1] := (Keep.refl h0 [a1]).trans Kq2 (allS (Or.inl (List.mem_of_getElem? (i := 0) rfl)) all0)
  have Z2 : n0 ≤ T2.heap.size := Nat.le_trans Z0 Kq2.1
  refine own_fw (A' := (T2.setTop (mkF m 9 #[rv a1, rv a2] []))) (fun t k => st2.trans k) ?_
  obtain ⟨fs, hr, hrun, hended, hW, hsame⟩ := X2.leave (v := none) (fun _ => rfl)
  refine ⟨_, _, ?_, hrun, hended, _, _, rfl, ?_, ⟨_, rfl⟩, hW, hsame.mono (by decide) (by decide)⟩
  · exact X2.returnOut hx Bd.returns (hb hby d6_9) hr
  · show Q_rmStrA3_0 Z a1 a2 kc cs c0 c1 c2 h0 n0 _ T2.heap _
    exact ⟨b_2, kb_2, rfl, Nf2, K2, Fq2_0, Fq2_1, Fq2_2, Fq2_3⟩
theorem ef_rmCmpA3_1 (m : MethodId) (a1 a3 : Addr) : entryFrame m #[(.ref a1), (.int 0), (.ref a3), (.int 0), (.int 3)] 7 = mkF m 0 #[.val (.ref a1), .val (.int 0), .val (.ref a3), .val (.int 0), .val (.int 3), .unset, .unset] [] := by first | (simp [entryFrame, mkF, argsToLocals, Value.category]; done) | rfl
def Q_rmCmpA3_1 (Z : State) (a1 a3 : Addr) (kc kb : ClassId) (c0 c1 c2 : Int32) (h0 : Heap) (n0 : Nat) (v : Option Value) (h : Heap) (L : List Loc) : Prop := v = some (.int 1) ∧ Fr n0 L ∧ Keep h0 h [a3]
theorem rmCmpA3_1 (l : Launch) (Z : State) (a0 : Array Value) (hw : ∀ d ∈ tables_1, d.before a0 Z = true) (ws : List Jvm.Cond) (a1 a3 : Addr) (kc kb : ClassId) (c0 c1 c2 : Int32) (h0 : Heap) (n0 : Nat) (Z0 : n0 ≤ h0.size) (P0 : Arv Z h0 a1 kc .char (3 : Int32) [(.int c0), (.int c1), (.int c2)] (.int 0)) (P1 : Arv Z h0 a3 kb .byte (3 : Int32) [(.int 0), (.int 0), (.int 0)] (.int 0)) (g_a3 : n0 ≤ a3) (ne_a1_a3 : a1 ≠ a3) (hc0 : ¬ ((255 : Int32) < c0)) (hc1 : (255 : Int32) < c1) :
    MetFree l yq1 (head1 (Jvm.Cond.code yq1 jdk_52_method_21_code 7 (some .int) :: ws) rq0) (fun a U => a = #[(.ref a1), (.int 0), (.ref a3), (.int 0), (.int 3)] ∧ Z.Warmed39 U.vm ∧ U.heap = h0) (fun _ _ _ _ _ => True) (fun _ U o U' => ∃ v L, o = .returned v ∧ Q_rmCmpA3_1 Z a1 a3 kc kb c0 c1 c2 h0 n0 v U'.heap L ∧ FrameEnd U o U' L rq0.cells rq0.slots) := by
  refine MetFree.of_bodySF (plainFor_of_name pn_java_lang_StringUTF16) hisR ?_
  intro p e s m args below meth c s₁ Bd hml0 hP hK
  obtain ⟨rfl, hZ, hh⟩ := hP
  have hx := Bd.exec
  have hby := Bd.bytes
  have hml : c.maxLocals = 7 := hml0
  have hown : s.vm.findClass "java/lang/StringUTF16" = some m.cls := findClass_of_methodNamed Bd.named
  have hnm := (name_of_methodNamed Bd.named Bd.method).1
  have X0 : Stand p l e rq0 s m #[(.ref a1), (.int 0), (.ref a3), (.int 0), (.int 3)] below meth c s₁ [] 0 0 := Stand.of_body Bd
  have e0 : s₁.heap = h0 := by rw [← hh, Bd.state]; rfl
  have N0 := Fr.nil n0
  refine own_fw (A' := (s₁.setTop (mkF m 12 #[rv a1, iv 0, rv a3, iv 0, iv 3, iv 0, .unset] [.int 0, .ref a1]))) (fun t k => castTop (ef_rmCmpA3_1 m a1 a3) (XS.iconst X0.here hx rfl (hb hby d9_0) (XS.istore X0.here hx rfl (hb hby d9_1) rfl (l' := #[.val (.ref a1), .val (.int 0), .val (.ref a3), .val (.int 0), .val (.int 3), .val (.int 0), .unset]) rfl (XS.iload X0.here hx rfl (hb hby d9_3) rfl (XS.iload X0.here hx rfl (hb hby d9_5) rfl (XS.icmpNo X0.here hx rfl (hb hby d9_7) rfl (XT.ii_ge_f (by decide)) (XS.aloadN X0.here hx rfl (hb hby d9_10) rfl rfl (XS.iloadN X0.here hx rfl (hb hby d9_11) rfl k)))))))) ?_
  obtain ⟨cl1, Ar1, q1, S1, M1, H1, G1⟩ := id P0
  have hin1 : ¬ ((0 : Int32) < 0 ∨ cl1.slots.size ≤ ((0 : Int32)).toNatClampNeg) := inb_of S1 ⟨by decide, by decide⟩
  have hat1 : cl1.slots[((0 : Int32)).toNatClampNeg]? = some (.int c0) := H1.at hin1 rfl
  refine own_fw (A' := (s₁.setTop (mkF m 31 #[rv a1, iv 0, rv a3, iv 0, iv 3, iv 0, iv c0] [.int (c0.toInt8.toInt32), .int 0, .ref a3]))) (fun t k => X0.caload hx (j := (0 : Int32)) (v := (.int c0)) (by rw [e0]; exact Ar1.1) (State.isArrayOf_alike hZ.alike Ar1.2.1) Ar1.2.2 hin1 hat1 (g := (mkF m 12 #[rv a1, iv 0, rv a3, iv 0, iv 3, iv 0, .unset] [.int 0, .ref a1])) rfl rfl (hb hby d9_12) _ (XS.istore X0.here hx rfl (hb hby d9_13) rfl (l' := #[.val (.ref a1), .val (.int 0), .val (.ref a3), .val (.int 0), .val (.int 3), .val (.int 0), .val (.int c0)]) rfl (XS.iload X0.here hx rfl (hb hby d9_15) rfl (XS.sipush X0.here hx rfl (hb hby d9_17) (XS.icmpYes X0.here hx rfl (pc0 := 20) (pc' := 26) rfl (hb hby d9_20) rfl (XT.ii_le_t hc0) (by decide) (by decide) (XS.aloadN X0.here hx rfl (hb hby d9_26) rfl rfl (XS.iloadN X0.here hx rfl (hb hby d9_27) rfl (XS.iload X0.here hx rfl (hb hby d9_28) rfl (XS.i2b X0.here hx rfl (hb hby d9_30) rfl k))))))))) ?_
  obtain ⟨cl2, Ar2, q2, S2, M2, H2, G2⟩ := id P1
  have hin2 : ¬ ((0 : Int32) < 0 ∨ cl2.slots.size ≤ ((0 : Int32)).toNatClampNeg) := inb_of S2 ⟨by decide, by decide⟩
  obtain ⟨T2, h2, X2, e2, W2, st2⟩ := stB X0 hx hZ e0 Ar2 (j := (0 : Int32)) hin2 (g := (mkF m 31 #[rv a1, iv 0, rv a3, iv 0, iv 3, iv 0, iv c0] [.int (c0.toInt8.toInt32), .int 0, .ref a3])) rfl rfl (hb hby d9_31)
  rw [own_narB] at W2
  have V2 : Arv Z h2 a3 kb .byte (3 : Int32) [(.int (c0.toInt8.toInt32)), (.int 0), (.int 0)] (.int 0) := Arv.set Ar2 q2 S2 M2 H2 G2 (fits_nar_byte _) W2 0 rfl (Nat.le_of_ble_eq_true rfl)
  have Nf2 := Fr.snoc X2 N0 g_a3
  have K2 : Keep h0 h2 [a3] := (Keep.refl h0 [a3]).wr W2 (Or.inl (List.mem_of_getElem? (i := 0) rfl))
  have Z2 : n0 ≤ h2.size := Nat.le_trans Z0 (Keep.of_wr W2).1
  refine own_fw (A' := (T2.setTop (mkF m 12 #[rv a1, iv 1, rv a3, iv 1, iv 3, iv 1, iv c0] [.int 1, .ref a1]))) (fun t k => st2 _ (XS.iinc X2.here hx rfl (hb hby d9_32) rfl (l' := #[.val (.ref a1), .val (.int 1), .val (.ref a3), .val (.int 0), .val (.int 3), .val (.int 0), .val (.int c0)]) rfl (XS.iinc X2.here hx rfl (hb hby d9_35) rfl (l' := #[.val (.ref a1), .val (.int 1), .val (.ref a3), .val (.int 1), .val (.int 3), .val (.int 0), .val (.int c0)]) rfl (XS.iinc X2.here hx rfl (hb hby d9_38) rfl (l' := #[.val (.ref a1), .val (.int 1), .val (.ref a3), .val (.int 1), .val (.int 3), .val (.int 1), .val (.int c0)]) rfl (XS.goto X2.here hx rfl (pc0 := 41) (pc' := 3) rfl (hb hby d9_41) (by decide) (by decide) (XS.iload X2.here hx rfl (hb hby d9_3) rfl (XS.iload X2.here hx rfl (hb hby d9_5) rfl (XS.icmpNo X2.here hx rfl (hb hby d9_7) rfl (XT.ii_ge_f (by decide)) (XS.aloadN X2.here hx rfl (hb hby d9_10) rfl rfl (XS.iloadN X2.here hx rfl (hb hby d9_11) rfl k)))))))))) ?_
  obtain ⟨cl3, Ar3, q3, S3, M3, H3, G3⟩ := id (P0.other W2 ne_a1_a3)
  have hin3 : ¬ ((1 : Int32) < 0 ∨ cl3.slots.size ≤ ((1 : Int32)).toNatClampNeg) := inb_of S3 ⟨by decide, by decide⟩
  have hat3 : cl3.slots[((1 : Int32)).toNatClampNeg]? = some (.int c1) := H3.at hin3 rfl
  refine own_fw (A' := (T2.setTop (mkF m 25 #[rv a1, iv 1, rv a3, iv 1, iv 3, iv 1, iv c1] [.int 1]))) (fun t k => X2.caload hx (j := (1 : Int32)) (v := (.int c1)) (by rw [e2]; exact Ar3.1) (State.isArrayOf_alike hZ.alike Ar3.2.1) Ar3.2.2 hin3 hat3 (g := (mkF m 12 #[rv a1, iv 1, rv a3, iv 1, iv 3, iv 1, iv c0] [.int 1, .ref a1])) rfl rfl (hb hby d9_12) _ (XS.istore X2.here hx rfl (hb hby d9_13) rfl (l' := #[.val (.ref a1), .val (.int 1), .val (.ref a3), .val (.int 1), .val (.int 3), .val (.int 1), .val (.int c1)]) rfl (XS.iload X2.here hx rfl (hb hby d9_15) rfl (XS.sipush X2.here hx rfl (hb hby d9_17) (XS.icmpNo X2.here hx rfl (hb hby d9_20) rfl (XT.ii_le_f hc1) (XS.iload X2.here hx rfl (hb hby d9_23) rfl k)))))) ?_
  obtain ⟨fs, hr, hrun, hended, hW, hsame⟩ := X2.leave (v := some (.int 1)) (fun h => by rw [Bd.returns] at h; cases h)
  refine ⟨_, _, ?_, hrun, hended, _, _, rfl, ?_, ⟨_, rfl⟩, hW, hsame.mono (by decide) (by decide)⟩
  · exact retOut X2 hx Bd.returns rfl (Or.inl ⟨rfl, by simp, _, rfl⟩) (hb hby d9_25) hr
  · show Q_rmCmpA3_1 Z a1 a3 kc kb c0 c1 c2 h0 n0 _ T2.heap _
    rw [e2]
    exact ⟨rfl, Nf2, K2⟩
theorem ef_rmCmpB3_1 (m : MethodId) (a1 : Addr) : entryFrame m #[(.ref a1), (.int 0), (.int 3)] 6 = mkF m 0 #[.val (.ref a1), .val (.int 0), .val (.int 3), .unset, .unset, .unset] [] := by first | (simp [entryFrame, mkF, argsToLocals, Value.category]; done) | rfl
def Q_rmCmpB3_1 (Z : State) (a1 : Addr) (kc : ClassId) (c0 c1 c2 : Int32) (h0 : Heap) (n0 : Nat) (v : Option Value) (h : Heap) (L : List Loc) : Prop := ∃ b : Addr, ∃ kb : ClassId, v = some (.ref b) ∧ Fr n0 L ∧ Keep h0 h [] ∧ Arv Z h b kb .byte (6 : Int32) [(.int ((c0 >>> ((0 : Int32) &&& 31)).toInt8.toInt32)), (.int ((c0 >>> ((8 : Int32) &&& 31)).toInt8.toInt32)), (.int ((c1 >>> ((0 : Int32) &&& 31)).toInt8.toInt32)), (.int ((c1 >>> ((8 : Int32) &&& 31)).toInt8.toInt32)), (.int ((c2 >>> ((0 : Int32) &&& 31)).toInt8.toInt32)), (.int ((c2 >>> ((8 : Int32) &&& 31)).toInt8.toInt32))] (.int 0) ∧ (h0.size ≤ b)
theorem rmCmpB3_1 (l : Launch) (Z : State) (a0 : Array Value) (hw : ∀ d ∈ tables_1, d.before a0 Z = true) (ws : List Jvm.Cond) (a1 : Addr) (kc : ClassId) (c0 c1 c2 : Int32) (h0 : Heap) (n0 : Nat) (Z0 : n0 ≤ h0.size) (P0 : Arv Z h0 a1 kc .char (3 : Int32) [(.int c0), (.int c1), (.int c2)] (.int 0)) (P1 : Sta Z h0 "java/lang/StringUTF16" "$assertionsDisabled" "Z" (.int 1)) (P2 : Sta Z h0 "java/lang/StringUTF16" "HI_BYTE_SHIFT" "I" (.int 0)) (P3 : Sta Z h0 "java/lang/StringUTF16" "LO_BYTE_SHIFT" "I" (.int 8)) (hc0 : ¬ ((255 : Int32) < c0)) (hc1 : (255 : Int32) < c1) (hr1 : own_c16 c1) :
    MetFree l yq3 (head1 (Jvm.Cond.code yq3 jdk_52_method_16_code 6 (some (.array .byte)) :: ws) rq34) (fun a U => a = #[(.ref a1), (.int 0), (.int 3)] ∧ Z.Warmed39 U.vm ∧ U.heap = h0) (fun _ _ _ _ _ => True) (fun _ U o U' => ∃ v L, o = .returned v ∧ Q_rmCmpB3_1 Z a1 kc c0 c1 c2 h0 n0 v U'.heap L ∧ FrameEnd U o U' L rq34.cells rq34.slots) := by
  refine MetFree.of_bodySF (plainFor_of_name pn_java_lang_StringUTF16) hisR ?_
  intro p e s m args below meth c s₁ Bd hml0 hP hK
  obtain ⟨rfl, hZ, hh⟩ := hP
  have hx := Bd.exec
  have hby := Bd.bytes
  have hml : c.maxLocals = 6 := hml0
  have hown : s.vm.findClass "java/lang/StringUTF16" = some m.cls := findClass_of_methodNamed Bd.named
  have hnm := (name_of_methodNamed Bd.named Bd.method).1
  have X0 : Stand p l e rq34 s m #[(.ref a1), (.int 0), (.int 3)] below meth c s₁ [] 0 0 := Stand.of_body Bd
  have e0 : s₁.heap = h0 := by rw [← hh, Bd.state]; rfl
  have N0 := Fr.nil n0
  refine own_fw (A' := (s₁.setTop (mkF m 1 #[rv a1, iv 0, iv 3, .unset, .unset, .unset] [.int 3]))) (fun t k => castTop (ef_rmCmpB3_1 m a1) (XS.iloadN X0.here hx rfl (hb hby d8_0) rfl k)) ?_
  obtain ⟨T1, h1, k1, X1, e1, E1, A1, st1⟩ := newP X0 hx hZ (own_w hw 42 rfl) e0 (g := (mkF m 1 #[rv a1, iv 0, iv 3, .unset, .unset, .unset] [.int 3])) rfl (hb hby d8_1) rfl (by decide) (cap := 3) (by decide) (by decide) (by decide) (by decide)
  obtain ⟨b1, gb1⟩ : ∃ z, z = h0.size := ⟨_, rfl⟩
  have g_b1 : n0 ≤ b1 := Nat.le_trans Z0 (Nat.le_of_eq gb1.symm)
  have sz_b1 : h0.size ≤ b1 := Nat.le_trans (Keep.refl h0 []).1 (Nat.le_of_eq gb1.symm)
  have ne_a1_b1 : a1 ≠ b1 := Nat.ne_of_lt (Nat.lt_of_lt_of_le P0.lt (Nat.le_of_eq gb1.symm))
  rw [← gb1] at A1 st1
  have V_b1 : Arv Z h1 b1 k1 .byte (3 : Int32) [(.int 0), (.int 0), (.int 0)] (.int 0) := (Arv.new A1 (by decide)).pad (pad_rep [] (.int 0) 3)
  have K1 : Keep h0 h1 [] := (Keep.refl h0 []).ext E1
  have Z1 : n0 ≤ h1.size := Nat.le_trans Z0 E1.1
  refine own_fw (A' := (T1.setTop (mkF m 9 #[rv a1, iv 0, iv 3, rv b1, .unset, .unset] [.int 3, .int 0, .ref b1, .int 0, .ref a1]))) (fun t k => st1 _ (XS.astoreN X1.here hx rfl (hb hby d8_3) rfl rfl (l' := #[.val (.ref a1), .val (.int 0), .val (.int 3), .val (.ref b1), .unset, .unset]) rfl (XS.aloadN X1.here hx rfl (hb hby d8_4) rfl rfl (XS.iloadN X1.here hx rfl (hb hby d8_5) rfl (XS.aloadN X1.here hx rfl (hb hby d8_6) rfl rfl (XS.iconst X1.here hx rfl (hb hby d8_7) (XS.iloadN X1.here hx rfl (hb hby d8_8) rfl k))))))) ?_
  obtain ⟨_, _, ⟨T2, L2, k2, n2⟩, -, X2, ⟨Lc2, hQ2, l2, y2, z2⟩, st2⟩ := Jvm.LawKit.callS X1 hx (y := yq1) hown (mvT hZ (own_w hw 43 rfl)) (mvT hZ (own_w hw 44 rfl)) (mvT hZ (own_w hw 40 rfl)) (mvT hZ (own_w hw 45 rfl)) (by decide) (backOf (W := 0) (rmCmpA3_1 l Z a0 hw [] a1 b1 kc k1 c0 c1 c2 h1 n0 Z1 (P0.ext E1) V_b1 g_b1 ne_a1_b1 hc0 hc1) hZ (own_w hw 45 rfl) (own_w hw 40 rfl) (by decide) (by decide)) (g := (mkF m 9 #[rv a1, iv 0, iv 3, rv b1, .unset, .unset] [.int 3, .int 0, .ref b1, .int 0, .ref a1])) rfl (by rw [hml]; rfl) (argsL := [(.ref a1), (.int 0), (.ref b1), (.int 0), (.int 3)]) (rest := []) (lenOf pd___CI_BII_I rfl) rfl (by show 2 * 0 + _ ≤ _; exact Nat.le_of_eq rfl) (hb hby d8_9) (fun _ _ => ⟨rfl, e1, (by decide : 1 + 0 ≤ _), (by decide : 3 + 0 ≤ _)⟩)
  dsimp only [Pt.U, Pt.locs, Pt.cells, Pt.slots] at X2 l2 y2 z2 st2 hQ2
  subst l2 y2 z2
  obtain ⟨rfl, Nq2, Kq2⟩ := hQ2
  have Nf2 := Fr.app N0 Nq2
  have K2 : Keep h0 T2.heap [] := K1.trans Kq2 (allS (Or.inr sz_b1) all0)
  have Z2 : n0 ≤ T2.heap.size := Nat.le_trans Z1 Kq2.1
  refine own_fw (A' := (T2.setTop (mkF m 23 #[rv a1, iv 0, iv 3, rv b1, iv 1, .unset] [.int 3, .int 0, .ref a1]))) (fun t k => st2 _ (XS.istore X2.here hx rfl (hb hby d8_12) rfl (l' := #[.val (.ref a1), .val (.int 0), .val (.int 3), .val (.ref b1), .val (.int 1), .unset]) rfl (XS.iload X2.here hx rfl (hb hby d8_14) rfl (XS.iloadN X2.here hx rfl (hb hby d8_16) rfl (XS.icmpNo X2.here hx rfl (hb hby d8_17) rfl (XT.ii_eq_f (by decide)) (XS.aloadN X2.here hx rfl (hb hby d8_20) rfl rfl (XS.iloadN X2.here hx rfl (hb hby d8_21) rfl (XS.iloadN X2.here hx rfl (hb hby d8_22) rfl k)))))))) ?_
  obtain ⟨_, _, ⟨T3, L3, k3, n3⟩, -, X3, ⟨Lc3, hQ3, l3, y3, z3⟩, st3⟩ := Jvm.LawKit.callS X2 hx (y := yq22) hown (mvT hZ (own_w hw 98 rfl)) (mvT hZ (own_w hw 99 rfl)) (mvT hZ (own_w hw 40 rfl)) (mvT hZ (own_w hw 100 rfl)) (by decide) (backOf (W := 0) (rmToB3 l Z a0 hw [] a1 kc c0 c1 c2 T2.heap n0 Z2 ((P0.ext E1).keep Kq2 (ninS ne_a1_b1 nin0)) (own_staKeep (P1.ext E1) Kq2 (allS (own_plainV V_b1) all0)) (own_staKeep (P2.ext E1) Kq2 (allS (own_plainV V_b1) all0)) (own_staKeep (P3.ext E1) Kq2 (allS (own_plainV V_b1) all0))) hZ (own_w hw 100 rfl) (own_w hw 40 rfl) (by decide) (by decide)) (g := (mkF m 23 #[rv a1, iv 0, iv 3, rv b1, iv 1, .unset] [.int 3, .int 0, .ref a1])) rfl (by rw [hml]; rfl) (argsL := [(.ref a1), (.int 0), (.int 3)]) (rest := []) (lenOf pd___CII__B rfl) rfl (by show 2 * 0 + _ ≤ _; exact Nat.le_of_eq rfl) (hb hby d8_23) (fun _ _ => ⟨rfl, rfl, (by decide : 1 + 1 ≤ _), (by decide : 3 + 6 ≤ _)⟩)
  dsimp only [Pt.U, Pt.locs, Pt.cells, Pt.slots] at X3 l3 y3 z3 st3 hQ3
  subst l3 y3 z3
  obtain ⟨b_3, kb_3, rfl, Nq3, Kq3, Fq3_0, gb_3⟩ := hQ3
  have Nf3 := Fr.app Nf2 Nq3
  have K3 : Keep h0 T3.heap [] := K2.trans Kq3 all0
  have sz_b_3 : h0.size ≤ b_3 := Nat.le_trans K2.1 gb_3
  have g_b_3 : n0 ≤ b_3 := Nat.le_trans Z2 gb_3
  have ne_a1_b_3 : a1 ≠ b_3 := Nat.ne_of_lt (Nat.lt_of_lt_of_le ((P0.ext E1).keep Kq2 (ninS ne_a1_b1 nin0)).lt gb_3)
  have Z3 : n0 ≤ T3.heap.size := Nat.le_trans Z2 Kq3.1
  refine own_fw (A' := (T3.setTop (mkF m 32 #[rv a1, iv 0, iv 3, rv b1, iv 1, rv b_3] [.int 1, .ref b_3]))) (fun t k => st3 _ (XS.astore X3.here hx rfl (hb hby d8_26) rfl rfl (l' := #[.val (.ref a1), .val (.int 0), .val (.int 3), .val (.ref b1), .val (.int 1), .val (.ref b_3)]) rfl (XS.aload X3.here hx rfl (hb hby d8_28) rfl rfl (XS.iload X3.here hx rfl (hb hby d8_30) rfl k)))) ?_
  obtain ⟨_, _, ⟨T4, L4, k4, n4⟩, -, X4, ⟨Lc4, hQ4, l4, y4, z4⟩, st4⟩ := Jvm.LawKit.callS X3 hx (y := yq23) hown (mvT hZ (own_w hw 114 rfl)) (mvT hZ (own_w hw 115 rfl)) (mvT hZ (own_w hw 40 rfl)) (mvT hZ (own_w hw 116 rfl)) (by decide) (backOf (W := 0) (rmGet31 l Z a0 hw [] b_3 kb_3 ((c0 >>> ((0 : Int32) &&& 31)).toInt8.toInt32) ((c0 >>> ((8 : Int32) &&& 31)).toInt8.toInt32) ((c1 >>> ((0 : Int32) &&& 31)).toInt8.toInt32) ((c1 >>> ((8 : Int32) &&& 31)).toInt8.toInt32) ((c2 >>> ((0 : Int32) &&& 31)).toInt8.toInt32) ((c2 >>> ((8 : Int32) &&& 31)).toInt8.toInt32) T3.heap n0 Z3 Fq3_0 (own_staKeep (own_staKeep (P1.ext E1) Kq2 (allS (own_plainV V_b1) all0)) Kq3 all0) (own_staKeep (own_staKeep (P2.ext E1) Kq2 (allS (own_plainV V_b1) all0)) Kq3 all0) (own_staKeep (own_staKeep (P3.ext E1) Kq2 (allS (own_plainV V_b1) all0)) Kq3 all0)) hZ (own_w hw 116 rfl) (own_w hw 40 rfl) (by decide) (by decide)) (g := (mkF m 32 #[rv a1, iv 0, iv 3, rv b1, iv 1, rv b_3] [.int 1, .ref b_3])) rfl (by rw [hml]; rfl) (argsL := [(.ref b_3), (.int 1)]) (rest := []) (lenOf pd___BI_C rfl) rfl (by show 2 * 0 + _ ≤ _; exact Nat.le_of_eq rfl) (hb hby d8_32) (fun _ _ => ⟨rfl, rfl, (by decide : 2 + 0 ≤ _), (by decide : 9 + 0 ≤ _)⟩)
  dsimp only [Pt.U, Pt.locs, Pt.cells, Pt.slots] at X4 l4 y4 z4 st4 hQ4
  subst l4 y4 z4
  obtain ⟨rfl, Nq4, e4⟩ := hQ4
  have Nf4 := Fr.app Nf3 Nq4
  refine own_fw (A' := (T4.setTop (mkF m 56 #[rv a1, iv 0, iv 3, rv b1, iv 1, rv b_3] [.ref b_3]))) (fun t k => st4 _ (XS.sipush X4.here hx rfl (hb hby d8_35) (XS.icmpYes X4.here hx rfl (pc0 := 38) (pc' := 54) rfl (hb hby d8_38) rfl (XT.ii_gt_t (by rw [own_gcc hr1]; exact hc1)) (by decide) (by decide) (XS.aload X4.here hx rfl (hb hby d8_54) rfl rfl k)))) ?_
  obtain ⟨fs, hr, hrun, hended, hW, hsame⟩ := X4.leave (v := some (.ref b_3)) (fun h => by rw [Bd.returns] at h; cases h)
  refine ⟨_, _, ?_, hrun, hended, _, _, rfl, ?_, ⟨_, rfl⟩, hW, hsame.mono (by decide) (by decide)⟩
  · exact retOut X4 hx Bd.returns rfl (Or.inr (Or.inr (Or.inr (Or.inr ⟨rfl, rfl, rfl⟩)))) (hb hby d8_56) hr
  · show Q_rmCmpB3_1 Z a1 kc c0 c1 c2 h0 n0 _ T4.heap _
    rw [e4]
    exact ⟨b_3, kb_3, rfl, Nf4, K3, Fq3_0, sz_b_3⟩
theorem ef_rmStrB3_1 (m : MethodId) (a1 a2 : Addr) : entryFrame m #[(.ref a1), (.ref a2), (.int 0), (.int 3), .null] 6 = mkF m 0 #[.val (.ref a1), .val (.ref a2), .val (.int 0), .val (.int 3), .val .null, .unset] [] := by first | (simp [entryFrame, mkF, argsToLocals, Value.category]; done) | rfl
def Q_rmStrB3_1 (Z : State) (a1 a2 : Addr) (kc : ClassId) (cs c0 c1 c2 : Int32) (h0 : Heap) (n0 : Nat) (v : Option Value) (h : Heap) (L : List Loc) : Prop := ∃ b : Addr, ∃ kb : ClassId, v = none ∧ Fr n0 L ∧ Keep h0 h [a1] ∧ Exa Z h a1 "java/lang/String" ∧ Fld Z h a1 "java/lang/String" "coder" "B" (.int 1) ∧ Fld Z h a1 "java/lang/String" "value" "[B" (.ref b) ∧ Arv Z h b kb .byte (6 : Int32) [(.int ((c0 >>> ((0 : Int32) &&& 31)).toInt8.toInt32)), (.int ((c0 >>> ((8 : Int32) &&& 31)).toInt8.toInt32)), (.int ((c1 >>> ((0 : Int32) &&& 31)).toInt8.toInt32)), (.int ((c1 >>> ((8 : Int32) &&& 31)).toInt8.toInt32)), (.int ((c2 >>> ((0 : Int32) &&& 31)).toInt8.toInt32)), (.int ((c2 >>> ((8 : Int32) &&& 31)).toInt8.toInt32))] (.int 0)
theorem rmStrB3_1 (l : Launch) (Z : State) (a0 : Array Value) (hw : ∀ d ∈ tables_1, d.before a0 Z = true) (ws : List Jvm.Cond) (a1 a2 : Addr) (kc : ClassId) (cs c0 c1 c2 : Int32) (h0 : Heap) (n0 : Nat) (Z0 : n0 ≤ h0.size) (P0 : Exa Z h0 a1 "java/lang/String") (P1 : Fld Z h0 a1 "java/lang/String" "coder" "B" (.int 0)) (P2 : Fld Z h0 a1 "java/lang/String" "value" "[B" .null) (P3 : Arv Z h0 a2 kc .char (3 : Int32) [(.int c0), (.int c1), (.int c2)] (.int 0)) (g_a1 : n0 ≤ a1) (ne_a1_a2 : a1 ≠ a2) (P6 : Sta Z h0 "java/lang/String" "COMPACT_STRINGS" "Z" (.int cs)) (hcs : ¬ (cs = (0 : Int32))) (P8 : Sta Z h0 "java/lang/StringUTF16" "$assertionsDisabled" "Z" (.int 1)) (P9 : Sta Z h0 "java/lang/StringUTF16" "HI_BYTE_SHIFT" "I" (.int 0)) (P10 : Sta Z h0 "java/lang/StringUTF16" "LO_BYTE_SHIFT" "I" (.int 8)) (hc0 : ¬ ((255 : Int32) < c0)) (hc1 : (255 : Int32) < c1) (hr1 : own_c16 c1) :
    MetFree l yq6 (head1 (Jvm.Cond.code yq6 jdk_42_method_149_code 6 none :: ws) rq35) (fun a U => a = #[(.ref a1), (.ref a2), (.int 0), (.int 3), .null] ∧ Z.Warmed39 U.vm ∧ U.heap = h0) (fun _ _ _ _ _ => True) (fun _ U o U' => ∃ v L, o = .returned v ∧ Q_rmStrB3_1 Z a1 a2 kc cs c0 c1 c2 h0 n0 v U'.heap L ∧ FrameEnd U o U' L rq35.cells rq35.slots) := by
  refine MetFree.of_bodySF (plainFor_of_name pn_java_lang_String) hisR ?_
  intro p e s m args below meth c s₁ Bd hml0 hP hK
  obtain ⟨rfl, hZ, hh⟩ := hP
  have hx := Bd.exec
  have hby := Bd.bytes
  have hml : c.maxLocals = 6 := hml0
  have hown : s.vm.findClass "java/lang/String" = some m.cls := findClass_of_methodNamed Bd.named
  have hnm := (name_of_methodNamed Bd.named Bd.method).1
  have X0 : Stand p l e rq35 s m #[(.ref a1), (.ref a2), (.int 0), (.int 3), .null] below meth c s₁ [] 0 0 := Stand.of_body Bd
  have e0 : s₁.heap = h0 := by rw [← hh, Bd.state]; rfl
  have N0 := Fr.nil n0
  refine own_fw (A' := (s₁.setTop (mkF m 1 #[rv a1, rv a2, iv 0, iv 3, .val (.null), .unset] [.ref a1]))) (fun t k => castTop (ef_rmStrB3_1 m a1 a2) (XS.aloadN X0.here hx rfl (hb hby d7_0) rfl rfl k)) ?_
  obtain ⟨T1, X1, e1, st1⟩ := initO X0 hx hZ hown (own_w hw 36 rfl) (own_w hw 7 rfl) (own_w hw 8 rfl) e0 (g := (mkF m 1 #[rv a1, rv a2, iv 0, iv 3, .val (.null), .unset] [.ref a1])) rfl (by rw [hml]; rfl) rfl (hb hby d7_1) (by decide) (W := 0) (by show 2 * 0 + _ ≤ _; exact Nat.le_of_eq rfl) (by decide)
  refine own_fw (A' := (T1.setTop (mkF m 27 #[rv a1, rv a2, iv 0, iv 3, .val (.null), .unset] []))) (fun t k => st1 _ (XS.iloadN X1.here hx rfl (hb hby d7_4) rfl (XS.ifYes X1.here hx rfl (pc0 := 5) (pc' := 27) rfl (hb hby d7_5) rfl (XT.i0_ne_t (by decide)) (by decide) (by decide) k))) ?_
  obtain ⟨T2, X2, e2, st2⟩ := getS2 X1 hx hZ hown (host := "") (Or.inl (own_w hw 37 rfl)) Via.refl e1 P6 (g := (mkF m 27 #[rv a1, rv a2, iv 0, iv 3, .val (.null), .unset] [])) rfl (hb hby d7_27)
  refine own_fw (A' := (T2.setTop (mkF m 36 #[rv a1, rv a2, iv 0, iv 3, .val (.null), .unset] [.int 3, .int 0, .ref a2]))) (fun t k => st2 _ (XS.ifNo X2.here hx rfl (hb hby d7_30) rfl (XT.i0_eq_f hcs) (XS.aloadN X2.here hx rfl (hb hby d7_33) rfl rfl (XS.iloadN X2.here hx rfl (hb hby d7_34) rfl (XS.iloadN X2.here hx rfl (hb hby d7_35) rfl k))))) ?_
  obtain ⟨_, _, ⟨T3, L3, k3, n3⟩, -, X3, ⟨Lc3, hQ3, l3, y3, z3⟩, st3⟩ := Jvm.LawKit.callS X2 hx (y := yq3) hown (mvT hZ (own_w hw 38 rfl)) (mvT hZ (own_w hw 39 rfl)) (mvT hZ (own_w hw 40 rfl)) (mvT hZ (own_w hw 41 rfl)) (by decide) (backOf (W := 0) (rmCmpB3_1 l Z a0 hw [] a2 kc c0 c1 c2 h0 n0 Z0 P3 P8 P9 P10 hc0 hc1 hr1) hZ (own_w hw 41 rfl) (own_w hw 40 rfl) (by decide) (by decide)) (g := (mkF m 36 #[rv a1, rv a2, iv 0, iv 3, .val (.null), .unset] [.int 3, .int 0, .ref a2])) rfl (by rw [hml]; rfl) (argsL := [(.ref a2), (.int 0), (.int 3)]) (rest := []) (lenOf pd___CII__B rfl) rfl (by show 2 * 0 + _ ≤ _; exact Nat.le_of_eq rfl) (hb hby d7_36) (fun _ _ => ⟨rfl, e2, (by decide : 0 + 2 ≤ _), (by decide : 0 + 9 ≤ _)⟩)
  dsimp only [Pt.U, Pt.locs, Pt.cells, Pt.slots] at X3 l3 y3 z3 st3 hQ3
  subst l3 y3 z3
  obtain ⟨b_3, kb_3, rfl, Nq3, Kq3, Fq3_0, gb_3⟩ := hQ3
  have Nf3 := Fr.app N0 Nq3
  have K3 : Keep h0 T3.heap [a1] := (Keep.refl h0 [a1]).trans Kq3 all0
  have sz_b_3 : h0.size ≤ b_3 := Nat.le_trans (Keep.refl h0 [a1]).1 gb_3
  have g_b_3 : n0 ≤ b_3 := Nat.le_trans Z0 gb_3
  have ne_a1_b_3 : a1 ≠ b_3 := Nat.ne_of_lt (Nat.lt_of_lt_of_le P0.lt gb_3)
  have ne_a2_b_3 : a2 ≠ b_3 := Nat.ne_of_lt (Nat.lt_of_lt_of_le P3.lt gb_3)
  have Z3 : n0 ≤ T3.heap.size := Nat.le_trans Z0 Kq3.1
  refine own_fw (A' := (T3.setTop (mkF m 45 #[rv a1, rv a2, iv 0, iv 3, .val (.null), rv b_3] [.int 3, .ref b_3, .ref a1]))) (fun t k => st3 _ (XS.astore X3.here hx rfl (hb hby d7_39) rfl rfl (l' := #[.val (.ref a1), .val (.ref a2), .val (.int 0), .val (.int 3), .val .null, .val (.ref b_3)]) rfl (XS.aloadN X3.here hx rfl (hb hby d7_41) rfl rfl (XS.aload X3.here hx rfl (hb hby d7_42) rfl rfl (XS.iloadN X3.here hx rfl (hb hby d7_44) rfl k))))) ?_
  obtain ⟨_, _, ⟨T4, L4, k4, n4⟩, -, X4, ⟨Lc4, hQ4, l4, y4, z4⟩, st4⟩ := Jvm.LawKit.callS X3 hx (y := yq4) hown (mvT hZ (own_w hw 46 rfl)) (mvT hZ (own_w hw 47 rfl)) (mvT hZ (own_w hw 40 rfl)) (mvT hZ (own_w hw 48 rfl)) (by decide) (backOf (W := 1) (rmCoderU3 l Z a0 hw [] b_3 kb_3 ((c0 >>> ((0 : Int32) &&& 31)).toInt8.toInt32) ((c0 >>> ((8 : Int32) &&& 31)).toInt8.toInt32) ((c1 >>> ((0 : Int32) &&& 31)).toInt8.toInt32) ((c1 >>> ((8 : Int32) &&& 31)).toInt8.toInt32) ((c2 >>> ((0 : Int32) &&& 31)).toInt8.toInt32) ((c2 >>> ((8 : Int32) &&& 31)).toInt8.toInt32) T3.heap n0 Z3 Fq3_0) hZ (own_w hw 48 rfl) (own_w hw 40 rfl) (by decide) (by decide)) (g := (mkF m 45 #[rv a1, rv a2, iv 0, iv 3, .val (.null), rv b_3] [.int 3, .ref b_3, .ref a1])) rfl (by rw [hml]; rfl) (argsL := [(.ref b_3), (.int 3)]) (rest := [(.ref a1)]) (lenOf pd___BI_B rfl) rfl (by show 2 * 0 + _ ≤ _; exact Nat.le_of_eq rfl) (hb hby d7_45) (fun _ _ => ⟨rfl, rfl, (by decide : 2 + 0 ≤ _), (by decide : 9 + 0 ≤ _)⟩)
  dsimp only [Pt.U, Pt.locs, Pt.cells, Pt.slots] at X4 l4 y4 z4 st4 hQ4
  subst l4 y4 z4
  obtain ⟨rfl, Nq4, e4⟩ := hQ4
  have Nf4 := Fr.app Nf3 Nq4
  refine own_fw (A' := (T4.setTop (mkF m 48 #[rv a1, rv a2, iv 0, iv 3, .val (.null), rv b_3] [.int 1, .ref a1]))) (fun t k => st4 _ k) ?_
  obtain ⟨T5, h5, X5, e5, W5, st5⟩ := putFN X4 hx hZ hown (own_w hw 49 rfl) Via.refl e4 (P1.keep Kq3 nin0) (P0.keep Kq3) (Or.inr ⟨(own_w hw 50 rfl), rfl, hnm⟩) (own_w hw 26 rfl) (ty := .byte) (v' := (.int 1)) (by decide) rfl rfl (g := (mkF m 48 #[rv a1, rv a2, iv 0, iv 3, .val (.null), rv b_3] [.int 1, .ref a1])) rfl rfl (hb hby d7_48)
  have Fw5 : Fld Z h5 a1 "java/lang/String" "coder" "B" (.int 1) := (P1.keep Kq3 nin0).same W5
  have Nf5 := Fr.snoc X5 Nf4 g_a1
  have K5 : Keep h0 h5 [a1] := K3.wr W5 (Or.inl (List.mem_of_getElem? (i := 0) rfl))
  have Z5 : n0 ≤ h5.size := Nat.le_trans Z3 (Keep.of_wr W5).1
  refine own_fw (A' := (T5.setTop (mkF m 54 #[rv a1, rv a2, iv 0, iv 3, .val (.null), rv b_3] [.ref b_3, .ref a1]))) (fun t k => st5 _ (XS.aloadN X5.here hx rfl (hb hby d7_51) rfl rfl (XS.aload X5.here hx rfl (hb hby d7_52) rfl rfl k))) ?_
  obtain ⟨T6, h6, X6, e6, W6, st6⟩ := putF X5 hx hZ hown (host := "") (Or.inl (own_w hw 51 rfl)) Via.refl e5 ((P2.keep Kq3 nin0).other W5 (Or.inr (slot_ne (Or.inr (own_w hw 52 rfl)) (Or.inr (own_w hw 50 rfl)) (by decide) (t := (.array .byte)) (t' := .byte) (by decide) (by decide)))) ((P0.keep Kq3).wr W5) (Or.inr ⟨(own_w hw 52 rfl), rfl, hnm⟩) (own_w hw 26 rfl) (ty := (.array .byte)) (by decide) rfl rfl (g := (mkF m 54 #[rv a1, rv a2, iv 0, iv 3, .val (.null), rv b_3] [.ref b_3, .ref a1])) rfl rfl (hb hby d7_54)
  have Fw6 : Fld Z h6 a1 "java/lang/String" "value" "[B" (.ref b_3) := ((P2.keep Kq3 nin0).other W5 (Or.inr (slot_ne (Or.inr (own_w hw 52 rfl)) (Or.inr (own_w hw 50 rfl)) (by decide) (t := (.array .byte)) (t' := .byte) (by decide) (by decide)))).same W6
  have Nf6 := Fr.snoc X6 Nf5 g_a1
  have K6 : Keep h0 h6 [a1] := K5.wr W6 (Or.inl (List.mem_of_getElem? (i := 0) rfl))
  have Z6 : n0 ≤ h6.size := Nat.le_trans Z5 (Keep.of_wr W6).1
  refine own_fw (A' := (T6.setTop (mkF m 57 #[rv a1, rv a2, iv 0, iv 3, .val (.null), rv b_3] []))) (fun t k => st6 _ k) ?_
  obtain ⟨fs, hr, hrun, hended, hW, hsame⟩ := X6.leave (v := none) (fun _ => rfl)
  refine ⟨_, _, ?_, hrun, hended, _, _, rfl, ?_, ⟨_, rfl⟩, hW, hsame.mono (by decide) (by decide)⟩
  · exact X6.returnOut hx Bd.returns (hb hby d7_57) hr
  · show Q_rmStrB3_1 Z a1 a2 kc cs c0 c1 c2 h0 n0 _ T6.heap _
    rw [e6]
    exact ⟨b_3, kb_3, rfl, Nf6, K6, (((P0.keep Kq3).wr W5).wr W6), (Fw5.other W6 (Or.inr (slot_ne (Or.inr (own_w hw 50 rfl)) (Or.inr (own_w hw 52 rfl)) (by decide) (t := .byte) (t' := (.array .byte)) (by decide) (by decide)))), Fw6, ((Fq3_0.other W5 (Ne.symm ne_a1_b_3)).other W6 (Ne.symm ne_a1_b_3))⟩
theorem ef_rmStrA3_1 (m : MethodId) (a1 a2 : Addr) : entryFrame m #[(.ref a1), (.ref a2)] 2 = mkF m 0 #[.val (.ref a1), .val (.ref a2)] [] := by first | (simp [entryFrame, mkF, argsToLocals, Value.category]; done) | rfl
def Q_rmStrA3_1 (Z : State) (a1 a2 : Addr) (kc : ClassId) (cs c0 c1 c2 : Int32) (h0 : Heap) (n0 : Nat) (v : Option Value) (h : Heap) (L : List Loc) : Prop := ∃ b : Addr, ∃ kb : ClassId, v = none ∧ Fr n0 L ∧ Keep h0 h [a1] ∧ Exa Z h a1 "java/lang/String" ∧ Fld Z h a1 "java/lang/String" "coder" "B" (.int 1) ∧ Fld Z h a1 "java/lang/String" "value" "[B" (.ref b) ∧ Arv Z h b kb .byte (6 : Int32) [(.int ((c0 >>> ((0 : Int32) &&& 31)).toInt8.toInt32)), (.int ((c0 >>> ((8 : Int32) &&& 31)).toInt8.toInt32)), (.int ((c1 >>> ((0 : Int32) &&& 31)).toInt8.toInt32)), (.int ((c1 >>> ((8 : Int32) &&& 31)).toInt8.toInt32)), (.int ((c2 >>> ((0 : Int32) &&& 31)).toInt8.toInt32)), (.int ((c2 >>> ((8 : Int32) &&& 31)).toInt8.toInt32))] (.int 0)
theorem rmStrA3_1 (l : Launch) (Z : State) (a0 : Array Value) (hw : ∀ d ∈ tables_1, d.before a0 Z = true) (ws : List Jvm.Cond) (a1 a2 : Addr) (kc : ClassId) (cs c0 c1 c2 : Int32) (h0 : Heap) (n0 : Nat) (Z0 : n0 ≤ h0.size) (P0 : Exa Z h0 a1 "java/lang/String") (P1 : Fld Z h0 a1 "java/lang/String" "coder" "B" (.int 0)) (P2 : Fld Z h0 a1 "java/lang/String" "value" "[B" .null) (P3 : Arv Z h0 a2 kc .char (3 : Int32) [(.int c0), (.int c1), (.int c2)] (.int 0)) (g_a1 : n0 ≤ a1) (ne_a1_a2 : a1 ≠ a2) (P6 : Sta Z h0 "java/lang/String" "COMPACT_STRINGS" "Z" (.int cs)) (hcs : ¬ (cs = (0 : Int32))) (P8 : Sta Z h0 "java/lang/StringUTF16" "$assertionsDisabled" "Z" (.int 1)) (P9 : Sta Z h0 "java/lang/StringUTF16" "HI_BYTE_SHIFT" "I" (.int 0)) (P10 : Sta Z h0 "java/lang/StringUTF16" "LO_BYTE_SHIFT" "I" (.int 8)) (hc0 : ¬ ((255 : Int32) < c0)) (hc1 : (255 : Int32) < c1) (hr1 : own_c16 c1) :
    MetFree l yq8 (head1 (Jvm.Cond.code yq8 jdk_42_method_3_code 2 none :: ws) rq36) (fun a U => a = #[(.ref a1), (.ref a2)] ∧ Z.Warmed39 U.vm ∧ U.heap = h0) (fun _ _ _ _ _ => True) (fun _ U o U' => ∃ v L, o = .returned v ∧ Q_rmStrA3_1 Z a1 a2 kc cs c0 c1 c2 h0 n0 v U'.heap L ∧ FrameEnd U o U' L rq36.cells rq36.slots) := by
  refine MetFree.of_bodySF (plainFor_of_name pn_java_lang_String) hisR ?_
  intro p e s m args below meth c s₁ Bd hml0 hP hK
  obtain ⟨rfl, hZ, hh⟩ := hP
  have hx := Bd.exec
  have hby := Bd.bytes
  have hml : c.maxLocals = 2 := hml0
  have hown : s.vm.findClass "java/lang/String" = some m.cls := findClass_of_methodNamed Bd.named
  have hnm := (name_of_methodNamed Bd.named Bd.method).1
  have X0 : Stand p l e rq36 s m #[(.ref a1), (.ref a2)] below meth c s₁ [] 0 0 := Stand.of_body Bd
  have e0 : s₁.heap = h0 := by rw [← hh, Bd.state]; rfl
  have N0 := Fr.nil n0
  refine own_fw (A' := (s₁.setTop (mkF m 4 #[rv a1, rv a2] [.ref a2, .int 0, .ref a2, .ref a1]))) (fun t k => castTop (ef_rmStrA3_1 m a1 a2) (XS.aloadN X0.here hx rfl (hb hby d6_0) rfl rfl (XS.aloadN X0.here hx rfl (hb hby d6_1) rfl rfl (XS.iconst X0.here hx rfl (hb hby d6_2) (XS.aloadN X0.here hx rfl (hb hby d6_3) rfl rfl k))))) ?_
  obtain ⟨cl1, Ar1, q1, S1, M1, H1, G1⟩ := id P3
  refine own_fw (A' := (s₁.setTop (mkF m 5 #[rv a1, rv a2] [.int 3, .int 0, .ref a2, .ref a1]))) (fun t k => X0.arraylength hx (by rw [e0]; exact Ar1.1) (State.isArrayOf_alike hZ.alike Ar1.2.1) (g := (mkF m 4 #[rv a1, rv a2] [.ref a2, .int 0, .ref a2, .ref a1])) rfl rfl (hb hby d6_4) _ (by rw [len_of S1 M1]; exact k)) ?_
  refine own_fw (A' := (s₁.setTop (mkF m 6 #[rv a1, rv a2] [.null, .int 3, .int 0, .ref a2, .ref a1]))) (fun t k => XS.aconstNull X0.here hx rfl (hb hby d6_5) k) ?_
  obtain ⟨_, _, ⟨T2, L2, k2, n2⟩, -, X2, ⟨Lc2, hQ2, l2, y2, z2⟩, st2⟩ := X0.specialBack hx (y := yq6) rfl hown (mvT hZ (own_w hw 32 rfl)) (mvT hZ (own_w hw 33 rfl)) (mvT hZ (own_w hw 35 rfl)) (by decide) (backOf (W := 0) (rmStrB3_1 l Z a0 hw [] a1 a2 kc cs c0 c1 c2 h0 n0 Z0 P0 P1 P2 P3 g_a1 ne_a1_a2 P6 hcs P8 P9 P10 hc0 hc1 hr1) hZ (own_w hw 35 rfl) (own_w hw 27 rfl) (by decide) (by decide)) (g := (mkF m 6 #[rv a1, rv a2] [.null, .int 3, .int 0, .ref a2, .ref a1])) rfl (by rw [hml]; rfl) (Steps.refl _) (a := a1) (argsL := [(.ref a2), (.int 0), (.int 3), .null]) (rest := []) (lenOf pd___CIILjava_lang_Void__V rfl) rfl (by show 2 * 0 + _ ≤ _; exact Nat.le_of_eq rfl) (hb hby d6_6) (fun _ _ => ⟨rfl, e0, (by decide : 0 + 2 ≤ _), (by decide : 0 + 9 ≤ _)⟩)
  dsimp only [Pt.U, Pt.locs, Pt.cells, Pt.slots] at X2 l2 y2 z2 st2 hQ2
  subst l2 y2 z2
  obtain ⟨b_2, kb_2, rfl, Nq2, Kq2, Fq2_0, Fq2_1, Fq2_2, Fq2_3⟩ := hQ2
  have Nf2 := Fr.app N0 Nq2
  have K2 : Keep h0 T2.heap [a1] := (Keep.refl h0 [a1]).trans Kq2 (allS (Or.inl (List.mem_of_getElem? (i := 0) rfl)) all0)
  have Z2 : n0 ≤ T2.heap.size := Nat.le_trans Z0 Kq2.1
  refine own_fw (A' := (T2.setTop (mkF m 9 #[rv a1, rv a2] []))) (fun t k => st2.trans k) ?_
  obtain ⟨fs, hr, hrun, hended, hW, hsame⟩ := X2.leave (v := none) (fun _ => rfl)
  refine ⟨_, _, ?_, hrun, hended, _, _, rfl, ?_, ⟨_, rfl⟩, hW, hsame.mono (by decide) (by decide)⟩
  · exact X2.returnOut hx Bd.returns (hb hby d6_9) hr
  · show Q_rmStrA3_1 Z a1 a2 kc cs c0 c1 c2 h0 n0 _ T2.heap _
    exact ⟨b_2, kb_2, rfl, Nf2, K2, Fq2_0, Fq2_1, Fq2_2, Fq2_3⟩
theorem ef_rmCmpA3_2 (m : MethodId) (a1 a3 : Addr) : entryFrame m #[(.ref a1), (.int 0), (.ref a3), (.int 0), (.int 3)] 7 = mkF m 0 #[.val (.ref a1), .val (.int 0), .val (.ref a3), .val (.int 0), .val (.int 3), .unset, .unset] [] := by first | (simp [entryFrame, mkF, argsToLocals, Value.category]; done) | rfl
def Q_rmCmpA3_2 (Z : State) (a1 a3 : Addr) (kc kb : ClassId) (c0 c1 c2 : Int32) (h0 : Heap) (n0 : Nat) (v : Option Value) (h : Heap) (L : List Loc) : Prop := v = some (.int 2) ∧ Fr n0 L ∧ Keep h0 h [a3]
theorem rmCmpA3_2 (l : Launch) (Z : State) (a0 : Array Value) (hw : ∀ d ∈ tables_1, d.before a0 Z = true) (ws : List Jvm.Cond) (a1 a3 : Addr) (kc kb : ClassId) (c0 c1 c2 : Int32) (h0 : Heap) (n0 : Nat) (Z0 : n0 ≤ h0.size) (P0 : Arv Z h0 a1 kc .char (3 : Int32) [(.int c0), (.int c1), (.int c2)] (.int 0)) (P1 : Arv Z h0 a3 kb .byte (3 : Int32) [(.int 0), (.int 0), (.int 0)] (.int 0)) (g_a3 : n0 ≤ a3) (ne_a1_a3 : a1 ≠ a3) (hc0 : ¬ ((255 : Int32) < c0)) (hc1 : ¬ ((255 : Int32) < c1)) (hc2 : (255 : Int32) < c2) :
    MetFree l yq1 (head1 (Jvm.Cond.code yq1 jdk_52_method_21_code 7 (some .int) :: ws) rq0) (fun a U => a = #[(.ref a1), (.int 0), (.ref a3), (.int 0), (.int 3)] ∧ Z.Warmed39 U.vm ∧ U.heap = h0) (fun _ _ _ _ _ => True) (fun _ U o U' => ∃ v L, o = .returned v ∧ Q_rmCmpA3_2 Z a1 a3 kc kb c0 c1 c2 h0 n0 v U'.heap L ∧ FrameEnd U o U' L rq0.cells rq0.slots) := by
  refine MetFree.of_bodySF (plainFor_of_name pn_java_lang_StringUTF16) hisR ?_
  intro p e s m args below meth c s₁ Bd hml0 hP hK
  obtain ⟨rfl, hZ, hh⟩ := hP
  have hx := Bd.exec
  have hby := Bd.bytes
  have hml : c.maxLocals = 7 := hml0
  have hown : s.vm.findClass "java/lang/StringUTF16" = some m.cls := findClass_of_methodNamed Bd.named
  have hnm := (name_of_methodNamed Bd.named Bd.method).1
  have X0 : Stand p l e rq0 s m #[(.ref a1), (.int 0), (.ref a3), (.int 0), (.int 3)] below meth c s₁ [] 0 0 := Stand.of_body Bd
  have e0 : s₁.heap = h0 := by rw [← hh, Bd.state]; rfl
  have N0 := Fr.nil n0
  refine own_fw (A' := (s₁.setTop (mkF m 12 #[rv a1, iv 0, rv a3, iv 0, iv 3, iv 0, .unset] [.int 0, .ref a1]))) (fun t k => castTop (ef_rmCmpA3_2 m a1 a3) (XS.iconst X0.here hx rfl (hb hby d9_0) (XS.istore X0.here hx rfl (hb hby d9_1) rfl (l' := #[.val (.ref a1), .val (.int 0), .val (.ref a3), .val (.int 0), .val (.int 3), .val (.int 0), .unset]) rfl (XS.iload X0.here hx rfl (hb hby d9_3) rfl (XS.iload X0.here hx rfl (hb hby d9_5) rfl (XS.icmpNo X0.here hx rfl (hb hby d9_7) rfl (XT.ii_ge_f (by decide)) (XS.aloadN X0.here hx rfl (hb hby d9_10) rfl rfl (XS.iloadN X0.here hx rfl (hb hby d9_11) rfl k)))))))) ?_
  obtain ⟨cl1, Ar1, q1, S1, M1, H1, G1⟩ := id P0
  have hin1 : ¬ ((0 : Int32) < 0 ∨ cl1.slots.size ≤ ((0 : Int32)).toNatClampNeg) := inb_of S1 ⟨by decide, by decide⟩
  have hat1 : cl1.slots[((0 : Int32)).toNatClampNeg]? = some (.int c0) := H1.at hin1 rfl
  refine own_fw (A' := (s₁.setTop (mkF m 31 #[rv a1, iv 0, rv a3, iv 0, iv 3, iv 0, iv c0] [.int (c0.toInt8.toInt32), .int 0, .ref a3]))) (fun t k => X0.caload hx (j := (0 : Int32)) (v := (.int c0)) (by rw [e0]; exact Ar1.1) (State.isArrayOf_alike hZ.alike Ar1.2.1) Ar1.2.2 hin1 hat1 (g := (mkF m 12 #[rv a1, iv 0, rv a3, iv 0, iv 3, iv 0, .unset] [.int 0, .ref a1])) rfl rfl (hb hby d9_12) _ (XS.istore X0.here hx rfl (hb hby d9_13) rfl (l' := #[.val (.ref a1), .val (.int 0), .val (.ref a3), .val (.int 0), .val (.int 3), .val (.int 0), .val (.int c0)]) rfl (XS.iload X0.here hx rfl (hb hby d9_15) rfl (XS.sipush X0.here hx rfl (hb hby d9_17) (XS.icmpYes X0.here hx rfl (pc0 := 20) (pc' := 26) rfl (hb hby d9_20) rfl (XT.ii_le_t hc0) (by decide) (by decide) (XS.aloadN X0.here hx rfl (hb hby d9_26) rfl rfl (XS.iloadN X0.here hx rfl (hb hby d9_27) rfl (XS.iload X0.here hx rfl (hb hby d9_28) rfl (XS.i2b X0.here hx rfl (hb hby d9_30) rfl k))))))))) ?_
  obtain ⟨cl2, Ar2, q2, S2, M2, H2, G2⟩ := id P1
  have hin2 : ¬ ((0 : Int32) < 0 ∨ cl2.slots.size ≤ ((0 : Int32)).toNatClampNeg) := inb_of S2 ⟨by decide, by decide⟩
  obtain ⟨T2, h2, X2, e2, W2, st2⟩ := stB X0 hx hZ e0 Ar2 (j := (0 : Int32)) hin2 (g := (mkF m 31 #[rv a1, iv 0, rv a3, iv 0, iv 3, iv 0, iv c0] [.int (c0.toInt8.toInt32), .int 0, .ref a3])) rfl rfl (hb hby d9_31)
  rw [own_narB] at W2
  have V2 : Arv Z h2 a3 kb .byte (3 : Int32) [(.int (c0.toInt8.toInt32)), (.int 0), (.int 0)] (.int 0) := Arv.set Ar2 q2 S2 M2 H2 G2 (fits_nar_byte _) W2 0 rfl (Nat.le_of_ble_eq_true rfl)
  have Nf2 := Fr.snoc X2 N0 g_a3
  have K2 : Keep h0 h2 [a3] := (Keep.refl h0 [a3]).wr W2 (Or.inl (List.mem_of_getElem? (i := 0) rfl))
  have Z2 : n0 ≤ h2.size := Nat.le_trans Z0 (Keep.of_wr W2).1
  refine own_fw (A' := (T2.setTop (mkF m 12 #[rv a1, iv 1, rv a3, iv 1, iv 3, iv 1, iv c0] [.int 1, .ref a1]))) (fun t k => st2 _ (XS.iinc X2.here hx rfl (hb hby d9_32) rfl (l' := #[.val (.ref a1), .val (.int 1), .val (.ref a3), .val (.int 0), .val (.int 3), .val (.int 0), .val (.int c0)]) rfl (XS.iinc X2.here hx rfl (hb hby d9_35) rfl (l' := #[.val (.ref a1), .val (.int 1), .val (.ref a3), .val (.int 1), .val (.int 3), .val (.int 0), .val (.int c0)]) rfl (XS.iinc X2.here hx rfl (hb hby d9_38) rfl (l' := #[.val (.ref a1), .val (.int 1), .val (.ref a3), .val (.int 1), .val (.int 3), .val (.int 1), .val (.int c0)]) rfl (XS.goto X2.here hx rfl (pc0 := 41) (pc' := 3) rfl (hb hby d9_41) (by decide) (by decide) (XS.iload X2.here hx rfl (hb hby d9_3) rfl (XS.iload X2.here hx rfl (hb hby d9_5) rfl (XS.icmpNo X2.here hx rfl (hb hby d9_7) rfl (XT.ii_ge_f (by decide)) (XS.aloadN X2.here hx rfl (hb hby d9_10) rfl rfl (XS.iloadN X2.here hx rfl (hb hby d9_11) rfl k)))))))))) ?_
  obtain ⟨cl3, Ar3, q3, S3, M3, H3, G3⟩ := id (P0.other W2 ne_a1_a3)
  have hin3 : ¬ ((1 : Int32) < 0 ∨ cl3.slots.size ≤ ((1 : Int32)).toNatClampNeg) := inb_of S3 ⟨by decide, by decide⟩
  have hat3 : cl3.slots[((1 : Int32)).toNatClampNeg]? = some (.int c1) := H3.at hin3 rfl
  refine own_fw (A' := (T2.setTop (mkF m 31 #[rv a1, iv 1, rv a3, iv 1, iv 3, iv 1, iv c1] [.int (c1.toInt8.toInt32), .int 1, .ref a3]))) (fun t k => X2.caload hx (j := (1 : Int32)) (v := (.int c1)) (by rw [e2]; exact Ar3.1) (State.isArrayOf_alike hZ.alike Ar3.2.1) Ar3.2.2 hin3 hat3 (g := (mkF m 12 #[rv a1, iv 1, rv a3, iv 1, iv 3, iv 1, iv c0] [.int 1, .ref a1])) rfl rfl (hb hby d9_12) _ (XS.istore X2.here hx rfl (hb hby d9_13) rfl (l' := #[.val (.ref a1), .val (.int 1), .val (.ref a3), .val (.int 1), .val (.int 3), .val (.int 1), .val (.int c1)]) rfl (XS.iload X2.here hx rfl (hb hby d9_15) rfl (XS.sipush X2.here hx rfl (hb hby d9_17) (XS.icmpYes X2.here hx rfl (pc0 := 20) (pc' := 26) rfl (hb hby d9_20) rfl (XT.ii_le_t hc1) (by decide) (by decide) (XS.aloadN X2.here hx rfl (hb hby d9_26) rfl rfl (XS.iloadN X2.here hx rfl (hb hby d9_27) rfl (XS.iload X2.here hx rfl (hb hby d9_28) rfl (XS.i2b X2.here hx rfl (hb hby d9_30) rfl k))))))))) ?_
  obtain ⟨cl4, Ar4, q4, S4, M4, H4, G4⟩ := id V2
  have hin4 : ¬ ((1 : Int32) < 0 ∨ cl4.slots.size ≤ ((1 : Int32)).toNatClampNeg) := inb_of S4 ⟨by decide, by decide⟩
  obtain ⟨T4, h4, X4, e4, W4, st4⟩ := stB X2 hx hZ e2 Ar4 (j := (1 : Int32)) hin4 (g := (mkF m 31 #[rv a1, iv 1, rv a3, iv 1, iv 3, iv 1, iv c1] [.int (c1.toInt8.toInt32), .int 1, .ref a3])) rfl rfl (hb hby d9_31)
  rw [own_narB] at W4
  have V4 : Arv Z h4 a3 kb .byte (3 : Int32) [(.int (c0.toInt8.toInt32)), (.int (c1.toInt8.toInt32)), (.int 0)] (.int 0) := Arv.set Ar4 q4 S4 M4 H4 G4 (fits_nar_byte _) W4 1 rfl (Nat.le_of_ble_eq_true rfl)
  have Nf4 := Fr.snoc X4 Nf2 g_a3
  have K4 : Keep h0 h4 [a3] := K2.wr W4 (Or.inl (List.mem_of_getElem? (i := 0) rfl))
  have Z4 : n0 ≤ h4.size := Nat.le_trans Z2 (Keep.of_wr W4).1
  refine own_fw (A' := (T4.setTop (mkF m 12 #[rv a1, iv 2, rv a3, iv 2, iv 3, iv 2, iv c1] [.int 2, .ref a1]))) (fun t k => st4 _ (XS.iinc X4.here hx rfl (hb hby d9_32) rfl (l' := #[.val (.ref a1), .val (.int 2), .val (.ref a3), .val (.int 1), .val (.int 3), .val (.int 1), .val (.int c1)]) rfl (XS.iinc X4.here hx rfl (hb hby d9_35) rfl (l' := #[.val (.ref a1), .val (.int 2), .val (.ref a3), .val (.int 2), .val (.int 3), .val (.int 1), .val (.int c1)]) rfl (XS.iinc X4.here hx rfl (hb hby d9_38) rfl (l' := #[.val (.ref a1), .val (.int 2), .val (.ref a3), .val (.int 2), .val (.int 3), .val (.int 2), .val (.int c1)]) rfl (XS.goto X4.here hx rfl (pc0 := 41) (pc' := 3) rfl (hb hby d9_41) (by decide) (by decide) (XS.iload X4.here hx rfl (hb hby d9_3) rfl (XS.iload X4.here hx rfl (hb hby d9_5) rfl (XS.icmpNo X4.here hx rfl (hb hby d9_7) rfl (XT.ii_ge_f (by decide)) (XS.aloadN X4.here hx rfl (hb hby d9_10) rfl rfl (XS.iloadN X4.here hx rfl (hb hby d9_11) rfl k)))))))))) ?_
  obtain ⟨cl5, Ar5, q5, S5, M5, H5, G5⟩ := id ((P0.other W2 ne_a1_a3).other W4 ne_a1_a3)
  have hin5 : ¬ ((2 : Int32) < 0 ∨ cl5.slots.size ≤ ((2 : Int32)).toNatClampNeg) := inb_of S5 ⟨by decide, by decide⟩
  have hat5 : cl5.slots[((2 : Int32)).toNatClampNeg]? = some (.int c2) := H5.at hin5 rfl
  refine own_fw (A' := (T4.setTop (mkF m 25 #[rv a1, iv 2, rv a3, iv 2, iv 3, iv 2, iv c2] [.int 2]))) (fun t k => X4.caload hx (j := (2 : Int32)) (v := (.int c2)) (by rw [e4]; exact Ar5.1) (State.isArrayOf_alike hZ.alike Ar5.2.1) Ar5.2.2 hin5 hat5 (g := (mkF m 12 #[rv a1, iv 2, rv a3, iv 2, iv 3, iv 2, iv c1] [.int 2, .ref a1])) rfl rfl (hb hby d9_12) _ (XS.istore X4.here hx rfl (hb hby d9_13) rfl (l' := #[.val (.ref a1), .val (.int 2), .val (.ref a3), .val (.int 2), .val (.int 3), .val (.int 2), .val (.int c2)]) rfl (XS.iload X4.here hx rfl (hb hby d9_15) rfl (XS.sipush X4.here hx rfl (hb hby d9_17) (XS.icmpNo X4.here hx rfl (hb hby d9_20) rfl (XT.ii_le_f hc2) (XS.iload X4.here hx rfl (hb hby d9_23) rfl k)))))) ?_
  obtain ⟨fs, hr, hrun, hended, hW, hsame⟩ := X4.leave (v := some (.int 2)) (fun h => by rw [Bd.returns] at h; cases h)
  refine ⟨_, _, ?_, hrun, hended, _, _, rfl, ?_, ⟨_, rfl⟩, hW, hsame.mono (by decide) (by decide)⟩
  · exact retOut X4 hx Bd.returns rfl (Or.inl ⟨rfl, by simp, _, rfl⟩) (hb hby d9_25) hr
  · show Q_rmCmpA3_2 Z a1 a3 kc kb c0 c1 c2 h0 n0 _ T4.heap _
    rw [e4]
    exact ⟨rfl, Nf4, K4⟩
theorem ef_rmCmpB3_2 (m : MethodId) (a1 : Addr) : entryFrame m #[(.ref a1), (.int 0), (.int 3)] 6 = mkF m 0 #[.val (.ref a1), .val (.int 0), .val (.int 3), .unset, .unset, .unset] [] := by first | (simp [entryFrame, mkF, argsToLocals, Value.category]; done) | rfl
def Q_rmCmpB3_2 (Z : State) (a1 : Addr) (kc : ClassId) (c0 c1 c2 : Int32) (h0 : Heap) (n0 : Nat) (v : Option Value) (h : Heap) (L : List Loc) : Prop := ∃ b : Addr, ∃ kb : ClassId, v = some (.ref b) ∧ Fr n0 L ∧ Keep h0 h [] ∧ Arv Z h b kb .byte (6 : Int32) [(.int ((c0 >>> ((0 : Int32) &&& 31)).toInt8.toInt32)), (.int ((c0 >>> ((8 : Int32) &&& 31)).toInt8.toInt32)), (.int ((c1 >>> ((0 : Int32) &&& 31)).toInt8.toInt32)), (.int ((c1 >>> ((8 : Int32) &&& 31)).toInt8.toInt32)), (.int ((c2 >>> ((0 : Int32) &&& 31)).toInt8.toInt32)), (.int ((c2 >>> ((8 : Int32) &&& 31)).toInt8.toInt32))] (.int 0) ∧ (h0.size ≤ b)
theorem rmCmpB3_2 (l : Launch) (Z : State) (a0 : Array Value) (hw : ∀ d ∈ tables_1, d.before a0 Z = true) (ws : List Jvm.Cond) (a1 : Addr) (kc : ClassId) (c0 c1 c2 : Int32) (h0 : Heap) (n0 : Nat) (Z0 : n0 ≤ h0.size) (P0 : Arv Z h0 a1 kc .char (3 : Int32) [(.int c0), (.int c1), (.int c2)] (.int 0)) (P1 : Sta Z h0 "java/lang/StringUTF16" "$assertionsDisabled" "Z" (.int 1)) (P2 : Sta Z h0 "java/lang/StringUTF16" "HI_BYTE_SHIFT" "I" (.int 0)) (P3 : Sta Z h0 "java/lang/StringUTF16" "LO_BYTE_SHIFT" "I" (.int 8)) (hc0 : ¬ ((255 : Int32) < c0)) (hc1 : ¬ ((255 : Int32) < c1)) (hc2 : (255 : Int32) < c2) (hr2 : own_c16 c2) :
    MetFree l yq3 (head1 (Jvm.Cond.code yq3 jdk_52_method_16_code 6 (some (.array .byte)) :: ws) rq34) (fun a U => a = #[(.ref a1), (.int 0), (.int 3)] ∧ Z.Warmed39 U.vm ∧ U.heap = h0) (fun _ _ _ _ _ => True) (fun _ U o U' => ∃ v L, o = .returned v ∧ Q_rmCmpB3_2 Z a1 kc c0 c1 c2 h0 n0 v U'.heap L ∧ FrameEnd U o U' L rq34.cells rq34.slots) := by
  refine MetFree.of_bodySF (plainFor_of_name pn_java_lang_StringUTF16) hisR ?_
  intro p e s m args below meth c s₁ Bd hml0 hP hK
  obtain ⟨rfl, hZ, hh⟩ := hP
  have hx := Bd.exec
  have hby := Bd.bytes
  have hml : c.maxLocals = 6 := hml0
  have hown : s.vm.findClass "java/lang/StringUTF16" = some m.cls := findClass_of_methodNamed Bd.named
  have hnm := (name_of_methodNamed Bd.named Bd.method).1
  have X0 : Stand p l e rq34 s m #[(.ref a1), (.int 0), (.int 3)] below meth c s₁ [] 0 0 := Stand.of_body Bd
  have e0 : s₁.heap = h0 := by rw [← hh, Bd.state]; rfl
  have N0 := Fr.nil n0
  refine own_fw (A' := (s₁.setTop (mkF m 1 #[rv a1, iv 0, iv 3, .unset, .unset, .unset] [.int 3]))) (fun t k => castTop (ef_rmCmpB3_2 m a1) (XS.iloadN X0.here hx rfl (hb hby d8_0) rfl k)) ?_
  obtain ⟨T1, h1, k1, X1, e1, E1, A1, st1⟩ := newP X0 hx hZ (own_w hw 42 rfl) e0 (g := (mkF m 1 #[rv a1, iv 0, iv 3, .unset, .unset, .unset] [.int 3])) rfl (hb hby d8_1) rfl (by decide) (cap := 3) (by decide) (by decide) (by decide) (by decide)
  obtain ⟨b1, gb1⟩ : ∃ z, z = h0.size := ⟨_, rfl⟩
  have g_b1 : n0 ≤ b1 := Nat.le_trans Z0 (Nat.le_of_eq gb1.symm)
  have sz_b1 : h0.size ≤ b1 := Nat.le_trans (Keep.refl h0 []).1 (Nat.le_of_eq gb1.symm)
  have ne_a1_b1 : a1 ≠ b1 := Nat.ne_of_lt (Nat.lt_of_lt_of_le P0.lt (Nat.le_of_eq gb1.symm))
  rw [← gb1] at A1 st1
  have V_b1 : Arv Z h1 b1 k1 .byte (3 : Int32) [(.int 0), (.int 0), (.int 0)] (.int 0) := (Arv.new A1 (by decide)).pad (pad_rep [] (.int 0) 3)
  have K1 : Keep h0 h1 [] := (Keep.refl h0 []).ext E1
  have Z1 : n0 ≤ h1.size := Nat.le_trans Z0 E1.1
  refine own_fw (A' := (T1.setTop (mkF m 9 #[rv a1, iv 0, iv 3, rv b1, .unset, .unset] [.int 3, .int 0, .ref b1, .int 0, .ref a1]))) (fun t k => st1 _ (XS.astoreN X1.here hx rfl (hb hby d8_3) rfl rfl (l' := #[.val (.ref a1), .val (.int 0), .val (.int 3), .val (.ref b1), .unset, .unset]) rfl (XS.aloadN X1.here hx rfl (hb hby d8_4) rfl rfl (XS.iloadN X1.here hx rfl (hb hby d8_5) rfl (XS.aloadN X1.here hx rfl (hb hby d8_6) rfl rfl (XS.iconst X1.here hx rfl (hb hby d8_7) (XS.iloadN X1.here hx rfl (hb hby d8_8) rfl k))))))) ?_
  obtain ⟨_, _, ⟨T2, L2, k2, n2⟩, -, X2, ⟨Lc2, hQ2, l2, y2, z2⟩, st2⟩ := Jvm.LawKit.callS X1 hx (y := yq1) hown (mvT hZ (own_w hw 43 rfl)) (mvT hZ (own_w hw 44 rfl)) (mvT hZ (own_w hw 40 rfl)) (mvT hZ (own_w hw 45 rfl)) (by decide) (backOf (W := 0) (rmCmpA3_2 l Z a0 hw [] a1 b1 kc k1 c0 c1 c2 h1 n0 Z1 (P0.ext E1) V_b1 g_b1 ne_a1_b1 hc0 hc1 hc2) hZ (own_w hw 45 rfl) (own_w hw 40 rfl) (by decide) (by decide)) (g := (mkF m 9 #[rv a1, iv 0, iv 3, rv b1, .unset, .unset] [.int 3, .int 0, .ref b1, .int 0, .ref a1])) rfl (by rw [hml]; rfl) (argsL := [(.ref a1), (.int 0), (.ref b1), (.int 0), (.int 3)]) (rest := []) (lenOf pd___CI_BII_I rfl) rfl (by show 2 * 0 + _ ≤ _; exact Nat.le_of_eq rfl) (hb hby d8_9) (fun _ _ => ⟨rfl, e1, (by decide : 1 + 0 ≤ _), (by decide : 3 + 0 ≤ _)⟩)
  dsimp only [Pt.U, Pt.locs, Pt.cells, Pt.slots] at X2 l2 y2 z2 st2 hQ2
  subst l2 y2 z2
  obtain ⟨rfl, Nq2, Kq2⟩ := hQ2
  have Nf2 := Fr.app N0 Nq2
  have K2 : Keep h0 T2.heap [] := K1.trans Kq2 (allS (Or.inr sz_b1) all0)
  have Z2 : n0 ≤ T2.heap.size := Nat.le_trans Z1 Kq2.1
  refine own_fw (A' := (T2.setTop (mkF m 23 #[rv a1, iv 0, iv 3, rv b1, iv 2, .unset] [.int 3, .int 0, .ref a1]))) (fun t k => st2 _ (XS.istore X2.here hx rfl (hb hby d8_12) rfl (l' := #[.val (.ref a1), .val (.int 0), .val (.int 3), .val (.ref b1), .val (.int 2), .unset]) rfl (XS.iload X2.here hx rfl (hb hby d8_14) rfl (XS.iloadN X2.here hx rfl (hb hby d8_16) rfl (XS.icmpNo X2.here hx rfl (hb hby d8_17) rfl (XT.ii_eq_f (by decide)) (XS.aloadN X2.here hx rfl (hb hby d8_20) rfl rfl (XS.iloadN X2.here hx rfl (hb hby d8_21) rfl (XS.iloadN X2.here hx rfl (hb hby d8_22) rfl k)))))))) ?_
  obtain ⟨_, _, ⟨T3, L3, k3, n3⟩, -, X3, ⟨Lc3, hQ3, l3, y3, z3⟩, st3⟩ := Jvm.LawKit.callS X2 hx (y := yq22) hown (mvT hZ (own_w hw 98 rfl)) (mvT hZ (own_w hw 99 rfl)) (mvT hZ (own_w hw 40 rfl)) (mvT hZ (own_w hw 100 rfl)) (by decide) (backOf (W := 0) (rmToB3 l Z a0 hw [] a1 kc c0 c1 c2 T2.heap n0 Z2 ((P0.ext E1).keep Kq2 (ninS ne_a1_b1 nin0)) (own_staKeep (P1.ext E1) Kq2 (allS (own_plainV V_b1) all0)) (own_staKeep (P2.ext E1) Kq2 (allS (own_plainV V_b1) all0)) (own_staKeep (P3.ext E1) Kq2 (allS (own_plainV V_b1) all0))) hZ (own_w hw 100 rfl) (own_w hw 40 rfl) (by decide) (by decide)) (g := (mkF m 23 #[rv a1, iv 0, iv 3, rv b1, iv 2, .unset] [.int 3, .int 0, .ref a1])) rfl (by rw [hml]; rfl) (argsL := [(.ref a1), (.int 0), (.int 3)]) (rest := []) (lenOf pd___CII__B rfl) rfl (by show 2 * 0 + _ ≤ _; exact Nat.le_of_eq rfl) (hb hby d8_23) (fun _ _ => ⟨rfl, rfl, (by decide : 1 + 1 ≤ _), (by decide : 3 + 6 ≤ _)⟩)
  dsimp only [Pt.U, Pt.locs, Pt.cells, Pt.slots] at X3 l3 y3 z3 st3 hQ3
  subst l3 y3 z3
  obtain ⟨b_3, kb_3, rfl, Nq3, Kq3, Fq3_0, gb_3⟩ := hQ3
  have Nf3 := Fr.app Nf2 Nq3
  have K3 : Keep h0 T3.heap [] := K2.trans Kq3 all0
  have sz_b_3 : h0.size ≤ b_3 := Nat.le_trans K2.1 gb_3
  have g_b_3 : n0 ≤ b_3 := Nat.le_trans Z2 gb_3
  have ne_a1_b_3 : a1 ≠ b_3 := Nat.ne_of_lt (Nat.lt_of_lt_of_le ((P0.ext E1).keep Kq2 (ninS ne_a1_b1 nin0)).lt gb_3)
  have Z3 : n0 ≤ T3.heap.size := Nat.le_trans Z2 Kq3.1
  refine own_fw (A' := (T3.setTop (mkF m 32 #[rv a1, iv 0, iv 3, rv b1, iv 2, rv b_3] [.int 2, .ref b_3]))) (fun t k => st3 _ (XS.astore X3.here hx rfl (hb hby d8_26) rfl rfl (l' := #[.val (.ref a1), .val (.int 0), .val (.int 3), .val (.ref b1), .val (.int 2), .val (.ref b_3)]) rfl (XS.aload X3.here hx rfl (hb hby d8_28) rfl rfl (XS.iload X3.here hx rfl (hb hby d8_30) rfl k)))) ?_
  obtain ⟨_, _, ⟨T4, L4, k4, n4⟩, -, X4, ⟨Lc4, hQ4, l4, y4, z4⟩, st4⟩ := Jvm.LawKit.callS X3 hx (y := yq23) hown (mvT hZ (own_w hw 114 rfl)) (mvT hZ (own_w hw 115 rfl)) (mvT hZ (own_w hw 40 rfl)) (mvT hZ (own_w hw 116 rfl)) (by decide) (backOf (W := 0) (rmGet32 l Z a0 hw [] b_3 kb_3 ((c0 >>> ((0 : Int32) &&& 31)).toInt8.toInt32) ((c0 >>> ((8 : Int32) &&& 31)).toInt8.toInt32) ((c1 >>> ((0 : Int32) &&& 31)).toInt8.toInt32) ((c1 >>> ((8 : Int32) &&& 31)).toInt8.toInt32) ((c2 >>> ((0 : Int32) &&& 31)).toInt8.toInt32) ((c2 >>> ((8 : Int32) &&& 31)).toInt8.toInt32) T3.heap n0 Z3 Fq3_0 (own_staKeep (own_staKeep (P1.ext E1) Kq2 (allS (own_plainV V_b1) all0)) Kq3 all0) (own_staKeep (own_staKeep (P2.ext E1) Kq2 (allS (own_plainV V_b1) all0)) Kq3 all0) (own_staKeep (own_staKeep (P3.ext E1) Kq2 (allS (own_plainV V_b1) all0)) Kq3 all0)) hZ (own_w hw 116 rfl) (own_w hw 40 rfl) (by decide) (by decide)) (g := (mkF m 32 #[rv a1, iv 0, iv 3, rv b1, iv 2, rv b_3] [.int 2, .ref b_3])) rfl (by rw [hml]; rfl) (argsL := [(.ref b_3), (.int 2)]) (rest := []) (lenOf pd___BI_C rfl) rfl (by show 2 * 0 + _ ≤ _; exact Nat.le_of_eq rfl) (hb hby d8_32) (fun _ _ => ⟨rfl, rfl, (by decide : 2 + 0 ≤ _), (by decide : 9 + 0 ≤ _)⟩)
  dsimp only [Pt.U, Pt.locs, Pt.cells, Pt.slots] at X4 l4 y4 z4 st4 hQ4
  subst l4 y4 z4
  obtain ⟨rfl, Nq4, e4⟩ := hQ4
  have Nf4 := Fr.app Nf3 Nq4
  refine own_fw (A' := (T4.setTop (mkF m 56 #[rv a1, iv 0, iv 3, rv b1, iv 2, rv b_3] [.ref b_3]))) (fun t k => st4 _ (XS.sipush X4.here hx rfl (hb hby d8_35) (XS.icmpYes X4.here hx rfl (pc0 := 38) (pc' := 54) rfl (hb hby d8_38) rfl (XT.ii_gt_t (by rw [own_gcc hr2]; exact hc2)) (by decide) (by decide) (XS.aload X4.here hx rfl (hb hby d8_54) rfl rfl k)))) ?_
  obtain ⟨fs, hr, hrun, hended, hW, hsame⟩ := X4.leave (v := some (.ref b_3)) (fun h => by rw [Bd.returns] at h; cases h)
  refine ⟨_, _, ?_, hrun, hended, _, _, rfl, ?_, ⟨_, rfl⟩, hW, hsame.mono (by decide) (by decide)⟩
  · exact retOut X4 hx Bd.returns rfl (Or.inr (Or.inr (Or.inr (Or.inr ⟨rfl, rfl, rfl⟩)))) (hb hby d8_56) hr
  · show Q_rmCmpB3_2 Z a1 kc c0 c1 c2 h0 n0 _ T4.heap _
    rw [e4]
    exact ⟨b_3, kb_3, rfl, Nf4, K3, Fq3_0, sz_b_3⟩
theorem ef_rmStrB3_2 (m : MethodId) (a1 a2 : Addr) : entryFrame m #[(.ref a1), (.ref a2), (.int 0), (.int 3), .null] 6 = mkF m 0 #[.val (.ref a1), .val (.ref a2), .val (.int 0), .val (.int 3), .val .null, .unset] [] := by first | (simp [entryFrame, mkF, argsToLocals, Value.category]; done) | rfl
def Q_rmStrB3_2 (Z : State) (a1 a2 : Addr) (kc : ClassId) (cs c0 c1 c2 : Int32) (h0 : Heap) (n0 : Nat) (v : Option Value) (h : Heap) (L : List Loc) : Prop := ∃ b : Addr, ∃ kb : ClassId, v = none ∧ Fr n0 L ∧ Keep h0 h [a1] ∧ Exa Z h a1 "java/lang/String" ∧ Fld Z h a1 "java/lang/String" "coder" "B" (.int 1) ∧ Fld Z h a1 "java/lang/String" "value" "[B" (.ref b) ∧ Arv Z h b kb .byte (6 : Int32) [(.int ((c0 >>> ((0 : Int32) &&& 31)).toInt8.toInt32)), (.int ((c0 >>> ((8 : Int32) &&& 31)).toInt8.toInt32)), (.int ((c1 >>> ((0 : Int32) &&& 31)).toInt8.toInt32)), (.int ((c1 >>> ((8 : Int32) &&& 31)).toInt8.toInt32)), (.int ((c2 >>> ((0 : Int32) &&& 31)).toInt8.toInt32)), (.int ((c2 >>> ((8 : Int32) &&& 31)).toInt8.toInt32))] (.int 0)
theorem rmStrB3_2 (l : Launch) (Z : State) (a0 : Array Value) (hw : ∀ d ∈ tables_1, d.before a0 Z = true) (ws : List Jvm.Cond) (a1 a2 : Addr) (kc : ClassId) (cs c0 c1 c2 : Int32) (h0 : Heap) (n0 : Nat) (Z0 : n0 ≤ h0.size) (P0 : Exa Z h0 a1 "java/lang/String") (P1 : Fld Z h0 a1 "java/lang/String" "coder" "B" (.int 0)) (P2 : Fld Z h0 a1 "java/lang/String" "value" "[B" .null) (P3 : Arv Z h0 a2 kc .char (3 : Int32) [(.int c0), (.int c1), (.int c2)] (.int 0)) (g_a1 : n0 ≤ a1) (ne_a1_a2 : a1 ≠ a2) (P6 : Sta Z h0 "java/lang/String" "COMPACT_STRINGS" "Z" (.int cs)) (hcs : ¬ (cs = (0 : Int32))) (P8 : Sta Z h0 "java/lang/StringUTF16" "$assertionsDisabled" "Z" (.int 1)) (P9 : Sta Z h0 "java/lang/StringUTF16" "HI_BYTE_SHIFT" "I" (.int 0)) (P10 : Sta Z h0 "java/lang/StringUTF16" "LO_BYTE_SHIFT" "I" (.int 8)) (hc0 : ¬ ((255 : Int32) < c0)) (hc1 : ¬ ((255 : Int32) < c1)) (hc2 : (255 : Int32) < c2) (hr2 : own_c16 c2) :
    MetFree l yq6 (head1 (Jvm.Cond.code yq6 jdk_42_method_149_code 6 none :: ws) rq35) (fun a U => a = #[(.ref a1), (.ref a2), (.int 0), (.int 3), .null] ∧ Z.Warmed39 U.vm ∧ U.heap = h0) (fun _ _ _ _ _ => True) (fun _ U o U' => ∃ v L, o = .returned v ∧ Q_rmStrB3_2 Z a1 a2 kc cs c0 c1 c2 h0 n0 v U'.heap L ∧ FrameEnd U o U' L rq35.cells rq35.slots) := by
  refine MetFree.of_bodySF (plainFor_of_name pn_java_lang_String) hisR ?_
  intro p e s m args below meth c s₁ Bd hml0 hP hK
  obtain ⟨rfl, hZ, hh⟩ := hP
  have hx := Bd.exec
  have hby := Bd.bytes
  have hml : c.maxLocals = 6 := hml0
  have hown : s.vm.findClass "java/lang/String" = some m.cls := findClass_of_methodNamed Bd.named
  have hnm := (name_of_methodNamed Bd.named Bd.method).1
  have X0 : Stand p l e rq35 s m #[(.ref a1), (.ref a2), (.int 0), (.int 3), .null] below meth c s₁ [] 0 0 := Stand.of_body Bd
  have e0 : s₁.heap = h0 := by rw [← hh, Bd.state]; rfl
  have N0 := Fr.nil n0
  refine own_fw (A' := (s₁.setTop (mkF m 1 #[rv a1, rv a2, iv 0, iv 3, .val (.null), .unset] [.ref a1]))) (fun t k => castTop (ef_rmStrB3_2 m a1 a2) (XS.aloadN X0.here hx rfl (hb hby d7_0) rfl rfl k)) ?_
  obtain ⟨T1, X1, e1, st1⟩ := initO X0 hx hZ hown (own_w hw 36 rfl) (own_w hw 7 rfl) (own_w hw 8 rfl) e0 (g := (mkF m 1 #[rv a1, rv a2, iv 0, iv 3, .val (.null), .unset] [.ref a1])) rfl (by rw [hml]; rfl) rfl (hb hby d7_1) (by decide) (W := 0) (by show 2 * 0 + _ ≤ _; exact Nat.le_of_eq rfl) (by decide)
  refine own_fw (A' := (T1.setTop (mkF m 27 #[rv a1, rv a2, iv 0, iv 3, .val (.null), .unset] []))) (fun t k => st1 _ (XS.iloadN X1.here hx rfl (hb hby d7_4) rfl (XS.ifYes X1.here hx rfl (pc0 := 5) (pc' := 27) rfl (hb hby d7_5) rfl (XT.i0_ne_t (by decide)) (by decide) (by decide) k))) ?_
  obtain ⟨T2, X2, e2, st2⟩ := getS2 X1 hx hZ hown (host := "") (Or.inl (own_w hw 37 rfl)) Via.refl e1 P6 (g := (mkF m 27 #[rv a1, rv a2, iv 0, iv 3, .val (.null), .unset] [])) rfl (hb hby d7_27)
  refine own_fw (A' := (T2.setTop (mkF m 36 #[rv a1, rv a2, iv 0, iv 3, .val (.null), .unset] [.int 3, .int 0, .ref a2]))) (fun t k => st2 _ (XS.ifNo X2.here hx rfl (hb hby d7_30) rfl (XT.i0_eq_f hcs) (XS.aloadN X2.here hx rfl (hb hby d7_33) rfl rfl (XS.iloadN X2.here hx rfl (hb hby d7_34) rfl (XS.iloadN X2.here hx rfl (hb hby d7_35) rfl k))))) ?_
  obtain ⟨_, _, ⟨T3, L3, k3, n3⟩, -, X3, ⟨Lc3, hQ3, l3, y3, z3⟩, st3⟩ := Jvm.LawKit.callS X2 hx (y := yq3) hown (mvT hZ (own_w hw 38 rfl)) (mvT hZ (own_w hw 39 rfl)) (mvT hZ (own_w hw 40 rfl)) (mvT hZ (own_w hw 41 rfl)) (by decide) (backOf (W := 0) (rmCmpB3_2 l Z a0 hw [] a2 kc c0 c1 c2 h0 n0 Z0 P3 P8 P9 P10 hc0 hc1 hc2 hr2) hZ (own_w hw 41 rfl) (own_w hw 40 rfl) (by decide) (by decide)) (g := (mkF m 36 #[rv a1, rv a2, iv 0, iv 3, .val (.null), .unset] [.int 3, .int 0, .ref a2])) rfl (by rw [hml]; rfl) (argsL := [(.ref a2), (.int 0), (.int 3)]) (rest := []) (lenOf pd___CII__B rfl) rfl (by show 2 * 0 + _ ≤ _; exact Nat.le_of_eq rfl) (hb hby d7_36) (fun _ _ => ⟨rfl, e2, (by decide : 0 + 2 ≤ _), (by decide : 0 + 9 ≤ _)⟩)
  dsimp only [Pt.U, Pt.locs, Pt.cells, Pt.slots] at X3 l3 y3 z3 st3 hQ3
  subst l3 y3 z3
  obtain ⟨b_3, kb_3, rfl, Nq3, Kq3, Fq3_0, gb_3⟩ := hQ3
  have Nf3 := Fr.app N0 Nq3
  have K3 : Keep h0 T3.heap [a1] := (Keep.refl h0 [a1]).trans Kq3 all0
  have sz_b_3 : h0.size ≤ b_3 := Nat.le_trans (Keep.refl h0 [a1]).1 gb_3
  have g_b_3 : n0 ≤ b_3 := Nat.le_trans Z0 gb_3
  have ne_a1_b_3 : a1 ≠ b_3 := Nat.ne_of_lt (Nat.lt_of_lt_of_le P0.lt gb_3)
  have ne_a2_b_3 : a2 ≠ b_3 := Nat.ne_of_lt (Nat.lt_of_lt_of_le P3.lt gb_3)
  have Z3 : n0 ≤ T3.heap.size := Nat.le_trans Z0 Kq3.1
  refine own_fw (A' := (T3.setTop (mkF m 45 #[rv a1, rv a2, iv 0, iv 3, .val (.null), rv b_3] [.int 3, .ref b_3, .ref a1]))) (fun t k => st3 _ (XS.astore X3.here hx rfl (hb hby d7_39) rfl rfl (l' := #[.val (.ref a1), .val (.ref a2), .val (.int 0), .val (.int 3), .val .null, .val (.ref b_3)]) rfl (XS.aloadN X3.here hx rfl (hb hby d7_41) rfl rfl (XS.aload X3.here hx rfl (hb hby d7_42) rfl rfl (XS.iloadN X3.here hx rfl (hb hby d7_44) rfl k))))) ?_
  obtain ⟨_, _, ⟨T4, L4, k4, n4⟩, -, X4, ⟨Lc4, hQ4, l4, y4, z4⟩, st4⟩ := Jvm.LawKit.callS X3 hx (y := yq4) hown (mvT hZ (own_w hw 46 rfl)) (mvT hZ (own_w hw 47 rfl)) (mvT hZ (own_w hw 40 rfl)) (mvT hZ (own_w hw 48 rfl)) (by decide) (backOf (W := 1) (rmCoderU3 l Z a0 hw [] b_3 kb_3 ((c0 >>> ((0 : Int32) &&& 31)).toInt8.toInt32) ((c0 >>> ((8 : Int32) &&& 31)).toInt8.toInt32) ((c1 >>> ((0 : Int32) &&& 31)).toInt8.toInt32) ((c1 >>> ((8 : Int32) &&& 31)).toInt8.toInt32) ((c2 >>> ((0 : Int32) &&& 31)).toInt8.toInt32) ((c2 >>> ((8 : Int32) &&& 31)).toInt8.toInt32) T3.heap n0 Z3 Fq3_0) hZ (own_w hw 48 rfl) (own_w hw 40 rfl) (by decide) (by decide)) (g := (mkF m 45 #[rv a1, rv a2, iv 0, iv 3, .val (.null), rv b_3] [.int 3, .ref b_3, .ref a1])) rfl (by rw [hml]; rfl) (argsL := [(.ref b_3), (.int 3)]) (rest := [(.ref a1)]) (lenOf pd___BI_B rfl) rfl (by show 2 * 0 + _ ≤ _; exact Nat.le_of_eq rfl) (hb hby d7_45) (fun _ _ => ⟨rfl, rfl, (by decide : 2 + 0 ≤ _), (by decide : 9 + 0 ≤ _)⟩)
  dsimp only [Pt.U, Pt.locs, Pt.cells, Pt.slots] at X4 l4 y4 z4 st4 hQ4
  subst l4 y4 z4
  obtain ⟨rfl, Nq4, e4⟩ := hQ4
  have Nf4 := Fr.app Nf3 Nq4
  refine own_fw (A' := (T4.setTop (mkF m 48 #[rv a1, rv a2, iv 0, iv 3, .val (.null), rv b_3] [.int 1, .ref a1]))) (fun t k => st4 _ k) ?_
  obtain ⟨T5, h5, X5, e5, W5, st5⟩ := putFN X4 hx hZ hown (own_w hw 49 rfl) Via.refl e4 (P1.keep Kq3 nin0) (P0.keep Kq3) (Or.inr ⟨(own_w hw 50 rfl), rfl, hnm⟩) (own_w hw 26 rfl) (ty := .byte) (v' := (.int 1)) (by decide) rfl rfl (g := (mkF m 48 #[rv a1, rv a2, iv 0, iv 3, .val (.null), rv b_3] [.int 1, .ref a1])) rfl rfl (hb hby d7_48)
  have Fw5 : Fld Z h5 a1 "java/lang/String" "coder" "B" (.int 1) := (P1.keep Kq3 nin0).same W5
  have Nf5 := Fr.snoc X5 Nf4 g_a1
  have K5 : Keep h0 h5 [a1] := K3.wr W5 (Or.inl (List.mem_of_getElem? (i := 0) rfl))
  have Z5 : n0 ≤ h5.size := Nat.le_trans Z3 (Keep.of_wr W5).1
  refine own_fw (A' := (T5.setTop (mkF m 54 #[rv a1, rv a2, iv 0, iv 3, .val (.null), rv b_3] [.ref b_3, .ref a1]))) (fun t k => st5 _ (XS.aloadN X5.here hx rfl (hb hby d7_51) rfl rfl (XS.aload X5.here hx rfl (hb hby d7_52) rfl rfl k))) ?_
  obtain ⟨T6, h6, X6, e6, W6, st6⟩ := putF X5 hx hZ hown (host := "") (Or.inl (own_w hw 51 rfl)) Via.refl e5 ((P2.keep Kq3 nin0).other W5 (Or.inr (slot_ne (Or.inr (own_w hw 52 rfl)) (Or.inr (own_w hw 50 rfl)) (by decide) (t := (.array .byte)) (t' := .byte) (by decide) (by decide)))) ((P0.keep Kq3).wr W5) (Or.inr ⟨(own_w hw 52 rfl), rfl, hnm⟩) (own_w hw 26 rfl) (ty := (.array .byte)) (by decide) rfl rfl (g := (mkF m 54 #[rv a1, rv a2, iv 0, iv 3, .val (.null), rv b_3] [.ref b_3, .ref a1])) rfl rfl (hb hby d7_54)
  have Fw6 : Fld Z h6 a1 "java/lang/String" "value" "[B" (.ref b_3) := ((P2.keep Kq3 nin0).other W5 (Or.inr (slot_ne (Or.inr (own_w hw 52 rfl)) (Or.inr (own_w hw 50 rfl)) (by decide) (t := (.array .byte)) (t' := .byte) (by decide) (by decide)))).same W6
  have Nf6 := Fr.snoc X6 Nf5 g_a1
  have K6 : Keep h0 h6 [a1] := K5.wr W6 (Or.inl (List.mem_of_getElem? (i := 0) rfl))
  have Z6 : n0 ≤ h6.size := Nat.le_trans Z5 (Keep.of_wr W6).1
  refine own_fw (A' := (T6.setTop (mkF m 57 #[rv a1, rv a2, iv 0, iv 3, .val (.null), rv b_3] []))) (fun t k => st6 _ k) ?_
  obtain ⟨fs, hr, hrun, hended, hW, hsame⟩ := X6.leave (v := none) (fun _ => rfl)
  refine ⟨_, _, ?_, hrun, hended, _, _, rfl, ?_, ⟨_, rfl⟩, hW, hsame.mono (by decide) (by decide)⟩
  · exact X6.returnOut hx Bd.returns (hb hby d7_57) hr
  · show Q_rmStrB3_2 Z a1 a2 kc cs c0 c1 c2 h0 n0 _ T6.heap _
    rw [e6]
    exact ⟨b_3, kb_3, rfl, Nf6, K6, (((P0.keep Kq3).wr W5).wr W6), (Fw5.other W6 (Or.inr (slot_ne (Or.inr (own_w hw 50 rfl)) (Or.inr (own_w hw 52 rfl)) (by decide) (t := .byte) (t' := (.array .byte)) (by decide) (by decide)))), Fw6, ((Fq3_0.other W5 (Ne.symm ne_a1_b_3)).other W6 (Ne.symm ne_a1_b_3))⟩
theorem ef_rmStrA3_2 (m : MethodId) (a1 a2 : Addr) : entryFrame m #[(.ref a1), (.ref a2)] 2 = mkF m 0 #[.val (.ref a1), .val (.ref a2)] [] := by first | (simp [entryFrame, mkF, argsToLocals, Value.category]; done) | rfl
def Q_rmStrA3_2 (Z : State) (a1 a2 : Addr) (kc : ClassId) (cs c0 c1 c2 : Int32) (h0 : Heap) (n0 : Nat) (v : Option Value) (h : Heap) (L : List Loc) : Prop := ∃ b : Addr, ∃ kb : ClassId, v = none ∧ Fr n0 L ∧ Keep h0 h [a1] ∧ Exa Z h a1 "java/lang/String" ∧ Fld Z h a1 "java/lang/String" "coder" "B" (.int 1) ∧ Fld Z h a1 "java/lang/String" "value" "[B" (.ref b) ∧ Arv Z h b kb .byte (6 : Int32) [(.int ((c0 >>> ((0 : Int32) &&& 31)).toInt8.toInt32)), (.int ((c0 >>> ((8 : Int32) &&& 31)).toInt8.toInt32)), (.int ((c1 >>> ((0 : Int32) &&& 31)).toInt8.toInt32)), (.int ((c1 >>> ((8 : Int32) &&& 31)).toInt8.toInt32)), (.int ((c2 >>> ((0 : Int32) &&& 31)).toInt8.toInt32)), (.int ((c2 >>> ((8 : Int32) &&& 31)).toInt8.toInt32))] (.int 0)
theorem rmStrA3_2 (l : Launch) (Z : State) (a0 : Array Value) (hw : ∀ d ∈ tables_1, d.before a0 Z = true) (ws : List Jvm.Cond) (a1 a2 : Addr) (kc : ClassId) (cs c0 c1 c2 : Int32) (h0 : Heap) (n0 : Nat) (Z0 : n0 ≤ h0.size) (P0 : Exa Z h0 a1 "java/lang/String") (P1 : Fld Z h0 a1 "java/lang/String" "coder" "B" (.int 0)) (P2 : Fld Z h0 a1 "java/lang/String" "value" "[B" .null) (P3 : Arv Z h0 a2 kc .char (3 : Int32) [(.int c0), (.int c1), (.int c2)] (.int 0)) (g_a1 : n0 ≤ a1) (ne_a1_a2 : a1 ≠ a2) (P6 : Sta Z h0 "java/lang/String" "COMPACT_STRINGS" "Z" (.int cs)) (hcs : ¬ (cs = (0 : Int32))) (P8 : Sta Z h0 "java/lang/StringUTF16" "$assertionsDisabled" "Z" (.int 1)) (P9 : Sta Z h0 "java/lang/StringUTF16" "HI_BYTE_SHIFT" "I" (.int 0)) (P10 : Sta Z h0 "java/lang/StringUTF16" "LO_BYTE_SHIFT" "I" (.int 8)) (hc0 : ¬ ((255 : Int32) < c0)) (hc1 : ¬ ((255 : Int32) < c1)) (hc2 : (255 : Int32) < c2) (hr2 : own_c16 c2) :
    MetFree l yq8 (head1 (Jvm.Cond.code yq8 jdk_42_method_3_code 2 none :: ws) rq36) (fun a U => a = #[(.ref a1), (.ref a2)] ∧ Z.Warmed39 U.vm ∧ U.heap = h0) (fun _ _ _ _ _ => True) (fun _ U o U' => ∃ v L, o = .returned v ∧ Q_rmStrA3_2 Z a1 a2 kc cs c0 c1 c2 h0 n0 v U'.heap L ∧ FrameEnd U o U' L rq36.cells rq36.slots) := by
  refine MetFree.of_bodySF (plainFor_of_name pn_java_lang_String) hisR ?_
  intro p e s m args below meth c s₁ Bd hml0 hP hK
  obtain ⟨rfl, hZ, hh⟩ := hP
  have hx := Bd.exec
  have hby := Bd.bytes
  have hml : c.maxLocals = 2 := hml0
  have hown : s.vm.findClass "java/lang/String" = some m.cls := findClass_of_methodNamed Bd.named
  have hnm := (name_of_methodNamed Bd.named Bd.method).1
  have X0 : Stand p l e rq36 s m #[(.ref a1), (.ref a2)] below meth c s₁ [] 0 0 := Stand.of_body Bd
  have e0 : s₁.heap = h0 := by rw [← hh, Bd.state]; rfl
  have N0 := Fr.nil n0
  refine own_fw (A' := (s₁.setTop (mkF m 4 #[rv a1, rv a2] [.ref a2, .int 0, .ref a2, .ref a1]))) (fun t k => castTop (ef_rmStrA3_2 m a1 a2) (XS.aloadN X0.here hx rfl (hb hby d6_0) rfl rfl (XS.aloadN X0.here hx rfl (hb hby d6_1) rfl rfl (XS.iconst X0.here hx rfl (hb hby d6_2) (XS.aloadN X0.here hx rfl (hb hby d6_3) rfl rfl k))))) ?_
  obtain ⟨cl1, Ar1, q1, S1, M1, H1, G1⟩ := id P3
  refine own_fw (A' := (s₁.setTop (mkF m 5 #[rv a1, rv a2] [.int 3, .int 0, .ref a2, .ref a1]))) (fun t k => X0.arraylength hx (by rw [e0]; exact Ar1.1) (State.isArrayOf_alike hZ.alike Ar1.2.1) (g := (mkF m 4 #[rv a1, rv a2] [.ref a2, .int 0, .ref a2, .ref a1])) rfl rfl (hb hby d6_4) _ (by rw [len_of S1 M1]; exact k)) ?_
  refine own_fw (A' := (s₁.setTop (mkF m 6 #[rv a1, rv a2] [.null, .int 3, .int 0, .ref a2, .ref a1]))) (fun t k => XS.aconstNull X0.here hx rfl (hb hby d6_5) k) ?_
  obtain ⟨_, _, ⟨T2, L2, k2, n2⟩, -, X2, ⟨Lc2, hQ2, l2, y2, z2⟩, st2⟩ := X0.specialBack hx (y := yq6) rfl hown (mvT hZ (own_w hw 32 rfl)) (mvT hZ (own_w hw 33 rfl)) (mvT hZ (own_w hw 35 rfl)) (by decide) (backOf (W := 0) (rmStrB3_2 l Z a0 hw [] a1 a2 kc cs c0 c1 c2 h0 n0 Z0 P0 P1 P2 P3 g_a1 ne_a1_a2 P6 hcs P8 P9 P10 hc0 hc1 hc2 hr2) hZ (own_w hw 35 rfl) (own_w hw 27 rfl) (by decide) (by decide)) (g := (mkF m 6 #[rv a1, rv a2] [.null, .int 3, .int 0, .ref a2, .ref a1])) rfl (by rw [hml]; rfl) (Steps.refl _) (a := a1) (argsL := [(.ref a2), (.int 0), (.int 3), .null]) (rest := []) (lenOf pd___CIILjava_lang_Void__V rfl) rfl (by show 2 * 0 + _ ≤ _; exact Nat.le_of_eq rfl) (hb hby d6_6) (fun _ _ => ⟨rfl, e0, (by decide : 0 + 2 ≤ _), (by decide : 0 + 9 ≤ _)⟩)
  dsimp only [Pt.U, Pt.locs, Pt.cells, Pt.slots] at X2 l2 y2 z2 st2 hQ2
  subst l2 y2 z2
  obtain ⟨b_2, kb_2, rfl, Nq2, Kq2, Fq2_0, Fq2_1, Fq2_2, Fq2_3⟩ := hQ2
  have Nf2 := Fr.app N0 Nq2
  have K2 : Keep h0 T2.heap [a1] := (Keep.refl h0 [a1]).trans Kq2 (allS (Or.inl (List.mem_of_getElem? (i := 0) rfl)) all0)
  have Z2 : n0 ≤ T2.heap.size := Nat.le_trans Z0 Kq2.1
  refine own_fw (A' := (T2.setTop (mkF m 9 #[rv a1, rv a2] []))) (fun t k => st2.trans k) ?_
  obtain ⟨fs, hr, hrun, hended, hW, hsame⟩ := X2.leave (v := none) (fun _ => rfl)
  refine ⟨_, _, ?_, hrun, hended, _, _, rfl, ?_, ⟨_, rfl⟩, hW, hsame.mono (by decide) (by decide)⟩
  · exact X2.returnOut hx Bd.returns (hb hby d6_9) hr
  · show Q_rmStrA3_2 Z a1 a2 kc cs c0 c1 c2 h0 n0 _ T2.heap _
    exact ⟨b_2, kb_2, rfl, Nf2, K2, Fq2_0, Fq2_1, Fq2_2, Fq2_3⟩
theorem pn_jdk_internal_util_Preconditions : plainName "jdk/internal/util/Preconditions" = true := by first | (simp [plainName, overriddenIn]; done) | decide +kernel
theorem d17_0 : decode jdk_41_method_11_code 0 = .ok (.iload_n 0, 1) := by decide +kernel
theorem d17_1 : decode jdk_41_method_11_code 1 = .ok (.ifCond .lt 8, 3) := by decide +kernel
theorem d17_4 : decode jdk_41_method_11_code 4 = .ok (.iload_n 0, 1) := by decide +kernel
theorem d17_5 : decode jdk_41_method_11_code 5 = .ok (.iload_n 1, 1) := by decide +kernel
theorem d17_6 : decode jdk_41_method_11_code 6 = .ok (.if_icmp .lt 10, 3) := by decide +kernel
theorem d17_16 : decode jdk_41_method_11_code 16 = .ok (.iload_n 0, 1) := by decide +kernel
theorem d17_17 : decode jdk_41_method_11_code 17 = .ok (.ireturn, 1) := by decide +kernel
theorem ef_rmPreN (m : MethodId) (p1 p2 : Int32) : entryFrame m #[(.int p1), (.int p2), .null] 3 = mkF m 0 #[.val (.int p1), .val (.int p2), .val .null] [] := by first | (simp [entryFrame, mkF, argsToLocals, Value.category]; done) | rfl
def Q_rmPreN (Z : State) (p1 p2 : Int32) (h0 : Heap) (n0 : Nat) (v : Option Value) (h : Heap) (L : List Loc) : Prop := v = some (.int p1) ∧ Fr n0 L ∧ h = h0
theorem rmPreN (l : Launch) (Z : State) (a0 : Array Value) (hw : ∀ d ∈ tables_1, d.before a0 Z = true) (ws : List Jvm.Cond) (p1 p2 : Int32) (h0 : Heap) (n0 : Nat) (Z0 : n0 ≤ h0.size) (u0 : ¬ (p1 < (0 : Int32))) (u1 : p1 < p2) :
    MetFree l yq38 (head1 (Jvm.Cond.code yq38 jdk_41_method_11_code 3 (some .int) :: ws) rq0) (fun a U => a = #[(.int p1), (.int p2), .null] ∧ Z.Warmed39 U.vm ∧ U.heap = h0) (fun _ _ _ _ _ => True) (fun _ U o U' => ∃ v L, o = .returned v ∧ Q_rmPreN Z p1 p2 h0 n0 v U'.heap L ∧ FrameEnd U o U' L rq0.cells rq0.slots) := by
  refine MetFree.of_bodySF (plainFor_of_name pn_jdk_internal_util_Preconditions) hisR ?_
  intro p e s m args below meth c s₁ Bd hml0 hP hK
  obtain ⟨rfl, hZ, hh⟩ := hP
  have hx := Bd.exec
  have hby := Bd.bytes
  have hml : c.maxLocals = 3 := hml0
  have hown : s.vm.findClass "jdk/internal/util/Preconditions" = some m.cls := findClass_of_methodNamed Bd.named
  have hnm := (name_of_methodNamed Bd.named Bd.method).1
  have X0 : Stand p l e rq0 s m #[(.int p1), (.int p2), .null] below meth c s₁ [] 0 0 := Stand.of_body Bd
  have e0 : s₁.heap = h0 := by rw [← hh, Bd.state]; rfl
  have N0 := Fr.nil n0
  refine own_fw (A' := (s₁.setTop (mkF m 17 #[iv p1, iv p2, .val (.null)] [.int p1]))) (fun t k => castTop (ef_rmPreN m p1 p2) (XS.iloadN X0.here hx rfl (hb hby d17_0) rfl (XS.ifNo X0.here hx rfl (hb hby d17_1) rfl (XT.i0_lt_f u0) (XS.iloadN X0.here hx rfl (hb hby d17_4) rfl (XS.iloadN X0.here hx rfl (hb hby d17_5) rfl (XS.icmpYes X0.here hx rfl (pc0 := 6) (pc' := 16) rfl (hb hby d17_6) rfl (XT.ii_lt_t u1) (by decide) (by decide) (XS.iloadN X0.here hx rfl (hb hby d17_16) rfl k))))))) ?_
  obtain ⟨fs, hr, hrun, hended, hW, hsame⟩ := X0.leave (v := some (.int p1)) (fun h => by rw [Bd.returns] at h; cases h)
  refine ⟨_, _, ?_, hrun, hended, _, _, rfl, ?_, ⟨_, rfl⟩, hW, hsame.mono (by decide) (by decide)⟩
  · exact retOut X0 hx Bd.returns rfl (Or.inl ⟨rfl, by simp, _, rfl⟩) (hb hby d17_17) hr
  · show Q_rmPreN Z p1 p2 h0 n0 _ s₁.heap _
    rw [e0]
    exact ⟨rfl, N0, rfl⟩
theorem d16_0 : decode jdk_42_method_155_code 0 = .ok (.iload_n 0, 1) := by decide +kernel
theorem d16_1 : decode jdk_42_method_155_code 1 = .ok (.iload_n 1, 1) := by decide +kernel
theorem d16_2 : decode jdk_42_method_155_code 2 = .ok (.getstatic 1053, 3) := by decide +kernel
theorem d16_5 : decode jdk_42_method_155_code 5 = .ok (.invokestatic 1059, 3) := by decide +kernel
theorem pd__IILjava_util_function_BiFunction__I : parseMethodDescriptor "(IILjava/util/function/BiFunction;)I" = some ⟨[.int, .int, (.object "java/util/function/BiFunction")], some .int⟩ := by decide +kernel
theorem d16_8 : decode jdk_42_method_155_code 8 = .ok (.pop, 1) := by decide +kernel
theorem d16_9 : decode jdk_42_method_155_code 9 = .ok (.return_, 1) := by decide +kernel
theorem ef_rmCkN (m : MethodId) (p1 p2 : Int32) : entryFrame m #[(.int p1), (.int p2)] 2 = mkF m 0 #[.val (.int p1), .val (.int p2)] [] := by first | (simp [entryFrame, mkF, argsToLocals, Value.category]; done) | rfl
def Q_rmCkN (Z : State) (p1 p2 : Int32) (h0 : Heap) (n0 : Nat) (v : Option Value) (h : Heap) (L : List Loc) : Prop := v = none ∧ Fr n0 L ∧ h = h0
theorem rmCkN (l : Launch) (Z : State) (a0 : Array Value) (hw : ∀ d ∈ tables_1, d.before a0 Z = true) (ws : List Jvm.Cond) (p1 p2 : Int32) (h0 : Heap) (n0 : Nat) (Z0 : n0 ≤ h0.size) (P0 : Sta Z h0 "jdk/internal/util/Preconditions" "SIOOBE_FORMATTER" "Ljava/util/function/BiFunction;" .null) (u0 : ¬ (p1 < (0 : Int32))) (u1 : p1 < p2) :
    MetFree l yq39 (head1 (Jvm.Cond.code yq39 jdk_42_method_155_code 2 none :: ws) rq37) (fun a U => a = #[(.int p1), (.int p2)] ∧ Z.Warmed39 U.vm ∧ U.heap = h0) (fun _ _ _ _ _ => True) (fun _ U o U' => ∃ v L, o = .returned v ∧ Q_rmCkN Z p1 p2 h0 n0 v U'.heap L ∧ FrameEnd U o U' L rq37.cells rq37.slots) := by
  refine MetFree.of_bodySF (plainFor_of_name pn_java_lang_String) hisR ?_
  intro p e s m args below meth c s₁ Bd hml0 hP hK
  obtain ⟨rfl, hZ, hh⟩ := hP
  have hx := Bd.exec
  have hby := Bd.bytes
  have hml : c.maxLocals = 2 := hml0
  have hown : s.vm.findClass "java/lang/String" = some m.cls := findClass_of_methodNamed Bd.named
  have hnm := (name_of_methodNamed Bd.named Bd.method).1
  have X0 : Stand p l e rq37 s m #[(.int p1), (.int p2)] below meth c s₁ [] 0 0 := Stand.of_body Bd
  have e0 : s₁.heap = h0 := by rw [← hh, Bd.state]; rfl
  have N0 := Fr.nil n0
  refine own_fw (A' := (s₁.setTop (mkF m 2 #[iv p1, iv p2] [.int p2, .int p1]))) (fun t k => castTop (ef_rmCkN m p1 p2) (XS.iloadN X0.here hx rfl (hb hby d16_0) rfl (XS.iloadN X0.here hx rfl (hb hby d16_1) rfl k))) ?_
  obtain ⟨T1, X1, e1, st1⟩ := getS2 X0 hx hZ hown (host := "") (Or.inl (own_w hw 80 rfl)) Via.refl e0 P0 (g := (mkF m 2 #[iv p1, iv p2] [.int p2, .int p1])) rfl (hb hby d16_2)
  refine own_fw (A' := (T1.setTop (mkF m 5 #[iv p1, iv p2] [.null, .int p2, .int p1]))) (fun t k => st1 _ k) ?_
  obtain ⟨_, _, ⟨T2, L2, k2, n2⟩, -, X2, ⟨Lc2, hQ2, l2, y2, z2⟩, st2⟩ := Jvm.LawKit.callS X1 hx (y := yq38) hown (mvT hZ (own_w hw 82 rfl)) (mvT hZ (own_w hw 83 rfl)) (mvT hZ (own_w hw 81 rfl)) (mvT hZ (own_w hw 84 rfl)) (by decide) (backOf (W := 0) (rmPreN l Z a0 hw [] p1 p2 h0 n0 Z0 u0 u1) hZ (own_w hw 84 rfl) (own_w hw 81 rfl) (by decide) (by decide)) (g := (mkF m 5 #[iv p1, iv p2] [.null, .int p2, .int p1])) rfl (by rw [hml]; rfl) (argsL := [(.int p1), (.int p2), .null]) (rest := []) (lenOf pd__IILjava_util_function_BiFunction__I rfl) rfl (by show 2 * 0 + _ ≤ _; exact Nat.le_of_eq rfl) (hb hby d16_5) (fun _ _ => ⟨rfl, e1, (by decide : 0 + 0 ≤ _), (by decide : 0 + 0 ≤ _)⟩)
  dsimp only [Pt.U, Pt.locs, Pt.cells, Pt.slots] at X2 l2 y2 z2 st2 hQ2
  subst l2 y2 z2
  obtain ⟨rfl, Nq2, e2⟩ := hQ2
  have Nf2 := Fr.app N0 Nq2
  refine own_fw (A' := (T2.setTop (mkF m 9 #[iv p1, iv p2] []))) (fun t k => st2 _ (XS.pop X2.here hx rfl (hb hby d16_8) rfl rfl k)) ?_
  obtain ⟨fs, hr, hrun, hended, hW, hsame⟩ := X2.leave (v := none) (fun _ => rfl)
  refine ⟨_, _, ?_, hrun, hended, _, _, rfl, ?_, ⟨_, rfl⟩, hW, hsame.mono (by decide) (by decide)⟩
  · exact X2.returnOut hx Bd.returns (hb hby d16_9) hr
  · show Q_rmCkN Z p1 p2 h0 n0 _ T2.heap _
    rw [e2]
    exact ⟨rfl, Nf2, rfl⟩
theorem ef_rmPreR (m : MethodId) (p1 p2 : Int32) (sf : Addr) : entryFrame m #[(.int p1), (.int p2), (.ref sf)] 3 = mkF m 0 #[.val (.int p1), .val (.int p2), .val (.ref sf)] [] := by first | (simp [entryFrame, mkF, argsToLocals, Value.category]; done) | rfl
def Q_rmPreR (Z : State) (p1 p2 : Int32) (sf : Addr) (h0 : Heap) (n0 : Nat) (v : Option Value) (h : Heap) (L : List Loc) : Prop := v = some (.int p1) ∧ Fr n0 L ∧ h = h0
theorem rmPreR (l : Launch) (Z : State) (a0 : Array Value) (hw : ∀ d ∈ tables_1, d.before a0 Z = true) (ws : List Jvm.Cond) (p1 p2 : Int32) (sf : Addr) (h0 : Heap) (n0 : Nat) (Z0 : n0 ≤ h0.size) (u0 : ¬ (p1 < (0 : Int32))) (u1 : p1 < p2) :
    MetFree l yq38 (head1 (Jvm.Cond.code yq38 jdk_41_method_11_code 3 (some .int) :: ws) rq0) (fun a U => a = #[(.int p1), (.int p2), (.ref sf)] ∧ Z.Warmed39 U.vm ∧ U.heap = h0) (fun _ _ _ _ _ => True) (fun _ U o U' => ∃ v L, o = .returned v ∧ Q_rmPreR Z p1 p2 sf h0 n0 v U'.heap L ∧ FrameEnd U o U' L rq0.cells rq0.slots) := by
  refine MetFree.of_bodySF (plainFor_of_name pn_jdk_internal_util_Preconditions) hisR ?_
  intro p e s m args below meth c s₁ Bd hml0 hP hK
  obtain ⟨rfl, hZ, hh⟩ := hP
  have hx := Bd.exec
  have hby := Bd.bytes
  have hml : c.maxLocals = 3 := hml0
  have hown : s.vm.findClass "jdk/internal/util/Preconditions" = some m.cls := findClass_of_methodNamed Bd.named
  have hnm := (name_of_methodNamed Bd.named Bd.method).1
  have X0 : Stand p l e rq0 s m #[(.int p1), (.int p2), (.ref sf)] below meth c s₁ [] 0 0 := Stand.of_body Bd
  have e0 : s₁.heap = h0 := by rw [← hh, Bd.state]; rfl
  have N0 := Fr.nil n0
  refine own_fw (A' := (s₁.setTop (mkF m 17 #[iv p1, iv p2, rv sf] [.int p1]))) (fun t k => castTop (ef_rmPreR m p1 p2 sf) (XS.iloadN X0.here hx rfl (hb hby d17_0) rfl (XS.ifNo X0.here hx rfl (hb hby d17_1) rfl (XT.i0_lt_f u0) (XS.iloadN X0.here hx rfl (hb hby d17_4) rfl (XS.iloadN X0.here hx rfl (hb hby d17_5) rfl (XS.icmpYes X0.here hx rfl (pc0 := 6) (pc' := 16) rfl (hb hby d17_6) rfl (XT.ii_lt_t u1) (by decide) (by decide) (XS.iloadN X0.here hx rfl (hb hby d17_16) rfl k))))))) ?_
  obtain ⟨fs, hr, hrun, hended, hW, hsame⟩ := X0.leave (v := some (.int p1)) (fun h => by rw [Bd.returns] at h; cases h)
  refine ⟨_, _, ?_, hrun, hended, _, _, rfl, ?_, ⟨_, rfl⟩, hW, hsame.mono (by decide) (by decide)⟩
  · exact retOut X0 hx Bd.returns rfl (Or.inl ⟨rfl, by simp, _, rfl⟩) (hb hby d17_17) hr
  · show Q_rmPreR Z p1 p2 sf h0 n0 _ s₁.heap _
    rw [e0]
    exact ⟨rfl, N0, rfl⟩
theorem ef_rmCkR (m : MethodId) (p1 p2 : Int32) : entryFrame m #[(.int p1), (.int p2)] 2 = mkF m 0 #[.val (.int p1), .val (.int p2)] [] := by first | (simp [entryFrame, mkF, argsToLocals, Value.category]; done) | rfl
def Q_rmCkR (Z : State) (p1 p2 : Int32) (sf : Addr) (h0 : Heap) (n0 : Nat) (v : Option Value) (h : Heap) (L : List Loc) : Prop := v = none ∧ Fr n0 L ∧ h = h0
theorem rmCkR (l : Launch) (Z : State) (a0 : Array Value) (hw : ∀ d ∈ tables_1, d.before a0 Z = true) (ws : List Jvm.Cond) (p1 p2 : Int32) (sf : Addr) (h0 : Heap) (n0 : Nat) (Z0 : n0 ≤ h0.size) (P0 : Sta Z h0 "jdk/internal/util/Preconditions" "SIOOBE_FORMATTER" "Ljava/util/function/BiFunction;" (.ref sf)) (u0 : ¬ (p1 < (0 : Int32))) (u1 : p1 < p2) :
    MetFree l yq39 (head1 (Jvm.Cond.code yq39 jdk_42_method_155_code 2 none :: ws) rq37) (fun a U => a = #[(.int p1), (.int p2)] ∧ Z.Warmed39 U.vm ∧ U.heap = h0) (fun _ _ _ _ _ => True) (fun _ U o U' => ∃ v L, o = .returned v ∧ Q_rmCkR Z p1 p2 sf h0 n0 v U'.heap L ∧ FrameEnd U o U' L rq37.cells rq37.slots) := by
  refine MetFree.of_bodySF (plainFor_of_name pn_java_lang_String) hisR ?_
  intro p e s m args below meth c s₁ Bd hml0 hP hK
  obtain ⟨rfl, hZ, hh⟩ := hP
  have hx := Bd.exec
  have hby := Bd.bytes
  have hml : c.maxLocals = 2 := hml0
  have hown : s.vm.findClass "java/lang/String" = some m.cls := findClass_of_methodNamed Bd.named
  have hnm := (name_of_methodNamed Bd.named Bd.method).1
  have X0 : Stand p l e rq37 s m #[(.int p1), (.int p2)] below meth c s₁ [] 0 0 := Stand.of_body Bd
  have e0 : s₁.heap = h0 := by rw [← hh, Bd.state]; rfl
  have N0 := Fr.nil n0
  refine own_fw (A' := (s₁.setTop (mkF m 2 #[iv p1, iv p2] [.int p2, .int p1]))) (fun t k => castTop (ef_rmCkR m p1 p2) (XS.iloadN X0.here hx rfl (hb hby d16_0) rfl (XS.iloadN X0.here hx rfl (hb hby d16_1) rfl k))) ?_
  obtain ⟨T1, X1, e1, st1⟩ := getS2 X0 hx hZ hown (host := "") (Or.inl (own_w hw 80 rfl)) Via.refl e0 P0 (g := (mkF m 2 #[iv p1, iv p2] [.int p2, .int p1])) rfl (hb hby d16_2)
  refine own_fw (A' := (T1.setTop (mkF m 5 #[iv p1, iv p2] [.ref sf, .int p2, .int p1]))) (fun t k => st1 _ k) ?_
  obtain ⟨_, _, ⟨T2, L2, k2, n2⟩, -, X2, ⟨Lc2, hQ2, l2, y2, z2⟩, st2⟩ := Jvm.LawKit.callS X1 hx (y := yq38) hown (mvT hZ (own_w hw 82 rfl)) (mvT hZ (own_w hw 83 rfl)) (mvT hZ (own_w hw 81 rfl)) (mvT hZ (own_w hw 84 rfl)) (by decide) (backOf (W := 0) (rmPreR l Z a0 hw [] p1 p2 sf h0 n0 Z0 u0 u1) hZ (own_w hw 84 rfl) (own_w hw 81 rfl) (by decide) (by decide)) (g := (mkF m 5 #[iv p1, iv p2] [.ref sf, .int p2, .int p1])) rfl (by rw [hml]; rfl) (argsL := [(.int p1), (.int p2), (.ref sf)]) (rest := []) (lenOf pd__IILjava_util_function_BiFunction__I rfl) rfl (by show 2 * 0 + _ ≤ _; exact Nat.le_of_eq rfl) (hb hby d16_5) (fun _ _ => ⟨rfl, e1, (by decide : 0 + 0 ≤ _), (by decide : 0 + 0 ≤ _)⟩)
  dsimp only [Pt.U, Pt.locs, Pt.cells, Pt.slots] at X2 l2 y2 z2 st2 hQ2
  subst l2 y2 z2
  obtain ⟨rfl, Nq2, e2⟩ := hQ2
  have Nf2 := Fr.app N0 Nq2
  refine own_fw (A' := (T2.setTop (mkF m 9 #[iv p1, iv p2] []))) (fun t k => st2 _ (XS.pop X2.here hx rfl (hb hby d16_8) rfl rfl k)) ?_
  obtain ⟨fs, hr, hrun, hended, hW, hsame⟩ := X2.leave (v := none) (fun _ => rfl)
  refine ⟨_, _, ?_, hrun, hended, _, _, rfl, ?_, ⟨_, rfl⟩, hW, hsame.mono (by decide) (by decide)⟩
  · exact X2.returnOut hx Bd.returns (hb hby d16_9) hr
  · show Q_rmCkR Z p1 p2 sf h0 n0 _ T2.heap _
    rw [e2]
    exact ⟨rfl, Nf2, rfl⟩
def Q_rmCk (Z : State) (p1 p2 : Int32) (sv : Value) (h0 : Heap) (n0 : Nat) (v : Option Value) (h : Heap) (L : List Loc) : Prop := v = none ∧ Fr n0 L ∧ h = h0
theorem rmCk (l : Launch) (Z : State) (a0 : Array Value) (hw : ∀ d ∈ tables_1, d.before a0 Z = true) (ws : List Jvm.Cond) (p1 p2 : Int32) (sv : Value) (h0 : Heap) (n0 : Nat) (Z0 : n0 ≤ h0.size) (P0 : Sta Z h0 "jdk/internal/util/Preconditions" "SIOOBE_FORMATTER" "Ljava/util/function/BiFunction;" sv) (hsv : sv.isRef = true) (u0 : ¬ (p1 < (0 : Int32))) (u1 : p1 < p2) :
    MetFree l yq39 (head1 (Jvm.Cond.code yq39 jdk_42_method_155_code 2 none :: ws) rq37) (fun a U => a = #[(.int p1), (.int p2)] ∧ Z.Warmed39 U.vm ∧ U.heap = h0) (fun _ _ _ _ _ => True) (fun _ U o U' => ∃ v L, o = .returned v ∧ Q_rmCk Z p1 p2 sv h0 n0 v U'.heap L ∧ FrameEnd U o U' L rq37.cells rq37.slots) := by
  rcases ref_cases hsv with rfl | ⟨sf, rfl⟩
  · exact rmCkN l Z a0 hw ws p1 p2 h0 n0 Z0 P0 u0 u1
  · exact rmCkR l Z a0 hw ws p1 p2 sf h0 n0 Z0 P0 u0 u1

def own_cl (x : Int32) : Int32 := ((x &&& (255 : Int32)).toUInt32.toUInt16.toUInt32.toInt32)
theorem own_nar16 {x : Int32} (h : own_c16 x) : nar .char x = x := by
  have a := c_i2c x
  have b := h
  unfold own_c16 at b
  show x.toUInt32.toUInt16.toUInt32.toInt32 = x
  apply Int32.toInt_inj.mp
  omega
theorem own_narr16 {x : Int32} (h : own_c16 x) : narrow .char (.int x) = .int x := by
  show Value.int (nar .char x) = .int x
  rw [own_nar16 h]
theorem own_c45 : own_c16 (45 : Int32) := by
  have e : (45 : Int32).toInt = 45 := by decide
  unfold own_c16
  omega
theorem own_cM (x : Int32) : own_c16 ((x &&& (65535 : Int32)).toUInt32.toUInt16.toUInt32.toInt32) := by
  have a := c_i2c (x &&& (65535 : Int32))
  unfold own_c16
  omega
theorem own_clb {c : Int32} (h : own_c16 c) (h2 : ¬ (255 : Int32) < c) : own_cl (c.toInt8.toInt32) = c := by
  have e : (255 : Int32).toInt = 255 := by decide
  unfold own_c16 at h
  rw [Int32.lt_iff_toInt_lt, e] at h2
  have a := c_i2b c
  have m := c_mask (c.toInt8.toInt32) 255 8 (by decide) (by decide)
  have b := c_i2c (c.toInt8.toInt32 &&& (255 : Int32))
  unfold own_cl
  apply Int32.toInt_inj.mp
  omega
theorem own_y45 {c : Int32} (h : own_c16 c) (h2 : ¬ (255 : Int32) < c) (q : own_cl (c.toInt8.toInt32) = (45 : Int32)) : c.toInt8.toInt32 = (45 : Int32) := by
  rw [own_clb h h2] at q
  rw [q]
  decide
theorem own_n45 {c : Int32} (h : own_c16 c) (h2 : ¬ (255 : Int32) < c) (q : ¬ own_cl (c.toInt8.toInt32) = (45 : Int32)) : ¬ c.toInt8.toInt32 = (45 : Int32) := fun z => q (by rw [z]; decide)
theorem own_u45 {c : Int32} (h : own_c16 c) (h2 : (255 : Int32) < c) : ¬ own_gc ((c >>> ((0 : Int32) &&& 31)).toInt8.toInt32) ((c >>> ((8 : Int32) &&& 31)).toInt8.toInt32) = (45 : Int32) := by
  rw [own_gcc h]
  intro q
  rw [q] at h2
  revert h2
  decide

theorem d12_0 : decode jdk_42_method_152_code 0 = .ok (.getstatic 38, 3) := by decide +kernel
theorem d12_3 : decode jdk_42_method_152_code 3 = .ok (.ifCond .eq 10, 3) := by decide +kernel
theorem d12_6 : decode jdk_42_method_152_code 6 = .ok (.aload_n 0, 1) := by decide +kernel
theorem d12_7 : decode jdk_42_method_152_code 7 = .ok (.getfield 15, 3) := by decide +kernel
theorem d12_10 : decode jdk_42_method_152_code 10 = .ok (.goto 4, 3) := by decide +kernel
theorem d12_14 : decode jdk_42_method_152_code 14 = .ok (.ireturn, 1) := by decide +kernel
theorem ef_rmCod0 (m : MethodId) (a1 : Addr) : entryFrame m #[(.ref a1)] 1 = mkF m 0 #[.val (.ref a1)] [] := by first | (simp [entryFrame, mkF, argsToLocals, Value.category]; done) | rfl
def Q_rmCod0 (Z : State) (a1 : Addr) (cs : Int32) (h0 : Heap) (n0 : Nat) (v : Option Value) (h : Heap) (L : List Loc) : Prop := v = some (.int 0) ∧ Fr n0 L ∧ h = h0
theorem rmCod0 (l : Launch) (Z : State) (a0 : Array Value) (hw : ∀ d ∈ tables_1, d.before a0 Z = true) (ws : List Jvm.Cond) (a1 : Addr) (cs : Int32) (h0 : Heap) (n0 : Nat) (Z0 : n0 ≤ h0.size) (P0 : Fld Z h0 a1 "java/lang/String" "coder" "B" (.int 0)) (P1 : Sta Z h0 "java/lang/String" "COMPACT_STRINGS" "Z" (.int cs)) (hcs : ¬ (cs = (0 : Int32))) :
    MetFree l yq40 (head1 (Jvm.Cond.code yq40 jdk_42_method_152_code 1 (some .byte) :: ws) rq0) (fun a U => a = #[(.ref a1)] ∧ Z.Warmed39 U.vm ∧ U.heap = h0) (fun _ _ _ _ _ => True) (fun _ U o U' => ∃ v L, o = .returned v ∧ Q_rmCod0 Z a1 cs h0 n0 v U'.heap L ∧ FrameEnd U o U' L rq0.cells rq0.slots) := by
  refine MetFree.of_bodySF (plainFor_of_name pn_java_lang_String) hisR ?_
  intro p e s m args below meth c s₁ Bd hml0 hP hK
  obtain ⟨rfl, hZ, hh⟩ := hP
  have hx := Bd.exec
  have hby := Bd.bytes
  have hml : c.maxLocals = 1 := hml0
  have hown : s.vm.findClass "java/lang/String" = some m.cls := findClass_of_methodNamed Bd.named
  have hnm := (name_of_methodNamed Bd.named Bd.method).1
  have X0 : Stand p l e rq0 s m #[(.ref a1)] below meth c s₁ [] 0 0 := Stand.of_body Bd
  have e0 : s₁.heap = h0 := by rw [← hh, Bd.state]; rfl
  have N0 := Fr.nil n0
  refine own_fw (A' := (s₁.setTop (mkF m 0 #[.val (.ref a1)] []))) (fun t k => castTop (ef_rmCod0 m a1) k) ?_
  obtain ⟨T1, X1, e1, st1⟩ := getS2 X0 hx hZ hown (host := "") (Or.inl (own_w hw 37 rfl)) Via.refl e0 P1 (g := (mkF m 0 #[rv a1] [])) rfl (hb hby d12_0)
  refine own_fw (A' := (T1.setTop (mkF m 7 #[rv a1] [.ref a1]))) (fun t k => st1 _ (XS.ifNo X1.here hx rfl (hb hby d12_3) rfl (XT.i0_eq_f hcs) (XS.aloadN X1.here hx rfl (hb hby d12_6) rfl rfl k))) ?_
  obtain ⟨T2, X2, e2, st2⟩ := getF X1 hx hZ hown (host := "") (Or.inl (own_w hw 49 rfl)) Via.refl e1 P0 (g := (mkF m 7 #[rv a1] [.ref a1])) rfl rfl (hb hby d12_7)
  refine own_fw (A' := (T2.setTop (mkF m 14 #[rv a1] [.int 0]))) (fun t k => st2 _ (XS.goto X2.here hx rfl (pc0 := 10) (pc' := 14) rfl (hb hby d12_10) (by decide) (by decide) k)) ?_
  obtain ⟨fs, hr, hrun, hended, hW, hsame⟩ := X2.leave (v := some (.int 0)) (fun h => by rw [Bd.returns] at h; cases h)
  refine ⟨_, _, ?_, hrun, hended, _, _, rfl, ?_, ⟨_, rfl⟩, hW, hsame.mono (by decide) (by decide)⟩
  · exact retOut X2 hx Bd.returns rfl (Or.inl ⟨rfl, by simp, _, rfl⟩) (hb hby d12_14) hr
  · show Q_rmCod0 Z a1 cs h0 n0 _ T2.heap _
    rw [e2]
    exact ⟨rfl, N0, rfl⟩
theorem d14_0 : decode jdk_42_method_154_code 0 = .ok (.getstatic 38, 3) := by decide +kernel
theorem d14_3 : decode jdk_42_method_154_code 3 = .ok (.ifCond .eq 14, 3) := by decide +kernel
theorem d14_6 : decode jdk_42_method_154_code 6 = .ok (.aload_n 0, 1) := by decide +kernel
theorem d14_7 : decode jdk_42_method_154_code 7 = .ok (.getfield 15, 3) := by decide +kernel
theorem d14_10 : decode jdk_42_method_154_code 10 = .ok (.ifCond .ne 7, 3) := by decide +kernel
theorem d14_13 : decode jdk_42_method_154_code 13 = .ok (.iconst 1, 1) := by decide +kernel
theorem d14_14 : decode jdk_42_method_154_code 14 = .ok (.goto 4, 3) := by decide +kernel
theorem d14_18 : decode jdk_42_method_154_code 18 = .ok (.ireturn, 1) := by decide +kernel
theorem ef_rmLat0 (m : MethodId) (a1 : Addr) : entryFrame m #[(.ref a1)] 1 = mkF m 0 #[.val (.ref a1)] [] := by first | (simp [entryFrame, mkF, argsToLocals, Value.category]; done) | rfl
def Q_rmLat0 (Z : State) (a1 : Addr) (cs : Int32) (h0 : Heap) (n0 : Nat) (v : Option Value) (h : Heap) (L : List Loc) : Prop := v = some (.int 1) ∧ Fr n0 L ∧ h = h0
theorem rmLat0 (l : Launch) (Z : State) (a0 : Array Value) (hw : ∀ d ∈ tables_1, d.before a0 Z = true) (ws : List Jvm.Cond) (a1 : Addr) (cs : Int32) (h0 : Heap) (n0 : Nat) (Z0 : n0 ≤ h0.size) (P0 : Fld Z h0 a1 "java/lang/String" "coder" "B" (.int 0)) (P1 : Sta Z h0 "java/lang/String" "COMPACT_STRINGS" "Z" (.int cs)) (hcs : ¬ (cs = (0 : Int32))) :
    MetFree l yq41 (head1 (Jvm.Cond.code yq41 jdk_42_method_154_code 1 (some .boolean) :: ws) rq0) (fun a U => a = #[(.ref a1)] ∧ Z.Warmed39 U.vm ∧ U.heap = h0) (fun _ _ _ _ _ => True) (fun _ U o U' => ∃ v L, o = .returned v ∧ Q_rmLat0 Z a1 cs h0 n0 v U'.heap L ∧ FrameEnd U o U' L rq0.cells rq0.slots) := by
  refine MetFree.of_bodySF (plainFor_of_name pn_java_lang_String) hisR ?_
  intro p e s m args below meth c s₁ Bd hml0 hP hK
  obtain ⟨rfl, hZ, hh⟩ := hP
  have hx := Bd.exec
  have hby := Bd.bytes
  have hml : c.maxLocals = 1 := hml0
  have hown : s.vm.findClass "java/lang/String" = some m.cls := findClass_of_methodNamed Bd.named
  have hnm := (name_of_methodNamed Bd.named Bd.method).1
  have X0 : Stand p l e rq0 s m #[(.ref a1)] below meth c s₁ [] 0 0 := Stand.of_body Bd
  have e0 : s₁.heap = h0 := by rw [← hh, Bd.state]; rfl
  have N0 := Fr.nil n0
  refine own_fw (A' := (s₁.setTop (mkF m 0 #[.val (.ref a1)] []))) (fun t k => castTop (ef_rmLat0 m a1) k) ?_
  obtain ⟨T1, X1, e1, st1⟩ := getS2 X0 hx hZ hown (host := "") (Or.inl (own_w hw 37 rfl)) Via.refl e0 P1 (g := (mkF m 0 #[rv a1] [])) rfl (hb hby d14_0)
  refine own_fw (A' := (T1.setTop (mkF m 7 #[rv a1] [.ref a1]))) (fun t k => st1 _ (XS.ifNo X1.here hx rfl (hb hby d14_3) rfl (XT.i0_eq_f hcs) (XS.aloadN X1.here hx rfl (hb hby d14_6) rfl rfl k))) ?_
  obtain ⟨T2, X2, e2, st2⟩ := getF X1 hx hZ hown (host := "") (Or.inl (own_w hw 49 rfl)) Via.refl e1 P0 (g := (mkF m 7 #[rv a1] [.ref a1])) rfl rfl (hb hby d14_7)
  refine own_fw (A' := (T2.setTop (mkF m 18 #[rv a1] [.int 1]))) (fun t k => st2 _ (XS.ifNo X2.here hx rfl (hb hby d14_10) rfl (XT.i0_ne_f rfl) (XS.iconst X2.here hx rfl (hb hby d14_13) (XS.goto X2.here hx rfl (pc0 := 14) (pc' := 18) rfl (hb hby d14_14) (by decide) (by decide) k)))) ?_
  obtain ⟨fs, hr, hrun, hended, hW, hsame⟩ := X2.leave (v := some (.int 1)) (fun h => by rw [Bd.returns] at h; cases h)
  refine ⟨_, _, ?_, hrun, hended, _, _, rfl, ?_, ⟨_, rfl⟩, hW, hsame.mono (by decide) (by decide)⟩
  · exact retOut X2 hx Bd.returns rfl (Or.inl ⟨rfl, by simp, _, rfl⟩) (hb hby d14_18) hr
  · show Q_rmLat0 Z a1 cs h0 n0 _ T2.heap _
    rw [e2]
    exact ⟨rfl, N0, rfl⟩
theorem ef_rmCod1 (m : MethodId) (a1 : Addr) : entryFrame m #[(.ref a1)] 1 = mkF m 0 #[.val (.ref a1)] [] := by first | (simp [entryFrame, mkF, argsToLocals, Value.category]; done) | rfl
def Q_rmCod1 (Z : State) (a1 : Addr) (cs : Int32) (h0 : Heap) (n0 : Nat) (v : Option Value) (h : Heap) (L : List Loc) : Prop := v = some (.int 1) ∧ Fr n0 L ∧ h = h0
theorem rmCod1 (l : Launch) (Z : State) (a0 : Array Value) (hw : ∀ d ∈ tables_1, d.before a0 Z = true) (ws : List Jvm.Cond) (a1 : Addr) (cs : Int32) (h0 : Heap) (n0 : Nat) (Z0 : n0 ≤ h0.size) (P0 : Fld Z h0 a1 "java/lang/String" "coder" "B" (.int 1)) (P1 : Sta Z h0 "java/lang/String" "COMPACT_STRINGS" "Z" (.int cs)) (hcs : ¬ (cs = (0 : Int32))) :
    MetFree l yq40 (head1 (Jvm.Cond.code yq40 jdk_42_method_152_code 1 (some .byte) :: ws) rq0) (fun a U => a = #[(.ref a1)] ∧ Z.Warmed39 U.vm ∧ U.heap = h0) (fun _ _ _ _ _ => True) (fun _ U o U' => ∃ v L, o = .returned v ∧ Q_rmCod1 Z a1 cs h0 n0 v U'.heap L ∧ FrameEnd U o U' L rq0.cells rq0.slots) := by
  refine MetFree.of_bodySF (plainFor_of_name pn_java_lang_String) hisR ?_
  intro p e s m args below meth c s₁ Bd hml0 hP hK
  obtain ⟨rfl, hZ, hh⟩ := hP
  have hx := Bd.exec
  have hby := Bd.bytes
  have hml : c.maxLocals = 1 := hml0
  have hown : s.vm.findClass "java/lang/String" = some m.cls := findClass_of_methodNamed Bd.named
  have hnm := (name_of_methodNamed Bd.named Bd.method).1
  have X0 : Stand p l e rq0 s m #[(.ref a1)] below meth c s₁ [] 0 0 := Stand.of_body Bd
  have e0 : s₁.heap = h0 := by rw [← hh, Bd.state]; rfl
  have N0 := Fr.nil n0
  refine own_fw (A' := (s₁.setTop (mkF m 0 #[.val (.ref a1)] []))) (fun t k => castTop (ef_rmCod1 m a1) k) ?_
  obtain ⟨T1, X1, e1, st1⟩ := getS2 X0 hx hZ hown (host := "") (Or.inl (own_w hw 37 rfl)) Via.refl e0 P1 (g := (mkF m 0 #[rv a1] [])) rfl (hb hby d12_0)
  refine own_fw (A' := (T1.setTop (mkF m 7 #[rv a1] [.ref a1]))) (fun t k => st1 _ (XS.ifNo X1.here hx rfl (hb hby d12_3) rfl (XT.i0_eq_f hcs) (XS.aloadN X1.here hx rfl (hb hby d12_6) rfl rfl k))) ?_
  obtain ⟨T2, X2, e2, st2⟩ := getF X1 hx hZ hown (host := "") (Or.inl (own_w hw 49 rfl)) Via.refl e1 P0 (g := (mkF m 7 #[rv a1] [.ref a1])) rfl rfl (hb hby d12_7)
  refine own_fw (A' := (T2.setTop (mkF m 14 #[rv a1] [.int 1]))) (fun t k => st2 _ (XS.goto X2.here hx rfl (pc0 := 10) (pc' := 14) rfl (hb hby d12_10) (by decide) (by decide) k)) ?_
  obtain ⟨fs, hr, hrun, hended, hW, hsame⟩ := X2.leave (v := some (.int 1)) (fun h => by rw [Bd.returns] at h; cases h)
  refine ⟨_, _, ?_, hrun, hended, _, _, rfl, ?_, ⟨_, rfl⟩, hW, hsame.mono (by decide) (by decide)⟩
  · exact retOut X2 hx Bd.returns rfl (Or.inl ⟨rfl, by simp, _, rfl⟩) (hb hby d12_14) hr
  · show Q_rmCod1 Z a1 cs h0 n0 _ T2.heap _
    rw [e2]
    exact ⟨rfl, N0, rfl⟩
theorem d14_17 : decode jdk_42_method_154_code 17 = .ok (.iconst 0, 1) := by decide +kernel
theorem ef_rmLat1 (m : MethodId) (a1 : Addr) : entryFrame m #[(.ref a1)] 1 = mkF m 0 #[.val (.ref a1)] [] := by first | (simp [entryFrame, mkF, argsToLocals, Value.category]; done) | rfl
def Q_rmLat1 (Z : State) (a1 : Addr) (cs : Int32) (h0 : Heap) (n0 : Nat) (v : Option Value) (h : Heap) (L : List Loc) : Prop := v = some (.int 0) ∧ Fr n0 L ∧ h = h0
theorem rmLat1 (l : Launch) (Z : State) (a0 : Array Value) (hw : ∀ d ∈ tables_1, d.before a0 Z = true) (ws : List Jvm.Cond) (a1 : Addr) (cs : Int32) (h0 : Heap) (n0 : Nat) (Z0 : n0 ≤ h0.size) (P0 : Fld Z h0 a1 "java/lang/String" "coder" "B" (.int 1)) (P1 : Sta Z h0 "java/lang/String" "COMPACT_STRINGS" "Z" (.int cs)) (hcs : ¬ (cs = (0 : Int32))) :
    MetFree l yq41 (head1 (Jvm.Cond.code yq41 jdk_42_method_154_code 1 (some .boolean) :: ws) rq0) (fun a U => a = #[(.ref a1)] ∧ Z.Warmed39 U.vm ∧ U.heap = h0) (fun _ _ _ _ _ => True) (fun _ U o U' => ∃ v L, o = .returned v ∧ Q_rmLat1 Z a1 cs h0 n0 v U'.heap L ∧ FrameEnd U o U' L rq0.cells rq0.slots) := by
  refine MetFree.of_bodySF (plainFor_of_name pn_java_lang_String) hisR ?_
  intro p e s m args below meth c s₁ Bd hml0 hP hK
  obtain ⟨rfl, hZ, hh⟩ := hP
  have hx := Bd.exec
  have hby := Bd.bytes
  have hml : c.maxLocals = 1 := hml0
  have hown : s.vm.findClass "java/lang/String" = some m.cls := findClass_of_methodNamed Bd.named
  have hnm := (name_of_methodNamed Bd.named Bd.method).1
  have X0 : Stand p l e rq0 s m #[(.ref a1)] below meth c s₁ [] 0 0 := Stand.of_body Bd
  have e0 : s₁.heap = h0 := by rw [← hh, Bd.state]; rfl
  have N0 := Fr.nil n0
  refine own_fw (A' := (s₁.setTop (mkF m 0 #[.val (.ref a1)] []))) (fun t k => castTop (ef_rmLat1 m a1) k) ?_
  obtain ⟨T1, X1, e1, st1⟩ := getS2 X0 hx hZ hown (host := "") (Or.inl (own_w hw 37 rfl)) Via.refl e0 P1 (g := (mkF m 0 #[rv a1] [])) rfl (hb hby d14_0)
  refine own_fw (A' := (T1.setTop (mkF m 7 #[rv a1] [.ref a1]))) (fun t k => st1 _ (XS.ifNo X1.here hx rfl (hb hby d14_3) rfl (XT.i0_eq_f hcs) (XS.aloadN X1.here hx rfl (hb hby d14_6) rfl rfl k))) ?_
  obtain ⟨T2, X2, e2, st2⟩ := getF X1 hx hZ hown (host := "") (Or.inl (own_w hw 49 rfl)) Via.refl e1 P0 (g := (mkF m 7 #[rv a1] [.ref a1])) rfl rfl (hb hby d14_7)
  refine own_fw (A' := (T2.setTop (mkF m 18 #[rv a1] [.int 0]))) (fun t k => st2 _ (XS.ifYes X2.here hx rfl (pc0 := 10) (pc' := 17) rfl (hb hby d14_10) rfl (XT.i0_ne_t (by decide)) (by decide) (by decide) (XS.iconst X2.here hx rfl (hb hby d14_17) k))) ?_
  obtain ⟨fs, hr, hrun, hended, hW, hsame⟩ := X2.leave (v := some (.int 0)) (fun h => by rw [Bd.returns] at h; cases h)
  refine ⟨_, _, ?_, hrun, hended, _, _, rfl, ?_, ⟨_, rfl⟩, hW, hsame.mono (by decide) (by decide)⟩
  · exact retOut X2 hx Bd.returns rfl (Or.inl ⟨rfl, by simp, _, rfl⟩) (hb hby d14_18) hr
  · show Q_rmLat1 Z a1 cs h0 n0 _ T2.heap _
    rw [e2]
    exact ⟨rfl, N0, rfl⟩
theorem d11_0 : decode jdk_42_method_54_code 0 = .ok (.aload_n 0, 1) := by decide +kernel
theorem d11_1 : decode jdk_42_method_54_code 1 = .ok (.getfield 9, 3) := by decide +kernel
theorem d11_4 : decode jdk_42_method_54_code 4 = .ok (.arraylength, 1) := by decide +kernel
theorem d11_5 : decode jdk_42_method_54_code 5 = .ok (.aload_n 0, 1) := by decide +kernel
theorem d11_6 : decode jdk_42_method_54_code 6 = .ok (.invokevirtual 335, 3) := by decide +kernel
theorem pd___B : parseMethodDescriptor "()B" = some ⟨[], some .byte⟩ := by decide +kernel
theorem d11_9 : decode jdk_42_method_54_code 9 = .ok (.ishr, 1) := by decide +kernel
theorem d11_10 : decode jdk_42_method_54_code 10 = .ok (.ireturn, 1) := by decide +kernel
theorem ef_rmLnL0 (m : MethodId) (a1 : Addr) : entryFrame m #[(.ref a1)] 1 = mkF m 0 #[.val (.ref a1)] [] := by first | (simp [entryFrame, mkF, argsToLocals, Value.category]; done) | rfl
def Q_rmLnL0 (Z : State) (a1 b1 : Addr) (k1 : ClassId) (cs : Int32) (h0 : Heap) (n0 : Nat) (v : Option Value) (h : Heap) (L : List Loc) : Prop := v = some (.int 0) ∧ Fr n0 L ∧ h = h0
theorem rmLnL0 (l : Launch) (Z : State) (a0 : Array Value) (hw : ∀ d ∈ tables_1, d.before a0 Z = true) (ws : List Jvm.Cond) (a1 b1 : Addr) (k1 : ClassId) (cs : Int32) (h0 : Heap) (n0 : Nat) (Z0 : n0 ≤ h0.size) (P0 : Exa Z h0 a1 "java/lang/String") (P1 : Fld Z h0 a1 "java/lang/String" "coder" "B" (.int 0)) (P2 : Fld Z h0 a1 "java/lang/String" "value" "[B" (.ref b1)) (P3 : Arv Z h0 b1 k1 .byte (0 : Int32) [] (.int 0)) (P4 : Sta Z h0 "java/lang/String" "COMPACT_STRINGS" "Z" (.int cs)) (hcs : ¬ (cs = (0 : Int32))) :
    MetFree l yq43 (head1 (Jvm.Cond.code yq43 jdk_42_method_54_code 1 (some .int) :: ws) rq42) (fun a U => a = #[(.ref a1)] ∧ Z.Warmed39 U.vm ∧ U.heap = h0) (fun _ _ _ _ _ => True) (fun _ U o U' => ∃ v L, o = .returned v ∧ Q_rmLnL0 Z a1 b1 k1 cs h0 n0 v U'.heap L ∧ FrameEnd U o U' L rq42.cells rq42.slots) := by
  refine MetFree.of_bodySF (plainFor_of_name pn_java_lang_String) hisR ?_
  intro p e s m args below meth c s₁ Bd hml0 hP hK
  obtain ⟨rfl, hZ, hh⟩ := hP
  have hx := Bd.exec
  have hby := Bd.bytes
  have hml : c.maxLocals = 1 := hml0
  have hown : s.vm.findClass "java/lang/String" = some m.cls := findClass_of_methodNamed Bd.named
  have hnm := (name_of_methodNamed Bd.named Bd.method).1
  have X0 : Stand p l e rq42 s m #[(.ref a1)] below meth c s₁ [] 0 0 := Stand.of_body Bd
  have e0 : s₁.heap = h0 := by rw [← hh, Bd.state]; rfl
  have N0 := Fr.nil n0
  refine own_fw (A' := (s₁.setTop (mkF m 1 #[rv a1] [.ref a1]))) (fun t k => castTop (ef_rmLnL0 m a1) (XS.aloadN X0.here hx rfl (hb hby d11_0) rfl rfl k)) ?_
  obtain ⟨T1, X1, e1, st1⟩ := getF X0 hx hZ hown (host := "") (Or.inl (own_w hw 51 rfl)) Via.refl e0 P2 (g := (mkF m 1 #[rv a1] [.ref a1])) rfl rfl (hb hby d11_1)
  refine own_fw (A' := (T1.setTop (mkF m 4 #[rv a1] [.ref b1]))) (fun t k => st1 _ k) ?_
  obtain ⟨cl2, Ar2, q2, S2, M2, H2, G2⟩ := id P3
  refine own_fw (A' := (T1.setTop (mkF m 5 #[rv a1] [.int 0]))) (fun t k => X1.arraylength hx (by rw [e1]; exact Ar2.1) (State.isArrayOf_alike hZ.alike Ar2.2.1) (g := (mkF m 4 #[rv a1] [.ref b1])) rfl rfl (hb hby d11_4) _ (by rw [len_of S2 M2]; exact k)) ?_
  refine own_fw (A' := (T1.setTop (mkF m 6 #[rv a1] [.ref a1, .int 0]))) (fun t k => XS.aloadN X1.here hx rfl (hb hby d11_5) rfl rfl k) ?_
  obtain ⟨cq3, kq3, qa3, qb3, qc3⟩ := isOf hZ e1 P0
  obtain ⟨_, _, ⟨T3, L3, k3, n3⟩, -, X3, ⟨Lc3, hQ3, l3, y3, z3⟩, st3⟩ := X1.virtualBack hx (y := yq40) (z := yq40) hown (mvT hZ (own_w hw 58 rfl)) (mvT hZ (own_w hw 59 rfl)) (notFace_of_selects (args := #[]) (mvT hZ (own_w hw 61 rfl))) (mvT hZ (own_w hw 61 rfl)) (mvT hZ (own_w hw 60 rfl)) (by decide) (backOf (W := 1) (rmCod0 l Z a0 hw [] a1 cs h0 n0 Z0 P1 P4 hcs) hZ (own_w hw 62 rfl) (own_w hw 27 rfl) (by decide) (by decide)) qa3 qc3 (g := (mkF m 6 #[rv a1] [.ref a1, .int 0])) rfl (by rw [hml]; rfl) (Steps.refl _) (argsL := []) (rest := [(.int 0)]) (lenOf pd___B rfl) rfl (by show 2 * 0 + _ ≤ _; exact Nat.le_of_eq rfl) (hb hby d11_6) (fun _ _ => ⟨rfl, e1, (by decide : 0 + 0 ≤ _), (by decide : 0 + 0 ≤ _)⟩)
  dsimp only [Pt.U, Pt.locs, Pt.cells, Pt.slots] at X3 l3 y3 z3 st3 hQ3
  subst l3 y3 z3
  obtain ⟨rfl, Nq3, e3⟩ := hQ3
  have Nf3 := Fr.app N0 Nq3
  refine own_fw (A' := (T3.setTop (mkF m 10 #[rv a1] [.int 0]))) (fun t k => st3.trans (XS.ishr X3.here hx rfl (hb hby d11_9) rfl k)) ?_
  obtain ⟨fs, hr, hrun, hended, hW, hsame⟩ := X3.leave (v := some (.int 0)) (fun h => by rw [Bd.returns] at h; cases h)
  refine ⟨_, _, ?_, hrun, hended, _, _, rfl, ?_, ⟨_, rfl⟩, hW, hsame.mono (by decide) (by decide)⟩
  · exact retOut X3 hx Bd.returns rfl (Or.inl ⟨rfl, by simp, _, rfl⟩) (hb hby d11_10) hr
  · show Q_rmLnL0 Z a1 b1 k1 cs h0 n0 _ T3.heap _
    rw [e3]
    exact ⟨rfl, Nf3, rfl⟩
theorem ef_rmLnL1 (m : MethodId) (a1 : Addr) : entryFrame m #[(.ref a1)] 1 = mkF m 0 #[.val (.ref a1)] [] := by first | (simp [entryFrame, mkF, argsToLocals, Value.category]; done) | rfl
def Q_rmLnL1 (Z : State) (a1 b1 : Addr) (k1 : ClassId) (cs x0 : Int32) (h0 : Heap) (n0 : Nat) (v : Option Value) (h : Heap) (L : List Loc) : Prop := v = some (.int 1) ∧ Fr n0 L ∧ h = h0
theorem rmLnL1 (l : Launch) (Z : State) (a0 : Array Value) (hw : ∀ d ∈ tables_1, d.before a0 Z = true) (ws : List Jvm.Cond) (a1 b1 : Addr) (k1 : ClassId) (cs x0 : Int32) (h0 : Heap) (n0 : Nat) (Z0 : n0 ≤ h0.size) (P0 : Exa Z h0 a1 "java/lang/String") (P1 : Fld Z h0 a1 "java/lang/String" "coder" "B" (.int 0)) (P2 : Fld Z h0 a1 "java/lang/String" "value" "[B" (.ref b1)) (P3 : Arv Z h0 b1 k1 .byte (1 : Int32) [(.int x0)] (.int 0)) (P4 : Sta Z h0 "java/lang/String" "COMPACT_STRINGS" "Z" (.int cs)) (hcs : ¬ (cs = (0 : Int32))) :
    MetFree l yq43 (head1 (Jvm.Cond.code yq43 jdk_42_method_54_code 1 (some .int) :: ws) rq42) (fun a U => a = #[(.ref a1)] ∧ Z.Warmed39 U.vm ∧ U.heap = h0) (fun _ _ _ _ _ => True) (fun _ U o U' => ∃ v L, o = .returned v ∧ Q_rmLnL1 Z a1 b1 k1 cs x0 h0 n0 v U'.heap L ∧ FrameEnd U o U' L rq42.cells rq42.slots) := by
  refine MetFree.of_bodySF (plainFor_of_name pn_java_lang_String) hisR ?_
  intro p e s m args below meth c s₁ Bd hml0 hP hK
  obtain ⟨rfl, hZ, hh⟩ := hP
  have hx := Bd.exec
  have hby := Bd.bytes
  have hml : c.maxLocals = 1 := hml0
  have hown : s.vm.findClass "java/lang/String" = some m.cls := findClass_of_methodNamed Bd.named
  have hnm := (name_of_methodNamed Bd.named Bd.method).1
  have X0 : Stand p l e rq42 s m #[(.ref a1)] below meth c s₁ [] 0 0 := Stand.of_body Bd
  have e0 : s₁.heap = h0 := by rw [← hh, Bd.state]; rfl
  have N0 := Fr.nil n0
  refine own_fw (A' := (s₁.setTop (mkF m 1 #[rv a1] [.ref a1]))) (fun t k => castTop (ef_rmLnL1 m a1) (XS.aloadN X0.here hx rfl (hb hby d11_0) rfl rfl k)) ?_
  obtain ⟨T1, X1, e1, st1⟩ := getF X0 hx hZ hown (host := "") (Or.inl (own_w hw 51 rfl)) Via.refl e0 P2 (g := (mkF m 1 #[rv a1] [.ref a1])) rfl rfl (hb hby d11_1)
  refine own_fw (A' := (T1.setTop (mkF m 4 #[rv a1] [.ref b1]))) (fun t k => st1 _ k) ?_
  obtain ⟨cl2, Ar2, q2, S2, M2, H2, G2⟩ := id P3
  refine own_fw (A' := (T1.setTop (mkF m 5 #[rv a1] [.int 1]))) (fun t k => X1.arraylength hx (by rw [e1]; exact Ar2.1) (State.isArrayOf_alike hZ.alike Ar2.2.1) (g := (mkF m 4 #[rv a1] [.ref b1])) rfl rfl (hb hby d11_4) _ (by rw [len_of S2 M2]; exact k)) ?_
  refine own_fw (A' := (T1.setTop (mkF m 6 #[rv a1] [.ref a1, .int 1]))) (fun t k => XS.aloadN X1.here hx rfl (hb hby d11_5) rfl rfl k) ?_
  obtain ⟨cq3, kq3, qa3, qb3, qc3⟩ := isOf hZ e1 P0
  obtain ⟨_, _, ⟨T3, L3, k3, n3⟩, -, X3, ⟨Lc3, hQ3, l3, y3, z3⟩, st3⟩ := X1.virtualBack hx (y := yq40) (z := yq40) hown (mvT hZ (own_w hw 58 rfl)) (mvT hZ (own_w hw 59 rfl)) (notFace_of_selects (args := #[]) (mvT hZ (own_w hw 61 rfl))) (mvT hZ (own_w hw 61 rfl)) (mvT hZ (own_w hw 60 rfl)) (by decide) (backOf (W := 1) (rmCod0 l Z a0 hw [] a1 cs h0 n0 Z0 P1 P4 hcs) hZ (own_w hw 62 rfl) (own_w hw 27 rfl) (by decide) (by decide)) qa3 qc3 (g := (mkF m 6 #[rv a1] [.ref a1, .int 1])) rfl (by rw [hml]; rfl) (Steps.refl _) (argsL := []) (rest := [(.int 1)]) (lenOf pd___B rfl) rfl (by show 2 * 0 + _ ≤ _; exact Nat.le_of_eq rfl) (hb hby d11_6) (fun _ _ => ⟨rfl, e1, (by decide : 0 + 0 ≤ _), (by decide : 0 + 0 ≤ _)⟩)
  dsimp only [Pt.U, Pt.locs, Pt.cells, Pt.slots] at X3 l3 y3 z3 st3 hQ3
  subst l3 y3 z3
  obtain ⟨rfl, Nq3, e3⟩ := hQ3
  have Nf3 := Fr.app N0 Nq3
  refine own_fw (A' := (T3.setTop (mkF m 10 #[rv a1] [.int 1]))) (fun t k => st3.trans (XS.ishr X3.here hx rfl (hb hby d11_9) rfl k)) ?_
  obtain ⟨fs, hr, hrun, hended, hW, hsame⟩ := X3.leave (v := some (.int 1)) (fun h => by rw [Bd.returns] at h; cases h)
  refine ⟨_, _, ?_, hrun, hended, _, _, rfl, ?_, ⟨_, rfl⟩, hW, hsame.mono (by decide) (by decide)⟩
  · exact retOut X3 hx Bd.returns rfl (Or.inl ⟨rfl, by simp, _, rfl⟩) (hb hby d11_10) hr
  · show Q_rmLnL1 Z a1 b1 k1 cs x0 h0 n0 _ T3.heap _
    rw [e3]
    exact ⟨rfl, Nf3, rfl⟩
theorem ef_rmLnL2 (m : MethodId) (a1 : Addr) : entryFrame m #[(.ref a1)] 1 = mkF m 0 #[.val (.ref a1)] [] := by first | (simp [entryFrame, mkF, argsToLocals, Value.category]; done) | rfl
def Q_rmLnL2 (Z : State) (a1 b1 : Addr) (k1 : ClassId) (cs x0 x1 : Int32) (h0 : Heap) (n0 : Nat) (v : Option Value) (h : Heap) (L : List Loc) : Prop := v = some (.int 2) ∧ Fr n0 L ∧ h = h0
theorem rmLnL2 (l : Launch) (Z : State) (a0 : Array Value) (hw : ∀ d ∈ tables_1, d.before a0 Z = true) (ws : List Jvm.Cond) (a1 b1 : Addr) (k1 : ClassId) (cs x0 x1 : Int32) (h0 : Heap) (n0 : Nat) (Z0 : n0 ≤ h0.size) (P0 : Exa Z h0 a1 "java/lang/String") (P1 : Fld Z h0 a1 "java/lang/String" "coder" "B" (.int 0)) (P2 : Fld Z h0 a1 "java/lang/String" "value" "[B" (.ref b1)) (P3 : Arv Z h0 b1 k1 .byte (2 : Int32) [(.int x0), (.int x1)] (.int 0)) (P4 : Sta Z h0 "java/lang/String" "COMPACT_STRINGS" "Z" (.int cs)) (hcs : ¬ (cs = (0 : Int32))) :
    MetFree l yq43 (head1 (Jvm.Cond.code yq43 jdk_42_method_54_code 1 (some .int) :: ws) rq42) (fun a U => a = #[(.ref a1)] ∧ Z.Warmed39 U.vm ∧ U.heap = h0) (fun _ _ _ _ _ => True) (fun _ U o U' => ∃ v L, o = .returned v ∧ Q_rmLnL2 Z a1 b1 k1 cs x0 x1 h0 n0 v U'.heap L ∧ FrameEnd U o U' L rq42.cells rq42.slots) := by
  refine MetFree.of_bodySF (plainFor_of_name pn_java_lang_String) hisR ?_
  intro p e s m args below meth c s₁ Bd hml0 hP hK
  obtain ⟨rfl, hZ, hh⟩ := hP
  have hx := Bd.exec
  have hby := Bd.bytes
  have hml : c.maxLocals = 1 := hml0
  have hown : s.vm.findClass "java/lang/String" = some m.cls := findClass_of_methodNamed Bd.named
  have hnm := (name_of_methodNamed Bd.named Bd.method).1
  have X0 : Stand p l e rq42 s m #[(.ref a1)] below meth c s₁ [] 0 0 := Stand.of_body Bd
  have e0 : s₁.heap = h0 := by rw [← hh, Bd.state]; rfl
  have N0 := Fr.nil n0
  refine own_fw (A' := (s₁.setTop (mkF m 1 #[rv a1] [.ref a1]))) (fun t k => castTop (ef_rmLnL2 m a1) (XS.aloadN X0.here hx rfl (hb hby d11_0) rfl rfl k)) ?_
  obtain ⟨T1, X1, e1, st1⟩ := getF X0 hx hZ hown (host := "") (Or.inl (own_w hw 51 rfl)) Via.refl e0 P2 (g := (mkF m 1 #[rv a1] [.ref a1])) rfl rfl (hb hby d11_1)
  refine own_fw (A' := (T1.setTop (mkF m 4 #[rv a1] [.ref b1]))) (fun t k => st1 _ k) ?_
  obtain ⟨cl2, Ar2, q2, S2, M2, H2, G2⟩ := id P3
  refine own_fw (A' := (T1.setTop (mkF m 5 #[rv a1] [.int 2]))) (fun t k => X1.arraylength hx (by rw [e1]; exact Ar2.1) (State.isArrayOf_alike hZ.alike Ar2.2.1) (g := (mkF m 4 #[rv a1] [.ref b1])) rfl rfl (hb hby d11_4) _ (by rw [len_of S2 M2]; exact k)) ?_
  refine own_fw (A' := (T1.setTop (mkF m 6 #[rv a1] [.ref a1, .int 2]))) (fun t k => XS.aloadN X1.here hx rfl (hb hby d11_5) rfl rfl k) ?_
  obtain ⟨cq3, kq3, qa3, qb3, qc3⟩ := isOf hZ e1 P0
  obtain ⟨_, _, ⟨T3, L3, k3, n3⟩, -, X3, ⟨Lc3, hQ3, l3, y3, z3⟩, st3⟩ := X1.virtualBack hx (y := yq40) (z := yq40) hown (mvT hZ (own_w hw 58 rfl)) (mvT hZ (own_w hw 59 rfl)) (notFace_of_selects (args := #[]) (mvT hZ (own_w hw 61 rfl))) (mvT hZ (own_w hw 61 rfl)) (mvT hZ (own_w hw 60 rfl)) (by decide) (backOf (W := 1) (rmCod0 l Z a0 hw [] a1 cs h0 n0 Z0 P1 P4 hcs) hZ (own_w hw 62 rfl) (own_w hw 27 rfl) (by decide) (by decide)) qa3 qc3 (g := (mkF m 6 #[rv a1] [.ref a1, .int 2])) rfl (by rw [hml]; rfl) (Steps.refl _) (argsL := []) (rest := [(.int 2)]) (lenOf pd___B rfl) rfl (by show 2 * 0 + _ ≤ _; exact Nat.le_of_eq rfl) (hb hby d11_6) (fun _ _ => ⟨rfl, e1, (by decide : 0 + 0 ≤ _), (by decide : 0 + 0 ≤ _)⟩)
  dsimp only [Pt.U, Pt.locs, Pt.cells, Pt.slots] at X3 l3 y3 z3 st3 hQ3
  subst l3 y3 z3
  obtain ⟨rfl, Nq3, e3⟩ := hQ3
  have Nf3 := Fr.app N0 Nq3
  refine own_fw (A' := (T3.setTop (mkF m 10 #[rv a1] [.int 2]))) (fun t k => st3.trans (XS.ishr X3.here hx rfl (hb hby d11_9) rfl k)) ?_
  obtain ⟨fs, hr, hrun, hended, hW, hsame⟩ := X3.leave (v := some (.int 2)) (fun h => by rw [Bd.returns] at h; cases h)
  refine ⟨_, _, ?_, hrun, hended, _, _, rfl, ?_, ⟨_, rfl⟩, hW, hsame.mono (by decide) (by decide)⟩
  · exact retOut X3 hx Bd.returns rfl (Or.inl ⟨rfl, by simp, _, rfl⟩) (hb hby d11_10) hr
  · show Q_rmLnL2 Z a1 b1 k1 cs x0 x1 h0 n0 _ T3.heap _
    rw [e3]
    exact ⟨rfl, Nf3, rfl⟩
theorem ef_rmLnL3 (m : MethodId) (a1 : Addr) : entryFrame m #[(.ref a1)] 1 = mkF m 0 #[.val (.ref a1)] [] := by first | (simp [entryFrame, mkF, argsToLocals, Value.category]; done) | rfl
def Q_rmLnL3 (Z : State) (a1 b1 : Addr) (k1 : ClassId) (cs x0 x1 x2 : Int32) (h0 : Heap) (n0 : Nat) (v : Option Value) (h : Heap) (L : List Loc) : Prop := v = some (.int 3) ∧ Fr n0 L ∧ h = h0
theorem rmLnL3 (l : Launch) (Z : State) (a0 : Array Value) (hw : ∀ d ∈ tables_1, d.before a0 Z = true) (ws : List Jvm.Cond) (a1 b1 : Addr) (k1 : ClassId) (cs x0 x1 x2 : Int32) (h0 : Heap) (n0 : Nat) (Z0 : n0 ≤ h0.size) (P0 : Exa Z h0 a1 "java/lang/String") (P1 : Fld Z h0 a1 "java/lang/String" "coder" "B" (.int 0)) (P2 : Fld Z h0 a1 "java/lang/String" "value" "[B" (.ref b1)) (P3 : Arv Z h0 b1 k1 .byte (3 : Int32) [(.int x0), (.int x1), (.int x2)] (.int 0)) (P4 : Sta Z h0 "java/lang/String" "COMPACT_STRINGS" "Z" (.int cs)) (hcs : ¬ (cs = (0 : Int32))) :
    MetFree l yq43 (head1 (Jvm.Cond.code yq43 jdk_42_method_54_code 1 (some .int) :: ws) rq42) (fun a U => a = #[(.ref a1)] ∧ Z.Warmed39 U.vm ∧ U.heap = h0) (fun _ _ _ _ _ => True) (fun _ U o U' => ∃ v L, o = .returned v ∧ Q_rmLnL3 Z a1 b1 k1 cs x0 x1 x2 h0 n0 v U'.heap L ∧ FrameEnd U o U' L rq42.cells rq42.slots) := by
  refine MetFree.of_bodySF (plainFor_of_name pn_java_lang_String) hisR ?_
  intro p e s m args below meth c s₁ Bd hml0 hP hK
  obtain ⟨rfl, hZ, hh⟩ := hP
  have hx := Bd.exec
  have hby := Bd.bytes
  have hml : c.maxLocals = 1 := hml0
  have hown : s.vm.findClass "java/lang/String" = some m.cls := findClass_of_methodNamed Bd.named
  have hnm := (name_of_methodNamed Bd.named Bd.method).1
  have X0 : Stand p l e rq42 s m #[(.ref a1)] below meth c s₁ [] 0 0 := Stand.of_body Bd
  have e0 : s₁.heap = h0 := by rw [← hh, Bd.state]; rfl
  have N0 := Fr.nil n0
  refine own_fw (A' := (s₁.setTop (mkF m 1 #[rv a1] [.ref a1]))) (fun t k => castTop (ef_rmLnL3 m a1) (XS.aloadN X0.here hx rfl (hb hby d11_0) rfl rfl k)) ?_
  obtain ⟨T1, X1, e1, st1⟩ := getF X0 hx hZ hown (host := "") (Or.inl (own_w hw 51 rfl)) Via.refl e0 P2 (g := (mkF m 1 #[rv a1] [.ref a1])) rfl rfl (hb hby d11_1)
  refine own_fw (A' := (T1.setTop (mkF m 4 #[rv a1] [.ref b1]))) (fun t k => st1 _ k) ?_
  obtain ⟨cl2, Ar2, q2, S2, M2, H2, G2⟩ := id P3
  refine own_fw (A' := (T1.setTop (mkF m 5 #[rv a1] [.int 3]))) (fun t k => X1.arraylength hx (by rw [e1]; exact Ar2.1) (State.isArrayOf_alike hZ.alike Ar2.2.1) (g := (mkF m 4 #[rv a1] [.ref b1])) rfl rfl (hb hby d11_4) _ (by rw [len_of S2 M2]; exact k)) ?_
  refine own_fw (A' := (T1.setTop (mkF m 6 #[rv a1] [.ref a1, .int 3]))) (fun t k => XS.aloadN X1.here hx rfl (hb hby d11_5) rfl rfl k) ?_
  obtain ⟨cq3, kq3, qa3, qb3, qc3⟩ := isOf hZ e1 P0
  obtain ⟨_, _, ⟨T3, L3, k3, n3⟩, -, X3, ⟨Lc3, hQ3, l3, y3, z3⟩, st3⟩ := X1.virtualBack hx (y := yq40) (z := yq40) hown (mvT hZ (own_w hw 58 rfl)) (mvT hZ (own_w hw 59 rfl)) (notFace_of_selects (args := #[]) (mvT hZ (own_w hw 61 rfl))) (mvT hZ (own_w hw 61 rfl)) (mvT hZ (own_w hw 60 rfl)) (by decide) (backOf (W := 1) (rmCod0 l Z a0 hw [] a1 cs h0 n0 Z0 P1 P4 hcs) hZ (own_w hw 62 rfl) (own_w hw 27 rfl) (by decide) (by decide)) qa3 qc3 (g := (mkF m 6 #[rv a1] [.ref a1, .int 3])) rfl (by rw [hml]; rfl) (Steps.refl _) (argsL := []) (rest := [(.int 3)]) (lenOf pd___B rfl) rfl (by show 2 * 0 + _ ≤ _; exact Nat.le_of_eq rfl) (hb hby d11_6) (fun _ _ => ⟨rfl, e1, (by decide : 0 + 0 ≤ _), (by decide : 0 + 0 ≤ _)⟩)
  dsimp only [Pt.U, Pt.locs, Pt.cells, Pt.slots] at X3 l3 y3 z3 st3 hQ3
  subst l3 y3 z3
  obtain ⟨rfl, Nq3, e3⟩ := hQ3
  have Nf3 := Fr.app N0 Nq3
  refine own_fw (A' := (T3.setTop (mkF m 10 #[rv a1] [.int 3]))) (fun t k => st3.trans (XS.ishr X3.here hx rfl (hb hby d11_9) rfl k)) ?_
  obtain ⟨fs, hr, hrun, hended, hW, hsame⟩ := X3.leave (v := some (.int 3)) (fun h => by rw [Bd.returns] at h; cases h)
  refine ⟨_, _, ?_, hrun, hended, _, _, rfl, ?_, ⟨_, rfl⟩, hW, hsame.mono (by decide) (by decide)⟩
  · exact retOut X3 hx Bd.returns rfl (Or.inl ⟨rfl, by simp, _, rfl⟩) (hb hby d11_10) hr
  · show Q_rmLnL3 Z a1 b1 k1 cs x0 x1 x2 h0 n0 _ T3.heap _
    rw [e3]
    exact ⟨rfl, Nf3, rfl⟩
theorem ef_rmLnU1 (m : MethodId) (a1 : Addr) : entryFrame m #[(.ref a1)] 1 = mkF m 0 #[.val (.ref a1)] [] := by first | (simp [entryFrame, mkF, argsToLocals, Value.category]; done) | rfl
def Q_rmLnU1 (Z : State) (a1 b1 : Addr) (k1 : ClassId) (cs x0 x1 : Int32) (h0 : Heap) (n0 : Nat) (v : Option Value) (h : Heap) (L : List Loc) : Prop := v = some (.int 1) ∧ Fr n0 L ∧ h = h0
theorem rmLnU1 (l : Launch) (Z : State) (a0 : Array Value) (hw : ∀ d ∈ tables_1, d.before a0 Z = true) (ws : List Jvm.Cond) (a1 b1 : Addr) (k1 : ClassId) (cs x0 x1 : Int32) (h0 : Heap) (n0 : Nat) (Z0 : n0 ≤ h0.size) (P0 : Exa Z h0 a1 "java/lang/String") (P1 : Fld Z h0 a1 "java/lang/String" "coder" "B" (.int 1)) (P2 : Fld Z h0 a1 "java/lang/String" "value" "[B" (.ref b1)) (P3 : Arv Z h0 b1 k1 .byte (2 : Int32) [(.int x0), (.int x1)] (.int 0)) (P4 : Sta Z h0 "java/lang/String" "COMPACT_STRINGS" "Z" (.int cs)) (hcs : ¬ (cs = (0 : Int32))) :
    MetFree l yq43 (head1 (Jvm.Cond.code yq43 jdk_42_method_54_code 1 (some .int) :: ws) rq42) (fun a U => a = #[(.ref a1)] ∧ Z.Warmed39 U.vm ∧ U.heap = h0) (fun _ _ _ _ _ => True) (fun _ U o U' => ∃ v L, o = .returned v ∧ Q_rmLnU1 Z a1 b1 k1 cs x0 x1 h0 n0 v U'.heap L ∧ FrameEnd U o U' L rq42.cells rq42.slots) := by
  refine MetFree.of_bodySF (plainFor_of_name pn_java_lang_String) hisR ?_
  intro p e s m args below meth c s₁ Bd hml0 hP hK
  obtain ⟨rfl, hZ, hh⟩ := hP
  have hx := Bd.exec
  have hby := Bd.bytes
  have hml : c.maxLocals = 1 := hml0
  have hown : s.vm.findClass "java/lang/String" = some m.cls := findClass_of_methodNamed Bd.named
  have hnm := (name_of_methodNamed Bd.named Bd.method).1
  have X0 : Stand p l e rq42 s m #[(.ref a1)] below meth c s₁ [] 0 0 := Stand.of_body Bd
  have e0 : s₁.heap = h0 := by rw [← hh, Bd.state]; rfl
  have N0 := Fr.nil n0
  refine own_fw (A' := (s₁.setTop (mkF m 1 #[rv a1] [.ref a1]))) (fun t k => castTop (ef_rmLnU1 m a1) (XS.aloadN X0.here hx rfl (hb hby d11_0) rfl rfl k)) ?_
  obtain ⟨T1, X1, e1, st1⟩ := getF X0 hx hZ hown (host := "") (Or.inl (own_w hw 51 rfl)) Via.refl e0 P2 (g := (mkF m 1 #[rv a1] [.ref a1])) rfl rfl (hb hby d11_1)
  refine own_fw (A' := (T1.setTop (mkF m 4 #[rv a1] [.ref b1]))) (fun t k => st1 _ k) ?_
  obtain ⟨cl2, Ar2, q2, S2, M2, H2, G2⟩ := id P3
  refine own_fw (A' := (T1.setTop (mkF m 5 #[rv a1] [.int 2]))) (fun t k => X1.arraylength hx (by rw [e1]; exact Ar2.1) (State.isArrayOf_alike hZ.alike Ar2.2.1) (g := (mkF m 4 #[rv a1] [.ref b1])) rfl rfl (hb hby d11_4) _ (by rw [len_of S2 M2]; exact k)) ?_
  refine own_fw (A' := (T1.setTop (mkF m 6 #[rv a1] [.ref a1, .int 2]))) (fun t k => XS.aloadN X1.here hx rfl (hb hby d11_5) rfl rfl k) ?_
  obtain ⟨cq3, kq3, qa3, qb3, qc3⟩ := isOf hZ e1 P0
  obtain ⟨_, _, ⟨T3, L3, k3, n3⟩, -, X3, ⟨Lc3, hQ3, l3, y3, z3⟩, st3⟩ := X1.virtualBack hx (y := yq40) (z := yq40) hown (mvT hZ (own_w hw 58 rfl)) (mvT hZ (own_w hw 59 rfl)) (notFace_of_selects (args := #[]) (mvT hZ (own_w hw 61 rfl))) (mvT hZ (own_w hw 61 rfl)) (mvT hZ (own_w hw 60 rfl)) (by decide) (backOf (W := 1) (rmCod1 l Z a0 hw [] a1 cs h0 n0 Z0 P1 P4 hcs) hZ (own_w hw 62 rfl) (own_w hw 27 rfl) (by decide) (by decide)) qa3 qc3 (g := (mkF m 6 #[rv a1] [.ref a1, .int 2])) rfl (by rw [hml]; rfl) (Steps.refl _) (argsL := []) (rest := [(.int 2)]) (lenOf pd___B rfl) rfl (by show 2 * 0 + _ ≤ _; exact Nat.le_of_eq rfl) (hb hby d11_6) (fun _ _ => ⟨rfl, e1, (by decide : 0 + 0 ≤ _), (by decide : 0 + 0 ≤ _)⟩)
  dsimp only [Pt.U, Pt.locs, Pt.cells, Pt.slots] at X3 l3 y3 z3 st3 hQ3
  subst l3 y3 z3
  obtain ⟨rfl, Nq3, e3⟩ := hQ3
  have Nf3 := Fr.app N0 Nq3
  refine own_fw (A' := (T3.setTop (mkF m 10 #[rv a1] [.int 1]))) (fun t k => st3.trans (XS.ishr X3.here hx rfl (hb hby d11_9) rfl k)) ?_
  obtain ⟨fs, hr, hrun, hended, hW, hsame⟩ := X3.leave (v := some (.int 1)) (fun h => by rw [Bd.returns] at h; cases h)
  refine ⟨_, _, ?_, hrun, hended, _, _, rfl, ?_, ⟨_, rfl⟩, hW, hsame.mono (by decide) (by decide)⟩
  · exact retOut X3 hx Bd.returns rfl (Or.inl ⟨rfl, by simp, _, rfl⟩) (hb hby d11_10) hr
  · show Q_rmLnU1 Z a1 b1 k1 cs x0 x1 h0 n0 _ T3.heap _
    rw [e3]
    exact ⟨rfl, Nf3, rfl⟩
theorem ef_rmLnU2 (m : MethodId) (a1 : Addr) : entryFrame m #[(.ref a1)] 1 = mkF m 0 #[.val (.ref a1)] [] := by first | (simp [entryFrame, mkF, argsToLocals, Value.category]; done) | rfl
def Q_rmLnU2 (Z : State) (a1 b1 : Addr) (k1 : ClassId) (cs x0 x1 x2 x3 : Int32) (h0 : Heap) (n0 : Nat) (v : Option Value) (h : Heap) (L : List Loc) : Prop := v = some (.int 2) ∧ Fr n0 L ∧ h = h0
theorem rmLnU2 (l : Launch) (Z : State) (a0 : Array Value) (hw : ∀ d ∈ tables_1, d.before a0 Z = true) (ws : List Jvm.Cond) (a1 b1 : Addr) (k1 : ClassId) (cs x0 x1 x2 x3 : Int32) (h0 : Heap) (n0 : Nat) (Z0 : n0 ≤ h0.size) (P0 : Exa Z h0 a1 "java/lang/String") (P1 : Fld Z h0 a1 "java/lang/String" "coder" "B" (.int 1)) (P2 : Fld Z h0 a1 "java/lang/String" "value" "[B" (.ref b1)) (P3 : Arv Z h0 b1 k1 .byte (4 : Int32) [(.int x0), (.int x1), (.int x2), (.int x3)] (.int 0)) (P4 : Sta Z h0 "java/lang/String" "COMPACT_STRINGS" "Z" (.int cs)) (hcs : ¬ (cs = (0 : Int32))) :
    MetFree l yq43 (head1 (Jvm.Cond.code yq43 jdk_42_method_54_code 1 (some .int) :: ws) rq42) (fun a U => a = #[(.ref a1)] ∧ Z.Warmed39 U.vm ∧ U.heap = h0) (fun _ _ _ _ _ => True) (fun _ U o U' => ∃ v L, o = .returned v ∧ Q_rmLnU2 Z a1 b1 k1 cs x0 x1 x2 x3 h0 n0 v U'.heap L ∧ FrameEnd U o U' L rq42.cells rq42.slots) := by
  refine MetFree.of_bodySF (plainFor_of_name pn_java_lang_String) hisR ?_
  intro p e s m args below meth c s₁ Bd hml0 hP hK
  obtain ⟨rfl, hZ, hh⟩ := hP
  have hx := Bd.exec
  have hby := Bd.bytes
  have hml : c.maxLocals = 1 := hml0
  have hown : s.vm.findClass "java/lang/String" = some m.cls := findClass_of_methodNamed Bd.named
  have hnm := (name_of_methodNamed Bd.named Bd.method).1
  have X0 : Stand p l e rq42 s m #[(.ref a1)] below meth c s₁ [] 0 0 := Stand.of_body Bd
  have e0 : s₁.heap = h0 := by rw [← hh, Bd.state]; rfl
  have N0 := Fr.nil n0
  refine own_fw (A' := (s₁.setTop (mkF m 1 #[rv a1] [.ref a1]))) (fun t k => castTop (ef_rmLnU2 m a1) (XS.aloadN X0.here hx rfl (hb hby d11_0) rfl rfl k)) ?_
  obtain ⟨T1, X1, e1, st1⟩ := getF X0 hx hZ hown (host := "") (Or.inl (own_w hw 51 rfl)) Via.refl e0 P2 (g := (mkF m 1 #[rv a1] [.ref a1])) rfl rfl (hb hby d11_1)
  refine own_fw (A' := (T1.setTop (mkF m 4 #[rv a1] [.ref b1]))) (fun t k => st1 _ k) ?_
  obtain ⟨cl2, Ar2, q2, S2, M2, H2, G2⟩ := id P3
  refine own_fw (A' := (T1.setTop (mkF m 5 #[rv a1] [.int 4]))) (fun t k => X1.arraylength hx (by rw [e1]; exact Ar2.1) (State.isArrayOf_alike hZ.alike Ar2.2.1) (g := (mkF m 4 #[rv a1] [.ref b1])) rfl rfl (hb hby d11_4) _ (by rw [len_of S2 M2]; exact k)) ?_
  refine own_fw (A' := (T1.setTop (mkF m 6 #[rv a1] [.ref a1, .int 4]))) (fun t k => XS.aloadN X1.here hx rfl (hb hby d11_5) rfl rfl k) ?_
  obtain ⟨cq3, kq3, qa3, qb3, qc3⟩ := isOf hZ e1 P0
  obtain ⟨_, _, ⟨T3, L3, k3, n3⟩, -, X3, ⟨Lc3, hQ3, l3, y3, z3⟩, st3⟩ := X1.virtualBack hx (y := yq40) (z := yq40) hown (mvT hZ (own_w hw 58 rfl)) (mvT hZ (own_w hw 59 rfl)) (notFace_of_selects (args := #[]) (mvT hZ (own_w hw 61 rfl))) (mvT hZ (own_w hw 61 rfl)) (mvT hZ (own_w hw 60 rfl)) (by decide) (backOf (W := 1) (rmCod1 l Z a0 hw [] a1 cs h0 n0 Z0 P1 P4 hcs) hZ (own_w hw 62 rfl) (own_w hw 27 rfl) (by decide) (by decide)) qa3 qc3 (g := (mkF m 6 #[rv a1] [.ref a1, .int 4])) rfl (by rw [hml]; rfl) (Steps.refl _) (argsL := []) (rest := [(.int 4)]) (lenOf pd___B rfl) rfl (by show 2 * 0 + _ ≤ _; exact Nat.le_of_eq rfl) (hb hby d11_6) (fun _ _ => ⟨rfl, e1, (by decide : 0 + 0 ≤ _), (by decide : 0 + 0 ≤ _)⟩)
  dsimp only [Pt.U, Pt.locs, Pt.cells, Pt.slots] at X3 l3 y3 z3 st3 hQ3
  subst l3 y3 z3
  obtain ⟨rfl, Nq3, e3⟩ := hQ3
  have Nf3 := Fr.app N0 Nq3
  refine own_fw (A' := (T3.setTop (mkF m 10 #[rv a1] [.int 2]))) (fun t k => st3.trans (XS.ishr X3.here hx rfl (hb hby d11_9) rfl k)) ?_
  obtain ⟨fs, hr, hrun, hended, hW, hsame⟩ := X3.leave (v := some (.int 2)) (fun h => by rw [Bd.returns] at h; cases h)
  refine ⟨_, _, ?_, hrun, hended, _, _, rfl, ?_, ⟨_, rfl⟩, hW, hsame.mono (by decide) (by decide)⟩
  · exact retOut X3 hx Bd.returns rfl (Or.inl ⟨rfl, by simp, _, rfl⟩) (hb hby d11_10) hr
  · show Q_rmLnU2 Z a1 b1 k1 cs x0 x1 x2 x3 h0 n0 _ T3.heap _
    rw [e3]
    exact ⟨rfl, Nf3, rfl⟩
theorem ef_rmLnU3 (m : MethodId) (a1 : Addr) : entryFrame m #[(.ref a1)] 1 = mkF m 0 #[.val (.ref a1)] [] := by first | (simp [entryFrame, mkF, argsToLocals, Value.category]; done) | rfl
def Q_rmLnU3 (Z : State) (a1 b1 : Addr) (k1 : ClassId) (cs x0 x1 x2 x3 x4 x5 : Int32) (h0 : Heap) (n0 : Nat) (v : Option Value) (h : Heap) (L : List Loc) : Prop := v = some (.int 3) ∧ Fr n0 L ∧ h = h0
theorem rmLnU3 (l : Launch) (Z : State) (a0 : Array Value) (hw : ∀ d ∈ tables_1, d.before a0 Z = true) (ws : List Jvm.Cond) (a1 b1 : Addr) (k1 : ClassId) (cs x0 x1 x2 x3 x4 x5 : Int32) (h0 : Heap) (n0 : Nat) (Z0 : n0 ≤ h0.size) (P0 : Exa Z h0 a1 "java/lang/String") (P1 : Fld Z h0 a1 "java/lang/String" "coder" "B" (.int 1)) (P2 : Fld Z h0 a1 "java/lang/String" "value" "[B" (.ref b1)) (P3 : Arv Z h0 b1 k1 .byte (6 : Int32) [(.int x0), (.int x1), (.int x2), (.int x3), (.int x4), (.int x5)] (.int 0)) (P4 : Sta Z h0 "java/lang/String" "COMPACT_STRINGS" "Z" (.int cs)) (hcs : ¬ (cs = (0 : Int32))) :
    MetFree l yq43 (head1 (Jvm.Cond.code yq43 jdk_42_method_54_code 1 (some .int) :: ws) rq42) (fun a U => a = #[(.ref a1)] ∧ Z.Warmed39 U.vm ∧ U.heap = h0) (fun _ _ _ _ _ => True) (fun _ U o U' => ∃ v L, o = .returned v ∧ Q_rmLnU3 Z a1 b1 k1 cs x0 x1 x2 x3 x4 x5 h0 n0 v U'.heap L ∧ FrameEnd U o U' L rq42.cells rq42.slots) := by
  refine MetFree.of_bodySF (plainFor_of_name pn_java_lang_String) hisR ?_
  intro p e s m args below meth c s₁ Bd hml0 hP hK
  obtain ⟨rfl, hZ, hh⟩ := hP
  have hx := Bd.exec
  have hby := Bd.bytes
  have hml : c.maxLocals = 1 := hml0
  have hown : s.vm.findClass "java/lang/String" = some m.cls := findClass_of_methodNamed Bd.named
  have hnm := (name_of_methodNamed Bd.named Bd.method).1
  have X0 : Stand p l e rq42 s m #[(.ref a1)] below meth c s₁ [] 0 0 := Stand.of_body Bd
  have e0 : s₁.heap = h0 := by rw [← hh, Bd.state]; rfl
  have N0 := Fr.nil n0
  refine own_fw (A' := (s₁.setTop (mkF m 1 #[rv a1] [.ref a1]))) (fun t k => castTop (ef_rmLnU3 m a1) (XS.aloadN X0.here hx rfl (hb hby d11_0) rfl rfl k)) ?_
  obtain ⟨T1, X1, e1, st1⟩ := getF X0 hx hZ hown (host := "") (Or.inl (own_w hw 51 rfl)) Via.refl e0 P2 (g := (mkF m 1 #[rv a1] [.ref a1])) rfl rfl (hb hby d11_1)
  refine own_fw (A' := (T1.setTop (mkF m 4 #[rv a1] [.ref b1]))) (fun t k => st1 _ k) ?_
  obtain ⟨cl2, Ar2, q2, S2, M2, H2, G2⟩ := id P3
  refine own_fw (A' := (T1.setTop (mkF m 5 #[rv a1] [.int 6]))) (fun t k => X1.arraylength hx (by rw [e1]; exact Ar2.1) (State.isArrayOf_alike hZ.alike Ar2.2.1) (g := (mkF m 4 #[rv a1] [.ref b1])) rfl rfl (hb hby d11_4) _ (by rw [len_of S2 M2]; exact k)) ?_
  refine own_fw (A' := (T1.setTop (mkF m 6 #[rv a1] [.ref a1, .int 6]))) (fun t k => XS.aloadN X1.here hx rfl (hb hby d11_5) rfl rfl k) ?_
  obtain ⟨cq3, kq3, qa3, qb3, qc3⟩ := isOf hZ e1 P0
  obtain ⟨_, _, ⟨T3, L3, k3, n3⟩, -, X3, ⟨Lc3, hQ3, l3, y3, z3⟩, st3⟩ := X1.virtualBack hx (y := yq40) (z := yq40) hown (mvT hZ (own_w hw 58 rfl)) (mvT hZ (own_w hw 59 rfl)) (notFace_of_selects (args := #[]) (mvT hZ (own_w hw 61 rfl))) (mvT hZ (own_w hw 61 rfl)) (mvT hZ (own_w hw 60 rfl)) (by decide) (backOf (W := 1) (rmCod1 l Z a0 hw [] a1 cs h0 n0 Z0 P1 P4 hcs) hZ (own_w hw 62 rfl) (own_w hw 27 rfl) (by decide) (by decide)) qa3 qc3 (g := (mkF m 6 #[rv a1] [.ref a1, .int 6])) rfl (by rw [hml]; rfl) (Steps.refl _) (argsL := []) (rest := [(.int 6)]) (lenOf pd___B rfl) rfl (by show 2 * 0 + _ ≤ _; exact Nat.le_of_eq rfl) (hb hby d11_6) (fun _ _ => ⟨rfl, e1, (by decide : 0 + 0 ≤ _), (by decide : 0 + 0 ≤ _)⟩)
  dsimp only [Pt.U, Pt.locs, Pt.cells, Pt.slots] at X3 l3 y3 z3 st3 hQ3
  subst l3 y3 z3
  obtain ⟨rfl, Nq3, e3⟩ := hQ3
  have Nf3 := Fr.app N0 Nq3
  refine own_fw (A' := (T3.setTop (mkF m 10 #[rv a1] [.int 3]))) (fun t k => st3.trans (XS.ishr X3.here hx rfl (hb hby d11_9) rfl k)) ?_
  obtain ⟨fs, hr, hrun, hended, hW, hsame⟩ := X3.leave (v := some (.int 3)) (fun h => by rw [Bd.returns] at h; cases h)
  refine ⟨_, _, ?_, hrun, hended, _, _, rfl, ?_, ⟨_, rfl⟩, hW, hsame.mono (by decide) (by decide)⟩
  · exact retOut X3 hx Bd.returns rfl (Or.inl ⟨rfl, by simp, _, rfl⟩) (hb hby d11_10) hr
  · show Q_rmLnU3 Z a1 b1 k1 cs x0 x1 x2 x3 x4 x5 h0 n0 _ T3.heap _
    rw [e3]
    exact ⟨rfl, Nf3, rfl⟩
theorem pn_java_lang_StringLatin1 : plainName "java/lang/StringLatin1" = true := by first | (simp [plainName, overriddenIn]; done) | decide +kernel
theorem d15_0 : decode jdk_43_method_2_code 0 = .ok (.iload_n 1, 1) := by decide +kernel
theorem d15_1 : decode jdk_43_method_2_code 1 = .ok (.aload_n 0, 1) := by decide +kernel
theorem d15_2 : decode jdk_43_method_2_code 2 = .ok (.arraylength, 1) := by decide +kernel
theorem d15_3 : decode jdk_43_method_2_code 3 = .ok (.invokestatic 9, 3) := by decide +kernel
theorem pd__II_V : parseMethodDescriptor "(II)V" = some ⟨[.int, .int], none⟩ := by decide +kernel
theorem d15_6 : decode jdk_43_method_2_code 6 = .ok (.aload_n 0, 1) := by decide +kernel
theorem d15_7 : decode jdk_43_method_2_code 7 = .ok (.iload_n 1, 1) := by decide +kernel
theorem d15_8 : decode jdk_43_method_2_code 8 = .ok (.baload, 1) := by decide +kernel
theorem d15_9 : decode jdk_43_method_2_code 9 = .ok (.sipush 255, 3) := by decide +kernel
theorem d15_12 : decode jdk_43_method_2_code 12 = .ok (.iand, 1) := by decide +kernel
theorem d15_13 : decode jdk_43_method_2_code 13 = .ok (.i2c, 1) := by decide +kernel
theorem d15_14 : decode jdk_43_method_2_code 14 = .ok (.ireturn, 1) := by decide +kernel
theorem ef_rmLch (m : MethodId) (a1 : Addr) : entryFrame m #[(.ref a1), (.int 0)] 2 = mkF m 0 #[.val (.ref a1), .val (.int 0)] [] := by first | (simp [entryFrame, mkF, argsToLocals, Value.category]; done) | rfl
def Q_rmLch (Z : State) (a1 : Addr) (k1 : ClassId) (sv : Value) (x0 : Int32) (h0 : Heap) (n0 : Nat) (v : Option Value) (h : Heap) (L : List Loc) : Prop := v = some (.int (own_cl x0)) ∧ Fr n0 L ∧ h = h0
theorem rmLch (l : Launch) (Z : State) (a0 : Array Value) (hw : ∀ d ∈ tables_1, d.before a0 Z = true) (ws : List Jvm.Cond) (a1 : Addr) (k1 : ClassId) (sv : Value) (x0 : Int32) (h0 : Heap) (n0 : Nat) (Z0 : n0 ≤ h0.size) (P0 : Arv Z h0 a1 k1 .byte (1 : Int32) [(.int x0)] (.int 0)) (P1 : Sta Z h0 "jdk/internal/util/Preconditions" "SIOOBE_FORMATTER" "Ljava/util/function/BiFunction;" sv) (hsv : sv.isRef = true) :
    MetFree l yq45 (head1 (Jvm.Cond.code yq45 jdk_43_method_2_code 2 (some .char) :: ws) rq44) (fun a U => a = #[(.ref a1), (.int 0)] ∧ Z.Warmed39 U.vm ∧ U.heap = h0) (fun _ _ _ _ _ => True) (fun _ U o U' => ∃ v L, o = .returned v ∧ Q_rmLch Z a1 k1 sv x0 h0 n0 v U'.heap L ∧ FrameEnd U o U' L rq44.cells rq44.slots) := by
  refine MetFree.of_bodySF (plainFor_of_name pn_java_lang_StringLatin1) hisR ?_
  intro p e s m args below meth c s₁ Bd hml0 hP hK
  obtain ⟨rfl, hZ, hh⟩ := hP
  have hx := Bd.exec
  have hby := Bd.bytes
  have hml : c.maxLocals = 2 := hml0
  have hown : s.vm.findClass "java/lang/StringLatin1" = some m.cls := findClass_of_methodNamed Bd.named
  have hnm := (name_of_methodNamed Bd.named Bd.method).1
  have X0 : Stand p l e rq44 s m #[(.ref a1), (.int 0)] below meth c s₁ [] 0 0 := Stand.of_body Bd
  have e0 : s₁.heap = h0 := by rw [← hh, Bd.state]; rfl
  have N0 := Fr.nil n0
  refine own_fw (A' := (s₁.setTop (mkF m 2 #[rv a1, iv 0] [.ref a1, .int 0]))) (fun t k => castTop (ef_rmLch m a1) (XS.iloadN X0.here hx rfl (hb hby d15_0) rfl (XS.aloadN X0.here hx rfl (hb hby d15_1) rfl rfl k))) ?_
  obtain ⟨cl1, Ar1, q1, S1, M1, H1, G1⟩ := id P0
  refine own_fw (A' := (s₁.setTop (mkF m 3 #[rv a1, iv 0] [.int 1, .int 0]))) (fun t k => X0.arraylength hx (by rw [e0]; exact Ar1.1) (State.isArrayOf_alike hZ.alike Ar1.2.1) (g := (mkF m 2 #[rv a1, iv 0] [.ref a1, .int 0])) rfl rfl (hb hby d15_2) _ (by rw [len_of S1 M1]; exact k)) ?_
  obtain ⟨_, _, ⟨T2, L2, k2, n2⟩, -, X2, ⟨Lc2, hQ2, l2, y2, z2⟩, st2⟩ := Jvm.LawKit.callS X0 hx (y := yq39) hown (mvT hZ (own_w hw 77 rfl)) (mvT hZ (own_w hw 78 rfl)) (mvT hZ (own_w hw 27 rfl)) (mvT hZ (own_w hw 79 rfl)) (by decide) (backOf (W := 0) (rmCk l Z a0 hw [] (0 : Int32) (1 : Int32) sv h0 n0 Z0 P1 hsv (by decide) (by decide)) hZ (own_w hw 79 rfl) (own_w hw 27 rfl) (by decide) (by decide)) (g := (mkF m 3 #[rv a1, iv 0] [.int 1, .int 0])) rfl (by rw [hml]; rfl) (argsL := [(.int 0), (.int 1)]) (rest := []) (lenOf pd__II_V rfl) rfl (by show 2 * 0 + _ ≤ _; exact Nat.le_of_eq rfl) (hb hby d15_3) (fun _ _ => ⟨rfl, e0, (by decide : 0 + 0 ≤ _), (by decide : 0 + 0 ≤ _)⟩)
  dsimp only [Pt.U, Pt.locs, Pt.cells, Pt.slots] at X2 l2 y2 z2 st2 hQ2
  subst l2 y2 z2
  obtain ⟨rfl, Nq2, e2⟩ := hQ2
  have Nf2 := Fr.app N0 Nq2
  refine own_fw (A' := (T2.setTop (mkF m 8 #[rv a1, iv 0] [.int 0, .ref a1]))) (fun t k => st2 _ (XS.aloadN X2.here hx rfl (hb hby d15_6) rfl rfl (XS.iloadN X2.here hx rfl (hb hby d15_7) rfl k))) ?_
  obtain ⟨cl3, Ar3, q3, S3, M3, H3, G3⟩ := id P0
  have hin3 : ¬ ((0 : Int32) < 0 ∨ cl3.slots.size ≤ ((0 : Int32)).toNatClampNeg) := inb_of S3 ⟨by decide, by decide⟩
  have hat3 : cl3.slots[((0 : Int32)).toNatClampNeg]? = some (.int x0) := H3.at hin3 rfl
  refine own_fw (A' := (T2.setTop (mkF m 14 #[rv a1, iv 0] [.int ((x0 &&& (255 : Int32)).toUInt32.toUInt16.toUInt32.toInt32)]))) (fun t k => X2.baloadBytes hx (j := (0 : Int32)) (v := (.int x0)) (by rw [e2]; exact Ar3.1) (State.isArrayOf_alike hZ.alike Ar3.2.1) Ar3.2.2 hin3 hat3 (g := (mkF m 8 #[rv a1, iv 0] [.int 0, .ref a1])) rfl rfl (hb hby d15_8) _ (XS.sipush X2.here hx rfl (hb hby d15_9) (XS.iand X2.here hx rfl (hb hby d15_12) rfl (XS.i2c X2.here hx rfl (hb hby d15_13) rfl k)))) ?_
  obtain ⟨fs, hr, hrun, hended, hW, hsame⟩ := X2.leave (v := some (.int ((x0 &&& (255 : Int32)).toUInt32.toUInt16.toUInt32.toInt32))) (fun h => by rw [Bd.returns] at h; cases h)
  refine ⟨_, _, ?_, hrun, hended, _, _, rfl, ?_, ⟨_, rfl⟩, hW, hsame.mono (by decide) (by decide)⟩
  · exact retOut X2 hx Bd.returns (XT.narrow_c _) (Or.inl ⟨rfl, by simp, _, rfl⟩) (hb hby d15_14) hr
  · show Q_rmLch Z a1 k1 sv x0 h0 n0 _ T2.heap _
    rw [e2]
    exact ⟨rfl, Nf2, rfl⟩
theorem d27_0 : decode jdk_52_method_6_code 0 = .ok (.aload_n 0, 1) := by decide +kernel
theorem d27_1 : decode jdk_52_method_6_code 1 = .ok (.arraylength, 1) := by decide +kernel
theorem d27_2 : decode jdk_52_method_6_code 2 = .ok (.iconst 1, 1) := by decide +kernel
theorem d27_3 : decode jdk_52_method_6_code 3 = .ok (.ishr, 1) := by decide +kernel
theorem d27_4 : decode jdk_52_method_6_code 4 = .ok (.ireturn, 1) := by decide +kernel
theorem ef_rmUln (m : MethodId) (a1 : Addr) : entryFrame m #[(.ref a1)] 1 = mkF m 0 #[.val (.ref a1)] [] := by first | (simp [entryFrame, mkF, argsToLocals, Value.category]; done) | rfl
def Q_rmUln (Z : State) (a1 : Addr) (k1 : ClassId) (x0 x1 : Int32) (h0 : Heap) (n0 : Nat) (v : Option Value) (h : Heap) (L : List Loc) : Prop := v = some (.int 1) ∧ Fr n0 L ∧ h = h0
theorem rmUln (l : Launch) (Z : State) (a0 : Array Value) (hw : ∀ d ∈ tables_1, d.before a0 Z = true) (ws : List Jvm.Cond) (a1 : Addr) (k1 : ClassId) (x0 x1 : Int32) (h0 : Heap) (n0 : Nat) (Z0 : n0 ≤ h0.size) (P0 : Arv Z h0 a1 k1 .byte (2 : Int32) [(.int x0), (.int x1)] (.int 0)) :
    MetFree l yq46 (head1 (Jvm.Cond.code yq46 jdk_52_method_6_code 1 (some .int) :: ws) rq0) (fun a U => a = #[(.ref a1)] ∧ Z.Warmed39 U.vm ∧ U.heap = h0) (fun _ _ _ _ _ => True) (fun _ U o U' => ∃ v L, o = .returned v ∧ Q_rmUln Z a1 k1 x0 x1 h0 n0 v U'.heap L ∧ FrameEnd U o U' L rq0.cells rq0.slots) := by
  refine MetFree.of_bodySF (plainFor_of_name pn_java_lang_StringUTF16) hisR ?_
  intro p e s m args below meth c s₁ Bd hml0 hP hK
  obtain ⟨rfl, hZ, hh⟩ := hP
  have hx := Bd.exec
  have hby := Bd.bytes
  have hml : c.maxLocals = 1 := hml0
  have hown : s.vm.findClass "java/lang/StringUTF16" = some m.cls := findClass_of_methodNamed Bd.named
  have hnm := (name_of_methodNamed Bd.named Bd.method).1
  have X0 : Stand p l e rq0 s m #[(.ref a1)] below meth c s₁ [] 0 0 := Stand.of_body Bd
  have e0 : s₁.heap = h0 := by rw [← hh, Bd.state]; rfl
  have N0 := Fr.nil n0
  refine own_fw (A' := (s₁.setTop (mkF m 1 #[rv a1] [.ref a1]))) (fun t k => castTop (ef_rmUln m a1) (XS.aloadN X0.here hx rfl (hb hby d27_0) rfl rfl k)) ?_
  obtain ⟨cl1, Ar1, q1, S1, M1, H1, G1⟩ := id P0
  refine own_fw (A' := (s₁.setTop (mkF m 2 #[rv a1] [.int 2]))) (fun t k => X0.arraylength hx (by rw [e0]; exact Ar1.1) (State.isArrayOf_alike hZ.alike Ar1.2.1) (g := (mkF m 1 #[rv a1] [.ref a1])) rfl rfl (hb hby d27_1) _ (by rw [len_of S1 M1]; exact k)) ?_
  refine own_fw (A' := (s₁.setTop (mkF m 4 #[rv a1] [.int 1]))) (fun t k => XS.iconst X0.here hx rfl (hb hby d27_2) (XS.ishr X0.here hx rfl (hb hby d27_3) rfl k)) ?_
  obtain ⟨fs, hr, hrun, hended, hW, hsame⟩ := X0.leave (v := some (.int 1)) (fun h => by rw [Bd.returns] at h; cases h)
  refine ⟨_, _, ?_, hrun, hended, _, _, rfl, ?_, ⟨_, rfl⟩, hW, hsame.mono (by decide) (by decide)⟩
  · exact retOut X0 hx Bd.returns rfl (Or.inl ⟨rfl, by simp, _, rfl⟩) (hb hby d27_4) hr
  · show Q_rmUln Z a1 k1 x0 x1 h0 n0 _ s₁.heap _
    rw [e0]
    exact ⟨rfl, N0, rfl⟩
theorem d26_0 : decode jdk_52_method_91_code 0 = .ok (.iload_n 0, 1) := by decide +kernel
theorem d26_1 : decode jdk_52_method_91_code 1 = .ok (.aload_n 1, 1) := by decide +kernel
theorem d26_2 : decode jdk_52_method_91_code 2 = .ok (.invokestatic 48, 3) := by decide +kernel
theorem pd___B_I : parseMethodDescriptor "([B)I" = some ⟨[(.array .byte)], some .int⟩ := by decide +kernel
theorem d26_5 : decode jdk_52_method_91_code 5 = .ok (.invokestatic 414, 3) := by decide +kernel
theorem d26_8 : decode jdk_52_method_91_code 8 = .ok (.return_, 1) := by decide +kernel
theorem ef_rmUck (m : MethodId) (a1 : Addr) : entryFrame m #[(.int 0), (.ref a1)] 2 = mkF m 0 #[.val (.int 0), .val (.ref a1)] [] := by first | (simp [entryFrame, mkF, argsToLocals, Value.category]; done) | rfl
def Q_rmUck (Z : State) (a1 : Addr) (k1 : ClassId) (sv : Value) (x0 x1 : Int32) (h0 : Heap) (n0 : Nat) (v : Option Value) (h : Heap) (L : List Loc) : Prop := v = none ∧ Fr n0 L ∧ h = h0
theorem rmUck (l : Launch) (Z : State) (a0 : Array Value) (hw : ∀ d ∈ tables_1, d.before a0 Z = true) (ws : List Jvm.Cond) (a1 : Addr) (k1 : ClassId) (sv : Value) (x0 x1 : Int32) (h0 : Heap) (n0 : Nat) (Z0 : n0 ≤ h0.size) (P0 : Arv Z h0 a1 k1 .byte (2 : Int32) [(.int x0), (.int x1)] (.int 0)) (P1 : Sta Z h0 "jdk/internal/util/Preconditions" "SIOOBE_FORMATTER" "Ljava/util/function/BiFunction;" sv) (hsv : sv.isRef = true) :
    MetFree l yq47 (head1 (Jvm.Cond.code yq47 jdk_52_method_91_code 2 none :: ws) rq44) (fun a U => a = #[(.int 0), (.ref a1)] ∧ Z.Warmed39 U.vm ∧ U.heap = h0) (fun _ _ _ _ _ => True) (fun _ U o U' => ∃ v L, o = .returned v ∧ Q_rmUck Z a1 k1 sv x0 x1 h0 n0 v U'.heap L ∧ FrameEnd U o U' L rq44.cells rq44.slots) := by
  refine MetFree.of_bodySF (plainFor_of_name pn_java_lang_StringUTF16) hisR ?_
  intro p e s m args below meth c s₁ Bd hml0 hP hK
  obtain ⟨rfl, hZ, hh⟩ := hP
  have hx := Bd.exec
  have hby := Bd.bytes
  have hml : c.maxLocals = 2 := hml0
  have hown : s.vm.findClass "java/lang/StringUTF16" = some m.cls := findClass_of_methodNamed Bd.named
  have hnm := (name_of_methodNamed Bd.named Bd.method).1
  have X0 : Stand p l e rq44 s m #[(.int 0), (.ref a1)] below meth c s₁ [] 0 0 := Stand.of_body Bd
  have e0 : s₁.heap = h0 := by rw [← hh, Bd.state]; rfl
  have N0 := Fr.nil n0
  refine own_fw (A' := (s₁.setTop (mkF m 2 #[iv 0, rv a1] [.ref a1, .int 0]))) (fun t k => castTop (ef_rmUck m a1) (XS.iloadN X0.here hx rfl (hb hby d26_0) rfl (XS.aloadN X0.here hx rfl (hb hby d26_1) rfl rfl k))) ?_
  obtain ⟨_, _, ⟨T1, L1, k1, n1⟩, -, X1, ⟨Lc1, hQ1, l1, y1, z1⟩, st1⟩ := Jvm.LawKit.callS X0 hx (y := yq46) hown (mvT hZ (own_w hw 123 rfl)) (mvT hZ (own_w hw 124 rfl)) (mvT hZ (own_w hw 40 rfl)) (mvT hZ (own_w hw 125 rfl)) (by decide) (backOf (W := 1) (rmUln l Z a0 hw [] a1 k1 x0 x1 h0 n0 Z0 P0) hZ (own_w hw 125 rfl) (own_w hw 40 rfl) (by decide) (by decide)) (g := (mkF m 2 #[iv 0, rv a1] [.ref a1, .int 0])) rfl (by rw [hml]; rfl) (argsL := [(.ref a1)]) (rest := [(.int 0)]) (lenOf pd___B_I rfl) rfl (by show 2 * 0 + _ ≤ _; exact Nat.le_of_eq rfl) (hb hby d26_2) (fun _ _ => ⟨rfl, e0, (by decide : 0 + 0 ≤ _), (by decide : 0 + 0 ≤ _)⟩)
  dsimp only [Pt.U, Pt.locs, Pt.cells, Pt.slots] at X1 l1 y1 z1 st1 hQ1
  subst l1 y1 z1
  obtain ⟨rfl, Nq1, e1⟩ := hQ1
  have Nf1 := Fr.app N0 Nq1
  refine own_fw (A' := (T1.setTop (mkF m 5 #[iv 0, rv a1] [.int 1, .int 0]))) (fun t k => st1 _ k) ?_
  obtain ⟨_, _, ⟨T2, L2, k2, n2⟩, -, X2, ⟨Lc2, hQ2, l2, y2, z2⟩, st2⟩ := Jvm.LawKit.callS X1 hx (y := yq39) hown (mvT hZ (own_w hw 126 rfl)) (mvT hZ (own_w hw 78 rfl)) (mvT hZ (own_w hw 27 rfl)) (mvT hZ (own_w hw 79 rfl)) (by decide) (backOf (W := 0) (rmCk l Z a0 hw [] (0 : Int32) (1 : Int32) sv h0 n0 Z0 P1 hsv (by decide) (by decide)) hZ (own_w hw 79 rfl) (own_w hw 27 rfl) (by decide) (by decide)) (g := (mkF m 5 #[iv 0, rv a1] [.int 1, .int 0])) rfl (by rw [hml]; rfl) (argsL := [(.int 0), (.int 1)]) (rest := []) (lenOf pd__II_V rfl) rfl (by show 2 * 0 + _ ≤ _; exact Nat.le_of_eq rfl) (hb hby d26_5) (fun _ _ => ⟨rfl, e1, (by decide : 0 + 0 ≤ _), (by decide : 0 + 0 ≤ _)⟩)
  dsimp only [Pt.U, Pt.locs, Pt.cells, Pt.slots] at X2 l2 y2 z2 st2 hQ2
  subst l2 y2 z2
  obtain ⟨rfl, Nq2, e2⟩ := hQ2
  have Nf2 := Fr.app Nf1 Nq2
  refine own_fw (A' := (T2.setTop (mkF m 8 #[iv 0, rv a1] []))) (fun t k => st2 _ k) ?_
  obtain ⟨fs, hr, hrun, hended, hW, hsame⟩ := X2.leave (v := none) (fun _ => rfl)
  refine ⟨_, _, ?_, hrun, hended, _, _, rfl, ?_, ⟨_, rfl⟩, hW, hsame.mono (by decide) (by decide)⟩
  · exact X2.returnOut hx Bd.returns (hb hby d26_8) hr
  · show Q_rmUck Z a1 k1 sv x0 x1 h0 n0 _ T2.heap _
    rw [e2]
    exact ⟨rfl, Nf2, rfl⟩
theorem d25_0 : decode jdk_52_method_83_code 0 = .ok (.iload_n 1, 1) := by decide +kernel
theorem d25_1 : decode jdk_52_method_83_code 1 = .ok (.aload_n 0, 1) := by decide +kernel
theorem d25_2 : decode jdk_52_method_83_code 2 = .ok (.invokestatic 67, 3) := by decide +kernel
theorem pd__I_B_V : parseMethodDescriptor "(I[B)V" = some ⟨[.int, (.array .byte)], none⟩ := by decide +kernel
theorem d25_5 : decode jdk_52_method_83_code 5 = .ok (.aload_n 0, 1) := by decide +kernel
theorem d25_6 : decode jdk_52_method_83_code 6 = .ok (.iload_n 1, 1) := by decide +kernel
theorem d25_7 : decode jdk_52_method_83_code 7 = .ok (.invokestatic 71, 3) := by decide +kernel
theorem d25_10 : decode jdk_52_method_83_code 10 = .ok (.ireturn, 1) := by decide +kernel
theorem ef_rmUch (m : MethodId) (a1 : Addr) : entryFrame m #[(.ref a1), (.int 0)] 2 = mkF m 0 #[.val (.ref a1), .val (.int 0)] [] := by first | (simp [entryFrame, mkF, argsToLocals, Value.category]; done) | rfl
def Q_rmUch (Z : State) (a1 : Addr) (k1 : ClassId) (sv : Value) (x0 x1 : Int32) (h0 : Heap) (n0 : Nat) (v : Option Value) (h : Heap) (L : List Loc) : Prop := v = some (.int (own_gc x0 x1)) ∧ Fr n0 L ∧ h = h0
theorem rmUch (l : Launch) (Z : State) (a0 : Array Value) (hw : ∀ d ∈ tables_1, d.before a0 Z = true) (ws : List Jvm.Cond) (a1 : Addr) (k1 : ClassId) (sv : Value) (x0 x1 : Int32) (h0 : Heap) (n0 : Nat) (Z0 : n0 ≤ h0.size) (P0 : Arv Z h0 a1 k1 .byte (2 : Int32) [(.int x0), (.int x1)] (.int 0)) (P1 : Sta Z h0 "jdk/internal/util/Preconditions" "SIOOBE_FORMATTER" "Ljava/util/function/BiFunction;" sv) (hsv : sv.isRef = true) (P3 : Sta Z h0 "java/lang/StringUTF16" "$assertionsDisabled" "Z" (.int 1)) (P4 : Sta Z h0 "java/lang/StringUTF16" "HI_BYTE_SHIFT" "I" (.int 0)) (P5 : Sta Z h0 "java/lang/StringUTF16" "LO_BYTE_SHIFT" "I" (.int 8)) :
    MetFree l yq49 (head1 (Jvm.Cond.code yq49 jdk_52_method_83_code 2 (some .char) :: ws) rq48) (fun a U => a = #[(.ref a1), (.int 0)] ∧ Z.Warmed39 U.vm ∧ U.heap = h0) (fun _ _ _ _ _ => True) (fun _ U o U' => ∃ v L, o = .returned v ∧ Q_rmUch Z a1 k1 sv x0 x1 h0 n0 v U'.heap L ∧ FrameEnd U o U' L rq48.cells rq48.slots) := by
  refine MetFree.of_bodySF (plainFor_of_name pn_java_lang_StringUTF16) hisR ?_
  intro p e s m args below meth c s₁ Bd hml0 hP hK
  obtain ⟨rfl, hZ, hh⟩ := hP
  have hx := Bd.exec
  have hby := Bd.bytes
  have hml : c.maxLocals = 2 := hml0
  have hown : s.vm.findClass "java/lang/StringUTF16" = some m.cls := findClass_of_methodNamed Bd.named
  have hnm := (name_of_methodNamed Bd.named Bd.method).1
  have X0 : Stand p l e rq48 s m #[(.ref a1), (.int 0)] below meth c s₁ [] 0 0 := Stand.of_body Bd
  have e0 : s₁.heap = h0 := by rw [← hh, Bd.state]; rfl
  have N0 := Fr.nil n0
  refine own_fw (A' := (s₁.setTop (mkF m 2 #[rv a1, iv 0] [.ref a1, .int 0]))) (fun t k => castTop (ef_rmUch m a1) (XS.iloadN X0.here hx rfl (hb hby d25_0) rfl (XS.aloadN X0.here hx rfl (hb hby d25_1) rfl rfl k))) ?_
  obtain ⟨_, _, ⟨T1, L1, k1, n1⟩, -, X1, ⟨Lc1, hQ1, l1, y1, z1⟩, st1⟩ := Jvm.LawKit.callS X0 hx (y := yq47) hown (mvT hZ (own_w hw 120 rfl)) (mvT hZ (own_w hw 121 rfl)) (mvT hZ (own_w hw 40 rfl)) (mvT hZ (own_w hw 122 rfl)) (by decide) (backOf (W := 0) (rmUck l Z a0 hw [] a1 k1 sv x0 x1 h0 n0 Z0 P0 P1 hsv) hZ (own_w hw 122 rfl) (own_w hw 40 rfl) (by decide) (by decide)) (g := (mkF m 2 #[rv a1, iv 0] [.ref a1, .int 0])) rfl (by rw [hml]; rfl) (argsL := [(.int 0), (.ref a1)]) (rest := []) (lenOf pd__I_B_V rfl) rfl (by show 2 * 0 + _ ≤ _; exact Nat.le_of_eq rfl) (hb hby d25_2) (fun _ _ => ⟨rfl, e0, (by decide : 0 + 0 ≤ _), (by decide : 0 + 0 ≤ _)⟩)
  dsimp only [Pt.U, Pt.locs, Pt.cells, Pt.slots] at X1 l1 y1 z1 st1 hQ1
  subst l1 y1 z1
  obtain ⟨rfl, Nq1, e1⟩ := hQ1
  have Nf1 := Fr.app N0 Nq1
  refine own_fw (A' := (T1.setTop (mkF m 7 #[rv a1, iv 0] [.int 0, .ref a1]))) (fun t k => st1 _ (XS.aloadN X1.here hx rfl (hb hby d25_5) rfl rfl (XS.iloadN X1.here hx rfl (hb hby d25_6) rfl k))) ?_
  obtain ⟨_, _, ⟨T2, L2, k2, n2⟩, -, X2, ⟨Lc2, hQ2, l2, y2, z2⟩, st2⟩ := Jvm.LawKit.callS X1 hx (y := yq23) hown (mvT hZ (own_w hw 114 rfl)) (mvT hZ (own_w hw 115 rfl)) (mvT hZ (own_w hw 40 rfl)) (mvT hZ (own_w hw 116 rfl)) (by decide) (backOf (W := 0) (rmGet10 l Z a0 hw [] a1 k1 x0 x1 h0 n0 Z0 P0 P3 P4 P5) hZ (own_w hw 116 rfl) (own_w hw 40 rfl) (by decide) (by decide)) (g := (mkF m 7 #[rv a1, iv 0] [.int 0, .ref a1])) rfl (by rw [hml]; rfl) (argsL := [(.ref a1), (.int 0)]) (rest := []) (lenOf pd___BI_C rfl) rfl (by show 2 * 0 + _ ≤ _; exact Nat.le_of_eq rfl) (hb hby d25_7) (fun _ _ => ⟨rfl, e1, (by decide : 0 + 0 ≤ _), (by decide : 0 + 0 ≤ _)⟩)
  dsimp only [Pt.U, Pt.locs, Pt.cells, Pt.slots] at X2 l2 y2 z2 st2 hQ2
  subst l2 y2 z2
  obtain ⟨rfl, Nq2, e2⟩ := hQ2
  have Nf2 := Fr.app Nf1 Nq2
  refine own_fw (A' := (T2.setTop (mkF m 10 #[rv a1, iv 0] [.int (own_gc x0 x1)]))) (fun t k => st2 _ k) ?_
  obtain ⟨fs, hr, hrun, hended, hW, hsame⟩ := X2.leave (v := some (.int (own_gc x0 x1))) (fun h => by rw [Bd.returns] at h; cases h)
  refine ⟨_, _, ?_, hrun, hended, _, _, rfl, ?_, ⟨_, rfl⟩, hW, hsame.mono (by decide) (by decide)⟩
  · exact retOut X2 hx Bd.returns (XT.narrow_c _) (Or.inl ⟨rfl, by simp, _, rfl⟩) (hb hby d25_10) hr
  · show Q_rmUch Z a1 k1 sv x0 x1 h0 n0 _ T2.heap _
    rw [e2]
    exact ⟨rfl, Nf2, rfl⟩
theorem d13_0 : decode jdk_42_method_56_code 0 = .ok (.aload_n 0, 1) := by decide +kernel
theorem d13_1 : decode jdk_42_method_56_code 1 = .ok (.invokevirtual 492, 3) := by decide +kernel
theorem pd___Z : parseMethodDescriptor "()Z" = some ⟨[], some .boolean⟩ := by decide +kernel
theorem d13_4 : decode jdk_42_method_56_code 4 = .ok (.ifCond .eq 12, 3) := by decide +kernel
theorem d13_7 : decode jdk_42_method_56_code 7 = .ok (.aload_n 0, 1) := by decide +kernel
theorem d13_8 : decode jdk_42_method_56_code 8 = .ok (.getfield 9, 3) := by decide +kernel
theorem d13_11 : decode jdk_42_method_56_code 11 = .ok (.iload_n 1, 1) := by decide +kernel
theorem d13_12 : decode jdk_42_method_56_code 12 = .ok (.invokestatic 495, 3) := by decide +kernel
theorem d13_15 : decode jdk_42_method_56_code 15 = .ok (.ireturn, 1) := by decide +kernel
theorem ef_rmChL (m : MethodId) (a1 : Addr) : entryFrame m #[(.ref a1), (.int 0)] 2 = mkF m 0 #[.val (.ref a1), .val (.int 0)] [] := by first | (simp [entryFrame, mkF, argsToLocals, Value.category]; done) | rfl
def Q_rmChL (Z : State) (a1 b1 : Addr) (k1 : ClassId) (cs : Int32) (sv : Value) (x0 : Int32) (h0 : Heap) (n0 : Nat) (v : Option Value) (h : Heap) (L : List Loc) : Prop := v = some (.int (own_cl x0)) ∧ Fr n0 L ∧ h = h0
theorem rmChL (l : Launch) (Z : State) (a0 : Array Value) (hw : ∀ d ∈ tables_1, d.before a0 Z = true) (ws : List Jvm.Cond) (a1 b1 : Addr) (k1 : ClassId) (cs : Int32) (sv : Value) (x0 : Int32) (h0 : Heap) (n0 : Nat) (Z0 : n0 ≤ h0.size) (P0 : Exa Z h0 a1 "java/lang/String") (P1 : Fld Z h0 a1 "java/lang/String" "coder" "B" (.int 0)) (P2 : Fld Z h0 a1 "java/lang/String" "value" "[B" (.ref b1)) (P3 : Arv Z h0 b1 k1 .byte (1 : Int32) [(.int x0)] (.int 0)) (P4 : Sta Z h0 "java/lang/String" "COMPACT_STRINGS" "Z" (.int cs)) (hcs : ¬ (cs = (0 : Int32))) (P6 : Sta Z h0 "jdk/internal/util/Preconditions" "SIOOBE_FORMATTER" "Ljava/util/function/BiFunction;" sv) (hsv : sv.isRef = true) :
    MetFree l yq50 (head1 (Jvm.Cond.code yq50 jdk_42_method_56_code 2 (some .char) :: ws) rq48) (fun a U => a = #[(.ref a1), (.int 0)] ∧ Z.Warmed39 U.vm ∧ U.heap = h0) (fun _ _ _ _ _ => True) (fun _ U o U' => ∃ v L, o = .returned v ∧ Q_rmChL Z a1 b1 k1 cs sv x0 h0 n0 v U'.heap L ∧ FrameEnd U o U' L rq48.cells rq48.slots) := by
  refine MetFree.of_bodySF (plainFor_of_name pn_java_lang_String) hisR ?_
  intro p e s m args below meth c s₁ Bd hml0 hP hK
  obtain ⟨rfl, hZ, hh⟩ := hP
  have hx := Bd.exec
  have hby := Bd.bytes
  have hml : c.maxLocals = 2 := hml0
  have hown : s.vm.findClass "java/lang/String" = some m.cls := findClass_of_methodNamed Bd.named
  have hnm := (name_of_methodNamed Bd.named Bd.method).1
  have X0 : Stand p l e rq48 s m #[(.ref a1), (.int 0)] below meth c s₁ [] 0 0 := Stand.of_body Bd
  have e0 : s₁.heap = h0 := by rw [← hh, Bd.state]; rfl
  have N0 := Fr.nil n0
  refine own_fw (A' := (s₁.setTop (mkF m 1 #[rv a1, iv 0] [.ref a1]))) (fun t k => castTop (ef_rmChL m a1) (XS.aloadN X0.here hx rfl (hb hby d13_0) rfl rfl k)) ?_
  obtain ⟨cq1, kq1, qa1, qb1, qc1⟩ := isOf hZ e0 P0
  obtain ⟨_, _, ⟨T1, L1, k1, n1⟩, -, X1, ⟨Lc1, hQ1, l1, y1, z1⟩, st1⟩ := X0.virtualBack hx (y := yq41) (z := yq41) hown (mvT hZ (own_w hw 68 rfl)) (mvT hZ (own_w hw 69 rfl)) (notFace_of_selects (args := #[]) (mvT hZ (own_w hw 71 rfl))) (mvT hZ (own_w hw 71 rfl)) (mvT hZ (own_w hw 70 rfl)) (by decide) (backOf (W := 0) (rmLat0 l Z a0 hw [] a1 cs h0 n0 Z0 P1 P4 hcs) hZ (own_w hw 72 rfl) (own_w hw 27 rfl) (by decide) (by decide)) qa1 qc1 (g := (mkF m 1 #[rv a1, iv 0] [.ref a1])) rfl (by rw [hml]; rfl) (Steps.refl _) (argsL := []) (rest := []) (lenOf pd___Z rfl) rfl (by show 2 * 0 + _ ≤ _; exact Nat.le_of_eq rfl) (hb hby d13_1) (fun _ _ => ⟨rfl, e0, (by decide : 0 + 0 ≤ _), (by decide : 0 + 0 ≤ _)⟩)
  dsimp only [Pt.U, Pt.locs, Pt.cells, Pt.slots] at X1 l1 y1 z1 st1 hQ1
  subst l1 y1 z1
  obtain ⟨rfl, Nq1, e1⟩ := hQ1
  have Nf1 := Fr.app N0 Nq1
  refine own_fw (A' := (T1.setTop (mkF m 8 #[rv a1, iv 0] [.ref a1]))) (fun t k => st1.trans (XS.ifNo X1.here hx rfl (hb hby d13_4) rfl (XT.i0_eq_f (by decide)) (XS.aloadN X1.here hx rfl (hb hby d13_7) rfl rfl k))) ?_
  obtain ⟨T2, X2, e2, st2⟩ := getF X1 hx hZ hown (host := "") (Or.inl (own_w hw 51 rfl)) Via.refl e1 P2 (g := (mkF m 8 #[rv a1, iv 0] [.ref a1])) rfl rfl (hb hby d13_8)
  refine own_fw (A' := (T2.setTop (mkF m 12 #[rv a1, iv 0] [.int 0, .ref b1]))) (fun t k => st2 _ (XS.iloadN X2.here hx rfl (hb hby d13_11) rfl k)) ?_
  obtain ⟨_, _, ⟨T3, L3, k3, n3⟩, -, X3, ⟨Lc3, hQ3, l3, y3, z3⟩, st3⟩ := Jvm.LawKit.callS X2 hx (y := yq45) hown (mvT hZ (own_w hw 73 rfl)) (mvT hZ (own_w hw 74 rfl)) (mvT hZ (own_w hw 75 rfl)) (mvT hZ (own_w hw 76 rfl)) (by decide) (backOf (W := 0) (rmLch l Z a0 hw [] b1 k1 sv x0 h0 n0 Z0 P3 P6 hsv) hZ (own_w hw 76 rfl) (own_w hw 75 rfl) (by decide) (by decide)) (g := (mkF m 12 #[rv a1, iv 0] [.int 0, .ref b1])) rfl (by rw [hml]; rfl) (argsL := [(.ref b1), (.int 0)]) (rest := []) (lenOf pd___BI_C rfl) rfl (by show 2 * 0 + _ ≤ _; exact Nat.le_of_eq rfl) (hb hby d13_12) (fun _ _ => ⟨rfl, e2, (by decide : 0 + 0 ≤ _), (by decide : 0 + 0 ≤ _)⟩)
  dsimp only [Pt.U, Pt.locs, Pt.cells, Pt.slots] at X3 l3 y3 z3 st3 hQ3
  subst l3 y3 z3
  obtain ⟨rfl, Nq3, e3⟩ := hQ3
  have Nf3 := Fr.app Nf1 Nq3
  refine own_fw (A' := (T3.setTop (mkF m 15 #[rv a1, iv 0] [.int (own_cl x0)]))) (fun t k => st3 _ k) ?_
  obtain ⟨fs, hr, hrun, hended, hW, hsame⟩ := X3.leave (v := some (.int (own_cl x0))) (fun h => by rw [Bd.returns] at h; cases h)
  refine ⟨_, _, ?_, hrun, hended, _, _, rfl, ?_, ⟨_, rfl⟩, hW, hsame.mono (by decide) (by decide)⟩
  · exact retOut X3 hx Bd.returns (XT.narrow_c _) (Or.inl ⟨rfl, by simp, _, rfl⟩) (hb hby d13_15) hr
  · show Q_rmChL Z a1 b1 k1 cs sv x0 h0 n0 _ T3.heap _
    rw [e3]
    exact ⟨rfl, Nf3, rfl⟩
theorem d13_16 : decode jdk_42_method_56_code 16 = .ok (.aload_n 0, 1) := by decide +kernel
theorem d13_17 : decode jdk_42_method_56_code 17 = .ok (.getfield 9, 3) := by decide +kernel
theorem d13_20 : decode jdk_42_method_56_code 20 = .ok (.iload_n 1, 1) := by decide +kernel
theorem d13_21 : decode jdk_42_method_56_code 21 = .ok (.invokestatic 498, 3) := by decide +kernel
theorem d13_24 : decode jdk_42_method_56_code 24 = .ok (.ireturn, 1) := by decide +kernel
theorem ef_rmChU (m : MethodId) (a1 : Addr) : entryFrame m #[(.ref a1), (.int 0)] 2 = mkF m 0 #[.val (.ref a1), .val (.int 0)] [] := by first | (simp [entryFrame, mkF, argsToLocals, Value.category]; done) | rfl
def Q_rmChU (Z : State) (a1 b1 : Addr) (k1 : ClassId) (cs : Int32) (sv : Value) (x0 x1 : Int32) (h0 : Heap) (n0 : Nat) (v : Option Value) (h : Heap) (L : List Loc) : Prop := v = some (.int (own_gc x0 x1)) ∧ Fr n0 L ∧ h = h0
theorem rmChU (l : Launch) (Z : State) (a0 : Array Value) (hw : ∀ d ∈ tables_1, d.before a0 Z = true) (ws : List Jvm.Cond) (a1 b1 : Addr) (k1 : ClassId) (cs : Int32) (sv : Value) (x0 x1 : Int32) (h0 : Heap) (n0 : Nat) (Z0 : n0 ≤ h0.size) (P0 : Exa Z h0 a1 "java/lang/String") (P1 : Fld Z h0 a1 "java/lang/String" "coder" "B" (.int 1)) (P2 : Fld Z h0 a1 "java/lang/String" "value" "[B" (.ref b1)) (P3 : Arv Z h0 b1 k1 .byte (2 : Int32) [(.int x0), (.int x1)] (.int 0)) (P4 : Sta Z h0 "java/lang/String" "COMPACT_STRINGS" "Z" (.int cs)) (hcs : ¬ (cs = (0 : Int32))) (P6 : Sta Z h0 "jdk/internal/util/Preconditions" "SIOOBE_FORMATTER" "Ljava/util/function/BiFunction;" sv) (hsv : sv.isRef = true) (P8 : Sta Z h0 "java/lang/StringUTF16" "$assertionsDisabled" "Z" (.int 1)) (P9 : Sta Z h0 "java/lang/StringUTF16" "HI_BYTE_SHIFT" "I" (.int 0)) (P10 : Sta Z h0 "java/lang/StringUTF16" "LO_BYTE_SHIFT" "I" (.int 8)) :
    MetFree l yq50 (head1 (Jvm.Cond.code yq50 jdk_42_method_56_code 2 (some .char) :: ws) rq51) (fun a U => a = #[(.ref a1), (.int 0)] ∧ Z.Warmed39 U.vm ∧ U.heap = h0) (fun _ _ _ _ _ => True) (fun _ U o U' => ∃ v L, o = .returned v ∧ Q_rmChU Z a1 b1 k1 cs sv x0 x1 h0 n0 v U'.heap L ∧ FrameEnd U o U' L rq51.cells rq51.slots) := by
  refine MetFree.of_bodySF (plainFor_of_name pn_java_lang_String) hisR ?_
  intro p e s m args below meth c s₁ Bd hml0 hP hK
  obtain ⟨rfl, hZ, hh⟩ := hP
  have hx := Bd.exec
  have hby := Bd.bytes
  have hml : c.maxLocals = 2 := hml0
  have hown : s.vm.findClass "java/lang/String" = some m.cls := findClass_of_methodNamed Bd.named
  have hnm := (name_of_methodNamed Bd.named Bd.method).1
  have X0 : Stand p l e rq51 s m #[(.ref a1), (.int 0)] below meth c s₁ [] 0 0 := Stand.of_body Bd
  have e0 : s₁.heap = h0 := by rw [← hh, Bd.state]; rfl
  have N0 := Fr.nil n0
  refine own_fw (A' := (s₁.setTop (mkF m 1 #[rv a1, iv 0] [.ref a1]))) (fun t k => castTop (ef_rmChU m a1) (XS.aloadN X0.here hx rfl (hb hby d13_0) rfl rfl k)) ?_
  obtain ⟨cq1, kq1, qa1, qb1, qc1⟩ := isOf hZ e0 P0
  obtain ⟨_, _, ⟨T1, L1, k1, n1⟩, -, X1, ⟨Lc1, hQ1, l1, y1, z1⟩, st1⟩ := X0.virtualBack hx (y := yq41) (z := yq41) hown (mvT hZ (own_w hw 68 rfl)) (mvT hZ (own_w hw 69 rfl)) (notFace_of_selects (args := #[]) (mvT hZ (own_w hw 71 rfl))) (mvT hZ (own_w hw 71 rfl)) (mvT hZ (own_w hw 70 rfl)) (by decide) (backOf (W := 0) (rmLat1 l Z a0 hw [] a1 cs h0 n0 Z0 P1 P4 hcs) hZ (own_w hw 72 rfl) (own_w hw 27 rfl) (by decide) (by decide)) qa1 qc1 (g := (mkF m 1 #[rv a1, iv 0] [.ref a1])) rfl (by rw [hml]; rfl) (Steps.refl _) (argsL := []) (rest := []) (lenOf pd___Z rfl) rfl (by show 2 * 0 + _ ≤ _; exact Nat.le_of_eq rfl) (hb hby d13_1) (fun _ _ => ⟨rfl, e0, (by decide : 0 + 0 ≤ _), (by decide : 0 + 0 ≤ _)⟩)
  dsimp only [Pt.U, Pt.locs, Pt.cells, Pt.slots] at X1 l1 y1 z1 st1 hQ1
  subst l1 y1 z1
  obtain ⟨rfl, Nq1, e1⟩ := hQ1
  have Nf1 := Fr.app N0 Nq1
  refine own_fw (A' := (T1.setTop (mkF m 17 #[rv a1, iv 0] [.ref a1]))) (fun t k => st1.trans (XS.ifYes X1.here hx rfl (pc0 := 4) (pc' := 16) rfl (hb hby d13_4) rfl (XT.i0_eq_t rfl) (by decide) (by decide) (XS.aloadN X1.here hx rfl (hb hby d13_16) rfl rfl k))) ?_
  obtain ⟨T2, X2, e2, st2⟩ := getF X1 hx hZ hown (host := "") (Or.inl (own_w hw 51 rfl)) Via.refl e1 P2 (g := (mkF m 17 #[rv a1, iv 0] [.ref a1])) rfl rfl (hb hby d13_17)
  refine own_fw (A' := (T2.setTop (mkF m 21 #[rv a1, iv 0] [.int 0, .ref b1]))) (fun t k => st2 _ (XS.iloadN X2.here hx rfl (hb hby d13_20) rfl k)) ?_
  obtain ⟨_, _, ⟨T3, L3, k3, n3⟩, -, X3, ⟨Lc3, hQ3, l3, y3, z3⟩, st3⟩ := Jvm.LawKit.callS X2 hx (y := yq49) hown (mvT hZ (own_w hw 117 rfl)) (mvT hZ (own_w hw 118 rfl)) (mvT hZ (own_w hw 40 rfl)) (mvT hZ (own_w hw 119 rfl)) (by decide) (backOf (W := 0) (rmUch l Z a0 hw [] b1 k1 sv x0 x1 h0 n0 Z0 P3 P6 hsv P8 P9 P10) hZ (own_w hw 119 rfl) (own_w hw 40 rfl) (by decide) (by decide)) (g := (mkF m 21 #[rv a1, iv 0] [.int 0, .ref b1])) rfl (by rw [hml]; rfl) (argsL := [(.ref b1), (.int 0)]) (rest := []) (lenOf pd___BI_C rfl) rfl (by show 2 * 0 + _ ≤ _; exact Nat.le_of_eq rfl) (hb hby d13_21) (fun _ _ => ⟨rfl, e2, (by decide : 0 + 0 ≤ _), (by decide : 0 + 0 ≤ _)⟩)
  dsimp only [Pt.U, Pt.locs, Pt.cells, Pt.slots] at X3 l3 y3 z3 st3 hQ3
  subst l3 y3 z3
  obtain ⟨rfl, Nq3, e3⟩ := hQ3
  have Nf3 := Fr.app Nf1 Nq3
  refine own_fw (A' := (T3.setTop (mkF m 24 #[rv a1, iv 0] [.int (own_gc x0 x1)]))) (fun t k => st3 _ k) ?_
  obtain ⟨fs, hr, hrun, hended, hW, hsame⟩ := X3.leave (v := some (.int (own_gc x0 x1))) (fun h => by rw [Bd.returns] at h; cases h)
  refine ⟨_, _, ?_, hrun, hended, _, _, rfl, ?_, ⟨_, rfl⟩, hW, hsame.mono (by decide) (by decide)⟩
  · exact retOut X3 hx Bd.returns (XT.narrow_c _) (Or.inl ⟨rfl, by simp, _, rfl⟩) (hb hby d13_24) hr
  · show Q_rmChU Z a1 b1 k1 cs sv x0 x1 h0 n0 _ T3.heap _
    rw [e3]
    exact ⟨rfl, Nf3, rfl⟩
theorem d19_0 : decode jdk_43_method_13_code 0 = .ok (.aload_n 0, 1) := by decide +kernel
theorem d19_1 : decode jdk_43_method_13_code 1 = .ok (.arraylength, 1) := by decide +kernel
theorem d19_2 : decode jdk_43_method_13_code 2 = .ok (.aload_n 1, 1) := by decide +kernel
theorem d19_3 : decode jdk_43_method_13_code 3 = .ok (.arraylength, 1) := by decide +kernel
theorem d19_4 : decode jdk_43_method_13_code 4 = .ok (.if_icmp .ne 30, 3) := by decide +kernel
theorem d19_7 : decode jdk_43_method_13_code 7 = .ok (.iconst 0, 1) := by decide +kernel
theorem d19_8 : decode jdk_43_method_13_code 8 = .ok (.istore_n 2, 1) := by decide +kernel
theorem d19_9 : decode jdk_43_method_13_code 9 = .ok (.iload_n 2, 1) := by decide +kernel
theorem d19_10 : decode jdk_43_method_13_code 10 = .ok (.aload_n 0, 1) := by decide +kernel
theorem d19_11 : decode jdk_43_method_13_code 11 = .ok (.arraylength, 1) := by decide +kernel
theorem d19_12 : decode jdk_43_method_13_code 12 = .ok (.if_icmp .ge 20, 3) := by decide +kernel
theorem d19_15 : decode jdk_43_method_13_code 15 = .ok (.aload_n 0, 1) := by decide +kernel
theorem d19_16 : decode jdk_43_method_13_code 16 = .ok (.iload_n 2, 1) := by decide +kernel
theorem d19_17 : decode jdk_43_method_13_code 17 = .ok (.baload, 1) := by decide +kernel
theorem d19_18 : decode jdk_43_method_13_code 18 = .ok (.aload_n 1, 1) := by decide +kernel
theorem d19_19 : decode jdk_43_method_13_code 19 = .ok (.iload_n 2, 1) := by decide +kernel
theorem d19_20 : decode jdk_43_method_13_code 20 = .ok (.baload, 1) := by decide +kernel
theorem d19_21 : decode jdk_43_method_13_code 21 = .ok (.if_icmp .eq 5, 3) := by decide +kernel
theorem d19_26 : decode jdk_43_method_13_code 26 = .ok (.iinc 2 1, 3) := by decide +kernel
theorem d19_29 : decode jdk_43_method_13_code 29 = .ok (.goto (-20), 3) := by decide +kernel
theorem d19_32 : decode jdk_43_method_13_code 32 = .ok (.iconst 1, 1) := by decide +kernel
theorem d19_33 : decode jdk_43_method_13_code 33 = .ok (.ireturn, 1) := by decide +kernel
theorem ef_rmQEqY (m : MethodId) (a1 a2 : Addr) : entryFrame m #[(.ref a1), (.ref a2)] 3 = mkF m 0 #[.val (.ref a1), .val (.ref a2), .unset] [] := by first | (simp [entryFrame, mkF, argsToLocals, Value.category]; done) | rfl
def Q_rmQEqY (Z : State) (a1 a2 : Addr) (k1 k2 : ClassId) (y0 x0 : Int32) (h0 : Heap) (n0 : Nat) (v : Option Value) (h : Heap) (L : List Loc) : Prop := v = some (.int 1) ∧ Fr n0 L ∧ h = h0
theorem rmQEqY (l : Launch) (Z : State) (a0 : Array Value) (hw : ∀ d ∈ tables_1, d.before a0 Z = true) (ws : List Jvm.Cond) (a1 a2 : Addr) (k1 k2 : ClassId) (y0 x0 : Int32) (h0 : Heap) (n0 : Nat) (Z0 : n0 ≤ h0.size) (P0 : Arv Z h0 a1 k1 .byte (1 : Int32) [(.int x0)] (.int 0)) (P1 : Arv Z h0 a2 k2 .byte (1 : Int32) [(.int y0)] (.int 0)) (hxq : x0 = y0) :
    MetFree l yq52 (head1 (Jvm.Cond.code yq52 jdk_43_method_13_code 3 (some .boolean) :: ws) rq0) (fun a U => a = #[(.ref a1), (.ref a2)] ∧ Z.Warmed39 U.vm ∧ U.heap = h0) (fun _ _ _ _ _ => True) (fun _ U o U' => ∃ v L, o = .returned v ∧ Q_rmQEqY Z a1 a2 k1 k2 y0 x0 h0 n0 v U'.heap L ∧ FrameEnd U o U' L rq0.cells rq0.slots) := by
  refine MetFree.of_bodySF (plainFor_of_name pn_java_lang_StringLatin1) hisR ?_
  intro p e s m args below meth c s₁ Bd hml0 hP hK
  obtain ⟨rfl, hZ, hh⟩ := hP
  have hx := Bd.exec
  have hby := Bd.bytes
  have hml : c.maxLocals = 3 := hml0
  have hown : s.vm.findClass "java/lang/StringLatin1" = some m.cls := findClass_of_methodNamed Bd.named
  have hnm := (name_of_methodNamed Bd.named Bd.method).1
  have X0 : Stand p l e rq0 s m #[(.ref a1), (.ref a2)] below meth c s₁ [] 0 0 := Stand.of_body Bd
  have e0 : s₁.heap = h0 := by rw [← hh, Bd.state]; rfl
  have N0 := Fr.nil n0
  refine own_fw (A' := (s₁.setTop (mkF m 1 #[rv a1, rv a2, .unset] [.ref a1]))) (fun t k => castTop (ef_rmQEqY m a1 a2) (XS.aloadN X0.here hx rfl (hb hby d19_0) rfl rfl k)) ?_
  obtain ⟨cl1, Ar1, q1, S1, M1, H1, G1⟩ := id P0
  refine own_fw (A' := (s₁.setTop (mkF m 2 #[rv a1, rv a2, .unset] [.int 1]))) (fun t k => X0.arraylength hx (by rw [e0]; exact Ar1.1) (State.isArrayOf_alike hZ.alike Ar1.2.1) (g := (mkF m 1 #[rv a1, rv a2, .unset] [.ref a1])) rfl rfl (hb hby d19_1) _ (by rw [len_of S1 M1]; exact k)) ?_
  refine own_fw (A' := (s₁.setTop (mkF m 3 #[rv a1, rv a2, .unset] [.ref a2, .int 1]))) (fun t k => XS.aloadN X0.here hx rfl (hb hby d19_2) rfl rfl k) ?_
  obtain ⟨cl2, Ar2, q2, S2, M2, H2, G2⟩ := id P1
  refine own_fw (A' := (s₁.setTop (mkF m 4 #[rv a1, rv a2, .unset] [.int 1, .int 1]))) (fun t k => X0.arraylength hx (by rw [e0]; exact Ar2.1) (State.isArrayOf_alike hZ.alike Ar2.2.1) (g := (mkF m 3 #[rv a1, rv a2, .unset] [.ref a2, .int 1])) rfl rfl (hb hby d19_3) _ (by rw [len_of S2 M2]; exact k)) ?_
  refine own_fw (A' := (s₁.setTop (mkF m 11 #[rv a1, rv a2, iv 0] [.ref a1, .int 0]))) (fun t k => XS.icmpNo X0.here hx rfl (hb hby d19_4) rfl (XT.ii_ne_f rfl) (XS.iconst X0.here hx rfl (hb hby d19_7) (XS.istoreN X0.here hx rfl (hb hby d19_8) rfl (l' := #[.val (.ref a1), .val (.ref a2), .val (.int 0)]) rfl (XS.iloadN X0.here hx rfl (hb hby d19_9) rfl (XS.aloadN X0.here hx rfl (hb hby d19_10) rfl rfl k))))) ?_
  obtain ⟨cl3, Ar3, q3, S3, M3, H3, G3⟩ := id P0
  refine own_fw (A' := (s₁.setTop (mkF m 12 #[rv a1, rv a2, iv 0] [.int 1, .int 0]))) (fun t k => X0.arraylength hx (by rw [e0]; exact Ar3.1) (State.isArrayOf_alike hZ.alike Ar3.2.1) (g := (mkF m 11 #[rv a1, rv a2, iv 0] [.ref a1, .int 0])) rfl rfl (hb hby d19_11) _ (by rw [len_of S3 M3]; exact k)) ?_
  refine own_fw (A' := (s₁.setTop (mkF m 17 #[rv a1, rv a2, iv 0] [.int 0, .ref a1]))) (fun t k => XS.icmpNo X0.here hx rfl (hb hby d19_12) rfl (XT.ii_ge_f (by decide)) (XS.aloadN X0.here hx rfl (hb hby d19_15) rfl rfl (XS.iloadN X0.here hx rfl (hb hby d19_16) rfl k))) ?_
  obtain ⟨cl4, Ar4, q4, S4, M4, H4, G4⟩ := id P0
  have hin4 : ¬ ((0 : Int32) < 0 ∨ cl4.slots.size ≤ ((0 : Int32)).toNatClampNeg) := inb_of S4 ⟨by decide, by decide⟩
  have hat4 : cl4.slots[((0 : Int32)).toNatClampNeg]? = some (.int x0) := H4.at hin4 rfl
  refine own_fw (A' := (s₁.setTop (mkF m 20 #[rv a1, rv a2, iv 0] [.int 0, .ref a2, .int x0]))) (fun t k => X0.baloadBytes hx (j := (0 : Int32)) (v := (.int x0)) (by rw [e0]; exact Ar4.1) (State.isArrayOf_alike hZ.alike Ar4.2.1) Ar4.2.2 hin4 hat4 (g := (mkF m 17 #[rv a1, rv a2, iv 0] [.int 0, .ref a1])) rfl rfl (hb hby d19_17) _ (XS.aloadN X0.here hx rfl (hb hby d19_18) rfl rfl (XS.iloadN X0.here hx rfl (hb hby d19_19) rfl k))) ?_
  obtain ⟨cl5, Ar5, q5, S5, M5, H5, G5⟩ := id P1
  have hin5 : ¬ ((0 : Int32) < 0 ∨ cl5.slots.size ≤ ((0 : Int32)).toNatClampNeg) := inb_of S5 ⟨by decide, by decide⟩
  have hat5 : cl5.slots[((0 : Int32)).toNatClampNeg]? = some (.int y0) := H5.at hin5 rfl
  refine own_fw (A' := (s₁.setTop (mkF m 11 #[rv a1, rv a2, iv 1] [.ref a1, .int 1]))) (fun t k => X0.baloadBytes hx (j := (0 : Int32)) (v := (.int y0)) (by rw [e0]; exact Ar5.1) (State.isArrayOf_alike hZ.alike Ar5.2.1) Ar5.2.2 hin5 hat5 (g := (mkF m 20 #[rv a1, rv a2, iv 0] [.int 0, .ref a2, .int x0])) rfl rfl (hb hby d19_20) _ (XS.icmpYes X0.here hx rfl (pc0 := 21) (pc' := 26) rfl (hb hby d19_21) rfl (XT.ii_eq_t hxq) (by decide) (by decide) (XS.iinc X0.here hx rfl (hb hby d19_26) rfl (l' := #[.val (.ref a1), .val (.ref a2), .val (.int 1)]) rfl (XS.goto X0.here hx rfl (pc0 := 29) (pc' := 9) rfl (hb hby d19_29) (by decide) (by decide) (XS.iloadN X0.here hx rfl (hb hby d19_9) rfl (XS.aloadN X0.here hx rfl (hb hby d19_10) rfl rfl k)))))) ?_
  obtain ⟨cl6, Ar6, q6, S6, M6, H6, G6⟩ := id P0
  refine own_fw (A' := (s₁.setTop (mkF m 12 #[rv a1, rv a2, iv 1] [.int 1, .int 1]))) (fun t k => X0.arraylength hx (by rw [e0]; exact Ar6.1) (State.isArrayOf_alike hZ.alike Ar6.2.1) (g := (mkF m 11 #[rv a1, rv a2, iv 1] [.ref a1, .int 1])) rfl rfl (hb hby d19_11) _ (by rw [len_of S6 M6]; exact k)) ?_
  refine own_fw (A' := (s₁.setTop (mkF m 33 #[rv a1, rv a2, iv 1] [.int 1]))) (fun t k => XS.icmpYes X0.here hx rfl (pc0 := 12) (pc' := 32) rfl (hb hby d19_12) rfl (XT.ii_ge_t (by decide)) (by decide) (by decide) (XS.iconst X0.here hx rfl (hb hby d19_32) k)) ?_
  obtain ⟨fs, hr, hrun, hended, hW, hsame⟩ := X0.leave (v := some (.int 1)) (fun h => by rw [Bd.returns] at h; cases h)
  refine ⟨_, _, ?_, hrun, hended, _, _, rfl, ?_, ⟨_, rfl⟩, hW, hsame.mono (by decide) (by decide)⟩
  · exact retOut X0 hx Bd.returns rfl (Or.inl ⟨rfl, by simp, _, rfl⟩) (hb hby d19_33) hr
  · show Q_rmQEqY Z a1 a2 k1 k2 y0 x0 h0 n0 _ s₁.heap _
    rw [e0]
    exact ⟨rfl, N0, rfl⟩
theorem d18_0 : decode jdk_42_method_66_code 0 = .ok (.aload_n 0, 1) := by decide +kernel
theorem d18_1 : decode jdk_42_method_66_code 1 = .ok (.aload_n 1, 1) := by decide +kernel
theorem d18_2 : decode jdk_42_method_66_code 2 = .ok (.if_acmp .ne 5, 3) := by decide +kernel
theorem d18_5 : decode jdk_42_method_66_code 5 = .ok (.iconst 1, 1) := by decide +kernel
theorem d18_6 : decode jdk_42_method_66_code 6 = .ok (.ireturn, 1) := by decide +kernel
theorem d18_7 : decode jdk_42_method_66_code 7 = .ok (.aload_n 1, 1) := by decide +kernel
theorem d18_8 : decode jdk_42_method_66_code 8 = .ok (.instanceof 10, 3) := by decide +kernel
theorem d18_11 : decode jdk_42_method_66_code 11 = .ok (.ifCond .eq 43, 3) := by decide +kernel
theorem d18_14 : decode jdk_42_method_66_code 14 = .ok (.aload_n 1, 1) := by decide +kernel
theorem d18_15 : decode jdk_42_method_66_code 15 = .ok (.checkcast 10, 3) := by decide +kernel
theorem d18_18 : decode jdk_42_method_66_code 18 = .ok (.astore_n 2, 1) := by decide +kernel
theorem d18_19 : decode jdk_42_method_66_code 19 = .ok (.getstatic 38, 3) := by decide +kernel
theorem d18_22 : decode jdk_42_method_66_code 22 = .ok (.ifCond .eq 14, 3) := by decide +kernel
theorem d18_25 : decode jdk_42_method_66_code 25 = .ok (.aload_n 0, 1) := by decide +kernel
theorem d18_26 : decode jdk_42_method_66_code 26 = .ok (.getfield 15, 3) := by decide +kernel
theorem d18_29 : decode jdk_42_method_66_code 29 = .ok (.aload_n 2, 1) := by decide +kernel
theorem d18_30 : decode jdk_42_method_66_code 30 = .ok (.getfield 15, 3) := by decide +kernel
theorem d18_33 : decode jdk_42_method_66_code 33 = .ok (.if_icmp .ne 21, 3) := by decide +kernel
theorem d18_36 : decode jdk_42_method_66_code 36 = .ok (.aload_n 0, 1) := by decide +kernel
theorem d18_37 : decode jdk_42_method_66_code 37 = .ok (.getfield 9, 3) := by decide +kernel
theorem d18_40 : decode jdk_42_method_66_code 40 = .ok (.aload_n 2, 1) := by decide +kernel
theorem d18_41 : decode jdk_42_method_66_code 41 = .ok (.getfield 9, 3) := by decide +kernel
theorem d18_44 : decode jdk_42_method_66_code 44 = .ok (.invokestatic 541, 3) := by decide +kernel
theorem pd___B_B_Z : parseMethodDescriptor "([B[B)Z" = some ⟨[(.array .byte), (.array .byte)], some .boolean⟩ := by decide +kernel
theorem d18_47 : decode jdk_42_method_66_code 47 = .ok (.ifCond .eq 7, 3) := by decide +kernel
theorem d18_50 : decode jdk_42_method_66_code 50 = .ok (.iconst 1, 1) := by decide +kernel
theorem d18_51 : decode jdk_42_method_66_code 51 = .ok (.goto 4, 3) := by decide +kernel
theorem d18_55 : decode jdk_42_method_66_code 55 = .ok (.ireturn, 1) := by decide +kernel
theorem ef_rmSEqY (m : MethodId) (a1 a2 : Addr) : entryFrame m #[(.ref a1), (.ref a2)] 3 = mkF m 0 #[.val (.ref a1), .val (.ref a2), .unset] [] := by first | (simp [entryFrame, mkF, argsToLocals, Value.category]; done) | rfl
def Q_rmSEqY (Z : State) (a1 a2 b1 b2 : Addr) (k1 k2 : ClassId) (cs y0 x0 : Int32) (h0 : Heap) (n0 : Nat) (v : Option Value) (h : Heap) (L : List Loc) : Prop := v = some (.int 1) ∧ Fr n0 L ∧ h = h0
theorem rmSEqY (l : Launch) (Z : State) (a0 : Array Value) (hw : ∀ d ∈ tables_1, d.before a0 Z = true) (ws : List Jvm.Cond) (a1 a2 b1 b2 : Addr) (k1 k2 : ClassId) (cs y0 x0 : Int32) (h0 : Heap) (n0 : Nat) (Z0 : n0 ≤ h0.size) (P0 : Exa Z h0 a1 "java/lang/String") (P1 : Fld Z h0 a1 "java/lang/String" "coder" "B" (.int 0)) (P2 : Fld Z h0 a1 "java/lang/String" "value" "[B" (.ref b1)) (P3 : Arv Z h0 b1 k1 .byte (1 : Int32) [(.int x0)] (.int 0)) (P4 : Exa Z h0 a2 "java/lang/String") (P5 : Fld Z h0 a2 "java/lang/String" "coder" "B" (.int 0)) (P6 : Fld Z h0 a2 "java/lang/String" "value" "[B" (.ref b2)) (P7 : Arv Z h0 b2 k2 .byte (1 : Int32) [(.int y0)] (.int 0)) (P8 : Sta Z h0 "java/lang/String" "COMPACT_STRINGS" "Z" (.int cs)) (hcs : ¬ (cs = (0 : Int32))) (hxq : x0 = y0) :
    MetFree l yq53 (head1 (Jvm.Cond.code yq53 jdk_42_method_66_code 3 (some .boolean) :: ws) rq37) (fun a U => a = #[(.ref a1), (.ref a2)] ∧ Z.Warmed39 U.vm ∧ U.heap = h0) (fun _ _ _ _ _ => True) (fun _ U o U' => ∃ v L, o = .returned v ∧ Q_rmSEqY Z a1 a2 b1 b2 k1 k2 cs y0 x0 h0 n0 v U'.heap L ∧ FrameEnd U o U' L rq37.cells rq37.slots) := by
  refine MetFree.of_bodySF (plainFor_of_name pn_java_lang_String) hisR ?_
  intro p e s m args below meth c s₁ Bd hml0 hP hK
  obtain ⟨rfl, hZ, hh⟩ := hP
  have hx := Bd.exec
  have hby := Bd.bytes
  have hml : c.maxLocals = 3 := hml0
  have hown : s.vm.findClass "java/lang/String" = some m.cls := findClass_of_methodNamed Bd.named
  have hnm := (name_of_methodNamed Bd.named Bd.method).1
  have X0 : Stand p l e rq37 s m #[(.ref a1), (.ref a2)] below meth c s₁ [] 0 0 := Stand.of_body Bd
  have e0 : s₁.heap = h0 := by rw [← hh, Bd.state]; rfl
  have N0 := Fr.nil n0
  refine own_fw (A' := (s₁.setTop (mkF m 2 #[rv a1, rv a2, .unset] [.ref a2, .ref a1]))) (fun t k => castTop (ef_rmSEqY m a1 a2) (XS.aloadN X0.here hx rfl (hb hby d18_0) rfl rfl (XS.aloadN X0.here hx rfl (hb hby d18_1) rfl rfl k))) ?_
  by_cases hc1 : ((.ref a1) : Value) = (.ref a2)
  · refine own_fw (A' := (s₁.setTop (mkF m 6 #[rv a1, rv a2, .unset] [.int 1]))) (fun t k => Jvm.RoadKit.acmp (g := (mkF m 2 #[rv a1, rv a2, .unset] [.ref a2, .ref a1])) X0 hx rfl rfl rfl (pc0 := 2) (pc' := 5) (same := true) rfl (hb hby d18_2) rfl (decide_eq_true hc1) (by decide) (by decide) (XS.iconst X0.here hx rfl (hb hby d18_5) k)) ?_
    obtain ⟨fs, hr, hrun, hended, hW, hsame⟩ := X0.leave (v := some (.int 1)) (fun h => by rw [Bd.returns] at h; cases h)
    refine ⟨_, _, ?_, hrun, hended, _, _, rfl, ?_, ⟨_, rfl⟩, hW, hsame.mono (by decide) (by decide)⟩
    · exact retOut X0 hx Bd.returns rfl (Or.inl ⟨rfl, by simp, _, rfl⟩) (hb hby d18_6) hr
    · show Q_rmSEqY Z a1 a2 b1 b2 k1 k2 cs y0 x0 h0 n0 _ s₁.heap _
      rw [e0]
      exact ⟨rfl, N0, rfl⟩
  · refine own_fw (A' := (s₁.setTop (mkF m 8 #[rv a1, rv a2, .unset] [.ref a2]))) (fun t k => Jvm.RoadKit.acmp (g := (mkF m 2 #[rv a1, rv a2, .unset] [.ref a2, .ref a1])) X0 hx rfl rfl rfl (pc0 := 2) (pc' := 7) (same := false) rfl (hb hby d18_2) rfl (decide_eq_false hc1) (by decide) (by decide) (XS.aloadN X0.here hx rfl (hb hby d18_7) rfl rfl k)) ?_
    obtain ⟨T2, X2, e2, st2⟩ := instY X0 hx hZ hown (own_w hw 93 rfl) e0 (Ins.self P4) (g := (mkF m 8 #[rv a1, rv a2, .unset] [.ref a2])) rfl rfl (hb hby d18_8)
    refine own_fw (A' := (T2.setTop (mkF m 15 #[rv a1, rv a2, .unset] [.ref a2]))) (fun t k => st2 _ (XS.ifNo X2.here hx rfl (hb hby d18_11) rfl (XT.i0_eq_f (by decide)) (XS.aloadN X2.here hx rfl (hb hby d18_14) rfl rfl k))) ?_
    obtain ⟨T3, X3, e3, st3⟩ := castY X2 hx hZ hown (own_w hw 93 rfl) e2 (Ins.self P4) (g := (mkF m 15 #[rv a1, rv a2, .unset] [.ref a2])) rfl rfl (hb hby d18_15)
    refine own_fw (A' := (T3.setTop (mkF m 19 #[rv a1, rv a2, rv a2] []))) (fun t k => st3 _ (XS.astoreN X3.here hx rfl (hb hby d18_18) rfl rfl (l' := #[.val (.ref a1), .val (.ref a2), .val (.ref a2)]) rfl k)) ?_
    obtain ⟨T4, X4, e4, st4⟩ := getS2 X3 hx hZ hown (host := "") (Or.inl (own_w hw 37 rfl)) Via.refl e3 P8 (g := (mkF m 19 #[rv a1, rv a2, rv a2] [])) rfl (hb hby d18_19)
    refine own_fw (A' := (T4.setTop (mkF m 26 #[rv a1, rv a2, rv a2] [.ref a1]))) (fun t k => st4 _ (XS.ifNo X4.here hx rfl (hb hby d18_22) rfl (XT.i0_eq_f hcs) (XS.aloadN X4.here hx rfl (hb hby d18_25) rfl rfl k))) ?_
    obtain ⟨T5, X5, e5, st5⟩ := getF X4 hx hZ hown (host := "") (Or.inl (own_w hw 49 rfl)) Via.refl e4 P1 (g := (mkF m 26 #[rv a1, rv a2, rv a2] [.ref a1])) rfl rfl (hb hby d18_26)
    refine own_fw (A' := (T5.setTop (mkF m 30 #[rv a1, rv a2, rv a2] [.ref a2, .int 0]))) (fun t k => st5 _ (XS.aloadN X5.here hx rfl (hb hby d18_29) rfl rfl k)) ?_
    obtain ⟨T6, X6, e6, st6⟩ := getF X5 hx hZ hown (host := "") (Or.inl (own_w hw 49 rfl)) Via.refl e5 P5 (g := (mkF m 30 #[rv a1, rv a2, rv a2] [.ref a2, .int 0])) rfl rfl (hb hby d18_30)
    refine own_fw (A' := (T6.setTop (mkF m 37 #[rv a1, rv a2, rv a2] [.ref a1]))) (fun t k => st6 _ (XS.icmpNo X6.here hx rfl (hb hby d18_33) rfl (XT.ii_ne_f rfl) (XS.aloadN X6.here hx rfl (hb hby d18_36) rfl rfl k))) ?_
    obtain ⟨T7, X7, e7, st7⟩ := getF X6 hx hZ hown (host := "") (Or.inl (own_w hw 51 rfl)) Via.refl e6 P2 (g := (mkF m 37 #[rv a1, rv a2, rv a2] [.ref a1])) rfl rfl (hb hby d18_37)
    refine own_fw (A' := (T7.setTop (mkF m 41 #[rv a1, rv a2, rv a2] [.ref a2, .ref b1]))) (fun t k => st7 _ (XS.aloadN X7.here hx rfl (hb hby d18_40) rfl rfl k)) ?_
    obtain ⟨T8, X8, e8, st8⟩ := getF X7 hx hZ hown (host := "") (Or.inl (own_w hw 51 rfl)) Via.refl e7 P6 (g := (mkF m 41 #[rv a1, rv a2, rv a2] [.ref a2, .ref b1])) rfl rfl (hb hby d18_41)
    refine own_fw (A' := (T8.setTop (mkF m 44 #[rv a1, rv a2, rv a2] [.ref b2, .ref b1]))) (fun t k => st8 _ k) ?_
    obtain ⟨_, _, ⟨T9, L9, k9, n9⟩, -, X9, ⟨Lc9, hQ9, l9, y9, z9⟩, st9⟩ := Jvm.LawKit.callS X8 hx (y := yq52) hown (mvT hZ (own_w hw 94 rfl)) (mvT hZ (own_w hw 95 rfl)) (mvT hZ (own_w hw 75 rfl)) (mvT hZ (own_w hw 96 rfl)) (by decide) (backOf (W := 0) (rmQEqY l Z a0 hw [] b1 b2 k1 k2 y0 x0 h0 n0 Z0 P3 P7 hxq) hZ (own_w hw 96 rfl) (own_w hw 75 rfl) (by decide) (by decide)) (g := (mkF m 44 #[rv a1, rv a2, rv a2] [.ref b2, .ref b1])) rfl (by rw [hml]; rfl) (argsL := [(.ref b1), (.ref b2)]) (rest := []) (lenOf pd___B_B_Z rfl) rfl (by show 2 * 0 + _ ≤ _; exact Nat.le_of_eq rfl) (hb hby d18_44) (fun _ _ => ⟨rfl, e8, (by decide : 0 + 0 ≤ _), (by decide : 0 + 0 ≤ _)⟩)
    dsimp only [Pt.U, Pt.locs, Pt.cells, Pt.slots] at X9 l9 y9 z9 st9 hQ9
    subst l9 y9 z9
    obtain ⟨rfl, Nq9, e9⟩ := hQ9
    have Nf9 := Fr.app N0 Nq9
    refine own_fw (A' := (T9.setTop (mkF m 55 #[rv a1, rv a2, rv a2] [.int 1]))) (fun t k => st9 _ (XS.ifNo X9.here hx rfl (hb hby d18_47) rfl (XT.i0_eq_f (by decide)) (XS.iconst X9.here hx rfl (hb hby d18_50) (XS.goto X9.here hx rfl (pc0 := 51) (pc' := 55) rfl (hb hby d18_51) (by decide) (by decide) k)))) ?_
    obtain ⟨fs, hr, hrun, hended, hW, hsame⟩ := X9.leave (v := some (.int 1)) (fun h => by rw [Bd.returns] at h; cases h)
    refine ⟨_, _, ?_, hrun, hended, _, _, rfl, ?_, ⟨_, rfl⟩, hW, hsame.mono (by decide) (by decide)⟩
    · exact retOut X9 hx Bd.returns rfl (Or.inl ⟨rfl, by simp, _, rfl⟩) (hb hby d18_55) hr
    · show Q_rmSEqY Z a1 a2 b1 b2 k1 k2 cs y0 x0 h0 n0 _ T9.heap _
      rw [e9]
      exact ⟨rfl, Nf9, rfl⟩
theorem d19_24 : decode jdk_43_method_13_code 24 = .ok (.iconst 0, 1) := by decide +kernel
theorem d19_25 : decode jdk_43_method_13_code 25 = .ok (.ireturn, 1) := by decide +kernel
theorem ef_rmQEqN (m : MethodId) (a1 a2 : Addr) : entryFrame m #[(.ref a1), (.ref a2)] 3 = mkF m 0 #[.val (.ref a1), .val (.ref a2), .unset] [] := by first | (simp [entryFrame, mkF, argsToLocals, Value.category]; done) | rfl
def Q_rmQEqN (Z : State) (a1 a2 : Addr) (k1 k2 : ClassId) (y0 x0 : Int32) (h0 : Heap) (n0 : Nat) (v : Option Value) (h : Heap) (L : List Loc) : Prop := v = some (.int 0) ∧ Fr n0 L ∧ h = h0
theorem rmQEqN (l : Launch) (Z : State) (a0 : Array Value) (hw : ∀ d ∈ tables_1, d.before a0 Z = true) (ws : List Jvm.Cond) (a1 a2 : Addr) (k1 k2 : ClassId) (y0 x0 : Int32) (h0 : Heap) (n0 : Nat) (Z0 : n0 ≤ h0.size) (P0 : Arv Z h0 a1 k1 .byte (1 : Int32) [(.int x0)] (.int 0)) (P1 : Arv Z h0 a2 k2 .byte (1 : Int32) [(.int y0)] (.int 0)) (hxq : ¬ (x0 = y0)) :
    MetFree l yq52 (head1 (Jvm.Cond.code yq52 jdk_43_method_13_code 3 (some .boolean) :: ws) rq0) (fun a U => a = #[(.ref a1), (.ref a2)] ∧ Z.Warmed39 U.vm ∧ U.heap = h0) (fun _ _ _ _ _ => True) (fun _ U o U' => ∃ v L, o = .returned v ∧ Q_rmQEqN Z a1 a2 k1 k2 y0 x0 h0 n0 v U'.heap L ∧ FrameEnd U o U' L rq0.cells rq0.slots) := by
  refine MetFree.of_bodySF (plainFor_of_name pn_java_lang_StringLatin1) hisR ?_
  intro p e s m args below meth c s₁ Bd hml0 hP hK
  obtain ⟨rfl, hZ, hh⟩ := hP
  have hx := Bd.exec
  have hby := Bd.bytes
  have hml : c.maxLocals = 3 := hml0
  have hown : s.vm.findClass "java/lang/StringLatin1" = some m.cls := findClass_of_methodNamed Bd.named
  have hnm := (name_of_methodNamed Bd.named Bd.method).1
  have X0 : Stand p l e rq0 s m #[(.ref a1), (.ref a2)] below meth c s₁ [] 0 0 := Stand.of_body Bd
  have e0 : s₁.heap = h0 := by rw [← hh, Bd.state]; rfl
  have N0 := Fr.nil n0
  refine own_fw (A' := (s₁.setTop (mkF m 1 #[rv a1, rv a2, .unset] [.ref a1]))) (fun t k => castTop (ef_rmQEqN m a1 a2) (XS.aloadN X0.here hx rfl (hb hby d19_0) rfl rfl k)) ?_
  obtain ⟨cl1, Ar1, q1, S1, M1, H1, G1⟩ := id P0
  refine own_fw (A' := (s₁.setTop (mkF m 2 #[rv a1, rv a2, .unset] [.int 1]))) (fun t k => X0.arraylength hx (by rw [e0]; exact Ar1.1) (State.isArrayOf_alike hZ.alike Ar1.2.1) (g := (mkF m 1 #[rv a1, rv a2, .unset] [.ref a1])) rfl rfl (hb hby d19_1) _ (by rw [len_of S1 M1]; exact k)) ?_
  refine own_fw (A' := (s₁.setTop (mkF m 3 #[rv a1, rv a2, .unset] [.ref a2, .int 1]))) (fun t k => XS.aloadN X0.here hx rfl (hb hby d19_2) rfl rfl k) ?_
  obtain ⟨cl2, Ar2, q2, S2, M2, H2, G2⟩ := id P1
  refine own_fw (A' := (s₁.setTop (mkF m 4 #[rv a1, rv a2, .unset] [.int 1, .int 1]))) (fun t k => X0.arraylength hx (by rw [e0]; exact Ar2.1) (State.isArrayOf_alike hZ.alike Ar2.2.1) (g := (mkF m 3 #[rv a1, rv a2, .unset] [.ref a2, .int 1])) rfl rfl (hb hby d19_3) _ (by rw [len_of S2 M2]; exact k)) ?_
  refine own_fw (A' := (s₁.setTop (mkF m 11 #[rv a1, rv a2, iv 0] [.ref a1, .int 0]))) (fun t k => XS.icmpNo X0.here hx rfl (hb hby d19_4) rfl (XT.ii_ne_f rfl) (XS.iconst X0.here hx rfl (hb hby d19_7) (XS.istoreN X0.here hx rfl (hb hby d19_8) rfl (l' := #[.val (.ref a1), .val (.ref a2), .val (.int 0)]) rfl (XS.iloadN X0.here hx rfl (hb hby d19_9) rfl (XS.aloadN X0.here hx rfl (hb hby d19_10) rfl rfl k))))) ?_
  obtain ⟨cl3, Ar3, q3, S3, M3, H3, G3⟩ := id P0
  refine own_fw (A' := (s₁.setTop (mkF m 12 #[rv a1, rv a2, iv 0] [.int 1, .int 0]))) (fun t k => X0.arraylength hx (by rw [e0]; exact Ar3.1) (State.isArrayOf_alike hZ.alike Ar3.2.1) (g := (mkF m 11 #[rv a1, rv a2, iv 0] [.ref a1, .int 0])) rfl rfl (hb hby d19_11) _ (by rw [len_of S3 M3]; exact k)) ?_
  refine own_fw (A' := (s₁.setTop (mkF m 17 #[rv a1, rv a2, iv 0] [.int 0, .ref a1]))) (fun t k => XS.icmpNo X0.here hx rfl (hb hby d19_12) rfl (XT.ii_ge_f (by decide)) (XS.aloadN X0.here hx rfl (hb hby d19_15) rfl rfl (XS.iloadN X0.here hx rfl (hb hby d19_16) rfl k))) ?_
  obtain ⟨cl4, Ar4, q4, S4, M4, H4, G4⟩ := id P0
  have hin4 : ¬ ((0 : Int32) < 0 ∨ cl4.slots.size ≤ ((0 : Int32)).toNatClampNeg) := inb_of S4 ⟨by decide, by decide⟩
  have hat4 : cl4.slots[((0 : Int32)).toNatClampNeg]? = some (.int x0) := H4.at hin4 rfl
  refine own_fw (A' := (s₁.setTop (mkF m 20 #[rv a1, rv a2, iv 0] [.int 0, .ref a2, .int x0]))) (fun t k => X0.baloadBytes hx (j := (0 : Int32)) (v := (.int x0)) (by rw [e0]; exact Ar4.1) (State.isArrayOf_alike hZ.alike Ar4.2.1) Ar4.2.2 hin4 hat4 (g := (mkF m 17 #[rv a1, rv a2, iv 0] [.int 0, .ref a1])) rfl rfl (hb hby d19_17) _ (XS.aloadN X0.here hx rfl (hb hby d19_18) rfl rfl (XS.iloadN X0.here hx rfl (hb hby d19_19) rfl k))) ?_
  obtain ⟨cl5, Ar5, q5, S5, M5, H5, G5⟩ := id P1
  have hin5 : ¬ ((0 : Int32) < 0 ∨ cl5.slots.size ≤ ((0 : Int32)).toNatClampNeg) := inb_of S5 ⟨by decide, by decide⟩
  have hat5 : cl5.slots[((0 : Int32)).toNatClampNeg]? = some (.int y0) := H5.at hin5 rfl
  refine own_fw (A' := (s₁.setTop (mkF m 25 #[rv a1, rv a2, iv 0] [.int 0]))) (fun t k => X0.baloadBytes hx (j := (0 : Int32)) (v := (.int y0)) (by rw [e0]; exact Ar5.1) (State.isArrayOf_alike hZ.alike Ar5.2.1) Ar5.2.2 hin5 hat5 (g := (mkF m 20 #[rv a1, rv a2, iv 0] [.int 0, .ref a2, .int x0])) rfl rfl (hb hby d19_20) _ (XS.icmpNo X0.here hx rfl (hb hby d19_21) rfl (XT.ii_eq_f hxq) (XS.iconst X0.here hx rfl (hb hby d19_24) k))) ?_
  obtain ⟨fs, hr, hrun, hended, hW, hsame⟩ := X0.leave (v := some (.int 0)) (fun h => by rw [Bd.returns] at h; cases h)
  refine ⟨_, _, ?_, hrun, hended, _, _, rfl, ?_, ⟨_, rfl⟩, hW, hsame.mono (by decide) (by decide)⟩
  · exact retOut X0 hx Bd.returns rfl (Or.inl ⟨rfl, by simp, _, rfl⟩) (hb hby d19_25) hr
  · show Q_rmQEqN Z a1 a2 k1 k2 y0 x0 h0 n0 _ s₁.heap _
    rw [e0]
    exact ⟨rfl, N0, rfl⟩
theorem d18_54 : decode jdk_42_method_66_code 54 = .ok (.iconst 0, 1) := by decide +kernel
theorem ef_rmSEqN (m : MethodId) (a1 a2 : Addr) : entryFrame m #[(.ref a1), (.ref a2)] 3 = mkF m 0 #[.val (.ref a1), .val (.ref a2), .unset] [] := by first | (simp [entryFrame, mkF, argsToLocals, Value.category]; done) | rfl
def Q_rmSEqN (Z : State) (a1 a2 b1 b2 : Addr) (k1 k2 : ClassId) (cs y0 x0 : Int32) (h0 : Heap) (n0 : Nat) (v : Option Value) (h : Heap) (L : List Loc) : Prop := v = some (.int 0) ∧ Fr n0 L ∧ h = h0
theorem rmSEqN (l : Launch) (Z : State) (a0 : Array Value) (hw : ∀ d ∈ tables_1, d.before a0 Z = true) (ws : List Jvm.Cond) (a1 a2 b1 b2 : Addr) (k1 k2 : ClassId) (cs y0 x0 : Int32) (h0 : Heap) (n0 : Nat) (Z0 : n0 ≤ h0.size) (P0 : Exa Z h0 a1 "java/lang/String") (P1 : Fld Z h0 a1 "java/lang/String" "coder" "B" (.int 0)) (P2 : Fld Z h0 a1 "java/lang/String" "value" "[B" (.ref b1)) (P3 : Arv Z h0 b1 k1 .byte (1 : Int32) [(.int x0)] (.int 0)) (P4 : Exa Z h0 a2 "java/lang/String") (P5 : Fld Z h0 a2 "java/lang/String" "coder" "B" (.int 0)) (P6 : Fld Z h0 a2 "java/lang/String" "value" "[B" (.ref b2)) (P7 : Arv Z h0 b2 k2 .byte (1 : Int32) [(.int y0)] (.int 0)) (P8 : Sta Z h0 "java/lang/String" "COMPACT_STRINGS" "Z" (.int cs)) (hcs : ¬ (cs = (0 : Int32))) (hxq : ¬ (x0 = y0)) (ne_a1_a2 : a1 ≠ a2) :
    MetFree l yq53 (head1 (Jvm.Cond.code yq53 jdk_42_method_66_code 3 (some .boolean) :: ws) rq37) (fun a U => a = #[(.ref a1), (.ref a2)] ∧ Z.Warmed39 U.vm ∧ U.heap = h0) (fun _ _ _ _ _ => True) (fun _ U o U' => ∃ v L, o = .returned v ∧ Q_rmSEqN Z a1 a2 b1 b2 k1 k2 cs y0 x0 h0 n0 v U'.heap L ∧ FrameEnd U o U' L rq37.cells rq37.slots) := by
  refine MetFree.of_bodySF (plainFor_of_name pn_java_lang_String) hisR ?_
  intro p e s m args below meth c s₁ Bd hml0 hP hK
  obtain ⟨rfl, hZ, hh⟩ := hP
  have hx := Bd.exec
  have hby := Bd.bytes
  have hml : c.maxLocals = 3 := hml0
  have hown : s.vm.findClass "java/lang/String" = some m.cls := findClass_of_methodNamed Bd.named
  have hnm := (name_of_methodNamed Bd.named Bd.method).1
  have X0 : Stand p l e rq37 s m #[(.ref a1), (.ref a2)] below meth c s₁ [] 0 0 := Stand.of_body Bd
  have e0 : s₁.heap = h0 := by rw [← hh, Bd.state]; rfl
  have N0 := Fr.nil n0
  refine own_fw (A' := (s₁.setTop (mkF m 8 #[rv a1, rv a2, .unset] [.ref a2]))) (fun t k => castTop (ef_rmSEqN m a1 a2) (XS.aloadN X0.here hx rfl (hb hby d18_0) rfl rfl (XS.aloadN X0.here hx rfl (hb hby d18_1) rfl rfl (Jvm.RoadKit.acmp (g := (mkF m 2 #[rv a1, rv a2, .unset] [.ref a2, .ref a1])) X0 hx rfl rfl rfl (pc0 := 2) (pc' := 7) (same := false) rfl (hb hby d18_2) rfl (decide_eq_false (fun q => ne_a1_a2 (Value.ref.inj q))) (by decide) (by decide) (XS.aloadN X0.here hx rfl (hb hby d18_7) rfl rfl k))))) ?_
  obtain ⟨T1, X1, e1, st1⟩ := instY X0 hx hZ hown (own_w hw 93 rfl) e0 (Ins.self P4) (g := (mkF m 8 #[rv a1, rv a2, .unset] [.ref a2])) rfl rfl (hb hby d18_8)
  refine own_fw (A' := (T1.setTop (mkF m 15 #[rv a1, rv a2, .unset] [.ref a2]))) (fun t k => st1 _ (XS.ifNo X1.here hx rfl (hb hby d18_11) rfl (XT.i0_eq_f (by decide)) (XS.aloadN X1.here hx rfl (hb hby d18_14) rfl rfl k))) ?_
  obtain ⟨T2, X2, e2, st2⟩ := castY X1 hx hZ hown (own_w hw 93 rfl) e1 (Ins.self P4) (g := (mkF m 15 #[rv a1, rv a2, .unset] [.ref a2])) rfl rfl (hb hby d18_15)
  refine own_fw (A' := (T2.setTop (mkF m 19 #[rv a1, rv a2, rv a2] []))) (fun t k => st2 _ (XS.astoreN X2.here hx rfl (hb hby d18_18) rfl rfl (l' := #[.val (.ref a1), .val (.ref a2), .val (.ref a2)]) rfl k)) ?_
  obtain ⟨T3, X3, e3, st3⟩ := getS2 X2 hx hZ hown (host := "") (Or.inl (own_w hw 37 rfl)) Via.refl e2 P8 (g := (mkF m 19 #[rv a1, rv a2, rv a2] [])) rfl (hb hby d18_19)
  refine own_fw (A' := (T3.setTop (mkF m 26 #[rv a1, rv a2, rv a2] [.ref a1]))) (fun t k => st3 _ (XS.ifNo X3.here hx rfl (hb hby d18_22) rfl (XT.i0_eq_f hcs) (XS.aloadN X3.here hx rfl (hb hby d18_25) rfl rfl k))) ?_
  obtain ⟨T4, X4, e4, st4⟩ := getF X3 hx hZ hown (host := "") (Or.inl (own_w hw 49 rfl)) Via.refl e3 P1 (g := (mkF m 26 #[rv a1, rv a2, rv a2] [.ref a1])) rfl rfl (hb hby d18_26)
  refine own_fw (A' := (T4.setTop (mkF m 30 #[rv a1, rv a2, rv a2] [.ref a2, .int 0]))) (fun t k => st4 _ (XS.aloadN X4.here hx rfl (hb hby d18_29) rfl rfl k)) ?_
  obtain ⟨T5, X5, e5, st5⟩ := getF X4 hx hZ hown (host := "") (Or.inl (own_w hw 49 rfl)) Via.refl e4 P5 (g := (mkF m 30 #[rv a1, rv a2, rv a2] [.ref a2, .int 0])) rfl rfl (hb hby d18_30)
  refine own_fw (A' := (T5.setTop (mkF m 37 #[rv a1, rv a2, rv a2] [.ref a1]))) (fun t k => st5 _ (XS.icmpNo X5.here hx rfl (hb hby d18_33) rfl (XT.ii_ne_f rfl) (XS.aloadN X5.here hx rfl (hb hby d18_36) rfl rfl k))) ?_
  obtain ⟨T6, X6, e6, st6⟩ := getF X5 hx hZ hown (host := "") (Or.inl (own_w hw 51 rfl)) Via.refl e5 P2 (g := (mkF m 37 #[rv a1, rv a2, rv a2] [.ref a1])) rfl rfl (hb hby d18_37)
  refine own_fw (A' := (T6.setTop (mkF m 41 #[rv a1, rv a2, rv a2] [.ref a2, .ref b1]))) (fun t k => st6 _ (XS.aloadN X6.here hx rfl (hb hby d18_40) rfl rfl k)) ?_
  obtain ⟨T7, X7, e7, st7⟩ := getF X6 hx hZ hown (host := "") (Or.inl (own_w hw 51 rfl)) Via.refl e6 P6 (g := (mkF m 41 #[rv a1, rv a2, rv a2] [.ref a2, .ref b1])) rfl rfl (hb hby d18_41)
  refine own_fw (A' := (T7.setTop (mkF m 44 #[rv a1, rv a2, rv a2] [.ref b2, .ref b1]))) (fun t k => st7 _ k) ?_
  obtain ⟨_, _, ⟨T8, L8, k8, n8⟩, -, X8, ⟨Lc8, hQ8, l8, y8, z8⟩, st8⟩ := Jvm.LawKit.callS X7 hx (y := yq52) hown (mvT hZ (own_w hw 94 rfl)) (mvT hZ (own_w hw 95 rfl)) (mvT hZ (own_w hw 75 rfl)) (mvT hZ (own_w hw 96 rfl)) (by decide) (backOf (W := 0) (rmQEqN l Z a0 hw [] b1 b2 k1 k2 y0 x0 h0 n0 Z0 P3 P7 hxq) hZ (own_w hw 96 rfl) (own_w hw 75 rfl) (by decide) (by decide)) (g := (mkF m 44 #[rv a1, rv a2, rv a2] [.ref b2, .ref b1])) rfl (by rw [hml]; rfl) (argsL := [(.ref b1), (.ref b2)]) (rest := []) (lenOf pd___B_B_Z rfl) rfl (by show 2 * 0 + _ ≤ _; exact Nat.le_of_eq rfl) (hb hby d18_44) (fun _ _ => ⟨rfl, e7, (by decide : 0 + 0 ≤ _), (by decide : 0 + 0 ≤ _)⟩)
  dsimp only [Pt.U, Pt.locs, Pt.cells, Pt.slots] at X8 l8 y8 z8 st8 hQ8
  subst l8 y8 z8
  obtain ⟨rfl, Nq8, e8⟩ := hQ8
  have Nf8 := Fr.app N0 Nq8
  refine own_fw (A' := (T8.setTop (mkF m 55 #[rv a1, rv a2, rv a2] [.int 0]))) (fun t k => st8 _ (XS.ifYes X8.here hx rfl (pc0 := 47) (pc' := 54) rfl (hb hby d18_47) rfl (XT.i0_eq_t rfl) (by decide) (by decide) (XS.iconst X8.here hx rfl (hb hby d18_54) k))) ?_
  obtain ⟨fs, hr, hrun, hended, hW, hsame⟩ := X8.leave (v := some (.int 0)) (fun h => by rw [Bd.returns] at h; cases h)
  refine ⟨_, _, ?_, hrun, hended, _, _, rfl, ?_, ⟨_, rfl⟩, hW, hsame.mono (by decide) (by decide)⟩
  · exact retOut X8 hx Bd.returns rfl (Or.inl ⟨rfl, by simp, _, rfl⟩) (hb hby d18_55) hr
  · show Q_rmSEqN Z a1 a2 b1 b2 k1 k2 cs y0 x0 h0 n0 _ T8.heap _
    rw [e8]
    exact ⟨rfl, Nf8, rfl⟩
theorem d19_34 : decode jdk_43_method_13_code 34 = .ok (.iconst 0, 1) := by decide +kernel
theorem d19_35 : decode jdk_43_method_13_code 35 = .ok (.ireturn, 1) := by decide +kernel
theorem ef_rmQEqL0 (m : MethodId) (a1 a2 : Addr) : entryFrame m #[(.ref a1), (.ref a2)] 3 = mkF m 0 #[.val (.ref a1), .val (.ref a2), .unset] [] := by first | (simp [entryFrame, mkF, argsToLocals, Value.category]; done) | rfl
def Q_rmQEqL0 (Z : State) (a1 a2 : Addr) (k1 k2 : ClassId) (y0 : Int32) (h0 : Heap) (n0 : Nat) (v : Option Value) (h : Heap) (L : List Loc) : Prop := v = some (.int 0) ∧ Fr n0 L ∧ h = h0
theorem rmQEqL0 (l : Launch) (Z : State) (a0 : Array Value) (hw : ∀ d ∈ tables_1, d.before a0 Z = true) (ws : List Jvm.Cond) (a1 a2 : Addr) (k1 k2 : ClassId) (y0 : Int32) (h0 : Heap) (n0 : Nat) (Z0 : n0 ≤ h0.size) (P0 : Arv Z h0 a1 k1 .byte (0 : Int32) [] (.int 0)) (P1 : Arv Z h0 a2 k2 .byte (1 : Int32) [(.int y0)] (.int 0)) :
    MetFree l yq52 (head1 (Jvm.Cond.code yq52 jdk_43_method_13_code 3 (some .boolean) :: ws) rq0) (fun a U => a = #[(.ref a1), (.ref a2)] ∧ Z.Warmed39 U.vm ∧ U.heap = h0) (fun _ _ _ _ _ => True) (fun _ U o U' => ∃ v L, o = .returned v ∧ Q_rmQEqL0 Z a1 a2 k1 k2 y0 h0 n0 v U'.heap L ∧ FrameEnd U o U' L rq0.cells rq0.slots) := by
  refine MetFree.of_bodySF (plainFor_of_name pn_java_lang_StringLatin1) hisR ?_
  intro p e s m args below meth c s₁ Bd hml0 hP hK
  obtain ⟨rfl, hZ, hh⟩ := hP
  have hx := Bd.exec
  have hby := Bd.bytes
  have hml : c.maxLocals = 3 := hml0
  have hown : s.vm.findClass "java/lang/StringLatin1" = some m.cls := findClass_of_methodNamed Bd.named
  have hnm := (name_of_methodNamed Bd.named Bd.method).1
  have X0 : Stand p l e rq0 s m #[(.ref a1), (.ref a2)] below meth c s₁ [] 0 0 := Stand.of_body Bd
  have e0 : s₁.heap = h0 := by rw [← hh, Bd.state]; rfl
  have N0 := Fr.nil n0
  refine own_fw (A' := (s₁.setTop (mkF m 1 #[rv a1, rv a2, .unset] [.ref a1]))) (fun t k => castTop (ef_rmQEqL0 m a1 a2) (XS.aloadN X0.here hx rfl (hb hby d19_0) rfl rfl k)) ?_
  obtain ⟨cl1, Ar1, q1, S1, M1, H1, G1⟩ := id P0
  refine own_fw (A' := (s₁.setTop (mkF m 2 #[rv a1, rv a2, .unset] [.int 0]))) (fun t k => X0.arraylength hx (by rw [e0]; exact Ar1.1) (State.isArrayOf_alike hZ.alike Ar1.2.1) (g := (mkF m 1 #[rv a1, rv a2, .unset] [.ref a1])) rfl rfl (hb hby d19_1) _ (by rw [len_of S1 M1]; exact k)) ?_
  refine own_fw (A' := (s₁.setTop (mkF m 3 #[rv a1, rv a2, .unset] [.ref a2, .int 0]))) (fun t k => XS.aloadN X0.here hx rfl (hb hby d19_2) rfl rfl k) ?_
  obtain ⟨cl2, Ar2, q2, S2, M2, H2, G2⟩ := id P1
  refine own_fw (A' := (s₁.setTop (mkF m 4 #[rv a1, rv a2, .unset] [.int 1, .int 0]))) (fun t k => X0.arraylength hx (by rw [e0]; exact Ar2.1) (State.isArrayOf_alike hZ.alike Ar2.2.1) (g := (mkF m 3 #[rv a1, rv a2, .unset] [.ref a2, .int 0])) rfl rfl (hb hby d19_3) _ (by rw [len_of S2 M2]; exact k)) ?_
  refine own_fw (A' := (s₁.setTop (mkF m 35 #[rv a1, rv a2, .unset] [.int 0]))) (fun t k => XS.icmpYes X0.here hx rfl (pc0 := 4) (pc' := 34) rfl (hb hby d19_4) rfl (XT.ii_ne_t (by decide)) (by decide) (by decide) (XS.iconst X0.here hx rfl (hb hby d19_34) k)) ?_
  obtain ⟨fs, hr, hrun, hended, hW, hsame⟩ := X0.leave (v := some (.int 0)) (fun h => by rw [Bd.returns] at h; cases h)
  refine ⟨_, _, ?_, hrun, hended, _, _, rfl, ?_, ⟨_, rfl⟩, hW, hsame.mono (by decide) (by decide)⟩
  · exact retOut X0 hx Bd.returns rfl (Or.inl ⟨rfl, by simp, _, rfl⟩) (hb hby d19_35) hr
  · show Q_rmQEqL0 Z a1 a2 k1 k2 y0 h0 n0 _ s₁.heap _
    rw [e0]
    exact ⟨rfl, N0, rfl⟩
theorem ef_rmSEqL0 (m : MethodId) (a1 a2 : Addr) : entryFrame m #[(.ref a1), (.ref a2)] 3 = mkF m 0 #[.val (.ref a1), .val (.ref a2), .unset] [] := by first | (simp [entryFrame, mkF, argsToLocals, Value.category]; done) | rfl
def Q_rmSEqL0 (Z : State) (a1 a2 b1 b2 : Addr) (k1 k2 : ClassId) (cs y0 : Int32) (h0 : Heap) (n0 : Nat) (v : Option Value) (h : Heap) (L : List Loc) : Prop := v = some (.int 0) ∧ Fr n0 L ∧ h = h0
theorem rmSEqL0 (l : Launch) (Z : State) (a0 : Array Value) (hw : ∀ d ∈ tables_1, d.before a0 Z = true) (ws : List Jvm.Cond) (a1 a2 b1 b2 : Addr) (k1 k2 : ClassId) (cs y0 : Int32) (h0 : Heap) (n0 : Nat) (Z0 : n0 ≤ h0.size) (P0 : Exa Z h0 a1 "java/lang/String") (P1 : Fld Z h0 a1 "java/lang/String" "coder" "B" (.int 0)) (P2 : Fld Z h0 a1 "java/lang/String" "value" "[B" (.ref b1)) (P3 : Arv Z h0 b1 k1 .byte (0 : Int32) [] (.int 0)) (P4 : Exa Z h0 a2 "java/lang/String") (P5 : Fld Z h0 a2 "java/lang/String" "coder" "B" (.int 0)) (P6 : Fld Z h0 a2 "java/lang/String" "value" "[B" (.ref b2)) (P7 : Arv Z h0 b2 k2 .byte (1 : Int32) [(.int y0)] (.int 0)) (P8 : Sta Z h0 "java/lang/String" "COMPACT_STRINGS" "Z" (.int cs)) (hcs : ¬ (cs = (0 : Int32))) (ne_a1_a2 : a1 ≠ a2) :
    MetFree l yq53 (head1 (Jvm.Cond.code yq53 jdk_42_method_66_code 3 (some .boolean) :: ws) rq37) (fun a U => a = #[(.ref a1), (.ref a2)] ∧ Z.Warmed39 U.vm ∧ U.heap = h0) (fun _ _ _ _ _ => True) (fun _ U o U' => ∃ v L, o = .returned v ∧ Q_rmSEqL0 Z a1 a2 b1 b2 k1 k2 cs y0 h0 n0 v U'.heap L ∧ FrameEnd U o U' L rq37.cells rq37.slots) := by
  refine MetFree.of_bodySF (plainFor_of_name pn_java_lang_String) hisR ?_
  intro p e s m args below meth c s₁ Bd hml0 hP hK
  obtain ⟨rfl, hZ, hh⟩ := hP
  have hx := Bd.exec
  have hby := Bd.bytes
  have hml : c.maxLocals = 3 := hml0
  have hown : s.vm.findClass "java/lang/String" = some m.cls := findClass_of_methodNamed Bd.named
  have hnm := (name_of_methodNamed Bd.named Bd.method).1
  have X0 : Stand p l e rq37 s m #[(.ref a1), (.ref a2)] below meth c s₁ [] 0 0 := Stand.of_body Bd
  have e0 : s₁.heap = h0 := by rw [← hh, Bd.state]; rfl
  have N0 := Fr.nil n0
  refine own_fw (A' := (s₁.setTop (mkF m 8 #[rv a1, rv a2, .unset] [.ref a2]))) (fun t k => castTop (ef_rmSEqL0 m a1 a2) (XS.aloadN X0.here hx rfl (hb hby d18_0) rfl rfl (XS.aloadN X0.here hx rfl (hb hby d18_1) rfl rfl (Jvm.RoadKit.acmp (g := (mkF m 2 #[rv a1, rv a2, .unset] [.ref a2, .ref a1])) X0 hx rfl rfl rfl (pc0 := 2) (pc' := 7) (same := false) rfl (hb hby d18_2) rfl (decide_eq_false (fun q => ne_a1_a2 (Value.ref.inj q))) (by decide) (by decide) (XS.aloadN X0.here hx rfl (hb hby d18_7) rfl rfl k))))) ?_
  obtain ⟨T1, X1, e1, st1⟩ := instY X0 hx hZ hown (own_w hw 93 rfl) e0 (Ins.self P4) (g := (mkF m 8 #[rv a1, rv a2, .unset] [.ref a2])) rfl rfl (hb hby d18_8)
  refine own_fw (A' := (T1.setTop (mkF m 15 #[rv a1, rv a2, .unset] [.ref a2]))) (fun t k => st1 _ (XS.ifNo X1.here hx rfl (hb hby d18_11) rfl (XT.i0_eq_f (by decide)) (XS.aloadN X1.here hx rfl (hb hby d18_14) rfl rfl k))) ?_
  obtain ⟨T2, X2, e2, st2⟩ := castY X1 hx hZ hown (own_w hw 93 rfl) e1 (Ins.self P4) (g := (mkF m 15 #[rv a1, rv a2, .unset] [.ref a2])) rfl rfl (hb hby d18_15)
  refine own_fw (A' := (T2.setTop (mkF m 19 #[rv a1, rv a2, rv a2] []))) (fun t k => st2 _ (XS.astoreN X2.here hx rfl (hb hby d18_18) rfl rfl (l' := #[.val (.ref a1), .val (.ref a2), .val (.ref a2)]) rfl k)) ?_
  obtain ⟨T3, X3, e3, st3⟩ := getS2 X2 hx hZ hown (host := "") (Or.inl (own_w hw 37 rfl)) Via.refl e2 P8 (g := (mkF m 19 #[rv a1, rv a2, rv a2] [])) rfl (hb hby d18_19)
  refine own_fw (A' := (T3.setTop (mkF m 26 #[rv a1, rv a2, rv a2] [.ref a1]))) (fun t k => st3 _ (XS.ifNo X3.here hx rfl (hb hby d18_22) rfl (XT.i0_eq_f hcs) (XS.aloadN X3.here hx rfl (hb hby d18_25) rfl rfl k))) ?_
  obtain ⟨T4, X4, e4, st4⟩ := getF X3 hx hZ hown (host := "") (Or.inl (own_w hw 49 rfl)) Via.refl e3 P1 (g := (mkF m 26 #[rv a1, rv a2, rv a2] [.ref a1])) rfl rfl (hb hby d18_26)
  refine own_fw (A' := (T4.setTop (mkF m 30 #[rv a1, rv a2, rv a2] [.ref a2, .int 0]))) (fun t k => st4 _ (XS.aloadN X4.here hx rfl (hb hby d18_29) rfl rfl k)) ?_
  obtain ⟨T5, X5, e5, st5⟩ := getF X4 hx hZ hown (host := "") (Or.inl (own_w hw 49 rfl)) Via.refl e4 P5 (g := (mkF m 30 #[rv a1, rv a2, rv a2] [.ref a2, .int 0])) rfl rfl (hb hby d18_30)
  refine own_fw (A' := (T5.setTop (mkF m 37 #[rv a1, rv a2, rv a2] [.ref a1]))) (fun t k => st5 _ (XS.icmpNo X5.here hx rfl (hb hby d18_33) rfl (XT.ii_ne_f rfl) (XS.aloadN X5.here hx rfl (hb hby d18_36) rfl rfl k))) ?_
  obtain ⟨T6, X6, e6, st6⟩ := getF X5 hx hZ hown (host := "") (Or.inl (own_w hw 51 rfl)) Via.refl e5 P2 (g := (mkF m 37 #[rv a1, rv a2, rv a2] [.ref a1])) rfl rfl (hb hby d18_37)
  refine own_fw (A' := (T6.setTop (mkF m 41 #[rv a1, rv a2, rv a2] [.ref a2, .ref b1]))) (fun t k => st6 _ (XS.aloadN X6.here hx rfl (hb hby d18_40) rfl rfl k)) ?_
  obtain ⟨T7, X7, e7, st7⟩ := getF X6 hx hZ hown (host := "") (Or.inl (own_w hw 51 rfl)) Via.refl e6 P6 (g := (mkF m 41 #[rv a1, rv a2, rv a2] [.ref a2, .ref b1])) rfl rfl (hb hby d18_41)
  refine own_fw (A' := (T7.setTop (mkF m 44 #[rv a1, rv a2, rv a2] [.ref b2, .ref b1]))) (fun t k => st7 _ k) ?_
  obtain ⟨_, _, ⟨T8, L8, k8, n8⟩, -, X8, ⟨Lc8, hQ8, l8, y8, z8⟩, st8⟩ := Jvm.LawKit.callS X7 hx (y := yq52) hown (mvT hZ (own_w hw 94 rfl)) (mvT hZ (own_w hw 95 rfl)) (mvT hZ (own_w hw 75 rfl)) (mvT hZ (own_w hw 96 rfl)) (by decide) (backOf (W := 0) (rmQEqL0 l Z a0 hw [] b1 b2 k1 k2 y0 h0 n0 Z0 P3 P7) hZ (own_w hw 96 rfl) (own_w hw 75 rfl) (by decide) (by decide)) (g := (mkF m 44 #[rv a1, rv a2, rv a2] [.ref b2, .ref b1])) rfl (by rw [hml]; rfl) (argsL := [(.ref b1), (.ref b2)]) (rest := []) (lenOf pd___B_B_Z rfl) rfl (by show 2 * 0 + _ ≤ _; exact Nat.le_of_eq rfl) (hb hby d18_44) (fun _ _ => ⟨rfl, e7, (by decide : 0 + 0 ≤ _), (by decide : 0 + 0 ≤ _)⟩)
  dsimp only [Pt.U, Pt.locs, Pt.cells, Pt.slots] at X8 l8 y8 z8 st8 hQ8
  subst l8 y8 z8
  obtain ⟨rfl, Nq8, e8⟩ := hQ8
  have Nf8 := Fr.app N0 Nq8
  refine own_fw (A' := (T8.setTop (mkF m 55 #[rv a1, rv a2, rv a2] [.int 0]))) (fun t k => st8 _ (XS.ifYes X8.here hx rfl (pc0 := 47) (pc' := 54) rfl (hb hby d18_47) rfl (XT.i0_eq_t rfl) (by decide) (by decide) (XS.iconst X8.here hx rfl (hb hby d18_54) k))) ?_
  obtain ⟨fs, hr, hrun, hended, hW, hsame⟩ := X8.leave (v := some (.int 0)) (fun h => by rw [Bd.returns] at h; cases h)
  refine ⟨_, _, ?_, hrun, hended, _, _, rfl, ?_, ⟨_, rfl⟩, hW, hsame.mono (by decide) (by decide)⟩
  · exact retOut X8 hx Bd.returns rfl (Or.inl ⟨rfl, by simp, _, rfl⟩) (hb hby d18_55) hr
  · show Q_rmSEqL0 Z a1 a2 b1 b2 k1 k2 cs y0 h0 n0 _ T8.heap _
    rw [e8]
    exact ⟨rfl, Nf8, rfl⟩
theorem ef_rmQEqL2 (m : MethodId) (a1 a2 : Addr) : entryFrame m #[(.ref a1), (.ref a2)] 3 = mkF m 0 #[.val (.ref a1), .val (.ref a2), .unset] [] := by first | (simp [entryFrame, mkF, argsToLocals, Value.category]; done) | rfl
def Q_rmQEqL2 (Z : State) (a1 a2 : Addr) (k1 k2 : ClassId) (y0 x0 x1 : Int32) (h0 : Heap) (n0 : Nat) (v : Option Value) (h : Heap) (L : List Loc) : Prop := v = some (.int 0) ∧ Fr n0 L ∧ h = h0
theorem rmQEqL2 (l : Launch) (Z : State) (a0 : Array Value) (hw : ∀ d ∈ tables_1, d.before a0 Z = true) (ws : List Jvm.Cond) (a1 a2 : Addr) (k1 k2 : ClassId) (y0 x0 x1 : Int32) (h0 : Heap) (n0 : Nat) (Z0 : n0 ≤ h0.size) (P0 : Arv Z h0 a1 k1 .byte (2 : Int32) [(.int x0), (.int x1)] (.int 0)) (P1 : Arv Z h0 a2 k2 .byte (1 : Int32) [(.int y0)] (.int 0)) :
    MetFree l yq52 (head1 (Jvm.Cond.code yq52 jdk_43_method_13_code 3 (some .boolean) :: ws) rq0) (fun a U => a = #[(.ref a1), (.ref a2)] ∧ Z.Warmed39 U.vm ∧ U.heap = h0) (fun _ _ _ _ _ => True) (fun _ U o U' => ∃ v L, o = .returned v ∧ Q_rmQEqL2 Z a1 a2 k1 k2 y0 x0 x1 h0 n0 v U'.heap L ∧ FrameEnd U o U' L rq0.cells rq0.slots) := by
  refine MetFree.of_bodySF (plainFor_of_name pn_java_lang_StringLatin1) hisR ?_
  intro p e s m args below meth c s₁ Bd hml0 hP hK
  obtain ⟨rfl, hZ, hh⟩ := hP
  have hx := Bd.exec
  have hby := Bd.bytes
  have hml : c.maxLocals = 3 := hml0
  have hown : s.vm.findClass "java/lang/StringLatin1" = some m.cls := findClass_of_methodNamed Bd.named
  have hnm := (name_of_methodNamed Bd.named Bd.method).1
  have X0 : Stand p l e rq0 s m #[(.ref a1), (.ref a2)] below meth c s₁ [] 0 0 := Stand.of_body Bd
  have e0 : s₁.heap = h0 := by rw [← hh, Bd.state]; rfl
  have N0 := Fr.nil n0
  refine own_fw (A' := (s₁.setTop (mkF m 1 #[rv a1, rv a2, .unset] [.ref a1]))) (fun t k => castTop (ef_rmQEqL2 m a1 a2) (XS.aloadN X0.here hx rfl (hb hby d19_0) rfl rfl k)) ?_
  obtain ⟨cl1, Ar1, q1, S1, M1, H1, G1⟩ := id P0
  refine own_fw (A' := (s₁.setTop (mkF m 2 #[rv a1, rv a2, .unset] [.int 2]))) (fun t k => X0.arraylength hx (by rw [e0]; exact Ar1.1) (State.isArrayOf_alike hZ.alike Ar1.2.1) (g := (mkF m 1 #[rv a1, rv a2, .unset] [.ref a1])) rfl rfl (hb hby d19_1) _ (by rw [len_of S1 M1]; exact k)) ?_
  refine own_fw (A' := (s₁.setTop (mkF m 3 #[rv a1, rv a2, .unset] [.ref a2, .int 2]))) (fun t k => XS.aloadN X0.here hx rfl (hb hby d19_2) rfl rfl k) ?_
  obtain ⟨cl2, Ar2, q2, S2, M2, H2, G2⟩ := id P1
  refine own_fw (A' := (s₁.setTop (mkF m 4 #[rv a1, rv a2, .unset] [.int 1, .int 2]))) (fun t k => X0.arraylength hx (by rw [e0]; exact Ar2.1) (State.isArrayOf_alike hZ.alike Ar2.2.1) (g := (mkF m 3 #[rv a1, rv a2, .unset] [.ref a2, .int 2])) rfl rfl (hb hby d19_3) _ (by rw [len_of S2 M2]; exact k)) ?_
  refine own_fw (A' := (s₁.setTop (mkF m 35 #[rv a1, rv a2, .unset] [.int 0]))) (fun t k => XS.icmpYes X0.here hx rfl (pc0 := 4) (pc' := 34) rfl (hb hby d19_4) rfl (XT.ii_ne_t (by decide)) (by decide) (by decide) (XS.iconst X0.here hx rfl (hb hby d19_34) k)) ?_
  obtain ⟨fs, hr, hrun, hended, hW, hsame⟩ := X0.leave (v := some (.int 0)) (fun h => by rw [Bd.returns] at h; cases h)
  refine ⟨_, _, ?_, hrun, hended, _, _, rfl, ?_, ⟨_, rfl⟩, hW, hsame.mono (by decide) (by decide)⟩
  · exact retOut X0 hx Bd.returns rfl (Or.inl ⟨rfl, by simp, _, rfl⟩) (hb hby d19_35) hr
  · show Q_rmQEqL2 Z a1 a2 k1 k2 y0 x0 x1 h0 n0 _ s₁.heap _
    rw [e0]
    exact ⟨rfl, N0, rfl⟩
theorem ef_rmSEqL2 (m : MethodId) (a1 a2 : Addr) : entryFrame m #[(.ref a1), (.ref a2)] 3 = mkF m 0 #[.val (.ref a1), .val (.ref a2), .unset] [] := by first | (simp [entryFrame, mkF, argsToLocals, Value.category]; done) | rfl
def Q_rmSEqL2 (Z : State) (a1 a2 b1 b2 : Addr) (k1 k2 : ClassId) (cs y0 x0 x1 : Int32) (h0 : Heap) (n0 : Nat) (v : Option Value) (h : Heap) (L : List Loc) : Prop := v = some (.int 0) ∧ Fr n0 L ∧ h = h0
theorem rmSEqL2 (l : Launch) (Z : State) (a0 : Array Value) (hw : ∀ d ∈ tables_1, d.before a0 Z = true) (ws : List Jvm.Cond) (a1 a2 b1 b2 : Addr) (k1 k2 : ClassId) (cs y0 x0 x1 : Int32) (h0 : Heap) (n0 : Nat) (Z0 : n0 ≤ h0.size) (P0 : Exa Z h0 a1 "java/lang/String") (P1 : Fld Z h0 a1 "java/lang/String" "coder" "B" (.int 0)) (P2 : Fld Z h0 a1 "java/lang/String" "value" "[B" (.ref b1)) (P3 : Arv Z h0 b1 k1 .byte (2 : Int32) [(.int x0), (.int x1)] (.int 0)) (P4 : Exa Z h0 a2 "java/lang/String") (P5 : Fld Z h0 a2 "java/lang/String" "coder" "B" (.int 0)) (P6 : Fld Z h0 a2 "java/lang/String" "value" "[B" (.ref b2)) (P7 : Arv Z h0 b2 k2 .byte (1 : Int32) [(.int y0)] (.int 0)) (P8 : Sta Z h0 "java/lang/String" "COMPACT_STRINGS" "Z" (.int cs)) (hcs : ¬ (cs = (0 : Int32))) (ne_a1_a2 : a1 ≠ a2) :
    MetFree l yq53 (head1 (Jvm.Cond.code yq53 jdk_42_method_66_code 3 (some .boolean) :: ws) rq37) (fun a U => a = #[(.ref a1), (.ref a2)] ∧ Z.Warmed39 U.vm ∧ U.heap = h0) (fun _ _ _ _ _ => True) (fun _ U o U' => ∃ v L, o = .returned v ∧ Q_rmSEqL2 Z a1 a2 b1 b2 k1 k2 cs y0 x0 x1 h0 n0 v U'.heap L ∧ FrameEnd U o U' L rq37.cells rq37.slots) := by
  refine MetFree.of_bodySF (plainFor_of_name pn_java_lang_String) hisR ?_
  intro p e s m args below meth c s₁ Bd hml0 hP hK
  obtain ⟨rfl, hZ, hh⟩ := hP
  have hx := Bd.exec
  have hby := Bd.bytes
  have hml : c.maxLocals = 3 := hml0
  have hown : s.vm.findClass "java/lang/String" = some m.cls := findClass_of_methodNamed Bd.named
  have hnm := (name_of_methodNamed Bd.named Bd.method).1
  have X0 : Stand p l e rq37 s m #[(.ref a1), (.ref a2)] below meth c s₁ [] 0 0 := Stand.of_body Bd
  have e0 : s₁.heap = h0 := by rw [← hh, Bd.state]; rfl
  have N0 := Fr.nil n0
  refine own_fw (A' := (s₁.setTop (mkF m 8 #[rv a1, rv a2, .unset] [.ref a2]))) (fun t k => castTop (ef_rmSEqL2 m a1 a2) (XS.aloadN X0.here hx rfl (hb hby d18_0) rfl rfl (XS.aloadN X0.here hx rfl (hb hby d18_1) rfl rfl (Jvm.RoadKit.acmp (g := (mkF m 2 #[rv a1, rv a2, .unset] [.ref a2, .ref a1])) X0 hx rfl rfl rfl (pc0 := 2) (pc' := 7) (same := false) rfl (hb hby d18_2) rfl (decide_eq_false (fun q => ne_a1_a2 (Value.ref.inj q))) (by decide) (by decide) (XS.aloadN X0.here hx rfl (hb hby d18_7) rfl rfl k))))) ?_
  obtain ⟨T1, X1, e1, st1⟩ := instY X0 hx hZ hown (own_w hw 93 rfl) e0 (Ins.self P4) (g := (mkF m 8 #[rv a1, rv a2, .unset] [.ref a2])) rfl rfl (hb hby d18_8)
  refine own_fw (A' := (T1.setTop (mkF m 15 #[rv a1, rv a2, .unset] [.ref a2]))) (fun t k => st1 _ (XS.ifNo X1.here hx rfl (hb hby d18_11) rfl (XT.i0_eq_f (by decide)) (XS.aloadN X1.here hx rfl (hb hby d18_14) rfl rfl k))) ?_
  obtain ⟨T2, X2, e2, st2⟩ := castY X1 hx hZ hown (own_w hw 93 rfl) e1 (Ins.self P4) (g := (mkF m 15 #[rv a1, rv a2, .unset] [.ref a2])) rfl rfl (hb hby d18_15)
  refine own_fw (A' := (T2.setTop (mkF m 19 #[rv a1, rv a2, rv a2] []))) (fun t k => st2 _ (XS.astoreN X2.here hx rfl (hb hby d18_18) rfl rfl (l' := #[.val (.ref a1), .val (.ref a2), .val (.ref a2)]) rfl k)) ?_
  obtain ⟨T3, X3, e3, st3⟩ := getS2 X2 hx hZ hown (host := "") (Or.inl (own_w hw 37 rfl)) Via.refl e2 P8 (g := (mkF m 19 #[rv a1, rv a2, rv a2] [])) rfl (hb hby d18_19)
  refine own_fw (A' := (T3.setTop (mkF m 26 #[rv a1, rv a2, rv a2] [.ref a1]))) (fun t k => st3 _ (XS.ifNo X3.here hx rfl (hb hby d18_22) rfl (XT.i0_eq_f hcs) (XS.aloadN X3.here hx rfl (hb hby d18_25) rfl rfl k))) ?_
  obtain ⟨T4, X4, e4, st4⟩ := getF X3 hx hZ hown (host := "") (Or.inl (own_w hw 49 rfl)) Via.refl e3 P1 (g := (mkF m 26 #[rv a1, rv a2, rv a2] [.ref a1])) rfl rfl (hb hby d18_26)
  refine own_fw (A' := (T4.setTop (mkF m 30 #[rv a1, rv a2, rv a2] [.ref a2, .int 0]))) (fun t k => st4 _ (XS.aloadN X4.here hx rfl (hb hby d18_29) rfl rfl k)) ?_
  obtain ⟨T5, X5, e5, st5⟩ := getF X4 hx hZ hown (host := "") (Or.inl (own_w hw 49 rfl)) Via.refl e4 P5 (g := (mkF m 30 #[rv a1, rv a2, rv a2] [.ref a2, .int 0])) rfl rfl (hb hby d18_30)
  refine own_fw (A' := (T5.setTop (mkF m 37 #[rv a1, rv a2, rv a2] [.ref a1]))) (fun t k => st5 _ (XS.icmpNo X5.here hx rfl (hb hby d18_33) rfl (XT.ii_ne_f rfl) (XS.aloadN X5.here hx rfl (hb hby d18_36) rfl rfl k))) ?_
  obtain ⟨T6, X6, e6, st6⟩ := getF X5 hx hZ hown (host := "") (Or.inl (own_w hw 51 rfl)) Via.refl e5 P2 (g := (mkF m 37 #[rv a1, rv a2, rv a2] [.ref a1])) rfl rfl (hb hby d18_37)
  refine own_fw (A' := (T6.setTop (mkF m 41 #[rv a1, rv a2, rv a2] [.ref a2, .ref b1]))) (fun t k => st6 _ (XS.aloadN X6.here hx rfl (hb hby d18_40) rfl rfl k)) ?_
  obtain ⟨T7, X7, e7, st7⟩ := getF X6 hx hZ hown (host := "") (Or.inl (own_w hw 51 rfl)) Via.refl e6 P6 (g := (mkF m 41 #[rv a1, rv a2, rv a2] [.ref a2, .ref b1])) rfl rfl (hb hby d18_41)
  refine own_fw (A' := (T7.setTop (mkF m 44 #[rv a1, rv a2, rv a2] [.ref b2, .ref b1]))) (fun t k => st7 _ k) ?_
  obtain ⟨_, _, ⟨T8, L8, k8, n8⟩, -, X8, ⟨Lc8, hQ8, l8, y8, z8⟩, st8⟩ := Jvm.LawKit.callS X7 hx (y := yq52) hown (mvT hZ (own_w hw 94 rfl)) (mvT hZ (own_w hw 95 rfl)) (mvT hZ (own_w hw 75 rfl)) (mvT hZ (own_w hw 96 rfl)) (by decide) (backOf (W := 0) (rmQEqL2 l Z a0 hw [] b1 b2 k1 k2 y0 x0 x1 h0 n0 Z0 P3 P7) hZ (own_w hw 96 rfl) (own_w hw 75 rfl) (by decide) (by decide)) (g := (mkF m 44 #[rv a1, rv a2, rv a2] [.ref b2, .ref b1])) rfl (by rw [hml]; rfl) (argsL := [(.ref b1), (.ref b2)]) (rest := []) (lenOf pd___B_B_Z rfl) rfl (by show 2 * 0 + _ ≤ _; exact Nat.le_of_eq rfl) (hb hby d18_44) (fun _ _ => ⟨rfl, e7, (by decide : 0 + 0 ≤ _), (by decide : 0 + 0 ≤ _)⟩)
  dsimp only [Pt.U, Pt.locs, Pt.cells, Pt.slots] at X8 l8 y8 z8 st8 hQ8
  subst l8 y8 z8
  obtain ⟨rfl, Nq8, e8⟩ := hQ8
  have Nf8 := Fr.app N0 Nq8
  refine own_fw (A' := (T8.setTop (mkF m 55 #[rv a1, rv a2, rv a2] [.int 0]))) (fun t k => st8 _ (XS.ifYes X8.here hx rfl (pc0 := 47) (pc' := 54) rfl (hb hby d18_47) rfl (XT.i0_eq_t rfl) (by decide) (by decide) (XS.iconst X8.here hx rfl (hb hby d18_54) k))) ?_
  obtain ⟨fs, hr, hrun, hended, hW, hsame⟩ := X8.leave (v := some (.int 0)) (fun h => by rw [Bd.returns] at h; cases h)
  refine ⟨_, _, ?_, hrun, hended, _, _, rfl, ?_, ⟨_, rfl⟩, hW, hsame.mono (by decide) (by decide)⟩
  · exact retOut X8 hx Bd.returns rfl (Or.inl ⟨rfl, by simp, _, rfl⟩) (hb hby d18_55) hr
  · show Q_rmSEqL2 Z a1 a2 b1 b2 k1 k2 cs y0 x0 x1 h0 n0 _ T8.heap _
    rw [e8]
    exact ⟨rfl, Nf8, rfl⟩
theorem ef_rmQEqL3 (m : MethodId) (a1 a2 : Addr) : entryFrame m #[(.ref a1), (.ref a2)] 3 = mkF m 0 #[.val (.ref a1), .val (.ref a2), .unset] [] := by first | (simp [entryFrame, mkF, argsToLocals, Value.category]; done) | rfl
def Q_rmQEqL3 (Z : State) (a1 a2 : Addr) (k1 k2 : ClassId) (y0 x0 x1 x2 : Int32) (h0 : Heap) (n0 : Nat) (v : Option Value) (h : Heap) (L : List Loc) : Prop := v = some (.int 0) ∧ Fr n0 L ∧ h = h0
theorem rmQEqL3 (l : Launch) (Z : State) (a0 : Array Value) (hw : ∀ d ∈ tables_1, d.before a0 Z = true) (ws : List Jvm.Cond) (a1 a2 : Addr) (k1 k2 : ClassId) (y0 x0 x1 x2 : Int32) (h0 : Heap) (n0 : Nat) (Z0 : n0 ≤ h0.size) (P0 : Arv Z h0 a1 k1 .byte (3 : Int32) [(.int x0), (.int x1), (.int x2)] (.int 0)) (P1 : Arv Z h0 a2 k2 .byte (1 : Int32) [(.int y0)] (.int 0)) :
    MetFree l yq52 (head1 (Jvm.Cond.code yq52 jdk_43_method_13_code 3 (some .boolean) :: ws) rq0) (fun a U => a = #[(.ref a1), (.ref a2)] ∧ Z.Warmed39 U.vm ∧ U.heap = h0) (fun _ _ _ _ _ => True) (fun _ U o U' => ∃ v L, o = .returned v ∧ Q_rmQEqL3 Z a1 a2 k1 k2 y0 x0 x1 x2 h0 n0 v U'.heap L ∧ FrameEnd U o U' L rq0.cells rq0.slots) := by
  refine MetFree.of_bodySF (plainFor_of_name pn_java_lang_StringLatin1) hisR ?_
  intro p e s m args below meth c s₁ Bd hml0 hP hK
  obtain ⟨rfl, hZ, hh⟩ := hP
  have hx := Bd.exec
  have hby := Bd.bytes
  have hml : c.maxLocals = 3 := hml0
  have hown : s.vm.findClass "java/lang/StringLatin1" = some m.cls := findClass_of_methodNamed Bd.named
  have hnm := (name_of_methodNamed Bd.named Bd.method).1
  have X0 : Stand p l e rq0 s m #[(.ref a1), (.ref a2)] below meth c s₁ [] 0 0 := Stand.of_body Bd
  have e0 : s₁.heap = h0 := by rw [← hh, Bd.state]; rfl
  have N0 := Fr.nil n0
  refine own_fw (A' := (s₁.setTop (mkF m 1 #[rv a1, rv a2, .unset] [.ref a1]))) (fun t k => castTop (ef_rmQEqL3 m a1 a2) (XS.aloadN X0.here hx rfl (hb hby d19_0) rfl rfl k)) ?_
  obtain ⟨cl1, Ar1, q1, S1, M1, H1, G1⟩ := id P0
  refine own_fw (A' := (s₁.setTop (mkF m 2 #[rv a1, rv a2, .unset] [.int 3]))) (fun t k => X0.arraylength hx (by rw [e0]; exact Ar1.1) (State.isArrayOf_alike hZ.alike Ar1.2.1) (g := (mkF m 1 #[rv a1, rv a2, .unset] [.ref a1])) rfl rfl (hb hby d19_1) _ (by rw [len_of S1 M1]; exact k)) ?_
  refine own_fw (A' := (s₁.setTop (mkF m 3 #[rv a1, rv a2, .unset] [.ref a2, .int 3]))) (fun t k => XS.aloadN X0.here hx rfl (hb hby d19_2) rfl rfl k) ?_
  obtain ⟨cl2, Ar2, q2, S2, M2, H2, G2⟩ := id P1
  refine own_fw (A' := (s₁.setTop (mkF m 4 #[rv a1, rv a2, .unset] [.int 1, .int 3]))) (fun t k => X0.arraylength hx (by rw [e0]; exact Ar2.1) (State.isArrayOf_alike hZ.alike Ar2.2.1) (g := (mkF m 3 #[rv a1, rv a2, .unset] [.ref a2, .int 3])) rfl rfl (hb hby d19_3) _ (by rw [len_of S2 M2]; exact k)) ?_
  refine own_fw (A' := (s₁.setTop (mkF m 35 #[rv a1, rv a2, .unset] [.int 0]))) (fun t k => XS.icmpYes X0.here hx rfl (pc0 := 4) (pc' := 34) rfl (hb hby d19_4) rfl (XT.ii_ne_t (by decide)) (by decide) (by decide) (XS.iconst X0.here hx rfl (hb hby d19_34) k)) ?_
  obtain ⟨fs, hr, hrun, hended, hW, hsame⟩ := X0.leave (v := some (.int 0)) (fun h => by rw [Bd.returns] at h; cases h)
  refine ⟨_, _, ?_, hrun, hended, _, _, rfl, ?_, ⟨_, rfl⟩, hW, hsame.mono (by decide) (by decide)⟩
  · exact retOut X0 hx Bd.returns rfl (Or.inl ⟨rfl, by simp, _, rfl⟩) (hb hby d19_35) hr
  · show Q_rmQEqL3 Z a1 a2 k1 k2 y0 x0 x1 x2 h0 n0 _ s₁.heap _
    rw [e0]
    exact ⟨rfl, N0, rfl⟩
theorem ef_rmSEqL3 (m : MethodId) (a1 a2 : Addr) : entryFrame m #[(.ref a1), (.ref a2)] 3 = mkF m 0 #[.val (.ref a1), .val (.ref a2), .unset] [] := by first | (simp [entryFrame, mkF, argsToLocals, Value.category]; done) | rfl
def Q_rmSEqL3 (Z : State) (a1 a2 b1 b2 : Addr) (k1 k2 : ClassId) (cs y0 x0 x1 x2 : Int32) (h0 : Heap) (n0 : Nat) (v : Option Value) (h : Heap) (L : List Loc) : Prop := v = some (.int 0) ∧ Fr n0 L ∧ h = h0
theorem rmSEqL3 (l : Launch) (Z : State) (a0 : Array Value) (hw : ∀ d ∈ tables_1, d.before a0 Z = true) (ws : List Jvm.Cond) (a1 a2 b1 b2 : Addr) (k1 k2 : ClassId) (cs y0 x0 x1 x2 : Int32) (h0 : Heap) (n0 : Nat) (Z0 : n0 ≤ h0.size) (P0 : Exa Z h0 a1 "java/lang/String") (P1 : Fld Z h0 a1 "java/lang/String" "coder" "B" (.int 0)) (P2 : Fld Z h0 a1 "java/lang/String" "value" "[B" (.ref b1)) (P3 : Arv Z h0 b1 k1 .byte (3 : Int32) [(.int x0), (.int x1), (.int x2)] (.int 0)) (P4 : Exa Z h0 a2 "java/lang/String") (P5 : Fld Z h0 a2 "java/lang/String" "coder" "B" (.int 0)) (P6 : Fld Z h0 a2 "java/lang/String" "value" "[B" (.ref b2)) (P7 : Arv Z h0 b2 k2 .byte (1 : Int32) [(.int y0)] (.int 0)) (P8 : Sta Z h0 "java/lang/String" "COMPACT_STRINGS" "Z" (.int cs)) (hcs : ¬ (cs = (0 : Int32))) (ne_a1_a2 : a1 ≠ a2) :
    MetFree l yq53 (head1 (Jvm.Cond.code yq53 jdk_42_method_66_code 3 (some .boolean) :: ws) rq37) (fun a U => a = #[(.ref a1), (.ref a2)] ∧ Z.Warmed39 U.vm ∧ U.heap = h0) (fun _ _ _ _ _ => True) (fun _ U o U' => ∃ v L, o = .returned v ∧ Q_rmSEqL3 Z a1 a2 b1 b2 k1 k2 cs y0 x0 x1 x2 h0 n0 v U'.heap L ∧ FrameEnd U o U' L rq37.cells rq37.slots) := by
  refine MetFree.of_bodySF (plainFor_of_name pn_java_lang_String) hisR ?_
  intro p e s m args below meth c s₁ Bd hml0 hP hK
  obtain ⟨rfl, hZ, hh⟩ := hP
  have hx := Bd.exec
  have hby := Bd.bytes
  have hml : c.maxLocals = 3 := hml0
  have hown : s.vm.findClass "java/lang/String" = some m.cls := findClass_of_methodNamed Bd.named
  have hnm := (name_of_methodNamed Bd.named Bd.method).1
  have X0 : Stand p l e rq37 s m #[(.ref a1), (.ref a2)] below meth c s₁ [] 0 0 := Stand.of_body Bd
  have e0 : s₁.heap = h0 := by rw [← hh, Bd.state]; rfl
  have N0 := Fr.nil n0
  refine own_fw (A' := (s₁.setTop (mkF m 8 #[rv a1, rv a2, .unset] [.ref a2]))) (fun t k => castTop (ef_rmSEqL3 m a1 a2) (XS.aloadN X0.here hx rfl (hb hby d18_0) rfl rfl (XS.aloadN X0.here hx rfl (hb hby d18_1) rfl rfl (Jvm.RoadKit.acmp (g := (mkF m 2 #[rv a1, rv a2, .unset] [.ref a2, .ref a1])) X0 hx rfl rfl rfl (pc0 := 2) (pc' := 7) (same := false) rfl (hb hby d18_2) rfl (decide_eq_false (fun q => ne_a1_a2 (Value.ref.inj q))) (by decide) (by decide) (XS.aloadN X0.here hx rfl (hb hby d18_7) rfl rfl k))))) ?_
  obtain ⟨T1, X1, e1, st1⟩ := instY X0 hx hZ hown (own_w hw 93 rfl) e0 (Ins.self P4) (g := (mkF m 8 #[rv a1, rv a2, .unset] [.ref a2])) rfl rfl (hb hby d18_8)
  refine own_fw (A' := (T1.setTop (mkF m 15 #[rv a1, rv a2, .unset] [.ref a2]))) (fun t k => st1 _ (XS.ifNo X1.here hx rfl (hb hby d18_11) rfl (XT.i0_eq_f (by decide)) (XS.aloadN X1.here hx rfl (hb hby d18_14) rfl rfl k))) ?_
  obtain ⟨T2, X2, e2, st2⟩ := castY X1 hx hZ hown (own_w hw 93 rfl) e1 (Ins.self P4) (g := (mkF m 15 #[rv a1, rv a2, .unset] [.ref a2])) rfl rfl (hb hby d18_15)
  refine own_fw (A' := (T2.setTop (mkF m 19 #[rv a1, rv a2, rv a2] []))) (fun t k => st2 _ (XS.astoreN X2.here hx rfl (hb hby d18_18) rfl rfl (l' := #[.val (.ref a1), .val (.ref a2), .val (.ref a2)]) rfl k)) ?_
  obtain ⟨T3, X3, e3, st3⟩ := getS2 X2 hx hZ hown (host := "") (Or.inl (own_w hw 37 rfl)) Via.refl e2 P8 (g := (mkF m 19 #[rv a1, rv a2, rv a2] [])) rfl (hb hby d18_19)
  refine own_fw (A' := (T3.setTop (mkF m 26 #[rv a1, rv a2, rv a2] [.ref a1]))) (fun t k => st3 _ (XS.ifNo X3.here hx rfl (hb hby d18_22) rfl (XT.i0_eq_f hcs) (XS.aloadN X3.here hx rfl (hb hby d18_25) rfl rfl k))) ?_
  obtain ⟨T4, X4, e4, st4⟩ := getF X3 hx hZ hown (host := "") (Or.inl (own_w hw 49 rfl)) Via.refl e3 P1 (g := (mkF m 26 #[rv a1, rv a2, rv a2] [.ref a1])) rfl rfl (hb hby d18_26)
  refine own_fw (A' := (T4.setTop (mkF m 30 #[rv a1, rv a2, rv a2] [.ref a2, .int 0]))) (fun t k => st4 _ (XS.aloadN X4.here hx rfl (hb hby d18_29) rfl rfl k)) ?_
  obtain ⟨T5, X5, e5, st5⟩ := getF X4 hx hZ hown (host := "") (Or.inl (own_w hw 49 rfl)) Via.refl e4 P5 (g := (mkF m 30 #[rv a1, rv a2, rv a2] [.ref a2, .int 0])) rfl rfl (hb hby d18_30)
  refine own_fw (A' := (T5.setTop (mkF m 37 #[rv a1, rv a2, rv a2] [.ref a1]))) (fun t k => st5 _ (XS.icmpNo X5.here hx rfl (hb hby d18_33) rfl (XT.ii_ne_f rfl) (XS.aloadN X5.here hx rfl (hb hby d18_36) rfl rfl k))) ?_
  obtain ⟨T6, X6, e6, st6⟩ := getF X5 hx hZ hown (host := "") (Or.inl (own_w hw 51 rfl)) Via.refl e5 P2 (g := (mkF m 37 #[rv a1, rv a2, rv a2] [.ref a1])) rfl rfl (hb hby d18_37)
  refine own_fw (A' := (T6.setTop (mkF m 41 #[rv a1, rv a2, rv a2] [.ref a2, .ref b1]))) (fun t k => st6 _ (XS.aloadN X6.here hx rfl (hb hby d18_40) rfl rfl k)) ?_
  obtain ⟨T7, X7, e7, st7⟩ := getF X6 hx hZ hown (host := "") (Or.inl (own_w hw 51 rfl)) Via.refl e6 P6 (g := (mkF m 41 #[rv a1, rv a2, rv a2] [.ref a2, .ref b1])) rfl rfl (hb hby d18_41)
  refine own_fw (A' := (T7.setTop (mkF m 44 #[rv a1, rv a2, rv a2] [.ref b2, .ref b1]))) (fun t k => st7 _ k) ?_
  obtain ⟨_, _, ⟨T8, L8, k8, n8⟩, -, X8, ⟨Lc8, hQ8, l8, y8, z8⟩, st8⟩ := Jvm.LawKit.callS X7 hx (y := yq52) hown (mvT hZ (own_w hw 94 rfl)) (mvT hZ (own_w hw 95 rfl)) (mvT hZ (own_w hw 75 rfl)) (mvT hZ (own_w hw 96 rfl)) (by decide) (backOf (W := 0) (rmQEqL3 l Z a0 hw [] b1 b2 k1 k2 y0 x0 x1 x2 h0 n0 Z0 P3 P7) hZ (own_w hw 96 rfl) (own_w hw 75 rfl) (by decide) (by decide)) (g := (mkF m 44 #[rv a1, rv a2, rv a2] [.ref b2, .ref b1])) rfl (by rw [hml]; rfl) (argsL := [(.ref b1), (.ref b2)]) (rest := []) (lenOf pd___B_B_Z rfl) rfl (by show 2 * 0 + _ ≤ _; exact Nat.le_of_eq rfl) (hb hby d18_44) (fun _ _ => ⟨rfl, e7, (by decide : 0 + 0 ≤ _), (by decide : 0 + 0 ≤ _)⟩)
  dsimp only [Pt.U, Pt.locs, Pt.cells, Pt.slots] at X8 l8 y8 z8 st8 hQ8
  subst l8 y8 z8
  obtain ⟨rfl, Nq8, e8⟩ := hQ8
  have Nf8 := Fr.app N0 Nq8
  refine own_fw (A' := (T8.setTop (mkF m 55 #[rv a1, rv a2, rv a2] [.int 0]))) (fun t k => st8 _ (XS.ifYes X8.here hx rfl (pc0 := 47) (pc' := 54) rfl (hb hby d18_47) rfl (XT.i0_eq_t rfl) (by decide) (by decide) (XS.iconst X8.here hx rfl (hb hby d18_54) k))) ?_
  obtain ⟨fs, hr, hrun, hended, hW, hsame⟩ := X8.leave (v := some (.int 0)) (fun h => by rw [Bd.returns] at h; cases h)
  refine ⟨_, _, ?_, hrun, hended, _, _, rfl, ?_, ⟨_, rfl⟩, hW, hsame.mono (by decide) (by decide)⟩
  · exact retOut X8 hx Bd.returns rfl (Or.inl ⟨rfl, by simp, _, rfl⟩) (hb hby d18_55) hr
  · show Q_rmSEqL3 Z a1 a2 b1 b2 k1 k2 cs y0 x0 x1 x2 h0 n0 _ T8.heap _
    rw [e8]
    exact ⟨rfl, Nf8, rfl⟩
theorem ef_rmSEqU1 (m : MethodId) (a1 a2 : Addr) : entryFrame m #[(.ref a1), (.ref a2)] 3 = mkF m 0 #[.val (.ref a1), .val (.ref a2), .unset] [] := by first | (simp [entryFrame, mkF, argsToLocals, Value.category]; done) | rfl
def Q_rmSEqU1 (Z : State) (a1 a2 b1 b2 : Addr) (k1 k2 : ClassId) (cs y0 x0 x1 : Int32) (h0 : Heap) (n0 : Nat) (v : Option Value) (h : Heap) (L : List Loc) : Prop := v = some (.int 0) ∧ Fr n0 L ∧ h = h0
theorem rmSEqU1 (l : Launch) (Z : State) (a0 : Array Value) (hw : ∀ d ∈ tables_1, d.before a0 Z = true) (ws : List Jvm.Cond) (a1 a2 b1 b2 : Addr) (k1 k2 : ClassId) (cs y0 x0 x1 : Int32) (h0 : Heap) (n0 : Nat) (Z0 : n0 ≤ h0.size) (P0 : Exa Z h0 a1 "java/lang/String") (P1 : Fld Z h0 a1 "java/lang/String" "coder" "B" (.int 1)) (P2 : Fld Z h0 a1 "java/lang/String" "value" "[B" (.ref b1)) (P3 : Arv Z h0 b1 k1 .byte (2 : Int32) [(.int x0), (.int x1)] (.int 0)) (P4 : Exa Z h0 a2 "java/lang/String") (P5 : Fld Z h0 a2 "java/lang/String" "coder" "B" (.int 0)) (P6 : Fld Z h0 a2 "java/lang/String" "value" "[B" (.ref b2)) (P7 : Arv Z h0 b2 k2 .byte (1 : Int32) [(.int y0)] (.int 0)) (P8 : Sta Z h0 "java/lang/String" "COMPACT_STRINGS" "Z" (.int cs)) (hcs : ¬ (cs = (0 : Int32))) (ne_a1_a2 : a1 ≠ a2) :
    MetFree l yq53 (head1 (Jvm.Cond.code yq53 jdk_42_method_66_code 3 (some .boolean) :: ws) rq0) (fun a U => a = #[(.ref a1), (.ref a2)] ∧ Z.Warmed39 U.vm ∧ U.heap = h0) (fun _ _ _ _ _ => True) (fun _ U o U' => ∃ v L, o = .returned v ∧ Q_rmSEqU1 Z a1 a2 b1 b2 k1 k2 cs y0 x0 x1 h0 n0 v U'.heap L ∧ FrameEnd U o U' L rq0.cells rq0.slots) := by
  refine MetFree.of_bodySF (plainFor_of_name pn_java_lang_String) hisR ?_
  intro p e s m args below meth c s₁ Bd hml0 hP hK
  obtain ⟨rfl, hZ, hh⟩ := hP
  have hx := Bd.exec
  have hby := Bd.bytes
  have hml : c.maxLocals = 3 := hml0
  have hown : s.vm.findClass "java/lang/String" = some m.cls := findClass_of_methodNamed Bd.named
  have hnm := (name_of_methodNamed Bd.named Bd.method).1
  have X0 : Stand p l e rq0 s m #[(.ref a1), (.ref a2)] below meth c s₁ [] 0 0 := Stand.of_body Bd
  have e0 : s₁.heap = h0 := by rw [← hh, Bd.state]; rfl
  have N0 := Fr.nil n0
  refine own_fw (A' := (s₁.setTop (mkF m 8 #[rv a1, rv a2, .unset] [.ref a2]))) (fun t k => castTop (ef_rmSEqU1 m a1 a2) (XS.aloadN X0.here hx rfl (hb hby d18_0) rfl rfl (XS.aloadN X0.here hx rfl (hb hby d18_1) rfl rfl (Jvm.RoadKit.acmp (g := (mkF m 2 #[rv a1, rv a2, .unset] [.ref a2, .ref a1])) X0 hx rfl rfl rfl (pc0 := 2) (pc' := 7) (same := false) rfl (hb hby d18_2) rfl (decide_eq_false (fun q => ne_a1_a2 (Value.ref.inj q))) (by decide) (by decide) (XS.aloadN X0.here hx rfl (hb hby d18_7) rfl rfl k))))) ?_
  obtain ⟨T1, X1, e1, st1⟩ := instY X0 hx hZ hown (own_w hw 93 rfl) e0 (Ins.self P4) (g := (mkF m 8 #[rv a1, rv a2, .unset] [.ref a2])) rfl rfl (hb hby d18_8)
  refine own_fw (A' := (T1.setTop (mkF m 15 #[rv a1, rv a2, .unset] [.ref a2]))) (fun t k => st1 _ (XS.ifNo X1.here hx rfl (hb hby d18_11) rfl (XT.i0_eq_f (by decide)) (XS.aloadN X1.here hx rfl (hb hby d18_14) rfl rfl k))) ?_
  obtain ⟨T2, X2, e2, st2⟩ := castY X1 hx hZ hown (own_w hw 93 rfl) e1 (Ins.self P4) (g := (mkF m 15 #[rv a1, rv a2, .unset] [.ref a2])) rfl rfl (hb hby d18_15)
  refine own_fw (A' := (T2.setTop (mkF m 19 #[rv a1, rv a2, rv a2] []))) (fun t k => st2 _ (XS.astoreN X2.here hx rfl (hb hby d18_18) rfl rfl (l' := #[.val (.ref a1), .val (.ref a2), .val (.ref a2)]) rfl k)) ?_
  obtain ⟨T3, X3, e3, st3⟩ := getS2 X2 hx hZ hown (host := "") (Or.inl (own_w hw 37 rfl)) Via.refl e2 P8 (g := (mkF m 19 #[rv a1, rv a2, rv a2] [])) rfl (hb hby d18_19)
  refine own_fw (A' := (T3.setTop (mkF m 26 #[rv a1, rv a2, rv a2] [.ref a1]))) (fun t k => st3 _ (XS.ifNo X3.here hx rfl (hb hby d18_22) rfl (XT.i0_eq_f hcs) (XS.aloadN X3.here hx rfl (hb hby d18_25) rfl rfl k))) ?_
  obtain ⟨T4, X4, e4, st4⟩ := getF X3 hx hZ hown (host := "") (Or.inl (own_w hw 49 rfl)) Via.refl e3 P1 (g := (mkF m 26 #[rv a1, rv a2, rv a2] [.ref a1])) rfl rfl (hb hby d18_26)
  refine own_fw (A' := (T4.setTop (mkF m 30 #[rv a1, rv a2, rv a2] [.ref a2, .int 1]))) (fun t k => st4 _ (XS.aloadN X4.here hx rfl (hb hby d18_29) rfl rfl k)) ?_
  obtain ⟨T5, X5, e5, st5⟩ := getF X4 hx hZ hown (host := "") (Or.inl (own_w hw 49 rfl)) Via.refl e4 P5 (g := (mkF m 30 #[rv a1, rv a2, rv a2] [.ref a2, .int 1])) rfl rfl (hb hby d18_30)
  refine own_fw (A' := (T5.setTop (mkF m 55 #[rv a1, rv a2, rv a2] [.int 0]))) (fun t k => st5 _ (XS.icmpYes X5.here hx rfl (pc0 := 33) (pc' := 54) rfl (hb hby d18_33) rfl (XT.ii_ne_t (by decide)) (by decide) (by decide) (XS.iconst X5.here hx rfl (hb hby d18_54) k))) ?_
  obtain ⟨fs, hr, hrun, hended, hW, hsame⟩ := X5.leave (v := some (.int 0)) (fun h => by rw [Bd.returns] at h; cases h)
  refine ⟨_, _, ?_, hrun, hended, _, _, rfl, ?_, ⟨_, rfl⟩, hW, hsame.mono (by decide) (by decide)⟩
  · exact retOut X5 hx Bd.returns rfl (Or.inl ⟨rfl, by simp, _, rfl⟩) (hb hby d18_55) hr
  · show Q_rmSEqU1 Z a1 a2 b1 b2 k1 k2 cs y0 x0 x1 h0 n0 _ T5.heap _
    rw [e5]
    exact ⟨rfl, N0, rfl⟩
theorem ef_rmSEqU2 (m : MethodId) (a1 a2 : Addr) : entryFrame m #[(.ref a1), (.ref a2)] 3 = mkF m 0 #[.val (.ref a1), .val (.ref a2), .unset] [] := by first | (simp [entryFrame, mkF, argsToLocals, Value.category]; done) | rfl
def Q_rmSEqU2 (Z : State) (a1 a2 b1 b2 : Addr) (k1 k2 : ClassId) (cs y0 x0 x1 x2 x3 : Int32) (h0 : Heap) (n0 : Nat) (v : Option Value) (h : Heap) (L : List Loc) : Prop := v = some (.int 0) ∧ Fr n0 L ∧ h = h0
theorem rmSEqU2 (l : Launch) (Z : State) (a0 : Array Value) (hw : ∀ d ∈ tables_1, d.before a0 Z = true) (ws : List Jvm.Cond) (a1 a2 b1 b2 : Addr) (k1 k2 : ClassId) (cs y0 x0 x1 x2 x3 : Int32) (h0 : Heap) (n0 : Nat) (Z0 : n0 ≤ h0.size) (P0 : Exa Z h0 a1 "java/lang/String") (P1 : Fld Z h0 a1 "java/lang/String" "coder" "B" (.int 1)) (P2 : Fld Z h0 a1 "java/lang/String" "value" "[B" (.ref b1)) (P3 : Arv Z h0 b1 k1 .byte (4 : Int32) [(.int x0), (.int x1), (.int x2), (.int x3)] (.int 0)) (P4 : Exa Z h0 a2 "java/lang/String") (P5 : Fld Z h0 a2 "java/lang/String" "coder" "B" (.int 0)) (P6 : Fld Z h0 a2 "java/lang/String" "value" "[B" (.ref b2)) (P7 : Arv Z h0 b2 k2 .byte (1 : Int32) [(.int y0)] (.int 0)) (P8 : Sta Z h0 "java/lang/String" "COMPACT_STRINGS" "Z" (.int cs)) (hcs : ¬ (cs = (0 : Int32))) (ne_a1_a2 : a1 ≠ a2) :
    MetFree l yq53 (head1 (Jvm.Cond.code yq53 jdk_42_method_66_code 3 (some .boolean) :: ws) rq0) (fun a U => a = #[(.ref a1), (.ref a2)] ∧ Z.Warmed39 U.vm ∧ U.heap = h0) (fun _ _ _ _ _ => True) (fun _ U o U' => ∃ v L, o = .returned v ∧ Q_rmSEqU2 Z a1 a2 b1 b2 k1 k2 cs y0 x0 x1 x2 x3 h0 n0 v U'.heap L ∧ FrameEnd U o U' L rq0.cells rq0.slots) := by
  refine MetFree.of_bodySF (plainFor_of_name pn_java_lang_String) hisR ?_
  intro p e s m args below meth c s₁ Bd hml0 hP hK
  obtain ⟨rfl, hZ, hh⟩ := hP
  have hx := Bd.exec
  have hby := Bd.bytes
  have hml : c.maxLocals = 3 := hml0
  have hown : s.vm.findClass "java/lang/String" = some m.cls := findClass_of_methodNamed Bd.named
  have hnm := (name_of_methodNamed Bd.named Bd.method).1
  have X0 : Stand p l e rq0 s m #[(.ref a1), (.ref a2)] below meth c s₁ [] 0 0 := Stand.of_body Bd
  have e0 : s₁.heap = h0 := by rw [← hh, Bd.state]; rfl
  have N0 := Fr.nil n0
  refine own_fw (A' := (s₁.setTop (mkF m 8 #[rv a1, rv a2, .unset] [.ref a2]))) (fun t k => castTop (ef_rmSEqU2 m a1 a2) (XS.aloadN X0.here hx rfl (hb hby d18_0) rfl rfl (XS.aloadN X0.here hx rfl (hb hby d18_1) rfl rfl (Jvm.RoadKit.acmp (g := (mkF m 2 #[rv a1, rv a2, .unset] [.ref a2, .ref a1])) X0 hx rfl rfl rfl (pc0 := 2) (pc' := 7) (same := false) rfl (hb hby d18_2) rfl (decide_eq_false (fun q => ne_a1_a2 (Value.ref.inj q))) (by decide) (by decide) (XS.aloadN X0.here hx rfl (hb hby d18_7) rfl rfl k))))) ?_
  obtain ⟨T1, X1, e1, st1⟩ := instY X0 hx hZ hown (own_w hw 93 rfl) e0 (Ins.self P4) (g := (mkF m 8 #[rv a1, rv a2, .unset] [.ref a2])) rfl rfl (hb hby d18_8)
  refine own_fw (A' := (T1.setTop (mkF m 15 #[rv a1, rv a2, .unset] [.ref a2]))) (fun t k => st1 _ (XS.ifNo X1.here hx rfl (hb hby d18_11) rfl (XT.i0_eq_f (by decide)) (XS.aloadN X1.here hx rfl (hb hby d18_14) rfl rfl k))) ?_
  obtain ⟨T2, X2, e2, st2⟩ := castY X1 hx hZ hown (own_w hw 93 rfl) e1 (Ins.self P4) (g := (mkF m 15 #[rv a1, rv a2, .unset] [.ref a2])) rfl rfl (hb hby d18_15)
  refine own_fw (A' := (T2.setTop (mkF m 19 #[rv a1, rv a2, rv a2] []))) (fun t k => st2 _ (XS.astoreN X2.here hx rfl (hb hby d18_18) rfl rfl (l' := #[.val (.ref a1), .val (.ref a2), .val (.ref a2)]) rfl k)) ?_
  obtain ⟨T3, X3, e3, st3⟩ := getS2 X2 hx hZ hown (host := "") (Or.inl (own_w hw 37 rfl)) Via.refl e2 P8 (g := (mkF m 19 #[rv a1, rv a2, rv a2] [])) rfl (hb hby d18_19)
  refine own_fw (A' := (T3.setTop (mkF m 26 #[rv a1, rv a2, rv a2] [.ref a1]))) (fun t k => st3 _ (XS.ifNo X3.here hx rfl (hb hby d18_22) rfl (XT.i0_eq_f hcs) (XS.aloadN X3.here hx rfl (hb hby d18_25) rfl rfl k))) ?_
  obtain ⟨T4, X4, e4, st4⟩ := getF X3 hx hZ hown (host := "") (Or.inl (own_w hw 49 rfl)) Via.refl e3 P1 (g := (mkF m 26 #[rv a1, rv a2, rv a2] [.ref a1])) rfl rfl (hb hby d18_26)
  refine own_fw (A' := (T4.setTop (mkF m 30 #[rv a1, rv a2, rv a2] [.ref a2, .int 1]))) (fun t k => st4 _ (XS.aloadN X4.here hx rfl (hb hby d18_29) rfl rfl k)) ?_
  obtain ⟨T5, X5, e5, st5⟩ := getF X4 hx hZ hown (host := "") (Or.inl (own_w hw 49 rfl)) Via.refl e4 P5 (g := (mkF m 30 #[rv a1, rv a2, rv a2] [.ref a2, .int 1])) rfl rfl (hb hby d18_30)
  refine own_fw (A' := (T5.setTop (mkF m 55 #[rv a1, rv a2, rv a2] [.int 0]))) (fun t k => st5 _ (XS.icmpYes X5.here hx rfl (pc0 := 33) (pc' := 54) rfl (hb hby d18_33) rfl (XT.ii_ne_t (by decide)) (by decide) (by decide) (XS.iconst X5.here hx rfl (hb hby d18_54) k))) ?_
  obtain ⟨fs, hr, hrun, hended, hW, hsame⟩ := X5.leave (v := some (.int 0)) (fun h => by rw [Bd.returns] at h; cases h)
  refine ⟨_, _, ?_, hrun, hended, _, _, rfl, ?_, ⟨_, rfl⟩, hW, hsame.mono (by decide) (by decide)⟩
  · exact retOut X5 hx Bd.returns rfl (Or.inl ⟨rfl, by simp, _, rfl⟩) (hb hby d18_55) hr
  · show Q_rmSEqU2 Z a1 a2 b1 b2 k1 k2 cs y0 x0 x1 x2 x3 h0 n0 _ T5.heap _
    rw [e5]
    exact ⟨rfl, N0, rfl⟩
theorem ef_rmSEqU3 (m : MethodId) (a1 a2 : Addr) : entryFrame m #[(.ref a1), (.ref a2)] 3 = mkF m 0 #[.val (.ref a1), .val (.ref a2), .unset] [] := by first | (simp [entryFrame, mkF, argsToLocals, Value.category]; done) | rfl
def Q_rmSEqU3 (Z : State) (a1 a2 b1 b2 : Addr) (k1 k2 : ClassId) (cs y0 x0 x1 x2 x3 x4 x5 : Int32) (h0 : Heap) (n0 : Nat) (v : Option Value) (h : Heap) (L : List Loc) : Prop := v = some (.int 0) ∧ Fr n0 L ∧ h = h0
theorem rmSEqU3 (l : Launch) (Z : State) (a0 : Array Value) (hw : ∀ d ∈ tables_1, d.before a0 Z = true) (ws : List Jvm.Cond) (a1 a2 b1 b2 : Addr) (k1 k2 : ClassId) (cs y0 x0 x1 x2 x3 x4 x5 : Int32) (h0 : Heap) (n0 : Nat) (Z0 : n0 ≤ h0.size) (P0 : Exa Z h0 a1 "java/lang/String") (P1 : Fld Z h0 a1 "java/lang/String" "coder" "B" (.int 1)) (P2 : Fld Z h0 a1 "java/lang/String" "value" "[B" (.ref b1)) (P3 : Arv Z h0 b1 k1 .byte (6 : Int32) [(.int x0), (.int x1), (.int x2), (.int x3), (.int x4), (.int x5)] (.int 0)) (P4 : Exa Z h0 a2 "java/lang/String") (P5 : Fld Z h0 a2 "java/lang/String" "coder" "B" (.int 0)) (P6 : Fld Z h0 a2 "java/lang/String" "value" "[B" (.ref b2)) (P7 : Arv Z h0 b2 k2 .byte (1 : Int32) [(.int y0)] (.int 0)) (P8 : Sta Z h0 "java/lang/String" "COMPACT_STRINGS" "Z" (.int cs)) (hcs : ¬ (cs = (0 : Int32))) (ne_a1_a2 : a1 ≠ a2) :
    MetFree l yq53 (head1 (Jvm.Cond.code yq53 jdk_42_method_66_code 3 (some .boolean) :: ws) rq0) (fun a U => a = #[(.ref a1), (.ref a2)] ∧ Z.Warmed39 U.vm ∧ U.heap = h0) (fun _ _ _ _ _ => True) (fun _ U o U' => ∃ v L, o = .returned v ∧ Q_rmSEqU3 Z a1 a2 b1 b2 k1 k2 cs y0 x0 x1 x2 x3 x4 x5 h0 n0 v U'.heap L ∧ FrameEnd U o U' L rq0.cells rq0.slots) := by
  refine MetFree.of_bodySF (plainFor_of_name pn_java_lang_String) hisR ?_
  intro p e s m args below meth c s₁ Bd hml0 hP hK
  obtain ⟨rfl, hZ, hh⟩ := hP
  have hx := Bd.exec
  have hby := Bd.bytes
  have hml : c.maxLocals = 3 := hml0
  have hown : s.vm.findClass "java/lang/String" = some m.cls := findClass_of_methodNamed Bd.named
  have hnm := (name_of_methodNamed Bd.named Bd.method).1
  have X0 : Stand p l e rq0 s m #[(.ref a1), (.ref a2)] below meth c s₁ [] 0 0 := Stand.of_body Bd
  have e0 : s₁.heap = h0 := by rw [← hh, Bd.state]; rfl
  have N0 := Fr.nil n0
  refine own_fw (A' := (s₁.setTop (mkF m 8 #[rv a1, rv a2, .unset] [.ref a2]))) (fun t k => castTop (ef_rmSEqU3 m a1 a2) (XS.aloadN X0.here hx rfl (hb hby d18_0) rfl rfl (XS.aloadN X0.here hx rfl (hb hby d18_1) rfl rfl (Jvm.RoadKit.acmp (g := (mkF m 2 #[rv a1, rv a2, .unset] [.ref a2, .ref a1])) X0 hx rfl rfl rfl (pc0 := 2) (pc' := 7) (same := false) rfl (hb hby d18_2) rfl (decide_eq_false (fun q => ne_a1_a2 (Value.ref.inj q))) (by decide) (by decide) (XS.aloadN X0.here hx rfl (hb hby d18_7) rfl rfl k))))) ?_
  obtain ⟨T1, X1, e1, st1⟩ := instY X0 hx hZ hown (own_w hw 93 rfl) e0 (Ins.self P4) (g := (mkF m 8 #[rv a1, rv a2, .unset] [.ref a2])) rfl rfl (hb hby d18_8)
  refine own_fw (A' := (T1.setTop (mkF m 15 #[rv a1, rv a2, .unset] [.ref a2]))) (fun t k => st1 _ (XS.ifNo X1.here hx rfl (hb hby d18_11) rfl (XT.i0_eq_f (by decide)) (XS.aloadN X1.here hx rfl (hb hby d18_14) rfl rfl k))) ?_
  obtain ⟨T2, X2, e2, st2⟩ := castY X1 hx hZ hown (own_w hw 93 rfl) e1 (Ins.self P4) (g := (mkF m 15 #[rv a1, rv a2, .unset] [.ref a2])) rfl rfl (hb hby d18_15)
  refine own_fw (A' := (T2.setTop (mkF m 19 #[rv a1, rv a2, rv a2] []))) (fun t k => st2 _ (XS.astoreN X2.here hx rfl (hb hby d18_18) rfl rfl (l' := #[.val (.ref a1), .val (.ref a2), .val (.ref a2)]) rfl k)) ?_
  obtain ⟨T3, X3, e3, st3⟩ := getS2 X2 hx hZ hown (host := "") (Or.inl (own_w hw 37 rfl)) Via.refl e2 P8 (g := (mkF m 19 #[rv a1, rv a2, rv a2] [])) rfl (hb hby d18_19)
  refine own_fw (A' := (T3.setTop (mkF m 26 #[rv a1, rv a2, rv a2] [.ref a1]))) (fun t k => st3 _ (XS.ifNo X3.here hx rfl (hb hby d18_22) rfl (XT.i0_eq_f hcs) (XS.aloadN X3.here hx rfl (hb hby d18_25) rfl rfl k))) ?_
  obtain ⟨T4, X4, e4, st4⟩ := getF X3 hx hZ hown (host := "") (Or.inl (own_w hw 49 rfl)) Via.refl e3 P1 (g := (mkF m 26 #[rv a1, rv a2, rv a2] [.ref a1])) rfl rfl (hb hby d18_26)
  refine own_fw (A' := (T4.setTop (mkF m 30 #[rv a1, rv a2, rv a2] [.ref a2, .int 1]))) (fun t k => st4 _ (XS.aloadN X4.here hx rfl (hb hby d18_29) rfl rfl k)) ?_
  obtain ⟨T5, X5, e5, st5⟩ := getF X4 hx hZ hown (host := "") (Or.inl (own_w hw 49 rfl)) Via.refl e4 P5 (g := (mkF m 30 #[rv a1, rv a2, rv a2] [.ref a2, .int 1])) rfl rfl (hb hby d18_30)
  refine own_fw (A' := (T5.setTop (mkF m 55 #[rv a1, rv a2, rv a2] [.int 0]))) (fun t k => st5 _ (XS.icmpYes X5.here hx rfl (pc0 := 33) (pc' := 54) rfl (hb hby d18_33) rfl (XT.ii_ne_t (by decide)) (by decide) (by decide) (XS.iconst X5.here hx rfl (hb hby d18_54) k))) ?_
  obtain ⟨fs, hr, hrun, hended, hW, hsame⟩ := X5.leave (v := some (.int 0)) (fun h => by rw [Bd.returns] at h; cases h)
  refine ⟨_, _, ?_, hrun, hended, _, _, rfl, ?_, ⟨_, rfl⟩, hW, hsame.mono (by decide) (by decide)⟩
  · exact retOut X5 hx Bd.returns rfl (Or.inl ⟨rfl, by simp, _, rfl⟩) (hb hby d18_55) hr
  · show Q_rmSEqU3 Z a1 a2 b1 b2 k1 k2 cs y0 x0 x1 x2 x3 x4 x5 h0 n0 _ T5.heap _
    rw [e5]
    exact ⟨rfl, N0, rfl⟩
theorem pn_com_example_spanwise_spanwise_cli_InputFile : plainName "com/example/spanwise/spanwise/cli/InputFile" = true := by first | (simp [plainName, overriddenIn]; done) | decide +kernel
theorem d1_0 : decode prog_55_method_1_code 0 = .ok (.aload_n 0, 1) := by decide +kernel
theorem d1_1 : decode prog_55_method_1_code 1 = .ok (.invokespecial 1, 3) := by decide +kernel
theorem d1_4 : decode prog_55_method_1_code 4 = .ok (.aload_n 0, 1) := by decide +kernel
theorem d1_5 : decode prog_55_method_1_code 5 = .ok (.aload_n 1, 1) := by decide +kernel
theorem d1_6 : decode prog_55_method_1_code 6 = .ok (.ifnull 12, 3) := by decide +kernel
theorem d1_18 : decode prog_55_method_1_code 18 = .ok (.aconst_null, 1) := by decide +kernel
theorem d1_19 : decode prog_55_method_1_code 19 = .ok (.goto 4, 3) := by decide +kernel
theorem d1_23 : decode prog_55_method_1_code 23 = .ok (.putfield 17, 3) := by decide +kernel
theorem d1_26 : decode prog_55_method_1_code 26 = .ok (.return_, 1) := by decide +kernel
theorem ef_rmIniN (m : MethodId) (a1 : Addr) : entryFrame m #[(.ref a1), .null] 2 = mkF m 0 #[.val (.ref a1), .val .null] [] := by first | (simp [entryFrame, mkF, argsToLocals, Value.category]; done) | rfl
def Q_rmIniN (Z : State) (a1 : Addr) (h0 : Heap) (n0 : Nat) (v : Option Value) (h : Heap) (L : List Loc) : Prop := v = none ∧ Fr n0 L ∧ Keep h0 h [a1] ∧ Exa Z h a1 "com/example/spanwise/spanwise/cli/InputFile" ∧ Fld Z h a1 "com/example/spanwise/spanwise/cli/InputFile" "path" "Ljava/lang/String;" .null
theorem rmIniN (l : Launch) (Z : State) (a0 : Array Value) (hw : ∀ d ∈ tables_1, d.before a0 Z = true) (ws : List Jvm.Cond) (a1 : Addr) (h0 : Heap) (n0 : Nat) (Z0 : n0 ≤ h0.size) (P0 : Exa Z h0 a1 "com/example/spanwise/spanwise/cli/InputFile") (P1 : Fld Z h0 a1 "com/example/spanwise/spanwise/cli/InputFile" "path" "Ljava/lang/String;" .null) (g_a1 : n0 ≤ a1) :
    MetFree l yq55 (head1 (Jvm.Cond.code yq55 prog_55_method_1_code 2 none :: ws) rq54) (fun a U => a = #[(.ref a1), .null] ∧ Z.Warmed39 U.vm ∧ U.heap = h0) (fun _ _ _ _ _ => True) (fun _ U o U' => ∃ v L, o = .returned v ∧ Q_rmIniN Z a1 h0 n0 v U'.heap L ∧ FrameEnd U o U' L rq54.cells rq54.slots) := by
  refine MetFree.of_bodySF (plainFor_of_name pn_com_example_spanwise_spanwise_cli_InputFile) hisR ?_
  intro p e s m args below meth c s₁ Bd hml0 hP hK
  obtain ⟨rfl, hZ, hh⟩ := hP
  have hx := Bd.exec
  have hby := Bd.bytes
  have hml : c.maxLocals = 2 := hml0
  have hown : s.vm.findClass "com/example/spanwise/spanwise/cli/InputFile" = some m.cls := findClass_of_methodNamed Bd.named
  have hnm := (name_of_methodNamed Bd.named Bd.method).1
  have X0 : Stand p l e rq54 s m #[(.ref a1), .null] below meth c s₁ [] 0 0 := Stand.of_body Bd
  have e0 : s₁.heap = h0 := by rw [← hh, Bd.state]; rfl
  have N0 := Fr.nil n0
  refine own_fw (A' := (s₁.setTop (mkF m 1 #[rv a1, .val (.null)] [.ref a1]))) (fun t k => castTop (ef_rmIniN m a1) (XS.aloadN X0.here hx rfl (hb hby d1_0) rfl rfl k)) ?_
  obtain ⟨T1, X1, e1, st1⟩ := initO X0 hx hZ hown (own_w hw 6 rfl) (own_w hw 7 rfl) (own_w hw 8 rfl) e0 (g := (mkF m 1 #[rv a1, .val (.null)] [.ref a1])) rfl (by rw [hml]; rfl) rfl (hb hby d1_1) (by decide) (W := 0) (by show 2 * 0 + _ ≤ _; exact Nat.le_of_eq rfl) (by decide)
  refine own_fw (A' := (T1.setTop (mkF m 23 #[rv a1, .val (.null)] [.null, .ref a1]))) (fun t k => st1 _ (XS.aloadN X1.here hx rfl (hb hby d1_4) rfl rfl (XS.aloadN X1.here hx rfl (hb hby d1_5) rfl rfl (XS.ifnullYes X1.here hx rfl (pc0 := 6) (pc' := 18) rfl (hb hby d1_6) rfl (by decide) (by decide) (XS.aconstNull X1.here hx rfl (hb hby d1_18) (XS.goto X1.here hx rfl (pc0 := 19) (pc' := 23) rfl (hb hby d1_19) (by decide) (by decide) k)))))) ?_
  obtain ⟨T2, h2, X2, e2, W2, st2⟩ := putF X1 hx hZ hown (host := "") (Or.inl (own_w hw 9 rfl)) Via.refl e1 P1 P0 (Or.inr ⟨(own_w hw 10 rfl), rfl, hnm⟩) (own_w hw 1 rfl) (ty := (.object "java/lang/String")) (by decide) rfl rfl (g := (mkF m 23 #[rv a1, .val (.null)] [.null, .ref a1])) rfl rfl (hb hby d1_23)
  have Fw2 : Fld Z h2 a1 "com/example/spanwise/spanwise/cli/InputFile" "path" "Ljava/lang/String;" .null := P1.same W2
  have Nf2 := Fr.snoc X2 N0 g_a1
  have K2 : Keep h0 h2 [a1] := (Keep.refl h0 [a1]).wr W2 (Or.inl (List.mem_of_getElem? (i := 0) rfl))
  have Z2 : n0 ≤ h2.size := Nat.le_trans Z0 (Keep.of_wr W2).1
  refine own_fw (A' := (T2.setTop (mkF m 26 #[rv a1, .val (.null)] []))) (fun t k => st2 _ k) ?_
  obtain ⟨fs, hr, hrun, hended, hW, hsame⟩ := X2.leave (v := none) (fun _ => rfl)
  refine ⟨_, _, ?_, hrun, hended, _, _, rfl, ?_, ⟨_, rfl⟩, hW, hsame.mono (by decide) (by decide)⟩
  · exact X2.returnOut hx Bd.returns (hb hby d1_26) hr
  · show Q_rmIniN Z a1 h0 n0 _ T2.heap _
    rw [e2]
    exact ⟨rfl, Nf2, K2, (P0.wr W2), Fw2⟩
theorem d1_9 : decode prog_55_method_1_code 9 = .ok (.aload_n 1, 1) := by decide +kernel
theorem d1_10 : decode prog_55_method_1_code 10 = .ok (.ldc 9, 2) := by decide +kernel
theorem d1_12 : decode prog_55_method_1_code 12 = .ok (.invokevirtual 11, 3) := by decide +kernel
theorem pd__Ljava_lang_Object__Z : parseMethodDescriptor "(Ljava/lang/Object;)Z" = some ⟨[(.object "java/lang/Object")], some .boolean⟩ := by decide +kernel
theorem d1_15 : decode prog_55_method_1_code 15 = .ok (.ifCond .eq 7, 3) := by decide +kernel
theorem ef_rmIniy (m : MethodId) (a1 a2 : Addr) : entryFrame m #[(.ref a1), (.ref a2)] 2 = mkF m 0 #[.val (.ref a1), .val (.ref a2)] [] := by first | (simp [entryFrame, mkF, argsToLocals, Value.category]; done) | rfl
def Q_rmIniy (Z : State) (a1 a2 b1 : Addr) (k1 : ClassId) (cs x0 : Int32) (h0 : Heap) (n0 : Nat) (v : Option Value) (h : Heap) (L : List Loc) : Prop := v = none ∧ Fr n0 L ∧ Keep h0 h [a1] ∧ Exa Z h a1 "com/example/spanwise/spanwise/cli/InputFile" ∧ Fld Z h a1 "com/example/spanwise/spanwise/cli/InputFile" "path" "Ljava/lang/String;" .null
theorem rmIniy (l : Launch) (Z : State) (a0 : Array Value) (hw : ∀ d ∈ tables_1, d.before a0 Z = true) (ws : List Jvm.Cond) (a1 a2 b1 : Addr) (k1 : ClassId) (cs x0 : Int32) (h0 : Heap) (n0 : Nat) (Z0 : n0 ≤ h0.size) (P0 : Exa Z h0 a1 "com/example/spanwise/spanwise/cli/InputFile") (P1 : Fld Z h0 a1 "com/example/spanwise/spanwise/cli/InputFile" "path" "Ljava/lang/String;" .null) (g_a1 : n0 ≤ a1) (P3 : Exa Z h0 a2 "java/lang/String") (P4 : Fld Z h0 a2 "java/lang/String" "coder" "B" (.int 0)) (P5 : Fld Z h0 a2 "java/lang/String" "value" "[B" (.ref b1)) (P6 : Arv Z h0 b1 k1 .byte (1 : Int32) [(.int x0)] (.int 0)) (P7 : Sta Z h0 "java/lang/String" "COMPACT_STRINGS" "Z" (.int cs)) (hcs : ¬ (cs = (0 : Int32))) (hxq : x0 = (45 : Int32)) :
    MetFree l yq55 (head1 (Jvm.Cond.code yq55 prog_55_method_1_code 2 none :: ws) rq56) (fun a U => a = #[(.ref a1), (.ref a2)] ∧ Z.Warmed39 U.vm ∧ U.heap = h0 ∧ CHv Z own_EL U.vm h0) (fun _ _ _ _ _ => True) (fun _ U o U' => ∃ v L, o = .returned v ∧ Q_rmIniy Z a1 a2 b1 k1 cs x0 h0 n0 v U'.heap L ∧ CHr Z own_EL U.vm U.heap U'.vm U'.heap ∧ ReturnedEndW U o U' L rq56.cells rq56.slots) := by
  refine MetFree.of_bodySF (plainFor_of_name pn_com_example_spanwise_spanwise_cli_InputFile) hisR ?_
  intro p e s m args below meth c s₁ Bd hml0 hP hK
  obtain ⟨rfl, hZ, hh, hH⟩ := hP
  have hx := Bd.exec
  have hby := Bd.bytes
  have hml : c.maxLocals = 2 := hml0
  have hown : s.vm.findClass "com/example/spanwise/spanwise/cli/InputFile" = some m.cls := findClass_of_methodNamed Bd.named
  have hnm := (name_of_methodNamed Bd.named Bd.method).1
  have X0 : Stand p l e rq56 (s.setVm s.vm) m #[(.ref a1), (.ref a2)] below meth c s₁ [] 0 0 := Stand.of_body Bd
  have e0 : s₁.heap = h0 := by rw [← hh, Bd.state]; rfl
  have N0 := Fr.nil n0
  refine own_fw (A' := (s₁.setTop (mkF m 0 #[.val (.ref a1), .val (.ref a2)] []))) (fun t k => castTop (ef_rmIniy m a1 a2) k) ?_
  have hS : s.Since s.vm h0.size := (State.WarmedH.refl s).since _
  have hk : h0.size ≤ h0.size := Nat.le_refl _
  have hC : CHr Z own_EL s.vm h0 s.vm h0 := CHr.refl hH
  refine own_fw (A' := (s₁.setTop (mkF m 1 #[rv a1, rv a2] [.ref a1]))) (fun t k => XS.aloadN X0.here hx rfl (hb hby d1_0) rfl rfl k) ?_
  obtain ⟨T1, X1, e1, st1⟩ := initO X0 hx hZ hown (own_w hw 6 rfl) (own_w hw 7 rfl) (own_w hw 8 rfl) e0 (g := (mkF m 1 #[rv a1, rv a2] [.ref a1])) rfl (by rw [hml]; rfl) rfl (hb hby d1_1) (by decide) (W := 0) (by show 2 * 0 + _ ≤ _; exact Nat.le_of_eq rfl) (by decide)
  refine own_fw (A' := (T1.setTop (mkF m 10 #[rv a1, rv a2] [.ref a2, .ref a1]))) (fun t k => st1 _ (XS.aloadN X1.here hx rfl (hb hby d1_4) rfl rfl (XS.aloadN X1.here hx rfl (hb hby d1_5) rfl rfl (XS.ifnullNo X1.here hx rfl (hb hby d1_6) rfl (XS.aloadN X1.here hx rfl (hb hby d1_9) rfl rfl k))))) ?_
  obtain ⟨sa2, T2, h2, k2, sb2, kk2, X2, e2, E2, hS, hk, hZ', hown, SE2, SC2, SV2, SA2, -, -, r2, -, sn2, st2⟩ := ldcCH X1 hx hZ hown (own_w hw 85 rfl) (own_wS hw) e1 hS hk (own_EW hw) (List.mem_of_getElem? (i := 0) rfl) hH (vs := [(.int 45)]) (z := (1 : Int32)) ⟨by decide, rfl⟩ (by decide) (by decide) (g := (mkF m 10 #[rv a1, rv a2] [.ref a2, .ref a1])) rfl (hb hby d1_10) (n := 4) (by decide) (by decide) (by decide) (by decide)
  have hC := hC.trans r2
  have hH := hC.1
  have hZ := hZ'
  have K2 : Keep h0 h2 [a1] := (Keep.refl h0 [a1]).ext E2
  have Z2 : n0 ≤ h2.size := Nat.le_trans Z0 E2.1
  refine own_fw (A' := (T2.setTop (mkF m 12 #[rv a1, rv a2] [.ref sa2, .ref a2, .ref a1]))) (fun t k => st2 _ k) ?_
  obtain ⟨cq3, kq3, qa3, qb3, qc3⟩ := isOf hZ e2 (P3.ext E2)
  obtain ⟨_, _, ⟨T3, L3, k3, n3⟩, -, X3, ⟨Lc3, hQ3, l3, y3, z3⟩, st3⟩ := X2.virtualBack hx (y := yq53) (z := yq53) hown (mvT hZ (own_w hw 88 rfl)) (mvT hZ (own_w hw 89 rfl)) (notFace_of_selects (args := #[]) (mvT hZ (own_w hw 91 rfl))) (mvT hZ (own_w hw 91 rfl)) (mvT hZ (own_w hw 90 rfl)) (by decide) (backOf (W := 1) (rmSEqY l Z a0 hw [] a2 sa2 b1 sb2 k1 kk2 cs (45 : Int32) x0 h2 n0 Z2 (P3.ext E2) (P4.ext E2) (P5.ext E2) (P6.ext E2) SE2 SC2 SV2 SA2 (P7.ext E2) hcs hxq) hZ (own_w hw 92 rfl) (own_w hw 27 rfl) (by decide) (by decide)) qa3 qc3 (g := (mkF m 12 #[rv a1, rv a2] [.ref sa2, .ref a2, .ref a1])) rfl (by rw [hml]; rfl) (Steps.refl _) (argsL := [(.ref sa2)]) (rest := [(.ref a1)]) (lenOf pd__Ljava_lang_Object__Z rfl) rfl (by show 2 * 0 + _ ≤ _; exact Nat.le_of_eq rfl) (hb hby d1_12) (fun _ _ => ⟨rfl, e2, (by decide : 2 + 0 ≤ _), (by decide : 8 + 0 ≤ _)⟩)
  dsimp only [Pt.U, Pt.locs, Pt.cells, Pt.slots] at X3 l3 y3 z3 st3 hQ3
  subst l3 y3 z3
  obtain ⟨rfl, Nq3, e3⟩ := hQ3
  have Nf3 := Fr.app N0 Nq3
  refine own_fw (A' := (T3.setTop (mkF m 23 #[rv a1, rv a2] [.null, .ref a1]))) (fun t k => st3.trans (XS.ifNo X3.here hx rfl (hb hby d1_15) rfl (XT.i0_eq_f (by decide)) (XS.aconstNull X3.here hx rfl (hb hby d1_18) (XS.goto X3.here hx rfl (pc0 := 19) (pc' := 23) rfl (hb hby d1_19) (by decide) (by decide) k)))) ?_
  obtain ⟨T4, h4, X4, e4, W4, st4⟩ := putF X3 hx hZ hown (host := "") (Or.inl (own_w hw 9 rfl)) Via.refl e3 (P1.ext E2) (P0.ext E2) (Or.inr ⟨(own_w hw 10 rfl), rfl, hnm⟩) (own_w hw 1 rfl) (ty := (.object "java/lang/String")) (by decide) rfl rfl (g := (mkF m 23 #[rv a1, rv a2] [.null, .ref a1])) rfl rfl (hb hby d1_23)
  have Fw4 : Fld Z h4 a1 "com/example/spanwise/spanwise/cli/InputFile" "path" "Ljava/lang/String;" .null := (P1.ext E2).same W4
  have Nf4 := Fr.snoc X4 Nf3 g_a1
  have K4 : Keep h0 h4 [a1] := K2.wr W4 (Or.inl (List.mem_of_getElem? (i := 0) rfl))
  have Z4 : n0 ≤ h4.size := Nat.le_trans Z2 (Keep.of_wr W4).1
  have hk := Nat.le_trans hk (Keep.of_wr W4).1
  have hC := hC.trans (CHr.wr W4 (Safe.exa hZ.alike (P0.ext E2) (by decide) (by decide)) hH)
  have hH := hC.1
  refine own_fw (A' := (T4.setTop (mkF m 26 #[rv a1, rv a2] []))) (fun t k => st4 _ k) ?_
  obtain ⟨fs, hr, hrun, hended, hWE⟩ := X4.leaveW hS (by rw [e4]; exact hk : _ ≤ T4.heap.size) (v := none) (fun _ => rfl)
  have hCE : CHr Z own_EL s.vm s.heap (T4.setFrames fs).vm (T4.setFrames fs).heap := by rw [hh]; show CHr Z own_EL s.vm h0 T4.vm T4.heap; rw [e4]; exact hC.trans (CHv.at X4 hZ (own_EW hw) hH)
  refine ⟨_, _, ?_, hrun, hended, _, _, rfl, ?_, hCE, own_widen hWE (by decide) (by decide)⟩
  · exact X4.returnOut hx Bd.returns (hb hby d1_26) hr
  · show Q_rmIniy Z a1 a2 b1 k1 cs x0 h0 n0 _ T4.heap _
    rw [e4]
    exact ⟨rfl, Nf4, K4, ((P0.ext E2).wr W4), Fw4⟩
theorem d1_22 : decode prog_55_method_1_code 22 = .ok (.aload_n 1, 1) := by decide +kernel
theorem ef_rmInin (m : MethodId) (a1 a2 : Addr) : entryFrame m #[(.ref a1), (.ref a2)] 2 = mkF m 0 #[.val (.ref a1), .val (.ref a2)] [] := by first | (simp [entryFrame, mkF, argsToLocals, Value.category]; done) | rfl
def Q_rmInin (Z : State) (a1 a2 b1 : Addr) (k1 : ClassId) (cs x0 : Int32) (h0 : Heap) (n0 : Nat) (v : Option Value) (h : Heap) (L : List Loc) : Prop := v = none ∧ Fr n0 L ∧ Keep h0 h [a1] ∧ Exa Z h a1 "com/example/spanwise/spanwise/cli/InputFile" ∧ Fld Z h a1 "com/example/spanwise/spanwise/cli/InputFile" "path" "Ljava/lang/String;" (.ref a2)
theorem rmInin (l : Launch) (Z : State) (a0 : Array Value) (hw : ∀ d ∈ tables_1, d.before a0 Z = true) (ws : List Jvm.Cond) (a1 a2 b1 : Addr) (k1 : ClassId) (cs x0 : Int32) (h0 : Heap) (n0 : Nat) (Z0 : n0 ≤ h0.size) (P0 : Exa Z h0 a1 "com/example/spanwise/spanwise/cli/InputFile") (P1 : Fld Z h0 a1 "com/example/spanwise/spanwise/cli/InputFile" "path" "Ljava/lang/String;" .null) (g_a1 : n0 ≤ a1) (P3 : Exa Z h0 a2 "java/lang/String") (P4 : Fld Z h0 a2 "java/lang/String" "coder" "B" (.int 0)) (P5 : Fld Z h0 a2 "java/lang/String" "value" "[B" (.ref b1)) (P6 : Arv Z h0 b1 k1 .byte (1 : Int32) [(.int x0)] (.int 0)) (P7 : Sta Z h0 "java/lang/String" "COMPACT_STRINGS" "Z" (.int cs)) (hcs : ¬ (cs = (0 : Int32))) (hxq : ¬ (x0 = (45 : Int32))) :
    MetFree l yq55 (head1 (Jvm.Cond.code yq55 prog_55_method_1_code 2 none :: ws) rq56) (fun a U => a = #[(.ref a1), (.ref a2)] ∧ Z.Warmed39 U.vm ∧ U.heap = h0 ∧ CHv Z own_EL U.vm h0) (fun _ _ _ _ _ => True) (fun _ U o U' => ∃ v L, o = .returned v ∧ Q_rmInin Z a1 a2 b1 k1 cs x0 h0 n0 v U'.heap L ∧ CHr Z own_EL U.vm U.heap U'.vm U'.heap ∧ ReturnedEndW U o U' L rq56.cells rq56.slots) := by
  refine MetFree.of_bodySF (plainFor_of_name pn_com_example_spanwise_spanwise_cli_InputFile) hisR ?_
  intro p e s m args below meth c s₁ Bd hml0 hP hK
  obtain ⟨rfl, hZ, hh, hH⟩ := hP
  have hx := Bd.exec
  have hby := Bd.bytes
  have hml : c.maxLocals = 2 := hml0
  have hown : s.vm.findClass "com/example/spanwise/spanwise/cli/InputFile" = some m.cls := findClass_of_methodNamed Bd.named
  have hnm := (name_of_methodNamed Bd.named Bd.method).1
  have X0 : Stand p l e rq56 (s.setVm s.vm) m #[(.ref a1), (.ref a2)] below meth c s₁ [] 0 0 := Stand.of_body Bd
  have e0 : s₁.heap = h0 := by rw [← hh, Bd.state]; rfl
  have N0 := Fr.nil n0
  refine own_fw (A' := (s₁.setTop (mkF m 0 #[.val (.ref a1), .val (.ref a2)] []))) (fun t k => castTop (ef_rmInin m a1 a2) k) ?_
  have hS : s.Since s.vm h0.size := (State.WarmedH.refl s).since _
  have hk : h0.size ≤ h0.size := Nat.le_refl _
  have hC : CHr Z own_EL s.vm h0 s.vm h0 := CHr.refl hH
  refine own_fw (A' := (s₁.setTop (mkF m 1 #[rv a1, rv a2] [.ref a1]))) (fun t k => XS.aloadN X0.here hx rfl (hb hby d1_0) rfl rfl k) ?_
  obtain ⟨T1, X1, e1, st1⟩ := initO X0 hx hZ hown (own_w hw 6 rfl) (own_w hw 7 rfl) (own_w hw 8 rfl) e0 (g := (mkF m 1 #[rv a1, rv a2] [.ref a1])) rfl (by rw [hml]; rfl) rfl (hb hby d1_1) (by decide) (W := 0) (by show 2 * 0 + _ ≤ _; exact Nat.le_of_eq rfl) (by decide)
  refine own_fw (A' := (T1.setTop (mkF m 10 #[rv a1, rv a2] [.ref a2, .ref a1]))) (fun t k => st1 _ (XS.aloadN X1.here hx rfl (hb hby d1_4) rfl rfl (XS.aloadN X1.here hx rfl (hb hby d1_5) rfl rfl (XS.ifnullNo X1.here hx rfl (hb hby d1_6) rfl (XS.aloadN X1.here hx rfl (hb hby d1_9) rfl rfl k))))) ?_
  obtain ⟨sa2, T2, h2, k2, sb2, kk2, X2, e2, E2, hS, hk, hZ', hown, SE2, SC2, SV2, SA2, -, -, r2, -, sn2, st2⟩ := ldcCH X1 hx hZ hown (own_w hw 85 rfl) (own_wS hw) e1 hS hk (own_EW hw) (List.mem_of_getElem? (i := 0) rfl) hH (vs := [(.int 45)]) (z := (1 : Int32)) ⟨by decide, rfl⟩ (by decide) (by decide) (g := (mkF m 10 #[rv a1, rv a2] [.ref a2, .ref a1])) rfl (hb hby d1_10) (n := 4) (by decide) (by decide) (by decide) (by decide)
  have hC := hC.trans r2
  have hH := hC.1
  have hZ := hZ'
  have K2 : Keep h0 h2 [a1] := (Keep.refl h0 [a1]).ext E2
  have Z2 : n0 ≤ h2.size := Nat.le_trans Z0 E2.1
  refine own_fw (A' := (T2.setTop (mkF m 12 #[rv a1, rv a2] [.ref sa2, .ref a2, .ref a1]))) (fun t k => st2 _ k) ?_
  obtain ⟨cq3, kq3, qa3, qb3, qc3⟩ := isOf hZ e2 (P3.ext E2)
  obtain ⟨_, _, ⟨T3, L3, k3, n3⟩, -, X3, ⟨Lc3, hQ3, l3, y3, z3⟩, st3⟩ := X2.virtualBack hx (y := yq53) (z := yq53) hown (mvT hZ (own_w hw 88 rfl)) (mvT hZ (own_w hw 89 rfl)) (notFace_of_selects (args := #[]) (mvT hZ (own_w hw 91 rfl))) (mvT hZ (own_w hw 91 rfl)) (mvT hZ (own_w hw 90 rfl)) (by decide) (backOf (W := 1) (rmSEqN l Z a0 hw [] a2 sa2 b1 sb2 k1 kk2 cs (45 : Int32) x0 h2 n0 Z2 (P3.ext E2) (P4.ext E2) (P5.ext E2) (P6.ext E2) SE2 SC2 SV2 SA2 (P7.ext E2) hcs hxq (Fld.ne (P5.ext E2) SV2 (fun q => arv_ne (P6.ext E2) SA2 (Or.inr ⟨0, by decide, fun z => hxq (Value.int.inj z)⟩) (Value.ref.inj q)))) hZ (own_w hw 92 rfl) (own_w hw 27 rfl) (by decide) (by decide)) qa3 qc3 (g := (mkF m 12 #[rv a1, rv a2] [.ref sa2, .ref a2, .ref a1])) rfl (by rw [hml]; rfl) (Steps.refl _) (argsL := [(.ref sa2)]) (rest := [(.ref a1)]) (lenOf pd__Ljava_lang_Object__Z rfl) rfl (by show 2 * 0 + _ ≤ _; exact Nat.le_of_eq rfl) (hb hby d1_12) (fun _ _ => ⟨rfl, e2, (by decide : 2 + 0 ≤ _), (by decide : 8 + 0 ≤ _)⟩)
  dsimp only [Pt.U, Pt.locs, Pt.cells, Pt.slots] at X3 l3 y3 z3 st3 hQ3
  subst l3 y3 z3
  obtain ⟨rfl, Nq3, e3⟩ := hQ3
  have Nf3 := Fr.app N0 Nq3
  refine own_fw (A' := (T3.setTop (mkF m 23 #[rv a1, rv a2] [.ref a2, .ref a1]))) (fun t k => st3.trans (XS.ifYes X3.here hx rfl (pc0 := 15) (pc' := 22) rfl (hb hby d1_15) rfl (XT.i0_eq_t rfl) (by decide) (by decide) (XS.aloadN X3.here hx rfl (hb hby d1_22) rfl rfl k))) ?_
  obtain ⟨T4, h4, X4, e4, W4, st4⟩ := putF X3 hx hZ hown (host := "") (Or.inl (own_w hw 9 rfl)) Via.refl e3 (P1.ext E2) (P0.ext E2) (Or.inr ⟨(own_w hw 10 rfl), rfl, hnm⟩) (own_w hw 1 rfl) (ty := (.object "java/lang/String")) (by decide) rfl rfl (g := (mkF m 23 #[rv a1, rv a2] [.ref a2, .ref a1])) rfl rfl (hb hby d1_23)
  have Fw4 : Fld Z h4 a1 "com/example/spanwise/spanwise/cli/InputFile" "path" "Ljava/lang/String;" (.ref a2) := (P1.ext E2).same W4
  have Nf4 := Fr.snoc X4 Nf3 g_a1
  have K4 : Keep h0 h4 [a1] := K2.wr W4 (Or.inl (List.mem_of_getElem? (i := 0) rfl))
  have Z4 : n0 ≤ h4.size := Nat.le_trans Z2 (Keep.of_wr W4).1
  have hk := Nat.le_trans hk (Keep.of_wr W4).1
  have hC := hC.trans (CHr.wr W4 (Safe.exa hZ.alike (P0.ext E2) (by decide) (by decide)) hH)
  have hH := hC.1
  refine own_fw (A' := (T4.setTop (mkF m 26 #[rv a1, rv a2] []))) (fun t k => st4 _ k) ?_
  obtain ⟨fs, hr, hrun, hended, hWE⟩ := X4.leaveW hS (by rw [e4]; exact hk : _ ≤ T4.heap.size) (v := none) (fun _ => rfl)
  have hCE : CHr Z own_EL s.vm s.heap (T4.setFrames fs).vm (T4.setFrames fs).heap := by rw [hh]; show CHr Z own_EL s.vm h0 T4.vm T4.heap; rw [e4]; exact hC.trans (CHv.at X4 hZ (own_EW hw) hH)
  refine ⟨_, _, ?_, hrun, hended, _, _, rfl, ?_, hCE, own_widen hWE (by decide) (by decide)⟩
  · exact X4.returnOut hx Bd.returns (hb hby d1_26) hr
  · show Q_rmInin Z a1 a2 b1 k1 cs x0 h0 n0 _ T4.heap _
    rw [e4]
    exact ⟨rfl, Nf4, K4, ((P0.ext E2).wr W4), Fw4⟩
theorem ef_rmIniL0 (m : MethodId) (a1 a2 : Addr) : entryFrame m #[(.ref a1), (.ref a2)] 2 = mkF m 0 #[.val (.ref a1), .val (.ref a2)] [] := by first | (simp [entryFrame, mkF, argsToLocals, Value.category]; done) | rfl
def Q_rmIniL0 (Z : State) (a1 a2 b1 : Addr) (k1 : ClassId) (cs : Int32) (h0 : Heap) (n0 : Nat) (v : Option Value) (h : Heap) (L : List Loc) : Prop := v = none ∧ Fr n0 L ∧ Keep h0 h [a1] ∧ Exa Z h a1 "com/example/spanwise/spanwise/cli/InputFile" ∧ Fld Z h a1 "com/example/spanwise/spanwise/cli/InputFile" "path" "Ljava/lang/String;" (.ref a2)
theorem rmIniL0 (l : Launch) (Z : State) (a0 : Array Value) (hw : ∀ d ∈ tables_1, d.before a0 Z = true) (ws : List Jvm.Cond) (a1 a2 b1 : Addr) (k1 : ClassId) (cs : Int32) (h0 : Heap) (n0 : Nat) (Z0 : n0 ≤ h0.size) (P0 : Exa Z h0 a1 "com/example/spanwise/spanwise/cli/InputFile") (P1 : Fld Z h0 a1 "com/example/spanwise/spanwise/cli/InputFile" "path" "Ljava/lang/String;" .null) (g_a1 : n0 ≤ a1) (P3 : Exa Z h0 a2 "java/lang/String") (P4 : Fld Z h0 a2 "java/lang/String" "coder" "B" (.int 0)) (P5 : Fld Z h0 a2 "java/lang/String" "value" "[B" (.ref b1)) (P6 : Arv Z h0 b1 k1 .byte (0 : Int32) [] (.int 0)) (P7 : Sta Z h0 "java/lang/String" "COMPACT_STRINGS" "Z" (.int cs)) (hcs : ¬ (cs = (0 : Int32))) :
    MetFree l yq55 (head1 (Jvm.Cond.code yq55 prog_55_method_1_code 2 none :: ws) rq56) (fun a U => a = #[(.ref a1), (.ref a2)] ∧ Z.Warmed39 U.vm ∧ U.heap = h0 ∧ CHv Z own_EL U.vm h0) (fun _ _ _ _ _ => True) (fun _ U o U' => ∃ v L, o = .returned v ∧ Q_rmIniL0 Z a1 a2 b1 k1 cs h0 n0 v U'.heap L ∧ CHr Z own_EL U.vm U.heap U'.vm U'.heap ∧ ReturnedEndW U o U' L rq56.cells rq56.slots) := by
  refine MetFree.of_bodySF (plainFor_of_name pn_com_example_spanwise_spanwise_cli_InputFile) hisR ?_
  intro p e s m args below meth c s₁ Bd hml0 hP hK
  obtain ⟨rfl, hZ, hh, hH⟩ := hP
  have hx := Bd.exec
  have hby := Bd.bytes
  have hml : c.maxLocals = 2 := hml0
  have hown : s.vm.findClass "com/example/spanwise/spanwise/cli/InputFile" = some m.cls := findClass_of_methodNamed Bd.named
  have hnm := (name_of_methodNamed Bd.named Bd.method).1
  have X0 : Stand p l e rq56 (s.setVm s.vm) m #[(.ref a1), (.ref a2)] below meth c s₁ [] 0 0 := Stand.of_body Bd
  have e0 : s₁.heap = h0 := by rw [← hh, Bd.state]; rfl
  have N0 := Fr.nil n0
  refine own_fw (A' := (s₁.setTop (mkF m 0 #[.val (.ref a1), .val (.ref a2)] []))) (fun t k => castTop (ef_rmIniL0 m a1 a2) k) ?_
  have hS : s.Since s.vm h0.size := (State.WarmedH.refl s).since _
  have hk : h0.size ≤ h0.size := Nat.le_refl _
  have hC : CHr Z own_EL s.vm h0 s.vm h0 := CHr.refl hH
  refine own_fw (A' := (s₁.setTop (mkF m 1 #[rv a1, rv a2] [.ref a1]))) (fun t k => XS.aloadN X0.here hx rfl (hb hby d1_0) rfl rfl k) ?_
  obtain ⟨T1, X1, e1, st1⟩ := initO X0 hx hZ hown (own_w hw 6 rfl) (own_w hw 7 rfl) (own_w hw 8 rfl) e0 (g := (mkF m 1 #[rv a1, rv a2] [.ref a1])) rfl (by rw [hml]; rfl) rfl (hb hby d1_1) (by decide) (W := 0) (by show 2 * 0 + _ ≤ _; exact Nat.le_of_eq rfl) (by decide)
  refine own_fw (A' := (T1.setTop (mkF m 10 #[rv a1, rv a2] [.ref a2, .ref a1]))) (fun t k => st1 _ (XS.aloadN X1.here hx rfl (hb hby d1_4) rfl rfl (XS.aloadN X1.here hx rfl (hb hby d1_5) rfl rfl (XS.ifnullNo X1.here hx rfl (hb hby d1_6) rfl (XS.aloadN X1.here hx rfl (hb hby d1_9) rfl rfl k))))) ?_
  obtain ⟨sa2, T2, h2, k2, sb2, kk2, X2, e2, E2, hS, hk, hZ', hown, SE2, SC2, SV2, SA2, -, -, r2, -, sn2, st2⟩ := ldcCH X1 hx hZ hown (own_w hw 85 rfl) (own_wS hw) e1 hS hk (own_EW hw) (List.mem_of_getElem? (i := 0) rfl) hH (vs := [(.int 45)]) (z := (1 : Int32)) ⟨by decide, rfl⟩ (by decide) (by decide) (g := (mkF m 10 #[rv a1, rv a2] [.ref a2, .ref a1])) rfl (hb hby d1_10) (n := 4) (by decide) (by decide) (by decide) (by decide)
  have hC := hC.trans r2
  have hH := hC.1
  have hZ := hZ'
  have K2 : Keep h0 h2 [a1] := (Keep.refl h0 [a1]).ext E2
  have Z2 : n0 ≤ h2.size := Nat.le_trans Z0 E2.1
  refine own_fw (A' := (T2.setTop (mkF m 12 #[rv a1, rv a2] [.ref sa2, .ref a2, .ref a1]))) (fun t k => st2 _ k) ?_
  obtain ⟨cq3, kq3, qa3, qb3, qc3⟩ := isOf hZ e2 (P3.ext E2)
  obtain ⟨_, _, ⟨T3, L3, k3, n3⟩, -, X3, ⟨Lc3, hQ3, l3, y3, z3⟩, st3⟩ := X2.virtualBack hx (y := yq53) (z := yq53) hown (mvT hZ (own_w hw 88 rfl)) (mvT hZ (own_w hw 89 rfl)) (notFace_of_selects (args := #[]) (mvT hZ (own_w hw 91 rfl))) (mvT hZ (own_w hw 91 rfl)) (mvT hZ (own_w hw 90 rfl)) (by decide) (backOf (W := 1) (rmSEqL0 l Z a0 hw [] a2 sa2 b1 sb2 k1 kk2 cs (45 : Int32) h2 n0 Z2 (P3.ext E2) (P4.ext E2) (P5.ext E2) (P6.ext E2) SE2 SC2 SV2 SA2 (P7.ext E2) hcs (Fld.ne (P5.ext E2) SV2 (fun q => arv_ne (P6.ext E2) SA2 (Or.inl (by decide)) (Value.ref.inj q)))) hZ (own_w hw 92 rfl) (own_w hw 27 rfl) (by decide) (by decide)) qa3 qc3 (g := (mkF m 12 #[rv a1, rv a2] [.ref sa2, .ref a2, .ref a1])) rfl (by rw [hml]; rfl) (Steps.refl _) (argsL := [(.ref sa2)]) (rest := [(.ref a1)]) (lenOf pd__Ljava_lang_Object__Z rfl) rfl (by show 2 * 0 + _ ≤ _; exact Nat.le_of_eq rfl) (hb hby d1_12) (fun _ _ => ⟨rfl, e2, (by decide : 2 + 0 ≤ _), (by decide : 8 + 0 ≤ _)⟩)
  dsimp only [Pt.U, Pt.locs, Pt.cells, Pt.slots] at X3 l3 y3 z3 st3 hQ3
  subst l3 y3 z3
  obtain ⟨rfl, Nq3, e3⟩ := hQ3
  have Nf3 := Fr.app N0 Nq3
  refine own_fw (A' := (T3.setTop (mkF m 23 #[rv a1, rv a2] [.ref a2, .ref a1]))) (fun t k => st3.trans (XS.ifYes X3.here hx rfl (pc0 := 15) (pc' := 22) rfl (hb hby d1_15) rfl (XT.i0_eq_t rfl) (by decide) (by decide) (XS.aloadN X3.here hx rfl (hb hby d1_22) rfl rfl k))) ?_
  obtain ⟨T4, h4, X4, e4, W4, st4⟩ := putF X3 hx hZ hown (host := "") (Or.inl (own_w hw 9 rfl)) Via.refl e3 (P1.ext E2) (P0.ext E2) (Or.inr ⟨(own_w hw 10 rfl), rfl, hnm⟩) (own_w hw 1 rfl) (ty := (.object "java/lang/String")) (by decide) rfl rfl (g := (mkF m 23 #[rv a1, rv a2] [.ref a2, .ref a1])) rfl rfl (hb hby d1_23)
  have Fw4 : Fld Z h4 a1 "com/example/spanwise/spanwise/cli/InputFile" "path" "Ljava/lang/String;" (.ref a2) := (P1.ext E2).same W4
  have Nf4 := Fr.snoc X4 Nf3 g_a1
  have K4 : Keep h0 h4 [a1] := K2.wr W4 (Or.inl (List.mem_of_getElem? (i := 0) rfl))
  have Z4 : n0 ≤ h4.size := Nat.le_trans Z2 (Keep.of_wr W4).1
  have hk := Nat.le_trans hk (Keep.of_wr W4).1
  have hC := hC.trans (CHr.wr W4 (Safe.exa hZ.alike (P0.ext E2) (by decide) (by decide)) hH)
  have hH := hC.1
  refine own_fw (A' := (T4.setTop (mkF m 26 #[rv a1, rv a2] []))) (fun t k => st4 _ k) ?_
  obtain ⟨fs, hr, hrun, hended, hWE⟩ := X4.leaveW hS (by rw [e4]; exact hk : _ ≤ T4.heap.size) (v := none) (fun _ => rfl)
  have hCE : CHr Z own_EL s.vm s.heap (T4.setFrames fs).vm (T4.setFrames fs).heap := by rw [hh]; show CHr Z own_EL s.vm h0 T4.vm T4.heap; rw [e4]; exact hC.trans (CHv.at X4 hZ (own_EW hw) hH)
  refine ⟨_, _, ?_, hrun, hended, _, _, rfl, ?_, hCE, own_widen hWE (by decide) (by decide)⟩
  · exact X4.returnOut hx Bd.returns (hb hby d1_26) hr
  · show Q_rmIniL0 Z a1 a2 b1 k1 cs h0 n0 _ T4.heap _
    rw [e4]
    exact ⟨rfl, Nf4, K4, ((P0.ext E2).wr W4), Fw4⟩
theorem ef_rmIniL2 (m : MethodId) (a1 a2 : Addr) : entryFrame m #[(.ref a1), (.ref a2)] 2 = mkF m 0 #[.val (.ref a1), .val (.ref a2)] [] := by first | (simp [entryFrame, mkF, argsToLocals, Value.category]; done) | rfl
def Q_rmIniL2 (Z : State) (a1 a2 b1 : Addr) (k1 : ClassId) (cs x0 x1 : Int32) (h0 : Heap) (n0 : Nat) (v : Option Value) (h : Heap) (L : List Loc) : Prop := v = none ∧ Fr n0 L ∧ Keep h0 h [a1] ∧ Exa Z h a1 "com/example/spanwise/spanwise/cli/InputFile" ∧ Fld Z h a1 "com/example/spanwise/spanwise/cli/InputFile" "path" "Ljava/lang/String;" (.ref a2)
theorem rmIniL2 (l : Launch) (Z : State) (a0 : Array Value) (hw : ∀ d ∈ tables_1, d.before a0 Z = true) (ws : List Jvm.Cond) (a1 a2 b1 : Addr) (k1 : ClassId) (cs x0 x1 : Int32) (h0 : Heap) (n0 : Nat) (Z0 : n0 ≤ h0.size) (P0 : Exa Z h0 a1 "com/example/spanwise/spanwise/cli/InputFile") (P1 : Fld Z h0 a1 "com/example/spanwise/spanwise/cli/InputFile" "path" "Ljava/lang/String;" .null) (g_a1 : n0 ≤ a1) (P3 : Exa Z h0 a2 "java/lang/String") (P4 : Fld Z h0 a2 "java/lang/String" "coder" "B" (.int 0)) (P5 : Fld Z h0 a2 "java/lang/String" "value" "[B" (.ref b1)) (P6 : Arv Z h0 b1 k1 .byte (2 : Int32) [(.int x0), (.int x1)] (.int 0)) (P7 : Sta Z h0 "java/lang/String" "COMPACT_STRINGS" "Z" (.int cs)) (hcs : ¬ (cs = (0 : Int32))) :
    MetFree l yq55 (head1 (Jvm.Cond.code yq55 prog_55_method_1_code 2 none :: ws) rq56) (fun a U => a = #[(.ref a1), (.ref a2)] ∧ Z.Warmed39 U.vm ∧ U.heap = h0 ∧ CHv Z own_EL U.vm h0) (fun _ _ _ _ _ => True) (fun _ U o U' => ∃ v L, o = .returned v ∧ Q_rmIniL2 Z a1 a2 b1 k1 cs x0 x1 h0 n0 v U'.heap L ∧ CHr Z own_EL U.vm U.heap U'.vm U'.heap ∧ ReturnedEndW U o U' L rq56.cells rq56.slots) := by
  refine MetFree.of_bodySF (plainFor_of_name pn_com_example_spanwise_spanwise_cli_InputFile) hisR ?_
  intro p e s m args below meth c s₁ Bd hml0 hP hK
  obtain ⟨rfl, hZ, hh, hH⟩ := hP
  have hx := Bd.exec
  have hby := Bd.bytes
  have hml : c.maxLocals = 2 := hml0
  have hown : s.vm.findClass "com/example/spanwise/spanwise/cli/InputFile" = some m.cls := findClass_of_methodNamed Bd.named
  have hnm := (name_of_methodNamed Bd.named Bd.method).1
  have X0 : Stand p l e rq56 (s.setVm s.vm) m #[(.ref a1), (.ref a2)] below meth c s₁ [] 0 0 := Stand.of_body Bd
  have e0 : s₁.heap = h0 := by rw [← hh, Bd.state]; rfl
  have N0 := Fr.nil n0
  refine own_fw (A' := (s₁.setTop (mkF m 0 #[.val (.ref a1), .val (.ref a2)] []))) (fun t k => castTop (ef_rmIniL2 m a1 a2) k) ?_
  have hS : s.Since s.vm h0.size := (State.WarmedH.refl s).since _
  have hk : h0.size ≤ h0.size := Nat.le_refl _
  have hC : CHr Z own_EL s.vm h0 s.vm h0 := CHr.refl hH
  refine own_fw (A' := (s₁.setTop (mkF m 1 #[rv a1, rv a2] [.ref a1]))) (fun t k => XS.aloadN X0.here hx rfl (hb hby d1_0) rfl rfl k) ?_
  obtain ⟨T1, X1, e1, st1⟩ := initO X0 hx hZ hown (own_w hw 6 rfl) (own_w hw 7 rfl) (own_w hw 8 rfl) e0 (g := (mkF m 1 #[rv a1, rv a2] [.ref a1])) rfl (by rw [hml]; rfl) rfl (hb hby d1_1) (by decide) (W := 0) (by show 2 * 0 + _ ≤ _; exact Nat.le_of_eq rfl) (by decide)
  refine own_fw (A' := (T1.setTop (mkF m 10 #[rv a1, rv a2] [.ref a2, .ref a1]))) (fun t k => st1 _ (XS.aloadN X1.here hx rfl (hb hby d1_4) rfl rfl (XS.aloadN X1.here hx rfl (hb hby d1_5) rfl rfl (XS.ifnullNo X1.here hx rfl (hb hby d1_6) rfl (XS.aloadN X1.here hx rfl (hb hby d1_9) rfl rfl k))))) ?_
  obtain ⟨sa2, T2, h2, k2, sb2, kk2, X2, e2, E2, hS, hk, hZ', hown, SE2, SC2, SV2, SA2, -, -, r2, -, sn2, st2⟩ := ldcCH X1 hx hZ hown (own_w hw 85 rfl) (own_wS hw) e1 hS hk (own_EW hw) (List.mem_of_getElem? (i := 0) rfl) hH (vs := [(.int 45)]) (z := (1 : Int32)) ⟨by decide, rfl⟩ (by decide) (by decide) (g := (mkF m 10 #[rv a1, rv a2] [.ref a2, .ref a1])) rfl (hb hby d1_10) (n := 4) (by decide) (by decide) (by decide) (by decide)
  have hC := hC.trans r2
  have hH := hC.1
  have hZ := hZ'
  have K2 : Keep h0 h2 [a1] := (Keep.refl h0 [a1]).ext E2
  have Z2 : n0 ≤ h2.size := Nat.le_trans Z0 E2.1
  refine own_fw (A' := (T2.setTop (mkF m 12 #[rv a1, rv a2] [.ref sa2, .ref a2, .ref a1]))) (fun t k => st2 _ k) ?_
  obtain ⟨cq3, kq3, qa3, qb3, qc3⟩ := isOf hZ e2 (P3.ext E2)
  obtain ⟨_, _, ⟨T3, L3, k3, n3⟩, -, X3, ⟨Lc3, hQ3, l3, y3, z3⟩, st3⟩ := X2.virtualBack hx (y := yq53) (z := yq53) hown (mvT hZ (own_w hw 88 rfl)) (mvT hZ (own_w hw 89 rfl)) (notFace_of_selects (args := #[]) (mvT hZ (own_w hw 91 rfl))) (mvT hZ (own_w hw 91 rfl)) (mvT hZ (own_w hw 90 rfl)) (by decide) (backOf (W := 1) (rmSEqL2 l Z a0 hw [] a2 sa2 b1 sb2 k1 kk2 cs (45 : Int32) x0 x1 h2 n0 Z2 (P3.ext E2) (P4.ext E2) (P5.ext E2) (P6.ext E2) SE2 SC2 SV2 SA2 (P7.ext E2) hcs (Fld.ne (P5.ext E2) SV2 (fun q => arv_ne (P6.ext E2) SA2 (Or.inl (by decide)) (Value.ref.inj q)))) hZ (own_w hw 92 rfl) (own_w hw 27 rfl) (by decide) (by decide)) qa3 qc3 (g := (mkF m 12 #[rv a1, rv a2] [.ref sa2, .ref a2, .ref a1])) rfl (by rw [hml]; rfl) (Steps.refl _) (argsL := [(.ref sa2)]) (rest := [(.ref a1)]) (lenOf pd__Ljava_lang_Object__Z rfl) rfl (by show 2 * 0 + _ ≤ _; exact Nat.le_of_eq rfl) (hb hby d1_12) (fun _ _ => ⟨rfl, e2, (by decide : 2 + 0 ≤ _), (by decide : 8 + 0 ≤ _)⟩)
  dsimp only [Pt.U, Pt.locs, Pt.cells, Pt.slots] at X3 l3 y3 z3 st3 hQ3
  subst l3 y3 z3
  obtain ⟨rfl, Nq3, e3⟩ := hQ3
  have Nf3 := Fr.app N0 Nq3
  refine own_fw (A' := (T3.setTop (mkF m 23 #[rv a1, rv a2] [.ref a2, .ref a1]))) (fun t k => st3.trans (XS.ifYes X3.here hx rfl (pc0 := 15) (pc' := 22) rfl (hb hby d1_15) rfl (XT.i0_eq_t rfl) (by decide) (by decide) (XS.aloadN X3.here hx rfl (hb hby d1_22) rfl rfl k))) ?_
  obtain ⟨T4, h4, X4, e4, W4, st4⟩ := putF X3 hx hZ hown (host := "") (Or.inl (own_w hw 9 rfl)) Via.refl e3 (P1.ext E2) (P0.ext E2) (Or.inr ⟨(own_w hw 10 rfl), rfl, hnm⟩) (own_w hw 1 rfl) (ty := (.object "java/lang/String")) (by decide) rfl rfl (g := (mkF m 23 #[rv a1, rv a2] [.ref a2, .ref a1])) rfl rfl (hb hby d1_23)
  have Fw4 : Fld Z h4 a1 "com/example/spanwise/spanwise/cli/InputFile" "path" "Ljava/lang/String;" (.ref a2) := (P1.ext E2).same W4
  have Nf4 := Fr.snoc X4 Nf3 g_a1
  have K4 : Keep h0 h4 [a1] := K2.wr W4 (Or.inl (List.mem_of_getElem? (i := 0) rfl))
  have Z4 : n0 ≤ h4.size := Nat.le_trans Z2 (Keep.of_wr W4).1
  have hk := Nat.le_trans hk (Keep.of_wr W4).1
  have hC := hC.trans (CHr.wr W4 (Safe.exa hZ.alike (P0.ext E2) (by decide) (by decide)) hH)
  have hH := hC.1
  refine own_fw (A' := (T4.setTop (mkF m 26 #[rv a1, rv a2] []))) (fun t k => st4 _ k) ?_
  obtain ⟨fs, hr, hrun, hended, hWE⟩ := X4.leaveW hS (by rw [e4]; exact hk : _ ≤ T4.heap.size) (v := none) (fun _ => rfl)
  have hCE : CHr Z own_EL s.vm s.heap (T4.setFrames fs).vm (T4.setFrames fs).heap := by rw [hh]; show CHr Z own_EL s.vm h0 T4.vm T4.heap; rw [e4]; exact hC.trans (CHv.at X4 hZ (own_EW hw) hH)
  refine ⟨_, _, ?_, hrun, hended, _, _, rfl, ?_, hCE, own_widen hWE (by decide) (by decide)⟩
  · exact X4.returnOut hx Bd.returns (hb hby d1_26) hr
  · show Q_rmIniL2 Z a1 a2 b1 k1 cs x0 x1 h0 n0 _ T4.heap _
    rw [e4]
    exact ⟨rfl, Nf4, K4, ((P0.ext E2).wr W4), Fw4⟩
theorem ef_rmIniL3 (m : MethodId) (a1 a2 : Addr) : entryFrame m #[(.ref a1), (.ref a2)] 2 = mkF m 0 #[.val (.ref a1), .val (.ref a2)] [] := by first | (simp [entryFrame, mkF, argsToLocals, Value.category]; done) | rfl
def Q_rmIniL3 (Z : State) (a1 a2 b1 : Addr) (k1 : ClassId) (cs x0 x1 x2 : Int32) (h0 : Heap) (n0 : Nat) (v : Option Value) (h : Heap) (L : List Loc) : Prop := v = none ∧ Fr n0 L ∧ Keep h0 h [a1] ∧ Exa Z h a1 "com/example/spanwise/spanwise/cli/InputFile" ∧ Fld Z h a1 "com/example/spanwise/spanwise/cli/InputFile" "path" "Ljava/lang/String;" (.ref a2)
theorem rmIniL3 (l : Launch) (Z : State) (a0 : Array Value) (hw : ∀ d ∈ tables_1, d.before a0 Z = true) (ws : List Jvm.Cond) (a1 a2 b1 : Addr) (k1 : ClassId) (cs x0 x1 x2 : Int32) (h0 : Heap) (n0 : Nat) (Z0 : n0 ≤ h0.size) (P0 : Exa Z h0 a1 "com/example/spanwise/spanwise/cli/InputFile") (P1 : Fld Z h0 a1 "com/example/spanwise/spanwise/cli/InputFile" "path" "Ljava/lang/String;" .null) (g_a1 : n0 ≤ a1) (P3 : Exa Z h0 a2 "java/lang/String") (P4 : Fld Z h0 a2 "java/lang/String" "coder" "B" (.int 0)) (P5 : Fld Z h0 a2 "java/lang/String" "value" "[B" (.ref b1)) (P6 : Arv Z h0 b1 k1 .byte (3 : Int32) [(.int x0), (.int x1), (.int x2)] (.int 0)) (P7 : Sta Z h0 "java/lang/String" "COMPACT_STRINGS" "Z" (.int cs)) (hcs : ¬ (cs = (0 : Int32))) :
    MetFree l yq55 (head1 (Jvm.Cond.code yq55 prog_55_method_1_code 2 none :: ws) rq56) (fun a U => a = #[(.ref a1), (.ref a2)] ∧ Z.Warmed39 U.vm ∧ U.heap = h0 ∧ CHv Z own_EL U.vm h0) (fun _ _ _ _ _ => True) (fun _ U o U' => ∃ v L, o = .returned v ∧ Q_rmIniL3 Z a1 a2 b1 k1 cs x0 x1 x2 h0 n0 v U'.heap L ∧ CHr Z own_EL U.vm U.heap U'.vm U'.heap ∧ ReturnedEndW U o U' L rq56.cells rq56.slots) := by
  refine MetFree.of_bodySF (plainFor_of_name pn_com_example_spanwise_spanwise_cli_InputFile) hisR ?_
  intro p e s m args below meth c s₁ Bd hml0 hP hK
  obtain ⟨rfl, hZ, hh, hH⟩ := hP
  have hx := Bd.exec
  have hby := Bd.bytes
  have hml : c.maxLocals = 2 := hml0
  have hown : s.vm.findClass "com/example/spanwise/spanwise/cli/InputFile" = some m.cls := findClass_of_methodNamed Bd.named
  have hnm := (name_of_methodNamed Bd.named Bd.method).1
  have X0 : Stand p l e rq56 (s.setVm s.vm) m #[(.ref a1), (.ref a2)] below meth c s₁ [] 0 0 := Stand.of_body Bd
  have e0 : s₁.heap = h0 := by rw [← hh, Bd.state]; rfl
  have N0 := Fr.nil n0
  refine own_fw (A' := (s₁.setTop (mkF m 0 #[.val (.ref a1), .val (.ref a2)] []))) (fun t k => castTop (ef_rmIniL3 m a1 a2) k) ?_
  have hS : s.Since s.vm h0.size := (State.WarmedH.refl s).since _
  have hk : h0.size ≤ h0.size := Nat.le_refl _
  have hC : CHr Z own_EL s.vm h0 s.vm h0 := CHr.refl hH
  refine own_fw (A' := (s₁.setTop (mkF m 1 #[rv a1, rv a2] [.ref a1]))) (fun t k => XS.aloadN X0.here hx rfl (hb hby d1_0) rfl rfl k) ?_
  obtain ⟨T1, X1, e1, st1⟩ := initO X0 hx hZ hown (own_w hw 6 rfl) (own_w hw 7 rfl) (own_w hw 8 rfl) e0 (g := (mkF m 1 #[rv a1, rv a2] [.ref a1])) rfl (by rw [hml]; rfl) rfl (hb hby d1_1) (by decide) (W := 0) (by show 2 * 0 + _ ≤ _; exact Nat.le_of_eq rfl) (by decide)
  refine own_fw (A' := (T1.setTop (mkF m 10 #[rv a1, rv a2] [.ref a2, .ref a1]))) (fun t k => st1 _ (XS.aloadN X1.here hx rfl (hb hby d1_4) rfl rfl (XS.aloadN X1.here hx rfl (hb hby d1_5) rfl rfl (XS.ifnullNo X1.here hx rfl (hb hby d1_6) rfl (XS.aloadN X1.here hx rfl (hb hby d1_9) rfl rfl k))))) ?_
  obtain ⟨sa2, T2, h2, k2, sb2, kk2, X2, e2, E2, hS, hk, hZ', hown, SE2, SC2, SV2, SA2, -, -, r2, -, sn2, st2⟩ := ldcCH X1 hx hZ hown (own_w hw 85 rfl) (own_wS hw) e1 hS hk (own_EW hw) (List.mem_of_getElem? (i := 0) rfl) hH (vs := [(.int 45)]) (z := (1 : Int32)) ⟨by decide, rfl⟩ (by decide) (by decide) (g := (mkF m 10 #[rv a1, rv a2] [.ref a2, .ref a1])) rfl (hb hby d1_10) (n := 4) (by decide) (by decide) (by decide) (by decide)
  have hC := hC.trans r2
  have hH := hC.1
  have hZ := hZ'
  have K2 : Keep h0 h2 [a1] := (Keep.refl h0 [a1]).ext E2
  have Z2 : n0 ≤ h2.size := Nat.le_trans Z0 E2.1
  refine own_fw (A' := (T2.setTop (mkF m 12 #[rv a1, rv a2] [.ref sa2, .ref a2, .ref a1]))) (fun t k => st2 _ k) ?_
  obtain ⟨cq3, kq3, qa3, qb3, qc3⟩ := isOf hZ e2 (P3.ext E2)
  obtain ⟨_, _, ⟨T3, L3, k3, n3⟩, -, X3, ⟨Lc3, hQ3, l3, y3, z3⟩, st3⟩ := X2.virtualBack hx (y := yq53) (z := yq53) hown (mvT hZ (own_w hw 88 rfl)) (mvT hZ (own_w hw 89 rfl)) (notFace_of_selects (args := #[]) (mvT hZ (own_w hw 91 rfl))) (mvT hZ (own_w hw 91 rfl)) (mvT hZ (own_w hw 90 rfl)) (by decide) (backOf (W := 1) (rmSEqL3 l Z a0 hw [] a2 sa2 b1 sb2 k1 kk2 cs (45 : Int32) x0 x1 x2 h2 n0 Z2 (P3.ext E2) (P4.ext E2) (P5.ext E2) (P6.ext E2) SE2 SC2 SV2 SA2 (P7.ext E2) hcs (Fld.ne (P5.ext E2) SV2 (fun q => arv_ne (P6.ext E2) SA2 (Or.inl (by decide)) (Value.ref.inj q)))) hZ (own_w hw 92 rfl) (own_w hw 27 rfl) (by decide) (by decide)) qa3 qc3 (g := (mkF m 12 #[rv a1, rv a2] [.ref sa2, .ref a2, .ref a1])) rfl (by rw [hml]; rfl) (Steps.refl _) (argsL := [(.ref sa2)]) (rest := [(.ref a1)]) (lenOf pd__Ljava_lang_Object__Z rfl) rfl (by show 2 * 0 + _ ≤ _; exact Nat.le_of_eq rfl) (hb hby d1_12) (fun _ _ => ⟨rfl, e2, (by decide : 2 + 0 ≤ _), (by decide : 8 + 0 ≤ _)⟩)
  dsimp only [Pt.U, Pt.locs, Pt.cells, Pt.slots] at X3 l3 y3 z3 st3 hQ3
  subst l3 y3 z3
  obtain ⟨rfl, Nq3, e3⟩ := hQ3
  have Nf3 := Fr.app N0 Nq3
  refine own_fw (A' := (T3.setTop (mkF m 23 #[rv a1, rv a2] [.ref a2, .ref a1]))) (fun t k => st3.trans (XS.ifYes X3.here hx rfl (pc0 := 15) (pc' := 22) rfl (hb hby d1_15) rfl (XT.i0_eq_t rfl) (by decide) (by decide) (XS.aloadN X3.here hx rfl (hb hby d1_22) rfl rfl k))) ?_
  obtain ⟨T4, h4, X4, e4, W4, st4⟩ := putF X3 hx hZ hown (host := "") (Or.inl (own_w hw 9 rfl)) Via.refl e3 (P1.ext E2) (P0.ext E2) (Or.inr ⟨(own_w hw 10 rfl), rfl, hnm⟩) (own_w hw 1 rfl) (ty := (.object "java/lang/String")) (by decide) rfl rfl (g := (mkF m 23 #[rv a1, rv a2] [.ref a2, .ref a1])) rfl rfl (hb hby d1_23)
  have Fw4 : Fld Z h4 a1 "com/example/spanwise/spanwise/cli/InputFile" "path" "Ljava/lang/String;" (.ref a2) := (P1.ext E2).same W4
  have Nf4 := Fr.snoc X4 Nf3 g_a1
  have K4 : Keep h0 h4 [a1] := K2.wr W4 (Or.inl (List.mem_of_getElem? (i := 0) rfl))
  have Z4 : n0 ≤ h4.size := Nat.le_trans Z2 (Keep.of_wr W4).1
  have hk := Nat.le_trans hk (Keep.of_wr W4).1
  have hC := hC.trans (CHr.wr W4 (Safe.exa hZ.alike (P0.ext E2) (by decide) (by decide)) hH)
  have hH := hC.1
  refine own_fw (A' := (T4.setTop (mkF m 26 #[rv a1, rv a2] []))) (fun t k => st4 _ k) ?_
  obtain ⟨fs, hr, hrun, hended, hWE⟩ := X4.leaveW hS (by rw [e4]; exact hk : _ ≤ T4.heap.size) (v := none) (fun _ => rfl)
  have hCE : CHr Z own_EL s.vm s.heap (T4.setFrames fs).vm (T4.setFrames fs).heap := by rw [hh]; show CHr Z own_EL s.vm h0 T4.vm T4.heap; rw [e4]; exact hC.trans (CHv.at X4 hZ (own_EW hw) hH)
  refine ⟨_, _, ?_, hrun, hended, _, _, rfl, ?_, hCE, own_widen hWE (by decide) (by decide)⟩
  · exact X4.returnOut hx Bd.returns (hb hby d1_26) hr
  · show Q_rmIniL3 Z a1 a2 b1 k1 cs x0 x1 x2 h0 n0 _ T4.heap _
    rw [e4]
    exact ⟨rfl, Nf4, K4, ((P0.ext E2).wr W4), Fw4⟩
theorem ef_rmIniU1 (m : MethodId) (a1 a2 : Addr) : entryFrame m #[(.ref a1), (.ref a2)] 2 = mkF m 0 #[.val (.ref a1), .val (.ref a2)] [] := by first | (simp [entryFrame, mkF, argsToLocals, Value.category]; done) | rfl
def Q_rmIniU1 (Z : State) (a1 a2 b1 : Addr) (k1 : ClassId) (cs x0 x1 : Int32) (h0 : Heap) (n0 : Nat) (v : Option Value) (h : Heap) (L : List Loc) : Prop := v = none ∧ Fr n0 L ∧ Keep h0 h [a1] ∧ Exa Z h a1 "com/example/spanwise/spanwise/cli/InputFile" ∧ Fld Z h a1 "com/example/spanwise/spanwise/cli/InputFile" "path" "Ljava/lang/String;" (.ref a2)
theorem rmIniU1 (l : Launch) (Z : State) (a0 : Array Value) (hw : ∀ d ∈ tables_1, d.before a0 Z = true) (ws : List Jvm.Cond) (a1 a2 b1 : Addr) (k1 : ClassId) (cs x0 x1 : Int32) (h0 : Heap) (n0 : Nat) (Z0 : n0 ≤ h0.size) (P0 : Exa Z h0 a1 "com/example/spanwise/spanwise/cli/InputFile") (P1 : Fld Z h0 a1 "com/example/spanwise/spanwise/cli/InputFile" "path" "Ljava/lang/String;" .null) (g_a1 : n0 ≤ a1) (P3 : Exa Z h0 a2 "java/lang/String") (P4 : Fld Z h0 a2 "java/lang/String" "coder" "B" (.int 1)) (P5 : Fld Z h0 a2 "java/lang/String" "value" "[B" (.ref b1)) (P6 : Arv Z h0 b1 k1 .byte (2 : Int32) [(.int x0), (.int x1)] (.int 0)) (P7 : Sta Z h0 "java/lang/String" "COMPACT_STRINGS" "Z" (.int cs)) (hcs : ¬ (cs = (0 : Int32))) :
    MetFree l yq55 (head1 (Jvm.Cond.code yq55 prog_55_method_1_code 2 none :: ws) rq57) (fun a U => a = #[(.ref a1), (.ref a2)] ∧ Z.Warmed39 U.vm ∧ U.heap = h0 ∧ CHv Z own_EL U.vm h0) (fun _ _ _ _ _ => True) (fun _ U o U' => ∃ v L, o = .returned v ∧ Q_rmIniU1 Z a1 a2 b1 k1 cs x0 x1 h0 n0 v U'.heap L ∧ CHr Z own_EL U.vm U.heap U'.vm U'.heap ∧ ReturnedEndW U o U' L rq57.cells rq57.slots) := by
  refine MetFree.of_bodySF (plainFor_of_name pn_com_example_spanwise_spanwise_cli_InputFile) hisR ?_
  intro p e s m args below meth c s₁ Bd hml0 hP hK
  obtain ⟨rfl, hZ, hh, hH⟩ := hP
  have hx := Bd.exec
  have hby := Bd.bytes
  have hml : c.maxLocals = 2 := hml0
  have hown : s.vm.findClass "com/example/spanwise/spanwise/cli/InputFile" = some m.cls := findClass_of_methodNamed Bd.named
  have hnm := (name_of_methodNamed Bd.named Bd.method).1
  have X0 : Stand p l e rq57 (s.setVm s.vm) m #[(.ref a1), (.ref a2)] below meth c s₁ [] 0 0 := Stand.of_body Bd
  have e0 : s₁.heap = h0 := by rw [← hh, Bd.state]; rfl
  have N0 := Fr.nil n0
  refine own_fw (A' := (s₁.setTop (mkF m 0 #[.val (.ref a1), .val (.ref a2)] []))) (fun t k => castTop (ef_rmIniU1 m a1 a2) k) ?_
  have hS : s.Since s.vm h0.size := (State.WarmedH.refl s).since _
  have hk : h0.size ≤ h0.size := Nat.le_refl _
  have hC : CHr Z own_EL s.vm h0 s.vm h0 := CHr.refl hH
  refine own_fw (A' := (s₁.setTop (mkF m 1 #[rv a1, rv a2] [.ref a1]))) (fun t k => XS.aloadN X0.here hx rfl (hb hby d1_0) rfl rfl k) ?_
  obtain ⟨T1, X1, e1, st1⟩ := initO X0 hx hZ hown (own_w hw 6 rfl) (own_w hw 7 rfl) (own_w hw 8 rfl) e0 (g := (mkF m 1 #[rv a1, rv a2] [.ref a1])) rfl (by rw [hml]; rfl) rfl (hb hby d1_1) (by decide) (W := 0) (by show 2 * 0 + _ ≤ _; exact Nat.le_of_eq rfl) (by decide)
  refine own_fw (A' := (T1.setTop (mkF m 10 #[rv a1, rv a2] [.ref a2, .ref a1]))) (fun t k => st1 _ (XS.aloadN X1.here hx rfl (hb hby d1_4) rfl rfl (XS.aloadN X1.here hx rfl (hb hby d1_5) rfl rfl (XS.ifnullNo X1.here hx rfl (hb hby d1_6) rfl (XS.aloadN X1.here hx rfl (hb hby d1_9) rfl rfl k))))) ?_
  obtain ⟨sa2, T2, h2, k2, sb2, kk2, X2, e2, E2, hS, hk, hZ', hown, SE2, SC2, SV2, SA2, -, -, r2, -, sn2, st2⟩ := ldcCH X1 hx hZ hown (own_w hw 85 rfl) (own_wS hw) e1 hS hk (own_EW hw) (List.mem_of_getElem? (i := 0) rfl) hH (vs := [(.int 45)]) (z := (1 : Int32)) ⟨by decide, rfl⟩ (by decide) (by decide) (g := (mkF m 10 #[rv a1, rv a2] [.ref a2, .ref a1])) rfl (hb hby d1_10) (n := 4) (by decide) (by decide) (by decide) (by decide)
  have hC := hC.trans r2
  have hH := hC.1
  have hZ := hZ'
  have K2 : Keep h0 h2 [a1] := (Keep.refl h0 [a1]).ext E2
  have Z2 : n0 ≤ h2.size := Nat.le_trans Z0 E2.1
  refine own_fw (A' := (T2.setTop (mkF m 12 #[rv a1, rv a2] [.ref sa2, .ref a2, .ref a1]))) (fun t k => st2 _ k) ?_
  obtain ⟨cq3, kq3, qa3, qb3, qc3⟩ := isOf hZ e2 (P3.ext E2)
  obtain ⟨_, _, ⟨T3, L3, k3, n3⟩, -, X3, ⟨Lc3, hQ3, l3, y3, z3⟩, st3⟩ := X2.virtualBack hx (y := yq53) (z := yq53) hown (mvT hZ (own_w hw 88 rfl)) (mvT hZ (own_w hw 89 rfl)) (notFace_of_selects (args := #[]) (mvT hZ (own_w hw 91 rfl))) (mvT hZ (own_w hw 91 rfl)) (mvT hZ (own_w hw 90 rfl)) (by decide) (backOf (W := 1) (rmSEqU1 l Z a0 hw [] a2 sa2 b1 sb2 k1 kk2 cs (45 : Int32) x0 x1 h2 n0 Z2 (P3.ext E2) (P4.ext E2) (P5.ext E2) (P6.ext E2) SE2 SC2 SV2 SA2 (P7.ext E2) hcs (Fld.ne (P4.ext E2) SC2 (by decide))) hZ (own_w hw 92 rfl) (own_w hw 27 rfl) (by decide) (by decide)) qa3 qc3 (g := (mkF m 12 #[rv a1, rv a2] [.ref sa2, .ref a2, .ref a1])) rfl (by rw [hml]; rfl) (Steps.refl _) (argsL := [(.ref sa2)]) (rest := [(.ref a1)]) (lenOf pd__Ljava_lang_Object__Z rfl) rfl (by show 2 * 0 + _ ≤ _; exact Nat.le_of_eq rfl) (hb hby d1_12) (fun _ _ => ⟨rfl, e2, (by decide : 2 + 0 ≤ _), (by decide : 8 + 0 ≤ _)⟩)
  dsimp only [Pt.U, Pt.locs, Pt.cells, Pt.slots] at X3 l3 y3 z3 st3 hQ3
  subst l3 y3 z3
  obtain ⟨rfl, Nq3, e3⟩ := hQ3
  have Nf3 := Fr.app N0 Nq3
  refine own_fw (A' := (T3.setTop (mkF m 23 #[rv a1, rv a2] [.ref a2, .ref a1]))) (fun t k => st3.trans (XS.ifYes X3.here hx rfl (pc0 := 15) (pc' := 22) rfl (hb hby d1_15) rfl (XT.i0_eq_t rfl) (by decide) (by decide) (XS.aloadN X3.here hx rfl (hb hby d1_22) rfl rfl k))) ?_
  obtain ⟨T4, h4, X4, e4, W4, st4⟩ := putF X3 hx hZ hown (host := "") (Or.inl (own_w hw 9 rfl)) Via.refl e3 (P1.ext E2) (P0.ext E2) (Or.inr ⟨(own_w hw 10 rfl), rfl, hnm⟩) (own_w hw 1 rfl) (ty := (.object "java/lang/String")) (by decide) rfl rfl (g := (mkF m 23 #[rv a1, rv a2] [.ref a2, .ref a1])) rfl rfl (hb hby d1_23)
  have Fw4 : Fld Z h4 a1 "com/example/spanwise/spanwise/cli/InputFile" "path" "Ljava/lang/String;" (.ref a2) := (P1.ext E2).same W4
  have Nf4 := Fr.snoc X4 Nf3 g_a1
  have K4 : Keep h0 h4 [a1] := K2.wr W4 (Or.inl (List.mem_of_getElem? (i := 0) rfl))
  have Z4 : n0 ≤ h4.size := Nat.le_trans Z2 (Keep.of_wr W4).1
  have hk := Nat.le_trans hk (Keep.of_wr W4).1
  have hC := hC.trans (CHr.wr W4 (Safe.exa hZ.alike (P0.ext E2) (by decide) (by decide)) hH)
  have hH := hC.1
  refine own_fw (A' := (T4.setTop (mkF m 26 #[rv a1, rv a2] []))) (fun t k => st4 _ k) ?_
  obtain ⟨fs, hr, hrun, hended, hWE⟩ := X4.leaveW hS (by rw [e4]; exact hk : _ ≤ T4.heap.size) (v := none) (fun _ => rfl)
  have hCE : CHr Z own_EL s.vm s.heap (T4.setFrames fs).vm (T4.setFrames fs).heap := by rw [hh]; show CHr Z own_EL s.vm h0 T4.vm T4.heap; rw [e4]; exact hC.trans (CHv.at X4 hZ (own_EW hw) hH)
  refine ⟨_, _, ?_, hrun, hended, _, _, rfl, ?_, hCE, own_widen hWE (by decide) (by decide)⟩
  · exact X4.returnOut hx Bd.returns (hb hby d1_26) hr
  · show Q_rmIniU1 Z a1 a2 b1 k1 cs x0 x1 h0 n0 _ T4.heap _
    rw [e4]
    exact ⟨rfl, Nf4, K4, ((P0.ext E2).wr W4), Fw4⟩
theorem ef_rmIniU2 (m : MethodId) (a1 a2 : Addr) : entryFrame m #[(.ref a1), (.ref a2)] 2 = mkF m 0 #[.val (.ref a1), .val (.ref a2)] [] := by first | (simp [entryFrame, mkF, argsToLocals, Value.category]; done) | rfl
def Q_rmIniU2 (Z : State) (a1 a2 b1 : Addr) (k1 : ClassId) (cs x0 x1 x2 x3 : Int32) (h0 : Heap) (n0 : Nat) (v : Option Value) (h : Heap) (L : List Loc) : Prop := v = none ∧ Fr n0 L ∧ Keep h0 h [a1] ∧ Exa Z h a1 "com/example/spanwise/spanwise/cli/InputFile" ∧ Fld Z h a1 "com/example/spanwise/spanwise/cli/InputFile" "path" "Ljava/lang/String;" (.ref a2)
theorem rmIniU2 (l : Launch) (Z : State) (a0 : Array Value) (hw : ∀ d ∈ tables_1, d.before a0 Z = true) (ws : List Jvm.Cond) (a1 a2 b1 : Addr) (k1 : ClassId) (cs x0 x1 x2 x3 : Int32) (h0 : Heap) (n0 : Nat) (Z0 : n0 ≤ h0.size) (P0 : Exa Z h0 a1 "com/example/spanwise/spanwise/cli/InputFile") (P1 : Fld Z h0 a1 "com/example/spanwise/spanwise/cli/InputFile" "path" "Ljava/lang/String;" .null) (g_a1 : n0 ≤ a1) (P3 : Exa Z h0 a2 "java/lang/String") (P4 : Fld Z h0 a2 "java/lang/String" "coder" "B" (.int 1)) (P5 : Fld Z h0 a2 "java/lang/String" "value" "[B" (.ref b1)) (P6 : Arv Z h0 b1 k1 .byte (4 : Int32) [(.int x0), (.int x1), (.int x2), (.int x3)] (.int 0)) (P7 : Sta Z h0 "java/lang/String" "COMPACT_STRINGS" "Z" (.int cs)) (hcs : ¬ (cs = (0 : Int32))) :
    MetFree l yq55 (head1 (Jvm.Cond.code yq55 prog_55_method_1_code 2 none :: ws) rq57) (fun a U => a = #[(.ref a1), (.ref a2)] ∧ Z.Warmed39 U.vm ∧ U.heap = h0 ∧ CHv Z own_EL U.vm h0) (fun _ _ _ _ _ => True) (fun _ U o U' => ∃ v L, o = .returned v ∧ Q_rmIniU2 Z a1 a2 b1 k1 cs x0 x1 x2 x3 h0 n0 v U'.heap L ∧ CHr Z own_EL U.vm U.heap U'.vm U'.heap ∧ ReturnedEndW U o U' L rq57.cells rq57.slots) := by
  refine MetFree.of_bodySF (plainFor_of_name pn_com_example_spanwise_spanwise_cli_InputFile) hisR ?_
  intro p e s m args below meth c s₁ Bd hml0 hP hK
  obtain ⟨rfl, hZ, hh, hH⟩ := hP
  have hx := Bd.exec
  have hby := Bd.bytes
  have hml : c.maxLocals = 2 := hml0
  have hown : s.vm.findClass "com/example/spanwise/spanwise/cli/InputFile" = some m.cls := findClass_of_methodNamed Bd.named
  have hnm := (name_of_methodNamed Bd.named Bd.method).1
  have X0 : Stand p l e rq57 (s.setVm s.vm) m #[(.ref a1), (.ref a2)] below meth c s₁ [] 0 0 := Stand.of_body Bd
  have e0 : s₁.heap = h0 := by rw [← hh, Bd.state]; rfl
  have N0 := Fr.nil n0
  refine own_fw (A' := (s₁.setTop (mkF m 0 #[.val (.ref a1), .val (.ref a2)] []))) (fun t k => castTop (ef_rmIniU2 m a1 a2) k) ?_
  have hS : s.Since s.vm h0.size := (State.WarmedH.refl s).since _
  have hk : h0.size ≤ h0.size := Nat.le_refl _
  have hC : CHr Z own_EL s.vm h0 s.vm h0 := CHr.refl hH
  refine own_fw (A' := (s₁.setTop (mkF m 1 #[rv a1, rv a2] [.ref a1]))) (fun t k => XS.aloadN X0.here hx rfl (hb hby d1_0) rfl rfl k) ?_
  obtain ⟨T1, X1, e1, st1⟩ := initO X0 hx hZ hown (own_w hw 6 rfl) (own_w hw 7 rfl) (own_w hw 8 rfl) e0 (g := (mkF m 1 #[rv a1, rv a2] [.ref a1])) rfl (by rw [hml]; rfl) rfl (hb hby d1_1) (by decide) (W := 0) (by show 2 * 0 + _ ≤ _; exact Nat.le_of_eq rfl) (by decide)
  refine own_fw (A' := (T1.setTop (mkF m 10 #[rv a1, rv a2] [.ref a2, .ref a1]))) (fun t k => st1 _ (XS.aloadN X1.here hx rfl (hb hby d1_4) rfl rfl (XS.aloadN X1.here hx rfl (hb hby d1_5) rfl rfl (XS.ifnullNo X1.here hx rfl (hb hby d1_6) rfl (XS.aloadN X1.here hx rfl (hb hby d1_9) rfl rfl k))))) ?_
  obtain ⟨sa2, T2, h2, k2, sb2, kk2, X2, e2, E2, hS, hk, hZ', hown, SE2, SC2, SV2, SA2, -, -, r2, -, sn2, st2⟩ := ldcCH X1 hx hZ hown (own_w hw 85 rfl) (own_wS hw) e1 hS hk (own_EW hw) (List.mem_of_getElem? (i := 0) rfl) hH (vs := [(.int 45)]) (z := (1 : Int32)) ⟨by decide, rfl⟩ (by decide) (by decide) (g := (mkF m 10 #[rv a1, rv a2] [.ref a2, .ref a1])) rfl (hb hby d1_10) (n := 4) (by decide) (by decide) (by decide) (by decide)
  have hC := hC.trans r2
  have hH := hC.1
  have hZ := hZ'
  have K2 : Keep h0 h2 [a1] := (Keep.refl h0 [a1]).ext E2
  have Z2 : n0 ≤ h2.size := Nat.le_trans Z0 E2.1
  refine own_fw (A' := (T2.setTop (mkF m 12 #[rv a1, rv a2] [.ref sa2, .ref a2, .ref a1]))) (fun t k => st2 _ k) ?_
  obtain ⟨cq3, kq3, qa3, qb3, qc3⟩ := isOf hZ e2 (P3.ext E2)
  obtain ⟨_, _, ⟨T3, L3, k3, n3⟩, -, X3, ⟨Lc3, hQ3, l3, y3, z3⟩, st3⟩ := X2.virtualBack hx (y := yq53) (z := yq53) hown (mvT hZ (own_w hw 88 rfl)) (mvT hZ (own_w hw 89 rfl)) (notFace_of_selects (args := #[]) (mvT hZ (own_w hw 91 rfl))) (mvT hZ (own_w hw 91 rfl)) (mvT hZ (own_w hw 90 rfl)) (by decide) (backOf (W := 1) (rmSEqU2 l Z a0 hw [] a2 sa2 b1 sb2 k1 kk2 cs (45 : Int32) x0 x1 x2 x3 h2 n0 Z2 (P3.ext E2) (P4.ext E2) (P5.ext E2) (P6.ext E2) SE2 SC2 SV2 SA2 (P7.ext E2) hcs (Fld.ne (P4.ext E2) SC2 (by decide))) hZ (own_w hw 92 rfl) (own_w hw 27 rfl) (by decide) (by decide)) qa3 qc3 (g := (mkF m 12 #[rv a1, rv a2] [.ref sa2, .ref a2, .ref a1])) rfl (by rw [hml]; rfl) (Steps.refl _) (argsL := [(.ref sa2)]) (rest := [(.ref a1)]) (lenOf pd__Ljava_lang_Object__Z rfl) rfl (by show 2 * 0 + _ ≤ _; exact Nat.le_of_eq rfl) (hb hby d1_12) (fun _ _ => ⟨rfl, e2, (by decide : 2 + 0 ≤ _), (by decide : 8 + 0 ≤ _)⟩)
  dsimp only [Pt.U, Pt.locs, Pt.cells, Pt.slots] at X3 l3 y3 z3 st3 hQ3
  subst l3 y3 z3
  obtain ⟨rfl, Nq3, e3⟩ := hQ3
  have Nf3 := Fr.app N0 Nq3
  refine own_fw (A' := (T3.setTop (mkF m 23 #[rv a1, rv a2] [.ref a2, .ref a1]))) (fun t k => st3.trans (XS.ifYes X3.here hx rfl (pc0 := 15) (pc' := 22) rfl (hb hby d1_15) rfl (XT.i0_eq_t rfl) (by decide) (by decide) (XS.aloadN X3.here hx rfl (hb hby d1_22) rfl rfl k))) ?_
  obtain ⟨T4, h4, X4, e4, W4, st4⟩ := putF X3 hx hZ hown (host := "") (Or.inl (own_w hw 9 rfl)) Via.refl e3 (P1.ext E2) (P0.ext E2) (Or.inr ⟨(own_w hw 10 rfl), rfl, hnm⟩) (own_w hw 1 rfl) (ty := (.object "java/lang/String")) (by decide) rfl rfl (g := (mkF m 23 #[rv a1, rv a2] [.ref a2, .ref a1])) rfl rfl (hb hby d1_23)
  have Fw4 : Fld Z h4 a1 "com/example/spanwise/spanwise/cli/InputFile" "path" "Ljava/lang/String;" (.ref a2) := (P1.ext E2).same W4
  have Nf4 := Fr.snoc X4 Nf3 g_a1
  have K4 : Keep h0 h4 [a1] := K2.wr W4 (Or.inl (List.mem_of_getElem? (i := 0) rfl))
  have Z4 : n0 ≤ h4.size := Nat.le_trans Z2 (Keep.of_wr W4).1
  have hk := Nat.le_trans hk (Keep.of_wr W4).1
  have hC := hC.trans (CHr.wr W4 (Safe.exa hZ.alike (P0.ext E2) (by decide) (by decide)) hH)
  have hH := hC.1
  refine own_fw (A' := (T4.setTop (mkF m 26 #[rv a1, rv a2] []))) (fun t k => st4 _ k) ?_
  obtain ⟨fs, hr, hrun, hended, hWE⟩ := X4.leaveW hS (by rw [e4]; exact hk : _ ≤ T4.heap.size) (v := none) (fun _ => rfl)
  have hCE : CHr Z own_EL s.vm s.heap (T4.setFrames fs).vm (T4.setFrames fs).heap := by rw [hh]; show CHr Z own_EL s.vm h0 T4.vm T4.heap; rw [e4]; exact hC.trans (CHv.at X4 hZ (own_EW hw) hH)
  refine ⟨_, _, ?_, hrun, hended, _, _, rfl, ?_, hCE, own_widen hWE (by decide) (by decide)⟩
  · exact X4.returnOut hx Bd.returns (hb hby d1_26) hr
  · show Q_rmIniU2 Z a1 a2 b1 k1 cs x0 x1 x2 x3 h0 n0 _ T4.heap _
    rw [e4]
    exact ⟨rfl, Nf4, K4, ((P0.ext E2).wr W4), Fw4⟩
theorem ef_rmIniU3 (m : MethodId) (a1 a2 : Addr) : entryFrame m #[(.ref a1), (.ref a2)] 2 = mkF m 0 #[.val (.ref a1), .val (.ref a2)] [] := by first | (simp [entryFrame, mkF, argsToLocals, Value.category]; done) | rfl
def Q_rmIniU3 (Z : State) (a1 a2 b1 : Addr) (k1 : ClassId) (cs x0 x1 x2 x3 x4 x5 : Int32) (h0 : Heap) (n0 : Nat) (v : Option Value) (h : Heap) (L : List Loc) : Prop := v = none ∧ Fr n0 L ∧ Keep h0 h [a1] ∧ Exa Z h a1 "com/example/spanwise/spanwise/cli/InputFile" ∧ Fld Z h a1 "com/example/spanwise/spanwise/cli/InputFile" "path" "Ljava/lang/String;" (.ref a2)
theorem rmIniU3 (l : Launch) (Z : State) (a0 : Array Value) (hw : ∀ d ∈ tables_1, d.before a0 Z = true) (ws : List Jvm.Cond) (a1 a2 b1 : Addr) (k1 : ClassId) (cs x0 x1 x2 x3 x4 x5 : Int32) (h0 : Heap) (n0 : Nat) (Z0 : n0 ≤ h0.size) (P0 : Exa Z h0 a1 "com/example/spanwise/spanwise/cli/InputFile") (P1 : Fld Z h0 a1 "com/example/spanwise/spanwise/cli/InputFile" "path" "Ljava/lang/String;" .null) (g_a1 : n0 ≤ a1) (P3 : Exa Z h0 a2 "java/lang/String") (P4 : Fld Z h0 a2 "java/lang/String" "coder" "B" (.int 1)) (P5 : Fld Z h0 a2 "java/lang/String" "value" "[B" (.ref b1)) (P6 : Arv Z h0 b1 k1 .byte (6 : Int32) [(.int x0), (.int x1), (.int x2), (.int x3), (.int x4), (.int x5)] (.int 0)) (P7 : Sta Z h0 "java/lang/String" "COMPACT_STRINGS" "Z" (.int cs)) (hcs : ¬ (cs = (0 : Int32))) :
    MetFree l yq55 (head1 (Jvm.Cond.code yq55 prog_55_method_1_code 2 none :: ws) rq57) (fun a U => a = #[(.ref a1), (.ref a2)] ∧ Z.Warmed39 U.vm ∧ U.heap = h0 ∧ CHv Z own_EL U.vm h0) (fun _ _ _ _ _ => True) (fun _ U o U' => ∃ v L, o = .returned v ∧ Q_rmIniU3 Z a1 a2 b1 k1 cs x0 x1 x2 x3 x4 x5 h0 n0 v U'.heap L ∧ CHr Z own_EL U.vm U.heap U'.vm U'.heap ∧ ReturnedEndW U o U' L rq57.cells rq57.slots) := by
  refine MetFree.of_bodySF (plainFor_of_name pn_com_example_spanwise_spanwise_cli_InputFile) hisR ?_
  intro p e s m args below meth c s₁ Bd hml0 hP hK
  obtain ⟨rfl, hZ, hh, hH⟩ := hP
  have hx := Bd.exec
  have hby := Bd.bytes
  have hml : c.maxLocals = 2 := hml0
  have hown : s.vm.findClass "com/example/spanwise/spanwise/cli/InputFile" = some m.cls := findClass_of_methodNamed Bd.named
  have hnm := (name_of_methodNamed Bd.named Bd.method).1
  have X0 : Stand p l e rq57 (s.setVm s.vm) m #[(.ref a1), (.ref a2)] below meth c s₁ [] 0 0 := Stand.of_body Bd
  have e0 : s₁.heap = h0 := by rw [← hh, Bd.state]; rfl
  have N0 := Fr.nil n0
  refine own_fw (A' := (s₁.setTop (mkF m 0 #[.val (.ref a1), .val (.ref a2)] []))) (fun t k => castTop (ef_rmIniU3 m a1 a2) k) ?_
  have hS : s.Since s.vm h0.size := (State.WarmedH.refl s).since _
  have hk : h0.size ≤ h0.size := Nat.le_refl _
  have hC : CHr Z own_EL s.vm h0 s.vm h0 := CHr.refl hH
  refine own_fw (A' := (s₁.setTop (mkF m 1 #[rv a1, rv a2] [.ref a1]))) (fun t k => XS.aloadN X0.here hx rfl (hb hby d1_0) rfl rfl k) ?_
  obtain ⟨T1, X1, e1, st1⟩ := initO X0 hx hZ hown (own_w hw 6 rfl) (own_w hw 7 rfl) (own_w hw 8 rfl) e0 (g := (mkF m 1 #[rv a1, rv a2] [.ref a1])) rfl (by rw [hml]; rfl) rfl (hb hby d1_1) (by decide) (W := 0) (by show 2 * 0 + _ ≤ _; exact Nat.le_of_eq rfl) (by decide)
  refine own_fw (A' := (T1.setTop (mkF m 10 #[rv a1, rv a2] [.ref a2, .ref a1]))) (fun t k => st1 _ (XS.aloadN X1.here hx rfl (hb hby d1_4) rfl rfl (XS.aloadN X1.here hx rfl (hb hby d1_5) rfl rfl (XS.ifnullNo X1.here hx rfl (hb hby d1_6) rfl (XS.aloadN X1.here hx rfl (hb hby d1_9) rfl rfl k))))) ?_
  obtain ⟨sa2, T2, h2, k2, sb2, kk2, X2, e2, E2, hS, hk, hZ', hown, SE2, SC2, SV2, SA2, -, -, r2, -, sn2, st2⟩ := ldcCH X1 hx hZ hown (own_w hw 85 rfl) (own_wS hw) e1 hS hk (own_EW hw) (List.mem_of_getElem? (i := 0) rfl) hH (vs := [(.int 45)]) (z := (1 : Int32)) ⟨by decide, rfl⟩ (by decide) (by decide) (g := (mkF m 10 #[rv a1, rv a2] [.ref a2, .ref a1])) rfl (hb hby d1_10) (n := 4) (by decide) (by decide) (by decide) (by decide)
  have hC := hC.trans r2
  have hH := hC.1
  have hZ := hZ'
  have K2 : Keep h0 h2 [a1] := (Keep.refl h0 [a1]).ext E2
  have Z2 : n0 ≤ h2.size := Nat.le_trans Z0 E2.1
  refine own_fw (A' := (T2.setTop (mkF m 12 #[rv a1, rv a2] [.ref sa2, .ref a2, .ref a1]))) (fun t k => st2 _ k) ?_
  obtain ⟨cq3, kq3, qa3, qb3, qc3⟩ := isOf hZ e2 (P3.ext E2)
  obtain ⟨_, _, ⟨T3, L3, k3, n3⟩, -, X3, ⟨Lc3, hQ3, l3, y3, z3⟩, st3⟩ := X2.virtualBack hx (y := yq53) (z := yq53) hown (mvT hZ (own_w hw 88 rfl)) (mvT hZ (own_w hw 89 rfl)) (notFace_of_selects (args := #[]) (mvT hZ (own_w hw 91 rfl))) (mvT hZ (own_w hw 91 rfl)) (mvT hZ (own_w hw 90 rfl)) (by decide) (backOf (W := 1) (rmSEqU3 l Z a0 hw [] a2 sa2 b1 sb2 k1 kk2 cs (45 : Int32) x0 x1 x2 x3 x4 x5 h2 n0 Z2 (P3.ext E2) (P4.ext E2) (P5.ext E2) (P6.ext E2) SE2 SC2 SV2 SA2 (P7.ext E2) hcs (Fld.ne (P4.ext E2) SC2 (by decide))) hZ (own_w hw 92 rfl) (own_w hw 27 rfl) (by decide) (by decide)) qa3 qc3 (g := (mkF m 12 #[rv a1, rv a2] [.ref sa2, .ref a2, .ref a1])) rfl (by rw [hml]; rfl) (Steps.refl _) (argsL := [(.ref sa2)]) (rest := [(.ref a1)]) (lenOf pd__Ljava_lang_Object__Z rfl) rfl (by show 2 * 0 + _ ≤ _; exact Nat.le_of_eq rfl) (hb hby d1_12) (fun _ _ => ⟨rfl, e2, (by decide : 2 + 0 ≤ _), (by decide : 8 + 0 ≤ _)⟩)
  dsimp only [Pt.U, Pt.locs, Pt.cells, Pt.slots] at X3 l3 y3 z3 st3 hQ3
  subst l3 y3 z3
  obtain ⟨rfl, Nq3, e3⟩ := hQ3
  have Nf3 := Fr.app N0 Nq3
  refine own_fw (A' := (T3.setTop (mkF m 23 #[rv a1, rv a2] [.ref a2, .ref a1]))) (fun t k => st3.trans (XS.ifYes X3.here hx rfl (pc0 := 15) (pc' := 22) rfl (hb hby d1_15) rfl (XT.i0_eq_t rfl) (by decide) (by decide) (XS.aloadN X3.here hx rfl (hb hby d1_22) rfl rfl k))) ?_
  obtain ⟨T4, h4, X4, e4, W4, st4⟩ := putF X3 hx hZ hown (host := "") (Or.inl (own_w hw 9 rfl)) Via.refl e3 (P1.ext E2) (P0.ext E2) (Or.inr ⟨(own_w hw 10 rfl), rfl, hnm⟩) (own_w hw 1 rfl) (ty := (.object "java/lang/String")) (by decide) rfl rfl (g := (mkF m 23 #[rv a1, rv a2] [.ref a2, .ref a1])) rfl rfl (hb hby d1_23)
  have Fw4 : Fld Z h4 a1 "com/example/spanwise/spanwise/cli/InputFile" "path" "Ljava/lang/String;" (.ref a2) := (P1.ext E2).same W4
  have Nf4 := Fr.snoc X4 Nf3 g_a1
  have K4 : Keep h0 h4 [a1] := K2.wr W4 (Or.inl (List.mem_of_getElem? (i := 0) rfl))
  have Z4 : n0 ≤ h4.size := Nat.le_trans Z2 (Keep.of_wr W4).1
  have hk := Nat.le_trans hk (Keep.of_wr W4).1
  have hC := hC.trans (CHr.wr W4 (Safe.exa hZ.alike (P0.ext E2) (by decide) (by decide)) hH)
  have hH := hC.1
  refine own_fw (A' := (T4.setTop (mkF m 26 #[rv a1, rv a2] []))) (fun t k => st4 _ k) ?_
  obtain ⟨fs, hr, hrun, hended, hWE⟩ := X4.leaveW hS (by rw [e4]; exact hk : _ ≤ T4.heap.size) (v := none) (fun _ => rfl)
  have hCE : CHr Z own_EL s.vm s.heap (T4.setFrames fs).vm (T4.setFrames fs).heap := by rw [hh]; show CHr Z own_EL s.vm h0 T4.vm T4.heap; rw [e4]; exact hC.trans (CHv.at X4 hZ (own_EW hw) hH)
  refine ⟨_, _, ?_, hrun, hended, _, _, rfl, ?_, hCE, own_widen hWE (by decide) (by decide)⟩
  · exact X4.returnOut hx Bd.returns (hb hby d1_26) hr
  · show Q_rmIniU3 Z a1 a2 b1 k1 cs x0 x1 x2 x3 x4 x5 h0 n0 _ T4.heap _
    rw [e4]
    exact ⟨rfl, Nf4, K4, ((P0.ext E2).wr W4), Fw4⟩
theorem d3_0 : decode prog_55_method_2_code 0 = .ok (.aload_n 0, 1) := by decide +kernel
theorem d3_1 : decode prog_55_method_2_code 1 = .ok (.getfield 17, 3) := by decide +kernel
theorem d3_4 : decode prog_55_method_2_code 4 = .ok (.ifnonnull 7, 3) := by decide +kernel
theorem d3_7 : decode prog_55_method_2_code 7 = .ok (.iconst 1, 1) := by decide +kernel
theorem d3_8 : decode prog_55_method_2_code 8 = .ok (.goto 4, 3) := by decide +kernel
theorem d3_12 : decode prog_55_method_2_code 12 = .ok (.ireturn, 1) := by decide +kernel
theorem ef_rmIsN (m : MethodId) (a1 : Addr) : entryFrame m #[(.ref a1)] 1 = mkF m 0 #[.val (.ref a1)] [] := by first | (simp [entryFrame, mkF, argsToLocals, Value.category]; done) | rfl
def Q_rmIsN (Z : State) (a1 : Addr) (h0 : Heap) (n0 : Nat) (v : Option Value) (h : Heap) (L : List Loc) : Prop := v = some (.int 1) ∧ Fr n0 L ∧ h = h0
theorem rmIsN (l : Launch) (Z : State) (a0 : Array Value) (hw : ∀ d ∈ tables_1, d.before a0 Z = true) (ws : List Jvm.Cond) (a1 : Addr) (h0 : Heap) (n0 : Nat) (Z0 : n0 ≤ h0.size) (P0 : Fld Z h0 a1 "com/example/spanwise/spanwise/cli/InputFile" "path" "Ljava/lang/String;" .null) :
    MetFree l yq58 (head1 (Jvm.Cond.code yq58 prog_55_method_2_code 1 (some .boolean) :: ws) rq0) (fun a U => a = #[(.ref a1)] ∧ Z.Warmed39 U.vm ∧ U.heap = h0) (fun _ _ _ _ _ => True) (fun _ U o U' => ∃ v L, o = .returned v ∧ Q_rmIsN Z a1 h0 n0 v U'.heap L ∧ FrameEnd U o U' L rq0.cells rq0.slots) := by
  refine MetFree.of_bodySF (plainFor_of_name pn_com_example_spanwise_spanwise_cli_InputFile) hisR ?_
  intro p e s m args below meth c s₁ Bd hml0 hP hK
  obtain ⟨rfl, hZ, hh⟩ := hP
  have hx := Bd.exec
  have hby := Bd.bytes
  have hml : c.maxLocals = 1 := hml0
  have hown : s.vm.findClass "com/example/spanwise/spanwise/cli/InputFile" = some m.cls := findClass_of_methodNamed Bd.named
  have hnm := (name_of_methodNamed Bd.named Bd.method).1
  have X0 : Stand p l e rq0 s m #[(.ref a1)] below meth c s₁ [] 0 0 := Stand.of_body Bd
  have e0 : s₁.heap = h0 := by rw [← hh, Bd.state]; rfl
  have N0 := Fr.nil n0
  refine own_fw (A' := (s₁.setTop (mkF m 1 #[rv a1] [.ref a1]))) (fun t k => castTop (ef_rmIsN m a1) (XS.aloadN X0.here hx rfl (hb hby d3_0) rfl rfl k)) ?_
  obtain ⟨T1, X1, e1, st1⟩ := getF X0 hx hZ hown (host := "") (Or.inl (own_w hw 9 rfl)) Via.refl e0 P0 (g := (mkF m 1 #[rv a1] [.ref a1])) rfl rfl (hb hby d3_1)
  refine own_fw (A' := (T1.setTop (mkF m 12 #[rv a1] [.int 1]))) (fun t k => st1 _ (XS.ifnonnullNo X1.here hx rfl (hb hby d3_4) rfl (XS.iconst X1.here hx rfl (hb hby d3_7) (XS.goto X1.here hx rfl (pc0 := 8) (pc' := 12) rfl (hb hby d3_8) (by decide) (by decide) k)))) ?_
  obtain ⟨fs, hr, hrun, hended, hW, hsame⟩ := X1.leave (v := some (.int 1)) (fun h => by rw [Bd.returns] at h; cases h)
  refine ⟨_, _, ?_, hrun, hended, _, _, rfl, ?_, ⟨_, rfl⟩, hW, hsame.mono (by decide) (by decide)⟩
  · exact retOut X1 hx Bd.returns rfl (Or.inl ⟨rfl, by simp, _, rfl⟩) (hb hby d3_12) hr
  · show Q_rmIsN Z a1 h0 n0 _ T1.heap _
    rw [e1]
    exact ⟨rfl, N0, rfl⟩
theorem d3_11 : decode prog_55_method_2_code 11 = .ok (.iconst 0, 1) := by decide +kernel
theorem ef_rmIsR (m : MethodId) (a1 : Addr) : entryFrame m #[(.ref a1)] 1 = mkF m 0 #[.val (.ref a1)] [] := by first | (simp [entryFrame, mkF, argsToLocals, Value.category]; done) | rfl
def Q_rmIsR (Z : State) (a1 a2 : Addr) (h0 : Heap) (n0 : Nat) (v : Option Value) (h : Heap) (L : List Loc) : Prop := v = some (.int 0) ∧ Fr n0 L ∧ h = h0
theorem rmIsR (l : Launch) (Z : State) (a0 : Array Value) (hw : ∀ d ∈ tables_1, d.before a0 Z = true) (ws : List Jvm.Cond) (a1 a2 : Addr) (h0 : Heap) (n0 : Nat) (Z0 : n0 ≤ h0.size) (P0 : Fld Z h0 a1 "com/example/spanwise/spanwise/cli/InputFile" "path" "Ljava/lang/String;" (.ref a2)) :
    MetFree l yq58 (head1 (Jvm.Cond.code yq58 prog_55_method_2_code 1 (some .boolean) :: ws) rq0) (fun a U => a = #[(.ref a1)] ∧ Z.Warmed39 U.vm ∧ U.heap = h0) (fun _ _ _ _ _ => True) (fun _ U o U' => ∃ v L, o = .returned v ∧ Q_rmIsR Z a1 a2 h0 n0 v U'.heap L ∧ FrameEnd U o U' L rq0.cells rq0.slots) := by
  refine MetFree.of_bodySF (plainFor_of_name pn_com_example_spanwise_spanwise_cli_InputFile) hisR ?_
  intro p e s m args below meth c s₁ Bd hml0 hP hK
  obtain ⟨rfl, hZ, hh⟩ := hP
  have hx := Bd.exec
  have hby := Bd.bytes
  have hml : c.maxLocals = 1 := hml0
  have hown : s.vm.findClass "com/example/spanwise/spanwise/cli/InputFile" = some m.cls := findClass_of_methodNamed Bd.named
  have hnm := (name_of_methodNamed Bd.named Bd.method).1
  have X0 : Stand p l e rq0 s m #[(.ref a1)] below meth c s₁ [] 0 0 := Stand.of_body Bd
  have e0 : s₁.heap = h0 := by rw [← hh, Bd.state]; rfl
  have N0 := Fr.nil n0
  refine own_fw (A' := (s₁.setTop (mkF m 1 #[rv a1] [.ref a1]))) (fun t k => castTop (ef_rmIsR m a1) (XS.aloadN X0.here hx rfl (hb hby d3_0) rfl rfl k)) ?_
  obtain ⟨T1, X1, e1, st1⟩ := getF X0 hx hZ hown (host := "") (Or.inl (own_w hw 9 rfl)) Via.refl e0 P0 (g := (mkF m 1 #[rv a1] [.ref a1])) rfl rfl (hb hby d3_1)
  refine own_fw (A' := (T1.setTop (mkF m 12 #[rv a1] [.int 0]))) (fun t k => st1 _ (XS.ifnonnullYes X1.here hx rfl (pc0 := 4) (pc' := 11) rfl (hb hby d3_4) rfl (by decide) (by decide) (XS.iconst X1.here hx rfl (hb hby d3_11) k))) ?_
  obtain ⟨fs, hr, hrun, hended, hW, hsame⟩ := X1.leave (v := some (.int 0)) (fun h => by rw [Bd.returns] at h; cases h)
  refine ⟨_, _, ?_, hrun, hended, _, _, rfl, ?_, ⟨_, rfl⟩, hW, hsame.mono (by decide) (by decide)⟩
  · exact retOut X1 hx Bd.returns rfl (Or.inl ⟨rfl, by simp, _, rfl⟩) (hb hby d3_12) hr
  · show Q_rmIsR Z a1 a2 h0 n0 _ T1.heap _
    rw [e1]
    exact ⟨rfl, N0, rfl⟩
theorem pn_com_example_spanwise_spanwise_cli_InputFileIsStandardInputPinLaw : plainName "com/example/spanwise/spanwise/cli/InputFileIsStandardInputPinLaw" = true := by first | (simp [plainName, overriddenIn]; done) | decide +kernel
theorem d4_0 : decode method_2_code 0 = .ok (.iload_n 0, 1) := by decide +kernel
theorem d4_1 : decode method_2_code 1 = .ok (.ldc 7, 2) := by decide +kernel
theorem d4_3 : decode method_2_code 3 = .ok (.iand, 1) := by decide +kernel
theorem d4_4 : decode method_2_code 4 = .ok (.ifCond .eq 8, 3) := by decide +kernel
theorem d4_12 : decode method_2_code 12 = .ok (.iload_n 0, 1) := by decide +kernel
theorem d4_13 : decode method_2_code 13 = .ok (.ldc 8, 2) := by decide +kernel
theorem d4_15 : decode method_2_code 15 = .ok (.iand, 1) := by decide +kernel
theorem d4_16 : decode method_2_code 16 = .ok (.i2c, 1) := by decide +kernel
theorem d4_17 : decode method_2_code 17 = .ok (.ireturn, 1) := by decide +kernel
theorem d4_7 : decode method_2_code 7 = .ok (.bipush 45, 2) := by decide +kernel
theorem d4_9 : decode method_2_code 9 = .ok (.goto 8, 3) := by decide +kernel
theorem ef_rmPick (m : MethodId) (p1 : Int32) : entryFrame m #[(.int p1)] 1 = mkF m 0 #[.val (.int p1)] [] := by first | (simp [entryFrame, mkF, argsToLocals, Value.category]; done) | rfl
def Q_rmPick (Z : State) (p1 : Int32) (h0 : Heap) (n0 : Nat) (v : Option Value) (h : Heap) (L : List Loc) : Prop := ∃ r : Int32, v = some (.int r) ∧ Fr n0 L ∧ h = h0 ∧ (own_c16 r)
theorem rmPick (l : Launch) (Z : State) (a0 : Array Value) (hw : ∀ d ∈ tables_1, d.before a0 Z = true) (ws : List Jvm.Cond) (p1 : Int32) (h0 : Heap) (n0 : Nat) (Z0 : n0 ≤ h0.size)  :
    MetFree l yq59 (head1 (Jvm.Cond.code yq59 method_2_code 1 (some .char) :: ws) rq0) (fun a U => a = #[(.int p1)] ∧ Z.Warmed39 U.vm ∧ U.heap = h0) (fun _ _ _ _ _ => True) (fun _ U o U' => ∃ v L, o = .returned v ∧ Q_rmPick Z p1 h0 n0 v U'.heap L ∧ FrameEnd U o U' L rq0.cells rq0.slots) := by
  refine MetFree.of_bodySF (plainFor_of_name pn_com_example_spanwise_spanwise_cli_InputFileIsStandardInputPinLaw) hisR ?_
  intro p e s m args below meth c s₁ Bd hml0 hP hK
  obtain ⟨rfl, hZ, hh⟩ := hP
  have hx := Bd.exec
  have hby := Bd.bytes
  have hml : c.maxLocals = 1 := hml0
  have hown : s.vm.findClass "com/example/spanwise/spanwise/cli/InputFileIsStandardInputPinLaw" = some m.cls := findClass_of_methodNamed Bd.named
  have hnm := (name_of_methodNamed Bd.named Bd.method).1
  have X0 : Stand p l e rq0 s m #[(.int p1)] below meth c s₁ [] 0 0 := Stand.of_body Bd
  have e0 : s₁.heap = h0 := by rw [← hh, Bd.state]; rfl
  have N0 := Fr.nil n0
  refine own_fw (A' := (s₁.setTop (mkF m 4 #[iv p1] [.int (p1 &&& (65536 : Int32))]))) (fun t k => castTop (ef_rmPick m p1) (XS.iloadN X0.here hx rfl (hb hby d4_0) rfl (X0.ldcInt hx hown (mvT hZ (own_w hw 20 rfl)) (g := (mkF m 1 #[iv p1] [.int p1])) rfl (hb hby d4_1) _ (XS.iand X0.here hx rfl (hb hby d4_3) rfl k)))) ?_
  by_cases hc1 : (p1 &&& (65536 : Int32)) = (0 : Int32)
  · refine own_fw (A' := (s₁.setTop (mkF m 17 #[iv p1] [.int ((p1 &&& (65535 : Int32)).toUInt32.toUInt16.toUInt32.toInt32)]))) (fun t k => XS.ifYes X0.here hx rfl (pc0 := 4) (pc' := 12) rfl (hb hby d4_4) rfl (XT.i0_eq_t hc1) (by decide) (by decide) (XS.iloadN X0.here hx rfl (hb hby d4_12) rfl (X0.ldcInt hx hown (mvT hZ (own_w hw 21 rfl)) (g := (mkF m 13 #[iv p1] [.int p1])) rfl (hb hby d4_13) _ (XS.iand X0.here hx rfl (hb hby d4_15) rfl (XS.i2c X0.here hx rfl (hb hby d4_16) rfl k))))) ?_
    obtain ⟨fs, hr, hrun, hended, hW, hsame⟩ := X0.leave (v := some (.int ((p1 &&& (65535 : Int32)).toUInt32.toUInt16.toUInt32.toInt32))) (fun h => by rw [Bd.returns] at h; cases h)
    refine ⟨_, _, ?_, hrun, hended, _, _, rfl, ?_, ⟨_, rfl⟩, hW, hsame.mono (by decide) (by decide)⟩
    · exact retOut X0 hx Bd.returns (own_narr16 (by first | exact own_c45 | exact own_cM _)) (Or.inl ⟨rfl, by simp, _, rfl⟩) (hb hby d4_17) hr
    · show Q_rmPick Z p1 h0 n0 _ s₁.heap _
      rw [e0]
      exact ⟨((p1 &&& (65535 : Int32)).toUInt32.toUInt16.toUInt32.toInt32), rfl, N0, rfl, (by first | exact own_c45 | exact own_cM _)⟩
  · refine own_fw (A' := (s₁.setTop (mkF m 17 #[iv p1] [.int 45]))) (fun t k => XS.ifNo X0.here hx rfl (hb hby d4_4) rfl (XT.i0_eq_f hc1) (XS.bipush X0.here hx rfl (hb hby d4_7) (XS.goto X0.here hx rfl (pc0 := 9) (pc' := 17) rfl (hb hby d4_9) (by decide) (by decide) k))) ?_
    obtain ⟨fs, hr, hrun, hended, hW, hsame⟩ := X0.leave (v := some (.int 45)) (fun h => by rw [Bd.returns] at h; cases h)
    refine ⟨_, _, ?_, hrun, hended, _, _, rfl, ?_, ⟨_, rfl⟩, hW, hsame.mono (by decide) (by decide)⟩
    · exact retOut X0 hx Bd.returns (own_narr16 (by first | exact own_c45 | exact own_cM _)) (Or.inl ⟨rfl, by simp, _, rfl⟩) (hb hby d4_17) hr
    · show Q_rmPick Z p1 h0 n0 _ s₁.heap _
      rw [e0]
      exact ⟨(45 : Int32), rfl, N0, rfl, (by first | exact own_c45 | exact own_cM _)⟩
theorem d5_0 : decode method_3_code 0 = .ok (.iload_n 0, 1) := by decide +kernel
theorem d5_1 : decode method_3_code 1 = .ok (.ifCond .ne 14, 3) := by decide +kernel
theorem d5_4 : decode method_3_code 4 = .ok (.new 9, 3) := by decide +kernel
theorem d5_7 : decode method_3_code 7 = .ok (.dup, 1) := by decide +kernel
theorem d5_8 : decode method_3_code 8 = .ok (.iconst 0, 1) := by decide +kernel
theorem d5_9 : decode method_3_code 9 = .ok (.newarray .char, 2) := by decide +kernel
theorem d5_11 : decode method_3_code 11 = .ok (.invokespecial 11, 3) := by decide +kernel
theorem pd___C_V : parseMethodDescriptor "([C)V" = some ⟨[(.array .char)], none⟩ := by decide +kernel
theorem d5_14 : decode method_3_code 14 = .ok (.areturn, 1) := by decide +kernel
theorem ef_rmDraw0 (m : MethodId) (p1 p2 p3 p4 : Int32) : entryFrame m #[(.int p1), (.int p2), (.int p3), (.int p4)] 4 = mkF m 0 #[.val (.int p1), .val (.int p2), .val (.int p3), .val (.int p4)] [] := by first | (simp [entryFrame, mkF, argsToLocals, Value.category]; done) | rfl
def Q_rmDraw0 (Z : State) (p1 p2 p3 p4 cs : Int32) (h0 : Heap) (n0 : Nat) (v : Option Value) (h : Heap) (L : List Loc) : Prop := ∃ b : Addr, ∃ sb : Addr, ∃ kb : ClassId, v = some (.ref b) ∧ Fr n0 L ∧ Keep h0 h [] ∧ Exa Z h b "java/lang/String" ∧ Fld Z h b "java/lang/String" "coder" "B" (.int 0) ∧ Fld Z h b "java/lang/String" "value" "[B" (.ref sb) ∧ Arv Z h sb kb .byte (0 : Int32) [] (.int 0) ∧ (h0.size ≤ b)
theorem rmDraw0 (l : Launch) (Z : State) (a0 : Array Value) (hw : ∀ d ∈ tables_1, d.before a0 Z = true) (ws : List Jvm.Cond) (p1 p2 p3 p4 cs : Int32) (h0 : Heap) (n0 : Nat) (Z0 : n0 ≤ h0.size) (P0 : Sta Z h0 "java/lang/String" "COMPACT_STRINGS" "Z" (.int cs)) (hcs : ¬ (cs = (0 : Int32))) (P2 : Sta Z h0 "java/lang/StringUTF16" "$assertionsDisabled" "Z" (.int 1)) (P3 : Sta Z h0 "java/lang/StringUTF16" "HI_BYTE_SHIFT" "I" (.int 0)) (P4 : Sta Z h0 "java/lang/StringUTF16" "LO_BYTE_SHIFT" "I" (.int 8)) (m0 : p1 = (0 : Int32)) (hp2 : own_c16 p2) (hp3 : own_c16 p3) (hp4 : own_c16 p4) :
    MetFree l yq61 (head1 (Jvm.Cond.code yq61 method_3_code 4 (some (.object "java/lang/String")) :: ws) rq60) (fun a U => a = #[(.int p1), (.int p2), (.int p3), (.int p4)] ∧ Z.Warmed39 U.vm ∧ U.heap = h0 ∧ CHv Z own_EL U.vm h0) (fun _ _ _ _ _ => True) (fun _ U o U' => ∃ v L, o = .returned v ∧ Q_rmDraw0 Z p1 p2 p3 p4 cs h0 n0 v U'.heap L ∧ CHr Z own_EL U.vm U.heap U'.vm U'.heap ∧ ReturnedEndW U o U' L rq60.cells rq60.slots) := by
  refine MetFree.of_bodySF (plainFor_of_name pn_com_example_spanwise_spanwise_cli_InputFileIsStandardInputPinLaw) hisR ?_
  intro p e s m args below meth c s₁ Bd hml0 hP hK
  obtain ⟨rfl, hZ, hh, hH⟩ := hP
  have hx := Bd.exec
  have hby := Bd.bytes
  have hml : c.maxLocals = 4 := hml0
  have hown : s.vm.findClass "com/example/spanwise/spanwise/cli/InputFileIsStandardInputPinLaw" = some m.cls := findClass_of_methodNamed Bd.named
  have hnm := (name_of_methodNamed Bd.named Bd.method).1
  have X0 : Stand p l e rq60 (s.setVm s.vm) m #[(.int p1), (.int p2), (.int p3), (.int p4)] below meth c s₁ [] 0 0 := Stand.of_body Bd
  have e0 : s₁.heap = h0 := by rw [← hh, Bd.state]; rfl
  have N0 := Fr.nil n0
  refine own_fw (A' := (s₁.setTop (mkF m 0 #[.val (.int p1), .val (.int p2), .val (.int p3), .val (.int p4)] []))) (fun t k => castTop (ef_rmDraw0 m p1 p2 p3 p4) k) ?_
  have hS : s.Since s.vm h0.size := (State.WarmedH.refl s).since _
  have hk : h0.size ≤ h0.size := Nat.le_refl _
  have hC : CHr Z own_EL s.vm h0 s.vm h0 := CHr.refl hH
  refine own_fw (A' := (s₁.setTop (mkF m 4 #[iv p1, iv p2, iv p3, iv p4] []))) (fun t k => XS.iloadN X0.here hx rfl (hb hby d5_0) rfl (XS.ifNo X0.here hx rfl (hb hby d5_1) rfl (XT.i0_ne_f m0) k)) ?_
  obtain ⟨T1, h1, X1, e1, E1, A1, D1, -, st1⟩ := newO X0 hx hZ hown (own_w hw 25 rfl) (own_w hw 26 rfl) (own_w hw 27 rfl) e0 (g := (mkF m 4 #[iv p1, iv p2, iv p3, iv p4] [])) rfl (hb hby d5_4) (by decide) (by decide)
  obtain ⟨b1, gb1⟩ : ∃ z, z = h0.size := ⟨_, rfl⟩
  have g_b1 : n0 ≤ b1 := Nat.le_trans Z0 (Nat.le_of_eq gb1.symm)
  have sz_b1 : h0.size ≤ b1 := Nat.le_trans (Keep.refl h0 []).1 (Nat.le_of_eq gb1.symm)
  rw [← gb1] at A1 D1 st1
  have F2 : Safe Z own_EL _ h1 b1 := (Safe.ext E1 hH (Safe.new (Nat.le_of_eq gb1.symm) : Safe Z own_EL _ h0 b1))
  have F_coder_b1 : Fld Z h1 b1 "java/lang/String" "coder" "B" (.int 0) := D1 (Or.inr (own_w hw 50 rfl)) (ty := .byte) (by decide)
  have F_value_b1 : Fld Z h1 b1 "java/lang/String" "value" "[B" .null := D1 (Or.inr (own_w hw 52 rfl)) (ty := (.array .byte)) (by decide)
  have K1 : Keep h0 h1 [] := (Keep.refl h0 []).ext E1
  have Z1 : n0 ≤ h1.size := Nat.le_trans Z0 E1.1
  have hk := Nat.le_trans hk E1.1
  have hC := hC.trans (CHr.ext E1 hH)
  have hH := hC.1
  refine own_fw (A' := (T1.setTop (mkF m 9 #[iv p1, iv p2, iv p3, iv p4] [.int 0, .ref b1, .ref b1]))) (fun t k => st1 _ (XS.dup X1.here hx rfl (hb hby d5_7) rfl rfl (XS.iconst X1.here hx rfl (hb hby d5_8) k))) ?_
  obtain ⟨T3, h3, k3, X3, e3, E3, A3, st3⟩ := newP X1 hx hZ (own_w hw 28 rfl) e1 (g := (mkF m 9 #[iv p1, iv p2, iv p3, iv p4] [.int 0, .ref b1, .ref b1])) rfl (hb hby d5_9) rfl (by decide) (cap := 0) (by decide) (by decide) (by decide) (by decide)
  obtain ⟨b3, gb3⟩ : ∃ z, z = h1.size := ⟨_, rfl⟩
  have g_b3 : n0 ≤ b3 := Nat.le_trans Z1 (Nat.le_of_eq gb3.symm)
  have sz_b3 : h0.size ≤ b3 := Nat.le_trans K1.1 (Nat.le_of_eq gb3.symm)
  have ne_b1_b3 : b1 ≠ b3 := Nat.ne_of_lt (Nat.lt_of_lt_of_le A1.lt (Nat.le_of_eq gb3.symm))
  rw [← gb3] at A3 st3
  have F4 : Safe Z own_EL _ h3 b1 := (Safe.ext E3 hH F2)
  have F5 : Safe Z own_EL _ h3 b3 := (Safe.ext E3 hH (Safe.new (Nat.le_of_eq gb3.symm) : Safe Z own_EL _ h1 b3))
  have V_b3 : Arv Z h3 b3 k3 .char (0 : Int32) [] (.int 0) := (Arv.new A3 (by decide)).pad (pad_rep [] (.int 0) 0)
  have K3 : Keep h0 h3 [] := K1.ext E3
  have Z3 : n0 ≤ h3.size := Nat.le_trans Z1 E3.1
  have hk := Nat.le_trans hk E3.1
  have hC := hC.trans (CHr.ext E3 hH)
  have hH := hC.1
  refine own_fw (A' := (T3.setTop (mkF m 11 #[iv p1, iv p2, iv p3, iv p4] [.ref b3, .ref b1, .ref b1]))) (fun t k => st3 _ k) ?_
  obtain ⟨_, _, ⟨T6, L6, k6, n6⟩, -, X6, hS6, gS6, ⟨Lc6, hQ6, l6, y6, z6, r6⟩, st6⟩ := X3.specialBackS hx (y := yq8) rfl hown (mvT hZ (own_w hw 29 rfl)) (mvT hZ (own_w hw 30 rfl)) (mvT hZ (own_w hw 31 rfl)) (by decide) (backOfSH (W := 1) (rmStrA0 l Z a0 hw [] b1 b3 k3 h3 n0 Z3 (A1.ext E3) (F_coder_b1.ext E3) (F_value_b1.ext E3) V_b3 g_b1) hZ (own_w hw 31 rfl) (own_w hw 27 rfl) (by decide) (by decide) (own_EW hw) hH) (g := (mkF m 11 #[iv p1, iv p2, iv p3, iv p4] [.ref b3, .ref b1, .ref b1])) rfl (by rw [hml]; rfl) (Steps.refl _) (a := b1) (argsL := [(.ref b3)]) (rest := [(.ref b1)]) (lenOf pd___C_V rfl) rfl (by show 2 * 0 + _ ≤ _; exact Nat.le_of_eq rfl) (hb hby d5_11) (fun _ _ => ⟨rfl, e3, (by decide : 2 + 4 ≤ _), (by decide : 4 + 8 ≤ _)⟩)
  dsimp only [Pt.U, Pt.locs, Pt.cells, Pt.slots] at X6 l6 y6 z6 st6 hQ6 hS6 gS6 r6
  subst l6 y6 z6
  obtain ⟨X6, hS, hZ', hown⟩ := rebS hS (by rw [e3]; exact hk : _ ≤ T3.heap.size) X6 hS6 gS6 hZ hown
  have hk : T6.heap.size ≤ T6.heap.size := Nat.le_refl _
  obtain ⟨b_6, kb_6, rfl, Nq6, Kq6, Fq6_0, Fq6_1, Fq6_2, Fq6_3⟩ := hQ6
  have Nf6 := Fr.app N0 Nq6
  have F7 : Safe Z own_EL _ T6.heap b1 := (CHr.safe r6 (A1.ext E3).lt F4)
  have F8 : Safe Z own_EL _ T6.heap b3 := (CHr.safe r6 V_b3.lt F5)
  have hC := hC.trans r6
  have hH := hC.1
  have hZ := hZ'
  have K6 : Keep h0 T6.heap [] := K3.trans Kq6 (allS (Or.inr sz_b1) all0)
  have Z6 : n0 ≤ T6.heap.size := Nat.le_trans Z3 Kq6.1
  refine own_fw (A' := (T6.setTop (mkF m 14 #[iv p1, iv p2, iv p3, iv p4] [.ref b1]))) (fun t k => st6.trans k) ?_
  obtain ⟨fs, hr, hrun, hended, hWE⟩ := X6.leaveW hS hk (v := some (.ref b1)) (fun h => by rw [Bd.returns] at h; cases h)
  have hCE : CHr Z own_EL s.vm s.heap (T6.setFrames fs).vm (T6.setFrames fs).heap := by rw [hh]; show CHr Z own_EL s.vm h0 T6.vm T6.heap; exact hC.trans (CHv.at X6 hZ (own_EW hw) hH)
  refine ⟨_, _, ?_, hrun, hended, _, _, rfl, ?_, hCE, own_widen hWE (by decide) (by decide)⟩
  · exact retOut X6 hx Bd.returns rfl (Or.inr (Or.inr (Or.inr (Or.inr ⟨rfl, rfl, rfl⟩)))) (hb hby d5_14) hr
  · show Q_rmDraw0 Z p1 p2 p3 p4 cs h0 n0 _ T6.heap _
    exact ⟨b1, b_6, kb_6, rfl, Nf6, K6, Fq6_0, Fq6_1, Fq6_2, Fq6_3, sz_b1⟩
theorem d5_15 : decode method_3_code 15 = .ok (.iload_n 0, 1) := by decide +kernel
theorem d5_16 : decode method_3_code 16 = .ok (.iconst 1, 1) := by decide +kernel
theorem d5_17 : decode method_3_code 17 = .ok (.if_icmp .ne 18, 3) := by decide +kernel
theorem d5_20 : decode method_3_code 20 = .ok (.new 9, 3) := by decide +kernel
theorem d5_23 : decode method_3_code 23 = .ok (.dup, 1) := by decide +kernel
theorem d5_24 : decode method_3_code 24 = .ok (.iconst 1, 1) := by decide +kernel
theorem d5_25 : decode method_3_code 25 = .ok (.newarray .char, 2) := by decide +kernel
theorem d5_27 : decode method_3_code 27 = .ok (.dup, 1) := by decide +kernel
theorem d5_28 : decode method_3_code 28 = .ok (.iconst 0, 1) := by decide +kernel
theorem d5_29 : decode method_3_code 29 = .ok (.iload_n 1, 1) := by decide +kernel
theorem d5_30 : decode method_3_code 30 = .ok (.castore, 1) := by decide +kernel
theorem d5_31 : decode method_3_code 31 = .ok (.invokespecial 11, 3) := by decide +kernel
theorem d5_34 : decode method_3_code 34 = .ok (.areturn, 1) := by decide +kernel
theorem ef_rmDraw1 (m : MethodId) (p1 p2 p3 p4 : Int32) : entryFrame m #[(.int p1), (.int p2), (.int p3), (.int p4)] 4 = mkF m 0 #[.val (.int p1), .val (.int p2), .val (.int p3), .val (.int p4)] [] := by first | (simp [entryFrame, mkF, argsToLocals, Value.category]; done) | rfl
def Q_rmDraw1 (Z : State) (p1 p2 p3 p4 cs : Int32) (h0 : Heap) (n0 : Nat) (v : Option Value) (h : Heap) (L : List Loc) : Prop := ∃ b : Addr, ∃ sb : Addr, ∃ kb : ClassId, v = some (.ref b) ∧ Fr n0 L ∧ Keep h0 h [] ∧ Exa Z h b "java/lang/String" ∧ Fld Z h b "java/lang/String" "coder" "B" (.int 0) ∧ Fld Z h b "java/lang/String" "value" "[B" (.ref sb) ∧ Arv Z h sb kb .byte (1 : Int32) [(.int (p2.toInt8.toInt32))] (.int 0) ∧ (h0.size ≤ b)
theorem rmDraw1 (l : Launch) (Z : State) (a0 : Array Value) (hw : ∀ d ∈ tables_1, d.before a0 Z = true) (ws : List Jvm.Cond) (p1 p2 p3 p4 cs : Int32) (h0 : Heap) (n0 : Nat) (Z0 : n0 ≤ h0.size) (P0 : Sta Z h0 "java/lang/String" "COMPACT_STRINGS" "Z" (.int cs)) (hcs : ¬ (cs = (0 : Int32))) (P2 : Sta Z h0 "java/lang/StringUTF16" "$assertionsDisabled" "Z" (.int 1)) (P3 : Sta Z h0 "java/lang/StringUTF16" "HI_BYTE_SHIFT" "I" (.int 0)) (P4 : Sta Z h0 "java/lang/StringUTF16" "LO_BYTE_SHIFT" "I" (.int 8)) (m0 : ¬ (p1 = (0 : Int32))) (m1 : p1 = (1 : Int32)) (hp2 : own_c16 p2) (hp3 : own_c16 p3) (hp4 : own_c16 p4) (hc0 : ¬ ((255 : Int32) < p2)) :
    MetFree l yq61 (head1 (Jvm.Cond.code yq61 method_3_code 4 (some (.object "java/lang/String")) :: ws) rq62) (fun a U => a = #[(.int p1), (.int p2), (.int p3), (.int p4)] ∧ Z.Warmed39 U.vm ∧ U.heap = h0) (fun _ _ _ _ _ => True) (fun _ U o U' => ∃ v L, o = .returned v ∧ Q_rmDraw1 Z p1 p2 p3 p4 cs h0 n0 v U'.heap L ∧ FrameEnd U o U' L rq62.cells rq62.slots) := by
  refine MetFree.of_bodySF (plainFor_of_name pn_com_example_spanwise_spanwise_cli_InputFileIsStandardInputPinLaw) hisR ?_
  intro p e s m args below meth c s₁ Bd hml0 hP hK
  obtain ⟨rfl, hZ, hh⟩ := hP
  have hx := Bd.exec
  have hby := Bd.bytes
  have hml : c.maxLocals = 4 := hml0
  have hown : s.vm.findClass "com/example/spanwise/spanwise/cli/InputFileIsStandardInputPinLaw" = some m.cls := findClass_of_methodNamed Bd.named
  have hnm := (name_of_methodNamed Bd.named Bd.method).1
  have X0 : Stand p l e rq62 s m #[(.int p1), (.int p2), (.int p3), (.int p4)] below meth c s₁ [] 0 0 := Stand.of_body Bd
  have e0 : s₁.heap = h0 := by rw [← hh, Bd.state]; rfl
  have N0 := Fr.nil n0
  refine own_fw (A' := (s₁.setTop (mkF m 20 #[iv p1, iv p2, iv p3, iv p4] []))) (fun t k => castTop (ef_rmDraw1 m p1 p2 p3 p4) (XS.iloadN X0.here hx rfl (hb hby d5_0) rfl (XS.ifYes X0.here hx rfl (pc0 := 1) (pc' := 15) rfl (hb hby d5_1) rfl (XT.i0_ne_t m0) (by decide) (by decide) (XS.iloadN X0.here hx rfl (hb hby d5_15) rfl (XS.iconst X0.here hx rfl (hb hby d5_16) (XS.icmpNo X0.here hx rfl (hb hby d5_17) rfl (XT.ii_ne_f m1) k)))))) ?_
  obtain ⟨T1, h1, X1, e1, E1, A1, D1, -, st1⟩ := newO X0 hx hZ hown (own_w hw 25 rfl) (own_w hw 26 rfl) (own_w hw 27 rfl) e0 (g := (mkF m 20 #[iv p1, iv p2, iv p3, iv p4] [])) rfl (hb hby d5_20) (by decide) (by decide)
  obtain ⟨b1, gb1⟩ : ∃ z, z = h0.size := ⟨_, rfl⟩
  have g_b1 : n0 ≤ b1 := Nat.le_trans Z0 (Nat.le_of_eq gb1.symm)
  have sz_b1 : h0.size ≤ b1 := Nat.le_trans (Keep.refl h0 []).1 (Nat.le_of_eq gb1.symm)
  rw [← gb1] at A1 D1 st1
  have F_coder_b1 : Fld Z h1 b1 "java/lang/String" "coder" "B" (.int 0) := D1 (Or.inr (own_w hw 50 rfl)) (ty := .byte) (by decide)
  have F_value_b1 : Fld Z h1 b1 "java/lang/String" "value" "[B" .null := D1 (Or.inr (own_w hw 52 rfl)) (ty := (.array .byte)) (by decide)
  have K1 : Keep h0 h1 [] := (Keep.refl h0 []).ext E1
  have Z1 : n0 ≤ h1.size := Nat.le_trans Z0 E1.1
  refine own_fw (A' := (T1.setTop (mkF m 25 #[iv p1, iv p2, iv p3, iv p4] [.int 1, .ref b1, .ref b1]))) (fun t k => st1 _ (XS.dup X1.here hx rfl (hb hby d5_23) rfl rfl (XS.iconst X1.here hx rfl (hb hby d5_24) k))) ?_
  obtain ⟨T2, h2, k2, X2, e2, E2, A2, st2⟩ := newP X1 hx hZ (own_w hw 28 rfl) e1 (g := (mkF m 25 #[iv p1, iv p2, iv p3, iv p4] [.int 1, .ref b1, .ref b1])) rfl (hb hby d5_25) rfl (by decide) (cap := 1) (by decide) (by decide) (by decide) (by decide)
  obtain ⟨b2, gb2⟩ : ∃ z, z = h1.size := ⟨_, rfl⟩
  have g_b2 : n0 ≤ b2 := Nat.le_trans Z1 (Nat.le_of_eq gb2.symm)
  have sz_b2 : h0.size ≤ b2 := Nat.le_trans K1.1 (Nat.le_of_eq gb2.symm)
  have ne_b1_b2 : b1 ≠ b2 := Nat.ne_of_lt (Nat.lt_of_lt_of_le A1.lt (Nat.le_of_eq gb2.symm))
  rw [← gb2] at A2 st2
  have V_b2 : Arv Z h2 b2 k2 .char (1 : Int32) [(.int 0)] (.int 0) := (Arv.new A2 (by decide)).pad (pad_rep [] (.int 0) 1)
  have K2 : Keep h0 h2 [] := K1.ext E2
  have Z2 : n0 ≤ h2.size := Nat.le_trans Z1 E2.1
  refine own_fw (A' := (T2.setTop (mkF m 30 #[iv p1, iv p2, iv p3, iv p4] [.int p2, .int 0, .ref b2, .ref b2, .ref b1, .ref b1]))) (fun t k => st2 _ (XS.dup X2.here hx rfl (hb hby d5_27) rfl rfl (XS.iconst X2.here hx rfl (hb hby d5_28) (XS.iloadN X2.here hx rfl (hb hby d5_29) rfl k)))) ?_
  obtain ⟨cl3, Ar3, q3, S3, M3, H3, G3⟩ := id V_b2
  have hin3 : ¬ ((0 : Int32) < 0 ∨ cl3.slots.size ≤ ((0 : Int32)).toNatClampNeg) := inb_of S3 ⟨by decide, by decide⟩
  obtain ⟨T3, h3, X3, e3, W3, st3⟩ := stC X2 hx hZ e2 Ar3 (j := (0 : Int32)) hin3 (g := (mkF m 30 #[iv p1, iv p2, iv p3, iv p4] [.int p2, .int 0, .ref b2, .ref b2, .ref b1, .ref b1])) rfl rfl (hb hby d5_30)
  rw [(own_nar16 hp2)] at W3
  have V3 : Arv Z h3 b2 k2 .char (1 : Int32) [(.int p2)] (.int 0) := Arv.set Ar3 q3 S3 M3 H3 G3 (by have q := fits_nar_char p2; rw [own_nar16 hp2] at q; exact q) W3 0 rfl (Nat.le_of_ble_eq_true rfl)
  have Nf3 := Fr.snoc X3 N0 g_b2
  have K3 : Keep h0 h3 [] := K2.wr W3 (Or.inr sz_b2)
  have Z3 : n0 ≤ h3.size := Nat.le_trans Z2 (Keep.of_wr W3).1
  refine own_fw (A' := (T3.setTop (mkF m 31 #[iv p1, iv p2, iv p3, iv p4] [.ref b2, .ref b1, .ref b1]))) (fun t k => st3 _ k) ?_
  obtain ⟨_, _, ⟨T4, L4, k4, n4⟩, -, X4, ⟨Lc4, hQ4, l4, y4, z4⟩, st4⟩ := X3.specialBack hx (y := yq8) rfl hown (mvT hZ (own_w hw 29 rfl)) (mvT hZ (own_w hw 30 rfl)) (mvT hZ (own_w hw 31 rfl)) (by decide) (backOf (W := 1) (rmStrA1 l Z a0 hw [] b1 b2 k2 cs p2 h3 n0 Z3 ((A1.ext E2).wr W3) ((F_coder_b1.ext E2).other W3 (Or.inl ne_b1_b2)) ((F_value_b1.ext E2).other W3 (Or.inl ne_b1_b2)) V3 g_b1 ne_b1_b2 (((P0.ext E1).ext E2).wr W3) hcs hc0) hZ (own_w hw 31 rfl) (own_w hw 27 rfl) (by decide) (by decide)) (g := (mkF m 31 #[iv p1, iv p2, iv p3, iv p4] [.ref b2, .ref b1, .ref b1])) rfl (by rw [hml]; rfl) (Steps.refl _) (a := b1) (argsL := [(.ref b2)]) (rest := [(.ref b1)]) (lenOf pd___C_V rfl) rfl (by show 2 * 0 + _ ≤ _; exact Nat.le_of_eq rfl) (hb hby d5_31) (fun _ _ => ⟨rfl, e3, (by decide : 2 + 1 ≤ _), (by decide : 5 + 1 ≤ _)⟩)
  dsimp only [Pt.U, Pt.locs, Pt.cells, Pt.slots] at X4 l4 y4 z4 st4 hQ4
  subst l4 y4 z4
  obtain ⟨b_4, kb_4, rfl, Nq4, Kq4, Fq4_0, Fq4_1, Fq4_2, Fq4_3⟩ := hQ4
  have Nf4 := Fr.app Nf3 Nq4
  have K4 : Keep h0 T4.heap [] := K3.trans Kq4 (allS (Or.inr sz_b1) all0)
  have Z4 : n0 ≤ T4.heap.size := Nat.le_trans Z3 Kq4.1
  refine own_fw (A' := (T4.setTop (mkF m 34 #[iv p1, iv p2, iv p3, iv p4] [.ref b1]))) (fun t k => st4.trans k) ?_
  obtain ⟨fs, hr, hrun, hended, hW, hsame⟩ := X4.leave (v := some (.ref b1)) (fun h => by rw [Bd.returns] at h; cases h)
  refine ⟨_, _, ?_, hrun, hended, _, _, rfl, ?_, ⟨_, rfl⟩, hW, hsame.mono (by decide) (by decide)⟩
  · exact retOut X4 hx Bd.returns rfl (Or.inr (Or.inr (Or.inr (Or.inr ⟨rfl, rfl, rfl⟩)))) (hb hby d5_34) hr
  · show Q_rmDraw1 Z p1 p2 p3 p4 cs h0 n0 _ T4.heap _
    exact ⟨b1, b_4, kb_4, rfl, Nf4, K4, Fq4_0, Fq4_1, Fq4_2, Fq4_3, sz_b1⟩
theorem ef_rmDraw1_0 (m : MethodId) (p1 p2 p3 p4 : Int32) : entryFrame m #[(.int p1), (.int p2), (.int p3), (.int p4)] 4 = mkF m 0 #[.val (.int p1), .val (.int p2), .val (.int p3), .val (.int p4)] [] := by first | (simp [entryFrame, mkF, argsToLocals, Value.category]; done) | rfl
def Q_rmDraw1_0 (Z : State) (p1 p2 p3 p4 cs : Int32) (h0 : Heap) (n0 : Nat) (v : Option Value) (h : Heap) (L : List Loc) : Prop := ∃ b : Addr, ∃ sb : Addr, ∃ kb : ClassId, v = some (.ref b) ∧ Fr n0 L ∧ Keep h0 h [] ∧ Exa Z h b "java/lang/String" ∧ Fld Z h b "java/lang/String" "coder" "B" (.int 1) ∧ Fld Z h b "java/lang/String" "value" "[B" (.ref sb) ∧ Arv Z h sb kb .byte (2 : Int32) [(.int ((p2 >>> ((0 : Int32) &&& 31)).toInt8.toInt32)), (.int ((p2 >>> ((8 : Int32) &&& 31)).toInt8.toInt32))] (.int 0) ∧ (h0.size ≤ b)
theorem rmDraw1_0 (l : Launch) (Z : State) (a0 : Array Value) (hw : ∀ d ∈ tables_1, d.before a0 Z = true) (ws : List Jvm.Cond) (p1 p2 p3 p4 cs : Int32) (h0 : Heap) (n0 : Nat) (Z0 : n0 ≤ h0.size) (P0 : Sta Z h0 "java/lang/String" "COMPACT_STRINGS" "Z" (.int cs)) (hcs : ¬ (cs = (0 : Int32))) (P2 : Sta Z h0 "java/lang/StringUTF16" "$assertionsDisabled" "Z" (.int 1)) (P3 : Sta Z h0 "java/lang/StringUTF16" "HI_BYTE_SHIFT" "I" (.int 0)) (P4 : Sta Z h0 "java/lang/StringUTF16" "LO_BYTE_SHIFT" "I" (.int 8)) (m0 : ¬ (p1 = (0 : Int32))) (m1 : p1 = (1 : Int32)) (hp2 : own_c16 p2) (hp3 : own_c16 p3) (hp4 : own_c16 p4) (hc0 : (255 : Int32) < p2) :
    MetFree l yq61 (head1 (Jvm.Cond.code yq61 method_3_code 4 (some (.object "java/lang/String")) :: ws) rq63) (fun a U => a = #[(.int p1), (.int p2), (.int p3), (.int p4)] ∧ Z.Warmed39 U.vm ∧ U.heap = h0) (fun _ _ _ _ _ => True) (fun _ U o U' => ∃ v L, o = .returned v ∧ Q_rmDraw1_0 Z p1 p2 p3 p4 cs h0 n0 v U'.heap L ∧ FrameEnd U o U' L rq63.cells rq63.slots) := by
  refine MetFree.of_bodySF (plainFor_of_name pn_com_example_spanwise_spanwise_cli_InputFileIsStandardInputPinLaw) hisR ?_
  intro p e s m args below meth c s₁ Bd hml0 hP hK
  obtain ⟨rfl, hZ, hh⟩ := hP
  have hx := Bd.exec
  have hby := Bd.bytes
  have hml : c.maxLocals = 4 := hml0
  have hown : s.vm.findClass "com/example/spanwise/spanwise/cli/InputFileIsStandardInputPinLaw" = some m.cls := findClass_of_methodNamed Bd.named
  have hnm := (name_of_methodNamed Bd.named Bd.method).1
  have X0 : Stand p l e rq63 s m #[(.int p1), (.int p2), (.int p3), (.int p4)] below meth c s₁ [] 0 0 := Stand.of_body Bd
  have e0 : s₁.heap = h0 := by rw [← hh, Bd.state]; rfl
  have N0 := Fr.nil n0
  refine own_fw (A' := (s₁.setTop (mkF m 20 #[iv p1, iv p2, iv p3, iv p4] []))) (fun t k => castTop (ef_rmDraw1_0 m p1 p2 p3 p4) (XS.iloadN X0.here hx rfl (hb hby d5_0) rfl (XS.ifYes X0.here hx rfl (pc0 := 1) (pc' := 15) rfl (hb hby d5_1) rfl (XT.i0_ne_t m0) (by decide) (by decide) (XS.iloadN X0.here hx rfl (hb hby d5_15) rfl (XS.iconst X0.here hx rfl (hb hby d5_16) (XS.icmpNo X0.here hx rfl (hb hby d5_17) rfl (XT.ii_ne_f m1) k)))))) ?_
  obtain ⟨T1, h1, X1, e1, E1, A1, D1, -, st1⟩ := newO X0 hx hZ hown (own_w hw 25 rfl) (own_w hw 26 rfl) (own_w hw 27 rfl) e0 (g := (mkF m 20 #[iv p1, iv p2, iv p3, iv p4] [])) rfl (hb hby d5_20) (by decide) (by decide)
  obtain ⟨b1, gb1⟩ : ∃ z, z = h0.size := ⟨_, rfl⟩
  have g_b1 : n0 ≤ b1 := Nat.le_trans Z0 (Nat.le_of_eq gb1.symm)
  have sz_b1 : h0.size ≤ b1 := Nat.le_trans (Keep.refl h0 []).1 (Nat.le_of_eq gb1.symm)
  rw [← gb1] at A1 D1 st1
  have F_coder_b1 : Fld Z h1 b1 "java/lang/String" "coder" "B" (.int 0) := D1 (Or.inr (own_w hw 50 rfl)) (ty := .byte) (by decide)
  have F_value_b1 : Fld Z h1 b1 "java/lang/String" "value" "[B" .null := D1 (Or.inr (own_w hw 52 rfl)) (ty := (.array .byte)) (by decide)
  have K1 : Keep h0 h1 [] := (Keep.refl h0 []).ext E1
  have Z1 : n0 ≤ h1.size := Nat.le_trans Z0 E1.1
  refine own_fw (A' := (T1.setTop (mkF m 25 #[iv p1, iv p2, iv p3, iv p4] [.int 1, .ref b1, .ref b1]))) (fun t k => st1 _ (XS.dup X1.here hx rfl (hb hby d5_23) rfl rfl (XS.iconst X1.here hx rfl (hb hby d5_24) k))) ?_
  obtain ⟨T2, h2, k2, X2, e2, E2, A2, st2⟩ := newP X1 hx hZ (own_w hw 28 rfl) e1 (g := (mkF m 25 #[iv p1, iv p2, iv p3, iv p4] [.int 1, .ref b1, .ref b1])) rfl (hb hby d5_25) rfl (by decide) (cap := 1) (by decide) (by decide) (by decide) (by decide)
  obtain ⟨b2, gb2⟩ : ∃ z, z = h1.size := ⟨_, rfl⟩
  have g_b2 : n0 ≤ b2 := Nat.le_trans Z1 (Nat.le_of_eq gb2.symm)
  have sz_b2 : h0.size ≤ b2 := Nat.le_trans K1.1 (Nat.le_of_eq gb2.symm)
  have ne_b1_b2 : b1 ≠ b2 := Nat.ne_of_lt (Nat.lt_of_lt_of_le A1.lt (Nat.le_of_eq gb2.symm))
  rw [← gb2] at A2 st2
  have V_b2 : Arv Z h2 b2 k2 .char (1 : Int32) [(.int 0)] (.int 0) := (Arv.new A2 (by decide)).pad (pad_rep [] (.int 0) 1)
  have K2 : Keep h0 h2 [] := K1.ext E2
  have Z2 : n0 ≤ h2.size := Nat.le_trans Z1 E2.1
  refine own_fw (A' := (T2.setTop (mkF m 30 #[iv p1, iv p2, iv p3, iv p4] [.int p2, .int 0, .ref b2, .ref b2, .ref b1, .ref b1]))) (fun t k => st2 _ (XS.dup X2.here hx rfl (hb hby d5_27) rfl rfl (XS.iconst X2.here hx rfl (hb hby d5_28) (XS.iloadN X2.here hx rfl (hb hby d5_29) rfl k)))) ?_
  obtain ⟨cl3, Ar3, q3, S3, M3, H3, G3⟩ := id V_b2
  have hin3 : ¬ ((0 : Int32) < 0 ∨ cl3.slots.size ≤ ((0 : Int32)).toNatClampNeg) := inb_of S3 ⟨by decide, by decide⟩
  obtain ⟨T3, h3, X3, e3, W3, st3⟩ := stC X2 hx hZ e2 Ar3 (j := (0 : Int32)) hin3 (g := (mkF m 30 #[iv p1, iv p2, iv p3, iv p4] [.int p2, .int 0, .ref b2, .ref b2, .ref b1, .ref b1])) rfl rfl (hb hby d5_30)
  rw [(own_nar16 hp2)] at W3
  have V3 : Arv Z h3 b2 k2 .char (1 : Int32) [(.int p2)] (.int 0) := Arv.set Ar3 q3 S3 M3 H3 G3 (by have q := fits_nar_char p2; rw [own_nar16 hp2] at q; exact q) W3 0 rfl (Nat.le_of_ble_eq_true rfl)
  have Nf3 := Fr.snoc X3 N0 g_b2
  have K3 : Keep h0 h3 [] := K2.wr W3 (Or.inr sz_b2)
  have Z3 : n0 ≤ h3.size := Nat.le_trans Z2 (Keep.of_wr W3).1
  refine own_fw (A' := (T3.setTop (mkF m 31 #[iv p1, iv p2, iv p3, iv p4] [.ref b2, .ref b1, .ref b1]))) (fun t k => st3 _ k) ?_
  obtain ⟨_, _, ⟨T4, L4, k4, n4⟩, -, X4, ⟨Lc4, hQ4, l4, y4, z4⟩, st4⟩ := X3.specialBack hx (y := yq8) rfl hown (mvT hZ (own_w hw 29 rfl)) (mvT hZ (own_w hw 30 rfl)) (mvT hZ (own_w hw 31 rfl)) (by decide) (backOf (W := 1) (rmStrA1_0 l Z a0 hw [] b1 b2 k2 cs p2 h3 n0 Z3 ((A1.ext E2).wr W3) ((F_coder_b1.ext E2).other W3 (Or.inl ne_b1_b2)) ((F_value_b1.ext E2).other W3 (Or.inl ne_b1_b2)) V3 g_b1 ne_b1_b2 (((P0.ext E1).ext E2).wr W3) hcs (((P2.ext E1).ext E2).wr W3) (((P3.ext E1).ext E2).wr W3) (((P4.ext E1).ext E2).wr W3) hc0 hp2) hZ (own_w hw 31 rfl) (own_w hw 27 rfl) (by decide) (by decide)) (g := (mkF m 31 #[iv p1, iv p2, iv p3, iv p4] [.ref b2, .ref b1, .ref b1])) rfl (by rw [hml]; rfl) (Steps.refl _) (a := b1) (argsL := [(.ref b2)]) (rest := [(.ref b1)]) (lenOf pd___C_V rfl) rfl (by show 2 * 0 + _ ≤ _; exact Nat.le_of_eq rfl) (hb hby d5_31) (fun _ _ => ⟨rfl, e3, (by decide : 2 + 2 ≤ _), (by decide : 5 + 3 ≤ _)⟩)
  dsimp only [Pt.U, Pt.locs, Pt.cells, Pt.slots] at X4 l4 y4 z4 st4 hQ4
  subst l4 y4 z4
  obtain ⟨b_4, kb_4, rfl, Nq4, Kq4, Fq4_0, Fq4_1, Fq4_2, Fq4_3⟩ := hQ4
  have Nf4 := Fr.app Nf3 Nq4
  have K4 : Keep h0 T4.heap [] := K3.trans Kq4 (allS (Or.inr sz_b1) all0)
  have Z4 : n0 ≤ T4.heap.size := Nat.le_trans Z3 Kq4.1
  refine own_fw (A' := (T4.setTop (mkF m 34 #[iv p1, iv p2, iv p3, iv p4] [.ref b1]))) (fun t k => st4.trans k) ?_
  obtain ⟨fs, hr, hrun, hended, hW, hsame⟩ := X4.leave (v := some (.ref b1)) (fun h => by rw [Bd.returns] at h; cases h)
  refine ⟨_, _, ?_, hrun, hended, _, _, rfl, ?_, ⟨_, rfl⟩, hW, hsame.mono (by decide) (by decide)⟩
  · exact retOut X4 hx Bd.returns rfl (Or.inr (Or.inr (Or.inr (Or.inr ⟨rfl, rfl, rfl⟩)))) (hb hby d5_34) hr
  · show Q_rmDraw1_0 Z p1 p2 p3 p4 cs h0 n0 _ T4.heap _
    exact ⟨b1, b_4, kb_4, rfl, Nf4, K4, Fq4_0, Fq4_1, Fq4_2, Fq4_3, sz_b1⟩
theorem d5_35 : decode method_3_code 35 = .ok (.iload_n 0, 1) := by decide +kernel
theorem d5_36 : decode method_3_code 36 = .ok (.iconst 2, 1) := by decide +kernel
theorem d5_37 : decode method_3_code 37 = .ok (.if_icmp .ne 22, 3) := by decide +kernel
theorem d5_40 : decode method_3_code 40 = .ok (.new 9, 3) := by decide +kernel
theorem d5_43 : decode method_3_code 43 = .ok (.dup, 1) := by decide +kernel
theorem d5_44 : decode method_3_code 44 = .ok (.iconst 2, 1) := by decide +kernel
theorem d5_45 : decode method_3_code 45 = .ok (.newarray .char, 2) := by decide +kernel
theorem d5_47 : decode method_3_code 47 = .ok (.dup, 1) := by decide +kernel
theorem d5_48 : decode method_3_code 48 = .ok (.iconst 0, 1) := by decide +kernel
theorem d5_49 : decode method_3_code 49 = .ok (.iload_n 1, 1) := by decide +kernel
theorem d5_50 : decode method_3_code 50 = .ok (.castore, 1) := by decide +kernel
theorem d5_51 : decode method_3_code 51 = .ok (.dup, 1) := by decide +kernel
theorem d5_52 : decode method_3_code 52 = .ok (.iconst 1, 1) := by decide +kernel
theorem d5_53 : decode method_3_code 53 = .ok (.iload_n 2, 1) := by decide +kernel
theorem d5_54 : decode method_3_code 54 = .ok (.castore, 1) := by decide +kernel
theorem d5_55 : decode method_3_code 55 = .ok (.invokespecial 11, 3) := by decide +kernel
theorem d5_58 : decode method_3_code 58 = .ok (.areturn, 1) := by decide +kernel
theorem ef_rmDraw2 (m : MethodId) (p1 p2 p3 p4 : Int32) : entryFrame m #[(.int p1), (.int p2), (.int p3), (.int p4)] 4 = mkF m 0 #[.val (.int p1), .val (.int p2), .val (.int p3), .val (.int p4)] [] := by first | (simp [entryFrame, mkF, argsToLocals, Value.category]; done) | rfl
def Q_rmDraw2 (Z : State) (p1 p2 p3 p4 cs : Int32) (h0 : Heap) (n0 : Nat) (v : Option Value) (h : Heap) (L : List Loc) : Prop := ∃ b : Addr, ∃ sb : Addr, ∃ kb : ClassId, v = some (.ref b) ∧ Fr n0 L ∧ Keep h0 h [] ∧ Exa Z h b "java/lang/String" ∧ Fld Z h b "java/lang/String" "coder" "B" (.int 0) ∧ Fld Z h b "java/lang/String" "value" "[B" (.ref sb) ∧ Arv Z h sb kb .byte (2 : Int32) [(.int (p2.toInt8.toInt32)), (.int (p3.toInt8.toInt32))] (.int 0) ∧ (h0.size ≤ b)
theorem rmDraw2 (l : Launch) (Z : State) (a0 : Array Value) (hw : ∀ d ∈ tables_1, d.before a0 Z = true) (ws : List Jvm.Cond) (p1 p2 p3 p4 cs : Int32) (h0 : Heap) (n0 : Nat) (Z0 : n0 ≤ h0.size) (P0 : Sta Z h0 "java/lang/String" "COMPACT_STRINGS" "Z" (.int cs)) (hcs : ¬ (cs = (0 : Int32))) (P2 : Sta Z h0 "java/lang/StringUTF16" "$assertionsDisabled" "Z" (.int 1)) (P3 : Sta Z h0 "java/lang/StringUTF16" "HI_BYTE_SHIFT" "I" (.int 0)) (P4 : Sta Z h0 "java/lang/StringUTF16" "LO_BYTE_SHIFT" "I" (.int 8)) (m0 : ¬ (p1 = (0 : Int32))) (m1 : ¬ (p1 = (1 : Int32))) (m2 : p1 = (2 : Int32)) (hp2 : own_c16 p2) (hp3 : own_c16 p3) (hp4 : own_c16 p4) (hc0 : ¬ ((255 : Int32) < p2)) (hc1 : ¬ ((255 : Int32) < p3)) :
    MetFree l yq61 (head1 (Jvm.Cond.code yq61 method_3_code 4 (some (.object "java/lang/String")) :: ws) rq64) (fun a U => a = #[(.int p1), (.int p2), (.int p3), (.int p4)] ∧ Z.Warmed39 U.vm ∧ U.heap = h0) (fun _ _ _ _ _ => True) (fun _ U o U' => ∃ v L, o = .returned v ∧ Q_rmDraw2 Z p1 p2 p3 p4 cs h0 n0 v U'.heap L ∧ FrameEnd U o U' L rq64.cells rq64.slots) := by
  refine MetFree.of_bodySF (plainFor_of_name pn_com_example_spanwise_spanwise_cli_InputFileIsStandardInputPinLaw) hisR ?_
  intro p e s m args below meth c s₁ Bd hml0 hP hK
  obtain ⟨rfl, hZ, hh⟩ := hP
  have hx := Bd.exec
  have hby := Bd.bytes
  have hml : c.maxLocals = 4 := hml0
  have hown : s.vm.findClass "com/example/spanwise/spanwise/cli/InputFileIsStandardInputPinLaw" = some m.cls := findClass_of_methodNamed Bd.named
  have hnm := (name_of_methodNamed Bd.named Bd.method).1
  have X0 : Stand p l e rq64 s m #[(.int p1), (.int p2), (.int p3), (.int p4)] below meth c s₁ [] 0 0 := Stand.of_body Bd
  have e0 : s₁.heap = h0 := by rw [← hh, Bd.state]; rfl
  have N0 := Fr.nil n0
  refine own_fw (A' := (s₁.setTop (mkF m 40 #[iv p1, iv p2, iv p3, iv p4] []))) (fun t k => castTop (ef_rmDraw2 m p1 p2 p3 p4) (XS.iloadN X0.here hx rfl (hb hby d5_0) rfl (XS.ifYes X0.here hx rfl (pc0 := 1) (pc' := 15) rfl (hb hby d5_1) rfl (XT.i0_ne_t m0) (by decide) (by decide) (XS.iloadN X0.here hx rfl (hb hby d5_15) rfl (XS.iconst X0.here hx rfl (hb hby d5_16) (XS.icmpYes X0.here hx rfl (pc0 := 17) (pc' := 35) rfl (hb hby d5_17) rfl (XT.ii_ne_t m1) (by decide) (by decide) (XS.iloadN X0.here hx rfl (hb hby d5_35) rfl (XS.iconst X0.here hx rfl (hb hby d5_36) (XS.icmpNo X0.here hx rfl (hb hby d5_37) rfl (XT.ii_ne_f m2) k))))))))) ?_
  obtain ⟨T1, h1, X1, e1, E1, A1, D1, -, st1⟩ := newO X0 hx hZ hown (own_w hw 25 rfl) (own_w hw 26 rfl) (own_w hw 27 rfl) e0 (g := (mkF m 40 #[iv p1, iv p2, iv p3, iv p4] [])) rfl (hb hby d5_40) (by decide) (by decide)
  obtain ⟨b1, gb1⟩ : ∃ z, z = h0.size := ⟨_, rfl⟩
  have g_b1 : n0 ≤ b1 := Nat.le_trans Z0 (Nat.le_of_eq gb1.symm)
  have sz_b1 : h0.size ≤ b1 := Nat.le_trans (Keep.refl h0 []).1 (Nat.le_of_eq gb1.symm)
  rw [← gb1] at A1 D1 st1
  have F_coder_b1 : Fld Z h1 b1 "java/lang/String" "coder" "B" (.int 0) := D1 (Or.inr (own_w hw 50 rfl)) (ty := .byte) (by decide)
  have F_value_b1 : Fld Z h1 b1 "java/lang/String" "value" "[B" .null := D1 (Or.inr (own_w hw 52 rfl)) (ty := (.array .byte)) (by decide)
  have K1 : Keep h0 h1 [] := (Keep.refl h0 []).ext E1
  have Z1 : n0 ≤ h1.size := Nat.le_trans Z0 E1.1
  refine own_fw (A' := (T1.setTop (mkF m 45 #[iv p1, iv p2, iv p3, iv p4] [.int 2, .ref b1, .ref b1]))) (fun t k => st1 _ (XS.dup X1.here hx rfl (hb hby d5_43) rfl rfl (XS.iconst X1.here hx rfl (hb hby d5_44) k))) ?_
  obtain ⟨T2, h2, k2, X2, e2, E2, A2, st2⟩ := newP X1 hx hZ (own_w hw 28 rfl) e1 (g := (mkF m 45 #[iv p1, iv p2, iv p3, iv p4] [.int 2, .ref b1, .ref b1])) rfl (hb hby d5_45) rfl (by decide) (cap := 2) (by decide) (by decide) (by decide) (by decide)
  obtain ⟨b2, gb2⟩ : ∃ z, z = h1.size := ⟨_, rfl⟩
  have g_b2 : n0 ≤ b2 := Nat.le_trans Z1 (Nat.le_of_eq gb2.symm)
  have sz_b2 : h0.size ≤ b2 := Nat.le_trans K1.1 (Nat.le_of_eq gb2.symm)
  have ne_b1_b2 : b1 ≠ b2 := Nat.ne_of_lt (Nat.lt_of_lt_of_le A1.lt (Nat.le_of_eq gb2.symm))
  rw [← gb2] at A2 st2
  have V_b2 : Arv Z h2 b2 k2 .char (2 : Int32) [(.int 0), (.int 0)] (.int 0) := (Arv.new A2 (by decide)).pad (pad_rep [] (.int 0) 2)
  have K2 : Keep h0 h2 [] := K1.ext E2
  have Z2 : n0 ≤ h2.size := Nat.le_trans Z1 E2.1
  refine own_fw (A' := (T2.setTop (mkF m 50 #[iv p1, iv p2, iv p3, iv p4] [.int p2, .int 0, .ref b2, .ref b2, .ref b1, .ref b1]))) (fun t k => st2 _ (XS.dup X2.here hx rfl (hb hby d5_47) rfl rfl (XS.iconst X2.here hx rfl (hb hby d5_48) (XS.iloadN X2.here hx rfl (hb hby d5_49) rfl k)))) ?_
  obtain ⟨cl3, Ar3, q3, S3, M3, H3, G3⟩ := id V_b2
  have hin3 : ¬ ((0 : Int32) < 0 ∨ cl3.slots.size ≤ ((0 : Int32)).toNatClampNeg) := inb_of S3 ⟨by decide, by decide⟩
  obtain ⟨T3, h3, X3, e3, W3, st3⟩ := stC X2 hx hZ e2 Ar3 (j := (0 : Int32)) hin3 (g := (mkF m 50 #[iv p1, iv p2, iv p3, iv p4] [.int p2, .int 0, .ref b2, .ref b2, .ref b1, .ref b1])) rfl rfl (hb hby d5_50)
  rw [(own_nar16 hp2)] at W3
  have V3 : Arv Z h3 b2 k2 .char (2 : Int32) [(.int p2), (.int 0)] (.int 0) := Arv.set Ar3 q3 S3 M3 H3 G3 (by have q := fits_nar_char p2; rw [own_nar16 hp2] at q; exact q) W3 0 rfl (Nat.le_of_ble_eq_true rfl)
  have Nf3 := Fr.snoc X3 N0 g_b2
  have K3 : Keep h0 h3 [] := K2.wr W3 (Or.inr sz_b2)
  have Z3 : n0 ≤ h3.size := Nat.le_trans Z2 (Keep.of_wr W3).1
  refine own_fw (A' := (T3.setTop (mkF m 54 #[iv p1, iv p2, iv p3, iv p4] [.int p3, .int 1, .ref b2, .ref b2, .ref b1, .ref b1]))) (fun t k => st3 _ (XS.dup X3.here hx rfl (hb hby d5_51) rfl rfl (XS.iconst X3.here hx rfl (hb hby d5_52) (XS.iloadN X3.here hx rfl (hb hby d5_53) rfl k)))) ?_
  obtain ⟨cl4, Ar4, q4, S4, M4, H4, G4⟩ := id V3
  have hin4 : ¬ ((1 : Int32) < 0 ∨ cl4.slots.size ≤ ((1 : Int32)).toNatClampNeg) := inb_of S4 ⟨by decide, by decide⟩
  obtain ⟨T4, h4, X4, e4, W4, st4⟩ := stC X3 hx hZ e3 Ar4 (j := (1 : Int32)) hin4 (g := (mkF m 54 #[iv p1, iv p2, iv p3, iv p4] [.int p3, .int 1, .ref b2, .ref b2, .ref b1, .ref b1])) rfl rfl (hb hby d5_54)
  rw [(own_nar16 hp3)] at W4
  have V4 : Arv Z h4 b2 k2 .char (2 : Int32) [(.int p2), (.int p3)] (.int 0) := Arv.set Ar4 q4 S4 M4 H4 G4 (by have q := fits_nar_char p3; rw [own_nar16 hp3] at q; exact q) W4 1 rfl (Nat.le_of_ble_eq_true rfl)
  have Nf4 := Fr.snoc X4 Nf3 g_b2
  have K4 : Keep h0 h4 [] := K3.wr W4 (Or.inr sz_b2)
  have Z4 : n0 ≤ h4.size := Nat.le_trans Z3 (Keep.of_wr W4).1
  refine own_fw (A' := (T4.setTop (mkF m 55 #[iv p1, iv p2, iv p3, iv p4] [.ref b2, .ref b1, .ref b1]))) (fun t k => st4 _ k) ?_
  obtain ⟨_, _, ⟨T5, L5, k5, n5⟩, -, X5, ⟨Lc5, hQ5, l5, y5, z5⟩, st5⟩ := X4.specialBack hx (y := yq8) rfl hown (mvT hZ (own_w hw 29 rfl)) (mvT hZ (own_w hw 30 rfl)) (mvT hZ (own_w hw 31 rfl)) (by decide) (backOf (W := 1) (rmStrA2 l Z a0 hw [] b1 b2 k2 cs p2 p3 h4 n0 Z4 (((A1.ext E2).wr W3).wr W4) (((F_coder_b1.ext E2).other W3 (Or.inl ne_b1_b2)).other W4 (Or.inl ne_b1_b2)) (((F_value_b1.ext E2).other W3 (Or.inl ne_b1_b2)).other W4 (Or.inl ne_b1_b2)) V4 g_b1 ne_b1_b2 ((((P0.ext E1).ext E2).wr W3).wr W4) hcs hc0 hc1) hZ (own_w hw 31 rfl) (own_w hw 27 rfl) (by decide) (by decide)) (g := (mkF m 55 #[iv p1, iv p2, iv p3, iv p4] [.ref b2, .ref b1, .ref b1])) rfl (by rw [hml]; rfl) (Steps.refl _) (a := b1) (argsL := [(.ref b2)]) (rest := [(.ref b1)]) (lenOf pd___C_V rfl) rfl (by show 2 * 0 + _ ≤ _; exact Nat.le_of_eq rfl) (hb hby d5_55) (fun _ _ => ⟨rfl, e4, (by decide : 2 + 1 ≤ _), (by decide : 6 + 2 ≤ _)⟩)
  dsimp only [Pt.U, Pt.locs, Pt.cells, Pt.slots] at X5 l5 y5 z5 st5 hQ5
  subst l5 y5 z5
  obtain ⟨b_5, kb_5, rfl, Nq5, Kq5, Fq5_0, Fq5_1, Fq5_2, Fq5_3⟩ := hQ5
  have Nf5 := Fr.app Nf4 Nq5
  have K5 : Keep h0 T5.heap [] := K4.trans Kq5 (allS (Or.inr sz_b1) all0)
  have Z5 : n0 ≤ T5.heap.size := Nat.le_trans Z4 Kq5.1
  refine own_fw (A' := (T5.setTop (mkF m 58 #[iv p1, iv p2, iv p3, iv p4] [.ref b1]))) (fun t k => st5.trans k) ?_
  obtain ⟨fs, hr, hrun, hended, hW, hsame⟩ := X5.leave (v := some (.ref b1)) (fun h => by rw [Bd.returns] at h; cases h)
  refine ⟨_, _, ?_, hrun, hended, _, _, rfl, ?_, ⟨_, rfl⟩, hW, hsame.mono (by decide) (by decide)⟩
  · exact retOut X5 hx Bd.returns rfl (Or.inr (Or.inr (Or.inr (Or.inr ⟨rfl, rfl, rfl⟩)))) (hb hby d5_58) hr
  · show Q_rmDraw2 Z p1 p2 p3 p4 cs h0 n0 _ T5.heap _
    exact ⟨b1, b_5, kb_5, rfl, Nf5, K5, Fq5_0, Fq5_1, Fq5_2, Fq5_3, sz_b1⟩
theorem ef_rmDraw2_0 (m : MethodId) (p1 p2 p3 p4 : Int32) : entryFrame m #[(.int p1), (.int p2), (.int p3), (.int p4)] 4 = mkF m 0 #[.val (.int p1), .val (.int p2), .val (.int p3), .val (.int p4)] [] := by first | (simp [entryFrame, mkF, argsToLocals, Value.category]; done) | rfl
def Q_rmDraw2_0 (Z : State) (p1 p2 p3 p4 cs : Int32) (h0 : Heap) (n0 : Nat) (v : Option Value) (h : Heap) (L : List Loc) : Prop := ∃ b : Addr, ∃ sb : Addr, ∃ kb : ClassId, v = some (.ref b) ∧ Fr n0 L ∧ Keep h0 h [] ∧ Exa Z h b "java/lang/String" ∧ Fld Z h b "java/lang/String" "coder" "B" (.int 1) ∧ Fld Z h b "java/lang/String" "value" "[B" (.ref sb) ∧ Arv Z h sb kb .byte (4 : Int32) [(.int ((p2 >>> ((0 : Int32) &&& 31)).toInt8.toInt32)), (.int ((p2 >>> ((8 : Int32) &&& 31)).toInt8.toInt32)), (.int ((p3 >>> ((0 : Int32) &&& 31)).toInt8.toInt32)), (.int ((p3 >>> ((8 : Int32) &&& 31)).toInt8.toInt32))] (.int 0) ∧ (h0.size ≤ b)
theorem rmDraw2_0 (l : Launch) (Z : State) (a0 : Array Value) (hw : ∀ d ∈ tables_1, d.before a0 Z = true) (ws : List Jvm.Cond) (p1 p2 p3 p4 cs : Int32) (h0 : Heap) (n0 : Nat) (Z0 : n0 ≤ h0.size) (P0 : Sta Z h0 "java/lang/String" "COMPACT_STRINGS" "Z" (.int cs)) (hcs : ¬ (cs = (0 : Int32))) (P2 : Sta Z h0 "java/lang/StringUTF16" "$assertionsDisabled" "Z" (.int 1)) (P3 : Sta Z h0 "java/lang/StringUTF16" "HI_BYTE_SHIFT" "I" (.int 0)) (P4 : Sta Z h0 "java/lang/StringUTF16" "LO_BYTE_SHIFT" "I" (.int 8)) (m0 : ¬ (p1 = (0 : Int32))) (m1 : ¬ (p1 = (1 : Int32))) (m2 : p1 = (2 : Int32)) (hp2 : own_c16 p2) (hp3 : own_c16 p3) (hp4 : own_c16 p4) (hc0 : (255 : Int32) < p2) :
    MetFree l yq61 (head1 (Jvm.Cond.code yq61 method_3_code 4 (some (.object "java/lang/String")) :: ws) rq65) (fun a U => a = #[(.int p1), (.int p2), (.int p3), (.int p4)] ∧ Z.Warmed39 U.vm ∧ U.heap = h0) (fun _ _ _ _ _ => True) (fun _ U o U' => ∃ v L, o = .returned v ∧ Q_rmDraw2_0 Z p1 p2 p3 p4 cs h0 n0 v U'.heap L ∧ FrameEnd U o U' L rq65.cells rq65.slots) := by
  refine MetFree.of_bodySF (plainFor_of_name pn_com_example_spanwise_spanwise_cli_InputFileIsStandardInputPinLaw) hisR ?_
  intro p e s m args below meth c s₁ Bd hml0 hP hK
  obtain ⟨rfl, hZ, hh⟩ := hP
  have hx := Bd.exec
  have hby := Bd.bytes
  have hml : c.maxLocals = 4 := hml0
  have hown : s.vm.findClass "com/example/spanwise/spanwise/cli/InputFileIsStandardInputPinLaw" = some m.cls := findClass_of_methodNamed Bd.named
  have hnm := (name_of_methodNamed Bd.named Bd.method).1
  have X0 : Stand p l e rq65 s m #[(.int p1), (.int p2), (.int p3), (.int p4)] below meth c s₁ [] 0 0 := Stand.of_body Bd
  have e0 : s₁.heap = h0 := by rw [← hh, Bd.state]; rfl
  have N0 := Fr.nil n0
  refine own_fw (A' := (s₁.setTop (mkF m 40 #[iv p1, iv p2, iv p3, iv p4] []))) (fun t k => castTop (ef_rmDraw2_0 m p1 p2 p3 p4) (XS.iloadN X0.here hx rfl (hb hby d5_0) rfl (XS.ifYes X0.here hx rfl (pc0 := 1) (pc' := 15) rfl (hb hby d5_1) rfl (XT.i0_ne_t m0) (by decide) (by decide) (XS.iloadN X0.here hx rfl (hb hby d5_15) rfl (XS.iconst X0.here hx rfl (hb hby d5_16) (XS.icmpYes X0.here hx rfl (pc0 := 17) (pc' := 35) rfl (hb hby d5_17) rfl (XT.ii_ne_t m1) (by decide) (by decide) (XS.iloadN X0.here hx rfl (hb hby d5_35) rfl (XS.iconst X0.here hx rfl (hb hby d5_36) (XS.icmpNo X0.here hx rfl (hb hby d5_37) rfl (XT.ii_ne_f m2) k))))))))) ?_
  obtain ⟨T1, h1, X1, e1, E1, A1, D1, -, st1⟩ := newO X0 hx hZ hown (own_w hw 25 rfl) (own_w hw 26 rfl) (own_w hw 27 rfl) e0 (g := (mkF m 40 #[iv p1, iv p2, iv p3, iv p4] [])) rfl (hb hby d5_40) (by decide) (by decide)
  obtain ⟨b1, gb1⟩ : ∃ z, z = h0.size := ⟨_, rfl⟩
  have g_b1 : n0 ≤ b1 := Nat.le_trans Z0 (Nat.le_of_eq gb1.symm)
  have sz_b1 : h0.size ≤ b1 := Nat.le_trans (Keep.refl h0 []).1 (Nat.le_of_eq gb1.symm)
  rw [← gb1] at A1 D1 st1
  have F_coder_b1 : Fld Z h1 b1 "java/lang/String" "coder" "B" (.int 0) := D1 (Or.inr (own_w hw 50 rfl)) (ty := .byte) (by decide)
  have F_value_b1 : Fld Z h1 b1 "java/lang/String" "value" "[B" .null := D1 (Or.inr (own_w hw 52 rfl)) (ty := (.array .byte)) (by decide)
  have K1 : Keep h0 h1 [] := (Keep.refl h0 []).ext E1
  have Z1 : n0 ≤ h1.size := Nat.le_trans Z0 E1.1
  refine own_fw (A' := (T1.setTop (mkF m 45 #[iv p1, iv p2, iv p3, iv p4] [.int 2, .ref b1, .ref b1]))) (fun t k => st1 _ (XS.dup X1.here hx rfl (hb hby d5_43) rfl rfl (XS.iconst X1.here hx rfl (hb hby d5_44) k))) ?_
  obtain ⟨T2, h2, k2, X2, e2, E2, A2, st2⟩ := newP X1 hx hZ (own_w hw 28 rfl) e1 (g := (mkF m 45 #[iv p1, iv p2, iv p3, iv p4] [.int 2, .ref b1, .ref b1])) rfl (hb hby d5_45) rfl (by decide) (cap := 2) (by decide) (by decide) (by decide) (by decide)
  obtain ⟨b2, gb2⟩ : ∃ z, z = h1.size := ⟨_, rfl⟩
  have g_b2 : n0 ≤ b2 := Nat.le_trans Z1 (Nat.le_of_eq gb2.symm)
  have sz_b2 : h0.size ≤ b2 := Nat.le_trans K1.1 (Nat.le_of_eq gb2.symm)
  have ne_b1_b2 : b1 ≠ b2 := Nat.ne_of_lt (Nat.lt_of_lt_of_le A1.lt (Nat.le_of_eq gb2.symm))
  rw [← gb2] at A2 st2
  have V_b2 : Arv Z h2 b2 k2 .char (2 : Int32) [(.int 0), (.int 0)] (.int 0) := (Arv.new A2 (by decide)).pad (pad_rep [] (.int 0) 2)
  have K2 : Keep h0 h2 [] := K1.ext E2
  have Z2 : n0 ≤ h2.size := Nat.le_trans Z1 E2.1
  refine own_fw (A' := (T2.setTop (mkF m 50 #[iv p1, iv p2, iv p3, iv p4] [.int p2, .int 0, .ref b2, .ref b2, .ref b1, .ref b1]))) (fun t k => st2 _ (XS.dup X2.here hx rfl (hb hby d5_47) rfl rfl (XS.iconst X2.here hx rfl (hb hby d5_48) (XS.iloadN X2.here hx rfl (hb hby d5_49) rfl k)))) ?_
  obtain ⟨cl3, Ar3, q3, S3, M3, H3, G3⟩ := id V_b2
  have hin3 : ¬ ((0 : Int32) < 0 ∨ cl3.slots.size ≤ ((0 : Int32)).toNatClampNeg) := inb_of S3 ⟨by decide, by decide⟩
  obtain ⟨T3, h3, X3, e3, W3, st3⟩ := stC X2 hx hZ e2 Ar3 (j := (0 : Int32)) hin3 (g := (mkF m 50 #[iv p1, iv p2, iv p3, iv p4] [.int p2, .int 0, .ref b2, .ref b2, .ref b1, .ref b1])) rfl rfl (hb hby d5_50)
  rw [(own_nar16 hp2)] at W3
  have V3 : Arv Z h3 b2 k2 .char (2 : Int32) [(.int p2), (.int 0)] (.int 0) := Arv.set Ar3 q3 S3 M3 H3 G3 (by have q := fits_nar_char p2; rw [own_nar16 hp2] at q; exact q) W3 0 rfl (Nat.le_of_ble_eq_true rfl)
  have Nf3 := Fr.snoc X3 N0 g_b2
  have K3 : Keep h0 h3 [] := K2.wr W3 (Or.inr sz_b2)
  have Z3 : n0 ≤ h3.size := Nat.le_trans Z2 (Keep.of_wr W3).1
  refine own_fw (A' := (T3.setTop (mkF m 54 #[iv p1, iv p2, iv p3, iv p4] [.int p3, .int 1, .ref b2, .ref b2, .ref b1, .ref b1]))) (fun t k => st3 _ (XS.dup X3.here hx rfl (hb hby d5_51) rfl rfl (XS.iconst X3.here hx rfl (hb hby d5_52) (XS.iloadN X3.here hx rfl (hb hby d5_53) rfl k)))) ?_
  obtain ⟨cl4, Ar4, q4, S4, M4, H4, G4⟩ := id V3
  have hin4 : ¬ ((1 : Int32) < 0 ∨ cl4.slots.size ≤ ((1 : Int32)).toNatClampNeg) := inb_of S4 ⟨by decide, by decide⟩
  obtain ⟨T4, h4, X4, e4, W4, st4⟩ := stC X3 hx hZ e3 Ar4 (j := (1 : Int32)) hin4 (g := (mkF m 54 #[iv p1, iv p2, iv p3, iv p4] [.int p3, .int 1, .ref b2, .ref b2, .ref b1, .ref b1])) rfl rfl (hb hby d5_54)
  rw [(own_nar16 hp3)] at W4
  have V4 : Arv Z h4 b2 k2 .char (2 : Int32) [(.int p2), (.int p3)] (.int 0) := Arv.set Ar4 q4 S4 M4 H4 G4 (by have q := fits_nar_char p3; rw [own_nar16 hp3] at q; exact q) W4 1 rfl (Nat.le_of_ble_eq_true rfl)
  have Nf4 := Fr.snoc X4 Nf3 g_b2
  have K4 : Keep h0 h4 [] := K3.wr W4 (Or.inr sz_b2)
  have Z4 : n0 ≤ h4.size := Nat.le_trans Z3 (Keep.of_wr W4).1
  refine own_fw (A' := (T4.setTop (mkF m 55 #[iv p1, iv p2, iv p3, iv p4] [.ref b2, .ref b1, .ref b1]))) (fun t k => st4 _ k) ?_
  obtain ⟨_, _, ⟨T5, L5, k5, n5⟩, -, X5, ⟨Lc5, hQ5, l5, y5, z5⟩, st5⟩ := X4.specialBack hx (y := yq8) rfl hown (mvT hZ (own_w hw 29 rfl)) (mvT hZ (own_w hw 30 rfl)) (mvT hZ (own_w hw 31 rfl)) (by decide) (backOf (W := 1) (rmStrA2_0 l Z a0 hw [] b1 b2 k2 cs p2 p3 h4 n0 Z4 (((A1.ext E2).wr W3).wr W4) (((F_coder_b1.ext E2).other W3 (Or.inl ne_b1_b2)).other W4 (Or.inl ne_b1_b2)) (((F_value_b1.ext E2).other W3 (Or.inl ne_b1_b2)).other W4 (Or.inl ne_b1_b2)) V4 g_b1 ne_b1_b2 ((((P0.ext E1).ext E2).wr W3).wr W4) hcs ((((P2.ext E1).ext E2).wr W3).wr W4) ((((P3.ext E1).ext E2).wr W3).wr W4) ((((P4.ext E1).ext E2).wr W3).wr W4) hc0 hp2) hZ (own_w hw 31 rfl) (own_w hw 27 rfl) (by decide) (by decide)) (g := (mkF m 55 #[iv p1, iv p2, iv p3, iv p4] [.ref b2, .ref b1, .ref b1])) rfl (by rw [hml]; rfl) (Steps.refl _) (a := b1) (argsL := [(.ref b2)]) (rest := [(.ref b1)]) (lenOf pd___C_V rfl) rfl (by show 2 * 0 + _ ≤ _; exact Nat.le_of_eq rfl) (hb hby d5_55) (fun _ _ => ⟨rfl, e4, (by decide : 2 + 2 ≤ _), (by decide : 6 + 6 ≤ _)⟩)
  dsimp only [Pt.U, Pt.locs, Pt.cells, Pt.slots] at X5 l5 y5 z5 st5 hQ5
  subst l5 y5 z5
  obtain ⟨b_5, kb_5, rfl, Nq5, Kq5, Fq5_0, Fq5_1, Fq5_2, Fq5_3⟩ := hQ5
  have Nf5 := Fr.app Nf4 Nq5
  have K5 : Keep h0 T5.heap [] := K4.trans Kq5 (allS (Or.inr sz_b1) all0)
  have Z5 : n0 ≤ T5.heap.size := Nat.le_trans Z4 Kq5.1
  refine own_fw (A' := (T5.setTop (mkF m 58 #[iv p1, iv p2, iv p3, iv p4] [.ref b1]))) (fun t k => st5.trans k) ?_
  obtain ⟨fs, hr, hrun, hended, hW, hsame⟩ := X5.leave (v := some (.ref b1)) (fun h => by rw [Bd.returns] at h; cases h)
  refine ⟨_, _, ?_, hrun, hended, _, _, rfl, ?_, ⟨_, rfl⟩, hW, hsame.mono (by decide) (by decide)⟩
  · exact retOut X5 hx Bd.returns rfl (Or.inr (Or.inr (Or.inr (Or.inr ⟨rfl, rfl, rfl⟩)))) (hb hby d5_58) hr
  · show Q_rmDraw2_0 Z p1 p2 p3 p4 cs h0 n0 _ T5.heap _
    exact ⟨b1, b_5, kb_5, rfl, Nf5, K5, Fq5_0, Fq5_1, Fq5_2, Fq5_3, sz_b1⟩
theorem ef_rmDraw2_1 (m : MethodId) (p1 p2 p3 p4 : Int32) : entryFrame m #[(.int p1), (.int p2), (.int p3), (.int p4)] 4 = mkF m 0 #[.val (.int p1), .val (.int p2), .val (.int p3), .val (.int p4)] [] := by first | (simp [entryFrame, mkF, argsToLocals, Value.category]; done) | rfl
def Q_rmDraw2_1 (Z : State) (p1 p2 p3 p4 cs : Int32) (h0 : Heap) (n0 : Nat) (v : Option Value) (h : Heap) (L : List Loc) : Prop := ∃ b : Addr, ∃ sb : Addr, ∃ kb : ClassId, v = some (.ref b) ∧ Fr n0 L ∧ Keep h0 h [] ∧ Exa Z h b "java/lang/String" ∧ Fld Z h b "java/lang/String" "coder" "B" (.int 1) ∧ Fld Z h b "java/lang/String" "value" "[B" (.ref sb) ∧ Arv Z h sb kb .byte (4 : Int32) [(.int ((p2 >>> ((0 : Int32) &&& 31)).toInt8.toInt32)), (.int ((p2 >>> ((8 : Int32) &&& 31)).toInt8.toInt32)), (.int ((p3 >>> ((0 : Int32) &&& 31)).toInt8.toInt32)), (.int ((p3 >>> ((8 : Int32) &&& 31)).toInt8.toInt32))] (.int 0) ∧ (h0.size ≤ b)
theorem rmDraw2_1 (l : Launch) (Z : State) (a0 : Array Value) (hw : ∀ d ∈ tables_1, d.before a0 Z = true) (ws : List Jvm.Cond) (p1 p2 p3 p4 cs : Int32) (h0 : Heap) (n0 : Nat) (Z0 : n0 ≤ h0.size) (P0 : Sta Z h0 "java/lang/String" "COMPACT_STRINGS" "Z" (.int cs)) (hcs : ¬ (cs = (0 : Int32))) (P2 : Sta Z h0 "java/lang/StringUTF16" "$assertionsDisabled" "Z" (.int 1)) (P3 : Sta Z h0 "java/lang/StringUTF16" "HI_BYTE_SHIFT" "I" (.int 0)) (P4 : Sta Z h0 "java/lang/StringUTF16" "LO_BYTE_SHIFT" "I" (.int 8)) (m0 : ¬ (p1 = (0 : Int32))) (m1 : ¬ (p1 = (1 : Int32))) (m2 : p1 = (2 : Int32)) (hp2 : own_c16 p2) (hp3 : own_c16 p3) (hp4 : own_c16 p4) (hc0 : ¬ ((255 : Int32) < p2)) (hc1 : (255 : Int32) < p3) :
    MetFree l yq61 (head1 (Jvm.Cond.code yq61 method_3_code 4 (some (.object "java/lang/String")) :: ws) rq65) (fun a U => a = #[(.int p1), (.int p2), (.int p3), (.int p4)] ∧ Z.Warmed39 U.vm ∧ U.heap = h0) (fun _ _ _ _ _ => True) (fun _ U o U' => ∃ v L, o = .returned v ∧ Q_rmDraw2_1 Z p1 p2 p3 p4 cs h0 n0 v U'.heap L ∧ FrameEnd U o U' L rq65.cells rq65.slots) := by
  refine MetFree.of_bodySF (plainFor_of_name pn_com_example_spanwise_spanwise_cli_InputFileIsStandardInputPinLaw) hisR ?_
  intro p e s m args below meth c s₁ Bd hml0 hP hK
  obtain ⟨rfl, hZ, hh⟩ := hP
  have hx := Bd.exec
  have hby := Bd.bytes
  have hml : c.maxLocals = 4 := hml0
  have hown : s.vm.findClass "com/example/spanwise/spanwise/cli/InputFileIsStandardInputPinLaw" = some m.cls := findClass_of_methodNamed Bd.named
  have hnm := (name_of_methodNamed Bd.named Bd.method).1
  have X0 : Stand p l e rq65 s m #[(.int p1), (.int p2), (.int p3), (.int p4)] below meth c s₁ [] 0 0 := Stand.of_body Bd
  have e0 : s₁.heap = h0 := by rw [← hh, Bd.state]; rfl
  have N0 := Fr.nil n0
  refine own_fw (A' := (s₁.setTop (mkF m 40 #[iv p1, iv p2, iv p3, iv p4] []))) (fun t k => castTop (ef_rmDraw2_1 m p1 p2 p3 p4) (XS.iloadN X0.here hx rfl (hb hby d5_0) rfl (XS.ifYes X0.here hx rfl (pc0 := 1) (pc' := 15) rfl (hb hby d5_1) rfl (XT.i0_ne_t m0) (by decide) (by decide) (XS.iloadN X0.here hx rfl (hb hby d5_15) rfl (XS.iconst X0.here hx rfl (hb hby d5_16) (XS.icmpYes X0.here hx rfl (pc0 := 17) (pc' := 35) rfl (hb hby d5_17) rfl (XT.ii_ne_t m1) (by decide) (by decide) (XS.iloadN X0.here hx rfl (hb hby d5_35) rfl (XS.iconst X0.here hx rfl (hb hby d5_36) (XS.icmpNo X0.here hx rfl (hb hby d5_37) rfl (XT.ii_ne_f m2) k))))))))) ?_
  obtain ⟨T1, h1, X1, e1, E1, A1, D1, -, st1⟩ := newO X0 hx hZ hown (own_w hw 25 rfl) (own_w hw 26 rfl) (own_w hw 27 rfl) e0 (g := (mkF m 40 #[iv p1, iv p2, iv p3, iv p4] [])) rfl (hb hby d5_40) (by decide) (by decide)
  obtain ⟨b1, gb1⟩ : ∃ z, z = h0.size := ⟨_, rfl⟩
  have g_b1 : n0 ≤ b1 := Nat.le_trans Z0 (Nat.le_of_eq gb1.symm)
  have sz_b1 : h0.size ≤ b1 := Nat.le_trans (Keep.refl h0 []).1 (Nat.le_of_eq gb1.symm)
  rw [← gb1] at A1 D1 st1
  have F_coder_b1 : Fld Z h1 b1 "java/lang/String" "coder" "B" (.int 0) := D1 (Or.inr (own_w hw 50 rfl)) (ty := .byte) (by decide)
  have F_value_b1 : Fld Z h1 b1 "java/lang/String" "value" "[B" .null := D1 (Or.inr (own_w hw 52 rfl)) (ty := (.array .byte)) (by decide)
  have K1 : Keep h0 h1 [] := (Keep.refl h0 []).ext E1
  have Z1 : n0 ≤ h1.size := Nat.le_trans Z0 E1.1
  refine own_fw (A' := (T1.setTop (mkF m 45 #[iv p1, iv p2, iv p3, iv p4] [.int 2, .ref b1, .ref b1]))) (fun t k => st1 _ (XS.dup X1.here hx rfl (hb hby d5_43) rfl rfl (XS.iconst X1.here hx rfl (hb hby d5_44) k))) ?_
  obtain ⟨T2, h2, k2, X2, e2, E2, A2, st2⟩ := newP X1 hx hZ (own_w hw 28 rfl) e1 (g := (mkF m 45 #[iv p1, iv p2, iv p3, iv p4] [.int 2, .ref b1, .ref b1])) rfl (hb hby d5_45) rfl (by decide) (cap := 2) (by decide) (by decide) (by decide) (by decide)
  obtain ⟨b2, gb2⟩ : ∃ z, z = h1.size := ⟨_, rfl⟩
  have g_b2 : n0 ≤ b2 := Nat.le_trans Z1 (Nat.le_of_eq gb2.symm)
  have sz_b2 : h0.size ≤ b2 := Nat.le_trans K1.1 (Nat.le_of_eq gb2.symm)
  have ne_b1_b2 : b1 ≠ b2 := Nat.ne_of_lt (Nat.lt_of_lt_of_le A1.lt (Nat.le_of_eq gb2.symm))
  rw [← gb2] at A2 st2
  have V_b2 : Arv Z h2 b2 k2 .char (2 : Int32) [(.int 0), (.int 0)] (.int 0) := (Arv.new A2 (by decide)).pad (pad_rep [] (.int 0) 2)
  have K2 : Keep h0 h2 [] := K1.ext E2
  have Z2 : n0 ≤ h2.size := Nat.le_trans Z1 E2.1
  refine own_fw (A' := (T2.setTop (mkF m 50 #[iv p1, iv p2, iv p3, iv p4] [.int p2, .int 0, .ref b2, .ref b2, .ref b1, .ref b1]))) (fun t k => st2 _ (XS.dup X2.here hx rfl (hb hby d5_47) rfl rfl (XS.iconst X2.here hx rfl (hb hby d5_48) (XS.iloadN X2.here hx rfl (hb hby d5_49) rfl k)))) ?_
  obtain ⟨cl3, Ar3, q3, S3, M3, H3, G3⟩ := id V_b2
  have hin3 : ¬ ((0 : Int32) < 0 ∨ cl3.slots.size ≤ ((0 : Int32)).toNatClampNeg) := inb_of S3 ⟨by decide, by decide⟩
  obtain ⟨T3, h3, X3, e3, W3, st3⟩ := stC X2 hx hZ e2 Ar3 (j := (0 : Int32)) hin3 (g := (mkF m 50 #[iv p1, iv p2, iv p3, iv p4] [.int p2, .int 0, .ref b2, .ref b2, .ref b1, .ref b1])) rfl rfl (hb hby d5_50)
  rw [(own_nar16 hp2)] at W3
  have V3 : Arv Z h3 b2 k2 .char (2 : Int32) [(.int p2), (.int 0)] (.int 0) := Arv.set Ar3 q3 S3 M3 H3 G3 (by have q := fits_nar_char p2; rw [own_nar16 hp2] at q; exact q) W3 0 rfl (Nat.le_of_ble_eq_true rfl)
  have Nf3 := Fr.snoc X3 N0 g_b2
  have K3 : Keep h0 h3 [] := K2.wr W3 (Or.inr sz_b2)
  have Z3 : n0 ≤ h3.size := Nat.le_trans Z2 (Keep.of_wr W3).1
  refine own_fw (A' := (T3.setTop (mkF m 54 #[iv p1, iv p2, iv p3, iv p4] [.int p3, .int 1, .ref b2, .ref b2, .ref b1, .ref b1]))) (fun t k => st3 _ (XS.dup X3.here hx rfl (hb hby d5_51) rfl rfl (XS.iconst X3.here hx rfl (hb hby d5_52) (XS.iloadN X3.here hx rfl (hb hby d5_53) rfl k)))) ?_
  obtain ⟨cl4, Ar4, q4, S4, M4, H4, G4⟩ := id V3
  have hin4 : ¬ ((1 : Int32) < 0 ∨ cl4.slots.size ≤ ((1 : Int32)).toNatClampNeg) := inb_of S4 ⟨by decide, by decide⟩
  obtain ⟨T4, h4, X4, e4, W4, st4⟩ := stC X3 hx hZ e3 Ar4 (j := (1 : Int32)) hin4 (g := (mkF m 54 #[iv p1, iv p2, iv p3, iv p4] [.int p3, .int 1, .ref b2, .ref b2, .ref b1, .ref b1])) rfl rfl (hb hby d5_54)
  rw [(own_nar16 hp3)] at W4
  have V4 : Arv Z h4 b2 k2 .char (2 : Int32) [(.int p2), (.int p3)] (.int 0) := Arv.set Ar4 q4 S4 M4 H4 G4 (by have q := fits_nar_char p3; rw [own_nar16 hp3] at q; exact q) W4 1 rfl (Nat.le_of_ble_eq_true rfl)
  have Nf4 := Fr.snoc X4 Nf3 g_b2
  have K4 : Keep h0 h4 [] := K3.wr W4 (Or.inr sz_b2)
  have Z4 : n0 ≤ h4.size := Nat.le_trans Z3 (Keep.of_wr W4).1
  refine own_fw (A' := (T4.setTop (mkF m 55 #[iv p1, iv p2, iv p3, iv p4] [.ref b2, .ref b1, .ref b1]))) (fun t k => st4 _ k) ?_
  obtain ⟨_, _, ⟨T5, L5, k5, n5⟩, -, X5, ⟨Lc5, hQ5, l5, y5, z5⟩, st5⟩ := X4.specialBack hx (y := yq8) rfl hown (mvT hZ (own_w hw 29 rfl)) (mvT hZ (own_w hw 30 rfl)) (mvT hZ (own_w hw 31 rfl)) (by decide) (backOf (W := 1) (rmStrA2_1 l Z a0 hw [] b1 b2 k2 cs p2 p3 h4 n0 Z4 (((A1.ext E2).wr W3).wr W4) (((F_coder_b1.ext E2).other W3 (Or.inl ne_b1_b2)).other W4 (Or.inl ne_b1_b2)) (((F_value_b1.ext E2).other W3 (Or.inl ne_b1_b2)).other W4 (Or.inl ne_b1_b2)) V4 g_b1 ne_b1_b2 ((((P0.ext E1).ext E2).wr W3).wr W4) hcs ((((P2.ext E1).ext E2).wr W3).wr W4) ((((P3.ext E1).ext E2).wr W3).wr W4) ((((P4.ext E1).ext E2).wr W3).wr W4) hc0 hc1 hp3) hZ (own_w hw 31 rfl) (own_w hw 27 rfl) (by decide) (by decide)) (g := (mkF m 55 #[iv p1, iv p2, iv p3, iv p4] [.ref b2, .ref b1, .ref b1])) rfl (by rw [hml]; rfl) (Steps.refl _) (a := b1) (argsL := [(.ref b2)]) (rest := [(.ref b1)]) (lenOf pd___C_V rfl) rfl (by show 2 * 0 + _ ≤ _; exact Nat.le_of_eq rfl) (hb hby d5_55) (fun _ _ => ⟨rfl, e4, (by decide : 2 + 2 ≤ _), (by decide : 6 + 6 ≤ _)⟩)
  dsimp only [Pt.U, Pt.locs, Pt.cells, Pt.slots] at X5 l5 y5 z5 st5 hQ5
  subst l5 y5 z5
  obtain ⟨b_5, kb_5, rfl, Nq5, Kq5, Fq5_0, Fq5_1, Fq5_2, Fq5_3⟩ := hQ5
  have Nf5 := Fr.app Nf4 Nq5
  have K5 : Keep h0 T5.heap [] := K4.trans Kq5 (allS (Or.inr sz_b1) all0)
  have Z5 : n0 ≤ T5.heap.size := Nat.le_trans Z4 Kq5.1
  refine own_fw (A' := (T5.setTop (mkF m 58 #[iv p1, iv p2, iv p3, iv p4] [.ref b1]))) (fun t k => st5.trans k) ?_
  obtain ⟨fs, hr, hrun, hended, hW, hsame⟩ := X5.leave (v := some (.ref b1)) (fun h => by rw [Bd.returns] at h; cases h)
  refine ⟨_, _, ?_, hrun, hended, _, _, rfl, ?_, ⟨_, rfl⟩, hW, hsame.mono (by decide) (by decide)⟩
  · exact retOut X5 hx Bd.returns rfl (Or.inr (Or.inr (Or.inr (Or.inr ⟨rfl, rfl, rfl⟩)))) (hb hby d5_58) hr
  · show Q_rmDraw2_1 Z p1 p2 p3 p4 cs h0 n0 _ T5.heap _
    exact ⟨b1, b_5, kb_5, rfl, Nf5, K5, Fq5_0, Fq5_1, Fq5_2, Fq5_3, sz_b1⟩
theorem d5_59 : decode method_3_code 59 = .ok (.new 9, 3) := by decide +kernel
theorem d5_62 : decode method_3_code 62 = .ok (.dup, 1) := by decide +kernel
theorem d5_63 : decode method_3_code 63 = .ok (.iconst 3, 1) := by decide +kernel
theorem d5_64 : decode method_3_code 64 = .ok (.newarray .char, 2) := by decide +kernel
theorem d5_66 : decode method_3_code 66 = .ok (.dup, 1) := by decide +kernel
theorem d5_67 : decode method_3_code 67 = .ok (.iconst 0, 1) := by decide +kernel
theorem d5_68 : decode method_3_code 68 = .ok (.iload_n 1, 1) := by decide +kernel
theorem d5_69 : decode method_3_code 69 = .ok (.castore, 1) := by decide +kernel
theorem d5_70 : decode method_3_code 70 = .ok (.dup, 1) := by decide +kernel
theorem d5_71 : decode method_3_code 71 = .ok (.iconst 1, 1) := by decide +kernel
theorem d5_72 : decode method_3_code 72 = .ok (.iload_n 2, 1) := by decide +kernel
theorem d5_73 : decode method_3_code 73 = .ok (.castore, 1) := by decide +kernel
theorem d5_74 : decode method_3_code 74 = .ok (.dup, 1) := by decide +kernel
theorem d5_75 : decode method_3_code 75 = .ok (.iconst 2, 1) := by decide +kernel
theorem d5_76 : decode method_3_code 76 = .ok (.iload_n 3, 1) := by decide +kernel
theorem d5_77 : decode method_3_code 77 = .ok (.castore, 1) := by decide +kernel
theorem d5_78 : decode method_3_code 78 = .ok (.invokespecial 11, 3) := by decide +kernel
theorem d5_81 : decode method_3_code 81 = .ok (.areturn, 1) := by decide +kernel
theorem ef_rmDraw3 (m : MethodId) (p1 p2 p3 p4 : Int32) : entryFrame m #[(.int p1), (.int p2), (.int p3), (.int p4)] 4 = mkF m 0 #[.val (.int p1), .val (.int p2), .val (.int p3), .val (.int p4)] [] := by first | (simp [entryFrame, mkF, argsToLocals, Value.category]; done) | rfl
def Q_rmDraw3 (Z : State) (p1 p2 p3 p4 cs : Int32) (h0 : Heap) (n0 : Nat) (v : Option Value) (h : Heap) (L : List Loc) : Prop := ∃ b : Addr, ∃ sb : Addr, ∃ kb : ClassId, v = some (.ref b) ∧ Fr n0 L ∧ Keep h0 h [] ∧ Exa Z h b "java/lang/String" ∧ Fld Z h b "java/lang/String" "coder" "B" (.int 0) ∧ Fld Z h b "java/lang/String" "value" "[B" (.ref sb) ∧ Arv Z h sb kb .byte (3 : Int32) [(.int (p2.toInt8.toInt32)), (.int (p3.toInt8.toInt32)), (.int (p4.toInt8.toInt32))] (.int 0) ∧ (h0.size ≤ b)
theorem rmDraw3 (l : Launch) (Z : State) (a0 : Array Value) (hw : ∀ d ∈ tables_1, d.before a0 Z = true) (ws : List Jvm.Cond) (p1 p2 p3 p4 cs : Int32) (h0 : Heap) (n0 : Nat) (Z0 : n0 ≤ h0.size) (P0 : Sta Z h0 "java/lang/String" "COMPACT_STRINGS" "Z" (.int cs)) (hcs : ¬ (cs = (0 : Int32))) (P2 : Sta Z h0 "java/lang/StringUTF16" "$assertionsDisabled" "Z" (.int 1)) (P3 : Sta Z h0 "java/lang/StringUTF16" "HI_BYTE_SHIFT" "I" (.int 0)) (P4 : Sta Z h0 "java/lang/StringUTF16" "LO_BYTE_SHIFT" "I" (.int 8)) (m0 : ¬ (p1 = (0 : Int32))) (m1 : ¬ (p1 = (1 : Int32))) (m2 : ¬ (p1 = (2 : Int32))) (hp2 : own_c16 p2) (hp3 : own_c16 p3) (hp4 : own_c16 p4) (hc0 : ¬ ((255 : Int32) < p2)) (hc1 : ¬ ((255 : Int32) < p3)) (hc2 : ¬ ((255 : Int32) < p4)) :
    MetFree l yq61 (head1 (Jvm.Cond.code yq61 method_3_code 4 (some (.object "java/lang/String")) :: ws) rq66) (fun a U => a = #[(.int p1), (.int p2), (.int p3), (.int p4)] ∧ Z.Warmed39 U.vm ∧ U.heap = h0) (fun _ _ _ _ _ => True) (fun _ U o U' => ∃ v L, o = .returned v ∧ Q_rmDraw3 Z p1 p2 p3 p4 cs h0 n0 v U'.heap L ∧ FrameEnd U o U' L rq66.cells rq66.slots) := by
  refine MetFree.of_bodySF (plainFor_of_name pn_com_example_spanwise_spanwise_cli_InputFileIsStandardInputPinLaw) hisR ?_
  intro p e s m args below meth c s₁ Bd hml0 hP hK
  obtain ⟨rfl, hZ, hh⟩ := hP
  have hx := Bd.exec
  have hby := Bd.bytes
  have hml : c.maxLocals = 4 := hml0
  have hown : s.vm.findClass "com/example/spanwise/spanwise/cli/InputFileIsStandardInputPinLaw" = some m.cls := findClass_of_methodNamed Bd.named
  have hnm := (name_of_methodNamed Bd.named Bd.method).1
  have X0 : Stand p l e rq66 s m #[(.int p1), (.int p2), (.int p3), (.int p4)] below meth c s₁ [] 0 0 := Stand.of_body Bd
  have e0 : s₁.heap = h0 := by rw [← hh, Bd.state]; rfl
  have N0 := Fr.nil n0
  refine own_fw (A' := (s₁.setTop (mkF m 59 #[iv p1, iv p2, iv p3, iv p4] []))) (fun t k => castTop (ef_rmDraw3 m p1 p2 p3 p4) (XS.iloadN X0.here hx rfl (hb hby d5_0) rfl (XS.ifYes X0.here hx rfl (pc0 := 1) (pc' := 15) rfl (hb hby d5_1) rfl (XT.i0_ne_t m0) (by decide) (by decide) (XS.iloadN X0.here hx rfl (hb hby d5_15) rfl (XS.iconst X0.here hx rfl (hb hby d5_16) (XS.icmpYes X0.here hx rfl (pc0 := 17) (pc' := 35) rfl (hb hby d5_17) rfl (XT.ii_ne_t m1) (by decide) (by decide) (XS.iloadN X0.here hx rfl (hb hby d5_35) rfl (XS.iconst X0.here hx rfl (hb hby d5_36) (XS.icmpYes X0.here hx rfl (pc0 := 37) (pc' := 59) rfl (hb hby d5_37) rfl (XT.ii_ne_t m2) (by decide) (by decide) k))))))))) ?_
  obtain ⟨T1, h1, X1, e1, E1, A1, D1, -, st1⟩ := newO X0 hx hZ hown (own_w hw 25 rfl) (own_w hw 26 rfl) (own_w hw 27 rfl) e0 (g := (mkF m 59 #[iv p1, iv p2, iv p3, iv p4] [])) rfl (hb hby d5_59) (by decide) (by decide)
  obtain ⟨b1, gb1⟩ : ∃ z, z = h0.size := ⟨_, rfl⟩
  have g_b1 : n0 ≤ b1 := Nat.le_trans Z0 (Nat.le_of_eq gb1.symm)
  have sz_b1 : h0.size ≤ b1 := Nat.le_trans (Keep.refl h0 []).1 (Nat.le_of_eq gb1.symm)
  rw [← gb1] at A1 D1 st1
  have F_coder_b1 : Fld Z h1 b1 "java/lang/String" "coder" "B" (.int 0) := D1 (Or.inr (own_w hw 50 rfl)) (ty := .byte) (by decide)
  have F_value_b1 : Fld Z h1 b1 "java/lang/String" "value" "[B" .null := D1 (Or.inr (own_w hw 52 rfl)) (ty := (.array .byte)) (by decide)
  have K1 : Keep h0 h1 [] := (Keep.refl h0 []).ext E1
  have Z1 : n0 ≤ h1.size := Nat.le_trans Z0 E1.1
  refine own_fw (A' := (T1.setTop (mkF m 64 #[iv p1, iv p2, iv p3, iv p4] [.int 3, .ref b1, .ref b1]))) (fun t k => st1 _ (XS.dup X1.here hx rfl (hb hby d5_62) rfl rfl (XS.iconst X1.here hx rfl (hb hby d5_63) k))) ?_
  obtain ⟨T2, h2, k2, X2, e2, E2, A2, st2⟩ := newP X1 hx hZ (own_w hw 28 rfl) e1 (g := (mkF m 64 #[iv p1, iv p2, iv p3, iv p4] [.int 3, .ref b1, .ref b1])) rfl (hb hby d5_64) rfl (by decide) (cap := 3) (by decide) (by decide) (by decide) (by decide)
  obtain ⟨b2, gb2⟩ : ∃ z, z = h1.size := ⟨_, rfl⟩
  have g_b2 : n0 ≤ b2 := Nat.le_trans Z1 (Nat.le_of_eq gb2.symm)
  have sz_b2 : h0.size ≤ b2 := Nat.le_trans K1.1 (Nat.le_of_eq gb2.symm)
  have ne_b1_b2 : b1 ≠ b2 := Nat.ne_of_lt (Nat.lt_of_lt_of_le A1.lt (Nat.le_of_eq gb2.symm))
  rw [← gb2] at A2 st2
  have V_b2 : Arv Z h2 b2 k2 .char (3 : Int32) [(.int 0), (.int 0), (.int 0)] (.int 0) := (Arv.new A2 (by decide)).pad (pad_rep [] (.int 0) 3)
  have K2 : Keep h0 h2 [] := K1.ext E2
  have Z2 : n0 ≤ h2.size := Nat.le_trans Z1 E2.1
  refine own_fw (A' := (T2.setTop (mkF m 69 #[iv p1, iv p2, iv p3, iv p4] [.int p2, .int 0, .ref b2, .ref b2, .ref b1, .ref b1]))) (fun t k => st2 _ (XS.dup X2.here hx rfl (hb hby d5_66) rfl rfl (XS.iconst X2.here hx rfl (hb hby d5_67) (XS.iloadN X2.here hx rfl (hb hby d5_68) rfl k)))) ?_
  obtain ⟨cl3, Ar3, q3, S3, M3, H3, G3⟩ := id V_b2
  have hin3 : ¬ ((0 : Int32) < 0 ∨ cl3.slots.size ≤ ((0 : Int32)).toNatClampNeg) := inb_of S3 ⟨by decide, by decide⟩
  obtain ⟨T3, h3, X3, e3, W3, st3⟩ := stC X2 hx hZ e2 Ar3 (j := (0 : Int32)) hin3 (g := (mkF m 69 #[iv p1, iv p2, iv p3, iv p4] [.int p2, .int 0, .ref b2, .ref b2, .ref b1, .ref b1])) rfl rfl (hb hby d5_69)
  rw [(own_nar16 hp2)] at W3
  have V3 : Arv Z h3 b2 k2 .char (3 : Int32) [(.int p2), (.int 0), (.int 0)] (.int 0) := Arv.set Ar3 q3 S3 M3 H3 G3 (by have q := fits_nar_char p2; rw [own_nar16 hp2] at q; exact q) W3 0 rfl (Nat.le_of_ble_eq_true rfl)
  have Nf3 := Fr.snoc X3 N0 g_b2
  have K3 : Keep h0 h3 [] := K2.wr W3 (Or.inr sz_b2)
  have Z3 : n0 ≤ h3.size := Nat.le_trans Z2 (Keep.of_wr W3).1
  refine own_fw (A' := (T3.setTop (mkF m 73 #[iv p1, iv p2, iv p3, iv p4] [.int p3, .int 1, .ref b2, .ref b2, .ref b1, .ref b1]))) (fun t k => st3 _ (XS.dup X3.here hx rfl (hb hby d5_70) rfl rfl (XS.iconst X3.here hx rfl (hb hby d5_71) (XS.iloadN X3.here hx rfl (hb hby d5_72) rfl k)))) ?_
  obtain ⟨cl4, Ar4, q4, S4, M4, H4, G4⟩ := id V3
  have hin4 : ¬ ((1 : Int32) < 0 ∨ cl4.slots.size ≤ ((1 : Int32)).toNatClampNeg) := inb_of S4 ⟨by decide, by decide⟩
  obtain ⟨T4, h4, X4, e4, W4, st4⟩ := stC X3 hx hZ e3 Ar4 (j := (1 : Int32)) hin4 (g := (mkF m 73 #[iv p1, iv p2, iv p3, iv p4] [.int p3, .int 1, .ref b2, .ref b2, .ref b1, .ref b1])) rfl rfl (hb hby d5_73)
  rw [(own_nar16 hp3)] at W4
  have V4 : Arv Z h4 b2 k2 .char (3 : Int32) [(.int p2), (.int p3), (.int 0)] (.int 0) := Arv.set Ar4 q4 S4 M4 H4 G4 (by have q := fits_nar_char p3; rw [own_nar16 hp3] at q; exact q) W4 1 rfl (Nat.le_of_ble_eq_true rfl)
  have Nf4 := Fr.snoc X4 Nf3 g_b2
  have K4 : Keep h0 h4 [] := K3.wr W4 (Or.inr sz_b2)
  have Z4 : n0 ≤ h4.size := Nat.le_trans Z3 (Keep.of_wr W4).1
  refine own_fw (A' := (T4.setTop (mkF m 77 #[iv p1, iv p2, iv p3, iv p4] [.int p4, .int 2, .ref b2, .ref b2, .ref b1, .ref b1]))) (fun t k => st4 _ (XS.dup X4.here hx rfl (hb hby d5_74) rfl rfl (XS.iconst X4.here hx rfl (hb hby d5_75) (XS.iloadN X4.here hx rfl (hb hby d5_76) rfl k)))) ?_
  obtain ⟨cl5, Ar5, q5, S5, M5, H5, G5⟩ := id V4
  have hin5 : ¬ ((2 : Int32) < 0 ∨ cl5.slots.size ≤ ((2 : Int32)).toNatClampNeg) := inb_of S5 ⟨by decide, by decide⟩
  obtain ⟨T5, h5, X5, e5, W5, st5⟩ := stC X4 hx hZ e4 Ar5 (j := (2 : Int32)) hin5 (g := (mkF m 77 #[iv p1, iv p2, iv p3, iv p4] [.int p4, .int 2, .ref b2, .ref b2, .ref b1, .ref b1])) rfl rfl (hb hby d5_77)
  rw [(own_nar16 hp4)] at W5
  have V5 : Arv Z h5 b2 k2 .char (3 : Int32) [(.int p2), (.int p3), (.int p4)] (.int 0) := Arv.set Ar5 q5 S5 M5 H5 G5 (by have q := fits_nar_char p4; rw [own_nar16 hp4] at q; exact q) W5 2 rfl (Nat.le_of_ble_eq_true rfl)
  have Nf5 := Fr.snoc X5 Nf4 g_b2
  have K5 : Keep h0 h5 [] := K4.wr W5 (Or.inr sz_b2)
  have Z5 : n0 ≤ h5.size := Nat.le_trans Z4 (Keep.of_wr W5).1
  refine own_fw (A' := (T5.setTop (mkF m 78 #[iv p1, iv p2, iv p3, iv p4] [.ref b2, .ref b1, .ref b1]))) (fun t k => st5 _ k) ?_
  obtain ⟨_, _, ⟨T6, L6, k6, n6⟩, -, X6, ⟨Lc6, hQ6, l6, y6, z6⟩, st6⟩ := X5.specialBack hx (y := yq8) rfl hown (mvT hZ (own_w hw 29 rfl)) (mvT hZ (own_w hw 30 rfl)) (mvT hZ (own_w hw 31 rfl)) (by decide) (backOf (W := 1) (rmStrA3 l Z a0 hw [] b1 b2 k2 cs p2 p3 p4 h5 n0 Z5 ((((A1.ext E2).wr W3).wr W4).wr W5) ((((F_coder_b1.ext E2).other W3 (Or.inl ne_b1_b2)).other W4 (Or.inl ne_b1_b2)).other W5 (Or.inl ne_b1_b2)) ((((F_value_b1.ext E2).other W3 (Or.inl ne_b1_b2)).other W4 (Or.inl ne_b1_b2)).other W5 (Or.inl ne_b1_b2)) V5 g_b1 ne_b1_b2 (((((P0.ext E1).ext E2).wr W3).wr W4).wr W5) hcs hc0 hc1 hc2) hZ (own_w hw 31 rfl) (own_w hw 27 rfl) (by decide) (by decide)) (g := (mkF m 78 #[iv p1, iv p2, iv p3, iv p4] [.ref b2, .ref b1, .ref b1])) rfl (by rw [hml]; rfl) (Steps.refl _) (a := b1) (argsL := [(.ref b2)]) (rest := [(.ref b1)]) (lenOf pd___C_V rfl) rfl (by show 2 * 0 + _ ≤ _; exact Nat.le_of_eq rfl) (hb hby d5_78) (fun _ _ => ⟨rfl, e5, (by decide : 2 + 1 ≤ _), (by decide : 7 + 3 ≤ _)⟩)
  dsimp only [Pt.U, Pt.locs, Pt.cells, Pt.slots] at X6 l6 y6 z6 st6 hQ6
  subst l6 y6 z6
  obtain ⟨b_6, kb_6, rfl, Nq6, Kq6, Fq6_0, Fq6_1, Fq6_2, Fq6_3⟩ := hQ6
  have Nf6 := Fr.app Nf5 Nq6
  have K6 : Keep h0 T6.heap [] := K5.trans Kq6 (allS (Or.inr sz_b1) all0)
  have Z6 : n0 ≤ T6.heap.size := Nat.le_trans Z5 Kq6.1
  refine own_fw (A' := (T6.setTop (mkF m 81 #[iv p1, iv p2, iv p3, iv p4] [.ref b1]))) (fun t k => st6.trans k) ?_
  obtain ⟨fs, hr, hrun, hended, hW, hsame⟩ := X6.leave (v := some (.ref b1)) (fun h => by rw [Bd.returns] at h; cases h)
  refine ⟨_, _, ?_, hrun, hended, _, _, rfl, ?_, ⟨_, rfl⟩, hW, hsame.mono (by decide) (by decide)⟩
  · exact retOut X6 hx Bd.returns rfl (Or.inr (Or.inr (Or.inr (Or.inr ⟨rfl, rfl, rfl⟩)))) (hb hby d5_81) hr
  · show Q_rmDraw3 Z p1 p2 p3 p4 cs h0 n0 _ T6.heap _
    exact ⟨b1, b_6, kb_6, rfl, Nf6, K6, Fq6_0, Fq6_1, Fq6_2, Fq6_3, sz_b1⟩
theorem ef_rmDraw3_0 (m : MethodId) (p1 p2 p3 p4 : Int32) : entryFrame m #[(.int p1), (.int p2), (.int p3), (.int p4)] 4 = mkF m 0 #[.val (.int p1), .val (.int p2), .val (.int p3), .val (.int p4)] [] := by first | (simp [entryFrame, mkF, argsToLocals, Value.category]; done) | rfl
def Q_rmDraw3_0 (Z : State) (p1 p2 p3 p4 cs : Int32) (h0 : Heap) (n0 : Nat) (v : Option Value) (h : Heap) (L : List Loc) : Prop := ∃ b : Addr, ∃ sb : Addr, ∃ kb : ClassId, v = some (.ref b) ∧ Fr n0 L ∧ Keep h0 h [] ∧ Exa Z h b "java/lang/String" ∧ Fld Z h b "java/lang/String" "coder" "B" (.int 1) ∧ Fld Z h b "java/lang/String" "value" "[B" (.ref sb) ∧ Arv Z h sb kb .byte (6 : Int32) [(.int ((p2 >>> ((0 : Int32) &&& 31)).toInt8.toInt32)), (.int ((p2 >>> ((8 : Int32) &&& 31)).toInt8.toInt32)), (.int ((p3 >>> ((0 : Int32) &&& 31)).toInt8.toInt32)), (.int ((p3 >>> ((8 : Int32) &&& 31)).toInt8.toInt32)), (.int ((p4 >>> ((0 : Int32) &&& 31)).toInt8.toInt32)), (.int ((p4 >>> ((8 : Int32) &&& 31)).toInt8.toInt32))] (.int 0) ∧ (h0.size ≤ b)
theorem rmDraw3_0 (l : Launch) (Z : State) (a0 : Array Value) (hw : ∀ d ∈ tables_1, d.before a0 Z = true) (ws : List Jvm.Cond) (p1 p2 p3 p4 cs : Int32) (h0 : Heap) (n0 : Nat) (Z0 : n0 ≤ h0.size) (P0 : Sta Z h0 "java/lang/String" "COMPACT_STRINGS" "Z" (.int cs)) (hcs : ¬ (cs = (0 : Int32))) (P2 : Sta Z h0 "java/lang/StringUTF16" "$assertionsDisabled" "Z" (.int 1)) (P3 : Sta Z h0 "java/lang/StringUTF16" "HI_BYTE_SHIFT" "I" (.int 0)) (P4 : Sta Z h0 "java/lang/StringUTF16" "LO_BYTE_SHIFT" "I" (.int 8)) (m0 : ¬ (p1 = (0 : Int32))) (m1 : ¬ (p1 = (1 : Int32))) (m2 : ¬ (p1 = (2 : Int32))) (hp2 : own_c16 p2) (hp3 : own_c16 p3) (hp4 : own_c16 p4) (hc0 : (255 : Int32) < p2) :
    MetFree l yq61 (head1 (Jvm.Cond.code yq61 method_3_code 4 (some (.object "java/lang/String")) :: ws) rq67) (fun a U => a = #[(.int p1), (.int p2), (.int p3), (.int p4)] ∧ Z.Warmed39 U.vm ∧ U.heap = h0) (fun _ _ _ _ _ => True) (fun _ U o U' => ∃ v L, o = .returned v ∧ Q_rmDraw3_0 Z p1 p2 p3 p4 cs h0 n0 v U'.heap L ∧ FrameEnd U o U' L rq67.cells rq67.slots) := by
  refine MetFree.of_bodySF (plainFor_of_name pn_com_example_spanwise_spanwise_cli_InputFileIsStandardInputPinLaw) hisR ?_
  intro p e s m args below meth c s₁ Bd hml0 hP hK
  obtain ⟨rfl, hZ, hh⟩ := hP
  have hx := Bd.exec
  have hby := Bd.bytes
  have hml : c.maxLocals = 4 := hml0
  have hown : s.vm.findClass "com/example/spanwise/spanwise/cli/InputFileIsStandardInputPinLaw" = some m.cls := findClass_of_methodNamed Bd.named
  have hnm := (name_of_methodNamed Bd.named Bd.method).1
  have X0 : Stand p l e rq67 s m #[(.int p1), (.int p2), (.int p3), (.int p4)] below meth c s₁ [] 0 0 := Stand.of_body Bd
  have e0 : s₁.heap = h0 := by rw [← hh, Bd.state]; rfl
  have N0 := Fr.nil n0
  refine own_fw (A' := (s₁.setTop (mkF m 59 #[iv p1, iv p2, iv p3, iv p4] []))) (fun t k => castTop (ef_rmDraw3_0 m p1 p2 p3 p4) (XS.iloadN X0.here hx rfl (hb hby d5_0) rfl (XS.ifYes X0.here hx rfl (pc0 := 1) (pc' := 15) rfl (hb hby d5_1) rfl (XT.i0_ne_t m0) (by decide) (by decide) (XS.iloadN X0.here hx rfl (hb hby d5_15) rfl (XS.iconst X0.here hx rfl (hb hby d5_16) (XS.icmpYes X0.here hx rfl (pc0 := 17) (pc' := 35) rfl (hb hby d5_17) rfl (XT.ii_ne_t m1) (by decide) (by decide) (XS.iloadN X0.here hx rfl (hb hby d5_35) rfl (XS.iconst X0.here hx rfl (hb hby d5_36) (XS.icmpYes X0.here hx rfl (pc0 := 37) (pc' := 59) rfl (hb hby d5_37) rfl (XT.ii_ne_t m2) (by decide) (by decide) k))))))))) ?_
  obtain ⟨T1, h1, X1, e1, E1, A1, D1, -, st1⟩ := newO X0 hx hZ hown (own_w hw 25 rfl) (own_w hw 26 rfl) (own_w hw 27 rfl) e0 (g := (mkF m 59 #[iv p1, iv p2, iv p3, iv p4] [])) rfl (hb hby d5_59) (by decide) (by decide)
  obtain ⟨b1, gb1⟩ : ∃ z, z = h0.size := ⟨_, rfl⟩
  have g_b1 : n0 ≤ b1 := Nat.le_trans Z0 (Nat.le_of_eq gb1.symm)
  have sz_b1 : h0.size ≤ b1 := Nat.le_trans (Keep.refl h0 []).1 (Nat.le_of_eq gb1.symm)
  rw [← gb1] at A1 D1 st1
  have F_coder_b1 : Fld Z h1 b1 "java/lang/String" "coder" "B" (.int 0) := D1 (Or.inr (own_w hw 50 rfl)) (ty := .byte) (by decide)
  have F_value_b1 : Fld Z h1 b1 "java/lang/String" "value" "[B" .null := D1 (Or.inr (own_w hw 52 rfl)) (ty := (.array .byte)) (by decide)
  have K1 : Keep h0 h1 [] := (Keep.refl h0 []).ext E1
  have Z1 : n0 ≤ h1.size := Nat.le_trans Z0 E1.1
  refine own_fw (A' := (T1.setTop (mkF m 64 #[iv p1, iv p2, iv p3, iv p4] [.int 3, .ref b1, .ref b1]))) (fun t k => st1 _ (XS.dup X1.here hx rfl (hb hby d5_62) rfl rfl (XS.iconst X1.here hx rfl (hb hby d5_63) k))) ?_
  obtain ⟨T2, h2, k2, X2, e2, E2, A2, st2⟩ := newP X1 hx hZ (own_w hw 28 rfl) e1 (g := (mkF m 64 #[iv p1, iv p2, iv p3, iv p4] [.int 3, .ref b1, .ref b1])) rfl (hb hby d5_64) rfl (by decide) (cap := 3) (by decide) (by decide) (by decide) (by decide)
  obtain ⟨b2, gb2⟩ : ∃ z, z = h1.size := ⟨_, rfl⟩
  have g_b2 : n0 ≤ b2 := Nat.le_trans Z1 (Nat.le_of_eq gb2.symm)
  have sz_b2 : h0.size ≤ b2 := Nat.le_trans K1.1 (Nat.le_of_eq gb2.symm)
  have ne_b1_b2 : b1 ≠ b2 := Nat.ne_of_lt (Nat.lt_of_lt_of_le A1.lt (Nat.le_of_eq gb2.symm))
  rw [← gb2] at A2 st2
  have V_b2 : Arv Z h2 b2 k2 .char (3 : Int32) [(.int 0), (.int 0), (.int 0)] (.int 0) := (Arv.new A2 (by decide)).pad (pad_rep [] (.int 0) 3)
  have K2 : Keep h0 h2 [] := K1.ext E2
  have Z2 : n0 ≤ h2.size := Nat.le_trans Z1 E2.1
  refine own_fw (A' := (T2.setTop (mkF m 69 #[iv p1, iv p2, iv p3, iv p4] [.int p2, .int 0, .ref b2, .ref b2, .ref b1, .ref b1]))) (fun t k => st2 _ (XS.dup X2.here hx rfl (hb hby d5_66) rfl rfl (XS.iconst X2.here hx rfl (hb hby d5_67) (XS.iloadN X2.here hx rfl (hb hby d5_68) rfl k)))) ?_
  obtain ⟨cl3, Ar3, q3, S3, M3, H3, G3⟩ := id V_b2
  have hin3 : ¬ ((0 : Int32) < 0 ∨ cl3.slots.size ≤ ((0 : Int32)).toNatClampNeg) := inb_of S3 ⟨by decide, by decide⟩
  obtain ⟨T3, h3, X3, e3, W3, st3⟩ := stC X2 hx hZ e2 Ar3 (j := (0 : Int32)) hin3 (g := (mkF m 69 #[iv p1, iv p2, iv p3, iv p4] [.int p2, .int 0, .ref b2, .ref b2, .ref b1, .ref b1])) rfl rfl (hb hby d5_69)
  rw [(own_nar16 hp2)] at W3
  have V3 : Arv Z h3 b2 k2 .char (3 : Int32) [(.int p2), (.int 0), (.int 0)] (.int 0) := Arv.set Ar3 q3 S3 M3 H3 G3 (by have q := fits_nar_char p2; rw [own_nar16 hp2] at q; exact q) W3 0 rfl (Nat.le_of_ble_eq_true rfl)
  have Nf3 := Fr.snoc X3 N0 g_b2
  have K3 : Keep h0 h3 [] := K2.wr W3 (Or.inr sz_b2)
  have Z3 : n0 ≤ h3.size := Nat.le_trans Z2 (Keep.of_wr W3).1
  refine own_fw (A' := (T3.setTop (mkF m 73 #[iv p1, iv p2, iv p3, iv p4] [.int p3, .int 1, .ref b2, .ref b2, .ref b1, .ref b1]))) (fun t k => st3 _ (XS.dup X3.here hx rfl (hb hby d5_70) rfl rfl (XS.iconst X3.here hx rfl (hb hby d5_71) (XS.iloadN X3.here hx rfl (hb hby d5_72) rfl k)))) ?_
  obtain ⟨cl4, Ar4, q4, S4, M4, H4, G4⟩ := id V3
  have hin4 : ¬ ((1 : Int32) < 0 ∨ cl4.slots.size ≤ ((1 : Int32)).toNatClampNeg) := inb_of S4 ⟨by decide, by decide⟩
  obtain ⟨T4, h4, X4, e4, W4, st4⟩ := stC X3 hx hZ e3 Ar4 (j := (1 : Int32)) hin4 (g := (mkF m 73 #[iv p1, iv p2, iv p3, iv p4] [.int p3, .int 1, .ref b2, .ref b2, .ref b1, .ref b1])) rfl rfl (hb hby d5_73)
  rw [(own_nar16 hp3)] at W4
  have V4 : Arv Z h4 b2 k2 .char (3 : Int32) [(.int p2), (.int p3), (.int 0)] (.int 0) := Arv.set Ar4 q4 S4 M4 H4 G4 (by have q := fits_nar_char p3; rw [own_nar16 hp3] at q; exact q) W4 1 rfl (Nat.le_of_ble_eq_true rfl)
  have Nf4 := Fr.snoc X4 Nf3 g_b2
  have K4 : Keep h0 h4 [] := K3.wr W4 (Or.inr sz_b2)
  have Z4 : n0 ≤ h4.size := Nat.le_trans Z3 (Keep.of_wr W4).1
  refine own_fw (A' := (T4.setTop (mkF m 77 #[iv p1, iv p2, iv p3, iv p4] [.int p4, .int 2, .ref b2, .ref b2, .ref b1, .ref b1]))) (fun t k => st4 _ (XS.dup X4.here hx rfl (hb hby d5_74) rfl rfl (XS.iconst X4.here hx rfl (hb hby d5_75) (XS.iloadN X4.here hx rfl (hb hby d5_76) rfl k)))) ?_
  obtain ⟨cl5, Ar5, q5, S5, M5, H5, G5⟩ := id V4
  have hin5 : ¬ ((2 : Int32) < 0 ∨ cl5.slots.size ≤ ((2 : Int32)).toNatClampNeg) := inb_of S5 ⟨by decide, by decide⟩
  obtain ⟨T5, h5, X5, e5, W5, st5⟩ := stC X4 hx hZ e4 Ar5 (j := (2 : Int32)) hin5 (g := (mkF m 77 #[iv p1, iv p2, iv p3, iv p4] [.int p4, .int 2, .ref b2, .ref b2, .ref b1, .ref b1])) rfl rfl (hb hby d5_77)
  rw [(own_nar16 hp4)] at W5
  have V5 : Arv Z h5 b2 k2 .char (3 : Int32) [(.int p2), (.int p3), (.int p4)] (.int 0) := Arv.set Ar5 q5 S5 M5 H5 G5 (by have q := fits_nar_char p4; rw [own_nar16 hp4] at q; exact q) W5 2 rfl (Nat.le_of_ble_eq_true rfl)
  have Nf5 := Fr.snoc X5 Nf4 g_b2
  have K5 : Keep h0 h5 [] := K4.wr W5 (Or.inr sz_b2)
  have Z5 : n0 ≤ h5.size := Nat.le_trans Z4 (Keep.of_wr W5).1
  refine own_fw (A' := (T5.setTop (mkF m 78 #[iv p1, iv p2, iv p3, iv p4] [.ref b2, .ref b1, .ref b1]))) (fun t k => st5 _ k) ?_
  obtain ⟨_, _, ⟨T6, L6, k6, n6⟩, -, X6, ⟨Lc6, hQ6, l6, y6, z6⟩, st6⟩ := X5.specialBack hx (y := yq8) rfl hown (mvT hZ (own_w hw 29 rfl)) (mvT hZ (own_w hw 30 rfl)) (mvT hZ (own_w hw 31 rfl)) (by decide) (backOf (W := 1) (rmStrA3_0 l Z a0 hw [] b1 b2 k2 cs p2 p3 p4 h5 n0 Z5 ((((A1.ext E2).wr W3).wr W4).wr W5) ((((F_coder_b1.ext E2).other W3 (Or.inl ne_b1_b2)).other W4 (Or.inl ne_b1_b2)).other W5 (Or.inl ne_b1_b2)) ((((F_value_b1.ext E2).other W3 (Or.inl ne_b1_b2)).other W4 (Or.inl ne_b1_b2)).other W5 (Or.inl ne_b1_b2)) V5 g_b1 ne_b1_b2 (((((P0.ext E1).ext E2).wr W3).wr W4).wr W5) hcs (((((P2.ext E1).ext E2).wr W3).wr W4).wr W5) (((((P3.ext E1).ext E2).wr W3).wr W4).wr W5) (((((P4.ext E1).ext E2).wr W3).wr W4).wr W5) hc0 hp2) hZ (own_w hw 31 rfl) (own_w hw 27 rfl) (by decide) (by decide)) (g := (mkF m 78 #[iv p1, iv p2, iv p3, iv p4] [.ref b2, .ref b1, .ref b1])) rfl (by rw [hml]; rfl) (Steps.refl _) (a := b1) (argsL := [(.ref b2)]) (rest := [(.ref b1)]) (lenOf pd___C_V rfl) rfl (by show 2 * 0 + _ ≤ _; exact Nat.le_of_eq rfl) (hb hby d5_78) (fun _ _ => ⟨rfl, e5, (by decide : 2 + 2 ≤ _), (by decide : 7 + 9 ≤ _)⟩)
  dsimp only [Pt.U, Pt.locs, Pt.cells, Pt.slots] at X6 l6 y6 z6 st6 hQ6
  subst l6 y6 z6
  obtain ⟨b_6, kb_6, rfl, Nq6, Kq6, Fq6_0, Fq6_1, Fq6_2, Fq6_3⟩ := hQ6
  have Nf6 := Fr.app Nf5 Nq6
  have K6 : Keep h0 T6.heap [] := K5.trans Kq6 (allS (Or.inr sz_b1) all0)
  have Z6 : n0 ≤ T6.heap.size := Nat.le_trans Z5 Kq6.1
  refine own_fw (A' := (T6.setTop (mkF m 81 #[iv p1, iv p2, iv p3, iv p4] [.ref b1]))) (fun t k => st6.trans k) ?_
  obtain ⟨fs, hr, hrun, hended, hW, hsame⟩ := X6.leave (v := some (.ref b1)) (fun h => by rw [Bd.returns] at h; cases h)
  refine ⟨_, _, ?_, hrun, hended, _, _, rfl, ?_, ⟨_, rfl⟩, hW, hsame.mono (by decide) (by decide)⟩
  · exact retOut X6 hx Bd.returns rfl (Or.inr (Or.inr (Or.inr (Or.inr ⟨rfl, rfl, rfl⟩)))) (hb hby d5_81) hr
  · show Q_rmDraw3_0 Z p1 p2 p3 p4 cs h0 n0 _ T6.heap _
    exact ⟨b1, b_6, kb_6, rfl, Nf6, K6, Fq6_0, Fq6_1, Fq6_2, Fq6_3, sz_b1⟩
theorem ef_rmDraw3_1 (m : MethodId) (p1 p2 p3 p4 : Int32) : entryFrame m #[(.int p1), (.int p2), (.int p3), (.int p4)] 4 = mkF m 0 #[.val (.int p1), .val (.int p2), .val (.int p3), .val (.int p4)] [] := by first | (simp [entryFrame, mkF, argsToLocals, Value.category]; done) | rfl
def Q_rmDraw3_1 (Z : State) (p1 p2 p3 p4 cs : Int32) (h0 : Heap) (n0 : Nat) (v : Option Value) (h : Heap) (L : List Loc) : Prop := ∃ b : Addr, ∃ sb : Addr, ∃ kb : ClassId, v = some (.ref b) ∧ Fr n0 L ∧ Keep h0 h [] ∧ Exa Z h b "java/lang/String" ∧ Fld Z h b "java/lang/String" "coder" "B" (.int 1) ∧ Fld Z h b "java/lang/String" "value" "[B" (.ref sb) ∧ Arv Z h sb kb .byte (6 : Int32) [(.int ((p2 >>> ((0 : Int32) &&& 31)).toInt8.toInt32)), (.int ((p2 >>> ((8 : Int32) &&& 31)).toInt8.toInt32)), (.int ((p3 >>> ((0 : Int32) &&& 31)).toInt8.toInt32)), (.int ((p3 >>> ((8 : Int32) &&& 31)).toInt8.toInt32)), (.int ((p4 >>> ((0 : Int32) &&& 31)).toInt8.toInt32)), (.int ((p4 >>> ((8 : Int32) &&& 31)).toInt8.toInt32))] (.int 0) ∧ (h0.size ≤ b)
theorem rmDraw3_1 (l : Launch) (Z : State) (a0 : Array Value) (hw : ∀ d ∈ tables_1, d.before a0 Z = true) (ws : List Jvm.Cond) (p1 p2 p3 p4 cs : Int32) (h0 : Heap) (n0 : Nat) (Z0 : n0 ≤ h0.size) (P0 : Sta Z h0 "java/lang/String" "COMPACT_STRINGS" "Z" (.int cs)) (hcs : ¬ (cs = (0 : Int32))) (P2 : Sta Z h0 "java/lang/StringUTF16" "$assertionsDisabled" "Z" (.int 1)) (P3 : Sta Z h0 "java/lang/StringUTF16" "HI_BYTE_SHIFT" "I" (.int 0)) (P4 : Sta Z h0 "java/lang/StringUTF16" "LO_BYTE_SHIFT" "I" (.int 8)) (m0 : ¬ (p1 = (0 : Int32))) (m1 : ¬ (p1 = (1 : Int32))) (m2 : ¬ (p1 = (2 : Int32))) (hp2 : own_c16 p2) (hp3 : own_c16 p3) (hp4 : own_c16 p4) (hc0 : ¬ ((255 : Int32) < p2)) (hc1 : (255 : Int32) < p3) :
    MetFree l yq61 (head1 (Jvm.Cond.code yq61 method_3_code 4 (some (.object "java/lang/String")) :: ws) rq67) (fun a U => a = #[(.int p1), (.int p2), (.int p3), (.int p4)] ∧ Z.Warmed39 U.vm ∧ U.heap = h0) (fun _ _ _ _ _ => True) (fun _ U o U' => ∃ v L, o = .returned v ∧ Q_rmDraw3_1 Z p1 p2 p3 p4 cs h0 n0 v U'.heap L ∧ FrameEnd U o U' L rq67.cells rq67.slots) := by
  refine MetFree.of_bodySF (plainFor_of_name pn_com_example_spanwise_spanwise_cli_InputFileIsStandardInputPinLaw) hisR ?_
  intro p e s m args below meth c s₁ Bd hml0 hP hK
  obtain ⟨rfl, hZ, hh⟩ := hP
  have hx := Bd.exec
  have hby := Bd.bytes
  have hml : c.maxLocals = 4 := hml0
  have hown : s.vm.findClass "com/example/spanwise/spanwise/cli/InputFileIsStandardInputPinLaw" = some m.cls := findClass_of_methodNamed Bd.named
  have hnm := (name_of_methodNamed Bd.named Bd.method).1
  have X0 : Stand p l e rq67 s m #[(.int p1), (.int p2), (.int p3), (.int p4)] below meth c s₁ [] 0 0 := Stand.of_body Bd
  have e0 : s₁.heap = h0 := by rw [← hh, Bd.state]; rfl
  have N0 := Fr.nil n0
  refine own_fw (A' := (s₁.setTop (mkF m 59 #[iv p1, iv p2, iv p3, iv p4] []))) (fun t k => castTop (ef_rmDraw3_1 m p1 p2 p3 p4) (XS.iloadN X0.here hx rfl (hb hby d5_0) rfl (XS.ifYes X0.here hx rfl (pc0 := 1) (pc' := 15) rfl (hb hby d5_1) rfl (XT.i0_ne_t m0) (by decide) (by decide) (XS.iloadN X0.here hx rfl (hb hby d5_15) rfl (XS.iconst X0.here hx rfl (hb hby d5_16) (XS.icmpYes X0.here hx rfl (pc0 := 17) (pc' := 35) rfl (hb hby d5_17) rfl (XT.ii_ne_t m1) (by decide) (by decide) (XS.iloadN X0.here hx rfl (hb hby d5_35) rfl (XS.iconst X0.here hx rfl (hb hby d5_36) (XS.icmpYes X0.here hx rfl (pc0 := 37) (pc' := 59) rfl (hb hby d5_37) rfl (XT.ii_ne_t m2) (by decide) (by decide) k))))))))) ?_
  obtain ⟨T1, h1, X1, e1, E1, A1, D1, -, st1⟩ := newO X0 hx hZ hown (own_w hw 25 rfl) (own_w hw 26 rfl) (own_w hw 27 rfl) e0 (g := (mkF m 59 #[iv p1, iv p2, iv p3, iv p4] [])) rfl (hb hby d5_59) (by decide) (by decide)
  obtain ⟨b1, gb1⟩ : ∃ z, z = h0.size := ⟨_, rfl⟩
  have g_b1 : n0 ≤ b1 := Nat.le_trans Z0 (Nat.le_of_eq gb1.symm)
  have sz_b1 : h0.size ≤ b1 := Nat.le_trans (Keep.refl h0 []).1 (Nat.le_of_eq gb1.symm)
  rw [← gb1] at A1 D1 st1
  have F_coder_b1 : Fld Z h1 b1 "java/lang/String" "coder" "B" (.int 0) := D1 (Or.inr (own_w hw 50 rfl)) (ty := .byte) (by decide)
  have F_value_b1 : Fld Z h1 b1 "java/lang/String" "value" "[B" .null := D1 (Or.inr (own_w hw 52 rfl)) (ty := (.array .byte)) (by decide)
  have K1 : Keep h0 h1 [] := (Keep.refl h0 []).ext E1
  have Z1 : n0 ≤ h1.size := Nat.le_trans Z0 E1.1
  refine own_fw (A' := (T1.setTop (mkF m 64 #[iv p1, iv p2, iv p3, iv p4] [.int 3, .ref b1, .ref b1]))) (fun t k => st1 _ (XS.dup X1.here hx rfl (hb hby d5_62) rfl rfl (XS.iconst X1.here hx rfl (hb hby d5_63) k))) ?_
  obtain ⟨T2, h2, k2, X2, e2, E2, A2, st2⟩ := newP X1 hx hZ (own_w hw 28 rfl) e1 (g := (mkF m 64 #[iv p1, iv p2, iv p3, iv p4] [.int 3, .ref b1, .ref b1])) rfl (hb hby d5_64) rfl (by decide) (cap := 3) (by decide) (by decide) (by decide) (by decide)
  obtain ⟨b2, gb2⟩ : ∃ z, z = h1.size := ⟨_, rfl⟩
  have g_b2 : n0 ≤ b2 := Nat.le_trans Z1 (Nat.le_of_eq gb2.symm)
  have sz_b2 : h0.size ≤ b2 := Nat.le_trans K1.1 (Nat.le_of_eq gb2.symm)
  have ne_b1_b2 : b1 ≠ b2 := Nat.ne_of_lt (Nat.lt_of_lt_of_le A1.lt (Nat.le_of_eq gb2.symm))
  rw [← gb2] at A2 st2
  have V_b2 : Arv Z h2 b2 k2 .char (3 : Int32) [(.int 0), (.int 0), (.int 0)] (.int 0) := (Arv.new A2 (by decide)).pad (pad_rep [] (.int 0) 3)
  have K2 : Keep h0 h2 [] := K1.ext E2
  have Z2 : n0 ≤ h2.size := Nat.le_trans Z1 E2.1
  refine own_fw (A' := (T2.setTop (mkF m 69 #[iv p1, iv p2, iv p3, iv p4] [.int p2, .int 0, .ref b2, .ref b2, .ref b1, .ref b1]))) (fun t k => st2 _ (XS.dup X2.here hx rfl (hb hby d5_66) rfl rfl (XS.iconst X2.here hx rfl (hb hby d5_67) (XS.iloadN X2.here hx rfl (hb hby d5_68) rfl k)))) ?_
  obtain ⟨cl3, Ar3, q3, S3, M3, H3, G3⟩ := id V_b2
  have hin3 : ¬ ((0 : Int32) < 0 ∨ cl3.slots.size ≤ ((0 : Int32)).toNatClampNeg) := inb_of S3 ⟨by decide, by decide⟩
  obtain ⟨T3, h3, X3, e3, W3, st3⟩ := stC X2 hx hZ e2 Ar3 (j := (0 : Int32)) hin3 (g := (mkF m 69 #[iv p1, iv p2, iv p3, iv p4] [.int p2, .int 0, .ref b2, .ref b2, .ref b1, .ref b1])) rfl rfl (hb hby d5_69)
  rw [(own_nar16 hp2)] at W3
  have V3 : Arv Z h3 b2 k2 .char (3 : Int32) [(.int p2), (.int 0), (.int 0)] (.int 0) := Arv.set Ar3 q3 S3 M3 H3 G3 (by have q := fits_nar_char p2; rw [own_nar16 hp2] at q; exact q) W3 0 rfl (Nat.le_of_ble_eq_true rfl)
  have Nf3 := Fr.snoc X3 N0 g_b2
  have K3 : Keep h0 h3 [] := K2.wr W3 (Or.inr sz_b2)
  have Z3 : n0 ≤ h3.size := Nat.le_trans Z2 (Keep.of_wr W3).1
  refine own_fw (A' := (T3.setTop (mkF m 73 #[iv p1, iv p2, iv p3, iv p4] [.int p3, .int 1, .ref b2, .ref b2, .ref b1, .ref b1]))) (fun t k => st3 _ (XS.dup X3.here hx rfl (hb hby d5_70) rfl rfl (XS.iconst X3.here hx rfl (hb hby d5_71) (XS.iloadN X3.here hx rfl (hb hby d5_72) rfl k)))) ?_
  obtain ⟨cl4, Ar4, q4, S4, M4, H4, G4⟩ := id V3
  have hin4 : ¬ ((1 : Int32) < 0 ∨ cl4.slots.size ≤ ((1 : Int32)).toNatClampNeg) := inb_of S4 ⟨by decide, by decide⟩
  obtain ⟨T4, h4, X4, e4, W4, st4⟩ := stC X3 hx hZ e3 Ar4 (j := (1 : Int32)) hin4 (g := (mkF m 73 #[iv p1, iv p2, iv p3, iv p4] [.int p3, .int 1, .ref b2, .ref b2, .ref b1, .ref b1])) rfl rfl (hb hby d5_73)
  rw [(own_nar16 hp3)] at W4
  have V4 : Arv Z h4 b2 k2 .char (3 : Int32) [(.int p2), (.int p3), (.int 0)] (.int 0) := Arv.set Ar4 q4 S4 M4 H4 G4 (by have q := fits_nar_char p3; rw [own_nar16 hp3] at q; exact q) W4 1 rfl (Nat.le_of_ble_eq_true rfl)
  have Nf4 := Fr.snoc X4 Nf3 g_b2
  have K4 : Keep h0 h4 [] := K3.wr W4 (Or.inr sz_b2)
  have Z4 : n0 ≤ h4.size := Nat.le_trans Z3 (Keep.of_wr W4).1
  refine own_fw (A' := (T4.setTop (mkF m 77 #[iv p1, iv p2, iv p3, iv p4] [.int p4, .int 2, .ref b2, .ref b2, .ref b1, .ref b1]))) (fun t k => st4 _ (XS.dup X4.here hx rfl (hb hby d5_74) rfl rfl (XS.iconst X4.here hx rfl (hb hby d5_75) (XS.iloadN X4.here hx rfl (hb hby d5_76) rfl k)))) ?_
  obtain ⟨cl5, Ar5, q5, S5, M5, H5, G5⟩ := id V4
  have hin5 : ¬ ((2 : Int32) < 0 ∨ cl5.slots.size ≤ ((2 : Int32)).toNatClampNeg) := inb_of S5 ⟨by decide, by decide⟩
  obtain ⟨T5, h5, X5, e5, W5, st5⟩ := stC X4 hx hZ e4 Ar5 (j := (2 : Int32)) hin5 (g := (mkF m 77 #[iv p1, iv p2, iv p3, iv p4] [.int p4, .int 2, .ref b2, .ref b2, .ref b1, .ref b1])) rfl rfl (hb hby d5_77)
  rw [(own_nar16 hp4)] at W5
  have V5 : Arv Z h5 b2 k2 .char (3 : Int32) [(.int p2), (.int p3), (.int p4)] (.int 0) := Arv.set Ar5 q5 S5 M5 H5 G5 (by have q := fits_nar_char p4; rw [own_nar16 hp4] at q; exact q) W5 2 rfl (Nat.le_of_ble_eq_true rfl)
  have Nf5 := Fr.snoc X5 Nf4 g_b2
  have K5 : Keep h0 h5 [] := K4.wr W5 (Or.inr sz_b2)
  have Z5 : n0 ≤ h5.size := Nat.le_trans Z4 (Keep.of_wr W5).1
  refine own_fw (A' := (T5.setTop (mkF m 78 #[iv p1, iv p2, iv p3, iv p4] [.ref b2, .ref b1, .ref b1]))) (fun t k => st5 _ k) ?_
  obtain ⟨_, _, ⟨T6, L6, k6, n6⟩, -, X6, ⟨Lc6, hQ6, l6, y6, z6⟩, st6⟩ := X5.specialBack hx (y := yq8) rfl hown (mvT hZ (own_w hw 29 rfl)) (mvT hZ (own_w hw 30 rfl)) (mvT hZ (own_w hw 31 rfl)) (by decide) (backOf (W := 1) (rmStrA3_1 l Z a0 hw [] b1 b2 k2 cs p2 p3 p4 h5 n0 Z5 ((((A1.ext E2).wr W3).wr W4).wr W5) ((((F_coder_b1.ext E2).other W3 (Or.inl ne_b1_b2)).other W4 (Or.inl ne_b1_b2)).other W5 (Or.inl ne_b1_b2)) ((((F_value_b1.ext E2).other W3 (Or.inl ne_b1_b2)).other W4 (Or.inl ne_b1_b2)).other W5 (Or.inl ne_b1_b2)) V5 g_b1 ne_b1_b2 (((((P0.ext E1).ext E2).wr W3).wr W4).wr W5) hcs (((((P2.ext E1).ext E2).wr W3).wr W4).wr W5) (((((P3.ext E1).ext E2).wr W3).wr W4).wr W5) (((((P4.ext E1).ext E2).wr W3).wr W4).wr W5) hc0 hc1 hp3) hZ (own_w hw 31 rfl) (own_w hw 27 rfl) (by decide) (by decide)) (g := (mkF m 78 #[iv p1, iv p2, iv p3, iv p4] [.ref b2, .ref b1, .ref b1])) rfl (by rw [hml]; rfl) (Steps.refl _) (a := b1) (argsL := [(.ref b2)]) (rest := [(.ref b1)]) (lenOf pd___C_V rfl) rfl (by show 2 * 0 + _ ≤ _; exact Nat.le_of_eq rfl) (hb hby d5_78) (fun _ _ => ⟨rfl, e5, (by decide : 2 + 2 ≤ _), (by decide : 7 + 9 ≤ _)⟩)
  dsimp only [Pt.U, Pt.locs, Pt.cells, Pt.slots] at X6 l6 y6 z6 st6 hQ6
  subst l6 y6 z6
  obtain ⟨b_6, kb_6, rfl, Nq6, Kq6, Fq6_0, Fq6_1, Fq6_2, Fq6_3⟩ := hQ6
  have Nf6 := Fr.app Nf5 Nq6
  have K6 : Keep h0 T6.heap [] := K5.trans Kq6 (allS (Or.inr sz_b1) all0)
  have Z6 : n0 ≤ T6.heap.size := Nat.le_trans Z5 Kq6.1
  refine own_fw (A' := (T6.setTop (mkF m 81 #[iv p1, iv p2, iv p3, iv p4] [.ref b1]))) (fun t k => st6.trans k) ?_
  obtain ⟨fs, hr, hrun, hended, hW, hsame⟩ := X6.leave (v := some (.ref b1)) (fun h => by rw [Bd.returns] at h; cases h)
  refine ⟨_, _, ?_, hrun, hended, _, _, rfl, ?_, ⟨_, rfl⟩, hW, hsame.mono (by decide) (by decide)⟩
  · exact retOut X6 hx Bd.returns rfl (Or.inr (Or.inr (Or.inr (Or.inr ⟨rfl, rfl, rfl⟩)))) (hb hby d5_81) hr
  · show Q_rmDraw3_1 Z p1 p2 p3 p4 cs h0 n0 _ T6.heap _
    exact ⟨b1, b_6, kb_6, rfl, Nf6, K6, Fq6_0, Fq6_1, Fq6_2, Fq6_3, sz_b1⟩
theorem ef_rmDraw3_2 (m : MethodId) (p1 p2 p3 p4 : Int32) : entryFrame m #[(.int p1), (.int p2), (.int p3), (.int p4)] 4 = mkF m 0 #[.val (.int p1), .val (.int p2), .val (.int p3), .val (.int p4)] [] := by first | (simp [entryFrame, mkF, argsToLocals, Value.category]; done) | rfl
def Q_rmDraw3_2 (Z : State) (p1 p2 p3 p4 cs : Int32) (h0 : Heap) (n0 : Nat) (v : Option Value) (h : Heap) (L : List Loc) : Prop := ∃ b : Addr, ∃ sb : Addr, ∃ kb : ClassId, v = some (.ref b) ∧ Fr n0 L ∧ Keep h0 h [] ∧ Exa Z h b "java/lang/String" ∧ Fld Z h b "java/lang/String" "coder" "B" (.int 1) ∧ Fld Z h b "java/lang/String" "value" "[B" (.ref sb) ∧ Arv Z h sb kb .byte (6 : Int32) [(.int ((p2 >>> ((0 : Int32) &&& 31)).toInt8.toInt32)), (.int ((p2 >>> ((8 : Int32) &&& 31)).toInt8.toInt32)), (.int ((p3 >>> ((0 : Int32) &&& 31)).toInt8.toInt32)), (.int ((p3 >>> ((8 : Int32) &&& 31)).toInt8.toInt32)), (.int ((p4 >>> ((0 : Int32) &&& 31)).toInt8.toInt32)), (.int ((p4 >>> ((8 : Int32) &&& 31)).toInt8.toInt32))] (.int 0) ∧ (h0.size ≤ b)
theorem rmDraw3_2 (l : Launch) (Z : State) (a0 : Array Value) (hw : ∀ d ∈ tables_1, d.before a0 Z = true) (ws : List Jvm.Cond) (p1 p2 p3 p4 cs : Int32) (h0 : Heap) (n0 : Nat) (Z0 : n0 ≤ h0.size) (P0 : Sta Z h0 "java/lang/String" "COMPACT_STRINGS" "Z" (.int cs)) (hcs : ¬ (cs = (0 : Int32))) (P2 : Sta Z h0 "java/lang/StringUTF16" "$assertionsDisabled" "Z" (.int 1)) (P3 : Sta Z h0 "java/lang/StringUTF16" "HI_BYTE_SHIFT" "I" (.int 0)) (P4 : Sta Z h0 "java/lang/StringUTF16" "LO_BYTE_SHIFT" "I" (.int 8)) (m0 : ¬ (p1 = (0 : Int32))) (m1 : ¬ (p1 = (1 : Int32))) (m2 : ¬ (p1 = (2 : Int32))) (hp2 : own_c16 p2) (hp3 : own_c16 p3) (hp4 : own_c16 p4) (hc0 : ¬ ((255 : Int32) < p2)) (hc1 : ¬ ((255 : Int32) < p3)) (hc2 : (255 : Int32) < p4) :
    MetFree l yq61 (head1 (Jvm.Cond.code yq61 method_3_code 4 (some (.object "java/lang/String")) :: ws) rq67) (fun a U => a = #[(.int p1), (.int p2), (.int p3), (.int p4)] ∧ Z.Warmed39 U.vm ∧ U.heap = h0) (fun _ _ _ _ _ => True) (fun _ U o U' => ∃ v L, o = .returned v ∧ Q_rmDraw3_2 Z p1 p2 p3 p4 cs h0 n0 v U'.heap L ∧ FrameEnd U o U' L rq67.cells rq67.slots) := by
  refine MetFree.of_bodySF (plainFor_of_name pn_com_example_spanwise_spanwise_cli_InputFileIsStandardInputPinLaw) hisR ?_
  intro p e s m args below meth c s₁ Bd hml0 hP hK
  obtain ⟨rfl, hZ, hh⟩ := hP
  have hx := Bd.exec
  have hby := Bd.bytes
  have hml : c.maxLocals = 4 := hml0
  have hown : s.vm.findClass "com/example/spanwise/spanwise/cli/InputFileIsStandardInputPinLaw" = some m.cls := findClass_of_methodNamed Bd.named
  have hnm := (name_of_methodNamed Bd.named Bd.method).1
  have X0 : Stand p l e rq67 s m #[(.int p1), (.int p2), (.int p3), (.int p4)] below meth c s₁ [] 0 0 := Stand.of_body Bd
  have e0 : s₁.heap = h0 := by rw [← hh, Bd.state]; rfl
  have N0 := Fr.nil n0
  refine own_fw (A' := (s₁.setTop (mkF m 59 #[iv p1, iv p2, iv p3, iv p4] []))) (fun t k => castTop (ef_rmDraw3_2 m p1 p2 p3 p4) (XS.iloadN X0.here hx rfl (hb hby d5_0) rfl (XS.ifYes X0.here hx rfl (pc0 := 1) (pc' := 15) rfl (hb hby d5_1) rfl (XT.i0_ne_t m0) (by decide) (by decide) (XS.iloadN X0.here hx rfl (hb hby d5_15) rfl (XS.iconst X0.here hx rfl (hb hby d5_16) (XS.icmpYes X0.here hx rfl (pc0 := 17) (pc' := 35) rfl (hb hby d5_17) rfl (XT.ii_ne_t m1) (by decide) (by decide) (XS.iloadN X0.here hx rfl (hb hby d5_35) rfl (XS.iconst X0.here hx rfl (hb hby d5_36) (XS.icmpYes X0.here hx rfl (pc0 := 37) (pc' := 59) rfl (hb hby d5_37) rfl (XT.ii_ne_t m2) (by decide) (by decide) k))))))))) ?_
  obtain ⟨T1, h1, X1, e1, E1, A1, D1, -, st1⟩ := newO X0 hx hZ hown (own_w hw 25 rfl) (own_w hw 26 rfl) (own_w hw 27 rfl) e0 (g := (mkF m 59 #[iv p1, iv p2, iv p3, iv p4] [])) rfl (hb hby d5_59) (by decide) (by decide)
  obtain ⟨b1, gb1⟩ : ∃ z, z = h0.size := ⟨_, rfl⟩
  have g_b1 : n0 ≤ b1 := Nat.le_trans Z0 (Nat.le_of_eq gb1.symm)
  have sz_b1 : h0.size ≤ b1 := Nat.le_trans (Keep.refl h0 []).1 (Nat.le_of_eq gb1.symm)
  rw [← gb1] at A1 D1 st1
  have F_coder_b1 : Fld Z h1 b1 "java/lang/String" "coder" "B" (.int 0) := D1 (Or.inr (own_w hw 50 rfl)) (ty := .byte) (by decide)
  have F_value_b1 : Fld Z h1 b1 "java/lang/String" "value" "[B" .null := D1 (Or.inr (own_w hw 52 rfl)) (ty := (.array .byte)) (by decide)
  have K1 : Keep h0 h1 [] := (Keep.refl h0 []).ext E1
  have Z1 : n0 ≤ h1.size := Nat.le_trans Z0 E1.1
  refine own_fw (A' := (T1.setTop (mkF m 64 #[iv p1, iv p2, iv p3, iv p4] [.int 3, .ref b1, .ref b1]))) (fun t k => st1 _ (XS.dup X1.here hx rfl (hb hby d5_62) rfl rfl (XS.iconst X1.here hx rfl (hb hby d5_63) k))) ?_
  obtain ⟨T2, h2, k2, X2, e2, E2, A2, st2⟩ := newP X1 hx hZ (own_w hw 28 rfl) e1 (g := (mkF m 64 #[iv p1, iv p2, iv p3, iv p4] [.int 3, .ref b1, .ref b1])) rfl (hb hby d5_64) rfl (by decide) (cap := 3) (by decide) (by decide) (by decide) (by decide)
  obtain ⟨b2, gb2⟩ : ∃ z, z = h1.size := ⟨_, rfl⟩
  have g_b2 : n0 ≤ b2 := Nat.le_trans Z1 (Nat.le_of_eq gb2.symm)
  have sz_b2 : h0.size ≤ b2 := Nat.le_trans K1.1 (Nat.le_of_eq gb2.symm)
  have ne_b1_b2 : b1 ≠ b2 := Nat.ne_of_lt (Nat.lt_of_lt_of_le A1.lt (Nat.le_of_eq gb2.symm))
  rw [← gb2] at A2 st2
  have V_b2 : Arv Z h2 b2 k2 .char (3 : Int32) [(.int 0), (.int 0), (.int 0)] (.int 0) := (Arv.new A2 (by decide)).pad (pad_rep [] (.int 0) 3)
  have K2 : Keep h0 h2 [] := K1.ext E2
  have Z2 : n0 ≤ h2.size := Nat.le_trans Z1 E2.1
  refine own_fw (A' := (T2.setTop (mkF m 69 #[iv p1, iv p2, iv p3, iv p4] [.int p2, .int 0, .ref b2, .ref b2, .ref b1, .ref b1]))) (fun t k => st2 _ (XS.dup X2.here hx rfl (hb hby d5_66) rfl rfl (XS.iconst X2.here hx rfl (hb hby d5_67) (XS.iloadN X2.here hx rfl (hb hby d5_68) rfl k)))) ?_
  obtain ⟨cl3, Ar3, q3, S3, M3, H3, G3⟩ := id V_b2
  have hin3 : ¬ ((0 : Int32) < 0 ∨ cl3.slots.size ≤ ((0 : Int32)).toNatClampNeg) := inb_of S3 ⟨by decide, by decide⟩
  obtain ⟨T3, h3, X3, e3, W3, st3⟩ := stC X2 hx hZ e2 Ar3 (j := (0 : Int32)) hin3 (g := (mkF m 69 #[iv p1, iv p2, iv p3, iv p4] [.int p2, .int 0, .ref b2, .ref b2, .ref b1, .ref b1])) rfl rfl (hb hby d5_69)
  rw [(own_nar16 hp2)] at W3
  have V3 : Arv Z h3 b2 k2 .char (3 : Int32) [(.int p2), (.int 0), (.int 0)] (.int 0) := Arv.set Ar3 q3 S3 M3 H3 G3 (by have q := fits_nar_char p2; rw [own_nar16 hp2] at q; exact q) W3 0 rfl (Nat.le_of_ble_eq_true rfl)
  have Nf3 := Fr.snoc X3 N0 g_b2
  have K3 : Keep h0 h3 [] := K2.wr W3 (Or.inr sz_b2)
  have Z3 : n0 ≤ h3.size := Nat.le_trans Z2 (Keep.of_wr W3).1
  refine own_fw (A' := (T3.setTop (mkF m 73 #[iv p1, iv p2, iv p3, iv p4] [.int p3, .int 1, .ref b2, .ref b2, .ref b1, .ref b1]))) (fun t k => st3 _ (XS.dup X3.here hx rfl (hb hby d5_70) rfl rfl (XS.iconst X3.here hx rfl (hb hby d5_71) (XS.iloadN X3.here hx rfl (hb hby d5_72) rfl k)))) ?_
  obtain ⟨cl4, Ar4, q4, S4, M4, H4, G4⟩ := id V3
  have hin4 : ¬ ((1 : Int32) < 0 ∨ cl4.slots.size ≤ ((1 : Int32)).toNatClampNeg) := inb_of S4 ⟨by decide, by decide⟩
  obtain ⟨T4, h4, X4, e4, W4, st4⟩ := stC X3 hx hZ e3 Ar4 (j := (1 : Int32)) hin4 (g := (mkF m 73 #[iv p1, iv p2, iv p3, iv p4] [.int p3, .int 1, .ref b2, .ref b2, .ref b1, .ref b1])) rfl rfl (hb hby d5_73)
  rw [(own_nar16 hp3)] at W4
  have V4 : Arv Z h4 b2 k2 .char (3 : Int32) [(.int p2), (.int p3), (.int 0)] (.int 0) := Arv.set Ar4 q4 S4 M4 H4 G4 (by have q := fits_nar_char p3; rw [own_nar16 hp3] at q; exact q) W4 1 rfl (Nat.le_of_ble_eq_true rfl)
  have Nf4 := Fr.snoc X4 Nf3 g_b2
  have K4 : Keep h0 h4 [] := K3.wr W4 (Or.inr sz_b2)
  have Z4 : n0 ≤ h4.size := Nat.le_trans Z3 (Keep.of_wr W4).1
  refine own_fw (A' := (T4.setTop (mkF m 77 #[iv p1, iv p2, iv p3, iv p4] [.int p4, .int 2, .ref b2, .ref b2, .ref b1, .ref b1]))) (fun t k => st4 _ (XS.dup X4.here hx rfl (hb hby d5_74) rfl rfl (XS.iconst X4.here hx rfl (hb hby d5_75) (XS.iloadN X4.here hx rfl (hb hby d5_76) rfl k)))) ?_
  obtain ⟨cl5, Ar5, q5, S5, M5, H5, G5⟩ := id V4
  have hin5 : ¬ ((2 : Int32) < 0 ∨ cl5.slots.size ≤ ((2 : Int32)).toNatClampNeg) := inb_of S5 ⟨by decide, by decide⟩
  obtain ⟨T5, h5, X5, e5, W5, st5⟩ := stC X4 hx hZ e4 Ar5 (j := (2 : Int32)) hin5 (g := (mkF m 77 #[iv p1, iv p2, iv p3, iv p4] [.int p4, .int 2, .ref b2, .ref b2, .ref b1, .ref b1])) rfl rfl (hb hby d5_77)
  rw [(own_nar16 hp4)] at W5
  have V5 : Arv Z h5 b2 k2 .char (3 : Int32) [(.int p2), (.int p3), (.int p4)] (.int 0) := Arv.set Ar5 q5 S5 M5 H5 G5 (by have q := fits_nar_char p4; rw [own_nar16 hp4] at q; exact q) W5 2 rfl (Nat.le_of_ble_eq_true rfl)
  have Nf5 := Fr.snoc X5 Nf4 g_b2
  have K5 : Keep h0 h5 [] := K4.wr W5 (Or.inr sz_b2)
  have Z5 : n0 ≤ h5.size := Nat.le_trans Z4 (Keep.of_wr W5).1
  refine own_fw (A' := (T5.setTop (mkF m 78 #[iv p1, iv p2, iv p3, iv p4] [.ref b2, .ref b1, .ref b1]))) (fun t k => st5 _ k) ?_
  obtain ⟨_, _, ⟨T6, L6, k6, n6⟩, -, X6, ⟨Lc6, hQ6, l6, y6, z6⟩, st6⟩ := X5.specialBack hx (y := yq8) rfl hown (mvT hZ (own_w hw 29 rfl)) (mvT hZ (own_w hw 30 rfl)) (mvT hZ (own_w hw 31 rfl)) (by decide) (backOf (W := 1) (rmStrA3_2 l Z a0 hw [] b1 b2 k2 cs p2 p3 p4 h5 n0 Z5 ((((A1.ext E2).wr W3).wr W4).wr W5) ((((F_coder_b1.ext E2).other W3 (Or.inl ne_b1_b2)).other W4 (Or.inl ne_b1_b2)).other W5 (Or.inl ne_b1_b2)) ((((F_value_b1.ext E2).other W3 (Or.inl ne_b1_b2)).other W4 (Or.inl ne_b1_b2)).other W5 (Or.inl ne_b1_b2)) V5 g_b1 ne_b1_b2 (((((P0.ext E1).ext E2).wr W3).wr W4).wr W5) hcs (((((P2.ext E1).ext E2).wr W3).wr W4).wr W5) (((((P3.ext E1).ext E2).wr W3).wr W4).wr W5) (((((P4.ext E1).ext E2).wr W3).wr W4).wr W5) hc0 hc1 hc2 hp4) hZ (own_w hw 31 rfl) (own_w hw 27 rfl) (by decide) (by decide)) (g := (mkF m 78 #[iv p1, iv p2, iv p3, iv p4] [.ref b2, .ref b1, .ref b1])) rfl (by rw [hml]; rfl) (Steps.refl _) (a := b1) (argsL := [(.ref b2)]) (rest := [(.ref b1)]) (lenOf pd___C_V rfl) rfl (by show 2 * 0 + _ ≤ _; exact Nat.le_of_eq rfl) (hb hby d5_78) (fun _ _ => ⟨rfl, e5, (by decide : 2 + 2 ≤ _), (by decide : 7 + 9 ≤ _)⟩)
  dsimp only [Pt.U, Pt.locs, Pt.cells, Pt.slots] at X6 l6 y6 z6 st6 hQ6
  subst l6 y6 z6
  obtain ⟨b_6, kb_6, rfl, Nq6, Kq6, Fq6_0, Fq6_1, Fq6_2, Fq6_3⟩ := hQ6
  have Nf6 := Fr.app Nf5 Nq6
  have K6 : Keep h0 T6.heap [] := K5.trans Kq6 (allS (Or.inr sz_b1) all0)
  have Z6 : n0 ≤ T6.heap.size := Nat.le_trans Z5 Kq6.1
  refine own_fw (A' := (T6.setTop (mkF m 81 #[iv p1, iv p2, iv p3, iv p4] [.ref b1]))) (fun t k => st6.trans k) ?_
  obtain ⟨fs, hr, hrun, hended, hW, hsame⟩ := X6.leave (v := some (.ref b1)) (fun h => by rw [Bd.returns] at h; cases h)
  refine ⟨_, _, ?_, hrun, hended, _, _, rfl, ?_, ⟨_, rfl⟩, hW, hsame.mono (by decide) (by decide)⟩
  · exact retOut X6 hx Bd.returns rfl (Or.inr (Or.inr (Or.inr (Or.inr ⟨rfl, rfl, rfl⟩)))) (hb hby d5_81) hr
  · show Q_rmDraw3_2 Z p1 p2 p3 p4 cs h0 n0 _ T6.heap _
    exact ⟨b1, b_6, kb_6, rfl, Nf6, K6, Fq6_0, Fq6_1, Fq6_2, Fq6_3, sz_b1⟩
theorem pd__Ljava_lang_String__V : parseMethodDescriptor "(Ljava/lang/String;)V" = some ⟨[(.object "java/lang/String")], none⟩ := by decide +kernel
theorem pd__I_C : parseMethodDescriptor "(I)C" = some ⟨[.int], some .char⟩ := by decide +kernel
theorem pd__ICCC_Ljava_lang_String_ : parseMethodDescriptor "(ICCC)Ljava/lang/String;" = some ⟨[.int, .char, .char, .char], some (.object "java/lang/String")⟩ := by decide +kernel
theorem pd___I : parseMethodDescriptor "()I" = some ⟨[], some .int⟩ := by decide +kernel
theorem ef_rm0 (m : MethodId) (p1 p2 p3 p4 : Int32) : entryFrame m #[(.int p1), (.int p2), (.int p3), (.int p4)] maxLocals = mkF m 0 #[.val (.int p1), .val (.int p2), .val (.int p3), .val (.int p4), .unset, .unset, .unset] [] := by first | (simp [entryFrame, mkF, argsToLocals, Value.category, maxLocals]; done) | rfl
def Q_rm0 (Z : State) (p1 p2 p3 p4 cs : Int32) (sv : Value) (h0 : Heap) (n0 : Nat) (v : Option Value) (h : Heap) (L : List Loc) : Prop := v = some (.int 1) ∧ Fr n0 L
theorem rm0 (l : Launch) (Z : State) (a0 : Array Value) (hw : ∀ d ∈ tables_1, d.before a0 Z = true) (ws : List Jvm.Cond) (p1 p2 p3 p4 cs : Int32) (sv : Value) (h0 : Heap) (n0 : Nat) (Z0 : n0 ≤ h0.size) (P0 : Sta Z h0 "java/lang/String" "COMPACT_STRINGS" "Z" (.int cs)) (hcs : ¬ (cs = (0 : Int32))) (P2 : Sta Z h0 "java/lang/StringUTF16" "$assertionsDisabled" "Z" (.int 1)) (P3 : Sta Z h0 "java/lang/StringUTF16" "HI_BYTE_SHIFT" "I" (.int 0)) (P4 : Sta Z h0 "java/lang/StringUTF16" "LO_BYTE_SHIFT" "I" (.int 8)) (P5 : Sta Z h0 "jdk/internal/util/Preconditions" "SIOOBE_FORMATTER" "Ljava/util/function/BiFunction;" sv) (hsv : sv.isRef = true) :
    MetFree l x (head1 (Jvm.Cond.code x code maxLocals ret :: ws) room_1) (fun a U => a = #[(.int p1), (.int p2), (.int p3), (.int p4)] ∧ Z.Warmed39 U.vm ∧ U.heap = h0 ∧ CHv Z own_EL U.vm h0) (fun _ _ _ _ _ => True) (fun _ U o U' => ∃ v L, o = .returned v ∧ Q_rm0 Z p1 p2 p3 p4 cs sv h0 n0 v U'.heap L ∧ ReturnedEndW U o U' L room_1.cells room_1.slots) := by
  refine MetFree.of_bodySF (plainFor_of_name pn_com_example_spanwise_spanwise_cli_InputFileIsStandardInputPinLaw) hisR ?_
  intro p e s m args below meth c s₁ Bd hml0 hP hK
  obtain ⟨rfl, hZ, hh, hH⟩ := hP
  have hx := Bd.exec
  have hby := Bd.bytes
  have hml : c.maxLocals = 7 := hml0
  have hown : s.vm.findClass "com/example/spanwise/spanwise/cli/InputFileIsStandardInputPinLaw" = some m.cls := findClass_of_methodNamed Bd.named
  have hnm := (name_of_methodNamed Bd.named Bd.method).1
  have X0 : Stand p l e room_1 (s.setVm s.vm) m #[(.int p1), (.int p2), (.int p3), (.int p4)] below meth c s₁ [] 0 0 := Stand.of_body Bd
  have e0 : s₁.heap = h0 := by rw [← hh, Bd.state]; rfl
  have N0 := Fr.nil n0
  refine own_fw (A' := (s₁.setTop (mkF m 0 #[.val (.int p1), .val (.int p2), .val (.int p3), .val (.int p4), .unset, .unset, .unset] []))) (fun t k => castTop (ef_rm0 m p1 p2 p3 p4) k) ?_
  have hS : s.Since s.vm h0.size := (State.WarmedH.refl s).since _
  have hk : h0.size ≤ h0.size := Nat.le_refl _
  have hC : CHr Z own_EL s.vm h0 s.vm h0 := CHr.refl hH
  refine own_fw (A' := (s₁.setTop (mkF m 4 #[iv p1, iv p2, iv p3, iv p4, .unset, .unset, .unset] [.int (p1 &&& (7 : Int32))]))) (fun t k => XS.iloadN X0.here hx rfl (hb hby at_0) rfl (XS.bipush X0.here hx rfl (hb hby at_1) (XS.iand X0.here hx rfl (hb hby at_3) rfl k))) ?_
  by_cases hc1 : (p1 &&& (7 : Int32)) = (0 : Int32)
  · refine own_fw (A' := (s₁.setTop (mkF m 71 #[iv p1, iv p2, iv p3, iv p4, .val (.null), iv 1, .unset] []))) (fun t k => XS.ifNo X0.here hx rfl (hb hby at_4) rfl (XT.i0_ne_f hc1) (XS.aconstNull X0.here hx rfl (hb hby at_7) (XS.astore X0.here hx rfl (hb hby at_8) rfl rfl (l' := #[.val (.int p1), .val (.int p2), .val (.int p3), .val (.int p4), .val .null, .unset, .unset]) rfl (XS.goto X0.here hx rfl (pc0 := 10) (pc' := 39) rfl (hb hby at_10) (by decide) (by decide) (XS.aload X0.here hx rfl (hb hby at_39) rfl rfl (XS.ifnullYes X0.here hx rfl (pc0 := 41) (pc' := 64) rfl (hb hby at_41) rfl (by decide) (by decide) (XS.iconst X0.here hx rfl (hb hby at_64) (XS.goto X0.here hx rfl (pc0 := 65) (pc' := 69) rfl (hb hby at_65) (by decide) (by decide) (XS.istore X0.here hx rfl (hb hby at_69) rfl (l' := #[.val (.int p1), .val (.int p2), .val (.int p3), .val (.int p4), .val .null, .val (.int 1), .unset]) rfl k))))))))) ?_
    obtain ⟨T2, h2, X2, e2, E2, A2, D2, -, st2⟩ := newO X0 hx hZ hown (own_w hw 0 rfl) (own_w hw 1 rfl) (own_w hw 2 rfl) e0 (g := (mkF m 71 #[iv p1, iv p2, iv p3, iv p4, .val (.null), iv 1, .unset] [])) rfl (hb hby at_71) (by decide) (by decide)
    obtain ⟨b2, gb2⟩ : ∃ z, z = h0.size := ⟨_, rfl⟩
    have g_b2 : n0 ≤ b2 := Nat.le_trans Z0 (Nat.le_of_eq gb2.symm)
    have sz_b2 : h0.size ≤ b2 := Nat.le_trans (Keep.refl h0 []).1 (Nat.le_of_eq gb2.symm)
    rw [← gb2] at A2 D2 st2
    have F3 : Safe Z own_EL _ h2 b2 := (Safe.ext E2 hH (Safe.new (Nat.le_of_eq gb2.symm) : Safe Z own_EL _ h0 b2))
    have F_path_b2 : Fld Z h2 b2 "com/example/spanwise/spanwise/cli/InputFile" "path" "Ljava/lang/String;" .null := D2 (Or.inr (own_w hw 10 rfl)) (ty := (.object "java/lang/String")) (by decide)
    have K2 : Keep h0 h2 [] := (Keep.refl h0 []).ext E2
    have Z2 : n0 ≤ h2.size := Nat.le_trans Z0 E2.1
    have hk := Nat.le_trans hk E2.1
    have hC := hC.trans (CHr.ext E2 hH)
    have hH := hC.1
    refine own_fw (A' := (T2.setTop (mkF m 77 #[iv p1, iv p2, iv p3, iv p4, .val (.null), iv 1, .unset] [.null, .ref b2, .ref b2]))) (fun t k => st2 _ (XS.dup X2.here hx rfl (hb hby at_74) rfl rfl (XS.aload X2.here hx rfl (hb hby at_75) rfl rfl k))) ?_
    obtain ⟨_, _, ⟨T4, L4, k4, n4⟩, -, X4, ⟨Lc4, hQ4, l4, y4, z4⟩, st4⟩ := X2.specialBack hx (y := yq55) rfl hown (mvT hZ (own_w hw 3 rfl)) (mvT hZ (own_w hw 4 rfl)) (mvT hZ (own_w hw 5 rfl)) (by decide) (backOf (W := 1) (rmIniN l Z a0 hw [] b2 h2 n0 Z2 A2 F_path_b2 g_b2) hZ (own_w hw 5 rfl) (own_w hw 2 rfl) (by decide) (by decide)) (g := (mkF m 77 #[iv p1, iv p2, iv p3, iv p4, .val (.null), iv 1, .unset] [.null, .ref b2, .ref b2])) rfl (by rw [hml]; rfl) (Steps.refl _) (a := b2) (argsL := [.null]) (rest := [(.ref b2)]) (lenOf pd__Ljava_lang_String__V rfl) rfl (by show 2 * 0 + _ ≤ _; exact Nat.le_of_eq rfl) (hb hby at_77) (fun _ _ => ⟨rfl, e2, (by decide : 1 + 0 ≤ _), (by decide : 1 + 0 ≤ _)⟩)
    dsimp only [Pt.U, Pt.locs, Pt.cells, Pt.slots] at X4 l4 y4 z4 st4 hQ4
    subst l4 y4 z4
    obtain ⟨rfl, Nq4, Kq4, Fq4_0, Fq4_1⟩ := hQ4
    have Nf4 := Fr.app N0 Nq4
    have hk := Nat.le_trans hk Kq4.1
    have F5 : Safe Z own_EL _ T4.heap b2 := (Safe.keep Kq4 (sfS F3 sf0) hH F3)
    have hC := hC.trans (CHr.keep Kq4 (sfS F3 sf0) hH)
    have hH := hC.1
    have K4 : Keep h0 T4.heap [] := K2.trans Kq4 (allS (Or.inr sz_b2) all0)
    have Z4 : n0 ≤ T4.heap.size := Nat.le_trans Z2 Kq4.1
    refine own_fw (A' := (T4.setTop (mkF m 84 #[iv p1, iv p2, iv p3, iv p4, .val (.null), iv 1, rv b2] [.ref b2]))) (fun t k => st4.trans (XS.astore X4.here hx rfl (hb hby at_80) rfl rfl (l' := #[.val (.int p1), .val (.int p2), .val (.int p3), .val (.int p4), .val .null, .val (.int 1), .val (.ref b2)]) rfl (XS.aload X4.here hx rfl (hb hby at_82) rfl rfl k))) ?_
    obtain ⟨cq6, kq6, qa6, qb6, qc6⟩ := isOf hZ rfl Fq4_0
    obtain ⟨_, _, ⟨T6, L6, k6, n6⟩, -, X6, ⟨Lc6, hQ6, l6, y6, z6⟩, st6⟩ := X4.virtualBack hx (y := yq58) (z := yq58) hown (mvT hZ (own_w hw 11 rfl)) (mvT hZ (own_w hw 12 rfl)) (notFace_of_selects (args := #[]) (mvT hZ (own_w hw 14 rfl))) (mvT hZ (own_w hw 14 rfl)) (mvT hZ (own_w hw 13 rfl)) (by decide) (backOf (W := 0) (rmIsN l Z a0 hw [] b2 T4.heap n0 Z4 Fq4_1) hZ (own_w hw 15 rfl) (own_w hw 2 rfl) (by decide) (by decide)) qa6 qc6 (g := (mkF m 84 #[iv p1, iv p2, iv p3, iv p4, .val (.null), iv 1, rv b2] [.ref b2])) rfl (by rw [hml]; rfl) (Steps.refl _) (argsL := []) (rest := []) (lenOf pd___Z rfl) rfl (by show 2 * 0 + _ ≤ _; exact Nat.le_of_eq rfl) (hb hby at_84) (fun _ _ => ⟨rfl, rfl, (by decide : 1 + 0 ≤ _), (by decide : 1 + 0 ≤ _)⟩)
    dsimp only [Pt.U, Pt.locs, Pt.cells, Pt.slots] at X6 l6 y6 z6 st6 hQ6
    subst l6 y6 z6
    obtain ⟨rfl, Nq6, e6⟩ := hQ6
    have Nf6 := Fr.app Nf4 Nq6
    refine own_fw (A' := (T6.setTop (mkF m 97 #[iv p1, iv p2, iv p3, iv p4, .val (.null), iv 1, rv b2] [.int 1]))) (fun t k => st6.trans (XS.iload X6.here hx rfl (hb hby at_87) rfl (XS.icmpNo X6.here hx rfl (hb hby at_89) rfl (XT.ii_ne_f rfl) (XS.iconst X6.here hx rfl (hb hby at_92) (XS.goto X6.here hx rfl (pc0 := 93) (pc' := 97) rfl (hb hby at_93) (by decide) (by decide) k))))) ?_
    obtain ⟨fs, hr, hrun, hended, hWE⟩ := X6.leaveW hS (by rw [e6]; exact hk : _ ≤ T6.heap.size) (v := some (.int 1)) (fun h => by rw [Bd.returns] at h; cases h)
    refine ⟨_, _, ?_, hrun, hended, _, _, rfl, ?_, own_widen hWE (by decide) (by decide)⟩
    · exact retOut X6 hx Bd.returns rfl (Or.inl ⟨rfl, by simp, _, rfl⟩) (hb hby at_97) hr
    · show Q_rm0 Z p1 p2 p3 p4 cs sv h0 n0 _ T6.heap _
      rw [e6]
      exact ⟨rfl, Nf6⟩
  · refine own_fw (A' := (s₁.setTop (mkF m 20 #[iv p1, iv p2, iv p3, iv p4, .unset, iv (((p1.toUInt32 >>> ((3 : Int32) &&& 31).toUInt32).toInt32) &&& (3 : Int32)), .unset] []))) (fun t k => XS.ifYes X0.here hx rfl (pc0 := 4) (pc' := 13) rfl (hb hby at_4) rfl (XT.i0_ne_t hc1) (by decide) (by decide) (XS.iloadN X0.here hx rfl (hb hby at_13) rfl (XS.iconst X0.here hx rfl (hb hby at_14) (XS.iushr X0.here hx rfl (hb hby at_15) rfl (XS.iconst X0.here hx rfl (hb hby at_16) (XS.iand X0.here hx rfl (hb hby at_17) rfl (XS.istore X0.here hx rfl (hb hby at_18) rfl (l' := #[.val (.int p1), .val (.int p2), .val (.int p3), .val (.int p4), .unset, .val (.int (((p1.toUInt32 >>> ((3 : Int32) &&& 31).toUInt32).toInt32) &&& (3 : Int32))), .unset]) rfl k))))))) ?_
    obtain ⟨nn, h_nn⟩ : ∃ z : Int32, z = (((p1.toUInt32 >>> ((3 : Int32) &&& 31).toUInt32).toInt32) &&& (3 : Int32)) := ⟨_, rfl⟩
    rw [← h_nn]
    by_cases hc7 : nn = (0 : Int32)
    · refine own_fw (A' := (s₁.setTop (mkF m 23 #[iv p1, iv p2, iv p3, iv p4, .unset, iv nn, .unset] [.int p2, .int nn]))) (fun t k => XS.iload X0.here hx rfl (hb hby at_20) rfl (XS.iloadN X0.here hx rfl (hb hby at_22) rfl k)) ?_
      obtain ⟨_, _, ⟨T8, L8, k8, n8⟩, -, X8, ⟨Lc8, hQ8, l8, y8, z8⟩, st8⟩ := Jvm.LawKit.callS X0 hx (y := yq59) hown (mvT hZ (own_w hw 16 rfl)) (mvT hZ (own_w hw 17 rfl)) (mvT hZ (own_w hw 18 rfl)) (mvT hZ (own_w hw 19 rfl)) (by decide) (backOf (W := 1) (rmPick l Z a0 hw [] p2 h0 n0 Z0 ) hZ (own_w hw 19 rfl) (own_w hw 18 rfl) (by decide) (by decide)) (g := (mkF m 23 #[iv p1, iv p2, iv p3, iv p4, .unset, iv nn, .unset] [.int p2, .int nn])) rfl (by rw [hml]; rfl) (argsL := [(.int p2)]) (rest := [(.int nn)]) (lenOf pd__I_C rfl) rfl (by show 2 * 0 + _ ≤ _; exact Nat.le_of_eq rfl) (hb hby at_23) (fun _ _ => ⟨rfl, e0, (by decide : 0 + 0 ≤ _), (by decide : 0 + 0 ≤ _)⟩)
      dsimp only [Pt.U, Pt.locs, Pt.cells, Pt.slots] at X8 l8 y8 z8 st8 hQ8
      subst l8 y8 z8
      obtain ⟨r_8, rfl, Nq8, e8, hr_8⟩ := hQ8
      have Nf8 := Fr.app N0 Nq8
      refine own_fw (A' := (T8.setTop (mkF m 27 #[iv p1, iv p2, iv p3, iv p4, .unset, iv nn, .unset] [.int p3, .int r_8, .int nn]))) (fun t k => st8 _ (XS.iloadN X8.here hx rfl (hb hby at_26) rfl k)) ?_
      obtain ⟨_, _, ⟨T9, L9, k9, n9⟩, -, X9, ⟨Lc9, hQ9, l9, y9, z9⟩, st9⟩ := Jvm.LawKit.callS X8 hx (y := yq59) hown (mvT hZ (own_w hw 16 rfl)) (mvT hZ (own_w hw 17 rfl)) (mvT hZ (own_w hw 18 rfl)) (mvT hZ (own_w hw 19 rfl)) (by decide) (backOf (W := 2) (rmPick l Z a0 hw [] p3 h0 n0 Z0 ) hZ (own_w hw 19 rfl) (own_w hw 18 rfl) (by decide) (by decide)) (g := (mkF m 27 #[iv p1, iv p2, iv p3, iv p4, .unset, iv nn, .unset] [.int p3, .int r_8, .int nn])) rfl (by rw [hml]; rfl) (argsL := [(.int p3)]) (rest := [(.int r_8), (.int nn)]) (lenOf pd__I_C rfl) rfl (by show 2 * 0 + _ ≤ _; exact Nat.le_of_eq rfl) (hb hby at_27) (fun _ _ => ⟨rfl, e8, (by decide : 0 + 0 ≤ _), (by decide : 0 + 0 ≤ _)⟩)
      dsimp only [Pt.U, Pt.locs, Pt.cells, Pt.slots] at X9 l9 y9 z9 st9 hQ9
      subst l9 y9 z9
      obtain ⟨r_9, rfl, Nq9, e9, hr_9⟩ := hQ9
      have Nf9 := Fr.app Nf8 Nq9
      refine own_fw (A' := (T9.setTop (mkF m 31 #[iv p1, iv p2, iv p3, iv p4, .unset, iv nn, .unset] [.int p4, .int r_9, .int r_8, .int nn]))) (fun t k => st9 _ (XS.iloadN X9.here hx rfl (hb hby at_30) rfl k)) ?_
      obtain ⟨_, _, ⟨T10, L10, k10, n10⟩, -, X10, ⟨Lc10, hQ10, l10, y10, z10⟩, st10⟩ := Jvm.LawKit.callS X9 hx (y := yq59) hown (mvT hZ (own_w hw 16 rfl)) (mvT hZ (own_w hw 17 rfl)) (mvT hZ (own_w hw 18 rfl)) (mvT hZ (own_w hw 19 rfl)) (by decide) (backOf (W := 3) (rmPick l Z a0 hw [] p4 h0 n0 Z0 ) hZ (own_w hw 19 rfl) (own_w hw 18 rfl) (by decide) (by decide)) (g := (mkF m 31 #[iv p1, iv p2, iv p3, iv p4, .unset, iv nn, .unset] [.int p4, .int r_9, .int r_8, .int nn])) rfl (by rw [hml]; rfl) (argsL := [(.int p4)]) (rest := [(.int r_9), (.int r_8), (.int nn)]) (lenOf pd__I_C rfl) rfl (by show 2 * 0 + _ ≤ _; exact Nat.le_of_eq rfl) (hb hby at_31) (fun _ _ => ⟨rfl, e9, (by decide : 0 + 0 ≤ _), (by decide : 0 + 0 ≤ _)⟩)
      dsimp only [Pt.U, Pt.locs, Pt.cells, Pt.slots] at X10 l10 y10 z10 st10 hQ10
      subst l10 y10 z10
      obtain ⟨r_10, rfl, Nq10, e10, hr_10⟩ := hQ10
      have Nf10 := Fr.app Nf9 Nq10
      refine own_fw (A' := (T10.setTop (mkF m 34 #[iv p1, iv p2, iv p3, iv p4, .unset, iv nn, .unset] [.int r_10, .int r_9, .int r_8, .int nn]))) (fun t k => st10 _ k) ?_
      obtain ⟨_, _, ⟨T11, L11, k11, n11⟩, -, X11, hS11, gS11, ⟨Lc11, hQ11, l11, y11, z11, r11⟩, st11⟩ := callSS X10 hx (y := yq61) hown (mvT hZ (own_w hw 22 rfl)) (mvT hZ (own_w hw 23 rfl)) (mvT hZ (own_w hw 18 rfl)) (mvT hZ (own_w hw 24 rfl)) (by decide) (backOfSH (W := 0) (rmDraw0 l Z a0 hw [] nn r_8 r_9 r_10 cs h0 n0 Z0 P0 hcs P2 P3 P4 hc7 hr_8 hr_9 hr_10) hZ (own_w hw 24 rfl) (own_w hw 18 rfl) (by decide) (by decide) (own_EW hw) hH) (g := (mkF m 34 #[iv p1, iv p2, iv p3, iv p4, .unset, iv nn, .unset] [.int r_10, .int r_9, .int r_8, .int nn])) rfl (by rw [hml]; rfl) (argsL := [(.int nn), (.int r_8), (.int r_9), (.int r_10)]) (rest := []) (lenOf pd__ICCC_Ljava_lang_String_ rfl) rfl (by show 2 * 0 + _ ≤ _; exact Nat.le_of_eq rfl) (hb hby at_34) (fun _ _ => ⟨rfl, e10, (by decide : 0 + 6 ≤ _), (by decide : 0 + 12 ≤ _)⟩)
      dsimp only [Pt.U, Pt.locs, Pt.cells, Pt.slots] at X11 l11 y11 z11 st11 hQ11 hS11 gS11 r11
      subst l11 y11 z11
      obtain ⟨X11, hS, hZ', hown⟩ := rebS hS (by rw [e10]; exact hk : _ ≤ T10.heap.size) X11 hS11 gS11 hZ hown
      have hk : T11.heap.size ≤ T11.heap.size := Nat.le_refl _
      obtain ⟨b_11, sb_11, kb_11, rfl, Nq11, Kq11, Fq11_0, Fq11_1, Fq11_2, Fq11_3, gb_11⟩ := hQ11
      have Nf11 := Fr.app Nf10 Nq11
      have hC := hC.trans r11
      have hH := hC.1
      have hZ := hZ'
      have K11 : Keep h0 T11.heap [] := (Keep.refl h0 []).trans Kq11 all0
      have sz_b_11 : h0.size ≤ b_11 := Nat.le_trans (Keep.refl h0 []).1 gb_11
      have g_b_11 : n0 ≤ b_11 := Nat.le_trans Z0 gb_11
      have Z11 : n0 ≤ T11.heap.size := Nat.le_trans Z0 Kq11.1
      refine own_fw (A' := (T11.setTop (mkF m 46 #[iv p1, iv p2, iv p3, iv p4, rv b_11, iv nn, .unset] [.ref b_11]))) (fun t k => st11.trans (XS.astore X11.here hx rfl (hb hby at_37) rfl rfl (l' := #[.val (.int p1), .val (.int p2), .val (.int p3), .val (.int p4), .val (.ref b_11), .val (.int nn), .unset]) rfl (XS.aload X11.here hx rfl (hb hby at_39) rfl rfl (XS.ifnullNo X11.here hx rfl (hb hby at_41) rfl (XS.aload X11.here hx rfl (hb hby at_44) rfl rfl k))))) ?_
      obtain ⟨cq12, kq12, qa12, qb12, qc12⟩ := isOf hZ rfl Fq11_0
      obtain ⟨_, _, ⟨T12, L12, k12, n12⟩, -, X12, ⟨Lc12, hQ12, l12, y12, z12⟩, st12⟩ := X11.virtualBack hx (y := yq43) (z := yq43) hown (mvT hZ (own_w hw 53 rfl)) (mvT hZ (own_w hw 54 rfl)) (notFace_of_selects (args := #[]) (mvT hZ (own_w hw 56 rfl))) (mvT hZ (own_w hw 56 rfl)) (mvT hZ (own_w hw 55 rfl)) (by decide) (backOf (W := 0) (rmLnL0 l Z a0 hw [] b_11 sb_11 kb_11 cs T11.heap n0 Z11 Fq11_0 Fq11_1 Fq11_2 Fq11_3 (own_staKeep P0 Kq11 all0) hcs) hZ (own_w hw 57 rfl) (own_w hw 27 rfl) (by decide) (by decide)) qa12 qc12 (g := (mkF m 46 #[iv p1, iv p2, iv p3, iv p4, rv b_11, iv nn, .unset] [.ref b_11])) rfl (by rw [hml]; rfl) (Steps.refl _) (argsL := []) (rest := []) (lenOf pd___I rfl) rfl (by show 2 * 0 + _ ≤ _; exact Nat.le_of_eq rfl) (hb hby at_46) (fun _ _ => ⟨rfl, rfl, (by decide : 6 + 0 ≤ _), (by decide : 12 + 0 ≤ _)⟩)
      dsimp only [Pt.U, Pt.locs, Pt.cells, Pt.slots] at X12 l12 y12 z12 st12 hQ12
      subst l12 y12 z12
      obtain ⟨rfl, Nq12, e12⟩ := hQ12
      have Nf12 := Fr.app Nf11 Nq12
      refine own_fw (A' := (T12.setTop (mkF m 71 #[iv p1, iv p2, iv p3, iv p4, rv b_11, iv 0, .unset] []))) (fun t k => st12.trans (XS.iconst X12.here hx rfl (hb hby at_49) (XS.icmpYes X12.here hx rfl (pc0 := 50) (pc' := 68) rfl (hb hby at_50) rfl (XT.ii_ne_t (by decide)) (by decide) (by decide) (XS.iconst X12.here hx rfl (hb hby at_68) (XS.istore X12.here hx rfl (hb hby at_69) rfl (l' := #[.val (.int p1), .val (.int p2), .val (.int p3), .val (.int p4), .val (.ref b_11), .val (.int 0), .unset]) rfl k))))) ?_
      obtain ⟨T13, h13, X13, e13, E13, A13, D13, -, st13⟩ := newO X12 hx hZ hown (own_w hw 0 rfl) (own_w hw 1 rfl) (own_w hw 2 rfl) e12 (g := (mkF m 71 #[iv p1, iv p2, iv p3, iv p4, rv b_11, iv 0, .unset] [])) rfl (hb hby at_71) (by decide) (by decide)
      obtain ⟨b13, gb13⟩ : ∃ z, z = T11.heap.size := ⟨_, rfl⟩
      have g_b13 : n0 ≤ b13 := Nat.le_trans Z11 (Nat.le_of_eq gb13.symm)
      have sz_b13 : h0.size ≤ b13 := Nat.le_trans K11.1 (Nat.le_of_eq gb13.symm)
      have ne_b_11_b13 : b_11 ≠ b13 := Nat.ne_of_lt (Nat.lt_of_lt_of_le Fq11_0.lt (Nat.le_of_eq gb13.symm))
      have ne_sb_11_b13 : sb_11 ≠ b13 := Nat.ne_of_lt (Nat.lt_of_lt_of_le Fq11_3.lt (Nat.le_of_eq gb13.symm))
      rw [← gb13] at A13 D13 st13
      have F14 : Safe Z own_EL _ h13 b13 := (Safe.ext E13 hH (Safe.new (Nat.le_of_eq gb13.symm) : Safe Z own_EL _ T11.heap b13))
      have F_path_b13 : Fld Z h13 b13 "com/example/spanwise/spanwise/cli/InputFile" "path" "Ljava/lang/String;" .null := D13 (Or.inr (own_w hw 10 rfl)) (ty := (.object "java/lang/String")) (by decide)
      have K13 : Keep h0 h13 [] := K11.ext E13
      have Z13 : n0 ≤ h13.size := Nat.le_trans Z11 E13.1
      have hk := Nat.le_trans hk E13.1
      have hC := hC.trans (CHr.ext E13 hH)
      have hH := hC.1
      refine own_fw (A' := (T13.setTop (mkF m 77 #[iv p1, iv p2, iv p3, iv p4, rv b_11, iv 0, .unset] [.ref b_11, .ref b13, .ref b13]))) (fun t k => st13 _ (XS.dup X13.here hx rfl (hb hby at_74) rfl rfl (XS.aload X13.here hx rfl (hb hby at_75) rfl rfl k))) ?_
      obtain ⟨_, _, ⟨T15, L15, k15, n15⟩, -, X15, hS15, gS15, ⟨Lc15, hQ15, l15, y15, z15, r15⟩, st15⟩ := X13.specialBackS hx (y := yq55) rfl hown (mvT hZ (own_w hw 3 rfl)) (mvT hZ (own_w hw 4 rfl)) (mvT hZ (own_w hw 5 rfl)) (by decide) (backOfSH (W := 1) (rmIniL0 l Z a0 hw [] b13 b_11 sb_11 kb_11 cs h13 n0 Z13 A13 F_path_b13 g_b13 (Fq11_0.ext E13) (Fq11_1.ext E13) (Fq11_2.ext E13) (Fq11_3.ext E13) ((own_staKeep P0 Kq11 all0).ext E13) hcs) hZ (own_w hw 5 rfl) (own_w hw 2 rfl) (by decide) (by decide) (own_EW hw) hH) (g := (mkF m 77 #[iv p1, iv p2, iv p3, iv p4, rv b_11, iv 0, .unset] [.ref b_11, .ref b13, .ref b13])) rfl (by rw [hml]; rfl) (Steps.refl _) (a := b13) (argsL := [(.ref b_11)]) (rest := [(.ref b13)]) (lenOf pd__Ljava_lang_String__V rfl) rfl (by show 2 * 0 + _ ≤ _; exact Nat.le_of_eq rfl) (hb hby at_77) (fun _ _ => ⟨rfl, e13, (by decide : 7 + 2 ≤ _), (by decide : 13 + 8 ≤ _)⟩)
      dsimp only [Pt.U, Pt.locs, Pt.cells, Pt.slots] at X15 l15 y15 z15 st15 hQ15 hS15 gS15 r15
      subst l15 y15 z15
      obtain ⟨X15, hS, hZ', hown⟩ := rebS hS (by rw [e13]; exact hk : _ ≤ T13.heap.size) X15 hS15 gS15 hZ hown
      have hk : T15.heap.size ≤ T15.heap.size := Nat.le_refl _
      obtain ⟨rfl, Nq15, Kq15, Fq15_0, Fq15_1⟩ := hQ15
      have Nf15 := Fr.app Nf12 Nq15
      have F16 : Safe Z own_EL _ T15.heap b13 := (CHr.safe r15 A13.lt F14)
      have hC := hC.trans r15
      have hH := hC.1
      have hZ := hZ'
      have K15 : Keep h0 T15.heap [] := K13.trans Kq15 (allS (Or.inr sz_b13) all0)
      have Z15 : n0 ≤ T15.heap.size := Nat.le_trans Z13 Kq15.1
      refine own_fw (A' := (T15.setTop (mkF m 84 #[iv p1, iv p2, iv p3, iv p4, rv b_11, iv 0, rv b13] [.ref b13]))) (fun t k => st15.trans (XS.astore X15.here hx rfl (hb hby at_80) rfl rfl (l' := #[.val (.int p1), .val (.int p2), .val (.int p3), .val (.int p4), .val (.ref b_11), .val (.int 0), .val (.ref b13)]) rfl (XS.aload X15.here hx rfl (hb hby at_82) rfl rfl k))) ?_
      obtain ⟨cq17, kq17, qa17, qb17, qc17⟩ := isOf hZ rfl Fq15_0
      obtain ⟨_, _, ⟨T17, L17, k17, n17⟩, -, X17, ⟨Lc17, hQ17, l17, y17, z17⟩, st17⟩ := X15.virtualBack hx (y := yq58) (z := yq58) hown (mvT hZ (own_w hw 11 rfl)) (mvT hZ (own_w hw 12 rfl)) (notFace_of_selects (args := #[]) (mvT hZ (own_w hw 14 rfl))) (mvT hZ (own_w hw 14 rfl)) (mvT hZ (own_w hw 13 rfl)) (by decide) (backOf (W := 0) (rmIsR l Z a0 hw [] b13 b_11 T15.heap n0 Z15 Fq15_1) hZ (own_w hw 15 rfl) (own_w hw 2 rfl) (by decide) (by decide)) qa17 qc17 (g := (mkF m 84 #[iv p1, iv p2, iv p3, iv p4, rv b_11, iv 0, rv b13] [.ref b13])) rfl (by rw [hml]; rfl) (Steps.refl _) (argsL := []) (rest := []) (lenOf pd___Z rfl) rfl (by show 2 * 0 + _ ≤ _; exact Nat.le_of_eq rfl) (hb hby at_84) (fun _ _ => ⟨rfl, rfl, (by decide : 9 + 0 ≤ _), (by decide : 21 + 0 ≤ _)⟩)
      dsimp only [Pt.U, Pt.locs, Pt.cells, Pt.slots] at X17 l17 y17 z17 st17 hQ17
      subst l17 y17 z17
      obtain ⟨rfl, Nq17, e17⟩ := hQ17
      have Nf17 := Fr.app Nf15 Nq17
      refine own_fw (A' := (T17.setTop (mkF m 97 #[iv p1, iv p2, iv p3, iv p4, rv b_11, iv 0, rv b13] [.int 1]))) (fun t k => st17.trans (XS.iload X17.here hx rfl (hb hby at_87) rfl (XS.icmpNo X17.here hx rfl (hb hby at_89) rfl (XT.ii_ne_f rfl) (XS.iconst X17.here hx rfl (hb hby at_92) (XS.goto X17.here hx rfl (pc0 := 93) (pc' := 97) rfl (hb hby at_93) (by decide) (by decide) k))))) ?_
      obtain ⟨fs, hr, hrun, hended, hWE⟩ := X17.leaveW hS (by rw [e17]; exact hk : _ ≤ T17.heap.size) (v := some (.int 1)) (fun h => by rw [Bd.returns] at h; cases h)
      refine ⟨_, _, ?_, hrun, hended, _, _, rfl, ?_, own_widen hWE (by decide) (by decide)⟩
      · exact retOut X17 hx Bd.returns rfl (Or.inl ⟨rfl, by simp, _, rfl⟩) (hb hby at_97) hr
      · show Q_rm0 Z p1 p2 p3 p4 cs sv h0 n0 _ T17.heap _
        rw [e17]
        exact ⟨rfl, Nf17⟩
    · by_cases hc18 : nn = (1 : Int32)
      · refine own_fw (A' := (s₁.setTop (mkF m 23 #[iv p1, iv p2, iv p3, iv p4, .unset, iv nn, .unset] [.int p2, .int nn]))) (fun t k => XS.iload X0.here hx rfl (hb hby at_20) rfl (XS.iloadN X0.here hx rfl (hb hby at_22) rfl k)) ?_
        obtain ⟨_, _, ⟨T19, L19, k19, n19⟩, -, X19, ⟨Lc19, hQ19, l19, y19, z19⟩, st19⟩ := Jvm.LawKit.callS X0 hx (y := yq59) hown (mvT hZ (own_w hw 16 rfl)) (mvT hZ (own_w hw 17 rfl)) (mvT hZ (own_w hw 18 rfl)) (mvT hZ (own_w hw 19 rfl)) (by decide) (backOf (W := 1) (rmPick l Z a0 hw [] p2 h0 n0 Z0 ) hZ (own_w hw 19 rfl) (own_w hw 18 rfl) (by decide) (by decide)) (g := (mkF m 23 #[iv p1, iv p2, iv p3, iv p4, .unset, iv nn, .unset] [.int p2, .int nn])) rfl (by rw [hml]; rfl) (argsL := [(.int p2)]) (rest := [(.int nn)]) (lenOf pd__I_C rfl) rfl (by show 2 * 0 + _ ≤ _; exact Nat.le_of_eq rfl) (hb hby at_23) (fun _ _ => ⟨rfl, e0, (by decide : 0 + 0 ≤ _), (by decide : 0 + 0 ≤ _)⟩)
        dsimp only [Pt.U, Pt.locs, Pt.cells, Pt.slots] at X19 l19 y19 z19 st19 hQ19
        subst l19 y19 z19
        obtain ⟨r_19, rfl, Nq19, e19, hr_19⟩ := hQ19
        have Nf19 := Fr.app N0 Nq19
        refine own_fw (A' := (T19.setTop (mkF m 27 #[iv p1, iv p2, iv p3, iv p4, .unset, iv nn, .unset] [.int p3, .int r_19, .int nn]))) (fun t k => st19 _ (XS.iloadN X19.here hx rfl (hb hby at_26) rfl k)) ?_
        obtain ⟨_, _, ⟨T20, L20, k20, n20⟩, -, X20, ⟨Lc20, hQ20, l20, y20, z20⟩, st20⟩ := Jvm.LawKit.callS X19 hx (y := yq59) hown (mvT hZ (own_w hw 16 rfl)) (mvT hZ (own_w hw 17 rfl)) (mvT hZ (own_w hw 18 rfl)) (mvT hZ (own_w hw 19 rfl)) (by decide) (backOf (W := 2) (rmPick l Z a0 hw [] p3 h0 n0 Z0 ) hZ (own_w hw 19 rfl) (own_w hw 18 rfl) (by decide) (by decide)) (g := (mkF m 27 #[iv p1, iv p2, iv p3, iv p4, .unset, iv nn, .unset] [.int p3, .int r_19, .int nn])) rfl (by rw [hml]; rfl) (argsL := [(.int p3)]) (rest := [(.int r_19), (.int nn)]) (lenOf pd__I_C rfl) rfl (by show 2 * 0 + _ ≤ _; exact Nat.le_of_eq rfl) (hb hby at_27) (fun _ _ => ⟨rfl, e19, (by decide : 0 + 0 ≤ _), (by decide : 0 + 0 ≤ _)⟩)
        dsimp only [Pt.U, Pt.locs, Pt.cells, Pt.slots] at X20 l20 y20 z20 st20 hQ20
        subst l20 y20 z20
        obtain ⟨r_20, rfl, Nq20, e20, hr_20⟩ := hQ20
        have Nf20 := Fr.app Nf19 Nq20
        refine own_fw (A' := (T20.setTop (mkF m 31 #[iv p1, iv p2, iv p3, iv p4, .unset, iv nn, .unset] [.int p4, .int r_20, .int r_19, .int nn]))) (fun t k => st20 _ (XS.iloadN X20.here hx rfl (hb hby at_30) rfl k)) ?_
        obtain ⟨_, _, ⟨T21, L21, k21, n21⟩, -, X21, ⟨Lc21, hQ21, l21, y21, z21⟩, st21⟩ := Jvm.LawKit.callS X20 hx (y := yq59) hown (mvT hZ (own_w hw 16 rfl)) (mvT hZ (own_w hw 17 rfl)) (mvT hZ (own_w hw 18 rfl)) (mvT hZ (own_w hw 19 rfl)) (by decide) (backOf (W := 3) (rmPick l Z a0 hw [] p4 h0 n0 Z0 ) hZ (own_w hw 19 rfl) (own_w hw 18 rfl) (by decide) (by decide)) (g := (mkF m 31 #[iv p1, iv p2, iv p3, iv p4, .unset, iv nn, .unset] [.int p4, .int r_20, .int r_19, .int nn])) rfl (by rw [hml]; rfl) (argsL := [(.int p4)]) (rest := [(.int r_20), (.int r_19), (.int nn)]) (lenOf pd__I_C rfl) rfl (by show 2 * 0 + _ ≤ _; exact Nat.le_of_eq rfl) (hb hby at_31) (fun _ _ => ⟨rfl, e20, (by decide : 0 + 0 ≤ _), (by decide : 0 + 0 ≤ _)⟩)
        dsimp only [Pt.U, Pt.locs, Pt.cells, Pt.slots] at X21 l21 y21 z21 st21 hQ21
        subst l21 y21 z21
        obtain ⟨r_21, rfl, Nq21, e21, hr_21⟩ := hQ21
        have Nf21 := Fr.app Nf20 Nq21
        refine own_fw (A' := (T21.setTop (mkF m 34 #[iv p1, iv p2, iv p3, iv p4, .unset, iv nn, .unset] [.int r_21, .int r_20, .int r_19, .int nn]))) (fun t k => st21 _ k) ?_
        by_cases hc22 : (255 : Int32) < r_19
        · obtain ⟨_, _, ⟨T23, L23, k23, n23⟩, -, X23, ⟨Lc23, hQ23, l23, y23, z23⟩, st23⟩ := Jvm.LawKit.callS X21 hx (y := yq61) hown (mvT hZ (own_w hw 22 rfl)) (mvT hZ (own_w hw 23 rfl)) (mvT hZ (own_w hw 18 rfl)) (mvT hZ (own_w hw 24 rfl)) (by decide) (backOf (W := 0) (rmDraw1_0 l Z a0 hw [] nn r_19 r_20 r_21 cs h0 n0 Z0 P0 hcs P2 P3 P4 hc7 hc18 hr_19 hr_20 hr_21 hc22) hZ (own_w hw 24 rfl) (own_w hw 18 rfl) (by decide) (by decide)) (g := (mkF m 34 #[iv p1, iv p2, iv p3, iv p4, .unset, iv nn, .unset] [.int r_21, .int r_20, .int r_19, .int nn])) rfl (by rw [hml]; rfl) (argsL := [(.int nn), (.int r_19), (.int r_20), (.int r_21)]) (rest := []) (lenOf pd__ICCC_Ljava_lang_String_ rfl) rfl (by show 2 * 0 + _ ≤ _; exact Nat.le_of_eq rfl) (hb hby at_34) (fun _ _ => ⟨rfl, e21, (by decide : 0 + 4 ≤ _), (by decide : 0 + 8 ≤ _)⟩)
          dsimp only [Pt.U, Pt.locs, Pt.cells, Pt.slots] at X23 l23 y23 z23 st23 hQ23
          subst l23 y23 z23
          obtain ⟨b_23, sb_23, kb_23, rfl, Nq23, Kq23, Fq23_0, Fq23_1, Fq23_2, Fq23_3, gb_23⟩ := hQ23
          have Nf23 := Fr.app Nf21 Nq23
          have hk := Nat.le_trans hk Kq23.1
          have hC := hC.trans (CHr.keep Kq23 sf0 hH)
          have hH := hC.1
          have K23 : Keep h0 T23.heap [] := (Keep.refl h0 []).trans Kq23 all0
          have sz_b_23 : h0.size ≤ b_23 := Nat.le_trans (Keep.refl h0 []).1 gb_23
          have g_b_23 : n0 ≤ b_23 := Nat.le_trans Z0 gb_23
          have Z23 : n0 ≤ T23.heap.size := Nat.le_trans Z0 Kq23.1
          refine own_fw (A' := (T23.setTop (mkF m 46 #[iv p1, iv p2, iv p3, iv p4, rv b_23, iv nn, .unset] [.ref b_23]))) (fun t k => st23 _ (XS.astore X23.here hx rfl (hb hby at_37) rfl rfl (l' := #[.val (.int p1), .val (.int p2), .val (.int p3), .val (.int p4), .val (.ref b_23), .val (.int nn), .unset]) rfl (XS.aload X23.here hx rfl (hb hby at_39) rfl rfl (XS.ifnullNo X23.here hx rfl (hb hby at_41) rfl (XS.aload X23.here hx rfl (hb hby at_44) rfl rfl k))))) ?_
          obtain ⟨cq24, kq24, qa24, qb24, qc24⟩ := isOf hZ rfl Fq23_0
          obtain ⟨_, _, ⟨T24, L24, k24, n24⟩, -, X24, ⟨Lc24, hQ24, l24, y24, z24⟩, st24⟩ := X23.virtualBack hx (y := yq43) (z := yq43) hown (mvT hZ (own_w hw 53 rfl)) (mvT hZ (own_w hw 54 rfl)) (notFace_of_selects (args := #[]) (mvT hZ (own_w hw 56 rfl))) (mvT hZ (own_w hw 56 rfl)) (mvT hZ (own_w hw 55 rfl)) (by decide) (backOf (W := 0) (rmLnU1 l Z a0 hw [] b_23 sb_23 kb_23 cs ((r_19 >>> ((0 : Int32) &&& 31)).toInt8.toInt32) ((r_19 >>> ((8 : Int32) &&& 31)).toInt8.toInt32) T23.heap n0 Z23 Fq23_0 Fq23_1 Fq23_2 Fq23_3 (own_staKeep P0 Kq23 all0) hcs) hZ (own_w hw 57 rfl) (own_w hw 27 rfl) (by decide) (by decide)) qa24 qc24 (g := (mkF m 46 #[iv p1, iv p2, iv p3, iv p4, rv b_23, iv nn, .unset] [.ref b_23])) rfl (by rw [hml]; rfl) (Steps.refl _) (argsL := []) (rest := []) (lenOf pd___I rfl) rfl (by show 2 * 0 + _ ≤ _; exact Nat.le_of_eq rfl) (hb hby at_46) (fun _ _ => ⟨rfl, rfl, (by decide : 4 + 0 ≤ _), (by decide : 8 + 0 ≤ _)⟩)
          dsimp only [Pt.U, Pt.locs, Pt.cells, Pt.slots] at X24 l24 y24 z24 st24 hQ24
          subst l24 y24 z24
          obtain ⟨rfl, Nq24, e24⟩ := hQ24
          have Nf24 := Fr.app Nf23 Nq24
          refine own_fw (A' := (T24.setTop (mkF m 56 #[iv p1, iv p2, iv p3, iv p4, rv b_23, iv nn, .unset] [.int 0, .ref b_23]))) (fun t k => st24.trans (XS.iconst X24.here hx rfl (hb hby at_49) (XS.icmpNo X24.here hx rfl (hb hby at_50) rfl (XT.ii_ne_f rfl) (XS.aload X24.here hx rfl (hb hby at_53) rfl rfl (XS.iconst X24.here hx rfl (hb hby at_55) k))))) ?_
          obtain ⟨cq25, kq25, qa25, qb25, qc25⟩ := isOf hZ e24 Fq23_0
          obtain ⟨_, _, ⟨T25, L25, k25, n25⟩, -, X25, ⟨Lc25, hQ25, l25, y25, z25⟩, st25⟩ := X24.virtualBack hx (y := yq50) (z := yq50) hown (mvT hZ (own_w hw 63 rfl)) (mvT hZ (own_w hw 64 rfl)) (notFace_of_selects (args := #[]) (mvT hZ (own_w hw 66 rfl))) (mvT hZ (own_w hw 66 rfl)) (mvT hZ (own_w hw 65 rfl)) (by decide) (backOf (W := 0) (rmChU l Z a0 hw [] b_23 sb_23 kb_23 cs sv ((r_19 >>> ((0 : Int32) &&& 31)).toInt8.toInt32) ((r_19 >>> ((8 : Int32) &&& 31)).toInt8.toInt32) T23.heap n0 Z23 Fq23_0 Fq23_1 Fq23_2 Fq23_3 (own_staKeep P0 Kq23 all0) hcs (own_staKeep P5 Kq23 all0) hsv (own_staKeep P2 Kq23 all0) (own_staKeep P3 Kq23 all0) (own_staKeep P4 Kq23 all0)) hZ (own_w hw 67 rfl) (own_w hw 27 rfl) (by decide) (by decide)) qa25 qc25 (g := (mkF m 56 #[iv p1, iv p2, iv p3, iv p4, rv b_23, iv nn, .unset] [.int 0, .ref b_23])) rfl (by rw [hml]; rfl) (Steps.refl _) (argsL := [(.int 0)]) (rest := []) (lenOf pd__I_C rfl) rfl (by show 2 * 0 + _ ≤ _; exact Nat.le_of_eq rfl) (hb hby at_56) (fun _ _ => ⟨rfl, e24, (by decide : 4 + 0 ≤ _), (by decide : 8 + 0 ≤ _)⟩)
          dsimp only [Pt.U, Pt.locs, Pt.cells, Pt.slots] at X25 l25 y25 z25 st25 hQ25
          subst l25 y25 z25
          obtain ⟨rfl, Nq25, e25⟩ := hQ25
          have Nf25 := Fr.app Nf24 Nq25
          refine own_fw (A' := (T25.setTop (mkF m 71 #[iv p1, iv p2, iv p3, iv p4, rv b_23, iv 0, .unset] []))) (fun t k => st25.trans (XS.bipush X25.here hx rfl (hb hby at_59) (XS.icmpYes X25.here hx rfl (pc0 := 61) (pc' := 68) rfl (hb hby at_61) rfl (XT.ii_ne_t (own_u45 hr_19 hc22)) (by decide) (by decide) (XS.iconst X25.here hx rfl (hb hby at_68) (XS.istore X25.here hx rfl (hb hby at_69) rfl (l' := #[.val (.int p1), .val (.int p2), .val (.int p3), .val (.int p4), .val (.ref b_23), .val (.int 0), .unset]) rfl k))))) ?_
          obtain ⟨T26, h26, X26, e26, E26, A26, D26, -, st26⟩ := newO X25 hx hZ hown (own_w hw 0 rfl) (own_w hw 1 rfl) (own_w hw 2 rfl) e25 (g := (mkF m 71 #[iv p1, iv p2, iv p3, iv p4, rv b_23, iv 0, .unset] [])) rfl (hb hby at_71) (by decide) (by decide)
          obtain ⟨b26, gb26⟩ : ∃ z, z = T23.heap.size := ⟨_, rfl⟩
          have g_b26 : n0 ≤ b26 := Nat.le_trans Z23 (Nat.le_of_eq gb26.symm)
          have sz_b26 : h0.size ≤ b26 := Nat.le_trans K23.1 (Nat.le_of_eq gb26.symm)
          have ne_b_23_b26 : b_23 ≠ b26 := Nat.ne_of_lt (Nat.lt_of_lt_of_le Fq23_0.lt (Nat.le_of_eq gb26.symm))
          have ne_sb_23_b26 : sb_23 ≠ b26 := Nat.ne_of_lt (Nat.lt_of_lt_of_le Fq23_3.lt (Nat.le_of_eq gb26.symm))
          rw [← gb26] at A26 D26 st26
          have F27 : Safe Z own_EL _ h26 b26 := (Safe.ext E26 hH (Safe.new (Nat.le_of_eq gb26.symm) : Safe Z own_EL _ T23.heap b26))
          have F_path_b26 : Fld Z h26 b26 "com/example/spanwise/spanwise/cli/InputFile" "path" "Ljava/lang/String;" .null := D26 (Or.inr (own_w hw 10 rfl)) (ty := (.object "java/lang/String")) (by decide)
          have K26 : Keep h0 h26 [] := K23.ext E26
          have Z26 : n0 ≤ h26.size := Nat.le_trans Z23 E26.1
          have hk := Nat.le_trans hk E26.1
          have hC := hC.trans (CHr.ext E26 hH)
          have hH := hC.1
          refine own_fw (A' := (T26.setTop (mkF m 77 #[iv p1, iv p2, iv p3, iv p4, rv b_23, iv 0, .unset] [.ref b_23, .ref b26, .ref b26]))) (fun t k => st26 _ (XS.dup X26.here hx rfl (hb hby at_74) rfl rfl (XS.aload X26.here hx rfl (hb hby at_75) rfl rfl k))) ?_
          obtain ⟨_, _, ⟨T28, L28, k28, n28⟩, -, X28, hS28, gS28, ⟨Lc28, hQ28, l28, y28, z28, r28⟩, st28⟩ := X26.specialBackS hx (y := yq55) rfl hown (mvT hZ (own_w hw 3 rfl)) (mvT hZ (own_w hw 4 rfl)) (mvT hZ (own_w hw 5 rfl)) (by decide) (backOfSH (W := 1) (rmIniU1 l Z a0 hw [] b26 b_23 sb_23 kb_23 cs ((r_19 >>> ((0 : Int32) &&& 31)).toInt8.toInt32) ((r_19 >>> ((8 : Int32) &&& 31)).toInt8.toInt32) h26 n0 Z26 A26 F_path_b26 g_b26 (Fq23_0.ext E26) (Fq23_1.ext E26) (Fq23_2.ext E26) (Fq23_3.ext E26) ((own_staKeep P0 Kq23 all0).ext E26) hcs) hZ (own_w hw 5 rfl) (own_w hw 2 rfl) (by decide) (by decide) (own_EW hw) hH) (g := (mkF m 77 #[iv p1, iv p2, iv p3, iv p4, rv b_23, iv 0, .unset] [.ref b_23, .ref b26, .ref b26])) rfl (by rw [hml]; rfl) (Steps.refl _) (a := b26) (argsL := [(.ref b_23)]) (rest := [(.ref b26)]) (lenOf pd__Ljava_lang_String__V rfl) rfl (by show 2 * 0 + _ ≤ _; exact Nat.le_of_eq rfl) (hb hby at_77) (fun _ _ => ⟨rfl, e26, (by decide : 5 + 2 ≤ _), (by decide : 9 + 8 ≤ _)⟩)
          dsimp only [Pt.U, Pt.locs, Pt.cells, Pt.slots] at X28 l28 y28 z28 st28 hQ28 hS28 gS28 r28
          subst l28 y28 z28
          obtain ⟨X28, hS, hZ', hown⟩ := rebS hS (by rw [e26]; exact hk : _ ≤ T26.heap.size) X28 hS28 gS28 hZ hown
          have hk : T28.heap.size ≤ T28.heap.size := Nat.le_refl _
          obtain ⟨rfl, Nq28, Kq28, Fq28_0, Fq28_1⟩ := hQ28
          have Nf28 := Fr.app Nf25 Nq28
          have F29 : Safe Z own_EL _ T28.heap b26 := (CHr.safe r28 A26.lt F27)
          have hC := hC.trans r28
          have hH := hC.1
          have hZ := hZ'
          have K28 : Keep h0 T28.heap [] := K26.trans Kq28 (allS (Or.inr sz_b26) all0)
          have Z28 : n0 ≤ T28.heap.size := Nat.le_trans Z26 Kq28.1
          refine own_fw (A' := (T28.setTop (mkF m 84 #[iv p1, iv p2, iv p3, iv p4, rv b_23, iv 0, rv b26] [.ref b26]))) (fun t k => st28.trans (XS.astore X28.here hx rfl (hb hby at_80) rfl rfl (l' := #[.val (.int p1), .val (.int p2), .val (.int p3), .val (.int p4), .val (.ref b_23), .val (.int 0), .val (.ref b26)]) rfl (XS.aload X28.here hx rfl (hb hby at_82) rfl rfl k))) ?_
          obtain ⟨cq30, kq30, qa30, qb30, qc30⟩ := isOf hZ rfl Fq28_0
          obtain ⟨_, _, ⟨T30, L30, k30, n30⟩, -, X30, ⟨Lc30, hQ30, l30, y30, z30⟩, st30⟩ := X28.virtualBack hx (y := yq58) (z := yq58) hown (mvT hZ (own_w hw 11 rfl)) (mvT hZ (own_w hw 12 rfl)) (notFace_of_selects (args := #[]) (mvT hZ (own_w hw 14 rfl))) (mvT hZ (own_w hw 14 rfl)) (mvT hZ (own_w hw 13 rfl)) (by decide) (backOf (W := 0) (rmIsR l Z a0 hw [] b26 b_23 T28.heap n0 Z28 Fq28_1) hZ (own_w hw 15 rfl) (own_w hw 2 rfl) (by decide) (by decide)) qa30 qc30 (g := (mkF m 84 #[iv p1, iv p2, iv p3, iv p4, rv b_23, iv 0, rv b26] [.ref b26])) rfl (by rw [hml]; rfl) (Steps.refl _) (argsL := []) (rest := []) (lenOf pd___Z rfl) rfl (by show 2 * 0 + _ ≤ _; exact Nat.le_of_eq rfl) (hb hby at_84) (fun _ _ => ⟨rfl, rfl, (by decide : 7 + 0 ≤ _), (by decide : 17 + 0 ≤ _)⟩)
          dsimp only [Pt.U, Pt.locs, Pt.cells, Pt.slots] at X30 l30 y30 z30 st30 hQ30
          subst l30 y30 z30
          obtain ⟨rfl, Nq30, e30⟩ := hQ30
          have Nf30 := Fr.app Nf28 Nq30
          refine own_fw (A' := (T30.setTop (mkF m 97 #[iv p1, iv p2, iv p3, iv p4, rv b_23, iv 0, rv b26] [.int 1]))) (fun t k => st30.trans (XS.iload X30.here hx rfl (hb hby at_87) rfl (XS.icmpNo X30.here hx rfl (hb hby at_89) rfl (XT.ii_ne_f rfl) (XS.iconst X30.here hx rfl (hb hby at_92) (XS.goto X30.here hx rfl (pc0 := 93) (pc' := 97) rfl (hb hby at_93) (by decide) (by decide) k))))) ?_
          obtain ⟨fs, hr, hrun, hended, hWE⟩ := X30.leaveW hS (by rw [e30]; exact hk : _ ≤ T30.heap.size) (v := some (.int 1)) (fun h => by rw [Bd.returns] at h; cases h)
          refine ⟨_, _, ?_, hrun, hended, _, _, rfl, ?_, own_widen hWE (by decide) (by decide)⟩
          · exact retOut X30 hx Bd.returns rfl (Or.inl ⟨rfl, by simp, _, rfl⟩) (hb hby at_97) hr
          · show Q_rm0 Z p1 p2 p3 p4 cs sv h0 n0 _ T30.heap _
            rw [e30]
            exact ⟨rfl, Nf30⟩
        · obtain ⟨_, _, ⟨T31, L31, k31, n31⟩, -, X31, ⟨Lc31, hQ31, l31, y31, z31⟩, st31⟩ := Jvm.LawKit.callS X21 hx (y := yq61) hown (mvT hZ (own_w hw 22 rfl)) (mvT hZ (own_w hw 23 rfl)) (mvT hZ (own_w hw 18 rfl)) (mvT hZ (own_w hw 24 rfl)) (by decide) (backOf (W := 0) (rmDraw1 l Z a0 hw [] nn r_19 r_20 r_21 cs h0 n0 Z0 P0 hcs P2 P3 P4 hc7 hc18 hr_19 hr_20 hr_21 hc22) hZ (own_w hw 24 rfl) (own_w hw 18 rfl) (by decide) (by decide)) (g := (mkF m 34 #[iv p1, iv p2, iv p3, iv p4, .unset, iv nn, .unset] [.int r_21, .int r_20, .int r_19, .int nn])) rfl (by rw [hml]; rfl) (argsL := [(.int nn), (.int r_19), (.int r_20), (.int r_21)]) (rest := []) (lenOf pd__ICCC_Ljava_lang_String_ rfl) rfl (by show 2 * 0 + _ ≤ _; exact Nat.le_of_eq rfl) (hb hby at_34) (fun _ _ => ⟨rfl, e21, (by decide : 0 + 3 ≤ _), (by decide : 0 + 6 ≤ _)⟩)
          dsimp only [Pt.U, Pt.locs, Pt.cells, Pt.slots] at X31 l31 y31 z31 st31 hQ31
          subst l31 y31 z31
          obtain ⟨b_31, sb_31, kb_31, rfl, Nq31, Kq31, Fq31_0, Fq31_1, Fq31_2, Fq31_3, gb_31⟩ := hQ31
          have Nf31 := Fr.app Nf21 Nq31
          have hk := Nat.le_trans hk Kq31.1
          have hC := hC.trans (CHr.keep Kq31 sf0 hH)
          have hH := hC.1
          have K31 : Keep h0 T31.heap [] := (Keep.refl h0 []).trans Kq31 all0
          have sz_b_31 : h0.size ≤ b_31 := Nat.le_trans (Keep.refl h0 []).1 gb_31
          have g_b_31 : n0 ≤ b_31 := Nat.le_trans Z0 gb_31
          have Z31 : n0 ≤ T31.heap.size := Nat.le_trans Z0 Kq31.1
          refine own_fw (A' := (T31.setTop (mkF m 46 #[iv p1, iv p2, iv p3, iv p4, rv b_31, iv nn, .unset] [.ref b_31]))) (fun t k => st31 _ (XS.astore X31.here hx rfl (hb hby at_37) rfl rfl (l' := #[.val (.int p1), .val (.int p2), .val (.int p3), .val (.int p4), .val (.ref b_31), .val (.int nn), .unset]) rfl (XS.aload X31.here hx rfl (hb hby at_39) rfl rfl (XS.ifnullNo X31.here hx rfl (hb hby at_41) rfl (XS.aload X31.here hx rfl (hb hby at_44) rfl rfl k))))) ?_
          obtain ⟨cq32, kq32, qa32, qb32, qc32⟩ := isOf hZ rfl Fq31_0
          obtain ⟨_, _, ⟨T32, L32, k32, n32⟩, -, X32, ⟨Lc32, hQ32, l32, y32, z32⟩, st32⟩ := X31.virtualBack hx (y := yq43) (z := yq43) hown (mvT hZ (own_w hw 53 rfl)) (mvT hZ (own_w hw 54 rfl)) (notFace_of_selects (args := #[]) (mvT hZ (own_w hw 56 rfl))) (mvT hZ (own_w hw 56 rfl)) (mvT hZ (own_w hw 55 rfl)) (by decide) (backOf (W := 0) (rmLnL1 l Z a0 hw [] b_31 sb_31 kb_31 cs (r_19.toInt8.toInt32) T31.heap n0 Z31 Fq31_0 Fq31_1 Fq31_2 Fq31_3 (own_staKeep P0 Kq31 all0) hcs) hZ (own_w hw 57 rfl) (own_w hw 27 rfl) (by decide) (by decide)) qa32 qc32 (g := (mkF m 46 #[iv p1, iv p2, iv p3, iv p4, rv b_31, iv nn, .unset] [.ref b_31])) rfl (by rw [hml]; rfl) (Steps.refl _) (argsL := []) (rest := []) (lenOf pd___I rfl) rfl (by show 2 * 0 + _ ≤ _; exact Nat.le_of_eq rfl) (hb hby at_46) (fun _ _ => ⟨rfl, rfl, (by decide : 3 + 0 ≤ _), (by decide : 6 + 0 ≤ _)⟩)
          dsimp only [Pt.U, Pt.locs, Pt.cells, Pt.slots] at X32 l32 y32 z32 st32 hQ32
          subst l32 y32 z32
          obtain ⟨rfl, Nq32, e32⟩ := hQ32
          have Nf32 := Fr.app Nf31 Nq32
          refine own_fw (A' := (T32.setTop (mkF m 56 #[iv p1, iv p2, iv p3, iv p4, rv b_31, iv nn, .unset] [.int 0, .ref b_31]))) (fun t k => st32.trans (XS.iconst X32.here hx rfl (hb hby at_49) (XS.icmpNo X32.here hx rfl (hb hby at_50) rfl (XT.ii_ne_f rfl) (XS.aload X32.here hx rfl (hb hby at_53) rfl rfl (XS.iconst X32.here hx rfl (hb hby at_55) k))))) ?_
          obtain ⟨cq33, kq33, qa33, qb33, qc33⟩ := isOf hZ e32 Fq31_0
          obtain ⟨_, _, ⟨T33, L33, k33, n33⟩, -, X33, ⟨Lc33, hQ33, l33, y33, z33⟩, st33⟩ := X32.virtualBack hx (y := yq50) (z := yq50) hown (mvT hZ (own_w hw 63 rfl)) (mvT hZ (own_w hw 64 rfl)) (notFace_of_selects (args := #[]) (mvT hZ (own_w hw 66 rfl))) (mvT hZ (own_w hw 66 rfl)) (mvT hZ (own_w hw 65 rfl)) (by decide) (backOf (W := 0) (rmChL l Z a0 hw [] b_31 sb_31 kb_31 cs sv (r_19.toInt8.toInt32) T31.heap n0 Z31 Fq31_0 Fq31_1 Fq31_2 Fq31_3 (own_staKeep P0 Kq31 all0) hcs (own_staKeep P5 Kq31 all0) hsv) hZ (own_w hw 67 rfl) (own_w hw 27 rfl) (by decide) (by decide)) qa33 qc33 (g := (mkF m 56 #[iv p1, iv p2, iv p3, iv p4, rv b_31, iv nn, .unset] [.int 0, .ref b_31])) rfl (by rw [hml]; rfl) (Steps.refl _) (argsL := [(.int 0)]) (rest := []) (lenOf pd__I_C rfl) rfl (by show 2 * 0 + _ ≤ _; exact Nat.le_of_eq rfl) (hb hby at_56) (fun _ _ => ⟨rfl, e32, (by decide : 3 + 0 ≤ _), (by decide : 6 + 0 ≤ _)⟩)
          dsimp only [Pt.U, Pt.locs, Pt.cells, Pt.slots] at X33 l33 y33 z33 st33 hQ33
          subst l33 y33 z33
          obtain ⟨rfl, Nq33, e33⟩ := hQ33
          have Nf33 := Fr.app Nf32 Nq33
          refine own_fw (A' := (T33.setTop (mkF m 61 #[iv p1, iv p2, iv p3, iv p4, rv b_31, iv nn, .unset] [.int 45, .int (own_cl (r_19.toInt8.toInt32))]))) (fun t k => st33.trans (XS.bipush X33.here hx rfl (hb hby at_59) k)) ?_
          by_cases hc34 : (own_cl (r_19.toInt8.toInt32)) = (45 : Int32)
          · refine own_fw (A' := (T33.setTop (mkF m 71 #[iv p1, iv p2, iv p3, iv p4, rv b_31, iv 1, .unset] []))) (fun t k => XS.icmpNo X33.here hx rfl (hb hby at_61) rfl (XT.ii_ne_f hc34) (XS.iconst X33.here hx rfl (hb hby at_64) (XS.goto X33.here hx rfl (pc0 := 65) (pc' := 69) rfl (hb hby at_65) (by decide) (by decide) (XS.istore X33.here hx rfl (hb hby at_69) rfl (l' := #[.val (.int p1), .val (.int p2), .val (.int p3), .val (.int p4), .val (.ref b_31), .val (.int 1), .unset]) rfl k)))) ?_
            obtain ⟨T35, h35, X35, e35, E35, A35, D35, -, st35⟩ := newO X33 hx hZ hown (own_w hw 0 rfl) (own_w hw 1 rfl) (own_w hw 2 rfl) e33 (g := (mkF m 71 #[iv p1, iv p2, iv p3, iv p4, rv b_31, iv 1, .unset] [])) rfl (hb hby at_71) (by decide) (by decide)
            obtain ⟨b35, gb35⟩ : ∃ z, z = T31.heap.size := ⟨_, rfl⟩
            have g_b35 : n0 ≤ b35 := Nat.le_trans Z31 (Nat.le_of_eq gb35.symm)
            have sz_b35 : h0.size ≤ b35 := Nat.le_trans K31.1 (Nat.le_of_eq gb35.symm)
            have ne_b_31_b35 : b_31 ≠ b35 := Nat.ne_of_lt (Nat.lt_of_lt_of_le Fq31_0.lt (Nat.le_of_eq gb35.symm))
            have ne_sb_31_b35 : sb_31 ≠ b35 := Nat.ne_of_lt (Nat.lt_of_lt_of_le Fq31_3.lt (Nat.le_of_eq gb35.symm))
            rw [← gb35] at A35 D35 st35
            have F36 : Safe Z own_EL _ h35 b35 := (Safe.ext E35 hH (Safe.new (Nat.le_of_eq gb35.symm) : Safe Z own_EL _ T31.heap b35))
            have F_path_b35 : Fld Z h35 b35 "com/example/spanwise/spanwise/cli/InputFile" "path" "Ljava/lang/String;" .null := D35 (Or.inr (own_w hw 10 rfl)) (ty := (.object "java/lang/String")) (by decide)
            have K35 : Keep h0 h35 [] := K31.ext E35
            have Z35 : n0 ≤ h35.size := Nat.le_trans Z31 E35.1
            have hk := Nat.le_trans hk E35.1
            have hC := hC.trans (CHr.ext E35 hH)
            have hH := hC.1
            refine own_fw (A' := (T35.setTop (mkF m 77 #[iv p1, iv p2, iv p3, iv p4, rv b_31, iv 1, .unset] [.ref b_31, .ref b35, .ref b35]))) (fun t k => st35 _ (XS.dup X35.here hx rfl (hb hby at_74) rfl rfl (XS.aload X35.here hx rfl (hb hby at_75) rfl rfl k))) ?_
            obtain ⟨_, _, ⟨T37, L37, k37, n37⟩, -, X37, hS37, gS37, ⟨Lc37, hQ37, l37, y37, z37, r37⟩, st37⟩ := X35.specialBackS hx (y := yq55) rfl hown (mvT hZ (own_w hw 3 rfl)) (mvT hZ (own_w hw 4 rfl)) (mvT hZ (own_w hw 5 rfl)) (by decide) (backOfSH (W := 1) (rmIniy l Z a0 hw [] b35 b_31 sb_31 kb_31 cs (r_19.toInt8.toInt32) h35 n0 Z35 A35 F_path_b35 g_b35 (Fq31_0.ext E35) (Fq31_1.ext E35) (Fq31_2.ext E35) (Fq31_3.ext E35) ((own_staKeep P0 Kq31 all0).ext E35) hcs (own_y45 hr_19 hc22 hc34)) hZ (own_w hw 5 rfl) (own_w hw 2 rfl) (by decide) (by decide) (own_EW hw) hH) (g := (mkF m 77 #[iv p1, iv p2, iv p3, iv p4, rv b_31, iv 1, .unset] [.ref b_31, .ref b35, .ref b35])) rfl (by rw [hml]; rfl) (Steps.refl _) (a := b35) (argsL := [(.ref b_31)]) (rest := [(.ref b35)]) (lenOf pd__Ljava_lang_String__V rfl) rfl (by show 2 * 0 + _ ≤ _; exact Nat.le_of_eq rfl) (hb hby at_77) (fun _ _ => ⟨rfl, e35, (by decide : 4 + 2 ≤ _), (by decide : 7 + 8 ≤ _)⟩)
            dsimp only [Pt.U, Pt.locs, Pt.cells, Pt.slots] at X37 l37 y37 z37 st37 hQ37 hS37 gS37 r37
            subst l37 y37 z37
            obtain ⟨X37, hS, hZ', hown⟩ := rebS hS (by rw [e35]; exact hk : _ ≤ T35.heap.size) X37 hS37 gS37 hZ hown
            have hk : T37.heap.size ≤ T37.heap.size := Nat.le_refl _
            obtain ⟨rfl, Nq37, Kq37, Fq37_0, Fq37_1⟩ := hQ37
            have Nf37 := Fr.app Nf33 Nq37
            have F38 : Safe Z own_EL _ T37.heap b35 := (CHr.safe r37 A35.lt F36)
            have hC := hC.trans r37
            have hH := hC.1
            have hZ := hZ'
            have K37 : Keep h0 T37.heap [] := K35.trans Kq37 (allS (Or.inr sz_b35) all0)
            have Z37 : n0 ≤ T37.heap.size := Nat.le_trans Z35 Kq37.1
            refine own_fw (A' := (T37.setTop (mkF m 84 #[iv p1, iv p2, iv p3, iv p4, rv b_31, iv 1, rv b35] [.ref b35]))) (fun t k => st37.trans (XS.astore X37.here hx rfl (hb hby at_80) rfl rfl (l' := #[.val (.int p1), .val (.int p2), .val (.int p3), .val (.int p4), .val (.ref b_31), .val (.int 1), .val (.ref b35)]) rfl (XS.aload X37.here hx rfl (hb hby at_82) rfl rfl k))) ?_
            obtain ⟨cq39, kq39, qa39, qb39, qc39⟩ := isOf hZ rfl Fq37_0
            obtain ⟨_, _, ⟨T39, L39, k39, n39⟩, -, X39, ⟨Lc39, hQ39, l39, y39, z39⟩, st39⟩ := X37.virtualBack hx (y := yq58) (z := yq58) hown (mvT hZ (own_w hw 11 rfl)) (mvT hZ (own_w hw 12 rfl)) (notFace_of_selects (args := #[]) (mvT hZ (own_w hw 14 rfl))) (mvT hZ (own_w hw 14 rfl)) (mvT hZ (own_w hw 13 rfl)) (by decide) (backOf (W := 0) (rmIsN l Z a0 hw [] b35 T37.heap n0 Z37 Fq37_1) hZ (own_w hw 15 rfl) (own_w hw 2 rfl) (by decide) (by decide)) qa39 qc39 (g := (mkF m 84 #[iv p1, iv p2, iv p3, iv p4, rv b_31, iv 1, rv b35] [.ref b35])) rfl (by rw [hml]; rfl) (Steps.refl _) (argsL := []) (rest := []) (lenOf pd___Z rfl) rfl (by show 2 * 0 + _ ≤ _; exact Nat.le_of_eq rfl) (hb hby at_84) (fun _ _ => ⟨rfl, rfl, (by decide : 6 + 0 ≤ _), (by decide : 15 + 0 ≤ _)⟩)
            dsimp only [Pt.U, Pt.locs, Pt.cells, Pt.slots] at X39 l39 y39 z39 st39 hQ39
            subst l39 y39 z39
            obtain ⟨rfl, Nq39, e39⟩ := hQ39
            have Nf39 := Fr.app Nf37 Nq39
            refine own_fw (A' := (T39.setTop (mkF m 97 #[iv p1, iv p2, iv p3, iv p4, rv b_31, iv 1, rv b35] [.int 1]))) (fun t k => st39.trans (XS.iload X39.here hx rfl (hb hby at_87) rfl (XS.icmpNo X39.here hx rfl (hb hby at_89) rfl (XT.ii_ne_f rfl) (XS.iconst X39.here hx rfl (hb hby at_92) (XS.goto X39.here hx rfl (pc0 := 93) (pc' := 97) rfl (hb hby at_93) (by decide) (by decide) k))))) ?_
            obtain ⟨fs, hr, hrun, hended, hWE⟩ := X39.leaveW hS (by rw [e39]; exact hk : _ ≤ T39.heap.size) (v := some (.int 1)) (fun h => by rw [Bd.returns] at h; cases h)
            refine ⟨_, _, ?_, hrun, hended, _, _, rfl, ?_, own_widen hWE (by decide) (by decide)⟩
            · exact retOut X39 hx Bd.returns rfl (Or.inl ⟨rfl, by simp, _, rfl⟩) (hb hby at_97) hr
            · show Q_rm0 Z p1 p2 p3 p4 cs sv h0 n0 _ T39.heap _
              rw [e39]
              exact ⟨rfl, Nf39⟩
          · refine own_fw (A' := (T33.setTop (mkF m 71 #[iv p1, iv p2, iv p3, iv p4, rv b_31, iv 0, .unset] []))) (fun t k => XS.icmpYes X33.here hx rfl (pc0 := 61) (pc' := 68) rfl (hb hby at_61) rfl (XT.ii_ne_t hc34) (by decide) (by decide) (XS.iconst X33.here hx rfl (hb hby at_68) (XS.istore X33.here hx rfl (hb hby at_69) rfl (l' := #[.val (.int p1), .val (.int p2), .val (.int p3), .val (.int p4), .val (.ref b_31), .val (.int 0), .unset]) rfl k))) ?_
            obtain ⟨T40, h40, X40, e40, E40, A40, D40, -, st40⟩ := newO X33 hx hZ hown (own_w hw 0 rfl) (own_w hw 1 rfl) (own_w hw 2 rfl) e33 (g := (mkF m 71 #[iv p1, iv p2, iv p3, iv p4, rv b_31, iv 0, .unset] [])) rfl (hb hby at_71) (by decide) (by decide)
            obtain ⟨b40, gb40⟩ : ∃ z, z = T31.heap.size := ⟨_, rfl⟩
            have g_b40 : n0 ≤ b40 := Nat.le_trans Z31 (Nat.le_of_eq gb40.symm)
            have sz_b40 : h0.size ≤ b40 := Nat.le_trans K31.1 (Nat.le_of_eq gb40.symm)
            have ne_b_31_b40 : b_31 ≠ b40 := Nat.ne_of_lt (Nat.lt_of_lt_of_le Fq31_0.lt (Nat.le_of_eq gb40.symm))
            have ne_sb_31_b40 : sb_31 ≠ b40 := Nat.ne_of_lt (Nat.lt_of_lt_of_le Fq31_3.lt (Nat.le_of_eq gb40.symm))
            rw [← gb40] at A40 D40 st40
            have F41 : Safe Z own_EL _ h40 b40 := (Safe.ext E40 hH (Safe.new (Nat.le_of_eq gb40.symm) : Safe Z own_EL _ T31.heap b40))
            have F_path_b40 : Fld Z h40 b40 "com/example/spanwise/spanwise/cli/InputFile" "path" "Ljava/lang/String;" .null := D40 (Or.inr (own_w hw 10 rfl)) (ty := (.object "java/lang/String")) (by decide)
            have K40 : Keep h0 h40 [] := K31.ext E40
            have Z40 : n0 ≤ h40.size := Nat.le_trans Z31 E40.1
            have hk := Nat.le_trans hk E40.1
            have hC := hC.trans (CHr.ext E40 hH)
            have hH := hC.1
            refine own_fw (A' := (T40.setTop (mkF m 77 #[iv p1, iv p2, iv p3, iv p4, rv b_31, iv 0, .unset] [.ref b_31, .ref b40, .ref b40]))) (fun t k => st40 _ (XS.dup X40.here hx rfl (hb hby at_74) rfl rfl (XS.aload X40.here hx rfl (hb hby at_75) rfl rfl k))) ?_
            obtain ⟨_, _, ⟨T42, L42, k42, n42⟩, -, X42, hS42, gS42, ⟨Lc42, hQ42, l42, y42, z42, r42⟩, st42⟩ := X40.specialBackS hx (y := yq55) rfl hown (mvT hZ (own_w hw 3 rfl)) (mvT hZ (own_w hw 4 rfl)) (mvT hZ (own_w hw 5 rfl)) (by decide) (backOfSH (W := 1) (rmInin l Z a0 hw [] b40 b_31 sb_31 kb_31 cs (r_19.toInt8.toInt32) h40 n0 Z40 A40 F_path_b40 g_b40 (Fq31_0.ext E40) (Fq31_1.ext E40) (Fq31_2.ext E40) (Fq31_3.ext E40) ((own_staKeep P0 Kq31 all0).ext E40) hcs (own_n45 hr_19 hc22 hc34)) hZ (own_w hw 5 rfl) (own_w hw 2 rfl) (by decide) (by decide) (own_EW hw) hH) (g := (mkF m 77 #[iv p1, iv p2, iv p3, iv p4, rv b_31, iv 0, .unset] [.ref b_31, .ref b40, .ref b40])) rfl (by rw [hml]; rfl) (Steps.refl _) (a := b40) (argsL := [(.ref b_31)]) (rest := [(.ref b40)]) (lenOf pd__Ljava_lang_String__V rfl) rfl (by show 2 * 0 + _ ≤ _; exact Nat.le_of_eq rfl) (hb hby at_77) (fun _ _ => ⟨rfl, e40, (by decide : 4 + 2 ≤ _), (by decide : 7 + 8 ≤ _)⟩)
            dsimp only [Pt.U, Pt.locs, Pt.cells, Pt.slots] at X42 l42 y42 z42 st42 hQ42 hS42 gS42 r42
            subst l42 y42 z42
            obtain ⟨X42, hS, hZ', hown⟩ := rebS hS (by rw [e40]; exact hk : _ ≤ T40.heap.size) X42 hS42 gS42 hZ hown
            have hk : T42.heap.size ≤ T42.heap.size := Nat.le_refl _
            obtain ⟨rfl, Nq42, Kq42, Fq42_0, Fq42_1⟩ := hQ42
            have Nf42 := Fr.app Nf33 Nq42
            have F43 : Safe Z own_EL _ T42.heap b40 := (CHr.safe r42 A40.lt F41)
            have hC := hC.trans r42
            have hH := hC.1
            have hZ := hZ'
            have K42 : Keep h0 T42.heap [] := K40.trans Kq42 (allS (Or.inr sz_b40) all0)
            have Z42 : n0 ≤ T42.heap.size := Nat.le_trans Z40 Kq42.1
            refine own_fw (A' := (T42.setTop (mkF m 84 #[iv p1, iv p2, iv p3, iv p4, rv b_31, iv 0, rv b40] [.ref b40]))) (fun t k => st42.trans (XS.astore X42.here hx rfl (hb hby at_80) rfl rfl (l' := #[.val (.int p1), .val (.int p2), .val (.int p3), .val (.int p4), .val (.ref b_31), .val (.int 0), .val (.ref b40)]) rfl (XS.aload X42.here hx rfl (hb hby at_82) rfl rfl k))) ?_
            obtain ⟨cq44, kq44, qa44, qb44, qc44⟩ := isOf hZ rfl Fq42_0
            obtain ⟨_, _, ⟨T44, L44, k44, n44⟩, -, X44, ⟨Lc44, hQ44, l44, y44, z44⟩, st44⟩ := X42.virtualBack hx (y := yq58) (z := yq58) hown (mvT hZ (own_w hw 11 rfl)) (mvT hZ (own_w hw 12 rfl)) (notFace_of_selects (args := #[]) (mvT hZ (own_w hw 14 rfl))) (mvT hZ (own_w hw 14 rfl)) (mvT hZ (own_w hw 13 rfl)) (by decide) (backOf (W := 0) (rmIsR l Z a0 hw [] b40 b_31 T42.heap n0 Z42 Fq42_1) hZ (own_w hw 15 rfl) (own_w hw 2 rfl) (by decide) (by decide)) qa44 qc44 (g := (mkF m 84 #[iv p1, iv p2, iv p3, iv p4, rv b_31, iv 0, rv b40] [.ref b40])) rfl (by rw [hml]; rfl) (Steps.refl _) (argsL := []) (rest := []) (lenOf pd___Z rfl) rfl (by show 2 * 0 + _ ≤ _; exact Nat.le_of_eq rfl) (hb hby at_84) (fun _ _ => ⟨rfl, rfl, (by decide : 6 + 0 ≤ _), (by decide : 15 + 0 ≤ _)⟩)
            dsimp only [Pt.U, Pt.locs, Pt.cells, Pt.slots] at X44 l44 y44 z44 st44 hQ44
            subst l44 y44 z44
            obtain ⟨rfl, Nq44, e44⟩ := hQ44
            have Nf44 := Fr.app Nf42 Nq44
            refine own_fw (A' := (T44.setTop (mkF m 97 #[iv p1, iv p2, iv p3, iv p4, rv b_31, iv 0, rv b40] [.int 1]))) (fun t k => st44.trans (XS.iload X44.here hx rfl (hb hby at_87) rfl (XS.icmpNo X44.here hx rfl (hb hby at_89) rfl (XT.ii_ne_f rfl) (XS.iconst X44.here hx rfl (hb hby at_92) (XS.goto X44.here hx rfl (pc0 := 93) (pc' := 97) rfl (hb hby at_93) (by decide) (by decide) k))))) ?_
            obtain ⟨fs, hr, hrun, hended, hWE⟩ := X44.leaveW hS (by rw [e44]; exact hk : _ ≤ T44.heap.size) (v := some (.int 1)) (fun h => by rw [Bd.returns] at h; cases h)
            refine ⟨_, _, ?_, hrun, hended, _, _, rfl, ?_, own_widen hWE (by decide) (by decide)⟩
            · exact retOut X44 hx Bd.returns rfl (Or.inl ⟨rfl, by simp, _, rfl⟩) (hb hby at_97) hr
            · show Q_rm0 Z p1 p2 p3 p4 cs sv h0 n0 _ T44.heap _
              rw [e44]
              exact ⟨rfl, Nf44⟩
      · by_cases hc45 : nn = (2 : Int32)
        · refine own_fw (A' := (s₁.setTop (mkF m 23 #[iv p1, iv p2, iv p3, iv p4, .unset, iv nn, .unset] [.int p2, .int nn]))) (fun t k => XS.iload X0.here hx rfl (hb hby at_20) rfl (XS.iloadN X0.here hx rfl (hb hby at_22) rfl k)) ?_
          obtain ⟨_, _, ⟨T46, L46, k46, n46⟩, -, X46, ⟨Lc46, hQ46, l46, y46, z46⟩, st46⟩ := Jvm.LawKit.callS X0 hx (y := yq59) hown (mvT hZ (own_w hw 16 rfl)) (mvT hZ (own_w hw 17 rfl)) (mvT hZ (own_w hw 18 rfl)) (mvT hZ (own_w hw 19 rfl)) (by decide) (backOf (W := 1) (rmPick l Z a0 hw [] p2 h0 n0 Z0 ) hZ (own_w hw 19 rfl) (own_w hw 18 rfl) (by decide) (by decide)) (g := (mkF m 23 #[iv p1, iv p2, iv p3, iv p4, .unset, iv nn, .unset] [.int p2, .int nn])) rfl (by rw [hml]; rfl) (argsL := [(.int p2)]) (rest := [(.int nn)]) (lenOf pd__I_C rfl) rfl (by show 2 * 0 + _ ≤ _; exact Nat.le_of_eq rfl) (hb hby at_23) (fun _ _ => ⟨rfl, e0, (by decide : 0 + 0 ≤ _), (by decide : 0 + 0 ≤ _)⟩)
          dsimp only [Pt.U, Pt.locs, Pt.cells, Pt.slots] at X46 l46 y46 z46 st46 hQ46
          subst l46 y46 z46
          obtain ⟨r_46, rfl, Nq46, e46, hr_46⟩ := hQ46
          have Nf46 := Fr.app N0 Nq46
          refine own_fw (A' := (T46.setTop (mkF m 27 #[iv p1, iv p2, iv p3, iv p4, .unset, iv nn, .unset] [.int p3, .int r_46, .int nn]))) (fun t k => st46 _ (XS.iloadN X46.here hx rfl (hb hby at_26) rfl k)) ?_
          obtain ⟨_, _, ⟨T47, L47, k47, n47⟩, -, X47, ⟨Lc47, hQ47, l47, y47, z47⟩, st47⟩ := Jvm.LawKit.callS X46 hx (y := yq59) hown (mvT hZ (own_w hw 16 rfl)) (mvT hZ (own_w hw 17 rfl)) (mvT hZ (own_w hw 18 rfl)) (mvT hZ (own_w hw 19 rfl)) (by decide) (backOf (W := 2) (rmPick l Z a0 hw [] p3 h0 n0 Z0 ) hZ (own_w hw 19 rfl) (own_w hw 18 rfl) (by decide) (by decide)) (g := (mkF m 27 #[iv p1, iv p2, iv p3, iv p4, .unset, iv nn, .unset] [.int p3, .int r_46, .int nn])) rfl (by rw [hml]; rfl) (argsL := [(.int p3)]) (rest := [(.int r_46), (.int nn)]) (lenOf pd__I_C rfl) rfl (by show 2 * 0 + _ ≤ _; exact Nat.le_of_eq rfl) (hb hby at_27) (fun _ _ => ⟨rfl, e46, (by decide : 0 + 0 ≤ _), (by decide : 0 + 0 ≤ _)⟩)
          dsimp only [Pt.U, Pt.locs, Pt.cells, Pt.slots] at X47 l47 y47 z47 st47 hQ47
          subst l47 y47 z47
          obtain ⟨r_47, rfl, Nq47, e47, hr_47⟩ := hQ47
          have Nf47 := Fr.app Nf46 Nq47
          refine own_fw (A' := (T47.setTop (mkF m 31 #[iv p1, iv p2, iv p3, iv p4, .unset, iv nn, .unset] [.int p4, .int r_47, .int r_46, .int nn]))) (fun t k => st47 _ (XS.iloadN X47.here hx rfl (hb hby at_30) rfl k)) ?_
          obtain ⟨_, _, ⟨T48, L48, k48, n48⟩, -, X48, ⟨Lc48, hQ48, l48, y48, z48⟩, st48⟩ := Jvm.LawKit.callS X47 hx (y := yq59) hown (mvT hZ (own_w hw 16 rfl)) (mvT hZ (own_w hw 17 rfl)) (mvT hZ (own_w hw 18 rfl)) (mvT hZ (own_w hw 19 rfl)) (by decide) (backOf (W := 3) (rmPick l Z a0 hw [] p4 h0 n0 Z0 ) hZ (own_w hw 19 rfl) (own_w hw 18 rfl) (by decide) (by decide)) (g := (mkF m 31 #[iv p1, iv p2, iv p3, iv p4, .unset, iv nn, .unset] [.int p4, .int r_47, .int r_46, .int nn])) rfl (by rw [hml]; rfl) (argsL := [(.int p4)]) (rest := [(.int r_47), (.int r_46), (.int nn)]) (lenOf pd__I_C rfl) rfl (by show 2 * 0 + _ ≤ _; exact Nat.le_of_eq rfl) (hb hby at_31) (fun _ _ => ⟨rfl, e47, (by decide : 0 + 0 ≤ _), (by decide : 0 + 0 ≤ _)⟩)
          dsimp only [Pt.U, Pt.locs, Pt.cells, Pt.slots] at X48 l48 y48 z48 st48 hQ48
          subst l48 y48 z48
          obtain ⟨r_48, rfl, Nq48, e48, hr_48⟩ := hQ48
          have Nf48 := Fr.app Nf47 Nq48
          refine own_fw (A' := (T48.setTop (mkF m 34 #[iv p1, iv p2, iv p3, iv p4, .unset, iv nn, .unset] [.int r_48, .int r_47, .int r_46, .int nn]))) (fun t k => st48 _ k) ?_
          by_cases hc49 : (255 : Int32) < r_46
          · obtain ⟨_, _, ⟨T50, L50, k50, n50⟩, -, X50, ⟨Lc50, hQ50, l50, y50, z50⟩, st50⟩ := Jvm.LawKit.callS X48 hx (y := yq61) hown (mvT hZ (own_w hw 22 rfl)) (mvT hZ (own_w hw 23 rfl)) (mvT hZ (own_w hw 18 rfl)) (mvT hZ (own_w hw 24 rfl)) (by decide) (backOf (W := 0) (rmDraw2_0 l Z a0 hw [] nn r_46 r_47 r_48 cs h0 n0 Z0 P0 hcs P2 P3 P4 hc7 hc18 hc45 hr_46 hr_47 hr_48 hc49) hZ (own_w hw 24 rfl) (own_w hw 18 rfl) (by decide) (by decide)) (g := (mkF m 34 #[iv p1, iv p2, iv p3, iv p4, .unset, iv nn, .unset] [.int r_48, .int r_47, .int r_46, .int nn])) rfl (by rw [hml]; rfl) (argsL := [(.int nn), (.int r_46), (.int r_47), (.int r_48)]) (rest := []) (lenOf pd__ICCC_Ljava_lang_String_ rfl) rfl (by show 2 * 0 + _ ≤ _; exact Nat.le_of_eq rfl) (hb hby at_34) (fun _ _ => ⟨rfl, e48, (by decide : 0 + 4 ≤ _), (by decide : 0 + 12 ≤ _)⟩)
            dsimp only [Pt.U, Pt.locs, Pt.cells, Pt.slots] at X50 l50 y50 z50 st50 hQ50
            subst l50 y50 z50
            obtain ⟨b_50, sb_50, kb_50, rfl, Nq50, Kq50, Fq50_0, Fq50_1, Fq50_2, Fq50_3, gb_50⟩ := hQ50
            have Nf50 := Fr.app Nf48 Nq50
            have hk := Nat.le_trans hk Kq50.1
            have hC := hC.trans (CHr.keep Kq50 sf0 hH)
            have hH := hC.1
            have K50 : Keep h0 T50.heap [] := (Keep.refl h0 []).trans Kq50 all0
            have sz_b_50 : h0.size ≤ b_50 := Nat.le_trans (Keep.refl h0 []).1 gb_50
            have g_b_50 : n0 ≤ b_50 := Nat.le_trans Z0 gb_50
            have Z50 : n0 ≤ T50.heap.size := Nat.le_trans Z0 Kq50.1
            refine own_fw (A' := (T50.setTop (mkF m 46 #[iv p1, iv p2, iv p3, iv p4, rv b_50, iv nn, .unset] [.ref b_50]))) (fun t k => st50 _ (XS.astore X50.here hx rfl (hb hby at_37) rfl rfl (l' := #[.val (.int p1), .val (.int p2), .val (.int p3), .val (.int p4), .val (.ref b_50), .val (.int nn), .unset]) rfl (XS.aload X50.here hx rfl (hb hby at_39) rfl rfl (XS.ifnullNo X50.here hx rfl (hb hby at_41) rfl (XS.aload X50.here hx rfl (hb hby at_44) rfl rfl k))))) ?_
            obtain ⟨cq51, kq51, qa51, qb51, qc51⟩ := isOf hZ rfl Fq50_0
            obtain ⟨_, _, ⟨T51, L51, k51, n51⟩, -, X51, ⟨Lc51, hQ51, l51, y51, z51⟩, st51⟩ := X50.virtualBack hx (y := yq43) (z := yq43) hown (mvT hZ (own_w hw 53 rfl)) (mvT hZ (own_w hw 54 rfl)) (notFace_of_selects (args := #[]) (mvT hZ (own_w hw 56 rfl))) (mvT hZ (own_w hw 56 rfl)) (mvT hZ (own_w hw 55 rfl)) (by decide) (backOf (W := 0) (rmLnU2 l Z a0 hw [] b_50 sb_50 kb_50 cs ((r_46 >>> ((0 : Int32) &&& 31)).toInt8.toInt32) ((r_46 >>> ((8 : Int32) &&& 31)).toInt8.toInt32) ((r_47 >>> ((0 : Int32) &&& 31)).toInt8.toInt32) ((r_47 >>> ((8 : Int32) &&& 31)).toInt8.toInt32) T50.heap n0 Z50 Fq50_0 Fq50_1 Fq50_2 Fq50_3 (own_staKeep P0 Kq50 all0) hcs) hZ (own_w hw 57 rfl) (own_w hw 27 rfl) (by decide) (by decide)) qa51 qc51 (g := (mkF m 46 #[iv p1, iv p2, iv p3, iv p4, rv b_50, iv nn, .unset] [.ref b_50])) rfl (by rw [hml]; rfl) (Steps.refl _) (argsL := []) (rest := []) (lenOf pd___I rfl) rfl (by show 2 * 0 + _ ≤ _; exact Nat.le_of_eq rfl) (hb hby at_46) (fun _ _ => ⟨rfl, rfl, (by decide : 4 + 0 ≤ _), (by decide : 12 + 0 ≤ _)⟩)
            dsimp only [Pt.U, Pt.locs, Pt.cells, Pt.slots] at X51 l51 y51 z51 st51 hQ51
            subst l51 y51 z51
            obtain ⟨rfl, Nq51, e51⟩ := hQ51
            have Nf51 := Fr.app Nf50 Nq51
            refine own_fw (A' := (T51.setTop (mkF m 71 #[iv p1, iv p2, iv p3, iv p4, rv b_50, iv 0, .unset] []))) (fun t k => st51.trans (XS.iconst X51.here hx rfl (hb hby at_49) (XS.icmpYes X51.here hx rfl (pc0 := 50) (pc' := 68) rfl (hb hby at_50) rfl (XT.ii_ne_t (by decide)) (by decide) (by decide) (XS.iconst X51.here hx rfl (hb hby at_68) (XS.istore X51.here hx rfl (hb hby at_69) rfl (l' := #[.val (.int p1), .val (.int p2), .val (.int p3), .val (.int p4), .val (.ref b_50), .val (.int 0), .unset]) rfl k))))) ?_
            obtain ⟨T52, h52, X52, e52, E52, A52, D52, -, st52⟩ := newO X51 hx hZ hown (own_w hw 0 rfl) (own_w hw 1 rfl) (own_w hw 2 rfl) e51 (g := (mkF m 71 #[iv p1, iv p2, iv p3, iv p4, rv b_50, iv 0, .unset] [])) rfl (hb hby at_71) (by decide) (by decide)
            obtain ⟨b52, gb52⟩ : ∃ z, z = T50.heap.size := ⟨_, rfl⟩
            have g_b52 : n0 ≤ b52 := Nat.le_trans Z50 (Nat.le_of_eq gb52.symm)
            have sz_b52 : h0.size ≤ b52 := Nat.le_trans K50.1 (Nat.le_of_eq gb52.symm)
            have ne_b_50_b52 : b_50 ≠ b52 := Nat.ne_of_lt (Nat.lt_of_lt_of_le Fq50_0.lt (Nat.le_of_eq gb52.symm))
            have ne_sb_50_b52 : sb_50 ≠ b52 := Nat.ne_of_lt (Nat.lt_of_lt_of_le Fq50_3.lt (Nat.le_of_eq gb52.symm))
            rw [← gb52] at A52 D52 st52
            have F53 : Safe Z own_EL _ h52 b52 := (Safe.ext E52 hH (Safe.new (Nat.le_of_eq gb52.symm) : Safe Z own_EL _ T50.heap b52))
            have F_path_b52 : Fld Z h52 b52 "com/example/spanwise/spanwise/cli/InputFile" "path" "Ljava/lang/String;" .null := D52 (Or.inr (own_w hw 10 rfl)) (ty := (.object "java/lang/String")) (by decide)
            have K52 : Keep h0 h52 [] := K50.ext E52
            have Z52 : n0 ≤ h52.size := Nat.le_trans Z50 E52.1
            have hk := Nat.le_trans hk E52.1
            have hC := hC.trans (CHr.ext E52 hH)
            have hH := hC.1
            refine own_fw (A' := (T52.setTop (mkF m 77 #[iv p1, iv p2, iv p3, iv p4, rv b_50, iv 0, .unset] [.ref b_50, .ref b52, .ref b52]))) (fun t k => st52 _ (XS.dup X52.here hx rfl (hb hby at_74) rfl rfl (XS.aload X52.here hx rfl (hb hby at_75) rfl rfl k))) ?_
            obtain ⟨_, _, ⟨T54, L54, k54, n54⟩, -, X54, hS54, gS54, ⟨Lc54, hQ54, l54, y54, z54, r54⟩, st54⟩ := X52.specialBackS hx (y := yq55) rfl hown (mvT hZ (own_w hw 3 rfl)) (mvT hZ (own_w hw 4 rfl)) (mvT hZ (own_w hw 5 rfl)) (by decide) (backOfSH (W := 1) (rmIniU2 l Z a0 hw [] b52 b_50 sb_50 kb_50 cs ((r_46 >>> ((0 : Int32) &&& 31)).toInt8.toInt32) ((r_46 >>> ((8 : Int32) &&& 31)).toInt8.toInt32) ((r_47 >>> ((0 : Int32) &&& 31)).toInt8.toInt32) ((r_47 >>> ((8 : Int32) &&& 31)).toInt8.toInt32) h52 n0 Z52 A52 F_path_b52 g_b52 (Fq50_0.ext E52) (Fq50_1.ext E52) (Fq50_2.ext E52) (Fq50_3.ext E52) ((own_staKeep P0 Kq50 all0).ext E52) hcs) hZ (own_w hw 5 rfl) (own_w hw 2 rfl) (by decide) (by decide) (own_EW hw) hH) (g := (mkF m 77 #[iv p1, iv p2, iv p3, iv p4, rv b_50, iv 0, .unset] [.ref b_50, .ref b52, .ref b52])) rfl (by rw [hml]; rfl) (Steps.refl _) (a := b52) (argsL := [(.ref b_50)]) (rest := [(.ref b52)]) (lenOf pd__Ljava_lang_String__V rfl) rfl (by show 2 * 0 + _ ≤ _; exact Nat.le_of_eq rfl) (hb hby at_77) (fun _ _ => ⟨rfl, e52, (by decide : 5 + 2 ≤ _), (by decide : 13 + 8 ≤ _)⟩)
            dsimp only [Pt.U, Pt.locs, Pt.cells, Pt.slots] at X54 l54 y54 z54 st54 hQ54 hS54 gS54 r54
            subst l54 y54 z54
            obtain ⟨X54, hS, hZ', hown⟩ := rebS hS (by rw [e52]; exact hk : _ ≤ T52.heap.size) X54 hS54 gS54 hZ hown
            have hk : T54.heap.size ≤ T54.heap.size := Nat.le_refl _
            obtain ⟨rfl, Nq54, Kq54, Fq54_0, Fq54_1⟩ := hQ54
            have Nf54 := Fr.app Nf51 Nq54
            have F55 : Safe Z own_EL _ T54.heap b52 := (CHr.safe r54 A52.lt F53)
            have hC := hC.trans r54
            have hH := hC.1
            have hZ := hZ'
            have K54 : Keep h0 T54.heap [] := K52.trans Kq54 (allS (Or.inr sz_b52) all0)
            have Z54 : n0 ≤ T54.heap.size := Nat.le_trans Z52 Kq54.1
            refine own_fw (A' := (T54.setTop (mkF m 84 #[iv p1, iv p2, iv p3, iv p4, rv b_50, iv 0, rv b52] [.ref b52]))) (fun t k => st54.trans (XS.astore X54.here hx rfl (hb hby at_80) rfl rfl (l' := #[.val (.int p1), .val (.int p2), .val (.int p3), .val (.int p4), .val (.ref b_50), .val (.int 0), .val (.ref b52)]) rfl (XS.aload X54.here hx rfl (hb hby at_82) rfl rfl k))) ?_
            obtain ⟨cq56, kq56, qa56, qb56, qc56⟩ := isOf hZ rfl Fq54_0
            obtain ⟨_, _, ⟨T56, L56, k56, n56⟩, -, X56, ⟨Lc56, hQ56, l56, y56, z56⟩, st56⟩ := X54.virtualBack hx (y := yq58) (z := yq58) hown (mvT hZ (own_w hw 11 rfl)) (mvT hZ (own_w hw 12 rfl)) (notFace_of_selects (args := #[]) (mvT hZ (own_w hw 14 rfl))) (mvT hZ (own_w hw 14 rfl)) (mvT hZ (own_w hw 13 rfl)) (by decide) (backOf (W := 0) (rmIsR l Z a0 hw [] b52 b_50 T54.heap n0 Z54 Fq54_1) hZ (own_w hw 15 rfl) (own_w hw 2 rfl) (by decide) (by decide)) qa56 qc56 (g := (mkF m 84 #[iv p1, iv p2, iv p3, iv p4, rv b_50, iv 0, rv b52] [.ref b52])) rfl (by rw [hml]; rfl) (Steps.refl _) (argsL := []) (rest := []) (lenOf pd___Z rfl) rfl (by show 2 * 0 + _ ≤ _; exact Nat.le_of_eq rfl) (hb hby at_84) (fun _ _ => ⟨rfl, rfl, (by decide : 7 + 0 ≤ _), (by decide : 21 + 0 ≤ _)⟩)
            dsimp only [Pt.U, Pt.locs, Pt.cells, Pt.slots] at X56 l56 y56 z56 st56 hQ56
            subst l56 y56 z56
            obtain ⟨rfl, Nq56, e56⟩ := hQ56
            have Nf56 := Fr.app Nf54 Nq56
            refine own_fw (A' := (T56.setTop (mkF m 97 #[iv p1, iv p2, iv p3, iv p4, rv b_50, iv 0, rv b52] [.int 1]))) (fun t k => st56.trans (XS.iload X56.here hx rfl (hb hby at_87) rfl (XS.icmpNo X56.here hx rfl (hb hby at_89) rfl (XT.ii_ne_f rfl) (XS.iconst X56.here hx rfl (hb hby at_92) (XS.goto X56.here hx rfl (pc0 := 93) (pc' := 97) rfl (hb hby at_93) (by decide) (by decide) k))))) ?_
            obtain ⟨fs, hr, hrun, hended, hWE⟩ := X56.leaveW hS (by rw [e56]; exact hk : _ ≤ T56.heap.size) (v := some (.int 1)) (fun h => by rw [Bd.returns] at h; cases h)
            refine ⟨_, _, ?_, hrun, hended, _, _, rfl, ?_, own_widen hWE (by decide) (by decide)⟩
            · exact retOut X56 hx Bd.returns rfl (Or.inl ⟨rfl, by simp, _, rfl⟩) (hb hby at_97) hr
            · show Q_rm0 Z p1 p2 p3 p4 cs sv h0 n0 _ T56.heap _
              rw [e56]
              exact ⟨rfl, Nf56⟩
          · by_cases hc57 : (255 : Int32) < r_47
            · obtain ⟨_, _, ⟨T58, L58, k58, n58⟩, -, X58, ⟨Lc58, hQ58, l58, y58, z58⟩, st58⟩ := Jvm.LawKit.callS X48 hx (y := yq61) hown (mvT hZ (own_w hw 22 rfl)) (mvT hZ (own_w hw 23 rfl)) (mvT hZ (own_w hw 18 rfl)) (mvT hZ (own_w hw 24 rfl)) (by decide) (backOf (W := 0) (rmDraw2_1 l Z a0 hw [] nn r_46 r_47 r_48 cs h0 n0 Z0 P0 hcs P2 P3 P4 hc7 hc18 hc45 hr_46 hr_47 hr_48 hc49 hc57) hZ (own_w hw 24 rfl) (own_w hw 18 rfl) (by decide) (by decide)) (g := (mkF m 34 #[iv p1, iv p2, iv p3, iv p4, .unset, iv nn, .unset] [.int r_48, .int r_47, .int r_46, .int nn])) rfl (by rw [hml]; rfl) (argsL := [(.int nn), (.int r_46), (.int r_47), (.int r_48)]) (rest := []) (lenOf pd__ICCC_Ljava_lang_String_ rfl) rfl (by show 2 * 0 + _ ≤ _; exact Nat.le_of_eq rfl) (hb hby at_34) (fun _ _ => ⟨rfl, e48, (by decide : 0 + 4 ≤ _), (by decide : 0 + 12 ≤ _)⟩)
              dsimp only [Pt.U, Pt.locs, Pt.cells, Pt.slots] at X58 l58 y58 z58 st58 hQ58
              subst l58 y58 z58
              obtain ⟨b_58, sb_58, kb_58, rfl, Nq58, Kq58, Fq58_0, Fq58_1, Fq58_2, Fq58_3, gb_58⟩ := hQ58
              have Nf58 := Fr.app Nf48 Nq58
              have hk := Nat.le_trans hk Kq58.1
              have hC := hC.trans (CHr.keep Kq58 sf0 hH)
              have hH := hC.1
              have K58 : Keep h0 T58.heap [] := (Keep.refl h0 []).trans Kq58 all0
              have sz_b_58 : h0.size ≤ b_58 := Nat.le_trans (Keep.refl h0 []).1 gb_58
              have g_b_58 : n0 ≤ b_58 := Nat.le_trans Z0 gb_58
              have Z58 : n0 ≤ T58.heap.size := Nat.le_trans Z0 Kq58.1
              refine own_fw (A' := (T58.setTop (mkF m 46 #[iv p1, iv p2, iv p3, iv p4, rv b_58, iv nn, .unset] [.ref b_58]))) (fun t k => st58 _ (XS.astore X58.here hx rfl (hb hby at_37) rfl rfl (l' := #[.val (.int p1), .val (.int p2), .val (.int p3), .val (.int p4), .val (.ref b_58), .val (.int nn), .unset]) rfl (XS.aload X58.here hx rfl (hb hby at_39) rfl rfl (XS.ifnullNo X58.here hx rfl (hb hby at_41) rfl (XS.aload X58.here hx rfl (hb hby at_44) rfl rfl k))))) ?_
              obtain ⟨cq59, kq59, qa59, qb59, qc59⟩ := isOf hZ rfl Fq58_0
              obtain ⟨_, _, ⟨T59, L59, k59, n59⟩, -, X59, ⟨Lc59, hQ59, l59, y59, z59⟩, st59⟩ := X58.virtualBack hx (y := yq43) (z := yq43) hown (mvT hZ (own_w hw 53 rfl)) (mvT hZ (own_w hw 54 rfl)) (notFace_of_selects (args := #[]) (mvT hZ (own_w hw 56 rfl))) (mvT hZ (own_w hw 56 rfl)) (mvT hZ (own_w hw 55 rfl)) (by decide) (backOf (W := 0) (rmLnU2 l Z a0 hw [] b_58 sb_58 kb_58 cs ((r_46 >>> ((0 : Int32) &&& 31)).toInt8.toInt32) ((r_46 >>> ((8 : Int32) &&& 31)).toInt8.toInt32) ((r_47 >>> ((0 : Int32) &&& 31)).toInt8.toInt32) ((r_47 >>> ((8 : Int32) &&& 31)).toInt8.toInt32) T58.heap n0 Z58 Fq58_0 Fq58_1 Fq58_2 Fq58_3 (own_staKeep P0 Kq58 all0) hcs) hZ (own_w hw 57 rfl) (own_w hw 27 rfl) (by decide) (by decide)) qa59 qc59 (g := (mkF m 46 #[iv p1, iv p2, iv p3, iv p4, rv b_58, iv nn, .unset] [.ref b_58])) rfl (by rw [hml]; rfl) (Steps.refl _) (argsL := []) (rest := []) (lenOf pd___I rfl) rfl (by show 2 * 0 + _ ≤ _; exact Nat.le_of_eq rfl) (hb hby at_46) (fun _ _ => ⟨rfl, rfl, (by decide : 4 + 0 ≤ _), (by decide : 12 + 0 ≤ _)⟩)
              dsimp only [Pt.U, Pt.locs, Pt.cells, Pt.slots] at X59 l59 y59 z59 st59 hQ59
              subst l59 y59 z59
              obtain ⟨rfl, Nq59, e59⟩ := hQ59
              have Nf59 := Fr.app Nf58 Nq59
              refine own_fw (A' := (T59.setTop (mkF m 71 #[iv p1, iv p2, iv p3, iv p4, rv b_58, iv 0, .unset] []))) (fun t k => st59.trans (XS.iconst X59.here hx rfl (hb hby at_49) (XS.icmpYes X59.here hx rfl (pc0 := 50) (pc' := 68) rfl (hb hby at_50) rfl (XT.ii_ne_t (by decide)) (by decide) (by decide) (XS.iconst X59.here hx rfl (hb hby at_68) (XS.istore X59.here hx rfl (hb hby at_69) rfl (l' := #[.val (.int p1), .val (.int p2), .val (.int p3), .val (.int p4), .val (.ref b_58), .val (.int 0), .unset]) rfl k))))) ?_
              obtain ⟨T60, h60, X60, e60, E60, A60, D60, -, st60⟩ := newO X59 hx hZ hown (own_w hw 0 rfl) (own_w hw 1 rfl) (own_w hw 2 rfl) e59 (g := (mkF m 71 #[iv p1, iv p2, iv p3, iv p4, rv b_58, iv 0, .unset] [])) rfl (hb hby at_71) (by decide) (by decide)
              obtain ⟨b60, gb60⟩ : ∃ z, z = T58.heap.size := ⟨_, rfl⟩
              have g_b60 : n0 ≤ b60 := Nat.le_trans Z58 (Nat.le_of_eq gb60.symm)
              have sz_b60 : h0.size ≤ b60 := Nat.le_trans K58.1 (Nat.le_of_eq gb60.symm)
              have ne_b_58_b60 : b_58 ≠ b60 := Nat.ne_of_lt (Nat.lt_of_lt_of_le Fq58_0.lt (Nat.le_of_eq gb60.symm))
              have ne_sb_58_b60 : sb_58 ≠ b60 := Nat.ne_of_lt (Nat.lt_of_lt_of_le Fq58_3.lt (Nat.le_of_eq gb60.symm))
              rw [← gb60] at A60 D60 st60
              have F61 : Safe Z own_EL _ h60 b60 := (Safe.ext E60 hH (Safe.new (Nat.le_of_eq gb60.symm) : Safe Z own_EL _ T58.heap b60))
              have F_path_b60 : Fld Z h60 b60 "com/example/spanwise/spanwise/cli/InputFile" "path" "Ljava/lang/String;" .null := D60 (Or.inr (own_w hw 10 rfl)) (ty := (.object "java/lang/String")) (by decide)
              have K60 : Keep h0 h60 [] := K58.ext E60
              have Z60 : n0 ≤ h60.size := Nat.le_trans Z58 E60.1
              have hk := Nat.le_trans hk E60.1
              have hC := hC.trans (CHr.ext E60 hH)
              have hH := hC.1
              refine own_fw (A' := (T60.setTop (mkF m 77 #[iv p1, iv p2, iv p3, iv p4, rv b_58, iv 0, .unset] [.ref b_58, .ref b60, .ref b60]))) (fun t k => st60 _ (XS.dup X60.here hx rfl (hb hby at_74) rfl rfl (XS.aload X60.here hx rfl (hb hby at_75) rfl rfl k))) ?_
              obtain ⟨_, _, ⟨T62, L62, k62, n62⟩, -, X62, hS62, gS62, ⟨Lc62, hQ62, l62, y62, z62, r62⟩, st62⟩ := X60.specialBackS hx (y := yq55) rfl hown (mvT hZ (own_w hw 3 rfl)) (mvT hZ (own_w hw 4 rfl)) (mvT hZ (own_w hw 5 rfl)) (by decide) (backOfSH (W := 1) (rmIniU2 l Z a0 hw [] b60 b_58 sb_58 kb_58 cs ((r_46 >>> ((0 : Int32) &&& 31)).toInt8.toInt32) ((r_46 >>> ((8 : Int32) &&& 31)).toInt8.toInt32) ((r_47 >>> ((0 : Int32) &&& 31)).toInt8.toInt32) ((r_47 >>> ((8 : Int32) &&& 31)).toInt8.toInt32) h60 n0 Z60 A60 F_path_b60 g_b60 (Fq58_0.ext E60) (Fq58_1.ext E60) (Fq58_2.ext E60) (Fq58_3.ext E60) ((own_staKeep P0 Kq58 all0).ext E60) hcs) hZ (own_w hw 5 rfl) (own_w hw 2 rfl) (by decide) (by decide) (own_EW hw) hH) (g := (mkF m 77 #[iv p1, iv p2, iv p3, iv p4, rv b_58, iv 0, .unset] [.ref b_58, .ref b60, .ref b60])) rfl (by rw [hml]; rfl) (Steps.refl _) (a := b60) (argsL := [(.ref b_58)]) (rest := [(.ref b60)]) (lenOf pd__Ljava_lang_String__V rfl) rfl (by show 2 * 0 + _ ≤ _; exact Nat.le_of_eq rfl) (hb hby at_77) (fun _ _ => ⟨rfl, e60, (by decide : 5 + 2 ≤ _), (by decide : 13 + 8 ≤ _)⟩)
              dsimp only [Pt.U, Pt.locs, Pt.cells, Pt.slots] at X62 l62 y62 z62 st62 hQ62 hS62 gS62 r62
              subst l62 y62 z62
              obtain ⟨X62, hS, hZ', hown⟩ := rebS hS (by rw [e60]; exact hk : _ ≤ T60.heap.size) X62 hS62 gS62 hZ hown
              have hk : T62.heap.size ≤ T62.heap.size := Nat.le_refl _
              obtain ⟨rfl, Nq62, Kq62, Fq62_0, Fq62_1⟩ := hQ62
              have Nf62 := Fr.app Nf59 Nq62
              have F63 : Safe Z own_EL _ T62.heap b60 := (CHr.safe r62 A60.lt F61)
              have hC := hC.trans r62
              have hH := hC.1
              have hZ := hZ'
              have K62 : Keep h0 T62.heap [] := K60.trans Kq62 (allS (Or.inr sz_b60) all0)
              have Z62 : n0 ≤ T62.heap.size := Nat.le_trans Z60 Kq62.1
              refine own_fw (A' := (T62.setTop (mkF m 84 #[iv p1, iv p2, iv p3, iv p4, rv b_58, iv 0, rv b60] [.ref b60]))) (fun t k => st62.trans (XS.astore X62.here hx rfl (hb hby at_80) rfl rfl (l' := #[.val (.int p1), .val (.int p2), .val (.int p3), .val (.int p4), .val (.ref b_58), .val (.int 0), .val (.ref b60)]) rfl (XS.aload X62.here hx rfl (hb hby at_82) rfl rfl k))) ?_
              obtain ⟨cq64, kq64, qa64, qb64, qc64⟩ := isOf hZ rfl Fq62_0
              obtain ⟨_, _, ⟨T64, L64, k64, n64⟩, -, X64, ⟨Lc64, hQ64, l64, y64, z64⟩, st64⟩ := X62.virtualBack hx (y := yq58) (z := yq58) hown (mvT hZ (own_w hw 11 rfl)) (mvT hZ (own_w hw 12 rfl)) (notFace_of_selects (args := #[]) (mvT hZ (own_w hw 14 rfl))) (mvT hZ (own_w hw 14 rfl)) (mvT hZ (own_w hw 13 rfl)) (by decide) (backOf (W := 0) (rmIsR l Z a0 hw [] b60 b_58 T62.heap n0 Z62 Fq62_1) hZ (own_w hw 15 rfl) (own_w hw 2 rfl) (by decide) (by decide)) qa64 qc64 (g := (mkF m 84 #[iv p1, iv p2, iv p3, iv p4, rv b_58, iv 0, rv b60] [.ref b60])) rfl (by rw [hml]; rfl) (Steps.refl _) (argsL := []) (rest := []) (lenOf pd___Z rfl) rfl (by show 2 * 0 + _ ≤ _; exact Nat.le_of_eq rfl) (hb hby at_84) (fun _ _ => ⟨rfl, rfl, (by decide : 7 + 0 ≤ _), (by decide : 21 + 0 ≤ _)⟩)
              dsimp only [Pt.U, Pt.locs, Pt.cells, Pt.slots] at X64 l64 y64 z64 st64 hQ64
              subst l64 y64 z64
              obtain ⟨rfl, Nq64, e64⟩ := hQ64
              have Nf64 := Fr.app Nf62 Nq64
              refine own_fw (A' := (T64.setTop (mkF m 97 #[iv p1, iv p2, iv p3, iv p4, rv b_58, iv 0, rv b60] [.int 1]))) (fun t k => st64.trans (XS.iload X64.here hx rfl (hb hby at_87) rfl (XS.icmpNo X64.here hx rfl (hb hby at_89) rfl (XT.ii_ne_f rfl) (XS.iconst X64.here hx rfl (hb hby at_92) (XS.goto X64.here hx rfl (pc0 := 93) (pc' := 97) rfl (hb hby at_93) (by decide) (by decide) k))))) ?_
              obtain ⟨fs, hr, hrun, hended, hWE⟩ := X64.leaveW hS (by rw [e64]; exact hk : _ ≤ T64.heap.size) (v := some (.int 1)) (fun h => by rw [Bd.returns] at h; cases h)
              refine ⟨_, _, ?_, hrun, hended, _, _, rfl, ?_, own_widen hWE (by decide) (by decide)⟩
              · exact retOut X64 hx Bd.returns rfl (Or.inl ⟨rfl, by simp, _, rfl⟩) (hb hby at_97) hr
              · show Q_rm0 Z p1 p2 p3 p4 cs sv h0 n0 _ T64.heap _
                rw [e64]
                exact ⟨rfl, Nf64⟩
            · obtain ⟨_, _, ⟨T65, L65, k65, n65⟩, -, X65, ⟨Lc65, hQ65, l65, y65, z65⟩, st65⟩ := Jvm.LawKit.callS X48 hx (y := yq61) hown (mvT hZ (own_w hw 22 rfl)) (mvT hZ (own_w hw 23 rfl)) (mvT hZ (own_w hw 18 rfl)) (mvT hZ (own_w hw 24 rfl)) (by decide) (backOf (W := 0) (rmDraw2 l Z a0 hw [] nn r_46 r_47 r_48 cs h0 n0 Z0 P0 hcs P2 P3 P4 hc7 hc18 hc45 hr_46 hr_47 hr_48 hc49 hc57) hZ (own_w hw 24 rfl) (own_w hw 18 rfl) (by decide) (by decide)) (g := (mkF m 34 #[iv p1, iv p2, iv p3, iv p4, .unset, iv nn, .unset] [.int r_48, .int r_47, .int r_46, .int nn])) rfl (by rw [hml]; rfl) (argsL := [(.int nn), (.int r_46), (.int r_47), (.int r_48)]) (rest := []) (lenOf pd__ICCC_Ljava_lang_String_ rfl) rfl (by show 2 * 0 + _ ≤ _; exact Nat.le_of_eq rfl) (hb hby at_34) (fun _ _ => ⟨rfl, e48, (by decide : 0 + 3 ≤ _), (by decide : 0 + 8 ≤ _)⟩)
              dsimp only [Pt.U, Pt.locs, Pt.cells, Pt.slots] at X65 l65 y65 z65 st65 hQ65
              subst l65 y65 z65
              obtain ⟨b_65, sb_65, kb_65, rfl, Nq65, Kq65, Fq65_0, Fq65_1, Fq65_2, Fq65_3, gb_65⟩ := hQ65
              have Nf65 := Fr.app Nf48 Nq65
              have hk := Nat.le_trans hk Kq65.1
              have hC := hC.trans (CHr.keep Kq65 sf0 hH)
              have hH := hC.1
              have K65 : Keep h0 T65.heap [] := (Keep.refl h0 []).trans Kq65 all0
              have sz_b_65 : h0.size ≤ b_65 := Nat.le_trans (Keep.refl h0 []).1 gb_65
              have g_b_65 : n0 ≤ b_65 := Nat.le_trans Z0 gb_65
              have Z65 : n0 ≤ T65.heap.size := Nat.le_trans Z0 Kq65.1
              refine own_fw (A' := (T65.setTop (mkF m 46 #[iv p1, iv p2, iv p3, iv p4, rv b_65, iv nn, .unset] [.ref b_65]))) (fun t k => st65 _ (XS.astore X65.here hx rfl (hb hby at_37) rfl rfl (l' := #[.val (.int p1), .val (.int p2), .val (.int p3), .val (.int p4), .val (.ref b_65), .val (.int nn), .unset]) rfl (XS.aload X65.here hx rfl (hb hby at_39) rfl rfl (XS.ifnullNo X65.here hx rfl (hb hby at_41) rfl (XS.aload X65.here hx rfl (hb hby at_44) rfl rfl k))))) ?_
              obtain ⟨cq66, kq66, qa66, qb66, qc66⟩ := isOf hZ rfl Fq65_0
              obtain ⟨_, _, ⟨T66, L66, k66, n66⟩, -, X66, ⟨Lc66, hQ66, l66, y66, z66⟩, st66⟩ := X65.virtualBack hx (y := yq43) (z := yq43) hown (mvT hZ (own_w hw 53 rfl)) (mvT hZ (own_w hw 54 rfl)) (notFace_of_selects (args := #[]) (mvT hZ (own_w hw 56 rfl))) (mvT hZ (own_w hw 56 rfl)) (mvT hZ (own_w hw 55 rfl)) (by decide) (backOf (W := 0) (rmLnL2 l Z a0 hw [] b_65 sb_65 kb_65 cs (r_46.toInt8.toInt32) (r_47.toInt8.toInt32) T65.heap n0 Z65 Fq65_0 Fq65_1 Fq65_2 Fq65_3 (own_staKeep P0 Kq65 all0) hcs) hZ (own_w hw 57 rfl) (own_w hw 27 rfl) (by decide) (by decide)) qa66 qc66 (g := (mkF m 46 #[iv p1, iv p2, iv p3, iv p4, rv b_65, iv nn, .unset] [.ref b_65])) rfl (by rw [hml]; rfl) (Steps.refl _) (argsL := []) (rest := []) (lenOf pd___I rfl) rfl (by show 2 * 0 + _ ≤ _; exact Nat.le_of_eq rfl) (hb hby at_46) (fun _ _ => ⟨rfl, rfl, (by decide : 3 + 0 ≤ _), (by decide : 8 + 0 ≤ _)⟩)
              dsimp only [Pt.U, Pt.locs, Pt.cells, Pt.slots] at X66 l66 y66 z66 st66 hQ66
              subst l66 y66 z66
              obtain ⟨rfl, Nq66, e66⟩ := hQ66
              have Nf66 := Fr.app Nf65 Nq66
              refine own_fw (A' := (T66.setTop (mkF m 71 #[iv p1, iv p2, iv p3, iv p4, rv b_65, iv 0, .unset] []))) (fun t k => st66.trans (XS.iconst X66.here hx rfl (hb hby at_49) (XS.icmpYes X66.here hx rfl (pc0 := 50) (pc' := 68) rfl (hb hby at_50) rfl (XT.ii_ne_t (by decide)) (by decide) (by decide) (XS.iconst X66.here hx rfl (hb hby at_68) (XS.istore X66.here hx rfl (hb hby at_69) rfl (l' := #[.val (.int p1), .val (.int p2), .val (.int p3), .val (.int p4), .val (.ref b_65), .val (.int 0), .unset]) rfl k))))) ?_
              obtain ⟨T67, h67, X67, e67, E67, A67, D67, -, st67⟩ := newO X66 hx hZ hown (own_w hw 0 rfl) (own_w hw 1 rfl) (own_w hw 2 rfl) e66 (g := (mkF m 71 #[iv p1, iv p2, iv p3, iv p4, rv b_65, iv 0, .unset] [])) rfl (hb hby at_71) (by decide) (by decide)
              obtain ⟨b67, gb67⟩ : ∃ z, z = T65.heap.size := ⟨_, rfl⟩
              have g_b67 : n0 ≤ b67 := Nat.le_trans Z65 (Nat.le_of_eq gb67.symm)
              have sz_b67 : h0.size ≤ b67 := Nat.le_trans K65.1 (Nat.le_of_eq gb67.symm)
              have ne_b_65_b67 : b_65 ≠ b67 := Nat.ne_of_lt (Nat.lt_of_lt_of_le Fq65_0.lt (Nat.le_of_eq gb67.symm))
              have ne_sb_65_b67 : sb_65 ≠ b67 := Nat.ne_of_lt (Nat.lt_of_lt_of_le Fq65_3.lt (Nat.le_of_eq gb67.symm))
              rw [← gb67] at A67 D67 st67
              have F68 : Safe Z own_EL _ h67 b67 := (Safe.ext E67 hH (Safe.new (Nat.le_of_eq gb67.symm) : Safe Z own_EL _ T65.heap b67))
              have F_path_b67 : Fld Z h67 b67 "com/example/spanwise/spanwise/cli/InputFile" "path" "Ljava/lang/String;" .null := D67 (Or.inr (own_w hw 10 rfl)) (ty := (.object "java/lang/String")) (by decide)
              have K67 : Keep h0 h67 [] := K65.ext E67
              have Z67 : n0 ≤ h67.size := Nat.le_trans Z65 E67.1
              have hk := Nat.le_trans hk E67.1
              have hC := hC.trans (CHr.ext E67 hH)
              have hH := hC.1
              refine own_fw (A' := (T67.setTop (mkF m 77 #[iv p1, iv p2, iv p3, iv p4, rv b_65, iv 0, .unset] [.ref b_65, .ref b67, .ref b67]))) (fun t k => st67 _ (XS.dup X67.here hx rfl (hb hby at_74) rfl rfl (XS.aload X67.here hx rfl (hb hby at_75) rfl rfl k))) ?_
              obtain ⟨_, _, ⟨T69, L69, k69, n69⟩, -, X69, hS69, gS69, ⟨Lc69, hQ69, l69, y69, z69, r69⟩, st69⟩ := X67.specialBackS hx (y := yq55) rfl hown (mvT hZ (own_w hw 3 rfl)) (mvT hZ (own_w hw 4 rfl)) (mvT hZ (own_w hw 5 rfl)) (by decide) (backOfSH (W := 1) (rmIniL2 l Z a0 hw [] b67 b_65 sb_65 kb_65 cs (r_46.toInt8.toInt32) (r_47.toInt8.toInt32) h67 n0 Z67 A67 F_path_b67 g_b67 (Fq65_0.ext E67) (Fq65_1.ext E67) (Fq65_2.ext E67) (Fq65_3.ext E67) ((own_staKeep P0 Kq65 all0).ext E67) hcs) hZ (own_w hw 5 rfl) (own_w hw 2 rfl) (by decide) (by decide) (own_EW hw) hH) (g := (mkF m 77 #[iv p1, iv p2, iv p3, iv p4, rv b_65, iv 0, .unset] [.ref b_65, .ref b67, .ref b67])) rfl (by rw [hml]; rfl) (Steps.refl _) (a := b67) (argsL := [(.ref b_65)]) (rest := [(.ref b67)]) (lenOf pd__Ljava_lang_String__V rfl) rfl (by show 2 * 0 + _ ≤ _; exact Nat.le_of_eq rfl) (hb hby at_77) (fun _ _ => ⟨rfl, e67, (by decide : 4 + 2 ≤ _), (by decide : 9 + 8 ≤ _)⟩)
              dsimp only [Pt.U, Pt.locs, Pt.cells, Pt.slots] at X69 l69 y69 z69 st69 hQ69 hS69 gS69 r69
              subst l69 y69 z69
              obtain ⟨X69, hS, hZ', hown⟩ := rebS hS (by rw [e67]; exact hk : _ ≤ T67.heap.size) X69 hS69 gS69 hZ hown
              have hk : T69.heap.size ≤ T69.heap.size := Nat.le_refl _
              obtain ⟨rfl, Nq69, Kq69, Fq69_0, Fq69_1⟩ := hQ69
              have Nf69 := Fr.app Nf66 Nq69
              have F70 : Safe Z own_EL _ T69.heap b67 := (CHr.safe r69 A67.lt F68)
              have hC := hC.trans r69
              have hH := hC.1
              have hZ := hZ'
              have K69 : Keep h0 T69.heap [] := K67.trans Kq69 (allS (Or.inr sz_b67) all0)
              have Z69 : n0 ≤ T69.heap.size := Nat.le_trans Z67 Kq69.1
              refine own_fw (A' := (T69.setTop (mkF m 84 #[iv p1, iv p2, iv p3, iv p4, rv b_65, iv 0, rv b67] [.ref b67]))) (fun t k => st69.trans (XS.astore X69.here hx rfl (hb hby at_80) rfl rfl (l' := #[.val (.int p1), .val (.int p2), .val (.int p3), .val (.int p4), .val (.ref b_65), .val (.int 0), .val (.ref b67)]) rfl (XS.aload X69.here hx rfl (hb hby at_82) rfl rfl k))) ?_
              obtain ⟨cq71, kq71, qa71, qb71, qc71⟩ := isOf hZ rfl Fq69_0
              obtain ⟨_, _, ⟨T71, L71, k71, n71⟩, -, X71, ⟨Lc71, hQ71, l71, y71, z71⟩, st71⟩ := X69.virtualBack hx (y := yq58) (z := yq58) hown (mvT hZ (own_w hw 11 rfl)) (mvT hZ (own_w hw 12 rfl)) (notFace_of_selects (args := #[]) (mvT hZ (own_w hw 14 rfl))) (mvT hZ (own_w hw 14 rfl)) (mvT hZ (own_w hw 13 rfl)) (by decide) (backOf (W := 0) (rmIsR l Z a0 hw [] b67 b_65 T69.heap n0 Z69 Fq69_1) hZ (own_w hw 15 rfl) (own_w hw 2 rfl) (by decide) (by decide)) qa71 qc71 (g := (mkF m 84 #[iv p1, iv p2, iv p3, iv p4, rv b_65, iv 0, rv b67] [.ref b67])) rfl (by rw [hml]; rfl) (Steps.refl _) (argsL := []) (rest := []) (lenOf pd___Z rfl) rfl (by show 2 * 0 + _ ≤ _; exact Nat.le_of_eq rfl) (hb hby at_84) (fun _ _ => ⟨rfl, rfl, (by decide : 6 + 0 ≤ _), (by decide : 17 + 0 ≤ _)⟩)
              dsimp only [Pt.U, Pt.locs, Pt.cells, Pt.slots] at X71 l71 y71 z71 st71 hQ71
              subst l71 y71 z71
              obtain ⟨rfl, Nq71, e71⟩ := hQ71
              have Nf71 := Fr.app Nf69 Nq71
              refine own_fw (A' := (T71.setTop (mkF m 97 #[iv p1, iv p2, iv p3, iv p4, rv b_65, iv 0, rv b67] [.int 1]))) (fun t k => st71.trans (XS.iload X71.here hx rfl (hb hby at_87) rfl (XS.icmpNo X71.here hx rfl (hb hby at_89) rfl (XT.ii_ne_f rfl) (XS.iconst X71.here hx rfl (hb hby at_92) (XS.goto X71.here hx rfl (pc0 := 93) (pc' := 97) rfl (hb hby at_93) (by decide) (by decide) k))))) ?_
              obtain ⟨fs, hr, hrun, hended, hWE⟩ := X71.leaveW hS (by rw [e71]; exact hk : _ ≤ T71.heap.size) (v := some (.int 1)) (fun h => by rw [Bd.returns] at h; cases h)
              refine ⟨_, _, ?_, hrun, hended, _, _, rfl, ?_, own_widen hWE (by decide) (by decide)⟩
              · exact retOut X71 hx Bd.returns rfl (Or.inl ⟨rfl, by simp, _, rfl⟩) (hb hby at_97) hr
              · show Q_rm0 Z p1 p2 p3 p4 cs sv h0 n0 _ T71.heap _
                rw [e71]
                exact ⟨rfl, Nf71⟩
        · refine own_fw (A' := (s₁.setTop (mkF m 23 #[iv p1, iv p2, iv p3, iv p4, .unset, iv nn, .unset] [.int p2, .int nn]))) (fun t k => XS.iload X0.here hx rfl (hb hby at_20) rfl (XS.iloadN X0.here hx rfl (hb hby at_22) rfl k)) ?_
          obtain ⟨_, _, ⟨T72, L72, k72, n72⟩, -, X72, ⟨Lc72, hQ72, l72, y72, z72⟩, st72⟩ := Jvm.LawKit.callS X0 hx (y := yq59) hown (mvT hZ (own_w hw 16 rfl)) (mvT hZ (own_w hw 17 rfl)) (mvT hZ (own_w hw 18 rfl)) (mvT hZ (own_w hw 19 rfl)) (by decide) (backOf (W := 1) (rmPick l Z a0 hw [] p2 h0 n0 Z0 ) hZ (own_w hw 19 rfl) (own_w hw 18 rfl) (by decide) (by decide)) (g := (mkF m 23 #[iv p1, iv p2, iv p3, iv p4, .unset, iv nn, .unset] [.int p2, .int nn])) rfl (by rw [hml]; rfl) (argsL := [(.int p2)]) (rest := [(.int nn)]) (lenOf pd__I_C rfl) rfl (by show 2 * 0 + _ ≤ _; exact Nat.le_of_eq rfl) (hb hby at_23) (fun _ _ => ⟨rfl, e0, (by decide : 0 + 0 ≤ _), (by decide : 0 + 0 ≤ _)⟩)
          dsimp only [Pt.U, Pt.locs, Pt.cells, Pt.slots] at X72 l72 y72 z72 st72 hQ72
          subst l72 y72 z72
          obtain ⟨r_72, rfl, Nq72, e72, hr_72⟩ := hQ72
          have Nf72 := Fr.app N0 Nq72
          refine own_fw (A' := (T72.setTop (mkF m 27 #[iv p1, iv p2, iv p3, iv p4, .unset, iv nn, .unset] [.int p3, .int r_72, .int nn]))) (fun t k => st72 _ (XS.iloadN X72.here hx rfl (hb hby at_26) rfl k)) ?_
          obtain ⟨_, _, ⟨T73, L73, k73, n73⟩, -, X73, ⟨Lc73, hQ73, l73, y73, z73⟩, st73⟩ := Jvm.LawKit.callS X72 hx (y := yq59) hown (mvT hZ (own_w hw 16 rfl)) (mvT hZ (own_w hw 17 rfl)) (mvT hZ (own_w hw 18 rfl)) (mvT hZ (own_w hw 19 rfl)) (by decide) (backOf (W := 2) (rmPick l Z a0 hw [] p3 h0 n0 Z0 ) hZ (own_w hw 19 rfl) (own_w hw 18 rfl) (by decide) (by decide)) (g := (mkF m 27 #[iv p1, iv p2, iv p3, iv p4, .unset, iv nn, .unset] [.int p3, .int r_72, .int nn])) rfl (by rw [hml]; rfl) (argsL := [(.int p3)]) (rest := [(.int r_72), (.int nn)]) (lenOf pd__I_C rfl) rfl (by show 2 * 0 + _ ≤ _; exact Nat.le_of_eq rfl) (hb hby at_27) (fun _ _ => ⟨rfl, e72, (by decide : 0 + 0 ≤ _), (by decide : 0 + 0 ≤ _)⟩)
          dsimp only [Pt.U, Pt.locs, Pt.cells, Pt.slots] at X73 l73 y73 z73 st73 hQ73
          subst l73 y73 z73
          obtain ⟨r_73, rfl, Nq73, e73, hr_73⟩ := hQ73
          have Nf73 := Fr.app Nf72 Nq73
          refine own_fw (A' := (T73.setTop (mkF m 31 #[iv p1, iv p2, iv p3, iv p4, .unset, iv nn, .unset] [.int p4, .int r_73, .int r_72, .int nn]))) (fun t k => st73 _ (XS.iloadN X73.here hx rfl (hb hby at_30) rfl k)) ?_
          obtain ⟨_, _, ⟨T74, L74, k74, n74⟩, -, X74, ⟨Lc74, hQ74, l74, y74, z74⟩, st74⟩ := Jvm.LawKit.callS X73 hx (y := yq59) hown (mvT hZ (own_w hw 16 rfl)) (mvT hZ (own_w hw 17 rfl)) (mvT hZ (own_w hw 18 rfl)) (mvT hZ (own_w hw 19 rfl)) (by decide) (backOf (W := 3) (rmPick l Z a0 hw [] p4 h0 n0 Z0 ) hZ (own_w hw 19 rfl) (own_w hw 18 rfl) (by decide) (by decide)) (g := (mkF m 31 #[iv p1, iv p2, iv p3, iv p4, .unset, iv nn, .unset] [.int p4, .int r_73, .int r_72, .int nn])) rfl (by rw [hml]; rfl) (argsL := [(.int p4)]) (rest := [(.int r_73), (.int r_72), (.int nn)]) (lenOf pd__I_C rfl) rfl (by show 2 * 0 + _ ≤ _; exact Nat.le_of_eq rfl) (hb hby at_31) (fun _ _ => ⟨rfl, e73, (by decide : 0 + 0 ≤ _), (by decide : 0 + 0 ≤ _)⟩)
          dsimp only [Pt.U, Pt.locs, Pt.cells, Pt.slots] at X74 l74 y74 z74 st74 hQ74
          subst l74 y74 z74
          obtain ⟨r_74, rfl, Nq74, e74, hr_74⟩ := hQ74
          have Nf74 := Fr.app Nf73 Nq74
          refine own_fw (A' := (T74.setTop (mkF m 34 #[iv p1, iv p2, iv p3, iv p4, .unset, iv nn, .unset] [.int r_74, .int r_73, .int r_72, .int nn]))) (fun t k => st74 _ k) ?_
          by_cases hc75 : (255 : Int32) < r_72
          · obtain ⟨_, _, ⟨T76, L76, k76, n76⟩, -, X76, ⟨Lc76, hQ76, l76, y76, z76⟩, st76⟩ := Jvm.LawKit.callS X74 hx (y := yq61) hown (mvT hZ (own_w hw 22 rfl)) (mvT hZ (own_w hw 23 rfl)) (mvT hZ (own_w hw 18 rfl)) (mvT hZ (own_w hw 24 rfl)) (by decide) (backOf (W := 0) (rmDraw3_0 l Z a0 hw [] nn r_72 r_73 r_74 cs h0 n0 Z0 P0 hcs P2 P3 P4 hc7 hc18 hc45 hr_72 hr_73 hr_74 hc75) hZ (own_w hw 24 rfl) (own_w hw 18 rfl) (by decide) (by decide)) (g := (mkF m 34 #[iv p1, iv p2, iv p3, iv p4, .unset, iv nn, .unset] [.int r_74, .int r_73, .int r_72, .int nn])) rfl (by rw [hml]; rfl) (argsL := [(.int nn), (.int r_72), (.int r_73), (.int r_74)]) (rest := []) (lenOf pd__ICCC_Ljava_lang_String_ rfl) rfl (by show 2 * 0 + _ ≤ _; exact Nat.le_of_eq rfl) (hb hby at_34) (fun _ _ => ⟨rfl, e74, (by decide : 0 + 4 ≤ _), (by decide : 0 + 16 ≤ _)⟩)
            dsimp only [Pt.U, Pt.locs, Pt.cells, Pt.slots] at X76 l76 y76 z76 st76 hQ76
            subst l76 y76 z76
            obtain ⟨b_76, sb_76, kb_76, rfl, Nq76, Kq76, Fq76_0, Fq76_1, Fq76_2, Fq76_3, gb_76⟩ := hQ76
            have Nf76 := Fr.app Nf74 Nq76
            have hk := Nat.le_trans hk Kq76.1
            have hC := hC.trans (CHr.keep Kq76 sf0 hH)
            have hH := hC.1
            have K76 : Keep h0 T76.heap [] := (Keep.refl h0 []).trans Kq76 all0
            have sz_b_76 : h0.size ≤ b_76 := Nat.le_trans (Keep.refl h0 []).1 gb_76
            have g_b_76 : n0 ≤ b_76 := Nat.le_trans Z0 gb_76
            have Z76 : n0 ≤ T76.heap.size := Nat.le_trans Z0 Kq76.1
            refine own_fw (A' := (T76.setTop (mkF m 46 #[iv p1, iv p2, iv p3, iv p4, rv b_76, iv nn, .unset] [.ref b_76]))) (fun t k => st76 _ (XS.astore X76.here hx rfl (hb hby at_37) rfl rfl (l' := #[.val (.int p1), .val (.int p2), .val (.int p3), .val (.int p4), .val (.ref b_76), .val (.int nn), .unset]) rfl (XS.aload X76.here hx rfl (hb hby at_39) rfl rfl (XS.ifnullNo X76.here hx rfl (hb hby at_41) rfl (XS.aload X76.here hx rfl (hb hby at_44) rfl rfl k))))) ?_
            obtain ⟨cq77, kq77, qa77, qb77, qc77⟩ := isOf hZ rfl Fq76_0
            obtain ⟨_, _, ⟨T77, L77, k77, n77⟩, -, X77, ⟨Lc77, hQ77, l77, y77, z77⟩, st77⟩ := X76.virtualBack hx (y := yq43) (z := yq43) hown (mvT hZ (own_w hw 53 rfl)) (mvT hZ (own_w hw 54 rfl)) (notFace_of_selects (args := #[]) (mvT hZ (own_w hw 56 rfl))) (mvT hZ (own_w hw 56 rfl)) (mvT hZ (own_w hw 55 rfl)) (by decide) (backOf (W := 0) (rmLnU3 l Z a0 hw [] b_76 sb_76 kb_76 cs ((r_72 >>> ((0 : Int32) &&& 31)).toInt8.toInt32) ((r_72 >>> ((8 : Int32) &&& 31)).toInt8.toInt32) ((r_73 >>> ((0 : Int32) &&& 31)).toInt8.toInt32) ((r_73 >>> ((8 : Int32) &&& 31)).toInt8.toInt32) ((r_74 >>> ((0 : Int32) &&& 31)).toInt8.toInt32) ((r_74 >>> ((8 : Int32) &&& 31)).toInt8.toInt32) T76.heap n0 Z76 Fq76_0 Fq76_1 Fq76_2 Fq76_3 (own_staKeep P0 Kq76 all0) hcs) hZ (own_w hw 57 rfl) (own_w hw 27 rfl) (by decide) (by decide)) qa77 qc77 (g := (mkF m 46 #[iv p1, iv p2, iv p3, iv p4, rv b_76, iv nn, .unset] [.ref b_76])) rfl (by rw [hml]; rfl) (Steps.refl _) (argsL := []) (rest := []) (lenOf pd___I rfl) rfl (by show 2 * 0 + _ ≤ _; exact Nat.le_of_eq rfl) (hb hby at_46) (fun _ _ => ⟨rfl, rfl, (by decide : 4 + 0 ≤ _), (by decide : 16 + 0 ≤ _)⟩)
            dsimp only [Pt.U, Pt.locs, Pt.cells, Pt.slots] at X77 l77 y77 z77 st77 hQ77
            subst l77 y77 z77
            obtain ⟨rfl, Nq77, e77⟩ := hQ77
            have Nf77 := Fr.app Nf76 Nq77
            refine own_fw (A' := (T77.setTop (mkF m 71 #[iv p1, iv p2, iv p3, iv p4, rv b_76, iv 0, .unset] []))) (fun t k => st77.trans (XS.iconst X77.here hx rfl (hb hby at_49) (XS.icmpYes X77.here hx rfl (pc0 := 50) (pc' := 68) rfl (hb hby at_50) rfl (XT.ii_ne_t (by decide)) (by decide) (by decide) (XS.iconst X77.here hx rfl (hb hby at_68) (XS.istore X77.here hx rfl (hb hby at_69) rfl (l' := #[.val (.int p1), .val (.int p2), .val (.int p3), .val (.int p4), .val (.ref b_76), .val (.int 0), .unset]) rfl k))))) ?_
            obtain ⟨T78, h78, X78, e78, E78, A78, D78, -, st78⟩ := newO X77 hx hZ hown (own_w hw 0 rfl) (own_w hw 1 rfl) (own_w hw 2 rfl) e77 (g := (mkF m 71 #[iv p1, iv p2, iv p3, iv p4, rv b_76, iv 0, .unset] [])) rfl (hb hby at_71) (by decide) (by decide)
            obtain ⟨b78, gb78⟩ : ∃ z, z = T76.heap.size := ⟨_, rfl⟩
            have g_b78 : n0 ≤ b78 := Nat.le_trans Z76 (Nat.le_of_eq gb78.symm)
            have sz_b78 : h0.size ≤ b78 := Nat.le_trans K76.1 (Nat.le_of_eq gb78.symm)
            have ne_b_76_b78 : b_76 ≠ b78 := Nat.ne_of_lt (Nat.lt_of_lt_of_le Fq76_0.lt (Nat.le_of_eq gb78.symm))
            have ne_sb_76_b78 : sb_76 ≠ b78 := Nat.ne_of_lt (Nat.lt_of_lt_of_le Fq76_3.lt (Nat.le_of_eq gb78.symm))
            rw [← gb78] at A78 D78 st78
            have F79 : Safe Z own_EL _ h78 b78 := (Safe.ext E78 hH (Safe.new (Nat.le_of_eq gb78.symm) : Safe Z own_EL _ T76.heap b78))
            have F_path_b78 : Fld Z h78 b78 "com/example/spanwise/spanwise/cli/InputFile" "path" "Ljava/lang/String;" .null := D78 (Or.inr (own_w hw 10 rfl)) (ty := (.object "java/lang/String")) (by decide)
            have K78 : Keep h0 h78 [] := K76.ext E78
            have Z78 : n0 ≤ h78.size := Nat.le_trans Z76 E78.1
            have hk := Nat.le_trans hk E78.1
            have hC := hC.trans (CHr.ext E78 hH)
            have hH := hC.1
            refine own_fw (A' := (T78.setTop (mkF m 77 #[iv p1, iv p2, iv p3, iv p4, rv b_76, iv 0, .unset] [.ref b_76, .ref b78, .ref b78]))) (fun t k => st78 _ (XS.dup X78.here hx rfl (hb hby at_74) rfl rfl (XS.aload X78.here hx rfl (hb hby at_75) rfl rfl k))) ?_
            obtain ⟨_, _, ⟨T80, L80, k80, n80⟩, -, X80, hS80, gS80, ⟨Lc80, hQ80, l80, y80, z80, r80⟩, st80⟩ := X78.specialBackS hx (y := yq55) rfl hown (mvT hZ (own_w hw 3 rfl)) (mvT hZ (own_w hw 4 rfl)) (mvT hZ (own_w hw 5 rfl)) (by decide) (backOfSH (W := 1) (rmIniU3 l Z a0 hw [] b78 b_76 sb_76 kb_76 cs ((r_72 >>> ((0 : Int32) &&& 31)).toInt8.toInt32) ((r_72 >>> ((8 : Int32) &&& 31)).toInt8.toInt32) ((r_73 >>> ((0 : Int32) &&& 31)).toInt8.toInt32) ((r_73 >>> ((8 : Int32) &&& 31)).toInt8.toInt32) ((r_74 >>> ((0 : Int32) &&& 31)).toInt8.toInt32) ((r_74 >>> ((8 : Int32) &&& 31)).toInt8.toInt32) h78 n0 Z78 A78 F_path_b78 g_b78 (Fq76_0.ext E78) (Fq76_1.ext E78) (Fq76_2.ext E78) (Fq76_3.ext E78) ((own_staKeep P0 Kq76 all0).ext E78) hcs) hZ (own_w hw 5 rfl) (own_w hw 2 rfl) (by decide) (by decide) (own_EW hw) hH) (g := (mkF m 77 #[iv p1, iv p2, iv p3, iv p4, rv b_76, iv 0, .unset] [.ref b_76, .ref b78, .ref b78])) rfl (by rw [hml]; rfl) (Steps.refl _) (a := b78) (argsL := [(.ref b_76)]) (rest := [(.ref b78)]) (lenOf pd__Ljava_lang_String__V rfl) rfl (by show 2 * 0 + _ ≤ _; exact Nat.le_of_eq rfl) (hb hby at_77) (fun _ _ => ⟨rfl, e78, (by decide : 5 + 2 ≤ _), (by decide : 17 + 8 ≤ _)⟩)
            dsimp only [Pt.U, Pt.locs, Pt.cells, Pt.slots] at X80 l80 y80 z80 st80 hQ80 hS80 gS80 r80
            subst l80 y80 z80
            obtain ⟨X80, hS, hZ', hown⟩ := rebS hS (by rw [e78]; exact hk : _ ≤ T78.heap.size) X80 hS80 gS80 hZ hown
            have hk : T80.heap.size ≤ T80.heap.size := Nat.le_refl _
            obtain ⟨rfl, Nq80, Kq80, Fq80_0, Fq80_1⟩ := hQ80
            have Nf80 := Fr.app Nf77 Nq80
            have F81 : Safe Z own_EL _ T80.heap b78 := (CHr.safe r80 A78.lt F79)
            have hC := hC.trans r80
            have hH := hC.1
            have hZ := hZ'
            have K80 : Keep h0 T80.heap [] := K78.trans Kq80 (allS (Or.inr sz_b78) all0)
            have Z80 : n0 ≤ T80.heap.size := Nat.le_trans Z78 Kq80.1
            refine own_fw (A' := (T80.setTop (mkF m 84 #[iv p1, iv p2, iv p3, iv p4, rv b_76, iv 0, rv b78] [.ref b78]))) (fun t k => st80.trans (XS.astore X80.here hx rfl (hb hby at_80) rfl rfl (l' := #[.val (.int p1), .val (.int p2), .val (.int p3), .val (.int p4), .val (.ref b_76), .val (.int 0), .val (.ref b78)]) rfl (XS.aload X80.here hx rfl (hb hby at_82) rfl rfl k))) ?_
            obtain ⟨cq82, kq82, qa82, qb82, qc82⟩ := isOf hZ rfl Fq80_0
            obtain ⟨_, _, ⟨T82, L82, k82, n82⟩, -, X82, ⟨Lc82, hQ82, l82, y82, z82⟩, st82⟩ := X80.virtualBack hx (y := yq58) (z := yq58) hown (mvT hZ (own_w hw 11 rfl)) (mvT hZ (own_w hw 12 rfl)) (notFace_of_selects (args := #[]) (mvT hZ (own_w hw 14 rfl))) (mvT hZ (own_w hw 14 rfl)) (mvT hZ (own_w hw 13 rfl)) (by decide) (backOf (W := 0) (rmIsR l Z a0 hw [] b78 b_76 T80.heap n0 Z80 Fq80_1) hZ (own_w hw 15 rfl) (own_w hw 2 rfl) (by decide) (by decide)) qa82 qc82 (g := (mkF m 84 #[iv p1, iv p2, iv p3, iv p4, rv b_76, iv 0, rv b78] [.ref b78])) rfl (by rw [hml]; rfl) (Steps.refl _) (argsL := []) (rest := []) (lenOf pd___Z rfl) rfl (by show 2 * 0 + _ ≤ _; exact Nat.le_of_eq rfl) (hb hby at_84) (fun _ _ => ⟨rfl, rfl, (by decide : 7 + 0 ≤ _), (by decide : 25 + 0 ≤ _)⟩)
            dsimp only [Pt.U, Pt.locs, Pt.cells, Pt.slots] at X82 l82 y82 z82 st82 hQ82
            subst l82 y82 z82
            obtain ⟨rfl, Nq82, e82⟩ := hQ82
            have Nf82 := Fr.app Nf80 Nq82
            refine own_fw (A' := (T82.setTop (mkF m 97 #[iv p1, iv p2, iv p3, iv p4, rv b_76, iv 0, rv b78] [.int 1]))) (fun t k => st82.trans (XS.iload X82.here hx rfl (hb hby at_87) rfl (XS.icmpNo X82.here hx rfl (hb hby at_89) rfl (XT.ii_ne_f rfl) (XS.iconst X82.here hx rfl (hb hby at_92) (XS.goto X82.here hx rfl (pc0 := 93) (pc' := 97) rfl (hb hby at_93) (by decide) (by decide) k))))) ?_
            obtain ⟨fs, hr, hrun, hended, hWE⟩ := X82.leaveW hS (by rw [e82]; exact hk : _ ≤ T82.heap.size) (v := some (.int 1)) (fun h => by rw [Bd.returns] at h; cases h)
            refine ⟨_, _, ?_, hrun, hended, _, _, rfl, ?_, own_widen hWE (by decide) (by decide)⟩
            · exact retOut X82 hx Bd.returns rfl (Or.inl ⟨rfl, by simp, _, rfl⟩) (hb hby at_97) hr
            · show Q_rm0 Z p1 p2 p3 p4 cs sv h0 n0 _ T82.heap _
              rw [e82]
              exact ⟨rfl, Nf82⟩
          · by_cases hc83 : (255 : Int32) < r_73
            · obtain ⟨_, _, ⟨T84, L84, k84, n84⟩, -, X84, ⟨Lc84, hQ84, l84, y84, z84⟩, st84⟩ := Jvm.LawKit.callS X74 hx (y := yq61) hown (mvT hZ (own_w hw 22 rfl)) (mvT hZ (own_w hw 23 rfl)) (mvT hZ (own_w hw 18 rfl)) (mvT hZ (own_w hw 24 rfl)) (by decide) (backOf (W := 0) (rmDraw3_1 l Z a0 hw [] nn r_72 r_73 r_74 cs h0 n0 Z0 P0 hcs P2 P3 P4 hc7 hc18 hc45 hr_72 hr_73 hr_74 hc75 hc83) hZ (own_w hw 24 rfl) (own_w hw 18 rfl) (by decide) (by decide)) (g := (mkF m 34 #[iv p1, iv p2, iv p3, iv p4, .unset, iv nn, .unset] [.int r_74, .int r_73, .int r_72, .int nn])) rfl (by rw [hml]; rfl) (argsL := [(.int nn), (.int r_72), (.int r_73), (.int r_74)]) (rest := []) (lenOf pd__ICCC_Ljava_lang_String_ rfl) rfl (by show 2 * 0 + _ ≤ _; exact Nat.le_of_eq rfl) (hb hby at_34) (fun _ _ => ⟨rfl, e74, (by decide : 0 + 4 ≤ _), (by decide : 0 + 16 ≤ _)⟩)
              dsimp only [Pt.U, Pt.locs, Pt.cells, Pt.slots] at X84 l84 y84 z84 st84 hQ84
              subst l84 y84 z84
              obtain ⟨b_84, sb_84, kb_84, rfl, Nq84, Kq84, Fq84_0, Fq84_1, Fq84_2, Fq84_3, gb_84⟩ := hQ84
              have Nf84 := Fr.app Nf74 Nq84
              have hk := Nat.le_trans hk Kq84.1
              have hC := hC.trans (CHr.keep Kq84 sf0 hH)
              have hH := hC.1
              have K84 : Keep h0 T84.heap [] := (Keep.refl h0 []).trans Kq84 all0
              have sz_b_84 : h0.size ≤ b_84 := Nat.le_trans (Keep.refl h0 []).1 gb_84
              have g_b_84 : n0 ≤ b_84 := Nat.le_trans Z0 gb_84
              have Z84 : n0 ≤ T84.heap.size := Nat.le_trans Z0 Kq84.1
              refine own_fw (A' := (T84.setTop (mkF m 46 #[iv p1, iv p2, iv p3, iv p4, rv b_84, iv nn, .unset] [.ref b_84]))) (fun t k => st84 _ (XS.astore X84.here hx rfl (hb hby at_37) rfl rfl (l' := #[.val (.int p1), .val (.int p2), .val (.int p3), .val (.int p4), .val (.ref b_84), .val (.int nn), .unset]) rfl (XS.aload X84.here hx rfl (hb hby at_39) rfl rfl (XS.ifnullNo X84.here hx rfl (hb hby at_41) rfl (XS.aload X84.here hx rfl (hb hby at_44) rfl rfl k))))) ?_
              obtain ⟨cq85, kq85, qa85, qb85, qc85⟩ := isOf hZ rfl Fq84_0
              obtain ⟨_, _, ⟨T85, L85, k85, n85⟩, -, X85, ⟨Lc85, hQ85, l85, y85, z85⟩, st85⟩ := X84.virtualBack hx (y := yq43) (z := yq43) hown (mvT hZ (own_w hw 53 rfl)) (mvT hZ (own_w hw 54 rfl)) (notFace_of_selects (args := #[]) (mvT hZ (own_w hw 56 rfl))) (mvT hZ (own_w hw 56 rfl)) (mvT hZ (own_w hw 55 rfl)) (by decide) (backOf (W := 0) (rmLnU3 l Z a0 hw [] b_84 sb_84 kb_84 cs ((r_72 >>> ((0 : Int32) &&& 31)).toInt8.toInt32) ((r_72 >>> ((8 : Int32) &&& 31)).toInt8.toInt32) ((r_73 >>> ((0 : Int32) &&& 31)).toInt8.toInt32) ((r_73 >>> ((8 : Int32) &&& 31)).toInt8.toInt32) ((r_74 >>> ((0 : Int32) &&& 31)).toInt8.toInt32) ((r_74 >>> ((8 : Int32) &&& 31)).toInt8.toInt32) T84.heap n0 Z84 Fq84_0 Fq84_1 Fq84_2 Fq84_3 (own_staKeep P0 Kq84 all0) hcs) hZ (own_w hw 57 rfl) (own_w hw 27 rfl) (by decide) (by decide)) qa85 qc85 (g := (mkF m 46 #[iv p1, iv p2, iv p3, iv p4, rv b_84, iv nn, .unset] [.ref b_84])) rfl (by rw [hml]; rfl) (Steps.refl _) (argsL := []) (rest := []) (lenOf pd___I rfl) rfl (by show 2 * 0 + _ ≤ _; exact Nat.le_of_eq rfl) (hb hby at_46) (fun _ _ => ⟨rfl, rfl, (by decide : 4 + 0 ≤ _), (by decide : 16 + 0 ≤ _)⟩)
              dsimp only [Pt.U, Pt.locs, Pt.cells, Pt.slots] at X85 l85 y85 z85 st85 hQ85
              subst l85 y85 z85
              obtain ⟨rfl, Nq85, e85⟩ := hQ85
              have Nf85 := Fr.app Nf84 Nq85
              refine own_fw (A' := (T85.setTop (mkF m 71 #[iv p1, iv p2, iv p3, iv p4, rv b_84, iv 0, .unset] []))) (fun t k => st85.trans (XS.iconst X85.here hx rfl (hb hby at_49) (XS.icmpYes X85.here hx rfl (pc0 := 50) (pc' := 68) rfl (hb hby at_50) rfl (XT.ii_ne_t (by decide)) (by decide) (by decide) (XS.iconst X85.here hx rfl (hb hby at_68) (XS.istore X85.here hx rfl (hb hby at_69) rfl (l' := #[.val (.int p1), .val (.int p2), .val (.int p3), .val (.int p4), .val (.ref b_84), .val (.int 0), .unset]) rfl k))))) ?_
              obtain ⟨T86, h86, X86, e86, E86, A86, D86, -, st86⟩ := newO X85 hx hZ hown (own_w hw 0 rfl) (own_w hw 1 rfl) (own_w hw 2 rfl) e85 (g := (mkF m 71 #[iv p1, iv p2, iv p3, iv p4, rv b_84, iv 0, .unset] [])) rfl (hb hby at_71) (by decide) (by decide)
              obtain ⟨b86, gb86⟩ : ∃ z, z = T84.heap.size := ⟨_, rfl⟩
              have g_b86 : n0 ≤ b86 := Nat.le_trans Z84 (Nat.le_of_eq gb86.symm)
              have sz_b86 : h0.size ≤ b86 := Nat.le_trans K84.1 (Nat.le_of_eq gb86.symm)
              have ne_b_84_b86 : b_84 ≠ b86 := Nat.ne_of_lt (Nat.lt_of_lt_of_le Fq84_0.lt (Nat.le_of_eq gb86.symm))
              have ne_sb_84_b86 : sb_84 ≠ b86 := Nat.ne_of_lt (Nat.lt_of_lt_of_le Fq84_3.lt (Nat.le_of_eq gb86.symm))
              rw [← gb86] at A86 D86 st86
              have F87 : Safe Z own_EL _ h86 b86 := (Safe.ext E86 hH (Safe.new (Nat.le_of_eq gb86.symm) : Safe Z own_EL _ T84.heap b86))
              have F_path_b86 : Fld Z h86 b86 "com/example/spanwise/spanwise/cli/InputFile" "path" "Ljava/lang/String;" .null := D86 (Or.inr (own_w hw 10 rfl)) (ty := (.object "java/lang/String")) (by decide)
              have K86 : Keep h0 h86 [] := K84.ext E86
              have Z86 : n0 ≤ h86.size := Nat.le_trans Z84 E86.1
              have hk := Nat.le_trans hk E86.1
              have hC := hC.trans (CHr.ext E86 hH)
              have hH := hC.1
              refine own_fw (A' := (T86.setTop (mkF m 77 #[iv p1, iv p2, iv p3, iv p4, rv b_84, iv 0, .unset] [.ref b_84, .ref b86, .ref b86]))) (fun t k => st86 _ (XS.dup X86.here hx rfl (hb hby at_74) rfl rfl (XS.aload X86.here hx rfl (hb hby at_75) rfl rfl k))) ?_
              obtain ⟨_, _, ⟨T88, L88, k88, n88⟩, -, X88, hS88, gS88, ⟨Lc88, hQ88, l88, y88, z88, r88⟩, st88⟩ := X86.specialBackS hx (y := yq55) rfl hown (mvT hZ (own_w hw 3 rfl)) (mvT hZ (own_w hw 4 rfl)) (mvT hZ (own_w hw 5 rfl)) (by decide) (backOfSH (W := 1) (rmIniU3 l Z a0 hw [] b86 b_84 sb_84 kb_84 cs ((r_72 >>> ((0 : Int32) &&& 31)).toInt8.toInt32) ((r_72 >>> ((8 : Int32) &&& 31)).toInt8.toInt32) ((r_73 >>> ((0 : Int32) &&& 31)).toInt8.toInt32) ((r_73 >>> ((8 : Int32) &&& 31)).toInt8.toInt32) ((r_74 >>> ((0 : Int32) &&& 31)).toInt8.toInt32) ((r_74 >>> ((8 : Int32) &&& 31)).toInt8.toInt32) h86 n0 Z86 A86 F_path_b86 g_b86 (Fq84_0.ext E86) (Fq84_1.ext E86) (Fq84_2.ext E86) (Fq84_3.ext E86) ((own_staKeep P0 Kq84 all0).ext E86) hcs) hZ (own_w hw 5 rfl) (own_w hw 2 rfl) (by decide) (by decide) (own_EW hw) hH) (g := (mkF m 77 #[iv p1, iv p2, iv p3, iv p4, rv b_84, iv 0, .unset] [.ref b_84, .ref b86, .ref b86])) rfl (by rw [hml]; rfl) (Steps.refl _) (a := b86) (argsL := [(.ref b_84)]) (rest := [(.ref b86)]) (lenOf pd__Ljava_lang_String__V rfl) rfl (by show 2 * 0 + _ ≤ _; exact Nat.le_of_eq rfl) (hb hby at_77) (fun _ _ => ⟨rfl, e86, (by decide : 5 + 2 ≤ _), (by decide : 17 + 8 ≤ _)⟩)
              dsimp only [Pt.U, Pt.locs, Pt.cells, Pt.slots] at X88 l88 y88 z88 st88 hQ88 hS88 gS88 r88
              subst l88 y88 z88
              obtain ⟨X88, hS, hZ', hown⟩ := rebS hS (by rw [e86]; exact hk : _ ≤ T86.heap.size) X88 hS88 gS88 hZ hown
              have hk : T88.heap.size ≤ T88.heap.size := Nat.le_refl _
              obtain ⟨rfl, Nq88, Kq88, Fq88_0, Fq88_1⟩ := hQ88
              have Nf88 := Fr.app Nf85 Nq88
              have F89 : Safe Z own_EL _ T88.heap b86 := (CHr.safe r88 A86.lt F87)
              have hC := hC.trans r88
              have hH := hC.1
              have hZ := hZ'
              have K88 : Keep h0 T88.heap [] := K86.trans Kq88 (allS (Or.inr sz_b86) all0)
              have Z88 : n0 ≤ T88.heap.size := Nat.le_trans Z86 Kq88.1
              refine own_fw (A' := (T88.setTop (mkF m 84 #[iv p1, iv p2, iv p3, iv p4, rv b_84, iv 0, rv b86] [.ref b86]))) (fun t k => st88.trans (XS.astore X88.here hx rfl (hb hby at_80) rfl rfl (l' := #[.val (.int p1), .val (.int p2), .val (.int p3), .val (.int p4), .val (.ref b_84), .val (.int 0), .val (.ref b86)]) rfl (XS.aload X88.here hx rfl (hb hby at_82) rfl rfl k))) ?_
              obtain ⟨cq90, kq90, qa90, qb90, qc90⟩ := isOf hZ rfl Fq88_0
              obtain ⟨_, _, ⟨T90, L90, k90, n90⟩, -, X90, ⟨Lc90, hQ90, l90, y90, z90⟩, st90⟩ := X88.virtualBack hx (y := yq58) (z := yq58) hown (mvT hZ (own_w hw 11 rfl)) (mvT hZ (own_w hw 12 rfl)) (notFace_of_selects (args := #[]) (mvT hZ (own_w hw 14 rfl))) (mvT hZ (own_w hw 14 rfl)) (mvT hZ (own_w hw 13 rfl)) (by decide) (backOf (W := 0) (rmIsR l Z a0 hw [] b86 b_84 T88.heap n0 Z88 Fq88_1) hZ (own_w hw 15 rfl) (own_w hw 2 rfl) (by decide) (by decide)) qa90 qc90 (g := (mkF m 84 #[iv p1, iv p2, iv p3, iv p4, rv b_84, iv 0, rv b86] [.ref b86])) rfl (by rw [hml]; rfl) (Steps.refl _) (argsL := []) (rest := []) (lenOf pd___Z rfl) rfl (by show 2 * 0 + _ ≤ _; exact Nat.le_of_eq rfl) (hb hby at_84) (fun _ _ => ⟨rfl, rfl, (by decide : 7 + 0 ≤ _), (by decide : 25 + 0 ≤ _)⟩)
              dsimp only [Pt.U, Pt.locs, Pt.cells, Pt.slots] at X90 l90 y90 z90 st90 hQ90
              subst l90 y90 z90
              obtain ⟨rfl, Nq90, e90⟩ := hQ90
              have Nf90 := Fr.app Nf88 Nq90
              refine own_fw (A' := (T90.setTop (mkF m 97 #[iv p1, iv p2, iv p3, iv p4, rv b_84, iv 0, rv b86] [.int 1]))) (fun t k => st90.trans (XS.iload X90.here hx rfl (hb hby at_87) rfl (XS.icmpNo X90.here hx rfl (hb hby at_89) rfl (XT.ii_ne_f rfl) (XS.iconst X90.here hx rfl (hb hby at_92) (XS.goto X90.here hx rfl (pc0 := 93) (pc' := 97) rfl (hb hby at_93) (by decide) (by decide) k))))) ?_
              obtain ⟨fs, hr, hrun, hended, hWE⟩ := X90.leaveW hS (by rw [e90]; exact hk : _ ≤ T90.heap.size) (v := some (.int 1)) (fun h => by rw [Bd.returns] at h; cases h)
              refine ⟨_, _, ?_, hrun, hended, _, _, rfl, ?_, own_widen hWE (by decide) (by decide)⟩
              · exact retOut X90 hx Bd.returns rfl (Or.inl ⟨rfl, by simp, _, rfl⟩) (hb hby at_97) hr
              · show Q_rm0 Z p1 p2 p3 p4 cs sv h0 n0 _ T90.heap _
                rw [e90]
                exact ⟨rfl, Nf90⟩
            · by_cases hc91 : (255 : Int32) < r_74
              · obtain ⟨_, _, ⟨T92, L92, k92, n92⟩, -, X92, ⟨Lc92, hQ92, l92, y92, z92⟩, st92⟩ := Jvm.LawKit.callS X74 hx (y := yq61) hown (mvT hZ (own_w hw 22 rfl)) (mvT hZ (own_w hw 23 rfl)) (mvT hZ (own_w hw 18 rfl)) (mvT hZ (own_w hw 24 rfl)) (by decide) (backOf (W := 0) (rmDraw3_2 l Z a0 hw [] nn r_72 r_73 r_74 cs h0 n0 Z0 P0 hcs P2 P3 P4 hc7 hc18 hc45 hr_72 hr_73 hr_74 hc75 hc83 hc91) hZ (own_w hw 24 rfl) (own_w hw 18 rfl) (by decide) (by decide)) (g := (mkF m 34 #[iv p1, iv p2, iv p3, iv p4, .unset, iv nn, .unset] [.int r_74, .int r_73, .int r_72, .int nn])) rfl (by rw [hml]; rfl) (argsL := [(.int nn), (.int r_72), (.int r_73), (.int r_74)]) (rest := []) (lenOf pd__ICCC_Ljava_lang_String_ rfl) rfl (by show 2 * 0 + _ ≤ _; exact Nat.le_of_eq rfl) (hb hby at_34) (fun _ _ => ⟨rfl, e74, (by decide : 0 + 4 ≤ _), (by decide : 0 + 16 ≤ _)⟩)
                dsimp only [Pt.U, Pt.locs, Pt.cells, Pt.slots] at X92 l92 y92 z92 st92 hQ92
                subst l92 y92 z92
                obtain ⟨b_92, sb_92, kb_92, rfl, Nq92, Kq92, Fq92_0, Fq92_1, Fq92_2, Fq92_3, gb_92⟩ := hQ92
                have Nf92 := Fr.app Nf74 Nq92
                have hk := Nat.le_trans hk Kq92.1
                have hC := hC.trans (CHr.keep Kq92 sf0 hH)
                have hH := hC.1
                have K92 : Keep h0 T92.heap [] := (Keep.refl h0 []).trans Kq92 all0
                have sz_b_92 : h0.size ≤ b_92 := Nat.le_trans (Keep.refl h0 []).1 gb_92
                have g_b_92 : n0 ≤ b_92 := Nat.le_trans Z0 gb_92
                have Z92 : n0 ≤ T92.heap.size := Nat.le_trans Z0 Kq92.1
                refine own_fw (A' := (T92.setTop (mkF m 46 #[iv p1, iv p2, iv p3, iv p4, rv b_92, iv nn, .unset] [.ref b_92]))) (fun t k => st92 _ (XS.astore X92.here hx rfl (hb hby at_37) rfl rfl (l' := #[.val (.int p1), .val (.int p2), .val (.int p3), .val (.int p4), .val (.ref b_92), .val (.int nn), .unset]) rfl (XS.aload X92.here hx rfl (hb hby at_39) rfl rfl (XS.ifnullNo X92.here hx rfl (hb hby at_41) rfl (XS.aload X92.here hx rfl (hb hby at_44) rfl rfl k))))) ?_
                obtain ⟨cq93, kq93, qa93, qb93, qc93⟩ := isOf hZ rfl Fq92_0
                obtain ⟨_, _, ⟨T93, L93, k93, n93⟩, -, X93, ⟨Lc93, hQ93, l93, y93, z93⟩, st93⟩ := X92.virtualBack hx (y := yq43) (z := yq43) hown (mvT hZ (own_w hw 53 rfl)) (mvT hZ (own_w hw 54 rfl)) (notFace_of_selects (args := #[]) (mvT hZ (own_w hw 56 rfl))) (mvT hZ (own_w hw 56 rfl)) (mvT hZ (own_w hw 55 rfl)) (by decide) (backOf (W := 0) (rmLnU3 l Z a0 hw [] b_92 sb_92 kb_92 cs ((r_72 >>> ((0 : Int32) &&& 31)).toInt8.toInt32) ((r_72 >>> ((8 : Int32) &&& 31)).toInt8.toInt32) ((r_73 >>> ((0 : Int32) &&& 31)).toInt8.toInt32) ((r_73 >>> ((8 : Int32) &&& 31)).toInt8.toInt32) ((r_74 >>> ((0 : Int32) &&& 31)).toInt8.toInt32) ((r_74 >>> ((8 : Int32) &&& 31)).toInt8.toInt32) T92.heap n0 Z92 Fq92_0 Fq92_1 Fq92_2 Fq92_3 (own_staKeep P0 Kq92 all0) hcs) hZ (own_w hw 57 rfl) (own_w hw 27 rfl) (by decide) (by decide)) qa93 qc93 (g := (mkF m 46 #[iv p1, iv p2, iv p3, iv p4, rv b_92, iv nn, .unset] [.ref b_92])) rfl (by rw [hml]; rfl) (Steps.refl _) (argsL := []) (rest := []) (lenOf pd___I rfl) rfl (by show 2 * 0 + _ ≤ _; exact Nat.le_of_eq rfl) (hb hby at_46) (fun _ _ => ⟨rfl, rfl, (by decide : 4 + 0 ≤ _), (by decide : 16 + 0 ≤ _)⟩)
                dsimp only [Pt.U, Pt.locs, Pt.cells, Pt.slots] at X93 l93 y93 z93 st93 hQ93
                subst l93 y93 z93
                obtain ⟨rfl, Nq93, e93⟩ := hQ93
                have Nf93 := Fr.app Nf92 Nq93
                refine own_fw (A' := (T93.setTop (mkF m 71 #[iv p1, iv p2, iv p3, iv p4, rv b_92, iv 0, .unset] []))) (fun t k => st93.trans (XS.iconst X93.here hx rfl (hb hby at_49) (XS.icmpYes X93.here hx rfl (pc0 := 50) (pc' := 68) rfl (hb hby at_50) rfl (XT.ii_ne_t (by decide)) (by decide) (by decide) (XS.iconst X93.here hx rfl (hb hby at_68) (XS.istore X93.here hx rfl (hb hby at_69) rfl (l' := #[.val (.int p1), .val (.int p2), .val (.int p3), .val (.int p4), .val (.ref b_92), .val (.int 0), .unset]) rfl k))))) ?_
                obtain ⟨T94, h94, X94, e94, E94, A94, D94, -, st94⟩ := newO X93 hx hZ hown (own_w hw 0 rfl) (own_w hw 1 rfl) (own_w hw 2 rfl) e93 (g := (mkF m 71 #[iv p1, iv p2, iv p3, iv p4, rv b_92, iv 0, .unset] [])) rfl (hb hby at_71) (by decide) (by decide)
                obtain ⟨b94, gb94⟩ : ∃ z, z = T92.heap.size := ⟨_, rfl⟩
                have g_b94 : n0 ≤ b94 := Nat.le_trans Z92 (Nat.le_of_eq gb94.symm)
                have sz_b94 : h0.size ≤ b94 := Nat.le_trans K92.1 (Nat.le_of_eq gb94.symm)
                have ne_b_92_b94 : b_92 ≠ b94 := Nat.ne_of_lt (Nat.lt_of_lt_of_le Fq92_0.lt (Nat.le_of_eq gb94.symm))
                have ne_sb_92_b94 : sb_92 ≠ b94 := Nat.ne_of_lt (Nat.lt_of_lt_of_le Fq92_3.lt (Nat.le_of_eq gb94.symm))
                rw [← gb94] at A94 D94 st94
                have F95 : Safe Z own_EL _ h94 b94 := (Safe.ext E94 hH (Safe.new (Nat.le_of_eq gb94.symm) : Safe Z own_EL _ T92.heap b94))
                have F_path_b94 : Fld Z h94 b94 "com/example/spanwise/spanwise/cli/InputFile" "path" "Ljava/lang/String;" .null := D94 (Or.inr (own_w hw 10 rfl)) (ty := (.object "java/lang/String")) (by decide)
                have K94 : Keep h0 h94 [] := K92.ext E94
                have Z94 : n0 ≤ h94.size := Nat.le_trans Z92 E94.1
                have hk := Nat.le_trans hk E94.1
                have hC := hC.trans (CHr.ext E94 hH)
                have hH := hC.1
                refine own_fw (A' := (T94.setTop (mkF m 77 #[iv p1, iv p2, iv p3, iv p4, rv b_92, iv 0, .unset] [.ref b_92, .ref b94, .ref b94]))) (fun t k => st94 _ (XS.dup X94.here hx rfl (hb hby at_74) rfl rfl (XS.aload X94.here hx rfl (hb hby at_75) rfl rfl k))) ?_
                obtain ⟨_, _, ⟨T96, L96, k96, n96⟩, -, X96, hS96, gS96, ⟨Lc96, hQ96, l96, y96, z96, r96⟩, st96⟩ := X94.specialBackS hx (y := yq55) rfl hown (mvT hZ (own_w hw 3 rfl)) (mvT hZ (own_w hw 4 rfl)) (mvT hZ (own_w hw 5 rfl)) (by decide) (backOfSH (W := 1) (rmIniU3 l Z a0 hw [] b94 b_92 sb_92 kb_92 cs ((r_72 >>> ((0 : Int32) &&& 31)).toInt8.toInt32) ((r_72 >>> ((8 : Int32) &&& 31)).toInt8.toInt32) ((r_73 >>> ((0 : Int32) &&& 31)).toInt8.toInt32) ((r_73 >>> ((8 : Int32) &&& 31)).toInt8.toInt32) ((r_74 >>> ((0 : Int32) &&& 31)).toInt8.toInt32) ((r_74 >>> ((8 : Int32) &&& 31)).toInt8.toInt32) h94 n0 Z94 A94 F_path_b94 g_b94 (Fq92_0.ext E94) (Fq92_1.ext E94) (Fq92_2.ext E94) (Fq92_3.ext E94) ((own_staKeep P0 Kq92 all0).ext E94) hcs) hZ (own_w hw 5 rfl) (own_w hw 2 rfl) (by decide) (by decide) (own_EW hw) hH) (g := (mkF m 77 #[iv p1, iv p2, iv p3, iv p4, rv b_92, iv 0, .unset] [.ref b_92, .ref b94, .ref b94])) rfl (by rw [hml]; rfl) (Steps.refl _) (a := b94) (argsL := [(.ref b_92)]) (rest := [(.ref b94)]) (lenOf pd__Ljava_lang_String__V rfl) rfl (by show 2 * 0 + _ ≤ _; exact Nat.le_of_eq rfl) (hb hby at_77) (fun _ _ => ⟨rfl, e94, (by decide : 5 + 2 ≤ _), (by decide : 17 + 8 ≤ _)⟩)
                dsimp only [Pt.U, Pt.locs, Pt.cells, Pt.slots] at X96 l96 y96 z96 st96 hQ96 hS96 gS96 r96
                subst l96 y96 z96
                obtain ⟨X96, hS, hZ', hown⟩ := rebS hS (by rw [e94]; exact hk : _ ≤ T94.heap.size) X96 hS96 gS96 hZ hown
                have hk : T96.heap.size ≤ T96.heap.size := Nat.le_refl _
                obtain ⟨rfl, Nq96, Kq96, Fq96_0, Fq96_1⟩ := hQ96
                have Nf96 := Fr.app Nf93 Nq96
                have F97 : Safe Z own_EL _ T96.heap b94 := (CHr.safe r96 A94.lt F95)
                have hC := hC.trans r96
                have hH := hC.1
                have hZ := hZ'
                have K96 : Keep h0 T96.heap [] := K94.trans Kq96 (allS (Or.inr sz_b94) all0)
                have Z96 : n0 ≤ T96.heap.size := Nat.le_trans Z94 Kq96.1
                refine own_fw (A' := (T96.setTop (mkF m 84 #[iv p1, iv p2, iv p3, iv p4, rv b_92, iv 0, rv b94] [.ref b94]))) (fun t k => st96.trans (XS.astore X96.here hx rfl (hb hby at_80) rfl rfl (l' := #[.val (.int p1), .val (.int p2), .val (.int p3), .val (.int p4), .val (.ref b_92), .val (.int 0), .val (.ref b94)]) rfl (XS.aload X96.here hx rfl (hb hby at_82) rfl rfl k))) ?_
                obtain ⟨cq98, kq98, qa98, qb98, qc98⟩ := isOf hZ rfl Fq96_0
                obtain ⟨_, _, ⟨T98, L98, k98, n98⟩, -, X98, ⟨Lc98, hQ98, l98, y98, z98⟩, st98⟩ := X96.virtualBack hx (y := yq58) (z := yq58) hown (mvT hZ (own_w hw 11 rfl)) (mvT hZ (own_w hw 12 rfl)) (notFace_of_selects (args := #[]) (mvT hZ (own_w hw 14 rfl))) (mvT hZ (own_w hw 14 rfl)) (mvT hZ (own_w hw 13 rfl)) (by decide) (backOf (W := 0) (rmIsR l Z a0 hw [] b94 b_92 T96.heap n0 Z96 Fq96_1) hZ (own_w hw 15 rfl) (own_w hw 2 rfl) (by decide) (by decide)) qa98 qc98 (g := (mkF m 84 #[iv p1, iv p2, iv p3, iv p4, rv b_92, iv 0, rv b94] [.ref b94])) rfl (by rw [hml]; rfl) (Steps.refl _) (argsL := []) (rest := []) (lenOf pd___Z rfl) rfl (by show 2 * 0 + _ ≤ _; exact Nat.le_of_eq rfl) (hb hby at_84) (fun _ _ => ⟨rfl, rfl, (by decide : 7 + 0 ≤ _), (by decide : 25 + 0 ≤ _)⟩)
                dsimp only [Pt.U, Pt.locs, Pt.cells, Pt.slots] at X98 l98 y98 z98 st98 hQ98
                subst l98 y98 z98
                obtain ⟨rfl, Nq98, e98⟩ := hQ98
                have Nf98 := Fr.app Nf96 Nq98
                refine own_fw (A' := (T98.setTop (mkF m 97 #[iv p1, iv p2, iv p3, iv p4, rv b_92, iv 0, rv b94] [.int 1]))) (fun t k => st98.trans (XS.iload X98.here hx rfl (hb hby at_87) rfl (XS.icmpNo X98.here hx rfl (hb hby at_89) rfl (XT.ii_ne_f rfl) (XS.iconst X98.here hx rfl (hb hby at_92) (XS.goto X98.here hx rfl (pc0 := 93) (pc' := 97) rfl (hb hby at_93) (by decide) (by decide) k))))) ?_
                obtain ⟨fs, hr, hrun, hended, hWE⟩ := X98.leaveW hS (by rw [e98]; exact hk : _ ≤ T98.heap.size) (v := some (.int 1)) (fun h => by rw [Bd.returns] at h; cases h)
                refine ⟨_, _, ?_, hrun, hended, _, _, rfl, ?_, own_widen hWE (by decide) (by decide)⟩
                · exact retOut X98 hx Bd.returns rfl (Or.inl ⟨rfl, by simp, _, rfl⟩) (hb hby at_97) hr
                · show Q_rm0 Z p1 p2 p3 p4 cs sv h0 n0 _ T98.heap _
                  rw [e98]
                  exact ⟨rfl, Nf98⟩
              · obtain ⟨_, _, ⟨T99, L99, k99, n99⟩, -, X99, ⟨Lc99, hQ99, l99, y99, z99⟩, st99⟩ := Jvm.LawKit.callS X74 hx (y := yq61) hown (mvT hZ (own_w hw 22 rfl)) (mvT hZ (own_w hw 23 rfl)) (mvT hZ (own_w hw 18 rfl)) (mvT hZ (own_w hw 24 rfl)) (by decide) (backOf (W := 0) (rmDraw3 l Z a0 hw [] nn r_72 r_73 r_74 cs h0 n0 Z0 P0 hcs P2 P3 P4 hc7 hc18 hc45 hr_72 hr_73 hr_74 hc75 hc83 hc91) hZ (own_w hw 24 rfl) (own_w hw 18 rfl) (by decide) (by decide)) (g := (mkF m 34 #[iv p1, iv p2, iv p3, iv p4, .unset, iv nn, .unset] [.int r_74, .int r_73, .int r_72, .int nn])) rfl (by rw [hml]; rfl) (argsL := [(.int nn), (.int r_72), (.int r_73), (.int r_74)]) (rest := []) (lenOf pd__ICCC_Ljava_lang_String_ rfl) rfl (by show 2 * 0 + _ ≤ _; exact Nat.le_of_eq rfl) (hb hby at_34) (fun _ _ => ⟨rfl, e74, (by decide : 0 + 3 ≤ _), (by decide : 0 + 10 ≤ _)⟩)
                dsimp only [Pt.U, Pt.locs, Pt.cells, Pt.slots] at X99 l99 y99 z99 st99 hQ99
                subst l99 y99 z99
                obtain ⟨b_99, sb_99, kb_99, rfl, Nq99, Kq99, Fq99_0, Fq99_1, Fq99_2, Fq99_3, gb_99⟩ := hQ99
                have Nf99 := Fr.app Nf74 Nq99
                have hk := Nat.le_trans hk Kq99.1
                have hC := hC.trans (CHr.keep Kq99 sf0 hH)
                have hH := hC.1
                have K99 : Keep h0 T99.heap [] := (Keep.refl h0 []).trans Kq99 all0
                have sz_b_99 : h0.size ≤ b_99 := Nat.le_trans (Keep.refl h0 []).1 gb_99
                have g_b_99 : n0 ≤ b_99 := Nat.le_trans Z0 gb_99
                have Z99 : n0 ≤ T99.heap.size := Nat.le_trans Z0 Kq99.1
                refine own_fw (A' := (T99.setTop (mkF m 46 #[iv p1, iv p2, iv p3, iv p4, rv b_99, iv nn, .unset] [.ref b_99]))) (fun t k => st99 _ (XS.astore X99.here hx rfl (hb hby at_37) rfl rfl (l' := #[.val (.int p1), .val (.int p2), .val (.int p3), .val (.int p4), .val (.ref b_99), .val (.int nn), .unset]) rfl (XS.aload X99.here hx rfl (hb hby at_39) rfl rfl (XS.ifnullNo X99.here hx rfl (hb hby at_41) rfl (XS.aload X99.here hx rfl (hb hby at_44) rfl rfl k))))) ?_
                obtain ⟨cq100, kq100, qa100, qb100, qc100⟩ := isOf hZ rfl Fq99_0
                obtain ⟨_, _, ⟨T100, L100, k100, n100⟩, -, X100, ⟨Lc100, hQ100, l100, y100, z100⟩, st100⟩ := X99.virtualBack hx (y := yq43) (z := yq43) hown (mvT hZ (own_w hw 53 rfl)) (mvT hZ (own_w hw 54 rfl)) (notFace_of_selects (args := #[]) (mvT hZ (own_w hw 56 rfl))) (mvT hZ (own_w hw 56 rfl)) (mvT hZ (own_w hw 55 rfl)) (by decide) (backOf (W := 0) (rmLnL3 l Z a0 hw [] b_99 sb_99 kb_99 cs (r_72.toInt8.toInt32) (r_73.toInt8.toInt32) (r_74.toInt8.toInt32) T99.heap n0 Z99 Fq99_0 Fq99_1 Fq99_2 Fq99_3 (own_staKeep P0 Kq99 all0) hcs) hZ (own_w hw 57 rfl) (own_w hw 27 rfl) (by decide) (by decide)) qa100 qc100 (g := (mkF m 46 #[iv p1, iv p2, iv p3, iv p4, rv b_99, iv nn, .unset] [.ref b_99])) rfl (by rw [hml]; rfl) (Steps.refl _) (argsL := []) (rest := []) (lenOf pd___I rfl) rfl (by show 2 * 0 + _ ≤ _; exact Nat.le_of_eq rfl) (hb hby at_46) (fun _ _ => ⟨rfl, rfl, (by decide : 3 + 0 ≤ _), (by decide : 10 + 0 ≤ _)⟩)
                dsimp only [Pt.U, Pt.locs, Pt.cells, Pt.slots] at X100 l100 y100 z100 st100 hQ100
                subst l100 y100 z100
                obtain ⟨rfl, Nq100, e100⟩ := hQ100
                have Nf100 := Fr.app Nf99 Nq100
                refine own_fw (A' := (T100.setTop (mkF m 71 #[iv p1, iv p2, iv p3, iv p4, rv b_99, iv 0, .unset] []))) (fun t k => st100.trans (XS.iconst X100.here hx rfl (hb hby at_49) (XS.icmpYes X100.here hx rfl (pc0 := 50) (pc' := 68) rfl (hb hby at_50) rfl (XT.ii_ne_t (by decide)) (by decide) (by decide) (XS.iconst X100.here hx rfl (hb hby at_68) (XS.istore X100.here hx rfl (hb hby at_69) rfl (l' := #[.val (.int p1), .val (.int p2), .val (.int p3), .val (.int p4), .val (.ref b_99), .val (.int 0), .unset]) rfl k))))) ?_
                obtain ⟨T101, h101, X101, e101, E101, A101, D101, -, st101⟩ := newO X100 hx hZ hown (own_w hw 0 rfl) (own_w hw 1 rfl) (own_w hw 2 rfl) e100 (g := (mkF m 71 #[iv p1, iv p2, iv p3, iv p4, rv b_99, iv 0, .unset] [])) rfl (hb hby at_71) (by decide) (by decide)
                obtain ⟨b101, gb101⟩ : ∃ z, z = T99.heap.size := ⟨_, rfl⟩
                have g_b101 : n0 ≤ b101 := Nat.le_trans Z99 (Nat.le_of_eq gb101.symm)
                have sz_b101 : h0.size ≤ b101 := Nat.le_trans K99.1 (Nat.le_of_eq gb101.symm)
                have ne_b_99_b101 : b_99 ≠ b101 := Nat.ne_of_lt (Nat.lt_of_lt_of_le Fq99_0.lt (Nat.le_of_eq gb101.symm))
                have ne_sb_99_b101 : sb_99 ≠ b101 := Nat.ne_of_lt (Nat.lt_of_lt_of_le Fq99_3.lt (Nat.le_of_eq gb101.symm))
                rw [← gb101] at A101 D101 st101
                have F102 : Safe Z own_EL _ h101 b101 := (Safe.ext E101 hH (Safe.new (Nat.le_of_eq gb101.symm) : Safe Z own_EL _ T99.heap b101))
                have F_path_b101 : Fld Z h101 b101 "com/example/spanwise/spanwise/cli/InputFile" "path" "Ljava/lang/String;" .null := D101 (Or.inr (own_w hw 10 rfl)) (ty := (.object "java/lang/String")) (by decide)
                have K101 : Keep h0 h101 [] := K99.ext E101
                have Z101 : n0 ≤ h101.size := Nat.le_trans Z99 E101.1
                have hk := Nat.le_trans hk E101.1
                have hC := hC.trans (CHr.ext E101 hH)
                have hH := hC.1
                refine own_fw (A' := (T101.setTop (mkF m 77 #[iv p1, iv p2, iv p3, iv p4, rv b_99, iv 0, .unset] [.ref b_99, .ref b101, .ref b101]))) (fun t k => st101 _ (XS.dup X101.here hx rfl (hb hby at_74) rfl rfl (XS.aload X101.here hx rfl (hb hby at_75) rfl rfl k))) ?_
                obtain ⟨_, _, ⟨T103, L103, k103, n103⟩, -, X103, hS103, gS103, ⟨Lc103, hQ103, l103, y103, z103, r103⟩, st103⟩ := X101.specialBackS hx (y := yq55) rfl hown (mvT hZ (own_w hw 3 rfl)) (mvT hZ (own_w hw 4 rfl)) (mvT hZ (own_w hw 5 rfl)) (by decide) (backOfSH (W := 1) (rmIniL3 l Z a0 hw [] b101 b_99 sb_99 kb_99 cs (r_72.toInt8.toInt32) (r_73.toInt8.toInt32) (r_74.toInt8.toInt32) h101 n0 Z101 A101 F_path_b101 g_b101 (Fq99_0.ext E101) (Fq99_1.ext E101) (Fq99_2.ext E101) (Fq99_3.ext E101) ((own_staKeep P0 Kq99 all0).ext E101) hcs) hZ (own_w hw 5 rfl) (own_w hw 2 rfl) (by decide) (by decide) (own_EW hw) hH) (g := (mkF m 77 #[iv p1, iv p2, iv p3, iv p4, rv b_99, iv 0, .unset] [.ref b_99, .ref b101, .ref b101])) rfl (by rw [hml]; rfl) (Steps.refl _) (a := b101) (argsL := [(.ref b_99)]) (rest := [(.ref b101)]) (lenOf pd__Ljava_lang_String__V rfl) rfl (by show 2 * 0 + _ ≤ _; exact Nat.le_of_eq rfl) (hb hby at_77) (fun _ _ => ⟨rfl, e101, (by decide : 4 + 2 ≤ _), (by decide : 11 + 8 ≤ _)⟩)
                dsimp only [Pt.U, Pt.locs, Pt.cells, Pt.slots] at X103 l103 y103 z103 st103 hQ103 hS103 gS103 r103
                subst l103 y103 z103
                obtain ⟨X103, hS, hZ', hown⟩ := rebS hS (by rw [e101]; exact hk : _ ≤ T101.heap.size) X103 hS103 gS103 hZ hown
                have hk : T103.heap.size ≤ T103.heap.size := Nat.le_refl _
                obtain ⟨rfl, Nq103, Kq103, Fq103_0, Fq103_1⟩ := hQ103
                have Nf103 := Fr.app Nf100 Nq103
                have F104 : Safe Z own_EL _ T103.heap b101 := (CHr.safe r103 A101.lt F102)
                have hC := hC.trans r103
                have hH := hC.1
                have hZ := hZ'
                have K103 : Keep h0 T103.heap [] := K101.trans Kq103 (allS (Or.inr sz_b101) all0)
                have Z103 : n0 ≤ T103.heap.size := Nat.le_trans Z101 Kq103.1
                refine own_fw (A' := (T103.setTop (mkF m 84 #[iv p1, iv p2, iv p3, iv p4, rv b_99, iv 0, rv b101] [.ref b101]))) (fun t k => st103.trans (XS.astore X103.here hx rfl (hb hby at_80) rfl rfl (l' := #[.val (.int p1), .val (.int p2), .val (.int p3), .val (.int p4), .val (.ref b_99), .val (.int 0), .val (.ref b101)]) rfl (XS.aload X103.here hx rfl (hb hby at_82) rfl rfl k))) ?_
                obtain ⟨cq105, kq105, qa105, qb105, qc105⟩ := isOf hZ rfl Fq103_0
                obtain ⟨_, _, ⟨T105, L105, k105, n105⟩, -, X105, ⟨Lc105, hQ105, l105, y105, z105⟩, st105⟩ := X103.virtualBack hx (y := yq58) (z := yq58) hown (mvT hZ (own_w hw 11 rfl)) (mvT hZ (own_w hw 12 rfl)) (notFace_of_selects (args := #[]) (mvT hZ (own_w hw 14 rfl))) (mvT hZ (own_w hw 14 rfl)) (mvT hZ (own_w hw 13 rfl)) (by decide) (backOf (W := 0) (rmIsR l Z a0 hw [] b101 b_99 T103.heap n0 Z103 Fq103_1) hZ (own_w hw 15 rfl) (own_w hw 2 rfl) (by decide) (by decide)) qa105 qc105 (g := (mkF m 84 #[iv p1, iv p2, iv p3, iv p4, rv b_99, iv 0, rv b101] [.ref b101])) rfl (by rw [hml]; rfl) (Steps.refl _) (argsL := []) (rest := []) (lenOf pd___Z rfl) rfl (by show 2 * 0 + _ ≤ _; exact Nat.le_of_eq rfl) (hb hby at_84) (fun _ _ => ⟨rfl, rfl, (by decide : 6 + 0 ≤ _), (by decide : 19 + 0 ≤ _)⟩)
                dsimp only [Pt.U, Pt.locs, Pt.cells, Pt.slots] at X105 l105 y105 z105 st105 hQ105
                subst l105 y105 z105
                obtain ⟨rfl, Nq105, e105⟩ := hQ105
                have Nf105 := Fr.app Nf103 Nq105
                refine own_fw (A' := (T105.setTop (mkF m 97 #[iv p1, iv p2, iv p3, iv p4, rv b_99, iv 0, rv b101] [.int 1]))) (fun t k => st105.trans (XS.iload X105.here hx rfl (hb hby at_87) rfl (XS.icmpNo X105.here hx rfl (hb hby at_89) rfl (XT.ii_ne_f rfl) (XS.iconst X105.here hx rfl (hb hby at_92) (XS.goto X105.here hx rfl (pc0 := 93) (pc' := 97) rfl (hb hby at_93) (by decide) (by decide) k))))) ?_
                obtain ⟨fs, hr, hrun, hended, hWE⟩ := X105.leaveW hS (by rw [e105]; exact hk : _ ≤ T105.heap.size) (v := some (.int 1)) (fun h => by rw [Bd.returns] at h; cases h)
                refine ⟨_, _, ?_, hrun, hended, _, _, rfl, ?_, own_widen hWE (by decide) (by decide)⟩
                · exact retOut X105 hx Bd.returns rfl (Or.inl ⟨rfl, by simp, _, rfl⟩) (hb hby at_97) hr
                · show Q_rm0 Z p1 p2 p3 p4 cs sv h0 n0 _ T105.heap _
                  rw [e105]
                  exact ⟨rfl, Nf105⟩
theorem comes_1 {Post : Tables → Env → Array Value → State → Outcome → State → Prop} (hpost : ∀ tb e args s v u, (limb_1_1.after args s (.returned v) u = true ∧ limb_1_2.after args s (.returned v) u = true ∧ True) → ReturnedEndW s (.returned v) u (Jvm.fieldLocs frame_1_writes args s ++ Jvm.arrayLocs frame_1_arrays args s ++ Jvm.staticLocs frame_1_statics s) 24 2176 → Post tb e args s (.returned v) u) :
    ArmFor flags0 classFile x code maxLocals ret World_1 tables_1 room_1 Calls_1 rest_1 Pre_1 Post := by
  intro l hfl _ _ p e ha hc hk s m args below hf hA hF happ hP
  obtain ⟨hcalls, hrest, hpre⟩ := hP
  obtain ⟨-, -, -, hnamed, -, -, -, hat⟩ := (Spec.applies_iff hf).mp happ
  obtain ⟨hg, hn⟩ := and_e (Cond.before_iff.mp (show (Jvm.Cond.and given_1 narrow_1).before args s = true from hpre))
  obtain ⟨hcount, hg0⟩ := and_e hg
  obtain ⟨hv0, hg1⟩ := and_e hg0
  obtain ⟨hv1, hg2⟩ := and_e hg1
  obtain ⟨hv2, hg3⟩ := and_e hg2
  have hv3 := hg3
  obtain ⟨w0, w1, w2, w3, rfl⟩ : ∃ w0 w1 w2 w3 : Value, args = #[w0, w1, w2, w3] := by
    have hs : args.size = 4 := by simpa [Cond.value, given_1] using hcount
    obtain ⟨L⟩ := args
    match L, hs with
    | [w0, w1, w2, w3], _ => exact ⟨w0, w1, w2, w3, rfl⟩
  have hw := fun d (hd : d ∈ tables_1) => atoms_spec (ws := Jvm.Cond.code x code maxLocals ret :: tables_1) hat d (List.mem_cons_of_mem _ hd)
  have hfit : Fit s := fun {y c} hc i hi => by
    obtain ⟨ha, rfl⟩ := Array.getElem?_eq_some_iff.mp hc
    have q := List.all_eq_true.mp ((Array.all_eq_true_iff_forall_mem.mp hF) _ (Array.getElem_mem ha)) i (List.mem_range.mpr hi)
    simpa [Array.getElem?_eq_getElem hi] using q
  obtain ⟨hsets, hown0⟩ := atoms_of _ (rest_1_c_eq ▸ (show rest_1_c.before _ s = true from hrest))
  obtain ⟨i0, ei0⟩ := is_v hv0
  obtain rfl : w0 = (.int i0) := Option.some.inj ei0
  obtain ⟨i1, ei1⟩ := is_v hv1
  obtain rfl : w1 = (.int i1) := Option.some.inj ei1
  obtain ⟨i2, ei2⟩ := is_v hv2
  obtain rfl : w2 = (.int i2) := Option.some.inj ei2
  obtain ⟨i3, ei3⟩ := is_v hv3
  obtain rfl : w3 = (.int i3) := Option.some.inj ei3
  obtain ⟨cs, ev_cs⟩ := is_v (Cond.before_iff.mp (hsets _ (List.mem_of_getElem? (i := 1) rfl)))
  have S_cs := Sta.start ev_cs (Or.inl (hsets _ (List.mem_of_getElem? (i := 0) rfl)))
  have h_cs := own_nz ev_cs (Cond.before_iff.mp (hsets _ (List.mem_of_getElem? (i := 2) rfl)))
  have hCHv : CHv s own_EL s.vm s.heap := CHv.start (own_EW hw) (fun p hp => hcalls.1 p hp) (hsets _ (List.mem_of_getElem? (i := 2) rfl)) (own_w hw 42 rfl) (own_w hw 26 rfl)
  have S_ad := Sta.start (own_evI (Cond.before_iff.mp (hsets _ (List.mem_of_getElem? (i := 12) rfl)))) (Or.inl (hsets _ (List.mem_of_getElem? (i := 11) rfl)))
  have S_hi := Sta.start (own_evI (Cond.before_iff.mp (hsets _ (List.mem_of_getElem? (i := 15) rfl)))) (Or.inl (hsets _ (List.mem_of_getElem? (i := 14) rfl)))
  have S_lo := Sta.start (own_evI (Cond.before_iff.mp (hsets _ (List.mem_of_getElem? (i := 18) rfl)))) (Or.inl (hsets _ (List.mem_of_getElem? (i := 17) rfl)))
  obtain ⟨sv, ev_sv, h_sv⟩ := isR_v (Cond.before_iff.mp (hsets _ (List.mem_of_getElem? (i := 8) rfl)))
  have S_sv := Sta.start ev_sv (Or.inl (hsets _ (List.mem_of_getElem? (i := 7) rfl)))
  obtain ⟨n, o, h1, h2, h3, _, L, rfl, ⟨rfl, N⟩, hq⟩ := rm0 l s _ hw tables_1 i0 i1 i2 i3 cs sv s.heap s.heap.size (Nat.le_refl _) S_cs h_cs S_ad S_hi S_lo S_sv h_sv p e ha hc hk s m _ below hf ((Spec.applies_iff_loose hf).mp happ).1 ⟨rfl, State.Warmed39.refl s, rfl, hCHv⟩ trivial
  refine ⟨n, _, h1, h2, h3, hpost _ _ _ _ _ _ ⟨Cond.after_iff.mpr rfl, Cond.after_iff.mpr (eq_i res_at (Term.int_eval (1)) rfl), trivial⟩ ⟨hq.1, hq.2.1, hq.2.2.1, (hq.2.2.2.sift fun y hy => Or.inr (N y hy)).mono (by decide) (by decide)⟩⟩
theorem main_1_1 : Claimed_1_1 := comes_1 fun _ _ _ _ _ _ h hF => ⟨h.1, hF⟩
theorem main_1_2 : Claimed_1_2 := comes_1 fun _ _ _ _ _ _ h hF => ⟨h.2.1, hF⟩
end Jvm.Pilot.@@N@@
namespace Jvm.Pilot.@@N@@
open Jvm Jvm.ClassFile Sem Op Lib Jvm.Free Jvm.Stand Jvm.Pilot.@@N@@.Jvm.D
/-! MADE BY PROGRAM (witnessworld.py) out of the Statement's table words and the real class files: 20 classes; the members and pool entries that the words name. The judged class is class 1, her method 3. -/
namespace start1
open Jvm.ClassFile
def u (s : String) : CpInfo := .utf8 (stringToUtf16 s)
/-- a pool by its gaps: so many unusable entries, then the entry; so many at the end -/
def gap : Nat → List CpInfo → List CpInfo
  | 0, r => r
  | n + 1, r => .unusable :: gap n r
def poolList (es : List (Nat × CpInfo)) (last : Nat) : List CpInfo := es.foldr (fun e r => gap e.1 (e.2 :: r)) (gap last [])
def pool (es : List (Nat × CpInfo)) (last : Nat) : Array CpInfo := ⟨poolList es last⟩
def fileOf (pool : Array CpInfo) (this : Nat) (attrs : Array Attribute := #[]) (ms : Array MethodInfo := #[]) (fl : Nat := 33) (sup : Nat := 0) (ifs : Array Nat := #[]) (fds : Array FieldInfo := #[]) : ClassFile where
  minorVersion := 0
  majorVersion := 65
  constantPool := pool
  accessFlags := fl
  thisClass := this
  superClass := sup
  interfaces := ifs
  fields := fds
  methods := ms
  attributes := attrs
def plain (name : String) (sup : Option ClassId) : Class where
  name := name
  kind := .ordinary
  loader := none
  accessFlags := 33
  super := sup
  interfaces := #[]
  cf := none
  fields := #[]
  methods := #[]
  instanceTypes := #[]
  staticTypes := #[]
  resolved := #[]
  callSites := []
  init := .initialized
  statics := none
  mirror := none

def pool0 : Array CpInfo := pool [(5, u "<init>"), (0, u "()V"), (1, .class_ 10), (1, u "java/lang/Object")] 113

def k0c0 : Code := { maxStack := 0, maxLocals := 1, code := object_method_1_code, exceptionTable := #[], attributes := #[] }
def k0m0 : Method := { name := "<init>", desc := "()V", sig := { parameters := [], returnType := none }, accessFlags := 1, code := some k0c0 }
/-- java/lang/Object -/
def k0 : Class := { plain "java/lang/Object" none with
  accessFlags := 33
  interfaces := #[]
  cf := some (fileOf pool0 8 #[] #[{ accessFlags := 1, nameIndex := 5, descriptorIndex := 6, attributes := #[] }] 33 0 #[] #[])
  fields := #[]
  methods := #[k0m0]
  instanceTypes := #[]
  staticTypes := #[]
  resolved := Array.replicate 124 none
  statics := none }

def pool1 : Array CpInfo := pool [(2, .class_ 4), (1, u "java/lang/Object"), (0, u "<init>"), (0, u "()V"), (0, .integer 65536), (0, .integer 65535), (0, .class_ 10), (0, u "java/lang/String"), (0, .methodref 9 12), (0, .nameAndType 5 13), (0, u "([C)V"), (0, .methodref 15 16), (0, .class_ 17), (0, .nameAndType 18 19), (0, u "com/example/spanwise/spanwise/cli/InputFileIsStandardInputPinLaw"), (0, u "pick"), (0, u "(I)C"), (0, .methodref 15 21), (0, .nameAndType 22 23), (0, u "draw"), (0, u "(ICCC)Ljava/lang/String;"), (0, .methodref 9 25), (0, .nameAndType 26 27), (0, u "length"), (0, u "()I"), (0, .methodref 9 29), (0, .nameAndType 30 19), (0, u "charAt"), (0, .class_ 32), (0, u "com/example/spanwise/spanwise/cli/InputFile"), (0, .methodref 31 34), (0, .nameAndType 5 35), (0, u "(Ljava/lang/String;)V"), (0, .methodref 31 37), (0, .nameAndType 38 39), (0, u "isStandardInput"), (0, u "()Z"), (3, u "law"), (0, u "(IIII)Z")] 2

def k1m0 : Method := { name := "<init>", desc := "()V", sig := { parameters := [], returnType := none }, accessFlags := 2, code := none }
def k1c1 : Code := { maxStack := 2, maxLocals := 1, code := method_2_code, exceptionTable := #[], attributes := #[] }
def k1m1 : Method := { name := "pick", desc := "(I)C", sig := { parameters := [.int], returnType := some .char }, accessFlags := 10, code := some k1c1 }
def k1c2 : Code := { maxStack := 6, maxLocals := 4, code := method_3_code, exceptionTable := #[], attributes := #[] }
def k1m2 : Method := { name := "draw", desc := "(ICCC)Ljava/lang/String;", sig := { parameters := [.int, .char, .char, .char], returnType := some (.object "java/lang/String") }, accessFlags := 10, code := some k1c2 }
def k1c3 : Code := { maxStack := 4, maxLocals := 7, code := code, exceptionTable := #[], attributes := #[] }
def k1m3 : Method := { name := "law", desc := "(IIII)Z", sig := { parameters := [.int, .int, .int, .int], returnType := some .boolean }, accessFlags := 9, code := some k1c3 }
/-- com/example/spanwise/spanwise/cli/InputFileIsStandardInputPinLaw -/
def k1 : Class := { plain "com/example/spanwise/spanwise/cli/InputFileIsStandardInputPinLaw" (some 0) with
  accessFlags := 49
  interfaces := #[]
  cf := some (fileOf pool1 15 #[] #[{ accessFlags := 2, nameIndex := 5, descriptorIndex := 6, attributes := #[] }, { accessFlags := 10, nameIndex := 18, descriptorIndex := 19, attributes := #[] }, { accessFlags := 10, nameIndex := 22, descriptorIndex := 23, attributes := #[] }, { accessFlags := 9, nameIndex := 43, descriptorIndex := 44, attributes := #[] }] 49 2 #[] #[])
  fields := #[]
  methods := #[k1m0, k1m1, k1m2, k1m3]
  instanceTypes := #[]
  staticTypes := #[]
  resolved := Array.replicate 47 none
  statics := none }

def pool2 : Array CpInfo := pool [(1, .methodref 2 3), (0, .class_ 4), (0, .nameAndType 5 6), (0, u "java/lang/Object"), (0, u "<init>"), (0, u "()V"), (0, .class_ 8), (0, u "com/example/spanwise/spanwise/cli/InputFile"), (0, .string 10), (0, u "-"), (0, .methodref 12 13), (0, .class_ 14), (0, .nameAndType 15 16), (0, u "java/lang/String"), (0, u "equals"), (0, u "(Ljava/lang/Object;)Z"), (0, .fieldref 7 18), (0, .nameAndType 19 20), (0, u "path"), (0, u "Ljava/lang/String;"), (8, .class_ 30), (0, u "com/example/spanwise/spanwise/cli/InputFile$Whole"), (19, .class_ 52), (1, u "com/example/spanwise/spanwise/cli/InputFile$Reading"), (102, u "()Z"), (74, u "STANDARD_INPUT"), (1, u "REPLACEMENT_CHARACTER"), (0, u "C"), (0, u "(Ljava/lang/String;)V"), (3, u "isStandardInput"), (9, .class_ 249), (0, u "com/example/spanwise/spanwise/cli/InputFile$Format")] 30

def k2c0 : Code := { maxStack := 3, maxLocals := 2, code := prog_55_method_1_code, exceptionTable := #[], attributes := #[] }
def k2m0 : Method := { name := "<init>", desc := "(Ljava/lang/String;)V", sig := { parameters := [(.object "java/lang/String")], returnType := none }, accessFlags := 0, code := some k2c0 }
def k2c1 : Code := { maxStack := 1, maxLocals := 1, code := prog_55_method_2_code, exceptionTable := #[], attributes := #[] }
def k2m1 : Method := { name := "isStandardInput", desc := "()Z", sig := { parameters := [], returnType := some .boolean }, accessFlags := 0, code := some k2c1 }
/-- com/example/spanwise/spanwise/cli/InputFile -/
def k2 : Class := { plain "com/example/spanwise/spanwise/cli/InputFile" (some 0) with
  accessFlags := 48
  interfaces := #[]
  cf := some (fileOf pool2 7 #[.nestMembers #[29, 50, 248]] #[{ accessFlags := 0, nameIndex := 5, descriptorIndex := 234, attributes := #[] }, { accessFlags := 0, nameIndex := 238, descriptorIndex := 155, attributes := #[] }] 48 2 #[] #[{ accessFlags := 24, nameIndex := 230, descriptorIndex := 20, attributes := #[] }, { accessFlags := 26, nameIndex := 232, descriptorIndex := 233, attributes := #[] }, { accessFlags := 18, nameIndex := 19, descriptorIndex := 20, attributes := #[] }])
  fields := #[{ name := "STANDARD_INPUT", type := (.object "java/lang/String"), accessFlags := 24, slot := 0, constantValue := 0 }, { name := "REPLACEMENT_CHARACTER", type := .char, accessFlags := 26, slot := 1, constantValue := 0 }, { name := "path", type := (.object "java/lang/String"), accessFlags := 18, slot := 0, constantValue := 0 }]
  methods := #[k2m0, k2m1]
  instanceTypes := #[(.object "java/lang/String")]
  staticTypes := #[(.object "java/lang/String"), .char]
  resolved := Array.replicate 280 none
  statics := none }

def pool3 : Array CpInfo := pool [(1, .class_ 2), (0, u "java/io/Serializable"), (0, .class_ 4), (0, u "java/lang/Object")] 2

/-- java/io/Serializable -/
def k3 : Class := { plain "java/io/Serializable" (some 0) with
  accessFlags := 1537
  interfaces := #[]
  cf := some (fileOf pool3 1 #[] #[] 1537 3 #[] #[])
  fields := #[]
  methods := #[]
  instanceTypes := #[]
  staticTypes := #[]
  resolved := Array.replicate 7 none
  statics := none }

def pool4 : Array CpInfo := pool [(1, .class_ 2), (0, u "java/lang/Comparable"), (0, .class_ 4), (0, u "java/lang/Object")] 7

/-- java/lang/Comparable -/
def k4 : Class := { plain "java/lang/Comparable" (some 0) with
  accessFlags := 1537
  interfaces := #[]
  cf := some (fileOf pool4 1 #[] #[] 1537 3 #[] #[])
  fields := #[]
  methods := #[]
  instanceTypes := #[]
  staticTypes := #[]
  resolved := Array.replicate 12 none
  statics := none }

def pool5 : Array CpInfo := pool [(2, .class_ 4), (1, u "java/lang/CharSequence"), (42, .class_ 48), (0, u "java/lang/CharSequence$1CodePointIterator"), (10, .class_ 60), (0, u "java/lang/CharSequence$1CharIterator"), (5, .class_ 67), (0, u "java/lang/Object")] 63

/-- java/lang/CharSequence -/
def k5 : Class := { plain "java/lang/CharSequence" (some 0) with
  accessFlags := 1537
  interfaces := #[]
  cf := some (fileOf pool5 2 #[.nestMembers #[47, 59]] #[] 1537 66 #[] #[])
  fields := #[]
  methods := #[]
  instanceTypes := #[]
  staticTypes := #[]
  resolved := Array.replicate 131 none
  statics := none }

def pool6 : Array CpInfo := pool [(1, .class_ 2), (0, u "java/lang/constant/Constable"), (0, .class_ 4), (0, u "java/lang/Object")] 6

/-- java/lang/constant/Constable -/
def k6 : Class := { plain "java/lang/constant/Constable" (some 0) with
  accessFlags := 1537
  interfaces := #[]
  cf := some (fileOf pool6 1 #[] #[] 1537 3 #[] #[])
  fields := #[]
  methods := #[]
  instanceTypes := #[]
  staticTypes := #[]
  resolved := Array.replicate 11 none
  statics := none }

def pool7 : Array CpInfo := pool [(1, .class_ 2), (0, u "java/lang/constant/ConstantDesc"), (0, .class_ 4), (0, u "java/lang/Object")] 32

/-- java/lang/constant/ConstantDesc -/
def k7 : Class := { plain "java/lang/constant/ConstantDesc" (some 0) with
  accessFlags := 1537
  interfaces := #[]
  cf := some (fileOf pool7 1 #[] #[] 1537 3 #[] #[])
  fields := #[]
  methods := #[]
  instanceTypes := #[]
  staticTypes := #[]
  resolved := Array.replicate 37 none
  statics := none }

def pool8 : Array CpInfo := pool [(1, .methodref 2 3), (0, .class_ 4), (0, .nameAndType 5 6), (0, u "java/lang/Object"), (0, u "<init>"), (0, u "()V"), (0, .string 8), (0, u ""), (0, .fieldref 10 11), (0, .class_ 12), (0, .nameAndType 13 14), (0, u "java/lang/String"), (0, u "value"), (0, u "[B"), (0, .fieldref 10 16), (0, .nameAndType 17 18), (0, u "coder"), (0, u "B"), (2, u "hash"), (0, u "I"), (2, u "hashIsZero"), (0, u "Z"), (0, .methodref 10 28), (0, .nameAndType 5 29), (0, u "([CIILjava/lang/Void;)V"), (8, .fieldref 10 39), (0, .nameAndType 40 26), (0, u "COMPACT_STRINGS"), (1, .class_ 44), (1, u "java/lang/StringUTF16"), (0, u "compress"), (1, .methodref 42 48), (0, .nameAndType 49 50), (0, u "coderFromArrayLen"), (0, u "([BI)B"), (56, .class_ 109), (1, u "java/lang/StringLatin1"), (32, u "()Z"), (34, .methodref 42 178), (0, .nameAndType 45 179), (0, u "([CII)[B"), (154, u "()I"), (0, .methodref 10 336), (0, .nameAndType 17 337), (0, u "()B"), (25, u "([BI)C"), (27, u "(II)V"), (35, u "(I)C"), (64, .methodref 10 493), (0, .nameAndType 494 142), (0, u "isLatin1"), (0, .methodref 107 496), (0, .nameAndType 497 363), (0, u "charAt"), (0, .methodref 42 496), (2, u "checkIndex"), (5, u "length"), (33, .methodref 107 542), (0, .nameAndType 543 544), (0, u "equals"), (0, u "([B[B)Z"), (28, u "(Ljava/lang/Object;)Z"), (1, .class_ 576), (0, u "java/lang/CharSequence"), (22, u "CASE_INSENSITIVE_ORDER"), (0, u "Ljava/util/Comparator;"), (409, u "([C)V"), (42, .fieldref 1054 1055), (0, .class_ 1056), (0, .nameAndType 1057 1058), (0, u "jdk/internal/util/Preconditions"), (0, u "SIOOBE_FORMATTER"), (0, u "Ljava/util/function/BiFunction;"), (0, .methodref 1054 1060), (0, .nameAndType 501 1061), (0, u "(IILjava/util/function/BiFunction;)I"), (39, u "serialPersistentFields"), (0, u "[Ljava/io/ObjectStreamField;"), (0, .class_ 1104), (0, u "java/lang/String$CaseInsensitiveComparator"), (1, .class_ 1107), (0, u "java/io/Serializable"), (0, .class_ 1109), (0, u "java/lang/Comparable"), (0, .class_ 1111), (0, u "java/lang/constant/Constable"), (0, .class_ 1113), (0, u "java/lang/constant/ConstantDesc"), (2, u "serialVersionUID"), (0, u "J"), (3, u "REPL"), (0, u "C"), (2, u "LATIN1"), (1, u "UTF16")] 323

def k8m0 : Method := { name := "<init>", desc := "()V", sig := { parameters := [], returnType := none }, accessFlags := 1, code := none }
def k8c1 : Code := { maxStack := 5, maxLocals := 2, code := jdk_42_method_3_code, exceptionTable := #[], attributes := #[] }
def k8m1 : Method := { name := "<init>", desc := "([C)V", sig := { parameters := [(.array .char)], returnType := none }, accessFlags := 1, code := some k8c1 }
def k8c2 : Code := { maxStack := 2, maxLocals := 1, code := jdk_42_method_54_code, exceptionTable := #[], attributes := #[] }
def k8m2 : Method := { name := "length", desc := "()I", sig := { parameters := [], returnType := some .int }, accessFlags := 1, code := some k8c2 }
def k8c3 : Code := { maxStack := 2, maxLocals := 2, code := jdk_42_method_56_code, exceptionTable := #[], attributes := #[] }
def k8m3 : Method := { name := "charAt", desc := "(I)C", sig := { parameters := [.int], returnType := some .char }, accessFlags := 1, code := some k8c3 }
def k8c4 : Code := { maxStack := 2, maxLocals := 3, code := jdk_42_method_66_code, exceptionTable := #[], attributes := #[] }
def k8m4 : Method := { name := "equals", desc := "(Ljava/lang/Object;)Z", sig := { parameters := [(.object "java/lang/Object")], returnType := some .boolean }, accessFlags := 1, code := some k8c4 }
def k8c5 : Code := { maxStack := 4, maxLocals := 6, code := jdk_42_method_149_code, exceptionTable := #[], attributes := #[] }
def k8m5 : Method := { name := "<init>", desc := "([CIILjava/lang/Void;)V", sig := { parameters := [(.array .char), .int, .int, (.object "java/lang/Void")], returnType := none }, accessFlags := 2, code := some k8c5 }
def k8c6 : Code := { maxStack := 1, maxLocals := 1, code := jdk_42_method_152_code, exceptionTable := #[], attributes := #[] }
def k8m6 : Method := { name := "coder", desc := "()B", sig := { parameters := [], returnType := some .byte }, accessFlags := 0, code := some k8c6 }
def k8c7 : Code := { maxStack := 1, maxLocals := 1, code := jdk_42_method_154_code, exceptionTable := #[], attributes := #[] }
def k8m7 : Method := { name := "isLatin1", desc := "()Z", sig := { parameters := [], returnType := some .boolean }, accessFlags := 0, code := some k8c7 }
def k8c8 : Code := { maxStack := 3, maxLocals := 2, code := jdk_42_method_155_code, exceptionTable := #[], attributes := #[] }
def k8m8 : Method := { name := "checkIndex", desc := "(II)V", sig := { parameters := [.int, .int], returnType := none }, accessFlags := 8, code := some k8c8 }
/-- java/lang/String -/
def k8 : Class := { plain "java/lang/String" (some 0) with
  accessFlags := 49
  interfaces := #[3, 4, 5, 6, 7]
  cf := some (fileOf pool8 10 #[.nestMembers #[1103]] #[{ accessFlags := 1, nameIndex := 5, descriptorIndex := 6, attributes := #[] }, { accessFlags := 1, nameIndex := 5, descriptorIndex := 1010, attributes := #[] }, { accessFlags := 1, nameIndex := 507, descriptorIndex := 334, attributes := #[] }, { accessFlags := 1, nameIndex := 497, descriptorIndex := 427, attributes := #[] }, { accessFlags := 1, nameIndex := 543, descriptorIndex := 573, attributes := #[] }, { accessFlags := 2, nameIndex := 5, descriptorIndex := 29, attributes := #[] }, { accessFlags := 0, nameIndex := 17, descriptorIndex := 337, attributes := #[] }, { accessFlags := 0, nameIndex := 494, descriptorIndex := 142, attributes := #[] }, { accessFlags := 8, nameIndex := 501, descriptorIndex := 391, attributes := #[] }] 49 2 #[1106, 1108, 575, 1110, 1112] #[{ accessFlags := 18, nameIndex := 13, descriptorIndex := 14, attributes := #[] }, { accessFlags := 18, nameIndex := 17, descriptorIndex := 18, attributes := #[] }, { accessFlags := 2, nameIndex := 21, descriptorIndex := 22, attributes := #[] }, { accessFlags := 2, nameIndex := 25, descriptorIndex := 26, attributes := #[] }, { accessFlags := 26, nameIndex := 1116, descriptorIndex := 1117, attributes := #[] }, { accessFlags := 24, nameIndex := 40, descriptorIndex := 26, attributes := #[] }, { accessFlags := 26, nameIndex := 1101, descriptorIndex := 1102, attributes := #[] }, { accessFlags := 26, nameIndex := 1121, descriptorIndex := 1122, attributes := #[] }, { accessFlags := 25, nameIndex := 599, descriptorIndex := 600, attributes := #[] }, { accessFlags := 24, nameIndex := 1125, descriptorIndex := 18, attributes := #[] }, { accessFlags := 24, nameIndex := 1127, descriptorIndex := 18, attributes := #[] }])
  fields := #[{ name := "value", type := (.array .byte), accessFlags := 18, slot := 0, constantValue := 0 }, { name := "coder", type := .byte, accessFlags := 18, slot := 1, constantValue := 0 }, { name := "hash", type := .int, accessFlags := 2, slot := 2, constantValue := 0 }, { name := "hashIsZero", type := .boolean, accessFlags := 2, slot := 3, constantValue := 0 }, { name := "serialVersionUID", type := .long, accessFlags := 26, slot := 0, constantValue := 0 }, { name := "COMPACT_STRINGS", type := .boolean, accessFlags := 24, slot := 1, constantValue := 0 }, { name := "serialPersistentFields", type := (.array (.object "java/io/ObjectStreamField")), accessFlags := 26, slot := 2, constantValue := 0 }, { name := "REPL", type := .char, accessFlags := 26, slot := 3, constantValue := 0 }, { name := "CASE_INSENSITIVE_ORDER", type := (.object "java/util/Comparator"), accessFlags := 25, slot := 4, constantValue := 0 }, { name := "LATIN1", type := .byte, accessFlags := 24, slot := 5, constantValue := 0 }, { name := "UTF16", type := .byte, accessFlags := 24, slot := 6, constantValue := 0 }]
  methods := #[k8m0, k8m1, k8m2, k8m3, k8m4, k8m5, k8m6, k8m7, k8m8]
  instanceTypes := #[(.array .byte), .byte, .int, .boolean]
  staticTypes := #[.long, .boolean, (.array (.object "java/io/ObjectStreamField")), .char, (.object "java/util/Comparator"), .byte, .byte]
  resolved := Array.replicate 1451 none
  statics := some 0 }

def pool9 : Array CpInfo := pool [(3, .class_ 4), (0, u "java/lang/String"), (1, .class_ 8), (1, u "java/lang/Object"), (0, u "<init>"), (0, u "()V"), (0, .methodref 12 13), (0, .class_ 14), (0, .nameAndType 15 16), (0, u "java/lang/StringUTF16"), (0, u "newBytesLength"), (0, u "(I)I"), (3, .integer 1073741823), (23, .fieldref 12 45), (0, .nameAndType 46 47), (0, u "$assertionsDisabled"), (0, u "Z"), (0, .methodref 12 49), (0, .nameAndType 50 51), (0, u "length"), (0, u "([B)I"), (7, .fieldref 12 60), (0, .nameAndType 61 62), (0, u "HI_BYTE_SHIFT"), (0, u "I"), (0, .fieldref 12 64), (0, .nameAndType 65 62), (0, u "LO_BYTE_SHIFT"), (1, .methodref 12 68), (0, .nameAndType 69 70), (0, u "checkIndex"), (0, u "(I[B)V"), (0, .methodref 12 72), (0, .nameAndType 73 74), (0, u "getChar"), (0, u "([BI)C"), (32, .methodref 12 108), (0, .nameAndType 109 110), (0, u "newBytesFor"), (0, u "(I)[B"), (0, .methodref 12 112), (0, .nameAndType 113 114), (0, u "putChar"), (0, u "([BII)V"), (0, .methodref 12 116), (0, .nameAndType 117 118), (0, u "compress"), (0, u "([CI[BII)I"), (0, .methodref 12 120), (0, .nameAndType 121 122), (0, u "toBytes"), (0, u "([CII)[B"), (138, u "coderFromArrayLen"), (0, u "([BI)B"), (106, .class_ 371), (1, u "java/lang/StringUTF16$LinesSpliterator"), (20, u "charAt"), (21, .methodref 3 415), (0, .nameAndType 69 416), (0, u "(II)V"), (13, u "MAX_LENGTH"), (196, .class_ 628), (0, u "java/lang/StringUTF16$CodePointsSpliterator"), (0, .class_ 630), (0, u "java/lang/StringUTF16$CharsSpliterator")] 4

def k9m0 : Method := { name := "<init>", desc := "()V", sig := { parameters := [], returnType := none }, accessFlags := 0, code := none }
def k9c1 : Code := { maxStack := 1, maxLocals := 1, code := jdk_52_method_2_code, exceptionTable := #[], attributes := #[] }
def k9m1 : Method := { name := "newBytesFor", desc := "(I)[B", sig := { parameters := [.int], returnType := some (.array .byte) }, accessFlags := 9, code := some k9c1 }
def k9c2 : Code := { maxStack := 4, maxLocals := 1, code := jdk_52_method_3_code, exceptionTable := #[], attributes := #[] }
def k9m2 : Method := { name := "newBytesLength", desc := "(I)I", sig := { parameters := [.int], returnType := some .int }, accessFlags := 9, code := some k9c2 }
def k9c3 : Code := { maxStack := 4, maxLocals := 3, code := jdk_52_method_4_code, exceptionTable := #[], attributes := #[] }
def k9m3 : Method := { name := "putChar", desc := "([BII)V", sig := { parameters := [(.array .byte), .int, .int], returnType := none }, accessFlags := 8, code := some k9c3 }
def k9c4 : Code := { maxStack := 3, maxLocals := 2, code := jdk_52_method_5_code, exceptionTable := #[], attributes := #[] }
def k9m4 : Method := { name := "getChar", desc := "([BI)C", sig := { parameters := [(.array .byte), .int], returnType := some .char }, accessFlags := 8, code := some k9c4 }
def k9c5 : Code := { maxStack := 2, maxLocals := 1, code := jdk_52_method_6_code, exceptionTable := #[], attributes := #[] }
def k9m5 : Method := { name := "length", desc := "([B)I", sig := { parameters := [(.array .byte)], returnType := some .int }, accessFlags := 9, code := some k9c5 }
def k9c6 : Code := { maxStack := 4, maxLocals := 5, code := jdk_52_method_14_code, exceptionTable := #[], attributes := #[] }
def k9m6 : Method := { name := "toBytes", desc := "([CII)[B", sig := { parameters := [(.array .char), .int, .int], returnType := some (.array .byte) }, accessFlags := 9, code := some k9c6 }
def k9c7 : Code := { maxStack := 2, maxLocals := 2, code := jdk_52_method_15_code, exceptionTable := #[], attributes := #[] }
def k9m7 : Method := { name := "coderFromArrayLen", desc := "([BI)B", sig := { parameters := [(.array .byte), .int], returnType := some .byte }, accessFlags := 8, code := some k9c7 }
def k9c8 : Code := { maxStack := 5, maxLocals := 6, code := jdk_52_method_16_code, exceptionTable := #[], attributes := #[] }
def k9m8 : Method := { name := "compress", desc := "([CII)[B", sig := { parameters := [(.array .char), .int, .int], returnType := some (.array .byte) }, accessFlags := 9, code := some k9c8 }
def k9c9 : Code := { maxStack := 3, maxLocals := 7, code := jdk_52_method_21_code, exceptionTable := #[], attributes := #[] }
def k9m9 : Method := { name := "compress", desc := "([CI[BII)I", sig := { parameters := [(.array .char), .int, (.array .byte), .int, .int], returnType := some .int }, accessFlags := 9, code := some k9c9 }
def k9c10 : Code := { maxStack := 2, maxLocals := 2, code := jdk_52_method_83_code, exceptionTable := #[], attributes := #[] }
def k9m10 : Method := { name := "charAt", desc := "([BI)C", sig := { parameters := [(.array .byte), .int], returnType := some .char }, accessFlags := 9, code := some k9c10 }
def k9c11 : Code := { maxStack := 2, maxLocals := 2, code := jdk_52_method_91_code, exceptionTable := #[], attributes := #[] }
def k9m11 : Method := { name := "checkIndex", desc := "(I[B)V", sig := { parameters := [.int, (.array .byte)], returnType := none }, accessFlags := 9, code := some k9c11 }
/-- java/lang/StringUTF16 -/
def k9 : Class := { plain "java/lang/StringUTF16" (some 0) with
  accessFlags := 48
  interfaces := #[]
  cf := some (fileOf pool9 12 #[.nestMembers #[627, 629, 369]] #[{ accessFlags := 0, nameIndex := 9, descriptorIndex := 10, attributes := #[] }, { accessFlags := 9, nameIndex := 109, descriptorIndex := 110, attributes := #[] }, { accessFlags := 9, nameIndex := 15, descriptorIndex := 16, attributes := #[] }, { accessFlags := 8, nameIndex := 113, descriptorIndex := 114, attributes := #[] }, { accessFlags := 8, nameIndex := 73, descriptorIndex := 74, attributes := #[] }, { accessFlags := 9, nameIndex := 50, descriptorIndex := 51, attributes := #[] }, { accessFlags := 9, nameIndex := 121, descriptorIndex := 122, attributes := #[] }, { accessFlags := 8, nameIndex := 261, descriptorIndex := 262, attributes := #[] }, { accessFlags := 9, nameIndex := 117, descriptorIndex := 122, attributes := #[] }, { accessFlags := 9, nameIndex := 117, descriptorIndex := 118, attributes := #[] }, { accessFlags := 9, nameIndex := 392, descriptorIndex := 74, attributes := #[] }, { accessFlags := 9, nameIndex := 69, descriptorIndex := 70, attributes := #[] }] 48 6 #[] #[{ accessFlags := 26, nameIndex := 61, descriptorIndex := 62, attributes := #[] }, { accessFlags := 26, nameIndex := 65, descriptorIndex := 62, attributes := #[] }, { accessFlags := 24, nameIndex := 430, descriptorIndex := 62, attributes := #[] }, { accessFlags := 4120, nameIndex := 46, descriptorIndex := 47, attributes := #[] }])
  fields := #[{ name := "HI_BYTE_SHIFT", type := .int, accessFlags := 26, slot := 0, constantValue := 0 }, { name := "LO_BYTE_SHIFT", type := .int, accessFlags := 26, slot := 1, constantValue := 0 }, { name := "MAX_LENGTH", type := .int, accessFlags := 24, slot := 2, constantValue := 0 }, { name := "$assertionsDisabled", type := .boolean, accessFlags := 4120, slot := 3, constantValue := 0 }]
  methods := #[k9m0, k9m1, k9m2, k9m3, k9m4, k9m5, k9m6, k9m7, k9m8, k9m9, k9m10, k9m11]
  instanceTypes := #[]
  staticTypes := #[.int, .int, .int, .boolean]
  resolved := Array.replicate 635 none
  statics := some 1 }

def pool10 : Array CpInfo := pool [(1, .class_ 2), (0, u "java/lang/String"), (1, .class_ 6), (1, u "java/lang/Object"), (0, u "<init>"), (0, u "()V"), (0, .methodref 1 10), (0, .nameAndType 11 12), (0, u "checkIndex"), (0, u "(II)V"), (1, .class_ 16), (1, u "java/lang/StringLatin1"), (36, u "([BI)C"), (67, u "$assertionsDisabled"), (0, u "Z"), (98, .class_ 223), (1, u "java/lang/StringLatin1$LinesSpliterator"), (28, u "charAt"), (28, u "equals"), (0, u "([B[B)Z"), (107, .class_ 391), (0, u "java/lang/StringLatin1$CharsSpliterator")] 3

def k10m0 : Method := { name := "<init>", desc := "()V", sig := { parameters := [], returnType := none }, accessFlags := 0, code := none }
def k10c1 : Code := { maxStack := 2, maxLocals := 2, code := jdk_43_method_2_code, exceptionTable := #[], attributes := #[] }
def k10m1 : Method := { name := "charAt", desc := "([BI)C", sig := { parameters := [(.array .byte), .int], returnType := some .char }, accessFlags := 9, code := some k10c1 }
def k10c2 : Code := { maxStack := 3, maxLocals := 3, code := jdk_43_method_13_code, exceptionTable := #[], attributes := #[] }
def k10m2 : Method := { name := "equals", desc := "([B[B)Z", sig := { parameters := [(.array .byte), (.array .byte)], returnType := some .boolean }, accessFlags := 9, code := some k10c2 }
/-- java/lang/StringLatin1 -/
def k10 : Class := { plain "java/lang/StringLatin1" (some 0) with
  accessFlags := 48
  interfaces := #[]
  cf := some (fileOf pool10 14 #[.nestMembers #[390, 221]] #[{ accessFlags := 0, nameIndex := 7, descriptorIndex := 8, attributes := #[] }, { accessFlags := 9, nameIndex := 252, descriptorIndex := 53, attributes := #[] }, { accessFlags := 9, nameIndex := 281, descriptorIndex := 282, attributes := #[] }] 48 4 #[] #[{ accessFlags := 4120, nameIndex := 121, descriptorIndex := 122, attributes := #[] }])
  fields := #[{ name := "$assertionsDisabled", type := .boolean, accessFlags := 4120, slot := 0, constantValue := 0 }]
  methods := #[k10m0, k10m1, k10m2]
  instanceTypes := #[]
  staticTypes := #[.boolean]
  resolved := Array.replicate 395 none
  statics := none }

def pool11 : Array CpInfo := pool [(2, .class_ 4), (1, u "java/lang/Object"), (0, u "<init>"), (0, u "()V"), (17, .class_ 26), (1, u "jdk/internal/util/Preconditions"), (6, u "checkIndex"), (21, .class_ 56), (0, u "jdk/internal/util/Preconditions$4"), (57, .class_ 115), (0, u "jdk/internal/util/Preconditions$1"), (7, u "SIOOBE_FORMATTER"), (0, u "Ljava/util/function/BiFunction;"), (0, .class_ 126), (0, u "jdk/internal/util/Preconditions$2"), (3, u "AIOOBE_FORMATTER"), (0, .class_ 132), (0, u "jdk/internal/util/Preconditions$3"), (3, u "IOOBE_FORMATTER"), (41, u "(IILjava/util/function/BiFunction;)I")] 15

def k11m0 : Method := { name := "<init>", desc := "()V", sig := { parameters := [], returnType := none }, accessFlags := 1, code := none }
def k11c1 : Code := { maxStack := 3, maxLocals := 3, code := jdk_41_method_11_code, exceptionTable := #[], attributes := #[] }
def k11m1 : Method := { name := "checkIndex", desc := "(IILjava/util/function/BiFunction;)I", sig := { parameters := [.int, .int, (.object "java/util/function/BiFunction")], returnType := some .int }, accessFlags := 9, code := some k11c1 }
/-- jdk/internal/util/Preconditions -/
def k11 : Class := { plain "jdk/internal/util/Preconditions" (some 0) with
  accessFlags := 33
  interfaces := #[]
  cf := some (fileOf pool11 24 #[.nestMembers #[55, 131, 125, 114]] #[{ accessFlags := 1, nameIndex := 5, descriptorIndex := 6, attributes := #[] }, { accessFlags := 9, nameIndex := 33, descriptorIndex := 178, attributes := #[] }] 33 2 #[] #[{ accessFlags := 25, nameIndex := 123, descriptorIndex := 124, attributes := #[] }, { accessFlags := 25, nameIndex := 130, descriptorIndex := 124, attributes := #[] }, { accessFlags := 25, nameIndex := 136, descriptorIndex := 124, attributes := #[] }])
  fields := #[{ name := "SIOOBE_FORMATTER", type := (.object "java/util/function/BiFunction"), accessFlags := 25, slot := 0, constantValue := 0 }, { name := "AIOOBE_FORMATTER", type := (.object "java/util/function/BiFunction"), accessFlags := 25, slot := 1, constantValue := 0 }, { name := "IOOBE_FORMATTER", type := (.object "java/util/function/BiFunction"), accessFlags := 25, slot := 2, constantValue := 0 }]
  methods := #[k11m0, k11m1]
  instanceTypes := #[]
  staticTypes := #[(.object "java/util/function/BiFunction"), (.object "java/util/function/BiFunction"), (.object "java/util/function/BiFunction")]
  resolved := Array.replicate 194 none
  statics := some 2 }

def pool12 : Array CpInfo := pool [(9, u "<init>"), (6, .class_ 18), (1, u "java/lang/Object"), (0, u "()V"), (1, .class_ 23), (1, u "jdk/internal/util/ArraysSupport"), (0, u "LOG2_ARRAY_LONG_INDEX_SCALE"), (0, u "I"), (2, u "U"), (0, u "Ljdk/internal/misc/Unsafe;"), (8, u "BIG_ENDIAN"), (0, u "Z"), (8, u "LOG2_BYTE_BIT_SIZE"), (4, u "LOG2_ARRAY_INT_INDEX_SCALE"), (54, u "JLA"), (0, u "Ljdk/internal/access/JavaLangAccess;"), (11, u "LOG2_ARRAY_BOOLEAN_INDEX_SCALE"), (9, u "LOG2_ARRAY_BYTE_INDEX_SCALE"), (5, u "LOG2_ARRAY_CHAR_INDEX_SCALE"), (5, u "LOG2_ARRAY_SHORT_INDEX_SCALE"), (18, u "LOG2_ARRAY_FLOAT_INDEX_SCALE"), (24, u "LOG2_ARRAY_DOUBLE_INDEX_SCALE"), (89, u "T_BOOLEAN"), (2, u "T_CHAR"), (1, u "T_FLOAT"), (1, u "T_DOUBLE"), (1, u "T_BYTE"), (1, u "T_SHORT"), (1, u "T_INT"), (1, u "T_LONG"), (1, u "SOFT_MAX_ARRAY_LENGTH")] 83

def k12m0 : Method := { name := "<init>", desc := "()V", sig := { parameters := [], returnType := none }, accessFlags := 2, code := none }
/-- jdk/internal/util/ArraysSupport -/
def k12 : Class := { plain "jdk/internal/util/ArraysSupport" (some 0) with
  accessFlags := 33
  interfaces := #[]
  cf := some (fileOf pool12 21 #[] #[{ accessFlags := 2, nameIndex := 9, descriptorIndex := 19, attributes := #[] }] 33 16 #[] #[{ accessFlags := 24, nameIndex := 28, descriptorIndex := 29, attributes := #[] }, { accessFlags := 26, nameIndex := 38, descriptorIndex := 39, attributes := #[] }, { accessFlags := 25, nameIndex := 121, descriptorIndex := 25, attributes := #[] }, { accessFlags := 25, nameIndex := 131, descriptorIndex := 25, attributes := #[] }, { accessFlags := 25, nameIndex := 137, descriptorIndex := 25, attributes := #[] }, { accessFlags := 25, nameIndex := 143, descriptorIndex := 25, attributes := #[] }, { accessFlags := 25, nameIndex := 53, descriptorIndex := 25, attributes := #[] }, { accessFlags := 25, nameIndex := 24, descriptorIndex := 25, attributes := #[] }, { accessFlags := 25, nameIndex := 162, descriptorIndex := 25, attributes := #[] }, { accessFlags := 25, nameIndex := 187, descriptorIndex := 25, attributes := #[] }, { accessFlags := 26, nameIndex := 48, descriptorIndex := 25, attributes := #[] }, { accessFlags := 25, nameIndex := 277, descriptorIndex := 25, attributes := #[] }, { accessFlags := 25, nameIndex := 280, descriptorIndex := 25, attributes := #[] }, { accessFlags := 25, nameIndex := 282, descriptorIndex := 25, attributes := #[] }, { accessFlags := 25, nameIndex := 284, descriptorIndex := 25, attributes := #[] }, { accessFlags := 25, nameIndex := 286, descriptorIndex := 25, attributes := #[] }, { accessFlags := 25, nameIndex := 288, descriptorIndex := 25, attributes := #[] }, { accessFlags := 25, nameIndex := 290, descriptorIndex := 25, attributes := #[] }, { accessFlags := 25, nameIndex := 292, descriptorIndex := 25, attributes := #[] }, { accessFlags := 26, nameIndex := 108, descriptorIndex := 109, attributes := #[] }, { accessFlags := 25, nameIndex := 294, descriptorIndex := 25, attributes := #[] }])
  fields := #[{ name := "U", type := (.object "jdk/internal/misc/Unsafe"), accessFlags := 24, slot := 0, constantValue := 0 }, { name := "BIG_ENDIAN", type := .boolean, accessFlags := 26, slot := 1, constantValue := 0 }, { name := "LOG2_ARRAY_BOOLEAN_INDEX_SCALE", type := .int, accessFlags := 25, slot := 2, constantValue := 0 }, { name := "LOG2_ARRAY_BYTE_INDEX_SCALE", type := .int, accessFlags := 25, slot := 3, constantValue := 0 }, { name := "LOG2_ARRAY_CHAR_INDEX_SCALE", type := .int, accessFlags := 25, slot := 4, constantValue := 0 }, { name := "LOG2_ARRAY_SHORT_INDEX_SCALE", type := .int, accessFlags := 25, slot := 5, constantValue := 0 }, { name := "LOG2_ARRAY_INT_INDEX_SCALE", type := .int, accessFlags := 25, slot := 6, constantValue := 0 }, { name := "LOG2_ARRAY_LONG_INDEX_SCALE", type := .int, accessFlags := 25, slot := 7, constantValue := 0 }, { name := "LOG2_ARRAY_FLOAT_INDEX_SCALE", type := .int, accessFlags := 25, slot := 8, constantValue := 0 }, { name := "LOG2_ARRAY_DOUBLE_INDEX_SCALE", type := .int, accessFlags := 25, slot := 9, constantValue := 0 }, { name := "LOG2_BYTE_BIT_SIZE", type := .int, accessFlags := 26, slot := 10, constantValue := 0 }, { name := "T_BOOLEAN", type := .int, accessFlags := 25, slot := 11, constantValue := 0 }, { name := "T_CHAR", type := .int, accessFlags := 25, slot := 12, constantValue := 0 }, { name := "T_FLOAT", type := .int, accessFlags := 25, slot := 13, constantValue := 0 }, { name := "T_DOUBLE", type := .int, accessFlags := 25, slot := 14, constantValue := 0 }, { name := "T_BYTE", type := .int, accessFlags := 25, slot := 15, constantValue := 0 }, { name := "T_SHORT", type := .int, accessFlags := 25, slot := 16, constantValue := 0 }, { name := "T_INT", type := .int, accessFlags := 25, slot := 17, constantValue := 0 }, { name := "T_LONG", type := .int, accessFlags := 25, slot := 18, constantValue := 0 }, { name := "JLA", type := (.object "jdk/internal/access/JavaLangAccess"), accessFlags := 26, slot := 19, constantValue := 0 }, { name := "SOFT_MAX_ARRAY_LENGTH", type := .int, accessFlags := 25, slot := 20, constantValue := 0 }]
  methods := #[k12m0]
  instanceTypes := #[]
  staticTypes := #[(.object "jdk/internal/misc/Unsafe"), .boolean, .int, .int, .int, .int, .int, .int, .int, .int, .int, .int, .int, .int, .int, .int, .int, .int, .int, (.object "jdk/internal/access/JavaLangAccess"), .int]
  resolved := Array.replicate 378 none
  statics := none }

def pool13 : Array CpInfo := pool [(1, u "java/lang/Cloneable"), (0, .class_ 1), (0, u "java/lang/Object"), (0, .class_ 3)] 3

/-- java/lang/Cloneable -/
def k13 : Class := { plain "java/lang/Cloneable" (some 0) with
  accessFlags := 1537
  interfaces := #[]
  cf := some (fileOf pool13 2 #[] #[] 1537 4 #[] #[])
  fields := #[]
  methods := #[]
  instanceTypes := #[]
  staticTypes := #[]
  resolved := Array.replicate 8 none
  statics := none }

/-- the primitive byte -/
def k14 : Class := { plain "byte" none with kind := .primitive 'B', accessFlags := 0x411 }
/-- [B -/
def k15 : Class := { plain "[B" (some 0) with kind := .array 14 .byte, interfaces := #[13, 3], accessFlags := 1041 }

/-- the primitive char -/
def k16 : Class := { plain "char" none with kind := .primitive 'C', accessFlags := 0x411 }
/-- [C -/
def k17 : Class := { plain "[C" (some 0) with kind := .array 16 .char, interfaces := #[13, 3], accessFlags := 1041 }

/-- the primitive int -/
def k18 : Class := { plain "int" none with kind := .primitive 'I', accessFlags := 0x411 }
/-- [I -/
def k19 : Class := { plain "[I" (some 0) with kind := .array 18 .int, interfaces := #[13, 3], accessFlags := 1041 }

def heap : Heap := #[{ cls := 8, slots := #[.long 0, .int 1, .null, .int 0, .null, .int 0, .int 0], vm := .statics 8 },
  { cls := 9, slots := #[.int 0, .int 8, .int 0, .int 1], vm := .statics 9 },
  { cls := 11, slots := #[.null, .null, .null], vm := .statics 11 }]
def classes : Array Class := #[k0, k1, k2, k3, k4, k5, k6, k7, k8, k9, k10, k11, k12, k13, k14, k15, k16, k17, k18, k19]
def interned : List (Array UInt16 × Addr) := []
def slotsUsed : Nat := 14
def theMethod : MethodId := ⟨1, 3⟩
def args0 : Array Value := #[.int 5, .int 3, .int 2, .int 1]
def aboutOver (below : List Frame) : State where
  vm := { classes := classes, interned := interned.toArray }
  heap := heap
  slotsUsed := slotsUsed
  threads := #[{ frames := .invoking theMethod args0 :: below }]
def below0 : List Frame := [.native { method := ⟨0, 0⟩, args := #[] }]
def about1 : State := aboutOver below0
def p0 : Program := .bare "" "" ""
def e0 : Env := launch0.env 0 0 0
theorem w_frames : about1.frames = Frame.invoking theMethod args0 :: below0 := rfl
set_option maxRecDepth 65536 in
theorem w_args : argsFit about1.vm theMethod args0 = true := by decide +kernel
set_option maxRecDepth 65536 in
theorem w_heap : heapFits about1 = true := by decide +kernel
set_option maxRecDepth 65536 in
theorem w_runnable : about1.curStatus? = some .runnable := by decide +kernel
set_option maxRecDepth 65536 in
theorem w_alone : about1.alone = true := by decide +kernel
set_option maxRecDepth 65536 in
theorem w_named : about1.methodNamed? x = some theMethod := by decide +kernel
set_option maxRecDepth 65536 in
theorem w_hears : about1.hears theMethod below0 = true := by decide +kernel
set_option maxRecDepth 65536 in
theorem w_ripe : about1.ripe theMethod args0 below0 = true := by decide +kernel
theorem w_running : about1.status = .running := rfl
set_option maxRecDepth 65536 in
theorem w_room : about1.hasRoom e0.platform room_1 = true :=
  launch0.hasRoom_least _ room_1 (by decide +kernel) (by decide +kernel) (by decide +kernel) (by decide +kernel) (by decide +kernel) (by decide +kernel)
theorem allAtoms_all (ts : List Jvm.Cond) (a : Array Jvm.Value) (st : Jvm.State) : (allAtoms ts).before a st = ts.all (fun c => c.before a st) := by
  induction ts with
  | nil => rfl
  | cons c t ih =>
    show (Jvm.Cond.and c (allAtoms t)).before a st = _
    rw [Jvm.Cond.before_and, ih, List.all_cons]
def words1 : List Jvm.Cond := Jvm.Cond.code x code maxLocals ret :: tables_1
/-- a 'code' word, met by the world's own term for the bytes: nothing is compared byte by byte -/
theorem code_word {y : MethodName} {bytes : ByteArray} {mx : Nat} {rt : Option FieldType} {a : Array Value} {s : State} {m : MethodId} {meth : Method} {c : Code} (h1 : s.methodNamed? y = some m) (h2 : s.vm.method? m = some meth) (h3 : meth.code = some c) (h4 : c.code = bytes)
    (h5 : (c.maxLocals == mx && c.exceptionTable.isEmpty && decide (c.maxStack ≤ mostOperands) && decide (meth.sig.returnType = rt) && !meth.locks && decide (parseMethodDescriptor y.desc = some meth.sig)) = true) : (Jvm.Cond.code y bytes mx rt).before a s = true := by
  simp only [Bool.and_eq_true, beq_iff_eq, Bool.not_eq_true', decide_eq_true_eq] at h5
  obtain ⟨⟨⟨⟨⟨g1, g2⟩, g3⟩, g4⟩, g5⟩, g6⟩ := h5
  simp [Cond.before, Cond.holds, Cond.value, h1, h2, h3, h4, g1, g2, g3, g4, g5, g6]
def isCode : Jvm.Cond → Bool
  | .code _ _ _ _ => true
  | _ => false
theorem all_split {L : List Jvm.Cond} {P : Jvm.Cond → Bool} (h1 : L.all (fun c => isCode c || P c) = true) (h2 : ∀ c ∈ L.filter isCode, P c = true) : L.all P = true := by
  refine List.all_eq_true.mpr fun c hc => ?_
  have h := List.all_eq_true.mp h1 c hc
  rcases Bool.eq_false_or_eq_true (isCode c) with hi | hi
  · exact h2 c (List.mem_filter.mpr ⟨hc, hi⟩)
  · simpa [hi] using h
set_option maxRecDepth 65536 in
theorem w_c0 : (Jvm.Cond.code x code maxLocals ret).before args0 about1 = true := code_word (m := ⟨1, 3⟩) (meth := k1m3) (c := k1c3) (by decide +kernel) rfl rfl rfl (by decide +kernel)
set_option maxRecDepth 65536 in
theorem w_c1 : (Jvm.Cond.code ({ cls := "com/example/spanwise/spanwise/cli/InputFile", name := "<init>", desc := "(Ljava/lang/String;)V" } : Jvm.MethodName) prog_55_method_1_code (2 : Nat) (Option.none : Option Jvm.ClassFile.FieldType)).before args0 about1 = true := code_word (m := ⟨2, 0⟩) (meth := k2m0) (c := k2c0) (by decide +kernel) rfl rfl rfl (by decide +kernel)
set_option maxRecDepth 65536 in
theorem w_c2 : (Jvm.Cond.code ({ cls := "java/lang/Object", name := "<init>", desc := "()V" } : Jvm.MethodName) object_method_1_code (1 : Nat) (Option.none : Option Jvm.ClassFile.FieldType)).before args0 about1 = true := code_word (m := ⟨0, 0⟩) (meth := k0m0) (c := k0c0) (by decide +kernel) rfl rfl rfl (by decide +kernel)
set_option maxRecDepth 65536 in
theorem w_c3 : (Jvm.Cond.code ({ cls := "com/example/spanwise/spanwise/cli/InputFile", name := "isStandardInput", desc := "()Z" } : Jvm.MethodName) prog_55_method_2_code (1 : Nat) (Option.some Jvm.ClassFile.FieldType.boolean)).before args0 about1 = true := code_word (m := ⟨2, 1⟩) (meth := k2m1) (c := k2c1) (by decide +kernel) rfl rfl rfl (by decide +kernel)
set_option maxRecDepth 65536 in
theorem w_c4 : (Jvm.Cond.code ({ cls := "com/example/spanwise/spanwise/cli/InputFileIsStandardInputPinLaw", name := "pick", desc := "(I)C" } : Jvm.MethodName) method_2_code (1 : Nat) (Option.some Jvm.ClassFile.FieldType.char)).before args0 about1 = true := code_word (m := ⟨1, 1⟩) (meth := k1m1) (c := k1c1) (by decide +kernel) rfl rfl rfl (by decide +kernel)
set_option maxRecDepth 65536 in
theorem w_c5 : (Jvm.Cond.code ({ cls := "com/example/spanwise/spanwise/cli/InputFileIsStandardInputPinLaw", name := "draw", desc := "(ICCC)Ljava/lang/String;" } : Jvm.MethodName) method_3_code (4 : Nat) (Option.some (Jvm.ClassFile.FieldType.object "java/lang/String"))).before args0 about1 = true := code_word (m := ⟨1, 2⟩) (meth := k1m2) (c := k1c2) (by decide +kernel) rfl rfl rfl (by decide +kernel)
set_option maxRecDepth 65536 in
theorem w_c6 : (Jvm.Cond.code ({ cls := "java/lang/String", name := "<init>", desc := "([C)V" } : Jvm.MethodName) jdk_42_method_3_code (2 : Nat) (Option.none : Option Jvm.ClassFile.FieldType)).before args0 about1 = true := code_word (m := ⟨8, 1⟩) (meth := k8m1) (c := k8c1) (by decide +kernel) rfl rfl rfl (by decide +kernel)
set_option maxRecDepth 65536 in
theorem w_c7 : (Jvm.Cond.code ({ cls := "java/lang/String", name := "<init>", desc := "([CIILjava/lang/Void;)V" } : Jvm.MethodName) jdk_42_method_149_code (6 : Nat) (Option.none : Option Jvm.ClassFile.FieldType)).before args0 about1 = true := code_word (m := ⟨8, 5⟩) (meth := k8m5) (c := k8c5) (by decide +kernel) rfl rfl rfl (by decide +kernel)
set_option maxRecDepth 65536 in
theorem w_c8 : (Jvm.Cond.code ({ cls := "java/lang/StringUTF16", name := "compress", desc := "([CII)[B" } : Jvm.MethodName) jdk_52_method_16_code (6 : Nat) (Option.some (Jvm.ClassFile.FieldType.array Jvm.ClassFile.FieldType.byte))).before args0 about1 = true := code_word (m := ⟨9, 8⟩) (meth := k9m8) (c := k9c8) (by decide +kernel) rfl rfl rfl (by decide +kernel)
set_option maxRecDepth 65536 in
theorem w_c9 : (Jvm.Cond.code ({ cls := "java/lang/StringUTF16", name := "compress", desc := "([CI[BII)I" } : Jvm.MethodName) jdk_52_method_21_code (7 : Nat) (Option.some Jvm.ClassFile.FieldType.int)).before args0 about1 = true := code_word (m := ⟨9, 9⟩) (meth := k9m9) (c := k9c9) (by decide +kernel) rfl rfl rfl (by decide +kernel)
set_option maxRecDepth 65536 in
theorem w_c10 : (Jvm.Cond.code ({ cls := "java/lang/StringUTF16", name := "coderFromArrayLen", desc := "([BI)B" } : Jvm.MethodName) jdk_52_method_15_code (2 : Nat) (Option.some Jvm.ClassFile.FieldType.byte)).before args0 about1 = true := code_word (m := ⟨9, 7⟩) (meth := k9m7) (c := k9c7) (by decide +kernel) rfl rfl rfl (by decide +kernel)
set_option maxRecDepth 65536 in
theorem w_c11 : (Jvm.Cond.code ({ cls := "java/lang/String", name := "length", desc := "()I" } : Jvm.MethodName) jdk_42_method_54_code (1 : Nat) (Option.some Jvm.ClassFile.FieldType.int)).before args0 about1 = true := code_word (m := ⟨8, 2⟩) (meth := k8m2) (c := k8c2) (by decide +kernel) rfl rfl rfl (by decide +kernel)
set_option maxRecDepth 65536 in
theorem w_c12 : (Jvm.Cond.code ({ cls := "java/lang/String", name := "coder", desc := "()B" } : Jvm.MethodName) jdk_42_method_152_code (1 : Nat) (Option.some Jvm.ClassFile.FieldType.byte)).before args0 about1 = true := code_word (m := ⟨8, 6⟩) (meth := k8m6) (c := k8c6) (by decide +kernel) rfl rfl rfl (by decide +kernel)
set_option maxRecDepth 65536 in
theorem w_c13 : (Jvm.Cond.code ({ cls := "java/lang/String", name := "charAt", desc := "(I)C" } : Jvm.MethodName) jdk_42_method_56_code (2 : Nat) (Option.some Jvm.ClassFile.FieldType.char)).before args0 about1 = true := code_word (m := ⟨8, 3⟩) (meth := k8m3) (c := k8c3) (by decide +kernel) rfl rfl rfl (by decide +kernel)
set_option maxRecDepth 65536 in
theorem w_c14 : (Jvm.Cond.code ({ cls := "java/lang/String", name := "isLatin1", desc := "()Z" } : Jvm.MethodName) jdk_42_method_154_code (1 : Nat) (Option.some Jvm.ClassFile.FieldType.boolean)).before args0 about1 = true := code_word (m := ⟨8, 7⟩) (meth := k8m7) (c := k8c7) (by decide +kernel) rfl rfl rfl (by decide +kernel)
set_option maxRecDepth 65536 in
theorem w_c15 : (Jvm.Cond.code ({ cls := "java/lang/StringLatin1", name := "charAt", desc := "([BI)C" } : Jvm.MethodName) jdk_43_method_2_code (2 : Nat) (Option.some Jvm.ClassFile.FieldType.char)).before args0 about1 = true := code_word (m := ⟨10, 1⟩) (meth := k10m1) (c := k10c1) (by decide +kernel) rfl rfl rfl (by decide +kernel)
set_option maxRecDepth 65536 in
theorem w_c16 : (Jvm.Cond.code ({ cls := "java/lang/String", name := "checkIndex", desc := "(II)V" } : Jvm.MethodName) jdk_42_method_155_code (2 : Nat) (Option.none : Option Jvm.ClassFile.FieldType)).before args0 about1 = true := code_word (m := ⟨8, 8⟩) (meth := k8m8) (c := k8c8) (by decide +kernel) rfl rfl rfl (by decide +kernel)
set_option maxRecDepth 65536 in
theorem w_c17 : (Jvm.Cond.code ({ cls := "jdk/internal/util/Preconditions", name := "checkIndex", desc := "(IILjava/util/function/BiFunction;)I" } : Jvm.MethodName) jdk_41_method_11_code (3 : Nat) (Option.some Jvm.ClassFile.FieldType.int)).before args0 about1 = true := code_word (m := ⟨11, 1⟩) (meth := k11m1) (c := k11c1) (by decide +kernel) rfl rfl rfl (by decide +kernel)
set_option maxRecDepth 65536 in
theorem w_c18 : (Jvm.Cond.code ({ cls := "java/lang/String", name := "equals", desc := "(Ljava/lang/Object;)Z" } : Jvm.MethodName) jdk_42_method_66_code (3 : Nat) (Option.some Jvm.ClassFile.FieldType.boolean)).before args0 about1 = true := code_word (m := ⟨8, 4⟩) (meth := k8m4) (c := k8c4) (by decide +kernel) rfl rfl rfl (by decide +kernel)
set_option maxRecDepth 65536 in
theorem w_c19 : (Jvm.Cond.code ({ cls := "java/lang/StringLatin1", name := "equals", desc := "([B[B)Z" } : Jvm.MethodName) jdk_43_method_13_code (3 : Nat) (Option.some Jvm.ClassFile.FieldType.boolean)).before args0 about1 = true := code_word (m := ⟨10, 2⟩) (meth := k10m2) (c := k10c2) (by decide +kernel) rfl rfl rfl (by decide +kernel)
set_option maxRecDepth 65536 in
theorem w_c20 : (Jvm.Cond.code ({ cls := "java/lang/StringUTF16", name := "toBytes", desc := "([CII)[B" } : Jvm.MethodName) jdk_52_method_14_code (5 : Nat) (Option.some (Jvm.ClassFile.FieldType.array Jvm.ClassFile.FieldType.byte))).before args0 about1 = true := code_word (m := ⟨9, 6⟩) (meth := k9m6) (c := k9c6) (by decide +kernel) rfl rfl rfl (by decide +kernel)
set_option maxRecDepth 65536 in
theorem w_c21 : (Jvm.Cond.code ({ cls := "java/lang/StringUTF16", name := "newBytesFor", desc := "(I)[B" } : Jvm.MethodName) jdk_52_method_2_code (1 : Nat) (Option.some (Jvm.ClassFile.FieldType.array Jvm.ClassFile.FieldType.byte))).before args0 about1 = true := code_word (m := ⟨9, 1⟩) (meth := k9m1) (c := k9c1) (by decide +kernel) rfl rfl rfl (by decide +kernel)
set_option maxRecDepth 65536 in
theorem w_c22 : (Jvm.Cond.code ({ cls := "java/lang/StringUTF16", name := "newBytesLength", desc := "(I)I" } : Jvm.MethodName) jdk_52_method_3_code (1 : Nat) (Option.some Jvm.ClassFile.FieldType.int)).before args0 about1 = true := code_word (m := ⟨9, 2⟩) (meth := k9m2) (c := k9c2) (by decide +kernel) rfl rfl rfl (by decide +kernel)
set_option maxRecDepth 65536 in
theorem w_c23 : (Jvm.Cond.code ({ cls := "java/lang/StringUTF16", name := "putChar", desc := "([BII)V" } : Jvm.MethodName) jdk_52_method_4_code (3 : Nat) (Option.none : Option Jvm.ClassFile.FieldType)).before args0 about1 = true := code_word (m := ⟨9, 3⟩) (meth := k9m3) (c := k9c3) (by decide +kernel) rfl rfl rfl (by decide +kernel)
set_option maxRecDepth 65536 in
theorem w_c24 : (Jvm.Cond.code ({ cls := "java/lang/StringUTF16", name := "getChar", desc := "([BI)C" } : Jvm.MethodName) jdk_52_method_5_code (2 : Nat) (Option.some Jvm.ClassFile.FieldType.char)).before args0 about1 = true := code_word (m := ⟨9, 4⟩) (meth := k9m4) (c := k9c4) (by decide +kernel) rfl rfl rfl (by decide +kernel)
set_option maxRecDepth 65536 in
theorem w_c25 : (Jvm.Cond.code ({ cls := "java/lang/StringUTF16", name := "charAt", desc := "([BI)C" } : Jvm.MethodName) jdk_52_method_83_code (2 : Nat) (Option.some Jvm.ClassFile.FieldType.char)).before args0 about1 = true := code_word (m := ⟨9, 10⟩) (meth := k9m10) (c := k9c10) (by decide +kernel) rfl rfl rfl (by decide +kernel)
set_option maxRecDepth 65536 in
theorem w_c26 : (Jvm.Cond.code ({ cls := "java/lang/StringUTF16", name := "checkIndex", desc := "(I[B)V" } : Jvm.MethodName) jdk_52_method_91_code (2 : Nat) (Option.none : Option Jvm.ClassFile.FieldType)).before args0 about1 = true := code_word (m := ⟨9, 11⟩) (meth := k9m11) (c := k9c11) (by decide +kernel) rfl rfl rfl (by decide +kernel)
set_option maxRecDepth 65536 in
theorem w_c27 : (Jvm.Cond.code ({ cls := "java/lang/StringUTF16", name := "length", desc := "([B)I" } : Jvm.MethodName) jdk_52_method_6_code (1 : Nat) (Option.some Jvm.ClassFile.FieldType.int)).before args0 about1 = true := code_word (m := ⟨9, 5⟩) (meth := k9m5) (c := k9c5) (by decide +kernel) rfl rfl rfl (by decide +kernel)
def codes1 : List Jvm.Cond := [Jvm.Cond.code x code maxLocals ret, Jvm.Cond.code ({ cls := "com/example/spanwise/spanwise/cli/InputFile", name := "<init>", desc := "(Ljava/lang/String;)V" } : Jvm.MethodName) prog_55_method_1_code (2 : Nat) (Option.none : Option Jvm.ClassFile.FieldType), Jvm.Cond.code ({ cls := "java/lang/Object", name := "<init>", desc := "()V" } : Jvm.MethodName) object_method_1_code (1 : Nat) (Option.none : Option Jvm.ClassFile.FieldType), Jvm.Cond.code ({ cls := "com/example/spanwise/spanwise/cli/InputFile", name := "isStandardInput", desc := "()Z" } : Jvm.MethodName) prog_55_method_2_code (1 : Nat) (Option.some Jvm.ClassFile.FieldType.boolean), Jvm.Cond.code ({ cls := "com/example/spanwise/spanwise/cli/InputFileIsStandardInputPinLaw", name := "pick", desc := "(I)C" } : Jvm.MethodName) method_2_code (1 : Nat) (Option.some Jvm.ClassFile.FieldType.char), Jvm.Cond.code ({ cls := "com/example/spanwise/spanwise/cli/InputFileIsStandardInputPinLaw", name := "draw", desc := "(ICCC)Ljava/lang/String;" } : Jvm.MethodName) method_3_code (4 : Nat) (Option.some (Jvm.ClassFile.FieldType.object "java/lang/String")), Jvm.Cond.code ({ cls := "java/lang/String", name := "<init>", desc := "([C)V" } : Jvm.MethodName) jdk_42_method_3_code (2 : Nat) (Option.none : Option Jvm.ClassFile.FieldType), Jvm.Cond.code ({ cls := "java/lang/String", name := "<init>", desc := "([CIILjava/lang/Void;)V" } : Jvm.MethodName) jdk_42_method_149_code (6 : Nat) (Option.none : Option Jvm.ClassFile.FieldType), Jvm.Cond.code ({ cls := "java/lang/StringUTF16", name := "compress", desc := "([CII)[B" } : Jvm.MethodName) jdk_52_method_16_code (6 : Nat) (Option.some (Jvm.ClassFile.FieldType.array Jvm.ClassFile.FieldType.byte)), Jvm.Cond.code ({ cls := "java/lang/StringUTF16", name := "compress", desc := "([CI[BII)I" } : Jvm.MethodName) jdk_52_method_21_code (7 : Nat) (Option.some Jvm.ClassFile.FieldType.int), Jvm.Cond.code ({ cls := "java/lang/StringUTF16", name := "coderFromArrayLen", desc := "([BI)B" } : Jvm.MethodName) jdk_52_method_15_code (2 : Nat) (Option.some Jvm.ClassFile.FieldType.byte), Jvm.Cond.code ({ cls := "java/lang/String", name := "length", desc := "()I" } : Jvm.MethodName) jdk_42_method_54_code (1 : Nat) (Option.some Jvm.ClassFile.FieldType.int), Jvm.Cond.code ({ cls := "java/lang/String", name := "coder", desc := "()B" } : Jvm.MethodName) jdk_42_method_152_code (1 : Nat) (Option.some Jvm.ClassFile.FieldType.byte), Jvm.Cond.code ({ cls := "java/lang/String", name := "charAt", desc := "(I)C" } : Jvm.MethodName) jdk_42_method_56_code (2 : Nat) (Option.some Jvm.ClassFile.FieldType.char), Jvm.Cond.code ({ cls := "java/lang/String", name := "isLatin1", desc := "()Z" } : Jvm.MethodName) jdk_42_method_154_code (1 : Nat) (Option.some Jvm.ClassFile.FieldType.boolean), Jvm.Cond.code ({ cls := "java/lang/StringLatin1", name := "charAt", desc := "([BI)C" } : Jvm.MethodName) jdk_43_method_2_code (2 : Nat) (Option.some Jvm.ClassFile.FieldType.char), Jvm.Cond.code ({ cls := "java/lang/String", name := "checkIndex", desc := "(II)V" } : Jvm.MethodName) jdk_42_method_155_code (2 : Nat) (Option.none : Option Jvm.ClassFile.FieldType), Jvm.Cond.code ({ cls := "jdk/internal/util/Preconditions", name := "checkIndex", desc := "(IILjava/util/function/BiFunction;)I" } : Jvm.MethodName) jdk_41_method_11_code (3 : Nat) (Option.some Jvm.ClassFile.FieldType.int), Jvm.Cond.code ({ cls := "java/lang/String", name := "equals", desc := "(Ljava/lang/Object;)Z" } : Jvm.MethodName) jdk_42_method_66_code (3 : Nat) (Option.some Jvm.ClassFile.FieldType.boolean), Jvm.Cond.code ({ cls := "java/lang/StringLatin1", name := "equals", desc := "([B[B)Z" } : Jvm.MethodName) jdk_43_method_13_code (3 : Nat) (Option.some Jvm.ClassFile.FieldType.boolean), Jvm.Cond.code ({ cls := "java/lang/StringUTF16", name := "toBytes", desc := "([CII)[B" } : Jvm.MethodName) jdk_52_method_14_code (5 : Nat) (Option.some (Jvm.ClassFile.FieldType.array Jvm.ClassFile.FieldType.byte)), Jvm.Cond.code ({ cls := "java/lang/StringUTF16", name := "newBytesFor", desc := "(I)[B" } : Jvm.MethodName) jdk_52_method_2_code (1 : Nat) (Option.some (Jvm.ClassFile.FieldType.array Jvm.ClassFile.FieldType.byte)), Jvm.Cond.code ({ cls := "java/lang/StringUTF16", name := "newBytesLength", desc := "(I)I" } : Jvm.MethodName) jdk_52_method_3_code (1 : Nat) (Option.some Jvm.ClassFile.FieldType.int), Jvm.Cond.code ({ cls := "java/lang/StringUTF16", name := "putChar", desc := "([BII)V" } : Jvm.MethodName) jdk_52_method_4_code (3 : Nat) (Option.none : Option Jvm.ClassFile.FieldType), Jvm.Cond.code ({ cls := "java/lang/StringUTF16", name := "getChar", desc := "([BI)C" } : Jvm.MethodName) jdk_52_method_5_code (2 : Nat) (Option.some Jvm.ClassFile.FieldType.char), Jvm.Cond.code ({ cls := "java/lang/StringUTF16", name := "charAt", desc := "([BI)C" } : Jvm.MethodName) jdk_52_method_83_code (2 : Nat) (Option.some Jvm.ClassFile.FieldType.char), Jvm.Cond.code ({ cls := "java/lang/StringUTF16", name := "checkIndex", desc := "(I[B)V" } : Jvm.MethodName) jdk_52_method_91_code (2 : Nat) (Option.none : Option Jvm.ClassFile.FieldType), Jvm.Cond.code ({ cls := "java/lang/StringUTF16", name := "length", desc := "([B)I" } : Jvm.MethodName) jdk_52_method_6_code (1 : Nat) (Option.some Jvm.ClassFile.FieldType.int)]
set_option maxRecDepth 65536 in
theorem codes_eq : words1.filter isCode = codes1 := rfl
theorem w_codes : ∀ c ∈ words1.filter isCode, c.before args0 about1 = true := by
  rw [codes_eq]
  intro c hc
  simp only [codes1, List.mem_cons, List.not_mem_nil, or_false] at hc
  rcases hc with rfl | rfl | rfl | rfl | rfl | rfl | rfl | rfl | rfl | rfl | rfl | rfl | rfl | rfl | rfl | rfl | rfl | rfl | rfl | rfl | rfl | rfl | rfl | rfl | rfl | rfl | rfl | rfl
  · exact w_c0
  · exact w_c1
  · exact w_c2
  · exact w_c3
  · exact w_c4
  · exact w_c5
  · exact w_c6
  · exact w_c7
  · exact w_c8
  · exact w_c9
  · exact w_c10
  · exact w_c11
  · exact w_c12
  · exact w_c13
  · exact w_c14
  · exact w_c15
  · exact w_c16
  · exact w_c17
  · exact w_c18
  · exact w_c19
  · exact w_c20
  · exact w_c21
  · exact w_c22
  · exact w_c23
  · exact w_c24
  · exact w_c25
  · exact w_c26
  · exact w_c27
set_option maxRecDepth 65536 in
theorem w_t1 : (words1.take 24).all (fun c => isCode c || c.before args0 about1) = true := by decide +kernel
set_option maxRecDepth 65536 in
theorem w_t2 : ((words1.drop 24).take 24).all (fun c => isCode c || c.before args0 about1) = true := by decide +kernel
set_option maxRecDepth 65536 in
theorem w_t3 : (((words1.drop 24).drop 24).take 24).all (fun c => isCode c || c.before args0 about1) = true := by decide +kernel
set_option maxRecDepth 65536 in
theorem w_t4 : ((((words1.drop 24).drop 24).drop 24).take 24).all (fun c => isCode c || c.before args0 about1) = true := by decide +kernel
set_option maxRecDepth 65536 in
theorem w_t5 : (((((words1.drop 24).drop 24).drop 24).drop 24).take 24).all (fun c => isCode c || c.before args0 about1) = true := by decide +kernel
set_option maxRecDepth 65536 in
theorem w_t6 : (((((words1.drop 24).drop 24).drop 24).drop 24).drop 24).all (fun c => isCode c || c.before args0 about1) = true := by decide +kernel
theorem w_tables : (allAtoms (Jvm.Cond.code x code maxLocals ret :: tables_1)).before args0 about1 = true := by
  rw [allAtoms_all]
  show words1.all (fun c => c.before args0 about1) = true
  refine all_split ?_ w_codes
  rw [← List.take_append_drop 24 words1, List.all_append, w_t1, ← List.take_append_drop 24 (words1.drop 24), List.all_append, w_t2, ← List.take_append_drop 24 ((words1.drop 24).drop 24), List.all_append, w_t3, ← List.take_append_drop 24 (((words1.drop 24).drop 24).drop 24), List.all_append, w_t4, ← List.take_append_drop 24 ((((words1.drop 24).drop 24).drop 24).drop 24), List.all_append, w_t5, w_t6]
  rfl
set_option maxRecDepth 65536 in
theorem w_rest : rest_1_c.before args0 about1 = true := by decide +kernel
set_option maxRecDepth 65536 in
theorem w_case : (Jvm.Cond.and given_1 narrow_1).before args0 about1 = true := by decide +kernel
set_option maxRecDepth 65536 in
theorem w_consts : constsHeld consts_1 about1 := Jvm.Lit.constsHeldB_iff.mp (by decide +kernel)
theorem w_applies : (headSpec (Jvm.Cond.code x code maxLocals ret :: tables_1) room_1).applies x e0.platform about1 = true :=
  (Spec.applies_iff w_frames).mpr ⟨w_running, w_runnable, w_alone, w_named, w_hears, w_ripe, w_room, w_tables⟩
theorem atStart : AtStart classFile x code maxLocals ret World_1 tables_1 room_1 Calls_1 rest_1 Pre_1 launch0 p0 e0 about1 theMethod args0 below0 :=
  ⟨lists_1, trivial, launch0.admits_env _ _ _, launch0.least_env, fairChoices_fair.cas, fairChoices_fair.clock, w_frames, w_args, w_heap, w_applies, ⟨w_consts, trivial⟩, w_rest, w_case⟩
end start1
theorem witness_1 : WitnessClaimed_1 := ⟨start1.p0, start1.e0, start1.about1, start1.theMethod, start1.args0, start1.below0, start1.atStart⟩
end Jvm.Pilot.@@N@@
