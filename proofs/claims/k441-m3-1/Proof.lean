import JvmDerived
import JvmDerived.Pilot.@@N@@Statement
import JvmDerived.Pilot.@@N@@Code
set_option linter.unusedVariables false
set_option linter.unusedSimpArgs false
namespace Jvm.Pilot.@@N@@
open Jvm Jvm.ClassFile Sem Op Lib Jvm.Free Jvm.Stand Jvm.LawKit Jvm.RoadKit Bundle Jvm.Pilot.@@N@@.Jvm.D
/-! steps, taken forward -/
theorem own_fw {tb : Tables} {e : Env} {below : List Frame} {A A' : State} {P : State → Outcome → Prop} (h : ∀ t, Steps tb e below A' t → Steps tb e below A t) (g : ∃ U o, Steps tb e below A' U ∧ P U o) : ∃ U o, Steps tb e below A U ∧ P U o := by
  obtain ⟨U, o, s, r⟩ := g
  exact ⟨U, o, h U s, r⟩
theorem own_st {tb : Tables} {e : Env} {below : List Frame} {A A' t : State} (h : ∀ t, Steps tb e below A' t → Steps tb e below A t) (g : Steps tb e below A' t) : Steps tb e below A t := h t g
theorem own_plainE {Z : State} {h : Heap} {a : Addr} {C : String} (F : Exa Z h a C) : ∀ cell : Cell, h[a]? = some cell → cell.vm.isStatics = false := fun cell hc => by
  obtain ⟨c1, k1, h1, -, -, h4, -⟩ := F
  cases h1.symm.trans hc
  exact h4
theorem own_plainV {Z : State} {h : Heap} {a : Addr} {k : ClassId} {ty : FieldType} {z : Int32} {vs : List Value} {dv : Value} (F : Arv Z h a k ty z vs dv) : ∀ cell : Cell, h[a]? = some cell → cell.vm.isStatics = false := fun cell hc => by
  obtain ⟨c1, A, -⟩ := F
  cases A.1.symm.trans hc
  exact A.plain
theorem own_staKeep {Z : State} {h h' : Heap} {C n d : String} {v : Value} {ws : List Addr} (F : Sta Z h C n d v) (K : Keep h h' ws) (q : ∀ x ∈ ws, ∀ cell : Cell, h[x]? = some cell → cell.vm.isStatics = false) : Sta Z h' C n d v := by
  obtain ⟨cf, i, k, f, st, cell, h1, h2, h3, h4, h5, h6, h7⟩ := F
  exact ⟨cf, i, k, f, st, cell, h1, h2, h3, h4, K.2.1 st cell h5 (fun m => by rw [q st m cell h5] at h6; cases h6), h6, h7⟩
theorem own_insLt {Z : State} {h : Heap} {a : Addr} {C : String} {bo : Bool} (F : Ins Z h a C bo) : a < h.size := by
  obtain ⟨cell, cT, h1, -⟩ := F
  exact (Array.getElem?_eq_some_iff.mp h1).1
theorem own_insKeep {Z : State} {h h' : Heap} {a : Addr} {C : String} {bo : Bool} {ws : List Addr} (F : Ins Z h a C bo) (K : Keep h h' ws) : Ins Z h' a C bo := by
  obtain ⟨cell, cT, h1, h2, h3⟩ := F
  obtain ⟨c', e1, e2, e3, -⟩ := K.2.2 a cell h1
  exact ⟨c', cT, e1, h2, by rw [e2, e3]; exact h3⟩

set_option maxRecDepth 65536
set_option maxHeartbeats 40000000
abbrev rq0 : Room := ({ frames := 0, cells := 0, slots := 0, locals := 0 } : Room)
abbrev yq1 : MethodName := (⟨"java/lang/StringUTF16", "getChar", "([BI)C"⟩ : MethodName)
abbrev yq2 : MethodName := (⟨"java/lang/StringUTF16", "compress", "([CI[BII)I"⟩ : MethodName)
abbrev rq3 : Room := ({ frames := 1, cells := 1, slots := 1, locals := 18 } : Room)
abbrev yq4 : MethodName := (⟨"java/lang/StringUTF16", "compress", "([CII)[B"⟩ : MethodName)
abbrev yq5 : MethodName := (⟨"java/lang/StringUTF16", "coderFromArrayLen", "([BI)B"⟩ : MethodName)
abbrev rq6 : Room := ({ frames := 2, cells := 1, slots := 1, locals := 35 } : Room)
abbrev yq7 : MethodName := (⟨"java/lang/String", "<init>", "([CIILjava/lang/Void;)V"⟩ : MethodName)
abbrev rq8 : Room := ({ frames := 3, cells := 1, slots := 1, locals := 52 } : Room)
abbrev yq9 : MethodName := (⟨"java/lang/String", "<init>", "([C)V"⟩ : MethodName)
abbrev rq10 : Room := ({ frames := 1, cells := 1, slots := 2, locals := 18 } : Room)
abbrev rq11 : Room := ({ frames := 2, cells := 1, slots := 2, locals := 35 } : Room)
abbrev rq12 : Room := ({ frames := 3, cells := 1, slots := 2, locals := 52 } : Room)
abbrev rq13 : Room := ({ frames := 1, cells := 1, slots := 3, locals := 18 } : Room)
abbrev rq14 : Room := ({ frames := 2, cells := 1, slots := 3, locals := 35 } : Room)
abbrev rq15 : Room := ({ frames := 3, cells := 1, slots := 3, locals := 52 } : Room)
abbrev rq16 : Room := ({ frames := 1, cells := 1, slots := 4, locals := 18 } : Room)
abbrev rq17 : Room := ({ frames := 2, cells := 1, slots := 4, locals := 35 } : Room)
abbrev rq18 : Room := ({ frames := 3, cells := 1, slots := 4, locals := 52 } : Room)
abbrev yq19 : MethodName := (⟨"java/lang/StringUTF16", "newBytesLength", "(I)I"⟩ : MethodName)
abbrev rq20 : Room := ({ frames := 1, cells := 1, slots := 2, locals := 12 } : Room)
abbrev yq21 : MethodName := (⟨"java/lang/StringUTF16", "newBytesFor", "(I)[B"⟩ : MethodName)
abbrev yq22 : MethodName := (⟨"java/lang/StringUTF16", "putChar", "([BII)V"⟩ : MethodName)
abbrev rq23 : Room := ({ frames := 2, cells := 1, slots := 2, locals := 24 } : Room)
abbrev yq24 : MethodName := (⟨"java/lang/StringUTF16", "toBytes", "([CII)[B"⟩ : MethodName)
abbrev rq25 : Room := ({ frames := 3, cells := 2, slots := 3, locals := 40 } : Room)
abbrev rq26 : Room := ({ frames := 4, cells := 2, slots := 3, locals := 57 } : Room)
abbrev rq27 : Room := ({ frames := 5, cells := 2, slots := 3, locals := 74 } : Room)
abbrev rq28 : Room := ({ frames := 1, cells := 1, slots := 4, locals := 12 } : Room)
abbrev rq29 : Room := ({ frames := 2, cells := 1, slots := 4, locals := 24 } : Room)
abbrev rq30 : Room := ({ frames := 3, cells := 2, slots := 6, locals := 40 } : Room)
abbrev rq31 : Room := ({ frames := 4, cells := 2, slots := 6, locals := 57 } : Room)
abbrev rq32 : Room := ({ frames := 5, cells := 2, slots := 6, locals := 74 } : Room)
abbrev rq33 : Room := ({ frames := 1, cells := 1, slots := 6, locals := 12 } : Room)
abbrev rq34 : Room := ({ frames := 2, cells := 1, slots := 6, locals := 24 } : Room)
abbrev rq35 : Room := ({ frames := 3, cells := 2, slots := 9, locals := 40 } : Room)
abbrev rq36 : Room := ({ frames := 4, cells := 2, slots := 9, locals := 57 } : Room)
abbrev rq37 : Room := ({ frames := 5, cells := 2, slots := 9, locals := 74 } : Room)
abbrev rq38 : Room := ({ frames := 1, cells := 1, slots := 8, locals := 12 } : Room)
abbrev rq39 : Room := ({ frames := 2, cells := 1, slots := 8, locals := 24 } : Room)
abbrev rq40 : Room := ({ frames := 3, cells := 2, slots := 12, locals := 40 } : Room)
abbrev rq41 : Room := ({ frames := 4, cells := 2, slots := 12, locals := 57 } : Room)
abbrev rq42 : Room := ({ frames := 5, cells := 2, slots := 12, locals := 74 } : Room)
abbrev rq43 : Room := ({ frames := 1, cells := 0, slots := 0, locals := 14 } : Room)
abbrev yq44 : MethodName := (⟨"jdk/internal/util/Preconditions", "checkIndex", "(IILjava/util/function/BiFunction;)I"⟩ : MethodName)
abbrev yq45 : MethodName := (⟨"java/lang/String", "checkIndex", "(II)V"⟩ : MethodName)
abbrev yq46 : MethodName := (⟨"com/example/guarded_once/guardedonce/guard/MessageKeyOfPinLaw", "draw", "(I)C"⟩ : MethodName)
abbrev yq47 : MethodName := (⟨"com/example/guarded_once/guardedonce/guard/MessageKeyOfPinLaw", "isHigh", "(C)Z"⟩ : MethodName)
abbrev yq48 : MethodName := (⟨"com/example/guarded_once/guardedonce/guard/MessageKeyOfPinLaw", "isLow", "(C)Z"⟩ : MethodName)
abbrev rq49 : Room := ({ frames := 1, cells := 0, slots := 0, locals := 12 } : Room)
abbrev yq50 : MethodName := (⟨"com/example/guarded_once/guardedonce/guard/MessageKeyOfPinLaw", "okAt", "([CII)Z"⟩ : MethodName)
abbrev yq51 : MethodName := (⟨"java/lang/Character", "isHighSurrogate", "(C)Z"⟩ : MethodName)
abbrev yq52 : MethodName := (⟨"java/lang/Character", "isLowSurrogate", "(C)Z"⟩ : MethodName)
abbrev yq53 : MethodName := (⟨"java/lang/Character", "toCodePoint", "(CC)I"⟩ : MethodName)
abbrev yq54 : MethodName := (⟨"java/lang/Character", "charCount", "(I)I"⟩ : MethodName)
abbrev yq55 : MethodName := (⟨"java/lang/String", "coder", "()B"⟩ : MethodName)
abbrev yq56 : MethodName := (⟨"java/lang/String", "isLatin1", "()Z"⟩ : MethodName)
abbrev rq57 : Room := ({ frames := 1, cells := 0, slots := 0, locals := 13 } : Room)
abbrev yq58 : MethodName := (⟨"java/lang/String", "length", "()I"⟩ : MethodName)
abbrev yq59 : MethodName := (⟨"jdk/internal/util/Preconditions", "checkFromToIndex", "(IIILjava/util/function/BiFunction;)I"⟩ : MethodName)
abbrev rq60 : Room := ({ frames := 1, cells := 0, slots := 0, locals := 15 } : Room)
abbrev yq61 : MethodName := (⟨"java/util/Objects", "checkFromToIndex", "(III)I"⟩ : MethodName)
abbrev yq62 : MethodName := (⟨"java/lang/StringUTF16", "codePointCount", "([BIIZ)I"⟩ : MethodName)
abbrev rq63 : Room := ({ frames := 2, cells := 0, slots := 0, locals := 30 } : Room)
abbrev yq64 : MethodName := (⟨"java/lang/StringUTF16", "codePointCount", "([BII)I"⟩ : MethodName)
abbrev rq65 : Room := ({ frames := 2, cells := 0, slots := 0, locals := 29 } : Room)
abbrev yq66 : MethodName := (⟨"java/lang/String", "codePointCount", "(II)I"⟩ : MethodName)
abbrev rq67 : Room := ({ frames := 3, cells := 0, slots := 0, locals := 44 } : Room)
abbrev yq68 : MethodName := (⟨"java/lang/StringUTF16", "codePointAt", "([BIIZ)I"⟩ : MethodName)
abbrev yq69 : MethodName := (⟨"java/lang/StringUTF16", "codePointAt", "([BII)I"⟩ : MethodName)
abbrev yq70 : MethodName := (⟨"java/lang/String", "codePointAt", "(I)I"⟩ : MethodName)
abbrev rq71 : Room := ({ frames := 2, cells := 0, slots := 0, locals := 27 } : Room)
abbrev yq72 : MethodName := (⟨"java/util/Objects", "requireNonNull", "(Ljava/lang/Object;Ljava/lang/String;)Ljava/lang/Object;"⟩ : MethodName)
abbrev yq73 : MethodName := (⟨"com/example/guarded_once/guardedonce/guard/MessageKey", "<init>", "(Ljava/lang/String;)V"⟩ : MethodName)
abbrev yq74 : MethodName := (⟨"com/example/guarded_once/guardedonce/guard/MessageKey", "value", "()Ljava/lang/String;"⟩ : MethodName)
abbrev yq75 : MethodName := (⟨"java/lang/String", "equals", "(Ljava/lang/Object;)Z"⟩ : MethodName)
abbrev rq76 : Room := ({ frames := 3, cells := 3, slots := 25, locals := 43 } : Room)
abbrev yq77 : MethodName := (⟨"com/example/guarded_once/guardedonce/guard/MessageKey", "of", "(Ljava/lang/String;)Lcom/example/guarded_once/guardedonce/guard/MessageKey;"⟩ : MethodName)
abbrev rq78 : Room := ({ frames := 4, cells := 3, slots := 25, locals := 58 } : Room)

theorem own_w {a0 : Array Value} {Z : State} (hw : ∀ d ∈ tables_1, d.before a0 Z = true) (i : Nat) {d : Jvm.Cond} (h : tables_1[i]? = some d) : d.before a0 Z = true := hw d (List.mem_of_getElem? h)


theorem own_widen {s t : State} {o : Outcome} {L : List Loc} {k n k' n' : Nat} (h : ReturnedEndW s o t L k n) (hk : k ≤ k') (hn : n ≤ n') : ReturnedEndW s o t L k' n' := ⟨h.1, h.2.1, h.2.2.1, h.2.2.2.mono hk hn⟩
theorem own_wS {a0 : Array Value} {Z : State} (hw : ∀ d ∈ tables_1, d.before a0 Z = true) : ∀ a ∈ Bundle.stringAtoms, a.before a0 Z = true := by
  intro a ha
  simp only [Bundle.stringAtoms, List.mem_cons, List.not_mem_nil, or_false] at ha
  rcases ha with rfl | rfl | rfl | rfl | rfl | rfl | rfl
  · exact (own_w hw 21 rfl)
  · exact (own_w hw 20 rfl)
  · exact (own_w hw 37 rfl)
  · exact (own_w hw 66 rfl)
  · exact (own_w hw 64 rfl)
  · exact (own_w hw 72 rfl)
  · exact (own_w hw 73 rfl)


theorem own_nz {args : Array Value} {s : State} {t : Term} {x : Int32} (ev : t.eval args s none [] s = some (.int x)) (h : (Jvm.Cond.not (.eq t (.int 0))).value args s none s [] = some true) : ¬ (x = (0 : Int32)) := fun q => by
  subst q
  have e := eq_i ev (rfl : (Term.int 0).eval args s none [] s = some (.int 0)) rfl
  rw [not_v h] at e
  simp at e


theorem own_evI {args : Array Value} {s : State} {t : Term} {z : Int32} (h : (Jvm.Cond.eq t (.int z)).value args s none s [] = some true) : t.eval args s none [] s = some (.int z) := by
  obtain ⟨x, y, ex, ey, k1, k2⟩ := cmp_v (Or.inl h)
  have hy : y = .int z := by simpa [Term.eval] using ey.symm
  subst hy
  obtain ⟨w, rfl⟩ : ∃ w, x = .int w := k2
  have e : w = z := by simpa [Cond.value, ex, ey] using h
  subst e
  exact ex


theorem own_narB (c : Int32) : nar .byte (c.toInt8.toInt32) = c.toInt8.toInt32 := by simp [nar]
def own_Str (Z : State) (h : Heap) (a : Addr) (cs : List Int32) : Prop := ∃ b k, Exa Z h a "java/lang/String" ∧ Fld Z h a "java/lang/String" "coder" "B" (.int 0) ∧ Fld Z h a "java/lang/String" "value" "[B" (.ref b) ∧ Arv Z h b k .byte (Int32.ofNat cs.length) (cs.map fun c => Value.int c.toInt8.toInt32) (.int 0)
theorem own_strLt {Z : State} {h : Heap} {a : Addr} {cs : List Int32} (F : own_Str Z h a cs) : a < h.size := by
  obtain ⟨b, k, E, -⟩ := F
  exact E.lt
theorem own_strExt {Z : State} {h h' : Heap} {a : Addr} {cs : List Int32} (F : own_Str Z h a cs) (E : Ext h h') : own_Str Z h' a cs := by
  obtain ⟨b, k, h1, h2, h3, h4⟩ := F
  exact ⟨b, k, h1.ext E, h2.ext E, h3.ext E, h4.ext E⟩
theorem own_strKeep0 {Z : State} {h h' : Heap} {a : Addr} {cs : List Int32} (F : own_Str Z h a cs) (K : Keep h h' []) : own_Str Z h' a cs := by
  obtain ⟨b, k, h1, h2, h3, h4⟩ := F
  exact ⟨b, k, h1.keep K, h2.keep K nin0, h3.keep K nin0, h4.keep K nin0⟩
theorem own_strKeep1 {Z : State} {h h' : Heap} {a w : Addr} {cs : List Int32} {C : String} {n : Nat} {a0 : Array Value} (F : own_Str Z h a cs) (K : Keep h h' [w]) (E : Exa Z h w C) (hC : C ≠ "java/lang/String") (wi : (Jvm.Cond.instantiable C n).before a0 Z = true) : own_Str Z h' a cs := by
  obtain ⟨b, k, h1, h2, h3, h4⟩ := F
  have n1 : a ≠ w := Ne.symm (Exa.ne E h1 hC)
  have n2 : b ≠ w := Ne.symm (Exa.neArv E h4 wi)
  exact ⟨b, k, h1.keep K, h2.keep K (ninS n1 nin0), h3.keep K (ninS n1 nin0), h4.keep K (ninS n2 nin0)⟩


abbrev own_lo (c : Int32) : Int32 := ((c >>> ((0 : Int32) &&& 31)).toInt8.toInt32)
abbrev own_hb (c : Int32) : Int32 := ((c >>> ((8 : Int32) &&& 31)).toInt8.toInt32)


def own_gc (lo hi : Int32) : Int32 := (((lo &&& (255 : Int32)) <<< ((0 : Int32) &&& 31)) ||| ((hi &&& (255 : Int32)) <<< ((8 : Int32) &&& 31))).toUInt32.toUInt16.toUInt32.toInt32
def own_c16 (c : Int32) : Prop := 0 ≤ c.toInt ∧ c.toInt ≤ 65535
theorem own_gcc {c : Int32} (h : own_c16 c) : own_gc ((c >>> ((0 : Int32) &&& 31)).toInt8.toInt32) ((c >>> ((8 : Int32) &&& 31)).toInt8.toInt32) = c := by
  have hb := h
  unfold own_c16 at hb
  have s0 : (c >>> ((0 : Int32) &&& 31)).toInt = c.toInt := by
    have := c_ishr c 0 0 (by decide)
    omega
  have s8 := c_ishr c 8 8 (by decide)
  have b0 := c_i2b (c >>> ((0 : Int32) &&& 31))
  have b8 := c_i2b (c >>> ((8 : Int32) &&& 31))
  generalize e0 : (c >>> ((0 : Int32) &&& 31)).toInt8.toInt32 = lo at *
  generalize e8 : (c >>> ((8 : Int32) &&& 31)).toInt8.toInt32 = hi at *
  have m0 := c_mask lo 255 8 (by decide) (by decide)
  have m8 := c_mask hi 255 8 (by decide) (by decide)
  have l0 := c_ishl (lo &&& (255 : Int32)) 0 0 (by decide)
  have l8 := c_ishl (hi &&& (255 : Int32)) 8 8 (by decide)
  have r0 := rng32 ((lo &&& (255 : Int32)) <<< ((0 : Int32) &&& 31))
  have r8 := rng32 ((hi &&& (255 : Int32)) <<< ((8 : Int32) &&& 31))
  have o := c_or' ((lo &&& (255 : Int32)) <<< ((0 : Int32) &&& 31)) ((hi &&& (255 : Int32)) <<< ((8 : Int32) &&& 31)) 8 (by decide) 256 (by decide) (by omega) (by omega) (by omega)
  have ro := rng32 (((lo &&& (255 : Int32)) <<< ((0 : Int32) &&& 31)) ||| ((hi &&& (255 : Int32)) <<< ((8 : Int32) &&& 31)))
  have c2 := c_i2c (((lo &&& (255 : Int32)) <<< ((0 : Int32) &&& 31)) ||| ((hi &&& (255 : Int32)) <<< ((8 : Int32) &&& 31)))
  unfold own_gc
  apply Int32.toInt_inj.mp
  omega

theorem own_nar16 {x : Int32} (h : own_c16 x) : nar .char x = x := by
  have a := c_i2c x
  have b := h
  unfold own_c16 at b
  show x.toUInt32.toUInt16.toUInt32.toInt32 = x
  apply Int32.toInt_inj.mp
  omega
theorem own_fit16 {x : Int32} (h : own_c16 x) : fits .char (.int x) = true := by
  have q := fits_nar_char x
  rw [own_nar16 h] at q
  exact q
theorem own_narr16 {x : Int32} (h : own_c16 x) : narrow .char (.int x) = .int x := by
  show Value.int (nar .char x) = .int x
  rw [own_nar16 h]
theorem own_c16i (x : Int32) : own_c16 (x.toUInt32.toUInt16.toUInt32.toInt32) := by
  have a := c_i2c x
  unfold own_c16
  omega
def own_hi (c : Int32) : Int32 := if c < 55296 then 0 else if 56319 < c then 0 else 1
def own_lw (c : Int32) : Int32 := if c < 56320 then 0 else if 57343 < c then 0 else 1
def own_hs (c : Int32) : Int32 := if c < 55296 then 0 else if c < 56320 then 1 else 0
def own_ls (c : Int32) : Int32 := if c < 56320 then 0 else if c < 57344 then 1 else 0
def own_cp (a b : Int32) : Int32 := ((a <<< ((10 : Int32) &&& 31)) + b) + (-56613888 : Int32)
def own_t (x : Int32) : Int32 := if x = 0 then 0 else 1
def own_ok (c a b : Int32) : Int32 := if c = 0 then 0 else if own_hi c = 0 then (if own_lw c = 0 then 1 else b) else a
theorem own_hi0 (c : Int32) : own_hi c = 0 ↔ (c.toInt < 55296 ∨ 56319 < c.toInt) := by
  have e1 : (55296 : Int32).toInt = 55296 := by decide
  have e2 : (56319 : Int32).toInt = 56319 := by decide
  unfold own_hi
  by_cases h1 : c < 55296 <;> by_cases h2 : (56319 : Int32) < c <;> simp only [h1, h2, if_true, if_false] <;> rw [Int32.lt_iff_toInt_lt, e1] at h1 <;> rw [Int32.lt_iff_toInt_lt, e2] at h2
  · exact ⟨fun _ => Or.inl h1, fun _ => by first | rfl | trivial⟩
  · exact ⟨fun _ => Or.inl h1, fun _ => by first | rfl | trivial⟩
  · exact ⟨fun _ => Or.inr h2, fun _ => by first | rfl | trivial⟩
  · exact ⟨fun q => absurd q (by decide), fun q => by omega⟩
theorem own_lw0 (c : Int32) : own_lw c = 0 ↔ (c.toInt < 56320 ∨ 57343 < c.toInt) := by
  have e1 : (56320 : Int32).toInt = 56320 := by decide
  have e2 : (57343 : Int32).toInt = 57343 := by decide
  unfold own_lw
  by_cases h1 : c < 56320 <;> by_cases h2 : (57343 : Int32) < c <;> simp only [h1, h2, if_true, if_false] <;> rw [Int32.lt_iff_toInt_lt, e1] at h1 <;> rw [Int32.lt_iff_toInt_lt, e2] at h2
  · exact ⟨fun _ => Or.inl h1, fun _ => by first | rfl | trivial⟩
  · exact ⟨fun _ => Or.inl h1, fun _ => by first | rfl | trivial⟩
  · exact ⟨fun _ => Or.inr h2, fun _ => by first | rfl | trivial⟩
  · exact ⟨fun q => absurd q (by decide), fun q => by omega⟩
theorem own_hs0 (c : Int32) : own_hs c = 0 ↔ (c.toInt < 55296 ∨ 56319 < c.toInt) := by
  have e1 : (55296 : Int32).toInt = 55296 := by decide
  have e2 : (56320 : Int32).toInt = 56320 := by decide
  unfold own_hs
  by_cases h1 : c < 55296 <;> by_cases h2 : c < (56320 : Int32) <;> simp only [h1, h2, if_true, if_false] <;> rw [Int32.lt_iff_toInt_lt, e1] at h1 <;> rw [Int32.lt_iff_toInt_lt, e2] at h2
  · exact ⟨fun _ => Or.inl h1, fun _ => by first | rfl | trivial⟩
  · exact ⟨fun _ => Or.inl h1, fun _ => by first | rfl | trivial⟩
  · exact ⟨fun q => absurd q (by decide), fun q => by omega⟩
  · exact ⟨fun _ => Or.inr (by omega), fun _ => by first | rfl | trivial⟩
theorem own_ls0 (c : Int32) : own_ls c = 0 ↔ (c.toInt < 56320 ∨ 57343 < c.toInt) := by
  have e1 : (56320 : Int32).toInt = 56320 := by decide
  have e2 : (57344 : Int32).toInt = 57344 := by decide
  unfold own_ls
  by_cases h1 : c < 56320 <;> by_cases h2 : c < (57344 : Int32) <;> simp only [h1, h2, if_true, if_false] <;> rw [Int32.lt_iff_toInt_lt, e1] at h1 <;> rw [Int32.lt_iff_toInt_lt, e2] at h2
  · exact ⟨fun _ => Or.inl h1, fun _ => by first | rfl | trivial⟩
  · exact ⟨fun _ => Or.inl h1, fun _ => by first | rfl | trivial⟩
  · exact ⟨fun q => absurd q (by decide), fun q => by omega⟩
  · exact ⟨fun _ => Or.inr (by omega), fun _ => by first | rfl | trivial⟩
def own_sg (c : Int32) : Prop := own_c16 c ∧ ¬ (c = 0) ∧ own_hi c = 0 ∧ own_lw c = 0
def own_pr (a b : Int32) : Prop := own_c16 a ∧ own_c16 b ∧ ¬ (own_hi a = 0) ∧ ¬ (own_lw b = 0)
def own_la (c : Int32) : Prop := own_c16 c ∧ ¬ ((255 : Int32) < c) ∧ ¬ (c = 0)
theorem own_hsz {c : Int32} (q : own_sg c) : own_hs c = 0 := (own_hs0 c).mpr ((own_hi0 c).mp q.2.2.1)
theorem own_hsn {a b : Int32} (q : own_pr a b) : ¬ own_hs a = 0 := fun z => q.2.2.1 ((own_hi0 a).mpr ((own_hs0 a).mp z))
theorem own_lsn {a b : Int32} (q : own_pr a b) : ¬ own_ls b = 0 := fun z => q.2.2.2 ((own_lw0 b).mpr ((own_ls0 b).mp z))
theorem own_sg2 {c : Int32} (q : own_sg c) (h : ¬ c < (55296 : Int32)) : (57343 : Int32) < c := by
  have e1 : (55296 : Int32).toInt = 55296 := by decide
  have e2 : (57343 : Int32).toInt = 57343 := by decide
  have a := (own_hi0 c).mp q.2.2.1
  have b := (own_lw0 c).mp q.2.2.2
  rw [Int32.lt_iff_toInt_lt, e1] at h
  rw [Int32.lt_iff_toInt_lt, e2]
  omega
theorem own_sg3 {c : Int32} (q : own_sg c) : c < (65536 : Int32) := by
  have e1 : (65536 : Int32).toInt = 65536 := by decide
  have a := q.1.2
  rw [Int32.lt_iff_toInt_lt, e1]
  omega
theorem own_lav {c : Int32} (q : own_la c) : (c.toInt8.toInt32 &&& (255 : Int32)) = c := by
  obtain ⟨⟨a1, a2⟩, b, -⟩ := q
  have e : (255 : Int32).toInt = 255 := by decide
  rw [Int32.lt_iff_toInt_lt, e] at b
  have i := c_i2b c
  have m := c_mask (c.toInt8.toInt32) 255 8 (by decide) (by decide)
  apply Int32.toInt_inj.mp
  omega
theorem own_la1 {c : Int32} (q : own_la c) : (c.toInt8.toInt32 &&& (255 : Int32)) < (55296 : Int32) := by
  rw [own_lav q]
  have e : (255 : Int32).toInt = 255 := by decide
  have e1 : (55296 : Int32).toInt = 55296 := by decide
  have b := q.2.1
  rw [Int32.lt_iff_toInt_lt, e] at b
  rw [Int32.lt_iff_toInt_lt, e1]
  omega
theorem own_la2 {c : Int32} (q : own_la c) : ¬ (c.toInt8.toInt32 &&& (255 : Int32)) = 0 := by
  rw [own_lav q]
  exact q.2.2
theorem own_la3 {c : Int32} (q : own_la c) : (c.toInt8.toInt32 &&& (255 : Int32)) < (65536 : Int32) := by
  have e1 : (55296 : Int32).toInt = 55296 := by decide
  have e2 : (65536 : Int32).toInt = 65536 := by decide
  have b := own_la1 q
  rw [Int32.lt_iff_toInt_lt, e1] at b
  rw [Int32.lt_iff_toInt_lt, e2]
  omega
theorem own_cpv {a b : Int32} (q : own_pr a b) : 65536 ≤ (own_cp a b).toInt ∧ (own_cp a b).toInt ≤ 1114111 := by
  have h1 : ¬ (a.toInt < 55296 ∨ 56319 < a.toInt) := fun z => q.2.2.1 ((own_hi0 a).mpr z)
  have h2 : ¬ (b.toInt < 56320 ∨ 57343 < b.toInt) := fun z => q.2.2.2 ((own_lw0 b).mpr z)
  have l := c_ishl a 10 10 (by decide)
  have r1 := rng32 (a <<< ((10 : Int32) &&& 31))
  have s1 := c_iadd (a <<< ((10 : Int32) &&& 31)) b
  have r2 := rng32 ((a <<< ((10 : Int32) &&& 31)) + b)
  have s2 := c_iadd ((a <<< ((10 : Int32) &&& 31)) + b) (-56613888 : Int32)
  have e : (-56613888 : Int32).toInt = -56613888 := by decide
  have r3 := rng32 (((a <<< ((10 : Int32) &&& 31)) + b) + (-56613888 : Int32))
  unfold own_cp
  omega
theorem own_cp1 {a b : Int32} (q : own_pr a b) : ¬ own_cp a b < (55296 : Int32) := by
  have e1 : (55296 : Int32).toInt = 55296 := by decide
  have v := own_cpv q
  rw [Int32.lt_iff_toInt_lt, e1]
  omega
theorem own_cp2 {a b : Int32} (q : own_pr a b) : (57343 : Int32) < own_cp a b := by
  have e1 : (57343 : Int32).toInt = 57343 := by decide
  have v := own_cpv q
  rw [Int32.lt_iff_toInt_lt, e1]
  omega
theorem own_cp3 {a b : Int32} (q : own_pr a b) : ¬ own_cp a b = 0 := by
  have v := own_cpv q
  intro z
  rw [z] at v
  revert v
  decide
theorem own_cp4 {a b : Int32} (q : own_pr a b) : ¬ own_cp a b < (65536 : Int32) := by
  have e1 : (65536 : Int32).toInt = 65536 := by decide
  have v := own_cpv q
  rw [Int32.lt_iff_toInt_lt, e1]
  omega
theorem own_tz {x : Int32} (h : x = 0) : own_t x = 0 := by
  unfold own_t
  rw [if_pos h]
theorem own_okz {c a b : Int32} (h : ¬ own_ok c a b = 0) : ¬ (c = 0) := fun z => h (by unfold own_ok; rw [if_pos z])
theorem own_sgOf {c a b : Int32} (hr : own_c16 c) (ok : ¬ own_ok c a b = 0) (h : own_hi c = 0) (hb : b = 0) : own_sg c := by
  refine ⟨hr, own_okz ok, h, ?_⟩
  by_cases z : own_lw c = 0
  · exact z
  · exfalso
    apply ok
    unfold own_ok
    rw [if_neg (own_okz ok), if_pos h, if_neg z]
    exact hb
theorem own_prOf {c d b : Int32} (hr : own_c16 c) (hd : own_c16 d) (ok : ¬ own_ok c (own_t (own_lw d)) b = 0) (h : ¬ own_hi c = 0) : own_pr c d := by
  refine ⟨hr, hd, h, fun z => ok ?_⟩
  unfold own_ok
  rw [if_neg (own_okz ok), if_neg h]
  exact own_tz z
theorem own_last {c b : Int32} (ok : ¬ own_ok c (0 : Int32) b = 0) : own_hi c = 0 := by
  by_cases z : own_hi c = 0
  · exact z
  · exfalso
    apply ok
    unfold own_ok
    rw [if_neg (own_okz ok), if_neg z]
theorem own_lh {a b : Int32} (q : own_pr a b) : own_hi b = 0 := by
  have h2 : ¬ (b.toInt < 56320 ∨ 57343 < b.toInt) := fun z => q.2.2.2 ((own_lw0 b).mpr z)
  exact (own_hi0 b).mpr (by omega)
theorem own_prb {a b : Int32} (q : own_pr a b) : (255 : Int32) < a := by
  have h1 : ¬ (a.toInt < 55296 ∨ 56319 < a.toInt) := fun z => q.2.2.1 ((own_hi0 a).mpr z)
  have e1 : (255 : Int32).toInt = 255 := by decide
  rw [Int32.lt_iff_toInt_lt, e1]
  omega
theorem own_n4 {p n : Int32} (h : n = (1 : Int32) + (p &&& (3 : Int32))) (h1 : ¬ n = (1 : Int32)) (h2 : ¬ n = (2 : Int32)) (h3 : ¬ n = (3 : Int32)) : n = (4 : Int32) := by
  have m := c_mask p 3 2 (by decide) (by decide)
  have a := c_iadd (1 : Int32) (p &&& (3 : Int32))
  have e1 : (1 : Int32).toInt = 1 := by decide
  have e2 : (2 : Int32).toInt = 2 := by decide
  have e3 : (3 : Int32).toInt = 3 := by decide
  have e4 : (4 : Int32).toInt = 4 := by decide
  have r := rng32 ((1 : Int32) + (p &&& (3 : Int32)))
  rw [← Int32.toInt_inj] at h h1 h2 h3 ⊢
  omega
def own_n (ds : List Int32) : Int32 := Int32.ofNat ds.length
def own_2 (ds : List Int32) : Int32 := Int32.ofNat (2 * ds.length)
def own_by : List Int32 → List Value
  | [] => []
  | c :: r => .int (own_lo c) :: .int (own_hb c) :: own_by r
def own_ly : List Int32 → List Value
  | [] => []
  | c :: r => .int (c.toInt8.toInt32) :: own_ly r
def own_at (ds : List Int32) (i : Int32) : Int32 := ds.getD i.toNatClampNeg 0
def own_fine (ds : List Int32) : Prop := 0 < ds.length ∧ ds.length ≤ 4 ∧ ∀ c ∈ ds, own_c16 c
def own_big (ds : List Int32) (r : Int32) : Prop := ¬ r < (0 : Int32) ∧ r < own_n ds ∧ (255 : Int32) < own_at ds r
theorem own_bne {ds : List Int32} {r : Int32} (h : own_big ds r) : ¬ r = own_n ds := fun e => Int32.lt_irrefl (by have q := h.2.1; rw [e] at q; exact q)
theorem own_fine1 {a : Int32} (ha : own_c16 a) : own_fine [a] := ⟨by simp, by simp, fun c hc => by simp at hc; subst hc; exact ha⟩
theorem own_fine2 {a b : Int32} (ha : own_c16 a) (hb : own_c16 b) : own_fine [a, b] := ⟨by simp, by simp, fun c hc => by
  simp at hc
  rcases hc with rfl | rfl
  · exact ha
  · exact hb⟩
theorem own_fine3 {a b c : Int32} (ha : own_c16 a) (hb : own_c16 b) (hc : own_c16 c) : own_fine [a, b, c] := ⟨by simp, by simp, fun x hx => by
  simp at hx
  rcases hx with rfl | rfl | rfl
  · exact ha
  · exact hb
  · exact hc⟩
theorem own_fine4 {a b c d : Int32} (ha : own_c16 a) (hb : own_c16 b) (hc : own_c16 c) (hd : own_c16 d) : own_fine [a, b, c, d] := ⟨by simp, by simp, fun x hx => by
  simp at hx
  rcases hx with rfl | rfl | rfl | rfl
  · exact ha
  · exact hb
  · exact hc
  · exact hd⟩
theorem own_nv {ds : List Int32} (h : own_fine ds) : (own_n ds).toInt = (ds.length : Int) := by
  have := h.2.1
  exact Int32.toInt_ofNat_small (by omega)
theorem own_2v {ds : List Int32} (h : own_fine ds) : (own_2 ds).toInt = 2 * (ds.length : Int) := by
  have := h.2.1
  have e : (own_2 ds).toInt = ((2 * ds.length : Nat) : Int) := Int32.toInt_ofNat_small (by omega)
  omega
theorem own_half {ds : List Int32} (h : own_fine ds) : own_2 ds >>> ((1 : Int32) &&& 31) = own_n ds := by
  have a := c_ishr (own_2 ds) 1 1 (by decide)
  have b := own_2v h
  have c := own_nv h
  apply Int32.toInt_inj.mp
  omega
theorem own_sh0 (ds : List Int32) : own_n ds >>> ((0 : Int32) &&& 31) = own_n ds := by
  have a := c_ishr (own_n ds) 0 0 (by decide)
  apply Int32.toInt_inj.mp
  omega
theorem own_by0 (ds : List Int32) (k : Nat) : (own_by ds).getD (2 * k) (.int 0) = .int (own_lo (ds.getD k 0)) := by
  induction ds generalizing k with
  | nil => rfl
  | cons a r ih => cases k with
    | zero => rfl
    | succ k => exact ih k
theorem own_by1 (ds : List Int32) (k : Nat) : (own_by ds).getD (2 * k + 1) (.int 0) = .int (own_hb (ds.getD k 0)) := by
  induction ds generalizing k with
  | nil => exact congrArg Value.int (by decide : (0 : Int32) = own_hb 0)
  | cons a r ih => cases k with
    | zero => rfl
    | succ k => exact ih k
theorem own_ly0 (ds : List Int32) (k : Nat) : (own_ly ds).getD k (.int 0) = .int ((ds.getD k 0).toInt8.toInt32) := by
  induction ds generalizing k with
  | nil => rfl
  | cons a r ih => cases k with
    | zero => rfl
    | succ k => exact ih k
theorem own_z32 {i : Int32} (h : ¬ i < (0 : Int32)) : 0 ≤ i.toInt := by
  have e : (0 : Int32).toInt = 0 := by decide
  rw [Int32.lt_iff_toInt_lt, e] at h
  omega
theorem own_ix {ds : List Int32} {i : Int32} (hf : own_fine ds) (h0 : ¬ i < (0 : Int32)) (h1 : i < own_n ds) : 0 ≤ i.toInt ∧ i.toInt < (ds.length : Int) ∧ (ds.length : Int) ≤ 4 := by
  have a := own_z32 h0
  rw [Int32.lt_iff_toInt_lt, own_nv hf] at h1
  have := hf.2.1
  omega
theorem own_sv {ds : List Int32} {i : Int32} (hf : own_fine ds) (h0 : ¬ i < (0 : Int32)) (h1 : i < own_n ds) : (i <<< ((1 : Int32) &&& 31)).toInt = 2 * i.toInt := by
  have a := own_ix hf h0 h1
  have l := c_ishl i 1 1 (by decide)
  have r := rng32 (i <<< ((1 : Int32) &&& 31))
  omega
theorem own_sv1 {ds : List Int32} {i : Int32} (hf : own_fine ds) (h0 : ¬ i < (0 : Int32)) (h1 : i < own_n ds) : ((i <<< ((1 : Int32) &&& 31)) + (1 : Int32)).toInt = 2 * i.toInt + 1 := by
  have a := own_ix hf h0 h1
  have l := own_sv hf h0 h1
  have s := c_iadd (i <<< ((1 : Int32) &&& 31)) (1 : Int32)
  have e : (1 : Int32).toInt = 1 := by decide
  have r := rng32 ((i <<< ((1 : Int32) &&& 31)) + (1 : Int32))
  omega
theorem own_j0 {ds : List Int32} {i : Int32} (hf : own_fine ds) (h0 : ¬ i < (0 : Int32)) (h1 : i < own_n ds) : ¬ (i <<< ((1 : Int32) &&& 31)) < (0 : Int32) ∧ (i <<< ((1 : Int32) &&& 31)) < own_2 ds := by
  have a := own_ix hf h0 h1
  have l := own_sv hf h0 h1
  have e : (0 : Int32).toInt = 0 := by decide
  have v := own_2v hf
  rw [Int32.lt_iff_toInt_lt, Int32.lt_iff_toInt_lt]
  omega
theorem own_j1 {ds : List Int32} {i : Int32} (hf : own_fine ds) (h0 : ¬ i < (0 : Int32)) (h1 : i < own_n ds) : ¬ ((i <<< ((1 : Int32) &&& 31)) + (1 : Int32)) < (0 : Int32) ∧ ((i <<< ((1 : Int32) &&& 31)) + (1 : Int32)) < own_2 ds := by
  have a := own_ix hf h0 h1
  have l := own_sv1 hf h0 h1
  have e : (0 : Int32).toInt = 0 := by decide
  have v := own_2v hf
  rw [Int32.lt_iff_toInt_lt, Int32.lt_iff_toInt_lt]
  omega
theorem own_cn (x : Int32) : x.toNatClampNeg = x.toInt.toNat := rfl
theorem own_k0 {ds : List Int32} {i : Int32} (hf : own_fine ds) (h0 : ¬ i < (0 : Int32)) (h1 : i < own_n ds) : (own_by ds).getD (i <<< ((1 : Int32) &&& 31)).toNatClampNeg (.int 0) = .int (own_lo (own_at ds i)) := by
  have a := own_ix hf h0 h1
  have e : (i <<< ((1 : Int32) &&& 31)).toNatClampNeg = 2 * i.toNatClampNeg := by
    rw [own_cn, own_cn, own_sv hf h0 h1]
    omega
  rw [e]
  exact own_by0 ds _
theorem own_k1 {ds : List Int32} {i : Int32} (hf : own_fine ds) (h0 : ¬ i < (0 : Int32)) (h1 : i < own_n ds) : (own_by ds).getD ((i <<< ((1 : Int32) &&& 31)) + (1 : Int32)).toNatClampNeg (.int 0) = .int (own_hb (own_at ds i)) := by
  have a := own_ix hf h0 h1
  have e : ((i <<< ((1 : Int32) &&& 31)) + (1 : Int32)).toNatClampNeg = 2 * i.toNatClampNeg + 1 := by
    rw [own_cn, own_cn, own_sv1 hf h0 h1]
    omega
  rw [e]
  exact own_by1 ds _
theorem own_mem {ds : List Int32} {i : Int32} (hf : own_fine ds) (h0 : ¬ i < (0 : Int32)) (h1 : i < own_n ds) : own_at ds i ∈ ds := by
  have a := own_ix hf h0 h1
  have b : i.toNatClampNeg < ds.length := by
    rw [own_cn]
    omega
  unfold own_at
  rw [List.getD_eq_getElem?_getD, List.getElem?_eq_getElem b]
  exact List.getElem_mem b
theorem own_atc {ds : List Int32} {i : Int32} (hf : own_fine ds) (h0 : ¬ i < (0 : Int32)) (h1 : i < own_n ds) : own_c16 (own_at ds i) := hf.2.2 _ (own_mem hf h0 h1)
theorem own_gcv {ds : List Int32} {i : Int32} (hf : own_fine ds) (h0 : ¬ i < (0 : Int32)) (h1 : i < own_n ds) : own_gc (own_lo (own_at ds i)) (own_hb (own_at ds i)) = own_at ds i := own_gcc (own_atc hf h0 h1)
theorem own_nn {ds : List Int32} (hf : own_fine ds) : ¬ own_n ds < (0 : Int32) := by
  have e : (0 : Int32).toInt = 0 := by decide
  rw [Int32.lt_iff_toInt_lt, own_nv hf]
  omega
theorem own_s0 (ds : List Int32) : own_n ds - (0 : Int32) = own_n ds := by
  have s := c_isub (own_n ds) (0 : Int32)
  have e : (0 : Int32).toInt = 0 := by decide
  have r := rng32 (own_n ds - (0 : Int32))
  have r2 := rng32 (own_n ds)
  apply Int32.toInt_inj.mp
  omega
theorem own_l0 {ds : List Int32} (hf : own_fine ds) : ¬ (own_n ds - (0 : Int32) = (0 : Int32)) := by
  rw [own_s0, ← Int32.toInt_inj, own_nv hf]
  have e : (0 : Int32).toInt = 0 := by decide
  have := hf.1
  omega
theorem own_l1 {ds : List Int32} (hf : own_fine ds) : ¬ ((100 : Int32) < own_n ds - (0 : Int32)) := by
  rw [own_s0, Int32.lt_iff_toInt_lt, own_nv hf]
  have e : (100 : Int32).toInt = 100 := by decide
  have := hf.2.1
  omega
def own_inv (ds : List Int32) (n : Nat) (cn i : Int32) : Prop := 0 ≤ i.toInt ∧ i.toInt ≤ (ds.length : Int) ∧ (ds.length : Int) ≤ n + i.toInt ∧ cn.toInt ≤ (ds.length : Int) ∧ 2 * ((ds.length : Int) - cn.toInt) ≤ i.toInt
theorem own_first {ds : List Int32} (hf : own_fine ds) : own_inv ds ds.length (own_n ds - (0 : Int32)) (0 : Int32) := by
  have e : (0 : Int32).toInt = 0 := by decide
  unfold own_inv
  rw [own_s0, own_nv hf, e]
  omega
theorem own_m1 {ds : List Int32} (hf : own_fine ds) : (own_n ds - (1 : Int32)).toInt = (ds.length : Int) - 1 := by
  have s := c_isub (own_n ds) (1 : Int32)
  have e : (1 : Int32).toInt = 1 := by decide
  have v := own_nv hf
  have r := rng32 (own_n ds - (1 : Int32))
  have := hf.2.1
  omega
theorem own_z {ds : List Int32} {cn i : Int32} (hf : own_fine ds) (h : own_inv ds 0 cn i) : ¬ i < own_n ds - (1 : Int32) := by
  unfold own_inv at h
  rw [Int32.lt_iff_toInt_lt, own_m1 hf]
  omega
theorem own_r0 {ds : List Int32} {n : Nat} {cn i : Int32} (hf : own_fine ds) (h : own_inv ds n cn i) : ¬ (cn = (0 : Int32)) := by
  unfold own_inv at h
  have e : (0 : Int32).toInt = 0 := by decide
  have := hf.1
  rw [← Int32.toInt_inj]
  omega
theorem own_r1 {ds : List Int32} {n : Nat} {cn i : Int32} (hf : own_fine ds) (h : own_inv ds n cn i) : ¬ ((100 : Int32) < cn) := by
  unfold own_inv at h
  have e : (100 : Int32).toInt = 100 := by decide
  have := hf.2.1
  rw [Int32.lt_iff_toInt_lt]
  omega
theorem own_u0 {ds : List Int32} {n : Nat} {cn i : Int32} (h : own_inv ds n cn i) : ¬ i < (0 : Int32) := by
  unfold own_inv at h
  have e : (0 : Int32).toInt = 0 := by decide
  rw [Int32.lt_iff_toInt_lt]
  omega
theorem own_u1 {ds : List Int32} {i : Int32} (hf : own_fine ds) (h : i < own_n ds - (1 : Int32)) : i < own_n ds := by
  have := hf.1
  rw [Int32.lt_iff_toInt_lt, own_m1 hf] at h
  rw [Int32.lt_iff_toInt_lt, own_nv hf]
  omega
theorem own_pl {ds : List Int32} {i : Int32} (hf : own_fine ds) (h0 : ¬ i < (0 : Int32)) (h1 : i < own_n ds) : (i + (1 : Int32)).toInt = i.toInt + 1 := by
  have a := own_ix hf h0 h1
  have s := c_iadd i (1 : Int32)
  have e : (1 : Int32).toInt = 1 := by decide
  have r := rng32 (i + (1 : Int32))
  omega
theorem own_v0 {ds : List Int32} {i : Int32} (hf : own_fine ds) (h0 : ¬ i < (0 : Int32)) (h1 : i < own_n ds) : ¬ (i + (1 : Int32)) < (0 : Int32) := by
  have a := own_ix hf h0 h1
  have e : (0 : Int32).toInt = 0 := by decide
  rw [Int32.lt_iff_toInt_lt, own_pl hf h0 h1]
  omega
theorem own_u3 {ds : List Int32} {n : Nat} {cn i : Int32} (hf : own_fine ds) (hv : own_inv ds n cn i) (h : i < own_n ds - (1 : Int32)) : (i + (1 : Int32)) < own_n ds := by
  have p := own_pl hf (own_u0 hv) (own_u1 hf h)
  rw [Int32.lt_iff_toInt_lt, own_m1 hf] at h
  rw [Int32.lt_iff_toInt_lt, own_nv hf]
  omega
theorem own_nA {ds : List Int32} {n : Nat} {cn i : Int32} (hf : own_fine ds) (hv : own_inv ds (n + 1) cn i) (h : i < own_n ds - (1 : Int32)) : own_inv ds n cn (i + (1 : Int32)) := by
  have p := own_pl hf (own_u0 hv) (own_u1 hf h)
  rw [Int32.lt_iff_toInt_lt, own_m1 hf] at h
  unfold own_inv at hv ⊢
  omega
theorem own_nB {ds : List Int32} {n : Nat} {cn i : Int32} (hf : own_fine ds) (hv : own_inv ds (n + 1) cn i) (h : i < own_n ds - (1 : Int32)) : own_inv ds n (cn + (-1 : Int32)) ((i + (1 : Int32)) + (1 : Int32)) := by
  have p := own_pl hf (own_u0 hv) (own_u1 hf h)
  have p2 := own_pl hf (own_v0 hf (own_u0 hv) (own_u1 hf h)) (own_u3 hf hv h)
  have s := c_iadd cn (-1 : Int32)
  have e : (-1 : Int32).toInt = -1 := by decide
  have r := rng32 (cn + (-1 : Int32))
  have r2 := rng32 cn
  have := hf.1
  rw [Int32.lt_iff_toInt_lt, own_m1 hf] at h
  unfold own_inv at hv ⊢
  omega
def own_q (ds : List Int32) (i : Int32) : Prop := own_sg (own_at ds i) ∨ ((i + (1 : Int32)) < own_n ds ∧ own_pr (own_at ds i) (own_at ds (i + (1 : Int32))))
def own_ca (ds : List Int32) (i : Int32) : Int32 := if own_hs (own_at ds i) = (0 : Int32) then own_at ds i else own_cp (own_at ds i) (own_at ds (i + (1 : Int32)))
theorem own_pair {ds : List Int32} {i : Int32} (q : own_q ds i) (h : ¬ own_hs (own_at ds i) = (0 : Int32)) : (i + (1 : Int32)) < own_n ds ∧ own_pr (own_at ds i) (own_at ds (i + (1 : Int32))) := by
  rcases q with a | a
  · exact absurd (own_hsz a) h
  · exact a
theorem own_caS {ds : List Int32} {i : Int32} (a : own_sg (own_at ds i)) : own_ca ds i = own_at ds i := by
  unfold own_ca
  rw [if_pos (own_hsz a)]
theorem own_caP {ds : List Int32} {i : Int32} (a : own_pr (own_at ds i) (own_at ds (i + (1 : Int32)))) : own_ca ds i = own_cp (own_at ds i) (own_at ds (i + (1 : Int32))) := by
  unfold own_ca
  rw [if_neg (own_hsn a)]
theorem own_ca1 {ds : List Int32} {i : Int32} (q : own_q ds i) (h : ¬ own_ca ds i < (55296 : Int32)) : (57343 : Int32) < own_ca ds i := by
  rcases q with a | a
  · rw [own_caS a] at h ⊢
    exact own_sg2 a h
  · rw [own_caP a.2]
    exact own_cp2 a.2
theorem own_ca2 {ds : List Int32} {i : Int32} (q : own_q ds i) : ¬ own_ca ds i = (0 : Int32) := by
  rcases q with a | a
  · rw [own_caS a]
    exact a.2.1
  · rw [own_caP a.2]
    exact own_cp3 a.2
def own_cc (x : Int32) : Int32 := if x < (65536 : Int32) then (1 : Int32) else (2 : Int32)
def own_wf (ds : List Int32) : Nat → Int32 → Prop
  | 0, i => ¬ i < own_n ds
  | n + 1, i => i < own_n ds → (¬ i < (0 : Int32) ∧ own_q ds i ∧ own_wf ds n (i + own_cc (own_ca ds i)))
def own_il (ds : List Int32) (n : Nat) (i : Int32) : Prop := 0 ≤ i.toInt ∧ i.toInt ≤ (ds.length : Int) ∧ (ds.length : Int) ≤ n + i.toInt
def own_lt (ds : List Int32) : Prop := ∀ c ∈ ds, own_la c
theorem own_il0 {ds : List Int32} (hf : own_fine ds) : own_il ds ds.length (0 : Int32) := by
  have e : (0 : Int32).toInt = 0 := by decide
  unfold own_il
  rw [e]
  omega
theorem own_ilz {ds : List Int32} {i : Int32} (hf : own_fine ds) (h : own_il ds 0 i) : ¬ i < own_n ds := by
  unfold own_il at h
  rw [Int32.lt_iff_toInt_lt, own_nv hf]
  omega
theorem own_ilu {ds : List Int32} {n : Nat} {i : Int32} (h : own_il ds n i) : ¬ i < (0 : Int32) := by
  unfold own_il at h
  have e : (0 : Int32).toInt = 0 := by decide
  rw [Int32.lt_iff_toInt_lt]
  omega
theorem own_lb {ds : List Int32} {i : Int32} (hf : own_fine ds) (hl : own_lt ds) (h0 : ¬ i < (0 : Int32)) (h1 : i < own_n ds) : own_la (own_at ds i) := hl _ (own_mem hf h0 h1)
theorem own_lb1 {c : Int32} (q : own_la c) : c < (55296 : Int32) := by
  have a := own_la1 q
  rw [own_lav q] at a
  exact a
theorem own_lb3 {c : Int32} (q : own_la c) : own_cc c = (1 : Int32) := by
  have a := own_la3 q
  rw [own_lav q] at a
  unfold own_cc
  rw [if_pos a]
theorem own_iln {ds : List Int32} {n : Nat} {i : Int32} (hf : own_fine ds) (hl : own_lt ds) (h : own_il ds (n + 1) i) (h1 : i < own_n ds) : own_il ds n (i + own_cc (own_at ds i)) := by
  rw [own_lb3 (own_lb hf hl (own_ilu h) h1)]
  have p := own_pl hf (own_ilu h) h1
  have a := own_ix hf (own_ilu h) h1
  unfold own_il at h ⊢
  omega
def own_W : List Int32 → Prop
  | [] => True
  | [c] => own_sg c
  | c :: d :: r => (own_sg c ∧ own_W (d :: r)) ∨ (own_pr c d ∧ own_W r)
theorem own_dr (ds : List Int32) (k : Nat) : ∀ j, (ds.drop k).getD j 0 = ds.getD (k + j) 0 := fun j => by
  rw [List.getD_eq_getElem?_getD, List.getD_eq_getElem?_getD, List.getElem?_drop]
theorem own_ofN {k : Nat} (h : k ≤ 8) : (Int32.ofNat k).toInt = (k : Int) := Int32.toInt_ofNat_small (by omega)
theorem own_atk {ds : List Int32} {k : Nat} (h : k ≤ 8) : own_at ds (Int32.ofNat k) = ds.getD k 0 := by
  unfold own_at
  rw [own_cn, own_ofN h]
  rfl
theorem own_ofp {k j : Nat} (h : k + j ≤ 8) : Int32.ofNat k + Int32.ofNat j = Int32.ofNat (k + j) := by
  have a := own_ofN (k := k) (by omega)
  have b := own_ofN (k := j) (by omega)
  have c := own_ofN (k := k + j) h
  have s := c_iadd (Int32.ofNat k) (Int32.ofNat j)
  have r := rng32 (Int32.ofNat k + Int32.ofNat j)
  apply Int32.toInt_inj.mp
  omega
theorem own_c1 {ds : List Int32} {i : Int32} (a : own_sg (own_at ds i)) : own_cc (own_ca ds i) = Int32.ofNat 1 := by
  rw [own_caS a]
  unfold own_cc
  rw [if_pos (own_sg3 a)]
  rfl
theorem own_c2 {ds : List Int32} {i : Int32} (a : own_pr (own_at ds i) (own_at ds (i + (1 : Int32)))) : own_cc (own_ca ds i) = Int32.ofNat 2 := by
  rw [own_caP a]
  unfold own_cc
  rw [if_neg (own_cp4 a)]
  rfl
theorem own_wfW {ds : List Int32} (hf : own_fine ds) : ∀ (n k : Nat), k ≤ ds.length → ds.length ≤ k + n → own_W (ds.drop k) → own_wf ds n (Int32.ofNat k) := by
  have h4 := hf.2.1
  intro n
  induction n with
  | zero =>
    intro k h1 h2 _
    show ¬ Int32.ofNat k < own_n ds
    rw [Int32.lt_iff_toInt_lt, own_nv hf, own_ofN (by omega)]
    omega
  | succ n ih =>
    intro k h1 h2 hW
    show Int32.ofNat k < own_n ds → _
    intro hlt
    have h0 : ¬ Int32.ofNat k < (0 : Int32) := by
      have e : (0 : Int32).toInt = 0 := by decide
      rw [Int32.lt_iff_toInt_lt, e, own_ofN (by omega)]
      omega
    have hk : k < ds.length := by
      rw [Int32.lt_iff_toInt_lt, own_nv hf, own_ofN (by omega)] at hlt
      omega
    have e0 : own_at ds (Int32.ofNat k) = (ds.drop k).getD 0 0 := by
      rw [own_atk (by omega), own_dr]
      rfl
    have e1 : own_at ds (Int32.ofNat k + (1 : Int32)) = (ds.drop k).getD 1 0 := by
      rw [show Int32.ofNat k + (1 : Int32) = Int32.ofNat (k + 1) from own_ofp (k := k) (j := 1) (by omega), own_atk (by omega), own_dr]
    have hl : (ds.drop k).length = ds.length - k := List.length_drop
    have d1 : ds.drop (k + 1) = (ds.drop k).drop 1 := by rw [List.drop_drop]
    have d2 : ds.drop (k + 2) = (ds.drop k).drop 2 := by rw [List.drop_drop]
    generalize ds.drop k = L at hW e0 e1 hl d1 d2
    have single : own_sg (own_at ds (Int32.ofNat k)) → own_W (L.drop 1) → (¬ Int32.ofNat k < (0 : Int32) ∧ own_q ds (Int32.ofNat k) ∧ own_wf ds n (Int32.ofNat k + own_cc (own_ca ds (Int32.ofNat k)))) := by
      intro a b
      refine ⟨h0, Or.inl a, ?_⟩
      rw [own_c1 a, own_ofp (by omega)]
      exact ih (k + 1) (by omega) (by omega) (by rw [d1]; exact b)
    match L, hW, e0, e1, hl, d1, d2, single with
    | [], _, _, _, hl, _, _, _ => simp at hl; omega
    | [c], hW, e0, _, _, _, _, single =>
      have e0' : own_at ds (Int32.ofNat k) = c := e0
      exact single (by rw [e0']; exact hW) trivial
    | c :: d :: r, hW, e0, e1, hl, d1, d2, single =>
      have e0' : own_at ds (Int32.ofNat k) = c := e0
      have e1' : own_at ds (Int32.ofNat k + (1 : Int32)) = d := e1
      have hW' : (own_sg c ∧ own_W (d :: r)) ∨ (own_pr c d ∧ own_W r) := hW
      rcases hW' with ⟨a, b⟩ | ⟨a, b⟩
      · exact single (by rw [e0']; exact a) b
      · have a' : own_pr (own_at ds (Int32.ofNat k)) (own_at ds (Int32.ofNat k + (1 : Int32))) := by rw [e0', e1']; exact a
        simp only [List.length_cons] at hl
        refine ⟨h0, Or.inr ⟨?_, a'⟩, ?_⟩
        · rw [show Int32.ofNat k + (1 : Int32) = Int32.ofNat (k + 1) from own_ofp (k := k) (j := 1) (by omega), Int32.lt_iff_toInt_lt, own_nv hf, own_ofN (by omega)]
          omega
        · rw [own_c2 a', own_ofp (by omega)]
          exact ih (k + 2) (by omega) (by omega) (by rw [d2]; exact b)
theorem own_wf0 {ds : List Int32} (hf : own_fine ds) (h : own_W ds) : own_wf ds 4 (0 : Int32) := own_wfW hf 4 0 (by omega) (by have := hf.2.1; omega) h
theorem own_ltW : ∀ {ds : List Int32}, own_W ds → (∀ c ∈ ds, ¬ (255 : Int32) < c) → own_lt ds
  | [], _, _ => fun c hc => by simp at hc
  | [c], h, hb => fun x hx => by
    simp at hx
    subst hx
    have h' : own_sg x := h
    exact ⟨h'.1, hb x (by simp), h'.2.1⟩
  | c :: d :: r, h, hb => by
    have h' : (own_sg c ∧ own_W (d :: r)) ∨ (own_pr c d ∧ own_W r) := h
    rcases h' with ⟨a, b⟩ | ⟨a, b⟩
    · have ih := own_ltW b (fun x hx => hb x (List.mem_cons_of_mem _ hx))
      intro x hx
      rcases List.mem_cons.mp hx with rfl | hx
      · exact ⟨a.1, hb x (by simp), a.2.1⟩
      · exact ih x hx
    · exact absurd (own_prb a) (hb c (by simp))
def own_oka (nn i j c nx b : Int32) : Int32 := if i < nn then own_ok c (if j < nn then own_t (own_lw nx) else 0) b else 1
theorem own_okM {nn i j c nx b : Int32} (h : ¬ own_oka nn i j c nx b = (0 : Int32)) (hi : i < nn) (hj : j < nn) : ¬ own_ok c (own_t (own_lw nx)) b = 0 := by
  unfold own_oka at h
  rw [if_pos hi, if_pos hj] at h
  exact h
theorem own_okL {nn i j c nx b : Int32} (h : ¬ own_oka nn i j c nx b = (0 : Int32)) (hi : i < nn) (hj : ¬ j < nn) : ¬ own_ok c 0 b = 0 := by
  unfold own_oka at h
  rw [if_pos hi, if_neg hj] at h
  exact h
def own_nx : List Int32 → Int32
  | [] => 0
  | c :: _ => own_t (own_lw c)
def own_okr : Int32 → List Int32 → Prop
  | _, [] => True
  | b, c :: r => own_c16 c ∧ ¬ own_ok c (own_nx r) b = 0 ∧ own_okr (own_t (own_hi c)) r
theorem own_okW : ∀ (ds : List Int32) (b : Int32), b = 0 → own_okr b ds → own_W ds
  | [], _, _, _ => trivial
  | [c], b, hb, h => by
    have h' : own_c16 c ∧ ¬ own_ok c 0 b = 0 ∧ True := h
    exact own_sgOf h'.1 h'.2.1 (own_last h'.2.1) hb
  | c :: d :: r, b, hb, h => by
    have h' : own_c16 c ∧ ¬ own_ok c (own_t (own_lw d)) b = 0 ∧ own_okr (own_t (own_hi c)) (d :: r) := h
    show (own_sg c ∧ own_W (d :: r)) ∨ (own_pr c d ∧ own_W r)
    by_cases z : own_hi c = 0
    · exact Or.inl ⟨own_sgOf h'.1 h'.2.1 z hb, own_okW (d :: r) _ (own_tz z) h'.2.2⟩
    · have g : own_c16 d ∧ ¬ own_ok d (own_nx r) (own_t (own_hi c)) = 0 ∧ own_okr (own_t (own_hi d)) r := h'.2.2
      have p := own_prOf h'.1 g.1 h'.2.1 z
      exact Or.inr ⟨p, own_okW r _ (own_tz (own_lh p)) g.2.2⟩
theorem own_w1 {nn c0 x0 : Int32} (hn : nn = (1 : Int32)) (r0 : own_c16 c0) (k0 : ¬ own_oka nn (0 : Int32) (1 : Int32) c0 x0 (0 : Int32) = (0 : Int32)) : own_W [c0] := by
  subst hn
  exact own_okW _ 0 rfl ⟨r0, own_okL k0 (by decide) (by decide), trivial⟩
theorem own_w2 {nn c0 c1 x1 : Int32} (hn : nn = (2 : Int32)) (r0 : own_c16 c0) (r1 : own_c16 c1) (k0 : ¬ own_oka nn (0 : Int32) (1 : Int32) c0 c1 (0 : Int32) = (0 : Int32)) (k1 : ¬ own_oka nn (1 : Int32) (2 : Int32) c1 x1 (own_t (own_hi c0)) = (0 : Int32)) : own_W [c0, c1] := by
  subst hn
  exact own_okW _ 0 rfl ⟨r0, own_okM k0 (by decide) (by decide), r1, own_okL k1 (by decide) (by decide), trivial⟩
theorem own_w3 {nn c0 c1 c2 x2 : Int32} (hn : nn = (3 : Int32)) (r0 : own_c16 c0) (r1 : own_c16 c1) (r2 : own_c16 c2) (k0 : ¬ own_oka nn (0 : Int32) (1 : Int32) c0 c1 (0 : Int32) = (0 : Int32)) (k1 : ¬ own_oka nn (1 : Int32) (2 : Int32) c1 c2 (own_t (own_hi c0)) = (0 : Int32)) (k2 : ¬ own_oka nn (2 : Int32) (3 : Int32) c2 x2 (own_t (own_hi c1)) = (0 : Int32)) : own_W [c0, c1, c2] := by
  subst hn
  exact own_okW _ 0 rfl ⟨r0, own_okM k0 (by decide) (by decide), r1, own_okM k1 (by decide) (by decide), r2, own_okL k2 (by decide) (by decide), trivial⟩
theorem own_w4 {nn c0 c1 c2 c3 x3 : Int32} (hn : nn = (4 : Int32)) (r0 : own_c16 c0) (r1 : own_c16 c1) (r2 : own_c16 c2) (r3 : own_c16 c3) (k0 : ¬ own_oka nn (0 : Int32) (1 : Int32) c0 c1 (0 : Int32) = (0 : Int32)) (k1 : ¬ own_oka nn (1 : Int32) (2 : Int32) c1 c2 (own_t (own_hi c0)) = (0 : Int32)) (k2 : ¬ own_oka nn (2 : Int32) (3 : Int32) c2 c3 (own_t (own_hi c1)) = (0 : Int32)) (k3 : ¬ own_oka nn (3 : Int32) (4 : Int32) c3 x3 (own_t (own_hi c2)) = (0 : Int32)) : own_W [c0, c1, c2, c3] := by
  subst hn
  exact own_okW _ 0 rfl ⟨r0, own_okM k0 (by decide) (by decide), r1, own_okM k1 (by decide) (by decide), r2, own_okM k2 (by decide) (by decide), r3, own_okL k3 (by decide) (by decide), trivial⟩
theorem own_nle {p n : Int32} (h : n = (1 : Int32) + (p &&& (3 : Int32))) : ¬ (4 : Int32) < n := by
  have m := c_mask p 3 2 (by decide) (by decide)
  have a := c_iadd (1 : Int32) (p &&& (3 : Int32))
  have e1 : (1 : Int32).toInt = 1 := by decide
  have e4 : (4 : Int32).toInt = 4 := by decide
  have r := rng32 ((1 : Int32) + (p &&& (3 : Int32)))
  rw [Int32.lt_iff_toInt_lt, e4]
  rw [← Int32.toInt_inj] at h
  omega
theorem own_b1 {a : Int32} (h : ¬ ((255 : Int32) < a)) : ∀ c ∈ [a], ¬ (255 : Int32) < c := fun c hc => by
  simp at hc
  subst hc
  exact h
theorem own_b2 {a b : Int32} (h : ¬ ((255 : Int32) < a ∨ (255 : Int32) < b)) : ∀ c ∈ [a, b], ¬ (255 : Int32) < c := fun c hc g => by
  simp only [List.mem_cons, List.not_mem_nil, or_false] at hc
  rcases hc with rfl | rfl
  · exact h (Or.inl g)
  · exact h (Or.inr g)
theorem own_b3 {a b d : Int32} (h : ¬ ((255 : Int32) < a ∨ (255 : Int32) < b ∨ (255 : Int32) < d)) : ∀ c ∈ [a, b, d], ¬ (255 : Int32) < c := fun c hc g => by
  simp only [List.mem_cons, List.not_mem_nil, or_false] at hc
  rcases hc with rfl | rfl | rfl
  · exact h (Or.inl g)
  · exact h (Or.inr (Or.inl g))
  · exact h (Or.inr (Or.inr g))
theorem own_b4 {a b d e : Int32} (h : ¬ ((255 : Int32) < a ∨ (255 : Int32) < b ∨ (255 : Int32) < d ∨ (255 : Int32) < e)) : ∀ c ∈ [a, b, d, e], ¬ (255 : Int32) < c := fun c hc g => by
  simp only [List.mem_cons, List.not_mem_nil, or_false] at hc
  rcases hc with rfl | rfl | rfl | rfl
  · exact h (Or.inl g)
  · exact h (Or.inr (Or.inl g))
  · exact h (Or.inr (Or.inr (Or.inl g)))
  · exact h (Or.inr (Or.inr (Or.inr g)))

theorem pn_java_lang_StringUTF16 : plainName "java/lang/StringUTF16" = true := by first | (simp [plainName, overriddenIn]; done) | decide +kernel
theorem d14_0 : decode jdk_52_method_5_code 0 = .ok (.getstatic 44, 3) := by decide +kernel
theorem d14_3 : decode jdk_52_method_5_code 3 = .ok (.ifCond .ne 25, 3) := by decide +kernel
theorem d14_28 : decode jdk_52_method_5_code 28 = .ok (.iload_n 1, 1) := by decide +kernel
theorem d14_29 : decode jdk_52_method_5_code 29 = .ok (.iconst 1, 1) := by decide +kernel
theorem d14_30 : decode jdk_52_method_5_code 30 = .ok (.ishl, 1) := by decide +kernel
theorem d14_31 : decode jdk_52_method_5_code 31 = .ok (.istore_n 1, 1) := by decide +kernel
theorem d14_32 : decode jdk_52_method_5_code 32 = .ok (.aload_n 0, 1) := by decide +kernel
theorem d14_33 : decode jdk_52_method_5_code 33 = .ok (.iload_n 1, 1) := by decide +kernel
theorem d14_34 : decode jdk_52_method_5_code 34 = .ok (.iinc 1 1, 3) := by decide +kernel
theorem d14_37 : decode jdk_52_method_5_code 37 = .ok (.baload, 1) := by decide +kernel
theorem d14_38 : decode jdk_52_method_5_code 38 = .ok (.sipush 255, 3) := by decide +kernel
theorem d14_41 : decode jdk_52_method_5_code 41 = .ok (.iand, 1) := by decide +kernel
theorem d14_42 : decode jdk_52_method_5_code 42 = .ok (.getstatic 59, 3) := by decide +kernel
theorem d14_45 : decode jdk_52_method_5_code 45 = .ok (.ishl, 1) := by decide +kernel
theorem d14_46 : decode jdk_52_method_5_code 46 = .ok (.aload_n 0, 1) := by decide +kernel
theorem d14_47 : decode jdk_52_method_5_code 47 = .ok (.iload_n 1, 1) := by decide +kernel
theorem d14_48 : decode jdk_52_method_5_code 48 = .ok (.baload, 1) := by decide +kernel
theorem d14_49 : decode jdk_52_method_5_code 49 = .ok (.sipush 255, 3) := by decide +kernel
theorem d14_52 : decode jdk_52_method_5_code 52 = .ok (.iand, 1) := by decide +kernel
theorem d14_53 : decode jdk_52_method_5_code 53 = .ok (.getstatic 63, 3) := by decide +kernel
theorem d14_56 : decode jdk_52_method_5_code 56 = .ok (.ishl, 1) := by decide +kernel
theorem d14_57 : decode jdk_52_method_5_code 57 = .ok (.ior, 1) := by decide +kernel
theorem d14_58 : decode jdk_52_method_5_code 58 = .ok (.i2c, 1) := by decide +kernel
theorem d14_59 : decode jdk_52_method_5_code 59 = .ok (.ireturn, 1) := by decide +kernel
theorem ef_rmGet (m : MethodId) (a1 : Addr) (i : Int32) : entryFrame m #[(.ref a1), (.int i)] 2 = mkF m 0 #[.val (.ref a1), .val (.int i)] [] := by first | (simp [entryFrame, mkF, argsToLocals, Value.category]; done) | rfl
def Q_rmGet (Z : State) (a1 : Addr) (kb : ClassId) (ds : List Int32) (i : Int32) (h0 : Heap) (n0 : Nat) (v : Option Value) (h : Heap) (L : List Loc) : Prop := v = some (.int (own_at ds i)) ∧ Fr n0 L ∧ h = h0
theorem rmGet (l : Launch) (Z : State) (a0 : Array Value) (hw : ∀ d ∈ tables_1, d.before a0 Z = true) (ws : List Jvm.Cond) (a1 : Addr) (kb : ClassId) (ds : List Int32) (i : Int32) (h0 : Heap) (n0 : Nat) (Z0 : n0 ≤ h0.size) (P0 : Arv Z h0 a1 kb .byte (own_2 ds) (own_by ds) (.int 0)) (P1 : Sta Z h0 "java/lang/StringUTF16" "$assertionsDisabled" "Z" (.int 1)) (P2 : Sta Z h0 "java/lang/StringUTF16" "HI_BYTE_SHIFT" "I" (.int 0)) (P3 : Sta Z h0 "java/lang/StringUTF16" "LO_BYTE_SHIFT" "I" (.int 8)) (hf : own_fine ds) (hi0 : ¬ (i < (0 : Int32))) (hi1 : i < (own_n ds)) :
    MetFree l yq1 (head1 (Jvm.Cond.code yq1 jdk_52_method_5_code 2 (some .char) :: ws) rq0) (fun a U => a = #[(.ref a1), (.int i)] ∧ Z.Warmed39 U.vm ∧ U.heap = h0) (fun _ _ _ _ _ => True) (fun _ U o U' => ∃ v L, o = .returned v ∧ Q_rmGet Z a1 kb ds i h0 n0 v U'.heap L ∧ FrameEnd U o U' L rq0.cells rq0.slots) := by
  refine MetFree.of_bodySF (plainFor_of_name pn_java_lang_StringUTF16) hisR ?_
  intro p e s m args below meth c s₁ Bd hml0 hP hK
  obtain ⟨rfl, hZ, hh⟩ := hP
  have hx := Bd.exec
  have hby := Bd.bytes
  have hml : c.maxLocals = 2 := hml0
  have hown : s.vm.findClass "java/lang/StringUTF16" = some m.cls := findClass_of_methodNamed Bd.named
  have hnm := (name_of_methodNamed Bd.named Bd.method).1
  have X0 : Stand p l e rq0 s m #[(.ref a1), (.int i)] below meth c s₁ [] 0 0 := Stand.of_body Bd
  have e0 : s₁.heap = h0 := by rw [← hh, Bd.state]; rfl
  have N0 := Fr.nil n0
  refine own_fw (A' := (s₁.setTop (mkF m 0 #[.val (.ref a1), .val (.int i)] []))) (fun t k => castTop (ef_rmGet m a1 i) k) ?_
  obtain ⟨T1, X1, e1, st1⟩ := getS2 X0 hx hZ hown (host := "") (Or.inl (own_w hw 54 rfl)) Via.refl e0 P1 (g := (mkF m 0 #[rv a1, iv i] [])) rfl (hb hby d14_0)
  refine own_fw (A' := (T1.setTop (mkF m 37 #[rv a1, iv ((i <<< ((1 : Int32) &&& 31)) + (1 : Int32))] [.int (i <<< ((1 : Int32) &&& 31)), .ref a1]))) (fun t k => st1 _ (XS.ifYes X1.here hx rfl (pc0 := 3) (pc' := 28) rfl (hb hby d14_3) rfl (XT.i0_ne_t (by decide)) (by decide) (by decide) (XS.iloadN X1.here hx rfl (hb hby d14_28) rfl (XS.iconst X1.here hx rfl (hb hby d14_29) (XS.ishl X1.here hx rfl (hb hby d14_30) rfl (XS.istoreN X1.here hx rfl (hb hby d14_31) rfl (l' := #[rv a1, iv (i <<< ((1 : Int32) &&& 31))]) rfl (XS.aloadN X1.here hx rfl (hb hby d14_32) rfl rfl (XS.iloadN X1.here hx rfl (hb hby d14_33) rfl (XS.iinc X1.here hx rfl (hb hby d14_34) rfl (l' := #[rv a1, iv ((i <<< ((1 : Int32) &&& 31)) + (1 : Int32))]) rfl k))))))))) ?_
  obtain ⟨cl2, Ar2, q2, S2, M2, H2, G2⟩ := id P0
  have hin2 : ¬ ((i <<< ((1 : Int32) &&& 31)) < 0 ∨ cl2.slots.size ≤ ((i <<< ((1 : Int32) &&& 31))).toNatClampNeg) := inb_of S2 (own_j0 hf hi0 hi1)
  have hat2 : cl2.slots[((i <<< ((1 : Int32) &&& 31))).toNatClampNeg]? = some (.int (own_lo (own_at ds i))) := H2.at hin2 (own_k0 hf hi0 hi1)
  refine own_fw (A' := (T1.setTop (mkF m 42 #[rv a1, iv ((i <<< ((1 : Int32) &&& 31)) + (1 : Int32))] [.int ((own_lo (own_at ds i)) &&& (255 : Int32))]))) (fun t k => X1.baloadBytes hx (j := (i <<< ((1 : Int32) &&& 31))) (v := (.int (own_lo (own_at ds i)))) (by rw [e1]; exact Ar2.1) (State.isArrayOf_alike hZ.alike Ar2.2.1) Ar2.2.2 hin2 hat2 (g := (mkF m 37 #[rv a1, iv ((i <<< ((1 : Int32) &&& 31)) + (1 : Int32))] [.int (i <<< ((1 : Int32) &&& 31)), .ref a1])) rfl rfl (hb hby d14_37) _ (XS.sipush X1.here hx rfl (hb hby d14_38) (XS.iand X1.here hx rfl (hb hby d14_41) rfl k))) ?_
  obtain ⟨T3, X3, e3, st3⟩ := getS2 X1 hx hZ hown (host := "") (Or.inl (own_w hw 55 rfl)) Via.refl e1 P2 (g := (mkF m 42 #[rv a1, iv ((i <<< ((1 : Int32) &&& 31)) + (1 : Int32))] [.int ((own_lo (own_at ds i)) &&& (255 : Int32))])) rfl (hb hby d14_42)
  refine own_fw (A' := (T3.setTop (mkF m 48 #[rv a1, iv ((i <<< ((1 : Int32) &&& 31)) + (1 : Int32))] [.int ((i <<< ((1 : Int32) &&& 31)) + (1 : Int32)), .ref a1, .int (((own_lo (own_at ds i)) &&& (255 : Int32)) <<< ((0 : Int32) &&& 31))]))) (fun t k => st3 _ (XS.ishl X3.here hx rfl (hb hby d14_45) rfl (XS.aloadN X3.here hx rfl (hb hby d14_46) rfl rfl (XS.iloadN X3.here hx rfl (hb hby d14_47) rfl k)))) ?_
  obtain ⟨cl4, Ar4, q4, S4, M4, H4, G4⟩ := id P0
  have hin4 : ¬ (((i <<< ((1 : Int32) &&& 31)) + (1 : Int32)) < 0 ∨ cl4.slots.size ≤ (((i <<< ((1 : Int32) &&& 31)) + (1 : Int32))).toNatClampNeg) := inb_of S4 (own_j1 hf hi0 hi1)
  have hat4 : cl4.slots[(((i <<< ((1 : Int32) &&& 31)) + (1 : Int32))).toNatClampNeg]? = some (.int (own_hb (own_at ds i))) := H4.at hin4 (own_k1 hf hi0 hi1)
  refine own_fw (A' := (T3.setTop (mkF m 53 #[rv a1, iv ((i <<< ((1 : Int32) &&& 31)) + (1 : Int32))] [.int ((own_hb (own_at ds i)) &&& (255 : Int32)), .int (((own_lo (own_at ds i)) &&& (255 : Int32)) <<< ((0 : Int32) &&& 31))]))) (fun t k => X3.baloadBytes hx (j := ((i <<< ((1 : Int32) &&& 31)) + (1 : Int32))) (v := (.int (own_hb (own_at ds i)))) (by rw [e3]; exact Ar4.1) (State.isArrayOf_alike hZ.alike Ar4.2.1) Ar4.2.2 hin4 hat4 (g := (mkF m 48 #[rv a1, iv ((i <<< ((1 : Int32) &&& 31)) + (1 : Int32))] [.int ((i <<< ((1 : Int32) &&& 31)) + (1 : Int32)), .ref a1, .int (((own_lo (own_at ds i)) &&& (255 : Int32)) <<< ((0 : Int32) &&& 31))])) rfl rfl (hb hby d14_48) _ (XS.sipush X3.here hx rfl (hb hby d14_49) (XS.iand X3.here hx rfl (hb hby d14_52) rfl k))) ?_
  obtain ⟨T5, X5, e5, st5⟩ := getS2 X3 hx hZ hown (host := "") (Or.inl (own_w hw 56 rfl)) Via.refl e3 P3 (g := (mkF m 53 #[rv a1, iv ((i <<< ((1 : Int32) &&& 31)) + (1 : Int32))] [.int ((own_hb (own_at ds i)) &&& (255 : Int32)), .int (((own_lo (own_at ds i)) &&& (255 : Int32)) <<< ((0 : Int32) &&& 31))])) rfl (hb hby d14_53)
  refine own_fw (A' := (T5.setTop (mkF m 59 #[rv a1, iv ((i <<< ((1 : Int32) &&& 31)) + (1 : Int32))] [.int (((((own_lo (own_at ds i)) &&& (255 : Int32)) <<< ((0 : Int32) &&& 31)) ||| (((own_hb (own_at ds i)) &&& (255 : Int32)) <<< ((8 : Int32) &&& 31))).toUInt32.toUInt16.toUInt32.toInt32)]))) (fun t k => st5 _ (XS.ishl X5.here hx rfl (hb hby d14_56) rfl (XS.ior X5.here hx rfl (hb hby d14_57) rfl (XS.i2c X5.here hx rfl (hb hby d14_58) rfl k)))) ?_
  obtain ⟨fs, hr, hrun, hended, hW, hsame⟩ := X5.leave (v := some (.int (((((own_lo (own_at ds i)) &&& (255 : Int32)) <<< ((0 : Int32) &&& 31)) ||| (((own_hb (own_at ds i)) &&& (255 : Int32)) <<< ((8 : Int32) &&& 31))).toUInt32.toUInt16.toUInt32.toInt32))) (fun h => by rw [Bd.returns] at h; cases h)
  refine ⟨_, _, ?_, hrun, hended, _, _, rfl, ?_, ⟨_, rfl⟩, hW, hsame.mono (by decide) (by decide)⟩
  · exact retOut X5 hx Bd.returns (XT.narrow_c _) (Or.inl ⟨rfl, by simp, _, rfl⟩) (hb hby d14_59) hr
  · show Q_rmGet Z a1 kb ds i h0 n0 _ T5.heap _
    rw [e5]
    exact ⟨(congrArg (fun z => some (Value.int z)) (own_gcv hf hi0 hi1)), N0, rfl⟩
theorem d9_0 : decode jdk_52_method_21_code 0 = .ok (.iconst 0, 1) := by decide +kernel
theorem d9_1 : decode jdk_52_method_21_code 1 = .ok (.istore 5, 2) := by decide +kernel
theorem d9_3 : decode jdk_52_method_21_code 3 = .ok (.iload 5, 2) := by decide +kernel
theorem d9_5 : decode jdk_52_method_21_code 5 = .ok (.iload 4, 2) := by decide +kernel
theorem d9_7 : decode jdk_52_method_21_code 7 = .ok (.if_icmp .ge 37, 3) := by decide +kernel
theorem d9_10 : decode jdk_52_method_21_code 10 = .ok (.aload_n 0, 1) := by decide +kernel
theorem d9_11 : decode jdk_52_method_21_code 11 = .ok (.iload_n 1, 1) := by decide +kernel
theorem d9_12 : decode jdk_52_method_21_code 12 = .ok (.caload, 1) := by decide +kernel
theorem d9_13 : decode jdk_52_method_21_code 13 = .ok (.istore 6, 2) := by decide +kernel
theorem d9_15 : decode jdk_52_method_21_code 15 = .ok (.iload 6, 2) := by decide +kernel
theorem d9_17 : decode jdk_52_method_21_code 17 = .ok (.sipush 255, 3) := by decide +kernel
theorem d9_20 : decode jdk_52_method_21_code 20 = .ok (.if_icmp .le 6, 3) := by decide +kernel
theorem d9_26 : decode jdk_52_method_21_code 26 = .ok (.aload_n 2, 1) := by decide +kernel
theorem d9_27 : decode jdk_52_method_21_code 27 = .ok (.iload_n 3, 1) := by decide +kernel
theorem d9_28 : decode jdk_52_method_21_code 28 = .ok (.iload 6, 2) := by decide +kernel
theorem d9_30 : decode jdk_52_method_21_code 30 = .ok (.i2b, 1) := by decide +kernel
theorem d9_31 : decode jdk_52_method_21_code 31 = .ok (.bastore, 1) := by decide +kernel
theorem d9_32 : decode jdk_52_method_21_code 32 = .ok (.iinc 1 1, 3) := by decide +kernel
theorem d9_35 : decode jdk_52_method_21_code 35 = .ok (.iinc 3 1, 3) := by decide +kernel
theorem d9_38 : decode jdk_52_method_21_code 38 = .ok (.iinc 5 1, 3) := by decide +kernel
theorem d9_41 : decode jdk_52_method_21_code 41 = .ok (.goto (-38), 3) := by decide +kernel
theorem d9_44 : decode jdk_52_method_21_code 44 = .ok (.iload 4, 2) := by decide +kernel
theorem d9_46 : decode jdk_52_method_21_code 46 = .ok (.ireturn, 1) := by decide +kernel
theorem ef_rmCmpA1 (m : MethodId) (a1 a3 : Addr) : entryFrame m #[(.ref a1), (.int 0), (.ref a3), (.int 0), (.int 1)] 7 = mkF m 0 #[.val (.ref a1), .val (.int 0), .val (.ref a3), .val (.int 0), .val (.int 1), .unset, .unset] [] := by first | (simp [entryFrame, mkF, argsToLocals, Value.category]; done) | rfl
def Q_rmCmpA1 (Z : State) (a1 a3 : Addr) (kc kb : ClassId) (c0 : Int32) (h0 : Heap) (n0 : Nat) (v : Option Value) (h : Heap) (L : List Loc) : Prop := v = some (.int 1) ∧ Fr n0 L ∧ Keep h0 h [a3] ∧ Arv Z h a3 kb .byte (1 : Int32) [(.int (c0.toInt8.toInt32))] (.int 0)
theorem rmCmpA1 (l : Launch) (Z : State) (a0 : Array Value) (hw : ∀ d ∈ tables_1, d.before a0 Z = true) (ws : List Jvm.Cond) (a1 a3 : Addr) (kc kb : ClassId) (c0 : Int32) (h0 : Heap) (n0 : Nat) (Z0 : n0 ≤ h0.size) (P0 : Arv Z h0 a1 kc .char (1 : Int32) [(.int c0)] (.int 0)) (P1 : Arv Z h0 a3 kb .byte (1 : Int32) [(.int 0)] (.int 0)) (g_a3 : n0 ≤ a3) (ne_a1_a3 : a1 ≠ a3) (hc0 : ¬ ((255 : Int32) < c0)) :
    MetFree l yq2 (head1 (Jvm.Cond.code yq2 jdk_52_method_21_code 7 (some .int) :: ws) rq0) (fun a U => a = #[(.ref a1), (.int 0), (.ref a3), (.int 0), (.int 1)] ∧ Z.Warmed39 U.vm ∧ U.heap = h0) (fun _ _ _ _ _ => True) (fun _ U o U' => ∃ v L, o = .returned v ∧ Q_rmCmpA1 Z a1 a3 kc kb c0 h0 n0 v U'.heap L ∧ FrameEnd U o U' L rq0.cells rq0.slots) := by
  refine MetFree.of_bodySF (plainFor_of_name pn_java_lang_StringUTF16) hisR ?_
  intro p e s m args below meth c s₁ Bd hml0 hP hK
  obtain ⟨rfl, hZ, hh⟩ := hP
  have hx := Bd.exec
  have hby := Bd.bytes
  have hml : c.maxLocals = 7 := hml0
  have hown : s.vm.findClass "java/lang/StringUTF16" = some m.cls := findClass_of_methodNamed Bd.named
  have hnm := (name_of_methodNamed Bd.named Bd.method).1
  have X0 : Stand p l e rq0 s m #[(.ref a1), (.int 0), (.ref a3), (.int 0), (.int 1)] below meth c s₁ [] 0 0 := Stand.of_body Bd
  have e0 : s₁.heap = h0 := by rw [← hh, Bd.state]; rfl
  have N0 := Fr.nil n0
  refine own_fw (A' := (s₁.setTop (mkF m 12 #[rv a1, iv 0, rv a3, iv 0, iv 1, iv 0, .unset] [.int 0, .ref a1]))) (fun t k => castTop (ef_rmCmpA1 m a1 a3) (XS.iconst X0.here hx rfl (hb hby d9_0) (XS.istore X0.here hx rfl (hb hby d9_1) rfl (l' := #[rv a1, iv 0, rv a3, iv 0, iv 1, iv 0, .unset]) rfl (XS.iload X0.here hx rfl (hb hby d9_3) rfl (XS.iload X0.here hx rfl (hb hby d9_5) rfl (XS.icmpNo X0.here hx rfl (hb hby d9_7) rfl (XT.ii_ge_f (by decide)) (XS.aloadN X0.here hx rfl (hb hby d9_10) rfl rfl (XS.iloadN X0.here hx rfl (hb hby d9_11) rfl k)))))))) ?_
  obtain ⟨cl1, Ar1, q1, S1, M1, H1, G1⟩ := id P0
  have hin1 : ¬ ((0 : Int32) < 0 ∨ cl1.slots.size ≤ ((0 : Int32)).toNatClampNeg) := inb_of S1 ⟨by decide, by decide⟩
  have hat1 : cl1.slots[((0 : Int32)).toNatClampNeg]? = some (.int c0) := H1.at hin1 rfl
  refine own_fw (A' := (s₁.setTop (mkF m 31 #[rv a1, iv 0, rv a3, iv 0, iv 1, iv 0, iv c0] [.int (c0.toInt8.toInt32), .int 0, .ref a3]))) (fun t k => X0.caload hx (j := (0 : Int32)) (v := (.int c0)) (by rw [e0]; exact Ar1.1) (State.isArrayOf_alike hZ.alike Ar1.2.1) Ar1.2.2 hin1 hat1 (g := (mkF m 12 #[rv a1, iv 0, rv a3, iv 0, iv 1, iv 0, .unset] [.int 0, .ref a1])) rfl rfl (hb hby d9_12) _ (XS.istore X0.here hx rfl (hb hby d9_13) rfl (l' := #[rv a1, iv 0, rv a3, iv 0, iv 1, iv 0, iv c0]) rfl (XS.iload X0.here hx rfl (hb hby d9_15) rfl (XS.sipush X0.here hx rfl (hb hby d9_17) (XS.icmpYes X0.here hx rfl (pc0 := 20) (pc' := 26) rfl (hb hby d9_20) rfl (XT.ii_le_t hc0) (by decide) (by decide) (XS.aloadN X0.here hx rfl (hb hby d9_26) rfl rfl (XS.iloadN X0.here hx rfl (hb hby d9_27) rfl (XS.iload X0.here hx rfl (hb hby d9_28) rfl (XS.i2b X0.here hx rfl (hb hby d9_30) rfl k))))))))) ?_
  obtain ⟨cl2, Ar2, q2, S2, M2, H2, G2⟩ := id P1
  have hin2 : ¬ ((0 : Int32) < 0 ∨ cl2.slots.size ≤ ((0 : Int32)).toNatClampNeg) := inb_of S2 ⟨by decide, by decide⟩
  obtain ⟨T2, h2, X2, e2, W2, st2⟩ := stB X0 hx hZ e0 Ar2 (j := (0 : Int32)) hin2 (g := (mkF m 31 #[rv a1, iv 0, rv a3, iv 0, iv 1, iv 0, iv c0] [.int (c0.toInt8.toInt32), .int 0, .ref a3])) rfl rfl (hb hby d9_31)
  rw [own_narB] at W2
  have V2 : Arv Z h2 a3 kb .byte (1 : Int32) [(.int (c0.toInt8.toInt32))] (.int 0) := Arv.set Ar2 q2 S2 M2 H2 G2 (fits_nar_byte _) W2 0 rfl (Nat.le_of_ble_eq_true rfl)
  have Nf2 := Fr.snoc X2 N0 g_a3
  have K2 : Keep h0 h2 [a3] := (Keep.refl h0 [a3]).wr W2 (Or.inl (List.mem_of_getElem? (i := 0) rfl))
  have Z2 : n0 ≤ h2.size := Nat.le_trans Z0 (Keep.of_wr W2).1
  refine own_fw (A' := (T2.setTop (mkF m 46 #[rv a1, iv 1, rv a3, iv 1, iv 1, iv 1, iv c0] [.int 1]))) (fun t k => st2 _ (XS.iinc X2.here hx rfl (hb hby d9_32) rfl (l' := #[rv a1, iv 1, rv a3, iv 0, iv 1, iv 0, iv c0]) rfl (XS.iinc X2.here hx rfl (hb hby d9_35) rfl (l' := #[rv a1, iv 1, rv a3, iv 1, iv 1, iv 0, iv c0]) rfl (XS.iinc X2.here hx rfl (hb hby d9_38) rfl (l' := #[rv a1, iv 1, rv a3, iv 1, iv 1, iv 1, iv c0]) rfl (XS.goto X2.here hx rfl (pc0 := 41) (pc' := 3) rfl (hb hby d9_41) (by decide) (by decide) (XS.iload X2.here hx rfl (hb hby d9_3) rfl (XS.iload X2.here hx rfl (hb hby d9_5) rfl (XS.icmpYes X2.here hx rfl (pc0 := 7) (pc' := 44) rfl (hb hby d9_7) rfl (XT.ii_ge_t (by decide)) (by decide) (by decide) (XS.iload X2.here hx rfl (hb hby d9_44) rfl k))))))))) ?_
  obtain ⟨fs, hr, hrun, hended, hW, hsame⟩ := X2.leave (v := some (.int 1)) (fun h => by rw [Bd.returns] at h; cases h)
  refine ⟨_, _, ?_, hrun, hended, _, _, rfl, ?_, ⟨_, rfl⟩, hW, hsame.mono (by decide) (by decide)⟩
  · exact retOut X2 hx Bd.returns rfl (Or.inl ⟨rfl, by simp, _, rfl⟩) (hb hby d9_46) hr
  · show Q_rmCmpA1 Z a1 a3 kc kb c0 h0 n0 _ T2.heap _
    rw [e2]
    exact ⟨rfl, Nf2, K2, V2⟩
theorem d8_0 : decode jdk_52_method_16_code 0 = .ok (.iload_n 2, 1) := by decide +kernel
theorem d8_1 : decode jdk_52_method_16_code 1 = .ok (.newarray .byte, 2) := by decide +kernel
theorem d8_3 : decode jdk_52_method_16_code 3 = .ok (.astore_n 3, 1) := by decide +kernel
theorem d8_4 : decode jdk_52_method_16_code 4 = .ok (.aload_n 0, 1) := by decide +kernel
theorem d8_5 : decode jdk_52_method_16_code 5 = .ok (.iload_n 1, 1) := by decide +kernel
theorem d8_6 : decode jdk_52_method_16_code 6 = .ok (.aload_n 3, 1) := by decide +kernel
theorem d8_7 : decode jdk_52_method_16_code 7 = .ok (.iconst 0, 1) := by decide +kernel
theorem d8_8 : decode jdk_52_method_16_code 8 = .ok (.iload_n 2, 1) := by decide +kernel
theorem d8_9 : decode jdk_52_method_16_code 9 = .ok (.invokestatic 115, 3) := by decide +kernel
theorem pd___CI_BII_I : parseMethodDescriptor "([CI[BII)I" = some ⟨[(.array .char), .int, (.array .byte), .int, .int], some .int⟩ := by decide +kernel
theorem d8_12 : decode jdk_52_method_16_code 12 = .ok (.istore 4, 2) := by decide +kernel
theorem d8_14 : decode jdk_52_method_16_code 14 = .ok (.iload 4, 2) := by decide +kernel
theorem d8_16 : decode jdk_52_method_16_code 16 = .ok (.iload_n 2, 1) := by decide +kernel
theorem d8_17 : decode jdk_52_method_16_code 17 = .ok (.if_icmp .eq 40, 3) := by decide +kernel
theorem d8_57 : decode jdk_52_method_16_code 57 = .ok (.aload_n 3, 1) := by decide +kernel
theorem d8_58 : decode jdk_52_method_16_code 58 = .ok (.areturn, 1) := by decide +kernel
theorem ef_rmCmpB1 (m : MethodId) (a1 : Addr) : entryFrame m #[(.ref a1), (.int 0), (.int 1)] 6 = mkF m 0 #[.val (.ref a1), .val (.int 0), .val (.int 1), .unset, .unset, .unset] [] := by first | (simp [entryFrame, mkF, argsToLocals, Value.category]; done) | rfl
def Q_rmCmpB1 (Z : State) (a1 : Addr) (kc : ClassId) (c0 : Int32) (h0 : Heap) (n0 : Nat) (v : Option Value) (h : Heap) (L : List Loc) : Prop := ∃ b : Addr, ∃ kb : ClassId, v = some (.ref b) ∧ Fr n0 L ∧ Keep h0 h [] ∧ Arv Z h b kb .byte (1 : Int32) [(.int (c0.toInt8.toInt32))] (.int 0) ∧ (h0.size ≤ b)
theorem rmCmpB1 (l : Launch) (Z : State) (a0 : Array Value) (hw : ∀ d ∈ tables_1, d.before a0 Z = true) (ws : List Jvm.Cond) (a1 : Addr) (kc : ClassId) (c0 : Int32) (h0 : Heap) (n0 : Nat) (Z0 : n0 ≤ h0.size) (P0 : Arv Z h0 a1 kc .char (1 : Int32) [(.int c0)] (.int 0)) (hc0 : ¬ ((255 : Int32) < c0)) :
    MetFree l yq4 (head1 (Jvm.Cond.code yq4 jdk_52_method_16_code 6 (some (.array .byte)) :: ws) rq3) (fun a U => a = #[(.ref a1), (.int 0), (.int 1)] ∧ Z.Warmed39 U.vm ∧ U.heap = h0) (fun _ _ _ _ _ => True) (fun _ U o U' => ∃ v L, o = .returned v ∧ Q_rmCmpB1 Z a1 kc c0 h0 n0 v U'.heap L ∧ FrameEnd U o U' L rq3.cells rq3.slots) := by
  refine MetFree.of_bodySF (plainFor_of_name pn_java_lang_StringUTF16) hisR ?_
  intro p e s m args below meth c s₁ Bd hml0 hP hK
  obtain ⟨rfl, hZ, hh⟩ := hP
  have hx := Bd.exec
  have hby := Bd.bytes
  have hml : c.maxLocals = 6 := hml0
  have hown : s.vm.findClass "java/lang/StringUTF16" = some m.cls := findClass_of_methodNamed Bd.named
  have hnm := (name_of_methodNamed Bd.named Bd.method).1
  have X0 : Stand p l e rq3 s m #[(.ref a1), (.int 0), (.int 1)] below meth c s₁ [] 0 0 := Stand.of_body Bd
  have e0 : s₁.heap = h0 := by rw [← hh, Bd.state]; rfl
  have N0 := Fr.nil n0
  refine own_fw (A' := (s₁.setTop (mkF m 1 #[rv a1, iv 0, iv 1, .unset, .unset, .unset] [.int 1]))) (fun t k => castTop (ef_rmCmpB1 m a1) (XS.iloadN X0.here hx rfl (hb hby d8_0) rfl k)) ?_
  obtain ⟨T1, h1, k1, X1, e1, E1, A1, st1⟩ := newP X0 hx hZ (own_w hw 37 rfl) e0 (g := (mkF m 1 #[rv a1, iv 0, iv 1, .unset, .unset, .unset] [.int 1])) rfl (hb hby d8_1) rfl (by decide) (cap := 1) (by decide) (by decide) (by decide) (by decide)
  obtain ⟨b1, gb1⟩ : ∃ z, z = h0.size := ⟨_, rfl⟩
  have g_b1 : n0 ≤ b1 := Nat.le_trans Z0 (Nat.le_of_eq gb1.symm)
  have sz_b1 : h0.size ≤ b1 := Nat.le_trans (Keep.refl h0 []).1 (Nat.le_of_eq gb1.symm)
  have ne_a1_b1 : a1 ≠ b1 := Nat.ne_of_lt (Nat.lt_of_lt_of_le P0.lt (Nat.le_of_eq gb1.symm))
  rw [← gb1] at A1 st1
  have V_b1 : Arv Z h1 b1 k1 .byte (1 : Int32) [(.int 0)] (.int 0) := (Arv.new A1 (by decide)).pad (pad_rep [] (.int 0) 1)
  have K1 : Keep h0 h1 [] := (Keep.refl h0 []).ext E1
  have Z1 : n0 ≤ h1.size := Nat.le_trans Z0 E1.1
  refine own_fw (A' := (T1.setTop (mkF m 9 #[rv a1, iv 0, iv 1, rv b1, .unset, .unset] [.int 1, .int 0, .ref b1, .int 0, .ref a1]))) (fun t k => st1 _ (XS.astoreN X1.here hx rfl (hb hby d8_3) rfl rfl (l' := #[rv a1, iv 0, iv 1, rv b1, .unset, .unset]) rfl (XS.aloadN X1.here hx rfl (hb hby d8_4) rfl rfl (XS.iloadN X1.here hx rfl (hb hby d8_5) rfl (XS.aloadN X1.here hx rfl (hb hby d8_6) rfl rfl (XS.iconst X1.here hx rfl (hb hby d8_7) (XS.iloadN X1.here hx rfl (hb hby d8_8) rfl k))))))) ?_
  obtain ⟨_, _, ⟨T2, L2, k2, n2⟩, -, X2, ⟨Lc2, hQ2, l2, y2, z2⟩, st2⟩ := Jvm.LawKit.callS X1 hx (y := yq2) hown (mvT hZ (own_w hw 38 rfl)) (mvT hZ (own_w hw 39 rfl)) (mvT hZ (own_w hw 35 rfl)) (mvT hZ (own_w hw 40 rfl)) (by decide) (backOf (W := 0) (rmCmpA1 l Z a0 hw [] a1 b1 kc k1 c0 h1 n0 Z1 (P0.ext E1) V_b1 g_b1 ne_a1_b1 hc0) hZ (own_w hw 40 rfl) (own_w hw 35 rfl) (by decide) (by decide)) (g := (mkF m 9 #[rv a1, iv 0, iv 1, rv b1, .unset, .unset] [.int 1, .int 0, .ref b1, .int 0, .ref a1])) rfl (by rw [hml]; rfl) (argsL := [(.ref a1), (.int 0), (.ref b1), (.int 0), (.int 1)]) (rest := []) (lenOf pd___CI_BII_I rfl) rfl (by show 2 * 0 + _ ≤ _; exact Nat.le_of_eq rfl) (hb hby d8_9) (fun _ _ => ⟨rfl, e1, (by decide : 1 + 0 ≤ _), (by decide : 1 + 0 ≤ _)⟩)
  dsimp only [Pt.U, Pt.locs, Pt.cells, Pt.slots] at X2 l2 y2 z2 st2 hQ2
  subst l2 y2 z2
  obtain ⟨rfl, Nq2, Kq2, Fq2_0⟩ := hQ2
  have Nf2 := Fr.app N0 Nq2
  have K2 : Keep h0 T2.heap [] := K1.trans Kq2 (allS (Or.inr sz_b1) all0)
  have Z2 : n0 ≤ T2.heap.size := Nat.le_trans Z1 Kq2.1
  refine own_fw (A' := (T2.setTop (mkF m 58 #[rv a1, iv 0, iv 1, rv b1, iv 1, .unset] [.ref b1]))) (fun t k => st2 _ (XS.istore X2.here hx rfl (hb hby d8_12) rfl (l' := #[rv a1, iv 0, iv 1, rv b1, iv 1, .unset]) rfl (XS.iload X2.here hx rfl (hb hby d8_14) rfl (XS.iloadN X2.here hx rfl (hb hby d8_16) rfl (XS.icmpYes X2.here hx rfl (pc0 := 17) (pc' := 57) rfl (hb hby d8_17) rfl (XT.ii_eq_t rfl) (by decide) (by decide) (XS.aloadN X2.here hx rfl (hb hby d8_57) rfl rfl k)))))) ?_
  obtain ⟨fs, hr, hrun, hended, hW, hsame⟩ := X2.leave (v := some (.ref b1)) (fun h => by rw [Bd.returns] at h; cases h)
  refine ⟨_, _, ?_, hrun, hended, _, _, rfl, ?_, ⟨_, rfl⟩, hW, hsame.mono (by decide) (by decide)⟩
  · exact retOut X2 hx Bd.returns rfl (Or.inr (Or.inr (Or.inr (Or.inr ⟨rfl, rfl, rfl⟩)))) (hb hby d8_58) hr
  · show Q_rmCmpB1 Z a1 kc c0 h0 n0 _ T2.heap _
    exact ⟨b1, k1, rfl, Nf2, K2, Fq2_0, sz_b1⟩
theorem d15_0 : decode jdk_52_method_15_code 0 = .ok (.iload_n 1, 1) := by decide +kernel
theorem d15_1 : decode jdk_52_method_15_code 1 = .ok (.aload_n 0, 1) := by decide +kernel
theorem d15_2 : decode jdk_52_method_15_code 2 = .ok (.arraylength, 1) := by decide +kernel
theorem d15_3 : decode jdk_52_method_15_code 3 = .ok (.isub, 1) := by decide +kernel
theorem d15_4 : decode jdk_52_method_15_code 4 = .ok (.bipush 31, 2) := by decide +kernel
theorem d15_6 : decode jdk_52_method_15_code 6 = .ok (.iushr, 1) := by decide +kernel
theorem d15_7 : decode jdk_52_method_15_code 7 = .ok (.i2b, 1) := by decide +kernel
theorem d15_8 : decode jdk_52_method_15_code 8 = .ok (.ireturn, 1) := by decide +kernel
theorem ef_rmCoder1 (m : MethodId) (a1 : Addr) : entryFrame m #[(.ref a1), (.int 1)] 2 = mkF m 0 #[.val (.ref a1), .val (.int 1)] [] := by first | (simp [entryFrame, mkF, argsToLocals, Value.category]; done) | rfl
def Q_rmCoder1 (Z : State) (a1 : Addr) (kb : ClassId) (c0 : Int32) (h0 : Heap) (n0 : Nat) (v : Option Value) (h : Heap) (L : List Loc) : Prop := v = some (.int 0) ∧ Fr n0 L ∧ h = h0
theorem rmCoder1 (l : Launch) (Z : State) (a0 : Array Value) (hw : ∀ d ∈ tables_1, d.before a0 Z = true) (ws : List Jvm.Cond) (a1 : Addr) (kb : ClassId) (c0 : Int32) (h0 : Heap) (n0 : Nat) (Z0 : n0 ≤ h0.size) (P0 : Arv Z h0 a1 kb .byte (1 : Int32) [(.int c0)] (.int 0)) :
    MetFree l yq5 (head1 (Jvm.Cond.code yq5 jdk_52_method_15_code 2 (some .byte) :: ws) rq0) (fun a U => a = #[(.ref a1), (.int 1)] ∧ Z.Warmed39 U.vm ∧ U.heap = h0) (fun _ _ _ _ _ => True) (fun _ U o U' => ∃ v L, o = .returned v ∧ Q_rmCoder1 Z a1 kb c0 h0 n0 v U'.heap L ∧ FrameEnd U o U' L rq0.cells rq0.slots) := by
  refine MetFree.of_bodySF (plainFor_of_name pn_java_lang_StringUTF16) hisR ?_
  intro p e s m args below meth c s₁ Bd hml0 hP hK
  obtain ⟨rfl, hZ, hh⟩ := hP
  have hx := Bd.exec
  have hby := Bd.bytes
  have hml : c.maxLocals = 2 := hml0
  have hown : s.vm.findClass "java/lang/StringUTF16" = some m.cls := findClass_of_methodNamed Bd.named
  have hnm := (name_of_methodNamed Bd.named Bd.method).1
  have X0 : Stand p l e rq0 s m #[(.ref a1), (.int 1)] below meth c s₁ [] 0 0 := Stand.of_body Bd
  have e0 : s₁.heap = h0 := by rw [← hh, Bd.state]; rfl
  have N0 := Fr.nil n0
  refine own_fw (A' := (s₁.setTop (mkF m 2 #[rv a1, iv 1] [.ref a1, .int 1]))) (fun t k => castTop (ef_rmCoder1 m a1) (XS.iloadN X0.here hx rfl (hb hby d15_0) rfl (XS.aloadN X0.here hx rfl (hb hby d15_1) rfl rfl k))) ?_
  obtain ⟨cl1, Ar1, q1, S1, M1, H1, G1⟩ := id P0
  refine own_fw (A' := (s₁.setTop (mkF m 3 #[rv a1, iv 1] [.int 1, .int 1]))) (fun t k => X0.arraylength hx (by rw [e0]; exact Ar1.1) (State.isArrayOf_alike hZ.alike Ar1.2.1) (g := (mkF m 2 #[rv a1, iv 1] [.ref a1, .int 1])) rfl rfl (hb hby d15_2) _ (by rw [len_of S1 M1]; exact k)) ?_
  refine own_fw (A' := (s₁.setTop (mkF m 8 #[rv a1, iv 1] [.int 0]))) (fun t k => XS.isub X0.here hx rfl (hb hby d15_3) rfl (XS.bipush X0.here hx rfl (hb hby d15_4) (XS.iushr X0.here hx rfl (hb hby d15_6) rfl (XS.i2b X0.here hx rfl (hb hby d15_7) rfl k)))) ?_
  obtain ⟨fs, hr, hrun, hended, hW, hsame⟩ := X0.leave (v := some (.int 0)) (fun h => by rw [Bd.returns] at h; cases h)
  refine ⟨_, _, ?_, hrun, hended, _, _, rfl, ?_, ⟨_, rfl⟩, hW, hsame.mono (by decide) (by decide)⟩
  · exact retOut X0 hx Bd.returns rfl (Or.inl ⟨rfl, by simp, _, rfl⟩) (hb hby d15_8) hr
  · show Q_rmCoder1 Z a1 kb c0 h0 n0 _ s₁.heap _
    rw [e0]
    exact ⟨rfl, N0, rfl⟩
theorem pn_java_lang_String : plainName "java/lang/String" = true := by first | (simp [plainName, overriddenIn]; done) | decide +kernel
theorem d6_0 : decode jdk_42_method_149_code 0 = .ok (.aload_n 0, 1) := by decide +kernel
theorem d6_1 : decode jdk_42_method_149_code 1 = .ok (.invokespecial 1, 3) := by decide +kernel
theorem d6_4 : decode jdk_42_method_149_code 4 = .ok (.iload_n 3, 1) := by decide +kernel
theorem d6_5 : decode jdk_42_method_149_code 5 = .ok (.ifCond .ne 22, 3) := by decide +kernel
theorem d6_27 : decode jdk_42_method_149_code 27 = .ok (.getstatic 38, 3) := by decide +kernel
theorem d6_30 : decode jdk_42_method_149_code 30 = .ok (.ifCond .eq 28, 3) := by decide +kernel
theorem d6_33 : decode jdk_42_method_149_code 33 = .ok (.aload_n 1, 1) := by decide +kernel
theorem d6_34 : decode jdk_42_method_149_code 34 = .ok (.iload_n 2, 1) := by decide +kernel
theorem d6_35 : decode jdk_42_method_149_code 35 = .ok (.iload_n 3, 1) := by decide +kernel
theorem d6_36 : decode jdk_42_method_149_code 36 = .ok (.invokestatic 177, 3) := by decide +kernel
theorem pd___CII__B : parseMethodDescriptor "([CII)[B" = some ⟨[(.array .char), .int, .int], some (.array .byte)⟩ := by decide +kernel
theorem d6_39 : decode jdk_42_method_149_code 39 = .ok (.astore 5, 2) := by decide +kernel
theorem d6_41 : decode jdk_42_method_149_code 41 = .ok (.aload_n 0, 1) := by decide +kernel
theorem d6_42 : decode jdk_42_method_149_code 42 = .ok (.aload 5, 2) := by decide +kernel
theorem d6_44 : decode jdk_42_method_149_code 44 = .ok (.iload_n 3, 1) := by decide +kernel
theorem d6_45 : decode jdk_42_method_149_code 45 = .ok (.invokestatic 47, 3) := by decide +kernel
theorem pd___BI_B : parseMethodDescriptor "([BI)B" = some ⟨[(.array .byte), .int], some .byte⟩ := by decide +kernel
theorem d6_48 : decode jdk_42_method_149_code 48 = .ok (.putfield 15, 3) := by decide +kernel
theorem d6_51 : decode jdk_42_method_149_code 51 = .ok (.aload_n 0, 1) := by decide +kernel
theorem d6_52 : decode jdk_42_method_149_code 52 = .ok (.aload 5, 2) := by decide +kernel
theorem d6_54 : decode jdk_42_method_149_code 54 = .ok (.putfield 9, 3) := by decide +kernel
theorem d6_57 : decode jdk_42_method_149_code 57 = .ok (.return_, 1) := by decide +kernel
theorem ef_rmStrB1 (m : MethodId) (a1 a2 : Addr) : entryFrame m #[(.ref a1), (.ref a2), (.int 0), (.int 1), .null] 6 = mkF m 0 #[.val (.ref a1), .val (.ref a2), .val (.int 0), .val (.int 1), .val .null, .unset] [] := by first | (simp [entryFrame, mkF, argsToLocals, Value.category]; done) | rfl
def Q_rmStrB1 (Z : State) (a1 a2 : Addr) (kc : ClassId) (cs c0 : Int32) (h0 : Heap) (n0 : Nat) (v : Option Value) (h : Heap) (L : List Loc) : Prop := ∃ b : Addr, ∃ kb : ClassId, v = none ∧ Fr n0 L ∧ Keep h0 h [a1] ∧ Exa Z h a1 "java/lang/String" ∧ Fld Z h a1 "java/lang/String" "coder" "B" (.int 0) ∧ Fld Z h a1 "java/lang/String" "value" "[B" (.ref b) ∧ Arv Z h b kb .byte (1 : Int32) [(.int (c0.toInt8.toInt32))] (.int 0)
theorem rmStrB1 (l : Launch) (Z : State) (a0 : Array Value) (hw : ∀ d ∈ tables_1, d.before a0 Z = true) (ws : List Jvm.Cond) (a1 a2 : Addr) (kc : ClassId) (cs c0 : Int32) (h0 : Heap) (n0 : Nat) (Z0 : n0 ≤ h0.size) (P0 : Exa Z h0 a1 "java/lang/String") (P1 : Fld Z h0 a1 "java/lang/String" "coder" "B" (.int 0)) (P2 : Fld Z h0 a1 "java/lang/String" "value" "[B" .null) (P3 : Arv Z h0 a2 kc .char (1 : Int32) [(.int c0)] (.int 0)) (g_a1 : n0 ≤ a1) (ne_a1_a2 : a1 ≠ a2) (P6 : Sta Z h0 "java/lang/String" "COMPACT_STRINGS" "Z" (.int cs)) (hcs : ¬ (cs = (0 : Int32))) (hc0 : ¬ ((255 : Int32) < c0)) :
    MetFree l yq7 (head1 (Jvm.Cond.code yq7 jdk_42_method_149_code 6 none :: ws) rq6) (fun a U => a = #[(.ref a1), (.ref a2), (.int 0), (.int 1), .null] ∧ Z.Warmed39 U.vm ∧ U.heap = h0) (fun _ _ _ _ _ => True) (fun _ U o U' => ∃ v L, o = .returned v ∧ Q_rmStrB1 Z a1 a2 kc cs c0 h0 n0 v U'.heap L ∧ FrameEnd U o U' L rq6.cells rq6.slots) := by
  refine MetFree.of_bodySF (plainFor_of_name pn_java_lang_String) hisR ?_
  intro p e s m args below meth c s₁ Bd hml0 hP hK
  obtain ⟨rfl, hZ, hh⟩ := hP
  have hx := Bd.exec
  have hby := Bd.bytes
  have hml : c.maxLocals = 6 := hml0
  have hown : s.vm.findClass "java/lang/String" = some m.cls := findClass_of_methodNamed Bd.named
  have hnm := (name_of_methodNamed Bd.named Bd.method).1
  have X0 : Stand p l e rq6 s m #[(.ref a1), (.ref a2), (.int 0), (.int 1), .null] below meth c s₁ [] 0 0 := Stand.of_body Bd
  have e0 : s₁.heap = h0 := by rw [← hh, Bd.state]; rfl
  have N0 := Fr.nil n0
  refine own_fw (A' := (s₁.setTop (mkF m 1 #[rv a1, rv a2, iv 0, iv 1, .val (.null), .unset] [.ref a1]))) (fun t k => castTop (ef_rmStrB1 m a1 a2) (XS.aloadN X0.here hx rfl (hb hby d6_0) rfl rfl k)) ?_
  obtain ⟨T1, X1, e1, st1⟩ := initO X0 hx hZ hown (own_w hw 29 rfl) (own_w hw 30 rfl) (own_w hw 31 rfl) e0 (g := (mkF m 1 #[rv a1, rv a2, iv 0, iv 1, .val (.null), .unset] [.ref a1])) rfl (by rw [hml]; rfl) rfl (hb hby d6_1) (by decide) (W := 0) (by show 2 * 0 + _ ≤ _; exact Nat.le_of_eq rfl) (by decide)
  refine own_fw (A' := (T1.setTop (mkF m 27 #[rv a1, rv a2, iv 0, iv 1, .val (.null), .unset] []))) (fun t k => st1 _ (XS.iloadN X1.here hx rfl (hb hby d6_4) rfl (XS.ifYes X1.here hx rfl (pc0 := 5) (pc' := 27) rfl (hb hby d6_5) rfl (XT.i0_ne_t (by decide)) (by decide) (by decide) k))) ?_
  obtain ⟨T2, X2, e2, st2⟩ := getS2 X1 hx hZ hown (host := "") (Or.inl (own_w hw 32 rfl)) Via.refl e1 P6 (g := (mkF m 27 #[rv a1, rv a2, iv 0, iv 1, .val (.null), .unset] [])) rfl (hb hby d6_27)
  refine own_fw (A' := (T2.setTop (mkF m 36 #[rv a1, rv a2, iv 0, iv 1, .val (.null), .unset] [.int 1, .int 0, .ref a2]))) (fun t k => st2 _ (XS.ifNo X2.here hx rfl (hb hby d6_30) rfl (XT.i0_eq_f hcs) (XS.aloadN X2.here hx rfl (hb hby d6_33) rfl rfl (XS.iloadN X2.here hx rfl (hb hby d6_34) rfl (XS.iloadN X2.here hx rfl (hb hby d6_35) rfl k))))) ?_
  obtain ⟨_, _, ⟨T3, L3, k3, n3⟩, -, X3, ⟨Lc3, hQ3, l3, y3, z3⟩, st3⟩ := Jvm.LawKit.callS X2 hx (y := yq4) hown (mvT hZ (own_w hw 33 rfl)) (mvT hZ (own_w hw 34 rfl)) (mvT hZ (own_w hw 35 rfl)) (mvT hZ (own_w hw 36 rfl)) (by decide) (backOf (W := 0) (rmCmpB1 l Z a0 hw [] a2 kc c0 h0 n0 Z0 P3 hc0) hZ (own_w hw 36 rfl) (own_w hw 35 rfl) (by decide) (by decide)) (g := (mkF m 36 #[rv a1, rv a2, iv 0, iv 1, .val (.null), .unset] [.int 1, .int 0, .ref a2])) rfl (by rw [hml]; rfl) (argsL := [(.ref a2), (.int 0), (.int 1)]) (rest := []) (lenOf pd___CII__B rfl) rfl (by show 2 * 0 + _ ≤ _; exact Nat.le_of_eq rfl) (hb hby d6_36) (fun _ _ => ⟨rfl, e2, (by decide : 0 + 1 ≤ _), (by decide : 0 + 1 ≤ _)⟩)
  dsimp only [Pt.U, Pt.locs, Pt.cells, Pt.slots] at X3 l3 y3 z3 st3 hQ3
  subst l3 y3 z3
  obtain ⟨b_3, kb_3, rfl, Nq3, Kq3, Fq3_0, gb_3⟩ := hQ3
  have Nf3 := Fr.app N0 Nq3
  have K3 : Keep h0 T3.heap [a1] := (Keep.refl h0 [a1]).trans Kq3 all0
  have sz_b_3 : h0.size ≤ b_3 := Nat.le_trans (Keep.refl h0 [a1]).1 gb_3
  have g_b_3 : n0 ≤ b_3 := Nat.le_trans Z0 gb_3
  have ne_a1_b_3 : a1 ≠ b_3 := Nat.ne_of_lt (Nat.lt_of_lt_of_le P0.lt gb_3)
  have ne_a2_b_3 : a2 ≠ b_3 := Nat.ne_of_lt (Nat.lt_of_lt_of_le P3.lt gb_3)
  have Z3 : n0 ≤ T3.heap.size := Nat.le_trans Z0 Kq3.1
  refine own_fw (A' := (T3.setTop (mkF m 45 #[rv a1, rv a2, iv 0, iv 1, .val (.null), rv b_3] [.int 1, .ref b_3, .ref a1]))) (fun t k => st3 _ (XS.astore X3.here hx rfl (hb hby d6_39) rfl rfl (l' := #[rv a1, rv a2, iv 0, iv 1, .val (.null), rv b_3]) rfl (XS.aloadN X3.here hx rfl (hb hby d6_41) rfl rfl (XS.aload X3.here hx rfl (hb hby d6_42) rfl rfl (XS.iloadN X3.here hx rfl (hb hby d6_44) rfl k))))) ?_
  obtain ⟨_, _, ⟨T4, L4, k4, n4⟩, -, X4, ⟨Lc4, hQ4, l4, y4, z4⟩, st4⟩ := Jvm.LawKit.callS X3 hx (y := yq5) hown (mvT hZ (own_w hw 60 rfl)) (mvT hZ (own_w hw 61 rfl)) (mvT hZ (own_w hw 35 rfl)) (mvT hZ (own_w hw 62 rfl)) (by decide) (backOf (W := 1) (rmCoder1 l Z a0 hw [] b_3 kb_3 (c0.toInt8.toInt32) T3.heap n0 Z3 Fq3_0) hZ (own_w hw 62 rfl) (own_w hw 35 rfl) (by decide) (by decide)) (g := (mkF m 45 #[rv a1, rv a2, iv 0, iv 1, .val (.null), rv b_3] [.int 1, .ref b_3, .ref a1])) rfl (by rw [hml]; rfl) (argsL := [(.ref b_3), (.int 1)]) (rest := [(.ref a1)]) (lenOf pd___BI_B rfl) rfl (by show 2 * 0 + _ ≤ _; exact Nat.le_of_eq rfl) (hb hby d6_45) (fun _ _ => ⟨rfl, rfl, (by decide : 1 + 0 ≤ _), (by decide : 1 + 0 ≤ _)⟩)
  dsimp only [Pt.U, Pt.locs, Pt.cells, Pt.slots] at X4 l4 y4 z4 st4 hQ4
  subst l4 y4 z4
  obtain ⟨rfl, Nq4, e4⟩ := hQ4
  have Nf4 := Fr.app Nf3 Nq4
  refine own_fw (A' := (T4.setTop (mkF m 48 #[rv a1, rv a2, iv 0, iv 1, .val (.null), rv b_3] [.int 0, .ref a1]))) (fun t k => st4 _ k) ?_
  obtain ⟨T5, h5, X5, e5, W5, st5⟩ := putFN X4 hx hZ hown (own_w hw 63 rfl) Via.refl e4 (P1.keep Kq3 nin0) (P0.keep Kq3) (Or.inr ⟨(own_w hw 64 rfl), rfl, hnm⟩) (own_w hw 20 rfl) (ty := .byte) (v' := (.int 0)) (by decide) rfl rfl (g := (mkF m 48 #[rv a1, rv a2, iv 0, iv 1, .val (.null), rv b_3] [.int 0, .ref a1])) rfl rfl (hb hby d6_48)
  have Fw5 : Fld Z h5 a1 "java/lang/String" "coder" "B" (.int 0) := (P1.keep Kq3 nin0).same W5
  have Nf5 := Fr.snoc X5 Nf4 g_a1
  have K5 : Keep h0 h5 [a1] := K3.wr W5 (Or.inl (List.mem_of_getElem? (i := 0) rfl))
  have Z5 : n0 ≤ h5.size := Nat.le_trans Z3 (Keep.of_wr W5).1
  refine own_fw (A' := (T5.setTop (mkF m 54 #[rv a1, rv a2, iv 0, iv 1, .val (.null), rv b_3] [.ref b_3, .ref a1]))) (fun t k => st5 _ (XS.aloadN X5.here hx rfl (hb hby d6_51) rfl rfl (XS.aload X5.here hx rfl (hb hby d6_52) rfl rfl k))) ?_
  obtain ⟨T6, h6, X6, e6, W6, st6⟩ := putF X5 hx hZ hown (host := "") (Or.inl (own_w hw 65 rfl)) Via.refl e5 ((P2.keep Kq3 nin0).other W5 (Or.inr (slot_ne (Or.inr (own_w hw 66 rfl)) (Or.inr (own_w hw 64 rfl)) (by decide) (t := (.array .byte)) (t' := .byte) (by decide) (by decide)))) ((P0.keep Kq3).wr W5) (Or.inr ⟨(own_w hw 66 rfl), rfl, hnm⟩) (own_w hw 20 rfl) (ty := (.array .byte)) (by decide) rfl rfl (g := (mkF m 54 #[rv a1, rv a2, iv 0, iv 1, .val (.null), rv b_3] [.ref b_3, .ref a1])) rfl rfl (hb hby d6_54)
  have Fw6 : Fld Z h6 a1 "java/lang/String" "value" "[B" (.ref b_3) := ((P2.keep Kq3 nin0).other W5 (Or.inr (slot_ne (Or.inr (own_w hw 66 rfl)) (Or.inr (own_w hw 64 rfl)) (by decide) (t := (.array .byte)) (t' := .byte) (by decide) (by decide)))).same W6
  have Nf6 := Fr.snoc X6 Nf5 g_a1
  have K6 : Keep h0 h6 [a1] := K5.wr W6 (Or.inl (List.mem_of_getElem? (i := 0) rfl))
  have Z6 : n0 ≤ h6.size := Nat.le_trans Z5 (Keep.of_wr W6).1
  refine own_fw (A' := (T6.setTop (mkF m 57 #[rv a1, rv a2, iv 0, iv 1, .val (.null), rv b_3] []))) (fun t k => st6 _ k) ?_
  obtain ⟨fs, hr, hrun, hended, hW, hsame⟩ := X6.leave (v := none) (fun _ => rfl)
  refine ⟨_, _, ?_, hrun, hended, _, _, rfl, ?_, ⟨_, rfl⟩, hW, hsame.mono (by decide) (by decide)⟩
  · exact X6.returnOut hx Bd.returns (hb hby d6_57) hr
  · show Q_rmStrB1 Z a1 a2 kc cs c0 h0 n0 _ T6.heap _
    rw [e6]
    exact ⟨b_3, kb_3, rfl, Nf6, K6, (((P0.keep Kq3).wr W5).wr W6), (Fw5.other W6 (Or.inr (slot_ne (Or.inr (own_w hw 64 rfl)) (Or.inr (own_w hw 66 rfl)) (by decide) (t := .byte) (t' := (.array .byte)) (by decide) (by decide)))), Fw6, ((Fq3_0.other W5 (Ne.symm ne_a1_b_3)).other W6 (Ne.symm ne_a1_b_3))⟩
theorem d5_0 : decode jdk_42_method_3_code 0 = .ok (.aload_n 0, 1) := by decide +kernel
theorem d5_1 : decode jdk_42_method_3_code 1 = .ok (.aload_n 1, 1) := by decide +kernel
theorem d5_2 : decode jdk_42_method_3_code 2 = .ok (.iconst 0, 1) := by decide +kernel
theorem d5_3 : decode jdk_42_method_3_code 3 = .ok (.aload_n 1, 1) := by decide +kernel
theorem d5_4 : decode jdk_42_method_3_code 4 = .ok (.arraylength, 1) := by decide +kernel
theorem d5_5 : decode jdk_42_method_3_code 5 = .ok (.aconst_null, 1) := by decide +kernel
theorem d5_6 : decode jdk_42_method_3_code 6 = .ok (.invokespecial 27, 3) := by decide +kernel
theorem pd___CIILjava_lang_Void__V : parseMethodDescriptor "([CIILjava/lang/Void;)V" = some ⟨[(.array .char), .int, .int, (.object "java/lang/Void")], none⟩ := by decide +kernel
theorem d5_9 : decode jdk_42_method_3_code 9 = .ok (.return_, 1) := by decide +kernel
theorem ef_rmStrA1 (m : MethodId) (a1 a2 : Addr) : entryFrame m #[(.ref a1), (.ref a2)] 2 = mkF m 0 #[.val (.ref a1), .val (.ref a2)] [] := by first | (simp [entryFrame, mkF, argsToLocals, Value.category]; done) | rfl
def Q_rmStrA1 (Z : State) (a1 a2 : Addr) (kc : ClassId) (cs c0 : Int32) (h0 : Heap) (n0 : Nat) (v : Option Value) (h : Heap) (L : List Loc) : Prop := ∃ b : Addr, ∃ kb : ClassId, v = none ∧ Fr n0 L ∧ Keep h0 h [a1] ∧ Exa Z h a1 "java/lang/String" ∧ Fld Z h a1 "java/lang/String" "coder" "B" (.int 0) ∧ Fld Z h a1 "java/lang/String" "value" "[B" (.ref b) ∧ Arv Z h b kb .byte (1 : Int32) [(.int (c0.toInt8.toInt32))] (.int 0)
theorem rmStrA1 (l : Launch) (Z : State) (a0 : Array Value) (hw : ∀ d ∈ tables_1, d.before a0 Z = true) (ws : List Jvm.Cond) (a1 a2 : Addr) (kc : ClassId) (cs c0 : Int32) (h0 : Heap) (n0 : Nat) (Z0 : n0 ≤ h0.size) (P0 : Exa Z h0 a1 "java/lang/String") (P1 : Fld Z h0 a1 "java/lang/String" "coder" "B" (.int 0)) (P2 : Fld Z h0 a1 "java/lang/String" "value" "[B" .null) (P3 : Arv Z h0 a2 kc .char (1 : Int32) [(.int c0)] (.int 0)) (g_a1 : n0 ≤ a1) (ne_a1_a2 : a1 ≠ a2) (P6 : Sta Z h0 "java/lang/String" "COMPACT_STRINGS" "Z" (.int cs)) (hcs : ¬ (cs = (0 : Int32))) (hc0 : ¬ ((255 : Int32) < c0)) :
    MetFree l yq9 (head1 (Jvm.Cond.code yq9 jdk_42_method_3_code 2 none :: ws) rq8) (fun a U => a = #[(.ref a1), (.ref a2)] ∧ Z.Warmed39 U.vm ∧ U.heap = h0) (fun _ _ _ _ _ => True) (fun _ U o U' => ∃ v L, o = .returned v ∧ Q_rmStrA1 Z a1 a2 kc cs c0 h0 n0 v U'.heap L ∧ FrameEnd U o U' L rq8.cells rq8.slots) := by
  refine MetFree.of_bodySF (plainFor_of_name pn_java_lang_String) hisR ?_
  intro p e s m args below meth c s₁ Bd hml0 hP hK
  obtain ⟨rfl, hZ, hh⟩ := hP
  have hx := Bd.exec
  have hby := Bd.bytes
  have hml : c.maxLocals = 2 := hml0
  have hown : s.vm.findClass "java/lang/String" = some m.cls := findClass_of_methodNamed Bd.named
  have hnm := (name_of_methodNamed Bd.named Bd.method).1
  have X0 : Stand p l e rq8 s m #[(.ref a1), (.ref a2)] below meth c s₁ [] 0 0 := Stand.of_body Bd
  have e0 : s₁.heap = h0 := by rw [← hh, Bd.state]; rfl
  have N0 := Fr.nil n0
  refine own_fw (A' := (s₁.setTop (mkF m 4 #[rv a1, rv a2] [.ref a2, .int 0, .ref a2, .ref a1]))) (fun t k => castTop (ef_rmStrA1 m a1 a2) (XS.aloadN X0.here hx rfl (hb hby d5_0) rfl rfl (XS.aloadN X0.here hx rfl (hb hby d5_1) rfl rfl (XS.iconst X0.here hx rfl (hb hby d5_2) (XS.aloadN X0.here hx rfl (hb hby d5_3) rfl rfl k))))) ?_
  obtain ⟨cl1, Ar1, q1, S1, M1, H1, G1⟩ := id P3
  refine own_fw (A' := (s₁.setTop (mkF m 5 #[rv a1, rv a2] [.int 1, .int 0, .ref a2, .ref a1]))) (fun t k => X0.arraylength hx (by rw [e0]; exact Ar1.1) (State.isArrayOf_alike hZ.alike Ar1.2.1) (g := (mkF m 4 #[rv a1, rv a2] [.ref a2, .int 0, .ref a2, .ref a1])) rfl rfl (hb hby d5_4) _ (by rw [len_of S1 M1]; exact k)) ?_
  refine own_fw (A' := (s₁.setTop (mkF m 6 #[rv a1, rv a2] [.null, .int 1, .int 0, .ref a2, .ref a1]))) (fun t k => XS.aconstNull X0.here hx rfl (hb hby d5_5) k) ?_
  obtain ⟨_, _, ⟨T2, L2, k2, n2⟩, -, X2, ⟨Lc2, hQ2, l2, y2, z2⟩, st2⟩ := X0.specialBack hx (y := yq7) rfl hown (mvT hZ (own_w hw 25 rfl)) (mvT hZ (own_w hw 26 rfl)) (mvT hZ (own_w hw 28 rfl)) (by decide) (backOf (W := 0) (rmStrB1 l Z a0 hw [] a1 a2 kc cs c0 h0 n0 Z0 P0 P1 P2 P3 g_a1 ne_a1_a2 P6 hcs hc0) hZ (own_w hw 28 rfl) (own_w hw 21 rfl) (by decide) (by decide)) (g := (mkF m 6 #[rv a1, rv a2] [.null, .int 1, .int 0, .ref a2, .ref a1])) rfl (by rw [hml]; rfl) (Steps.refl _) (a := a1) (argsL := [(.ref a2), (.int 0), (.int 1), .null]) (rest := []) (lenOf pd___CIILjava_lang_Void__V rfl) rfl (by show 2 * 0 + _ ≤ _; exact Nat.le_of_eq rfl) (hb hby d5_6) (fun _ _ => ⟨rfl, e0, (by decide : 0 + 1 ≤ _), (by decide : 0 + 1 ≤ _)⟩)
  dsimp only [Pt.U, Pt.locs, Pt.cells, Pt.slots] at X2 l2 y2 z2 st2 hQ2
  subst l2 y2 z2
  obtain ⟨b_2, kb_2, rfl, Nq2, Kq2, Fq2_0, Fq2_1, Fq2_2, Fq2_3⟩ := hQ2
  have Nf2 := Fr.app N0 Nq2
  have K2 : Keep h0 T2.heap [a1] := (Keep.refl h0 [a1]).trans Kq2 (allS (Or.inl (List.mem_of_getElem? (i := 0) rfl)) all0)
  have Z2 : n0 ≤ T2.heap.size := Nat.le_trans Z0 Kq2.1
  refine own_fw (A' := (T2.setTop (mkF m 9 #[rv a1, rv a2] []))) (fun t k => st2.trans k) ?_
  obtain ⟨fs, hr, hrun, hended, hW, hsame⟩ := X2.leave (v := none) (fun _ => rfl)
  refine ⟨_, _, ?_, hrun, hended, _, _, rfl, ?_, ⟨_, rfl⟩, hW, hsame.mono (by decide) (by decide)⟩
  · exact X2.returnOut hx Bd.returns (hb hby d5_9) hr
  · show Q_rmStrA1 Z a1 a2 kc cs c0 h0 n0 _ T2.heap _
    exact ⟨b_2, kb_2, rfl, Nf2, K2, Fq2_0, Fq2_1, Fq2_2, Fq2_3⟩
theorem ef_rmCmpA2 (m : MethodId) (a1 a3 : Addr) : entryFrame m #[(.ref a1), (.int 0), (.ref a3), (.int 0), (.int 2)] 7 = mkF m 0 #[.val (.ref a1), .val (.int 0), .val (.ref a3), .val (.int 0), .val (.int 2), .unset, .unset] [] := by first | (simp [entryFrame, mkF, argsToLocals, Value.category]; done) | rfl
def Q_rmCmpA2 (Z : State) (a1 a3 : Addr) (kc kb : ClassId) (c0 c1 : Int32) (h0 : Heap) (n0 : Nat) (v : Option Value) (h : Heap) (L : List Loc) : Prop := v = some (.int 2) ∧ Fr n0 L ∧ Keep h0 h [a3] ∧ Arv Z h a3 kb .byte (2 : Int32) [(.int (c0.toInt8.toInt32)), (.int (c1.toInt8.toInt32))] (.int 0)
theorem rmCmpA2 (l : Launch) (Z : State) (a0 : Array Value) (hw : ∀ d ∈ tables_1, d.before a0 Z = true) (ws : List Jvm.Cond) (a1 a3 : Addr) (kc kb : ClassId) (c0 c1 : Int32) (h0 : Heap) (n0 : Nat) (Z0 : n0 ≤ h0.size) (P0 : Arv Z h0 a1 kc .char (2 : Int32) [(.int c0), (.int c1)] (.int 0)) (P1 : Arv Z h0 a3 kb .byte (2 : Int32) [(.int 0), (.int 0)] (.int 0)) (g_a3 : n0 ≤ a3) (ne_a1_a3 : a1 ≠ a3) (hc0 : ¬ ((255 : Int32) < c0)) (hc1 : ¬ ((255 : Int32) < c1)) :
    MetFree l yq2 (head1 (Jvm.Cond.code yq2 jdk_52_method_21_code 7 (some .int) :: ws) rq0) (fun a U => a = #[(.ref a1), (.int 0), (.ref a3), (.int 0), (.int 2)] ∧ Z.Warmed39 U.vm ∧ U.heap = h0) (fun _ _ _ _ _ => True) (fun _ U o U' => ∃ v L, o = .returned v ∧ Q_rmCmpA2 Z a1 a3 kc kb c0 c1 h0 n0 v U'.heap L ∧ FrameEnd U o U' L rq0.cells rq0.slots) := by
  refine MetFree.of_bodySF (plainFor_of_name pn_java_lang_StringUTF16) hisR ?_
  intro p e s m args below meth c s₁ Bd hml0 hP hK
  obtain ⟨rfl, hZ, hh⟩ := hP
  have hx := Bd.exec
  have hby := Bd.bytes
  have hml : c.maxLocals = 7 := hml0
  have hown : s.vm.findClass "java/lang/StringUTF16" = some m.cls := findClass_of_methodNamed Bd.named
  have hnm := (name_of_methodNamed Bd.named Bd.method).1
  have X0 : Stand p l e rq0 s m #[(.ref a1), (.int 0), (.ref a3), (.int 0), (.int 2)] below meth c s₁ [] 0 0 := Stand.of_body Bd
  have e0 : s₁.heap = h0 := by rw [← hh, Bd.state]; rfl
  have N0 := Fr.nil n0
  refine own_fw (A' := (s₁.setTop (mkF m 12 #[rv a1, iv 0, rv a3, iv 0, iv 2, iv 0, .unset] [.int 0, .ref a1]))) (fun t k => castTop (ef_rmCmpA2 m a1 a3) (XS.iconst X0.here hx rfl (hb hby d9_0) (XS.istore X0.here hx rfl (hb hby d9_1) rfl (l' := #[rv a1, iv 0, rv a3, iv 0, iv 2, iv 0, .unset]) rfl (XS.iload X0.here hx rfl (hb hby d9_3) rfl (XS.iload X0.here hx rfl (hb hby d9_5) rfl (XS.icmpNo X0.here hx rfl (hb hby d9_7) rfl (XT.ii_ge_f (by decide)) (XS.aloadN X0.here hx rfl (hb hby d9_10) rfl rfl (XS.iloadN X0.here hx rfl (hb hby d9_11) rfl k)))))))) ?_
  obtain ⟨cl1, Ar1, q1, S1, M1, H1, G1⟩ := id P0
  have hin1 : ¬ ((0 : Int32) < 0 ∨ cl1.slots.size ≤ ((0 : Int32)).toNatClampNeg) := inb_of S1 ⟨by decide, by decide⟩
  have hat1 : cl1.slots[((0 : Int32)).toNatClampNeg]? = some (.int c0) := H1.at hin1 rfl
  refine own_fw (A' := (s₁.setTop (mkF m 31 #[rv a1, iv 0, rv a3, iv 0, iv 2, iv 0, iv c0] [.int (c0.toInt8.toInt32), .int 0, .ref a3]))) (fun t k => X0.caload hx (j := (0 : Int32)) (v := (.int c0)) (by rw [e0]; exact Ar1.1) (State.isArrayOf_alike hZ.alike Ar1.2.1) Ar1.2.2 hin1 hat1 (g := (mkF m 12 #[rv a1, iv 0, rv a3, iv 0, iv 2, iv 0, .unset] [.int 0, .ref a1])) rfl rfl (hb hby d9_12) _ (XS.istore X0.here hx rfl (hb hby d9_13) rfl (l' := #[rv a1, iv 0, rv a3, iv 0, iv 2, iv 0, iv c0]) rfl (XS.iload X0.here hx rfl (hb hby d9_15) rfl (XS.sipush X0.here hx rfl (hb hby d9_17) (XS.icmpYes X0.here hx rfl (pc0 := 20) (pc' := 26) rfl (hb hby d9_20) rfl (XT.ii_le_t hc0) (by decide) (by decide) (XS.aloadN X0.here hx rfl (hb hby d9_26) rfl rfl (XS.iloadN X0.here hx rfl (hb hby d9_27) rfl (XS.iload X0.here hx rfl (hb hby d9_28) rfl (XS.i2b X0.here hx rfl (hb hby d9_30) rfl k))))))))) ?_
  obtain ⟨cl2, Ar2, q2, S2, M2, H2, G2⟩ := id P1
  have hin2 : ¬ ((0 : Int32) < 0 ∨ cl2.slots.size ≤ ((0 : Int32)).toNatClampNeg) := inb_of S2 ⟨by decide, by decide⟩
  obtain ⟨T2, h2, X2, e2, W2, st2⟩ := stB X0 hx hZ e0 Ar2 (j := (0 : Int32)) hin2 (g := (mkF m 31 #[rv a1, iv 0, rv a3, iv 0, iv 2, iv 0, iv c0] [.int (c0.toInt8.toInt32), .int 0, .ref a3])) rfl rfl (hb hby d9_31)
  rw [own_narB] at W2
  have V2 : Arv Z h2 a3 kb .byte (2 : Int32) [(.int (c0.toInt8.toInt32)), (.int 0)] (.int 0) := Arv.set Ar2 q2 S2 M2 H2 G2 (fits_nar_byte _) W2 0 rfl (Nat.le_of_ble_eq_true rfl)
  have Nf2 := Fr.snoc X2 N0 g_a3
  have K2 : Keep h0 h2 [a3] := (Keep.refl h0 [a3]).wr W2 (Or.inl (List.mem_of_getElem? (i := 0) rfl))
  have Z2 : n0 ≤ h2.size := Nat.le_trans Z0 (Keep.of_wr W2).1
  refine own_fw (A' := (T2.setTop (mkF m 12 #[rv a1, iv 1, rv a3, iv 1, iv 2, iv 1, iv c0] [.int 1, .ref a1]))) (fun t k => st2 _ (XS.iinc X2.here hx rfl (hb hby d9_32) rfl (l' := #[rv a1, iv 1, rv a3, iv 0, iv 2, iv 0, iv c0]) rfl (XS.iinc X2.here hx rfl (hb hby d9_35) rfl (l' := #[rv a1, iv 1, rv a3, iv 1, iv 2, iv 0, iv c0]) rfl (XS.iinc X2.here hx rfl (hb hby d9_38) rfl (l' := #[rv a1, iv 1, rv a3, iv 1, iv 2, iv 1, iv c0]) rfl (XS.goto X2.here hx rfl (pc0 := 41) (pc' := 3) rfl (hb hby d9_41) (by decide) (by decide) (XS.iload X2.here hx rfl (hb hby d9_3) rfl (XS.iload X2.here hx rfl (hb hby d9_5) rfl (XS.icmpNo X2.here hx rfl (hb hby d9_7) rfl (XT.ii_ge_f (by decide)) (XS.aloadN X2.here hx rfl (hb hby d9_10) rfl rfl (XS.iloadN X2.here hx rfl (hb hby d9_11) rfl k)))))))))) ?_
  obtain ⟨cl3, Ar3, q3, S3, M3, H3, G3⟩ := id (P0.other W2 ne_a1_a3)
  have hin3 : ¬ ((1 : Int32) < 0 ∨ cl3.slots.size ≤ ((1 : Int32)).toNatClampNeg) := inb_of S3 ⟨by decide, by decide⟩
  have hat3 : cl3.slots[((1 : Int32)).toNatClampNeg]? = some (.int c1) := H3.at hin3 rfl
  refine own_fw (A' := (T2.setTop (mkF m 31 #[rv a1, iv 1, rv a3, iv 1, iv 2, iv 1, iv c1] [.int (c1.toInt8.toInt32), .int 1, .ref a3]))) (fun t k => X2.caload hx (j := (1 : Int32)) (v := (.int c1)) (by rw [e2]; exact Ar3.1) (State.isArrayOf_alike hZ.alike Ar3.2.1) Ar3.2.2 hin3 hat3 (g := (mkF m 12 #[rv a1, iv 1, rv a3, iv 1, iv 2, iv 1, iv c0] [.int 1, .ref a1])) rfl rfl (hb hby d9_12) _ (XS.istore X2.here hx rfl (hb hby d9_13) rfl (l' := #[rv a1, iv 1, rv a3, iv 1, iv 2, iv 1, iv c1]) rfl (XS.iload X2.here hx rfl (hb hby d9_15) rfl (XS.sipush X2.here hx rfl (hb hby d9_17) (XS.icmpYes X2.here hx rfl (pc0 := 20) (pc' := 26) rfl (hb hby d9_20) rfl (XT.ii_le_t hc1) (by decide) (by decide) (XS.aloadN X2.here hx rfl (hb hby d9_26) rfl rfl (XS.iloadN X2.here hx rfl (hb hby d9_27) rfl (XS.iload X2.here hx rfl (hb hby d9_28) rfl (XS.i2b X2.here hx rfl (hb hby d9_30) rfl k))))))))) ?_
  obtain ⟨cl4, Ar4, q4, S4, M4, H4, G4⟩ := id V2
  have hin4 : ¬ ((1 : Int32) < 0 ∨ cl4.slots.size ≤ ((1 : Int32)).toNatClampNeg) := inb_of S4 ⟨by decide, by decide⟩
  obtain ⟨T4, h4, X4, e4, W4, st4⟩ := stB X2 hx hZ e2 Ar4 (j := (1 : Int32)) hin4 (g := (mkF m 31 #[rv a1, iv 1, rv a3, iv 1, iv 2, iv 1, iv c1] [.int (c1.toInt8.toInt32), .int 1, .ref a3])) rfl rfl (hb hby d9_31)
  rw [own_narB] at W4
  have V4 : Arv Z h4 a3 kb .byte (2 : Int32) [(.int (c0.toInt8.toInt32)), (.int (c1.toInt8.toInt32))] (.int 0) := Arv.set Ar4 q4 S4 M4 H4 G4 (fits_nar_byte _) W4 1 rfl (Nat.le_of_ble_eq_true rfl)
  have Nf4 := Fr.snoc X4 Nf2 g_a3
  have K4 : Keep h0 h4 [a3] := K2.wr W4 (Or.inl (List.mem_of_getElem? (i := 0) rfl))
  have Z4 : n0 ≤ h4.size := Nat.le_trans Z2 (Keep.of_wr W4).1
  refine own_fw (A' := (T4.setTop (mkF m 46 #[rv a1, iv 2, rv a3, iv 2, iv 2, iv 2, iv c1] [.int 2]))) (fun t k => st4 _ (XS.iinc X4.here hx rfl (hb hby d9_32) rfl (l' := #[rv a1, iv 2, rv a3, iv 1, iv 2, iv 1, iv c1]) rfl (XS.iinc X4.here hx rfl (hb hby d9_35) rfl (l' := #[rv a1, iv 2, rv a3, iv 2, iv 2, iv 1, iv c1]) rfl (XS.iinc X4.here hx rfl (hb hby d9_38) rfl (l' := #[rv a1, iv 2, rv a3, iv 2, iv 2, iv 2, iv c1]) rfl (XS.goto X4.here hx rfl (pc0 := 41) (pc' := 3) rfl (hb hby d9_41) (by decide) (by decide) (XS.iload X4.here hx rfl (hb hby d9_3) rfl (XS.iload X4.here hx rfl (hb hby d9_5) rfl (XS.icmpYes X4.here hx rfl (pc0 := 7) (pc' := 44) rfl (hb hby d9_7) rfl (XT.ii_ge_t (by decide)) (by decide) (by decide) (XS.iload X4.here hx rfl (hb hby d9_44) rfl k))))))))) ?_
  obtain ⟨fs, hr, hrun, hended, hW, hsame⟩ := X4.leave (v := some (.int 2)) (fun h => by rw [Bd.returns] at h; cases h)
  refine ⟨_, _, ?_, hrun, hended, _, _, rfl, ?_, ⟨_, rfl⟩, hW, hsame.mono (by decide) (by decide)⟩
  · exact retOut X4 hx Bd.returns rfl (Or.inl ⟨rfl, by simp, _, rfl⟩) (hb hby d9_46) hr
  · show Q_rmCmpA2 Z a1 a3 kc kb c0 c1 h0 n0 _ T4.heap _
    rw [e4]
    exact ⟨rfl, Nf4, K4, V4⟩
theorem ef_rmCmpB2 (m : MethodId) (a1 : Addr) : entryFrame m #[(.ref a1), (.int 0), (.int 2)] 6 = mkF m 0 #[.val (.ref a1), .val (.int 0), .val (.int 2), .unset, .unset, .unset] [] := by first | (simp [entryFrame, mkF, argsToLocals, Value.category]; done) | rfl
def Q_rmCmpB2 (Z : State) (a1 : Addr) (kc : ClassId) (c0 c1 : Int32) (h0 : Heap) (n0 : Nat) (v : Option Value) (h : Heap) (L : List Loc) : Prop := ∃ b : Addr, ∃ kb : ClassId, v = some (.ref b) ∧ Fr n0 L ∧ Keep h0 h [] ∧ Arv Z h b kb .byte (2 : Int32) [(.int (c0.toInt8.toInt32)), (.int (c1.toInt8.toInt32))] (.int 0) ∧ (h0.size ≤ b)
theorem rmCmpB2 (l : Launch) (Z : State) (a0 : Array Value) (hw : ∀ d ∈ tables_1, d.before a0 Z = true) (ws : List Jvm.Cond) (a1 : Addr) (kc : ClassId) (c0 c1 : Int32) (h0 : Heap) (n0 : Nat) (Z0 : n0 ≤ h0.size) (P0 : Arv Z h0 a1 kc .char (2 : Int32) [(.int c0), (.int c1)] (.int 0)) (hc0 : ¬ ((255 : Int32) < c0)) (hc1 : ¬ ((255 : Int32) < c1)) :
    MetFree l yq4 (head1 (Jvm.Cond.code yq4 jdk_52_method_16_code 6 (some (.array .byte)) :: ws) rq10) (fun a U => a = #[(.ref a1), (.int 0), (.int 2)] ∧ Z.Warmed39 U.vm ∧ U.heap = h0) (fun _ _ _ _ _ => True) (fun _ U o U' => ∃ v L, o = .returned v ∧ Q_rmCmpB2 Z a1 kc c0 c1 h0 n0 v U'.heap L ∧ FrameEnd U o U' L rq10.cells rq10.slots) := by
  refine MetFree.of_bodySF (plainFor_of_name pn_java_lang_StringUTF16) hisR ?_
  intro p e s m args below meth c s₁ Bd hml0 hP hK
  obtain ⟨rfl, hZ, hh⟩ := hP
  have hx := Bd.exec
  have hby := Bd.bytes
  have hml : c.maxLocals = 6 := hml0
  have hown : s.vm.findClass "java/lang/StringUTF16" = some m.cls := findClass_of_methodNamed Bd.named
  have hnm := (name_of_methodNamed Bd.named Bd.method).1
  have X0 : Stand p l e rq10 s m #[(.ref a1), (.int 0), (.int 2)] below meth c s₁ [] 0 0 := Stand.of_body Bd
  have e0 : s₁.heap = h0 := by rw [← hh, Bd.state]; rfl
  have N0 := Fr.nil n0
  refine own_fw (A' := (s₁.setTop (mkF m 1 #[rv a1, iv 0, iv 2, .unset, .unset, .unset] [.int 2]))) (fun t k => castTop (ef_rmCmpB2 m a1) (XS.iloadN X0.here hx rfl (hb hby d8_0) rfl k)) ?_
  obtain ⟨T1, h1, k1, X1, e1, E1, A1, st1⟩ := newP X0 hx hZ (own_w hw 37 rfl) e0 (g := (mkF m 1 #[rv a1, iv 0, iv 2, .unset, .unset, .unset] [.int 2])) rfl (hb hby d8_1) rfl (by decide) (cap := 2) (by decide) (by decide) (by decide) (by decide)
  obtain ⟨b1, gb1⟩ : ∃ z, z = h0.size := ⟨_, rfl⟩
  have g_b1 : n0 ≤ b1 := Nat.le_trans Z0 (Nat.le_of_eq gb1.symm)
  have sz_b1 : h0.size ≤ b1 := Nat.le_trans (Keep.refl h0 []).1 (Nat.le_of_eq gb1.symm)
  have ne_a1_b1 : a1 ≠ b1 := Nat.ne_of_lt (Nat.lt_of_lt_of_le P0.lt (Nat.le_of_eq gb1.symm))
  rw [← gb1] at A1 st1
  have V_b1 : Arv Z h1 b1 k1 .byte (2 : Int32) [(.int 0), (.int 0)] (.int 0) := (Arv.new A1 (by decide)).pad (pad_rep [] (.int 0) 2)
  have K1 : Keep h0 h1 [] := (Keep.refl h0 []).ext E1
  have Z1 : n0 ≤ h1.size := Nat.le_trans Z0 E1.1
  refine own_fw (A' := (T1.setTop (mkF m 9 #[rv a1, iv 0, iv 2, rv b1, .unset, .unset] [.int 2, .int 0, .ref b1, .int 0, .ref a1]))) (fun t k => st1 _ (XS.astoreN X1.here hx rfl (hb hby d8_3) rfl rfl (l' := #[rv a1, iv 0, iv 2, rv b1, .unset, .unset]) rfl (XS.aloadN X1.here hx rfl (hb hby d8_4) rfl rfl (XS.iloadN X1.here hx rfl (hb hby d8_5) rfl (XS.aloadN X1.here hx rfl (hb hby d8_6) rfl rfl (XS.iconst X1.here hx rfl (hb hby d8_7) (XS.iloadN X1.here hx rfl (hb hby d8_8) rfl k))))))) ?_
  obtain ⟨_, _, ⟨T2, L2, k2, n2⟩, -, X2, ⟨Lc2, hQ2, l2, y2, z2⟩, st2⟩ := Jvm.LawKit.callS X1 hx (y := yq2) hown (mvT hZ (own_w hw 38 rfl)) (mvT hZ (own_w hw 39 rfl)) (mvT hZ (own_w hw 35 rfl)) (mvT hZ (own_w hw 40 rfl)) (by decide) (backOf (W := 0) (rmCmpA2 l Z a0 hw [] a1 b1 kc k1 c0 c1 h1 n0 Z1 (P0.ext E1) V_b1 g_b1 ne_a1_b1 hc0 hc1) hZ (own_w hw 40 rfl) (own_w hw 35 rfl) (by decide) (by decide)) (g := (mkF m 9 #[rv a1, iv 0, iv 2, rv b1, .unset, .unset] [.int 2, .int 0, .ref b1, .int 0, .ref a1])) rfl (by rw [hml]; rfl) (argsL := [(.ref a1), (.int 0), (.ref b1), (.int 0), (.int 2)]) (rest := []) (lenOf pd___CI_BII_I rfl) rfl (by show 2 * 0 + _ ≤ _; exact Nat.le_of_eq rfl) (hb hby d8_9) (fun _ _ => ⟨rfl, e1, (by decide : 1 + 0 ≤ _), (by decide : 2 + 0 ≤ _)⟩)
  dsimp only [Pt.U, Pt.locs, Pt.cells, Pt.slots] at X2 l2 y2 z2 st2 hQ2
  subst l2 y2 z2
  obtain ⟨rfl, Nq2, Kq2, Fq2_0⟩ := hQ2
  have Nf2 := Fr.app N0 Nq2
  have K2 : Keep h0 T2.heap [] := K1.trans Kq2 (allS (Or.inr sz_b1) all0)
  have Z2 : n0 ≤ T2.heap.size := Nat.le_trans Z1 Kq2.1
  refine own_fw (A' := (T2.setTop (mkF m 58 #[rv a1, iv 0, iv 2, rv b1, iv 2, .unset] [.ref b1]))) (fun t k => st2 _ (XS.istore X2.here hx rfl (hb hby d8_12) rfl (l' := #[rv a1, iv 0, iv 2, rv b1, iv 2, .unset]) rfl (XS.iload X2.here hx rfl (hb hby d8_14) rfl (XS.iloadN X2.here hx rfl (hb hby d8_16) rfl (XS.icmpYes X2.here hx rfl (pc0 := 17) (pc' := 57) rfl (hb hby d8_17) rfl (XT.ii_eq_t rfl) (by decide) (by decide) (XS.aloadN X2.here hx rfl (hb hby d8_57) rfl rfl k)))))) ?_
  obtain ⟨fs, hr, hrun, hended, hW, hsame⟩ := X2.leave (v := some (.ref b1)) (fun h => by rw [Bd.returns] at h; cases h)
  refine ⟨_, _, ?_, hrun, hended, _, _, rfl, ?_, ⟨_, rfl⟩, hW, hsame.mono (by decide) (by decide)⟩
  · exact retOut X2 hx Bd.returns rfl (Or.inr (Or.inr (Or.inr (Or.inr ⟨rfl, rfl, rfl⟩)))) (hb hby d8_58) hr
  · show Q_rmCmpB2 Z a1 kc c0 c1 h0 n0 _ T2.heap _
    exact ⟨b1, k1, rfl, Nf2, K2, Fq2_0, sz_b1⟩
theorem ef_rmCoder2 (m : MethodId) (a1 : Addr) : entryFrame m #[(.ref a1), (.int 2)] 2 = mkF m 0 #[.val (.ref a1), .val (.int 2)] [] := by first | (simp [entryFrame, mkF, argsToLocals, Value.category]; done) | rfl
def Q_rmCoder2 (Z : State) (a1 : Addr) (kb : ClassId) (c0 c1 : Int32) (h0 : Heap) (n0 : Nat) (v : Option Value) (h : Heap) (L : List Loc) : Prop := v = some (.int 0) ∧ Fr n0 L ∧ h = h0
theorem rmCoder2 (l : Launch) (Z : State) (a0 : Array Value) (hw : ∀ d ∈ tables_1, d.before a0 Z = true) (ws : List Jvm.Cond) (a1 : Addr) (kb : ClassId) (c0 c1 : Int32) (h0 : Heap) (n0 : Nat) (Z0 : n0 ≤ h0.size) (P0 : Arv Z h0 a1 kb .byte (2 : Int32) [(.int c0), (.int c1)] (.int 0)) :
    MetFree l yq5 (head1 (Jvm.Cond.code yq5 jdk_52_method_15_code 2 (some .byte) :: ws) rq0) (fun a U => a = #[(.ref a1), (.int 2)] ∧ Z.Warmed39 U.vm ∧ U.heap = h0) (fun _ _ _ _ _ => True) (fun _ U o U' => ∃ v L, o = .returned v ∧ Q_rmCoder2 Z a1 kb c0 c1 h0 n0 v U'.heap L ∧ FrameEnd U o U' L rq0.cells rq0.slots) := by
  refine MetFree.of_bodySF (plainFor_of_name pn_java_lang_StringUTF16) hisR ?_
  intro p e s m args below meth c s₁ Bd hml0 hP hK
  obtain ⟨rfl, hZ, hh⟩ := hP
  have hx := Bd.exec
  have hby := Bd.bytes
  have hml : c.maxLocals = 2 := hml0
  have hown : s.vm.findClass "java/lang/StringUTF16" = some m.cls := findClass_of_methodNamed Bd.named
  have hnm := (name_of_methodNamed Bd.named Bd.method).1
  have X0 : Stand p l e rq0 s m #[(.ref a1), (.int 2)] below meth c s₁ [] 0 0 := Stand.of_body Bd
  have e0 : s₁.heap = h0 := by rw [← hh, Bd.state]; rfl
  have N0 := Fr.nil n0
  refine own_fw (A' := (s₁.setTop (mkF m 2 #[rv a1, iv 2] [.ref a1, .int 2]))) (fun t k => castTop (ef_rmCoder2 m a1) (XS.iloadN X0.here hx rfl (hb hby d15_0) rfl (XS.aloadN X0.here hx rfl (hb hby d15_1) rfl rfl k))) ?_
  obtain ⟨cl1, Ar1, q1, S1, M1, H1, G1⟩ := id P0
  refine own_fw (A' := (s₁.setTop (mkF m 3 #[rv a1, iv 2] [.int 2, .int 2]))) (fun t k => X0.arraylength hx (by rw [e0]; exact Ar1.1) (State.isArrayOf_alike hZ.alike Ar1.2.1) (g := (mkF m 2 #[rv a1, iv 2] [.ref a1, .int 2])) rfl rfl (hb hby d15_2) _ (by rw [len_of S1 M1]; exact k)) ?_
  refine own_fw (A' := (s₁.setTop (mkF m 8 #[rv a1, iv 2] [.int 0]))) (fun t k => XS.isub X0.here hx rfl (hb hby d15_3) rfl (XS.bipush X0.here hx rfl (hb hby d15_4) (XS.iushr X0.here hx rfl (hb hby d15_6) rfl (XS.i2b X0.here hx rfl (hb hby d15_7) rfl k)))) ?_
  obtain ⟨fs, hr, hrun, hended, hW, hsame⟩ := X0.leave (v := some (.int 0)) (fun h => by rw [Bd.returns] at h; cases h)
  refine ⟨_, _, ?_, hrun, hended, _, _, rfl, ?_, ⟨_, rfl⟩, hW, hsame.mono (by decide) (by decide)⟩
  · exact retOut X0 hx Bd.returns rfl (Or.inl ⟨rfl, by simp, _, rfl⟩) (hb hby d15_8) hr
  · show Q_rmCoder2 Z a1 kb c0 c1 h0 n0 _ s₁.heap _
    rw [e0]
    exact ⟨rfl, N0, rfl⟩
theorem ef_rmStrB2 (m : MethodId) (a1 a2 : Addr) : entryFrame m #[(.ref a1), (.ref a2), (.int 0), (.int 2), .null] 6 = mkF m 0 #[.val (.ref a1), .val (.ref a2), .val (.int 0), .val (.int 2), .val .null, .unset] [] := by first | (simp [entryFrame, mkF, argsToLocals, Value.category]; done) | rfl
def Q_rmStrB2 (Z : State) (a1 a2 : Addr) (kc : ClassId) (cs c0 c1 : Int32) (h0 : Heap) (n0 : Nat) (v : Option Value) (h : Heap) (L : List Loc) : Prop := ∃ b : Addr, ∃ kb : ClassId, v = none ∧ Fr n0 L ∧ Keep h0 h [a1] ∧ Exa Z h a1 "java/lang/String" ∧ Fld Z h a1 "java/lang/String" "coder" "B" (.int 0) ∧ Fld Z h a1 "java/lang/String" "value" "[B" (.ref b) ∧ Arv Z h b kb .byte (2 : Int32) [(.int (c0.toInt8.toInt32)), (.int (c1.toInt8.toInt32))] (.int 0)
theorem rmStrB2 (l : Launch) (Z : State) (a0 : Array Value) (hw : ∀ d ∈ tables_1, d.before a0 Z = true) (ws : List Jvm.Cond) (a1 a2 : Addr) (kc : ClassId) (cs c0 c1 : Int32) (h0 : Heap) (n0 : Nat) (Z0 : n0 ≤ h0.size) (P0 : Exa Z h0 a1 "java/lang/String") (P1 : Fld Z h0 a1 "java/lang/String" "coder" "B" (.int 0)) (P2 : Fld Z h0 a1 "java/lang/String" "value" "[B" .null) (P3 : Arv Z h0 a2 kc .char (2 : Int32) [(.int c0), (.int c1)] (.int 0)) (g_a1 : n0 ≤ a1) (ne_a1_a2 : a1 ≠ a2) (P6 : Sta Z h0 "java/lang/String" "COMPACT_STRINGS" "Z" (.int cs)) (hcs : ¬ (cs = (0 : Int32))) (hc0 : ¬ ((255 : Int32) < c0)) (hc1 : ¬ ((255 : Int32) < c1)) :
    MetFree l yq7 (head1 (Jvm.Cond.code yq7 jdk_42_method_149_code 6 none :: ws) rq11) (fun a U => a = #[(.ref a1), (.ref a2), (.int 0), (.int 2), .null] ∧ Z.Warmed39 U.vm ∧ U.heap = h0) (fun _ _ _ _ _ => True) (fun _ U o U' => ∃ v L, o = .returned v ∧ Q_rmStrB2 Z a1 a2 kc cs c0 c1 h0 n0 v U'.heap L ∧ FrameEnd U o U' L rq11.cells rq11.slots) := by
  refine MetFree.of_bodySF (plainFor_of_name pn_java_lang_String) hisR ?_
  intro p e s m args below meth c s₁ Bd hml0 hP hK
  obtain ⟨rfl, hZ, hh⟩ := hP
  have hx := Bd.exec
  have hby := Bd.bytes
  have hml : c.maxLocals = 6 := hml0
  have hown : s.vm.findClass "java/lang/String" = some m.cls := findClass_of_methodNamed Bd.named
  have hnm := (name_of_methodNamed Bd.named Bd.method).1
  have X0 : Stand p l e rq11 s m #[(.ref a1), (.ref a2), (.int 0), (.int 2), .null] below meth c s₁ [] 0 0 := Stand.of_body Bd
  have e0 : s₁.heap = h0 := by rw [← hh, Bd.state]; rfl
  have N0 := Fr.nil n0
  refine own_fw (A' := (s₁.setTop (mkF m 1 #[rv a1, rv a2, iv 0, iv 2, .val (.null), .unset] [.ref a1]))) (fun t k => castTop (ef_rmStrB2 m a1 a2) (XS.aloadN X0.here hx rfl (hb hby d6_0) rfl rfl k)) ?_
  obtain ⟨T1, X1, e1, st1⟩ := initO X0 hx hZ hown (own_w hw 29 rfl) (own_w hw 30 rfl) (own_w hw 31 rfl) e0 (g := (mkF m 1 #[rv a1, rv a2, iv 0, iv 2, .val (.null), .unset] [.ref a1])) rfl (by rw [hml]; rfl) rfl (hb hby d6_1) (by decide) (W := 0) (by show 2 * 0 + _ ≤ _; exact Nat.le_of_eq rfl) (by decide)
  refine own_fw (A' := (T1.setTop (mkF m 27 #[rv a1, rv a2, iv 0, iv 2, .val (.null), .unset] []))) (fun t k => st1 _ (XS.iloadN X1.here hx rfl (hb hby d6_4) rfl (XS.ifYes X1.here hx rfl (pc0 := 5) (pc' := 27) rfl (hb hby d6_5) rfl (XT.i0_ne_t (by decide)) (by decide) (by decide) k))) ?_
  obtain ⟨T2, X2, e2, st2⟩ := getS2 X1 hx hZ hown (host := "") (Or.inl (own_w hw 32 rfl)) Via.refl e1 P6 (g := (mkF m 27 #[rv a1, rv a2, iv 0, iv 2, .val (.null), .unset] [])) rfl (hb hby d6_27)
  refine own_fw (A' := (T2.setTop (mkF m 36 #[rv a1, rv a2, iv 0, iv 2, .val (.null), .unset] [.int 2, .int 0, .ref a2]))) (fun t k => st2 _ (XS.ifNo X2.here hx rfl (hb hby d6_30) rfl (XT.i0_eq_f hcs) (XS.aloadN X2.here hx rfl (hb hby d6_33) rfl rfl (XS.iloadN X2.here hx rfl (hb hby d6_34) rfl (XS.iloadN X2.here hx rfl (hb hby d6_35) rfl k))))) ?_
  obtain ⟨_, _, ⟨T3, L3, k3, n3⟩, -, X3, ⟨Lc3, hQ3, l3, y3, z3⟩, st3⟩ := Jvm.LawKit.callS X2 hx (y := yq4) hown (mvT hZ (own_w hw 33 rfl)) (mvT hZ (own_w hw 34 rfl)) (mvT hZ (own_w hw 35 rfl)) (mvT hZ (own_w hw 36 rfl)) (by decide) (backOf (W := 0) (rmCmpB2 l Z a0 hw [] a2 kc c0 c1 h0 n0 Z0 P3 hc0 hc1) hZ (own_w hw 36 rfl) (own_w hw 35 rfl) (by decide) (by decide)) (g := (mkF m 36 #[rv a1, rv a2, iv 0, iv 2, .val (.null), .unset] [.int 2, .int 0, .ref a2])) rfl (by rw [hml]; rfl) (argsL := [(.ref a2), (.int 0), (.int 2)]) (rest := []) (lenOf pd___CII__B rfl) rfl (by show 2 * 0 + _ ≤ _; exact Nat.le_of_eq rfl) (hb hby d6_36) (fun _ _ => ⟨rfl, e2, (by decide : 0 + 1 ≤ _), (by decide : 0 + 2 ≤ _)⟩)
  dsimp only [Pt.U, Pt.locs, Pt.cells, Pt.slots] at X3 l3 y3 z3 st3 hQ3
  subst l3 y3 z3
  obtain ⟨b_3, kb_3, rfl, Nq3, Kq3, Fq3_0, gb_3⟩ := hQ3
  have Nf3 := Fr.app N0 Nq3
  have K3 : Keep h0 T3.heap [a1] := (Keep.refl h0 [a1]).trans Kq3 all0
  have sz_b_3 : h0.size ≤ b_3 := Nat.le_trans (Keep.refl h0 [a1]).1 gb_3
  have g_b_3 : n0 ≤ b_3 := Nat.le_trans Z0 gb_3
  have ne_a1_b_3 : a1 ≠ b_3 := Nat.ne_of_lt (Nat.lt_of_lt_of_le P0.lt gb_3)
  have ne_a2_b_3 : a2 ≠ b_3 := Nat.ne_of_lt (Nat.lt_of_lt_of_le P3.lt gb_3)
  have Z3 : n0 ≤ T3.heap.size := Nat.le_trans Z0 Kq3.1
  refine own_fw (A' := (T3.setTop (mkF m 45 #[rv a1, rv a2, iv 0, iv 2, .val (.null), rv b_3] [.int 2, .ref b_3, .ref a1]))) (fun t k => st3 _ (XS.astore X3.here hx rfl (hb hby d6_39) rfl rfl (l' := #[rv a1, rv a2, iv 0, iv 2, .val (.null), rv b_3]) rfl (XS.aloadN X3.here hx rfl (hb hby d6_41) rfl rfl (XS.aload X3.here hx rfl (hb hby d6_42) rfl rfl (XS.iloadN X3.here hx rfl (hb hby d6_44) rfl k))))) ?_
  obtain ⟨_, _, ⟨T4, L4, k4, n4⟩, -, X4, ⟨Lc4, hQ4, l4, y4, z4⟩, st4⟩ := Jvm.LawKit.callS X3 hx (y := yq5) hown (mvT hZ (own_w hw 60 rfl)) (mvT hZ (own_w hw 61 rfl)) (mvT hZ (own_w hw 35 rfl)) (mvT hZ (own_w hw 62 rfl)) (by decide) (backOf (W := 1) (rmCoder2 l Z a0 hw [] b_3 kb_3 (c0.toInt8.toInt32) (c1.toInt8.toInt32) T3.heap n0 Z3 Fq3_0) hZ (own_w hw 62 rfl) (own_w hw 35 rfl) (by decide) (by decide)) (g := (mkF m 45 #[rv a1, rv a2, iv 0, iv 2, .val (.null), rv b_3] [.int 2, .ref b_3, .ref a1])) rfl (by rw [hml]; rfl) (argsL := [(.ref b_3), (.int 2)]) (rest := [(.ref a1)]) (lenOf pd___BI_B rfl) rfl (by show 2 * 0 + _ ≤ _; exact Nat.le_of_eq rfl) (hb hby d6_45) (fun _ _ => ⟨rfl, rfl, (by decide : 1 + 0 ≤ _), (by decide : 2 + 0 ≤ _)⟩)
  dsimp only [Pt.U, Pt.locs, Pt.cells, Pt.slots] at X4 l4 y4 z4 st4 hQ4
  subst l4 y4 z4
  obtain ⟨rfl, Nq4, e4⟩ := hQ4
  have Nf4 := Fr.app Nf3 Nq4
  refine own_fw (A' := (T4.setTop (mkF m 48 #[rv a1, rv a2, iv 0, iv 2, .val (.null), rv b_3] [.int 0, .ref a1]))) (fun t k => st4 _ k) ?_
  obtain ⟨T5, h5, X5, e5, W5, st5⟩ := putFN X4 hx hZ hown (own_w hw 63 rfl) Via.refl e4 (P1.keep Kq3 nin0) (P0.keep Kq3) (Or.inr ⟨(own_w hw 64 rfl), rfl, hnm⟩) (own_w hw 20 rfl) (ty := .byte) (v' := (.int 0)) (by decide) rfl rfl (g := (mkF m 48 #[rv a1, rv a2, iv 0, iv 2, .val (.null), rv b_3] [.int 0, .ref a1])) rfl rfl (hb hby d6_48)
  have Fw5 : Fld Z h5 a1 "java/lang/String" "coder" "B" (.int 0) := (P1.keep Kq3 nin0).same W5
  have Nf5 := Fr.snoc X5 Nf4 g_a1
  have K5 : Keep h0 h5 [a1] := K3.wr W5 (Or.inl (List.mem_of_getElem? (i := 0) rfl))
  have Z5 : n0 ≤ h5.size := Nat.le_trans Z3 (Keep.of_wr W5).1
  refine own_fw (A' := (T5.setTop (mkF m 54 #[rv a1, rv a2, iv 0, iv 2, .val (.null), rv b_3] [.ref b_3, .ref a1]))) (fun t k => st5 _ (XS.aloadN X5.here hx rfl (hb hby d6_51) rfl rfl (XS.aload X5.here hx rfl (hb hby d6_52) rfl rfl k))) ?_
  obtain ⟨T6, h6, X6, e6, W6, st6⟩ := putF X5 hx hZ hown (host := "") (Or.inl (own_w hw 65 rfl)) Via.refl e5 ((P2.keep Kq3 nin0).other W5 (Or.inr (slot_ne (Or.inr (own_w hw 66 rfl)) (Or.inr (own_w hw 64 rfl)) (by decide) (t := (.array .byte)) (t' := .byte) (by decide) (by decide)))) ((P0.keep Kq3).wr W5) (Or.inr ⟨(own_w hw 66 rfl), rfl, hnm⟩) (own_w hw 20 rfl) (ty := (.array .byte)) (by decide) rfl rfl (g := (mkF m 54 #[rv a1, rv a2, iv 0, iv 2, .val (.null), rv b_3] [.ref b_3, .ref a1])) rfl rfl (hb hby d6_54)
  have Fw6 : Fld Z h6 a1 "java/lang/String" "value" "[B" (.ref b_3) := ((P2.keep Kq3 nin0).other W5 (Or.inr (slot_ne (Or.inr (own_w hw 66 rfl)) (Or.inr (own_w hw 64 rfl)) (by decide) (t := (.array .byte)) (t' := .byte) (by decide) (by decide)))).same W6
  have Nf6 := Fr.snoc X6 Nf5 g_a1
  have K6 : Keep h0 h6 [a1] := K5.wr W6 (Or.inl (List.mem_of_getElem? (i := 0) rfl))
  have Z6 : n0 ≤ h6.size := Nat.le_trans Z5 (Keep.of_wr W6).1
  refine own_fw (A' := (T6.setTop (mkF m 57 #[rv a1, rv a2, iv 0, iv 2, .val (.null), rv b_3] []))) (fun t k => st6 _ k) ?_
  obtain ⟨fs, hr, hrun, hended, hW, hsame⟩ := X6.leave (v := none) (fun _ => rfl)
  refine ⟨_, _, ?_, hrun, hended, _, _, rfl, ?_, ⟨_, rfl⟩, hW, hsame.mono (by decide) (by decide)⟩
  · exact X6.returnOut hx Bd.returns (hb hby d6_57) hr
  · show Q_rmStrB2 Z a1 a2 kc cs c0 c1 h0 n0 _ T6.heap _
    rw [e6]
    exact ⟨b_3, kb_3, rfl, Nf6, K6, (((P0.keep Kq3).wr W5).wr W6), (Fw5.other W6 (Or.inr (slot_ne (Or.inr (own_w hw 64 rfl)) (Or.inr (own_w hw 66 rfl)) (by decide) (t := .byte) (t' := (.array .byte)) (by decide) (by decide)))), Fw6, ((Fq3_0.other W5 (Ne.symm ne_a1_b_3)).other W6 (Ne.symm ne_a1_b_3))⟩
theorem ef_rmStrA2 (m : MethodId) (a1 a2 : Addr) : entryFrame m #[(.ref a1), (.ref a2)] 2 = mkF m 0 #[.val (.ref a1), .val (.ref a2)] [] := by first | (simp [entryFrame, mkF, argsToLocals, Value.category]; done) | rfl
def Q_rmStrA2 (Z : State) (a1 a2 : Addr) (kc : ClassId) (cs c0 c1 : Int32) (h0 : Heap) (n0 : Nat) (v : Option Value) (h : Heap) (L : List Loc) : Prop := ∃ b : Addr, ∃ kb : ClassId, v = none ∧ Fr n0 L ∧ Keep h0 h [a1] ∧ Exa Z h a1 "java/lang/String" ∧ Fld Z h a1 "java/lang/String" "coder" "B" (.int 0) ∧ Fld Z h a1 "java/lang/String" "value" "[B" (.ref b) ∧ Arv Z h b kb .byte (2 : Int32) [(.int (c0.toInt8.toInt32)), (.int (c1.toInt8.toInt32))] (.int 0)
theorem rmStrA2 (l : Launch) (Z : State) (a0 : Array Value) (hw : ∀ d ∈ tables_1, d.before a0 Z = true) (ws : List Jvm.Cond) (a1 a2 : Addr) (kc : ClassId) (cs c0 c1 : Int32) (h0 : Heap) (n0 : Nat) (Z0 : n0 ≤ h0.size) (P0 : Exa Z h0 a1 "java/lang/String") (P1 : Fld Z h0 a1 "java/lang/String" "coder" "B" (.int 0)) (P2 : Fld Z h0 a1 "java/lang/String" "value" "[B" .null) (P3 : Arv Z h0 a2 kc .char (2 : Int32) [(.int c0), (.int c1)] (.int 0)) (g_a1 : n0 ≤ a1) (ne_a1_a2 : a1 ≠ a2) (P6 : Sta Z h0 "java/lang/String" "COMPACT_STRINGS" "Z" (.int cs)) (hcs : ¬ (cs = (0 : Int32))) (hc0 : ¬ ((255 : Int32) < c0)) (hc1 : ¬ ((255 : Int32) < c1)) :
    MetFree l yq9 (head1 (Jvm.Cond.code yq9 jdk_42_method_3_code 2 none :: ws) rq12) (fun a U => a = #[(.ref a1), (.ref a2)] ∧ Z.Warmed39 U.vm ∧ U.heap = h0) (fun _ _ _ _ _ => True) (fun _ U o U' => ∃ v L, o = .returned v ∧ Q_rmStrA2 Z a1 a2 kc cs c0 c1 h0 n0 v U'.heap L ∧ FrameEnd U o U' L rq12.cells rq12.slots) := by
  refine MetFree.of_bodySF (plainFor_of_name pn_java_lang_String) hisR ?_
  intro p e s m args below meth c s₁ Bd hml0 hP hK
  obtain ⟨rfl, hZ, hh⟩ := hP
  have hx := Bd.exec
  have hby := Bd.bytes
  have hml : c.maxLocals = 2 := hml0
  have hown : s.vm.findClass "java/lang/String" = some m.cls := findClass_of_methodNamed Bd.named
  have hnm := (name_of_methodNamed Bd.named Bd.method).1
  have X0 : Stand p l e rq12 s m #[(.ref a1), (.ref a2)] below meth c s₁ [] 0 0 := Stand.of_body Bd
  have e0 : s₁.heap = h0 := by rw [← hh, Bd.state]; rfl
  have N0 := Fr.nil n0
  refine own_fw (A' := (s₁.setTop (mkF m 4 #[rv a1, rv a2] [.ref a2, .int 0, .ref a2, .ref a1]))) (fun t k => castTop (ef_rmStrA2 m a1 a2) (XS.aloadN X0.here hx rfl (hb hby d5_0) rfl rfl (XS.aloadN X0.here hx rfl (hb hby d5_1) rfl rfl (XS.iconst X0.here hx rfl (hb hby d5_2) (XS.aloadN X0.here hx rfl (hb hby d5_3) rfl rfl k))))) ?_
  obtain ⟨cl1, Ar1, q1, S1, M1, H1, G1⟩ := id P3
  refine own_fw (A' := (s₁.setTop (mkF m 5 #[rv a1, rv a2] [.int 2, .int 0, .ref a2, .ref a1]))) (fun t k => X0.arraylength hx (by rw [e0]; exact Ar1.1) (State.isArrayOf_alike hZ.alike Ar1.2.1) (g := (mkF m 4 #[rv a1, rv a2] [.ref a2, .int 0, .ref a2, .ref a1])) rfl rfl (hb hby d5_4) _ (by rw [len_of S1 M1]; exact k)) ?_
  refine own_fw (A' := (s₁.setTop (mkF m 6 #[rv a1, rv a2] [.null, .int 2, .int 0, .ref a2, .ref a1]))) (fun t k => XS.aconstNull X0.here hx rfl (hb hby d5_5) k) ?_
  obtain ⟨_, _, ⟨T2, L2, k2, n2⟩, -, X2, ⟨Lc2, hQ2, l2, y2, z2⟩, st2⟩ := X0.specialBack hx (y := yq7) rfl hown (mvT hZ (own_w hw 25 rfl)) (mvT hZ (own_w hw 26 rfl)) (mvT hZ (own_w hw 28 rfl)) (by decide) (backOf (W := 0) (rmStrB2 l Z a0 hw [] a1 a2 kc cs c0 c1 h0 n0 Z0 P0 P1 P2 P3 g_a1 ne_a1_a2 P6 hcs hc0 hc1) hZ (own_w hw 28 rfl) (own_w hw 21 rfl) (by decide) (by decide)) (g := (mkF m 6 #[rv a1, rv a2] [.null, .int 2, .int 0, .ref a2, .ref a1])) rfl (by rw [hml]; rfl) (Steps.refl _) (a := a1) (argsL := [(.ref a2), (.int 0), (.int 2), .null]) (rest := []) (lenOf pd___CIILjava_lang_Void__V rfl) rfl (by show 2 * 0 + _ ≤ _; exact Nat.le_of_eq rfl) (hb hby d5_6) (fun _ _ => ⟨rfl, e0, (by decide : 0 + 1 ≤ _), (by decide : 0 + 2 ≤ _)⟩)
  dsimp only [Pt.U, Pt.locs, Pt.cells, Pt.slots] at X2 l2 y2 z2 st2 hQ2
  subst l2 y2 z2
  obtain ⟨b_2, kb_2, rfl, Nq2, Kq2, Fq2_0, Fq2_1, Fq2_2, Fq2_3⟩ := hQ2
  have Nf2 := Fr.app N0 Nq2
  have K2 : Keep h0 T2.heap [a1] := (Keep.refl h0 [a1]).trans Kq2 (allS (Or.inl (List.mem_of_getElem? (i := 0) rfl)) all0)
  have Z2 : n0 ≤ T2.heap.size := Nat.le_trans Z0 Kq2.1
  refine own_fw (A' := (T2.setTop (mkF m 9 #[rv a1, rv a2] []))) (fun t k => st2.trans k) ?_
  obtain ⟨fs, hr, hrun, hended, hW, hsame⟩ := X2.leave (v := none) (fun _ => rfl)
  refine ⟨_, _, ?_, hrun, hended, _, _, rfl, ?_, ⟨_, rfl⟩, hW, hsame.mono (by decide) (by decide)⟩
  · exact X2.returnOut hx Bd.returns (hb hby d5_9) hr
  · show Q_rmStrA2 Z a1 a2 kc cs c0 c1 h0 n0 _ T2.heap _
    exact ⟨b_2, kb_2, rfl, Nf2, K2, Fq2_0, Fq2_1, Fq2_2, Fq2_3⟩
theorem ef_rmCmpA3 (m : MethodId) (a1 a3 : Addr) : entryFrame m #[(.ref a1), (.int 0), (.ref a3), (.int 0), (.int 3)] 7 = mkF m 0 #[.val (.ref a1), .val (.int 0), .val (.ref a3), .val (.int 0), .val (.int 3), .unset, .unset] [] := by first | (simp [entryFrame, mkF, argsToLocals, Value.category]; done) | rfl
def Q_rmCmpA3 (Z : State) (a1 a3 : Addr) (kc kb : ClassId) (c0 c1 c2 : Int32) (h0 : Heap) (n0 : Nat) (v : Option Value) (h : Heap) (L : List Loc) : Prop := v = some (.int 3) ∧ Fr n0 L ∧ Keep h0 h [a3] ∧ Arv Z h a3 kb .byte (3 : Int32) [(.int (c0.toInt8.toInt32)), (.int (c1.toInt8.toInt32)), (.int (c2.toInt8.toInt32))] (.int 0)
theorem rmCmpA3 (l : Launch) (Z : State) (a0 : Array Value) (hw : ∀ d ∈ tables_1, d.before a0 Z = true) (ws : List Jvm.Cond) (a1 a3 : Addr) (kc kb : ClassId) (c0 c1 c2 : Int32) (h0 : Heap) (n0 : Nat) (Z0 : n0 ≤ h0.size) (P0 : Arv Z h0 a1 kc .char (3 : Int32) [(.int c0), (.int c1), (.int c2)] (.int 0)) (P1 : Arv Z h0 a3 kb .byte (3 : Int32) [(.int 0), (.int 0), (.int 0)] (.int 0)) (g_a3 : n0 ≤ a3) (ne_a1_a3 : a1 ≠ a3) (hc0 : ¬ ((255 : Int32) < c0)) (hc1 : ¬ ((255 : Int32) < c1)) (hc2 : ¬ ((255 : Int32) < c2)) :
    MetFree l yq2 (head1 (Jvm.Cond.code yq2 jdk_52_method_21_code 7 (some .int) :: ws) rq0) (fun a U => a = #[(.ref a1), (.int 0), (.ref a3), (.int 0), (.int 3)] ∧ Z.Warmed39 U.vm ∧ U.heap = h0) (fun _ _ _ _ _ => True) (fun _ U o U' => ∃ v L, o = .returned v ∧ Q_rmCmpA3 Z a1 a3 kc kb c0 c1 c2 h0 n0 v U'.heap L ∧ FrameEnd U o U' L rq0.cells rq0.slots) := by
  refine MetFree.of_bodySF (plainFor_of_name pn_java_lang_StringUTF16) hisR ?_
  intro p e s m args below meth c s₁ Bd hml0 hP hK
  obtain ⟨rfl, hZ, hh⟩ := hP
  have hx := Bd.exec
  have hby := Bd.bytes
  have hml : c.maxLocals = 7 := hml0
  have hown : s.vm.findClass "java/lang/StringUTF16" = some m.cls := findClass_of_methodNamed Bd.named
  have hnm := (name_of_methodNamed Bd.named Bd.method).1
  have X0 : Stand p l e rq0 s m #[(.ref a1), (.int 0), (.ref a3), (.int 0), (.int 3)] below meth c s₁ [] 0 0 := Stand.of_body Bd
  have e0 : s₁.heap = h0 := by rw [← hh, Bd.state]; rfl
  have N0 := Fr.nil n0
  refine own_fw (A' := (s₁.setTop (mkF m 12 #[rv a1, iv 0, rv a3, iv 0, iv 3, iv 0, .unset] [.int 0, .ref a1]))) (fun t k => castTop (ef_rmCmpA3 m a1 a3) (XS.iconst X0.here hx rfl (hb hby d9_0) (XS.istore X0.here hx rfl (hb hby d9_1) rfl (l' := #[rv a1, iv 0, rv a3, iv 0, iv 3, iv 0, .unset]) rfl (XS.iload X0.here hx rfl (hb hby d9_3) rfl (XS.iload X0.here hx rfl (hb hby d9_5) rfl (XS.icmpNo X0.here hx rfl (hb hby d9_7) rfl (XT.ii_ge_f (by decide)) (XS.aloadN X0.here hx rfl (hb hby d9_10) rfl rfl (XS.iloadN X0.here hx rfl (hb hby d9_11) rfl k)))))))) ?_
  obtain ⟨cl1, Ar1, q1, S1, M1, H1, G1⟩ := id P0
  have hin1 : ¬ ((0 : Int32) < 0 ∨ cl1.slots.size ≤ ((0 : Int32)).toNatClampNeg) := inb_of S1 ⟨by decide, by decide⟩
  have hat1 : cl1.slots[((0 : Int32)).toNatClampNeg]? = some (.int c0) := H1.at hin1 rfl
  refine own_fw (A' := (s₁.setTop (mkF m 31 #[rv a1, iv 0, rv a3, iv 0, iv 3, iv 0, iv c0] [.int (c0.toInt8.toInt32), .int 0, .ref a3]))) (fun t k => X0.caload hx (j := (0 : Int32)) (v := (.int c0)) (by rw [e0]; exact Ar1.1) (State.isArrayOf_alike hZ.alike Ar1.2.1) Ar1.2.2 hin1 hat1 (g := (mkF m 12 #[rv a1, iv 0, rv a3, iv 0, iv 3, iv 0, .unset] [.int 0, .ref a1])) rfl rfl (hb hby d9_12) _ (XS.istore X0.here hx rfl (hb hby d9_13) rfl (l' := #[rv a1, iv 0, rv a3, iv 0, iv 3, iv 0, iv c0]) rfl (XS.iload X0.here hx rfl (hb hby d9_15) rfl (XS.sipush X0.here hx rfl (hb hby d9_17) (XS.icmpYes X0.here hx rfl (pc0 := 20) (pc' := 26) rfl (hb hby d9_20) rfl (XT.ii_le_t hc0) (by decide) (by decide) (XS.aloadN X0.here hx rfl (hb hby d9_26) rfl rfl (XS.iloadN X0.here hx rfl (hb hby d9_27) rfl (XS.iload X0.here hx rfl (hb hby d9_28) rfl (XS.i2b X0.here hx rfl (hb hby d9_30) rfl k))))))))) ?_
  obtain ⟨cl2, Ar2, q2, S2, M2, H2, G2⟩ := id P1
  have hin2 : ¬ ((0 : Int32) < 0 ∨ cl2.slots.size ≤ ((0 : Int32)).toNatClampNeg) := inb_of S2 ⟨by decide, by decide⟩
  obtain ⟨T2, h2, X2, e2, W2, st2⟩ := stB X0 hx hZ e0 Ar2 (j := (0 : Int32)) hin2 (g := (mkF m 31 #[rv a1, iv 0, rv a3, iv 0, iv 3, iv 0, iv c0] [.int (c0.toInt8.toInt32), .int 0, .ref a3])) rfl rfl (hb hby d9_31)
  rw [own_narB] at W2
  have V2 : Arv Z h2 a3 kb .byte (3 : Int32) [(.int (c0.toInt8.toInt32)), (.int 0), (.int 0)] (.int 0) := Arv.set Ar2 q2 S2 M2 H2 G2 (fits_nar_byte _) W2 0 rfl (Nat.le_of_ble_eq_true rfl)
  have Nf2 := Fr.snoc X2 N0 g_a3
  have K2 : Keep h0 h2 [a3] := (Keep.refl h0 [a3]).wr W2 (Or.inl (List.mem_of_getElem? (i := 0) rfl))
  have Z2 : n0 ≤ h2.size := Nat.le_trans Z0 (Keep.of_wr W2).1
  refine own_fw (A' := (T2.setTop (mkF m 12 #[rv a1, iv 1, rv a3, iv 1, iv 3, iv 1, iv c0] [.int 1, .ref a1]))) (fun t k => st2 _ (XS.iinc X2.here hx rfl (hb hby d9_32) rfl (l' := #[rv a1, iv 1, rv a3, iv 0, iv 3, iv 0, iv c0]) rfl (XS.iinc X2.here hx rfl (hb hby d9_35) rfl (l' := #[rv a1, iv 1, rv a3, iv 1, iv 3, iv 0, iv c0]) rfl (XS.iinc X2.here hx rfl (hb hby d9_38) rfl (l' := #[rv a1, iv 1, rv a3, iv 1, iv 3, iv 1, iv c0]) rfl (XS.goto X2.here hx rfl (pc0 := 41) (pc' := 3) rfl (hb hby d9_41) (by decide) (by decide) (XS.iload X2.here hx rfl (hb hby d9_3) rfl (XS.iload X2.here hx rfl (hb hby d9_5) rfl (XS.icmpNo X2.here hx rfl (hb hby d9_7) rfl (XT.ii_ge_f (by decide)) (XS.aloadN X2.here hx rfl (hb hby d9_10) rfl rfl (XS.iloadN X2.here hx rfl (hb hby d9_11) rfl k)))))))))) ?_
  obtain ⟨cl3, Ar3, q3, S3, M3, H3, G3⟩ := id (P0.other W2 ne_a1_a3)
  have hin3 : ¬ ((1 : Int32) < 0 ∨ cl3.slots.size ≤ ((1 : Int32)).toNatClampNeg) := inb_of S3 ⟨by decide, by decide⟩
  have hat3 : cl3.slots[((1 : Int32)).toNatClampNeg]? = some (.int c1) := H3.at hin3 rfl
  refine own_fw (A' := (T2.setTop (mkF m 31 #[rv a1, iv 1, rv a3, iv 1, iv 3, iv 1, iv c1] [.int (c1.toInt8.toInt32), .int 1, .ref a3]))) (fun t k => X2.caload hx (j := (1 : Int32)) (v := (.int c1)) (by rw [e2]; exact Ar3.1) (State.isArrayOf_alike hZ.alike Ar3.2.1) Ar3.2.2 hin3 hat3 (g := (mkF m 12 #[rv a1, iv 1, rv a3, iv 1, iv 3, iv 1, iv c0] [.int 1, .ref a1])) rfl rfl (hb hby d9_12) _ (XS.istore X2.here hx rfl (hb hby d9_13) rfl (l' := #[rv a1, iv 1, rv a3, iv 1, iv 3, iv 1, iv c1]) rfl (XS.iload X2.here hx rfl (hb hby d9_15) rfl (XS.sipush X2.here hx rfl (hb hby d9_17) (XS.icmpYes X2.here hx rfl (pc0 := 20) (pc' := 26) rfl (hb hby d9_20) rfl (XT.ii_le_t hc1) (by decide) (by decide) (XS.aloadN X2.here hx rfl (hb hby d9_26) rfl rfl (XS.iloadN X2.here hx rfl (hb hby d9_27) rfl (XS.iload X2.here hx rfl (hb hby d9_28) rfl (XS.i2b X2.here hx rfl (hb hby d9_30) rfl k))))))))) ?_
  obtain ⟨cl4, Ar4, q4, S4, M4, H4, G4⟩ := id V2
  have hin4 : ¬ ((1 : Int32) < 0 ∨ cl4.slots.size ≤ ((1 : Int32)).toNatClampNeg) := inb_of S4 ⟨by decide, by decide⟩
  obtain ⟨T4, h4, X4, e4, W4, st4⟩ := stB X2 hx hZ e2 Ar4 (j := (1 : Int32)) hin4 (g := (mkF m 31 #[rv a1, iv 1, rv a3, iv 1, iv 3, iv 1, iv c1] [.int (c1.toInt8.toInt32), .int 1, .ref a3])) rfl rfl (hb hby d9_31)
  rw [own_narB] at W4
  have V4 : Arv Z h4 a3 kb .byte (3 : Int32) [(.int (c0.toInt8.toInt32)), (.int (c1.toInt8.toInt32)), (.int 0)] (.int 0) := Arv.set Ar4 q4 S4 M4 H4 G4 (fits_nar_byte _) W4 1 rfl (Nat.le_of_ble_eq_true rfl)
  have Nf4 := Fr.snoc X4 Nf2 g_a3
  have K4 : Keep h0 h4 [a3] := K2.wr W4 (Or.inl (List.mem_of_getElem? (i := 0) rfl))
  have Z4 : n0 ≤ h4.size := Nat.le_trans Z2 (Keep.of_wr W4).1
  refine own_fw (A' := (T4.setTop (mkF m 12 #[rv a1, iv 2, rv a3, iv 2, iv 3, iv 2, iv c1] [.int 2, .ref a1]))) (fun t k => st4 _ (XS.iinc X4.here hx rfl (hb hby d9_32) rfl (l' := #[rv a1, iv 2, rv a3, iv 1, iv 3, iv 1, iv c1]) rfl (XS.iinc X4.here hx rfl (hb hby d9_35) rfl (l' := #[rv a1, iv 2, rv a3, iv 2, iv 3, iv 1, iv c1]) rfl (XS.iinc X4.here hx rfl (hb hby d9_38) rfl (l' := #[rv a1, iv 2, rv a3, iv 2, iv 3, iv 2, iv c1]) rfl (XS.goto X4.here hx rfl (pc0 := 41) (pc' := 3) rfl (hb hby d9_41) (by decide) (by decide) (XS.iload X4.here hx rfl (hb hby d9_3) rfl (XS.iload X4.here hx rfl (hb hby d9_5) rfl (XS.icmpNo X4.here hx rfl (hb hby d9_7) rfl (XT.ii_ge_f (by decide)) (XS.aloadN X4.here hx rfl (hb hby d9_10) rfl rfl (XS.iloadN X4.here hx rfl (hb hby d9_11) rfl k)))))))))) ?_
  obtain ⟨cl5, Ar5, q5, S5, M5, H5, G5⟩ := id ((P0.other W2 ne_a1_a3).other W4 ne_a1_a3)
  have hin5 : ¬ ((2 : Int32) < 0 ∨ cl5.slots.size ≤ ((2 : Int32)).toNatClampNeg) := inb_of S5 ⟨by decide, by decide⟩
  have hat5 : cl5.slots[((2 : Int32)).toNatClampNeg]? = some (.int c2) := H5.at hin5 rfl
  refine own_fw (A' := (T4.setTop (mkF m 31 #[rv a1, iv 2, rv a3, iv 2, iv 3, iv 2, iv c2] [.int (c2.toInt8.toInt32), .int 2, .ref a3]))) (fun t k => X4.caload hx (j := (2 : Int32)) (v := (.int c2)) (by rw [e4]; exact Ar5.1) (State.isArrayOf_alike hZ.alike Ar5.2.1) Ar5.2.2 hin5 hat5 (g := (mkF m 12 #[rv a1, iv 2, rv a3, iv 2, iv 3, iv 2, iv c1] [.int 2, .ref a1])) rfl rfl (hb hby d9_12) _ (XS.istore X4.here hx rfl (hb hby d9_13) rfl (l' := #[rv a1, iv 2, rv a3, iv 2, iv 3, iv 2, iv c2]) rfl (XS.iload X4.here hx rfl (hb hby d9_15) rfl (XS.sipush X4.here hx rfl (hb hby d9_17) (XS.icmpYes X4.here hx rfl (pc0 := 20) (pc' := 26) rfl (hb hby d9_20) rfl (XT.ii_le_t hc2) (by decide) (by decide) (XS.aloadN X4.here hx rfl (hb hby d9_26) rfl rfl (XS.iloadN X4.here hx rfl (hb hby d9_27) rfl (XS.iload X4.here hx rfl (hb hby d9_28) rfl (XS.i2b X4.here hx rfl (hb hby d9_30) rfl k))))))))) ?_
  obtain ⟨cl6, Ar6, q6, S6, M6, H6, G6⟩ := id V4
  have hin6 : ¬ ((2 : Int32) < 0 ∨ cl6.slots.size ≤ ((2 : Int32)).toNatClampNeg) := inb_of S6 ⟨by decide, by decide⟩
  obtain ⟨T6, h6, X6, e6, W6, st6⟩ := stB X4 hx hZ e4 Ar6 (j := (2 : Int32)) hin6 (g := (mkF m 31 #[rv a1, iv 2, rv a3, iv 2, iv 3, iv 2, iv c2] [.int (c2.toInt8.toInt32), .int 2, .ref a3])) rfl rfl (hb hby d9_31)
  rw [own_narB] at W6
  have V6 : Arv Z h6 a3 kb .byte (3 : Int32) [(.int (c0.toInt8.toInt32)), (.int (c1.toInt8.toInt32)), (.int (c2.toInt8.toInt32))] (.int 0) := Arv.set Ar6 q6 S6 M6 H6 G6 (fits_nar_byte _) W6 2 rfl (Nat.le_of_ble_eq_true rfl)
  have Nf6 := Fr.snoc X6 Nf4 g_a3
  have K6 : Keep h0 h6 [a3] := K4.wr W6 (Or.inl (List.mem_of_getElem? (i := 0) rfl))
  have Z6 : n0 ≤ h6.size := Nat.le_trans Z4 (Keep.of_wr W6).1
  refine own_fw (A' := (T6.setTop (mkF m 46 #[rv a1, iv 3, rv a3, iv 3, iv 3, iv 3, iv c2] [.int 3]))) (fun t k => st6 _ (XS.iinc X6.here hx rfl (hb hby d9_32) rfl (l' := #[rv a1, iv 3, rv a3, iv 2, iv 3, iv 2, iv c2]) rfl (XS.iinc X6.here hx rfl (hb hby d9_35) rfl (l' := #[rv a1, iv 3, rv a3, iv 3, iv 3, iv 2, iv c2]) rfl (XS.iinc X6.here hx rfl (hb hby d9_38) rfl (l' := #[rv a1, iv 3, rv a3, iv 3, iv 3, iv 3, iv c2]) rfl (XS.goto X6.here hx rfl (pc0 := 41) (pc' := 3) rfl (hb hby d9_41) (by decide) (by decide) (XS.iload X6.here hx rfl (hb hby d9_3) rfl (XS.iload X6.here hx rfl (hb hby d9_5) rfl (XS.icmpYes X6.here hx rfl (pc0 := 7) (pc' := 44) rfl (hb hby d9_7) rfl (XT.ii_ge_t (by decide)) (by decide) (by decide) (XS.iload X6.here hx rfl (hb hby d9_44) rfl k))))))))) ?_
  obtain ⟨fs, hr, hrun, hended, hW, hsame⟩ := X6.leave (v := some (.int 3)) (fun h => by rw [Bd.returns] at h; cases h)
  refine ⟨_, _, ?_, hrun, hended, _, _, rfl, ?_, ⟨_, rfl⟩, hW, hsame.mono (by decide) (by decide)⟩
  · exact retOut X6 hx Bd.returns rfl (Or.inl ⟨rfl, by simp, _, rfl⟩) (hb hby d9_46) hr
  · show Q_rmCmpA3 Z a1 a3 kc kb c0 c1 c2 h0 n0 _ T6.heap _
    rw [e6]
    exact ⟨rfl, Nf6, K6, V6⟩
theorem ef_rmCmpB3 (m : MethodId) (a1 : Addr) : entryFrame m #[(.ref a1), (.int 0), (.int 3)] 6 = mkF m 0 #[.val (.ref a1), .val (.int 0), .val (.int 3), .unset, .unset, .unset] [] := by first | (simp [entryFrame, mkF, argsToLocals, Value.category]; done) | rfl
def Q_rmCmpB3 (Z : State) (a1 : Addr) (kc : ClassId) (c0 c1 c2 : Int32) (h0 : Heap) (n0 : Nat) (v : Option Value) (h : Heap) (L : List Loc) : Prop := ∃ b : Addr, ∃ kb : ClassId, v = some (.ref b) ∧ Fr n0 L ∧ Keep h0 h [] ∧ Arv Z h b kb .byte (3 : Int32) [(.int (c0.toInt8.toInt32)), (.int (c1.toInt8.toInt32)), (.int (c2.toInt8.toInt32))] (.int 0) ∧ (h0.size ≤ b)
theorem rmCmpB3 (l : Launch) (Z : State) (a0 : Array Value) (hw : ∀ d ∈ tables_1, d.before a0 Z = true) (ws : List Jvm.Cond) (a1 : Addr) (kc : ClassId) (c0 c1 c2 : Int32) (h0 : Heap) (n0 : Nat) (Z0 : n0 ≤ h0.size) (P0 : Arv Z h0 a1 kc .char (3 : Int32) [(.int c0), (.int c1), (.int c2)] (.int 0)) (hc0 : ¬ ((255 : Int32) < c0)) (hc1 : ¬ ((255 : Int32) < c1)) (hc2 : ¬ ((255 : Int32) < c2)) :
    MetFree l yq4 (head1 (Jvm.Cond.code yq4 jdk_52_method_16_code 6 (some (.array .byte)) :: ws) rq13) (fun a U => a = #[(.ref a1), (.int 0), (.int 3)] ∧ Z.Warmed39 U.vm ∧ U.heap = h0) (fun _ _ _ _ _ => True) (fun _ U o U' => ∃ v L, o = .returned v ∧ Q_rmCmpB3 Z a1 kc c0 c1 c2 h0 n0 v U'.heap L ∧ FrameEnd U o U' L rq13.cells rq13.slots) := by
  refine MetFree.of_bodySF (plainFor_of_name pn_java_lang_StringUTF16) hisR ?_
  intro p e s m args below meth c s₁ Bd hml0 hP hK
  obtain ⟨rfl, hZ, hh⟩ := hP
  have hx := Bd.exec
  have hby := Bd.bytes
  have hml : c.maxLocals = 6 := hml0
  have hown : s.vm.findClass "java/lang/StringUTF16" = some m.cls := findClass_of_methodNamed Bd.named
  have hnm := (name_of_methodNamed Bd.named Bd.method).1
  have X0 : Stand p l e rq13 s m #[(.ref a1), (.int 0), (.int 3)] below meth c s₁ [] 0 0 := Stand.of_body Bd
  have e0 : s₁.heap = h0 := by rw [← hh, Bd.state]; rfl
  have N0 := Fr.nil n0
  refine own_fw (A' := (s₁.setTop (mkF m 1 #[rv a1, iv 0, iv 3, .unset, .unset, .unset] [.int 3]))) (fun t k => castTop (ef_rmCmpB3 m a1) (XS.iloadN X0.here hx rfl (hb hby d8_0) rfl k)) ?_
  obtain ⟨T1, h1, k1, X1, e1, E1, A1, st1⟩ := newP X0 hx hZ (own_w hw 37 rfl) e0 (g := (mkF m 1 #[rv a1, iv 0, iv 3, .unset, .unset, .unset] [.int 3])) rfl (hb hby d8_1) rfl (by decide) (cap := 3) (by decide) (by decide) (by decide) (by decide)
  obtain ⟨b1, gb1⟩ : ∃ z, z = h0.size := ⟨_, rfl⟩
  have g_b1 : n0 ≤ b1 := Nat.le_trans Z0 (Nat.le_of_eq gb1.symm)
  have sz_b1 : h0.size ≤ b1 := Nat.le_trans (Keep.refl h0 []).1 (Nat.le_of_eq gb1.symm)
  have ne_a1_b1 : a1 ≠ b1 := Nat.ne_of_lt (Nat.lt_of_lt_of_le P0.lt (Nat.le_of_eq gb1.symm))
  rw [← gb1] at A1 st1
  have V_b1 : Arv Z h1 b1 k1 .byte (3 : Int32) [(.int 0), (.int 0), (.int 0)] (.int 0) := (Arv.new A1 (by decide)).pad (pad_rep [] (.int 0) 3)
  have K1 : Keep h0 h1 [] := (Keep.refl h0 []).ext E1
  have Z1 : n0 ≤ h1.size := Nat.le_trans Z0 E1.1
  refine own_fw (A' := (T1.setTop (mkF m 9 #[rv a1, iv 0, iv 3, rv b1, .unset, .unset] [.int 3, .int 0, .ref b1, .int 0, .ref a1]))) (fun t k => st1 _ (XS.astoreN X1.here hx rfl (hb hby d8_3) rfl rfl (l' := #[rv a1, iv 0, iv 3, rv b1, .unset, .unset]) rfl (XS.aloadN X1.here hx rfl (hb hby d8_4) rfl rfl (XS.iloadN X1.here hx rfl (hb hby d8_5) rfl (XS.aloadN X1.here hx rfl (hb hby d8_6) rfl rfl (XS.iconst X1.here hx rfl (hb hby d8_7) (XS.iloadN X1.here hx rfl (hb hby d8_8) rfl k))))))) ?_
  obtain ⟨_, _, ⟨T2, L2, k2, n2⟩, -, X2, ⟨Lc2, hQ2, l2, y2, z2⟩, st2⟩ := Jvm.LawKit.callS X1 hx (y := yq2) hown (mvT hZ (own_w hw 38 rfl)) (mvT hZ (own_w hw 39 rfl)) (mvT hZ (own_w hw 35 rfl)) (mvT hZ (own_w hw 40 rfl)) (by decide) (backOf (W := 0) (rmCmpA3 l Z a0 hw [] a1 b1 kc k1 c0 c1 c2 h1 n0 Z1 (P0.ext E1) V_b1 g_b1 ne_a1_b1 hc0 hc1 hc2) hZ (own_w hw 40 rfl) (own_w hw 35 rfl) (by decide) (by decide)) (g := (mkF m 9 #[rv a1, iv 0, iv 3, rv b1, .unset, .unset] [.int 3, .int 0, .ref b1, .int 0, .ref a1])) rfl (by rw [hml]; rfl) (argsL := [(.ref a1), (.int 0), (.ref b1), (.int 0), (.int 3)]) (rest := []) (lenOf pd___CI_BII_I rfl) rfl (by show 2 * 0 + _ ≤ _; exact Nat.le_of_eq rfl) (hb hby d8_9) (fun _ _ => ⟨rfl, e1, (by decide : 1 + 0 ≤ _), (by decide : 3 + 0 ≤ _)⟩)
  dsimp only [Pt.U, Pt.locs, Pt.cells, Pt.slots] at X2 l2 y2 z2 st2 hQ2
  subst l2 y2 z2
  obtain ⟨rfl, Nq2, Kq2, Fq2_0⟩ := hQ2
  have Nf2 := Fr.app N0 Nq2
  have K2 : Keep h0 T2.heap [] := K1.trans Kq2 (allS (Or.inr sz_b1) all0)
  have Z2 : n0 ≤ T2.heap.size := Nat.le_trans Z1 Kq2.1
  refine own_fw (A' := (T2.setTop (mkF m 58 #[rv a1, iv 0, iv 3, rv b1, iv 3, .unset] [.ref b1]))) (fun t k => st2 _ (XS.istore X2.here hx rfl (hb hby d8_12) rfl (l' := #[rv a1, iv 0, iv 3, rv b1, iv 3, .unset]) rfl (XS.iload X2.here hx rfl (hb hby d8_14) rfl (XS.iloadN X2.here hx rfl (hb hby d8_16) rfl (XS.icmpYes X2.here hx rfl (pc0 := 17) (pc' := 57) rfl (hb hby d8_17) rfl (XT.ii_eq_t rfl) (by decide) (by decide) (XS.aloadN X2.here hx rfl (hb hby d8_57) rfl rfl k)))))) ?_
  obtain ⟨fs, hr, hrun, hended, hW, hsame⟩ := X2.leave (v := some (.ref b1)) (fun h => by rw [Bd.returns] at h; cases h)
  refine ⟨_, _, ?_, hrun, hended, _, _, rfl, ?_, ⟨_, rfl⟩, hW, hsame.mono (by decide) (by decide)⟩
  · exact retOut X2 hx Bd.returns rfl (Or.inr (Or.inr (Or.inr (Or.inr ⟨rfl, rfl, rfl⟩)))) (hb hby d8_58) hr
  · show Q_rmCmpB3 Z a1 kc c0 c1 c2 h0 n0 _ T2.heap _
    exact ⟨b1, k1, rfl, Nf2, K2, Fq2_0, sz_b1⟩
theorem ef_rmCoder3 (m : MethodId) (a1 : Addr) : entryFrame m #[(.ref a1), (.int 3)] 2 = mkF m 0 #[.val (.ref a1), .val (.int 3)] [] := by first | (simp [entryFrame, mkF, argsToLocals, Value.category]; done) | rfl
def Q_rmCoder3 (Z : State) (a1 : Addr) (kb : ClassId) (c0 c1 c2 : Int32) (h0 : Heap) (n0 : Nat) (v : Option Value) (h : Heap) (L : List Loc) : Prop := v = some (.int 0) ∧ Fr n0 L ∧ h = h0
theorem rmCoder3 (l : Launch) (Z : State) (a0 : Array Value) (hw : ∀ d ∈ tables_1, d.before a0 Z = true) (ws : List Jvm.Cond) (a1 : Addr) (kb : ClassId) (c0 c1 c2 : Int32) (h0 : Heap) (n0 : Nat) (Z0 : n0 ≤ h0.size) (P0 : Arv Z h0 a1 kb .byte (3 : Int32) [(.int c0), (.int c1), (.int c2)] (.int 0)) :
    MetFree l yq5 (head1 (Jvm.Cond.code yq5 jdk_52_method_15_code 2 (some .byte) :: ws) rq0) (fun a U => a = #[(.ref a1), (.int 3)] ∧ Z.Warmed39 U.vm ∧ U.heap = h0) (fun _ _ _ _ _ => True) (fun _ U o U' => ∃ v L, o = .returned v ∧ Q_rmCoder3 Z a1 kb c0 c1 c2 h0 n0 v U'.heap L ∧ FrameEnd U o U' L rq0.cells rq0.slots) := by
  refine MetFree.of_bodySF (plainFor_of_name pn_java_lang_StringUTF16) hisR ?_
  intro p e s m args below meth c s₁ Bd hml0 hP hK
  obtain ⟨rfl, hZ, hh⟩ := hP
  have hx := Bd.exec
  have hby := Bd.bytes
  have hml : c.maxLocals = 2 := hml0
  have hown : s.vm.findClass "java/lang/StringUTF16" = some m.cls := findClass_of_methodNamed Bd.named
  have hnm := (name_of_methodNamed Bd.named Bd.method).1
  have X0 : Stand p l e rq0 s m #[(.ref a1), (.int 3)] below meth c s₁ [] 0 0 := Stand.of_body Bd
  have e0 : s₁.heap = h0 := by rw [← hh, Bd.state]; rfl
  have N0 := Fr.nil n0
  refine own_fw (A' := (s₁.setTop (mkF m 2 #[rv a1, iv 3] [.ref a1, .int 3]))) (fun t k => castTop (ef_rmCoder3 m a1) (XS.iloadN X0.here hx rfl (hb hby d15_0) rfl (XS.aloadN X0.here hx rfl (hb hby d15_1) rfl rfl k))) ?_
  obtain ⟨cl1, Ar1, q1, S1, M1, H1, G1⟩ := id P0
  refine own_fw (A' := (s₁.setTop (mkF m 3 #[rv a1, iv 3] [.int 3, .int 3]))) (fun t k => X0.arraylength hx (by rw [e0]; exact Ar1.1) (State.isArrayOf_alike hZ.alike Ar1.2.1) (g := (mkF m 2 #[rv a1, iv 3] [.ref a1, .int 3])) rfl rfl (hb hby d15_2) _ (by rw [len_of S1 M1]; exact k)) ?_
  refine own_fw (A' := (s₁.setTop (mkF m 8 #[rv a1, iv 3] [.int 0]))) (fun t k => XS.isub X0.here hx rfl (hb hby d15_3) rfl (XS.bipush X0.here hx rfl (hb hby d15_4) (XS.iushr X0.here hx rfl (hb hby d15_6) rfl (XS.i2b X0.here hx rfl (hb hby d15_7) rfl k)))) ?_
  obtain ⟨fs, hr, hrun, hended, hW, hsame⟩ := X0.leave (v := some (.int 0)) (fun h => by rw [Bd.returns] at h; cases h)
  refine ⟨_, _, ?_, hrun, hended, _, _, rfl, ?_, ⟨_, rfl⟩, hW, hsame.mono (by decide) (by decide)⟩
  · exact retOut X0 hx Bd.returns rfl (Or.inl ⟨rfl, by simp, _, rfl⟩) (hb hby d15_8) hr
  · show Q_rmCoder3 Z a1 kb c0 c1 c2 h0 n0 _ s₁.heap _
    rw [e0]
    exact ⟨rfl, N0, rfl⟩
theorem ef_rmStrB3 (m : MethodId) (a1 a2 : Addr) : entryFrame m #[(.ref a1), (.ref a2), (.int 0), (.int 3), .null] 6 = mkF m 0 #[.val (.ref a1), .val (.ref a2), .val (.int 0), .val (.int 3), .val .null, .unset] [] := by first | (simp [entryFrame, mkF, argsToLocals, Value.category]; done) | rfl
def Q_rmStrB3 (Z : State) (a1 a2 : Addr) (kc : ClassId) (cs c0 c1 c2 : Int32) (h0 : Heap) (n0 : Nat) (v : Option Value) (h : Heap) (L : List Loc) : Prop := ∃ b : Addr, ∃ kb : ClassId, v = none ∧ Fr n0 L ∧ Keep h0 h [a1] ∧ Exa Z h a1 "java/lang/String" ∧ Fld Z h a1 "java/lang/String" "coder" "B" (.int 0) ∧ Fld Z h a1 "java/lang/String" "value" "[B" (.ref b) ∧ Arv Z h b kb .byte (3 : Int32) [(.int (c0.toInt8.toInt32)), (.int (c1.toInt8.toInt32)), (.int (c2.toInt8.toInt32))] (.int 0)
theorem rmStrB3 (l : Launch) (Z : State) (a0 : Array Value) (hw : ∀ d ∈ tables_1, d.before a0 Z = true) (ws : List Jvm.Cond) (a1 a2 : Addr) (kc : ClassId) (cs c0 c1 c2 : Int32) (h0 : Heap) (n0 : Nat) (Z0 : n0 ≤ h0.size) (P0 : Exa Z h0 a1 "java/lang/String") (P1 : Fld Z h0 a1 "java/lang/String" "coder" "B" (.int 0)) (P2 : Fld Z h0 a1 "java/lang/String" "value" "[B" .null) (P3 : Arv Z h0 a2 kc .char (3 : Int32) [(.int c0), (.int c1), (.int c2)] (.int 0)) (g_a1 : n0 ≤ a1) (ne_a1_a2 : a1 ≠ a2) (P6 : Sta Z h0 "java/lang/String" "COMPACT_STRINGS" "Z" (.int cs)) (hcs : ¬ (cs = (0 : Int32))) (hc0 : ¬ ((255 : Int32) < c0)) (hc1 : ¬ ((255 : Int32) < c1)) (hc2 : ¬ ((255 : Int32) < c2)) :
    MetFree l yq7 (head1 (Jvm.Cond.code yq7 jdk_42_method_149_code 6 none :: ws) rq14) (fun a U => a = #[(.ref a1), (.ref a2), (.int 0), (.int 3), .null] ∧ Z.Warmed39 U.vm ∧ U.heap = h0) (fun _ _ _ _ _ => True) (fun _ U o U' => ∃ v L, o = .returned v ∧ Q_rmStrB3 Z a1 a2 kc cs c0 c1 c2 h0 n0 v U'.heap L ∧ FrameEnd U o U' L rq14.cells rq14.slots) := by
  refine MetFree.of_bodySF (plainFor_of_name pn_java_lang_String) hisR ?_
  intro p e s m args below meth c s₁ Bd hml0 hP hK
  obtain ⟨rfl, hZ, hh⟩ := hP
  have hx := Bd.exec
  have hby := Bd.bytes
  have hml : c.maxLocals = 6 := hml0
  have hown : s.vm.findClass "java/lang/String" = some m.cls := findClass_of_methodNamed Bd.named
  have hnm := (name_of_methodNamed Bd.named Bd.method).1
  have X0 : Stand p l e rq14 s m #[(.ref a1), (.ref a2), (.int 0), (.int 3), .null] below meth c s₁ [] 0 0 := Stand.of_body Bd
  have e0 : s₁.heap = h0 := by rw [← hh, Bd.state]; rfl
  have N0 := Fr.nil n0
  refine own_fw (A' := (s₁.setTop (mkF m 1 #[rv a1, rv a2, iv 0, iv 3, .val (.null), .unset] [.ref a1]))) (fun t k => castTop (ef_rmStrB3 m a1 a2) (XS.aloadN X0.here hx rfl (hb hby d6_0) rfl rfl k)) ?_
  obtain ⟨T1, X1, e1, st1⟩ := initO X0 hx hZ hown (own_w hw 29 rfl) (own_w hw 30 rfl) (own_w hw 31 rfl) e0 (g := (mkF m 1 #[rv a1, rv a2, iv 0, iv 3, .val (.null), .unset] [.ref a1])) rfl (by rw [hml]; rfl) rfl (hb hby d6_1) (by decide) (W := 0) (by show 2 * 0 + _ ≤ _; exact Nat.le_of_eq rfl) (by decide)
  refine own_fw (A' := (T1.setTop (mkF m 27 #[rv a1, rv a2, iv 0, iv 3, .val (.null), .unset] []))) (fun t k => st1 _ (XS.iloadN X1.here hx rfl (hb hby d6_4) rfl (XS.ifYes X1.here hx rfl (pc0 := 5) (pc' := 27) rfl (hb hby d6_5) rfl (XT.i0_ne_t (by decide)) (by decide) (by decide) k))) ?_
  obtain ⟨T2, X2, e2, st2⟩ := getS2 X1 hx hZ hown (host := "") (Or.inl (own_w hw 32 rfl)) Via.refl e1 P6 (g := (mkF m 27 #[rv a1, rv a2, iv 0, iv 3, .val (.null), .unset] [])) rfl (hb hby d6_27)
  refine own_fw (A' := (T2.setTop (mkF m 36 #[rv a1, rv a2, iv 0, iv 3, .val (.null), .unset] [.int 3, .int 0, .ref a2]))) (fun t k => st2 _ (XS.ifNo X2.here hx rfl (hb hby d6_30) rfl (XT.i0_eq_f hcs) (XS.aloadN X2.here hx rfl (hb hby d6_33) rfl rfl (XS.iloadN X2.here hx rfl (hb hby d6_34) rfl (XS.iloadN X2.here hx rfl (hb hby d6_35) rfl k))))) ?_
  obtain ⟨_, _, ⟨T3, L3, k3, n3⟩, -, X3, ⟨Lc3, hQ3, l3, y3, z3⟩, st3⟩ := Jvm.LawKit.callS X2 hx (y := yq4) hown (mvT hZ (own_w hw 33 rfl)) (mvT hZ (own_w hw 34 rfl)) (mvT hZ (own_w hw 35 rfl)) (mvT hZ (own_w hw 36 rfl)) (by decide) (backOf (W := 0) (rmCmpB3 l Z a0 hw [] a2 kc c0 c1 c2 h0 n0 Z0 P3 hc0 hc1 hc2) hZ (own_w hw 36 rfl) (own_w hw 35 rfl) (by decide) (by decide)) (g := (mkF m 36 #[rv a1, rv a2, iv 0, iv 3, .val (.null), .unset] [.int 3, .int 0, .ref a2])) rfl (by rw [hml]; rfl) (argsL := [(.ref a2), (.int 0), (.int 3)]) (rest := []) (lenOf pd___CII__B rfl) rfl (by show 2 * 0 + _ ≤ _; exact Nat.le_of_eq rfl) (hb hby d6_36) (fun _ _ => ⟨rfl, e2, (by decide : 0 + 1 ≤ _), (by decide : 0 + 3 ≤ _)⟩)
  dsimp only [Pt.U, Pt.locs, Pt.cells, Pt.slots] at X3 l3 y3 z3 st3 hQ3
  subst l3 y3 z3
  obtain ⟨b_3, kb_3, rfl, Nq3, Kq3, Fq3_0, gb_3⟩ := hQ3
  have Nf3 := Fr.app N0 Nq3
  have K3 : Keep h0 T3.heap [a1] := (Keep.refl h0 [a1]).trans Kq3 all0
  have sz_b_3 : h0.size ≤ b_3 := Nat.le_trans (Keep.refl h0 [a1]).1 gb_3
  have g_b_3 : n0 ≤ b_3 := Nat.le_trans Z0 gb_3
  have ne_a1_b_3 : a1 ≠ b_3 := Nat.ne_of_lt (Nat.lt_of_lt_of_le P0.lt gb_3)
  have ne_a2_b_3 : a2 ≠ b_3 := Nat.ne_of_lt (Nat.lt_of_lt_of_le P3.lt gb_3)
  have Z3 : n0 ≤ T3.heap.size := Nat.le_trans Z0 Kq3.1
  refine own_fw (A' := (T3.setTop (mkF m 45 #[rv a1, rv a2, iv 0, iv 3, .val (.null), rv b_3] [.int 3, .ref b_3, .ref a1]))) (fun t k => st3 _ (XS.astore X3.here hx rfl (hb hby d6_39) rfl rfl (l' := #[rv a1, rv a2, iv 0, iv 3, .val (.null), rv b_3]) rfl (XS.aloadN X3.here hx rfl (hb hby d6_41) rfl rfl (XS.aload X3.here hx rfl (hb hby d6_42) rfl rfl (XS.iloadN X3.here hx rfl (hb hby d6_44) rfl k))))) ?_
  obtain ⟨_, _, ⟨T4, L4, k4, n4⟩, -, X4, ⟨Lc4, hQ4, l4, y4, z4⟩, st4⟩ := Jvm.LawKit.callS X3 hx (y := yq5) hown (mvT hZ (own_w hw 60 rfl)) (mvT hZ (own_w hw 61 rfl)) (mvT hZ (own_w hw 35 rfl)) (mvT hZ (own_w hw 62 rfl)) (by decide) (backOf (W := 1) (rmCoder3 l Z a0 hw [] b_3 kb_3 (c0.toInt8.toInt32) (c1.toInt8.toInt32) (c2.toInt8.toInt32) T3.heap n0 Z3 Fq3_0) hZ (own_w hw 62 rfl) (own_w hw 35 rfl) (by decide) (by decide)) (g := (mkF m 45 #[rv a1, rv a2, iv 0, iv 3, .val (.null), rv b_3] [.int 3, .ref b_3, .ref a1])) rfl (by rw [hml]; rfl) (argsL := [(.ref b_3), (.int 3)]) (rest := [(.ref a1)]) (lenOf pd___BI_B rfl) rfl (by show 2 * 0 + _ ≤ _; exact Nat.le_of_eq rfl) (hb hby d6_45) (fun _ _ => ⟨rfl, rfl, (by decide : 1 + 0 ≤ _), (by decide : 3 + 0 ≤ _)⟩)
  dsimp only [Pt.U, Pt.locs, Pt.cells, Pt.slots] at X4 l4 y4 z4 st4 hQ4
  subst l4 y4 z4
  obtain ⟨rfl, Nq4, e4⟩ := hQ4
  have Nf4 := Fr.app Nf3 Nq4
  refine own_fw (A' := (T4.setTop (mkF m 48 #[rv a1, rv a2, iv 0, iv 3, .val (.null), rv b_3] [.int 0, .ref a1]))) (fun t k => st4 _ k) ?_
  obtain ⟨T5, h5, X5, e5, W5, st5⟩ := putFN X4 hx hZ hown (own_w hw 63 rfl) Via.refl e4 (P1.keep Kq3 nin0) (P0.keep Kq3) (Or.inr ⟨(own_w hw 64 rfl), rfl, hnm⟩) (own_w hw 20 rfl) (ty := .byte) (v' := (.int 0)) (by decide) rfl rfl (g := (mkF m 48 #[rv a1, rv a2, iv 0, iv 3, .val (.null), rv b_3] [.int 0, .ref a1])) rfl rfl (hb hby d6_48)
  have Fw5 : Fld Z h5 a1 "java/lang/String" "coder" "B" (.int 0) := (P1.keep Kq3 nin0).same W5
  have Nf5 := Fr.snoc X5 Nf4 g_a1
  have K5 : Keep h0 h5 [a1] := K3.wr W5 (Or.inl (List.mem_of_getElem? (i := 0) rfl))
  have Z5 : n0 ≤ h5.size := Nat.le_trans Z3 (Keep.of_wr W5).1
  refine own_fw (A' := (T5.setTop (mkF m 54 #[rv a1, rv a2, iv 0, iv 3, .val (.null), rv b_3] [.ref b_3, .ref a1]))) (fun t k => st5 _ (XS.aloadN X5.here hx rfl (hb hby d6_51) rfl rfl (XS.aload X5.here hx rfl (hb hby d6_52) rfl rfl k))) ?_
  obtain ⟨T6, h6, X6, e6, W6, st6⟩ := putF X5 hx hZ hown (host := "") (Or.inl (own_w hw 65 rfl)) Via.refl e5 ((P2.keep Kq3 nin0).other W5 (Or.inr (slot_ne (Or.inr (own_w hw 66 rfl)) (Or.inr (own_w hw 64 rfl)) (by decide) (t := (.array .byte)) (t' := .byte) (by decide) (by decide)))) ((P0.keep Kq3).wr W5) (Or.inr ⟨(own_w hw 66 rfl), rfl, hnm⟩) (own_w hw 20 rfl) (ty := (.array .byte)) (by decide) rfl rfl (g := (mkF m 54 #[rv a1, rv a2, iv 0, iv 3, .val (.null), rv b_3] [.ref b_3, .ref a1])) rfl rfl (hb hby d6_54)
  have Fw6 : Fld Z h6 a1 "java/lang/String" "value" "[B" (.ref b_3) := ((P2.keep Kq3 nin0).other W5 (Or.inr (slot_ne (Or.inr (own_w hw 66 rfl)) (Or.inr (own_w hw 64 rfl)) (by decide) (t := (.array .byte)) (t' := .byte) (by decide) (by decide)))).same W6
  have Nf6 := Fr.snoc X6 Nf5 g_a1
  have K6 : Keep h0 h6 [a1] := K5.wr W6 (Or.inl (List.mem_of_getElem? (i := 0) rfl))
  have Z6 : n0 ≤ h6.size := Nat.le_trans Z5 (Keep.of_wr W6).1
  refine own_fw (A' := (T6.setTop (mkF m 57 #[rv a1, rv a2, iv 0, iv 3, .val (.null), rv b_3] []))) (fun t k => st6 _ k) ?_
  obtain ⟨fs, hr, hrun, hended, hW, hsame⟩ := X6.leave (v := none) (fun _ => rfl)
  refine ⟨_, _, ?_, hrun, hended, _, _, rfl, ?_, ⟨_, rfl⟩, hW, hsame.mono (by decide) (by decide)⟩
  · exact X6.returnOut hx Bd.returns (hb hby d6_57) hr
  · show Q_rmStrB3 Z a1 a2 kc cs c0 c1 c2 h0 n0 _ T6.heap _
    rw [e6]
    exact ⟨b_3, kb_3, rfl, Nf6, K6, (((P0.keep Kq3).wr W5).wr W6), (Fw5.other W6 (Or.inr (slot_ne (Or.inr (own_w hw 64 rfl)) (Or.inr (own_w hw 66 rfl)) (by decide) (t := .byte) (t' := (.array .byte)) (by decide) (by decide)))), Fw6, ((Fq3_0.other W5 (Ne.symm ne_a1_b_3)).other W6 (Ne.symm ne_a1_b_3))⟩
theorem ef_rmStrA3 (m : MethodId) (a1 a2 : Addr) : entryFrame m #[(.ref a1), (.ref a2)] 2 = mkF m 0 #[.val (.ref a1), .val (.ref a2)] [] := by first | (simp [entryFrame, mkF, argsToLocals, Value.category]; done) | rfl
def Q_rmStrA3 (Z : State) (a1 a2 : Addr) (kc : ClassId) (cs c0 c1 c2 : Int32) (h0 : Heap) (n0 : Nat) (v : Option Value) (h : Heap) (L : List Loc) : Prop := ∃ b : Addr, ∃ kb : ClassId, v = none ∧ Fr n0 L ∧ Keep h0 h [a1] ∧ Exa Z h a1 "java/lang/String" ∧ Fld Z h a1 "java/lang/String" "coder" "B" (.int 0) ∧ Fld Z h a1 "java/lang/String" "value" "[B" (.ref b) ∧ Arv Z h b kb .byte (3 : Int32) [(.int (c0.toInt8.toInt32)), (.int (c1.toInt8.toInt32)), (.int (c2.toInt8.toInt32))] (.int 0)
theorem rmStrA3 (l : Launch) (Z : State) (a0 : Array Value) (hw : ∀ d ∈ tables_1, d.before a0 Z = true) (ws : List Jvm.Cond) (a1 a2 : Addr) (kc : ClassId) (cs c0 c1 c2 : Int32) (h0 : Heap) (n0 : Nat) (Z0 : n0 ≤ h0.size) (P0 : Exa Z h0 a1 "java/lang/String") (P1 : Fld Z h0 a1 "java/lang/String" "coder" "B" (.int 0)) (P2 : Fld Z h0 a1 "java/lang/String" "value" "[B" .null) (P3 : Arv Z h0 a2 kc .char (3 : Int32) [(.int c0), (.int c1), (.int c2)] (.int 0)) (g_a1 : n0 ≤ a1) (ne_a1_a2 : a1 ≠ a2) (P6 : Sta Z h0 "java/lang/String" "COMPACT_STRINGS" "Z" (.int cs)) (hcs : ¬ (cs = (0 : Int32))) (hc0 : ¬ ((255 : Int32) < c0)) (hc1 : ¬ ((255 : Int32) < c1)) (hc2 : ¬ ((255 : Int32) < c2)) :
    MetFree l yq9 (head1 (Jvm.Cond.code yq9 jdk_42_method_3_code 2 none :: ws) rq15) (fun a U => a = #[(.ref a1), (.ref a2)] ∧ Z.Warmed39 U.vm ∧ U.heap = h0) (fun _ _ _ _ _ => True) (fun _ U o U' => ∃ v L, o = .returned v ∧ Q_rmStrA3 Z a1 a2 kc cs c0 c1 c2 h0 n0 v U'.heap L ∧ FrameEnd U o U' L rq15.cells rq15.slots) := by
  refine MetFree.of_bodySF (plainFor_of_name pn_java_lang_String) hisR ?_
  intro p e s m args below meth c s₁ Bd hml0 hP hK
  obtain ⟨rfl, hZ, hh⟩ := hP
  have hx := Bd.exec
  have hby := Bd.bytes
  have hml : c.maxLocals = 2 := hml0
  have hown : s.vm.findClass "java/lang/String" = some m.cls := findClass_of_methodNamed Bd.named
  have hnm := (name_of_methodNamed Bd.named Bd.method).1
  have X0 : Stand p l e rq15 s m #[(.ref a1), (.ref a2)] below meth c s₁ [] 0 0 := Stand.of_body Bd
  have e0 : s₁.heap = h0 := by rw [← hh, Bd.state]; rfl
  have N0 := Fr.nil n0
  refine own_fw (A' := (s₁.setTop (mkF m 4 #[rv a1, rv a2] [.ref a2, .int 0, .ref a2, .ref a1]))) (fun t k => castTop (ef_rmStrA3 m a1 a2) (XS.aloadN X0.here hx rfl (hb hby d5_0) rfl rfl (XS.aloadN X0.here hx rfl (hb hby d5_1) rfl rfl (XS.iconst X0.here hx rfl (hb hby d5_2) (XS.aloadN X0.here hx rfl (hb hby d5_3) rfl rfl k))))) ?_
  obtain ⟨cl1, Ar1, q1, S1, M1, H1, G1⟩ := id P3
  refine own_fw (A' := (s₁.setTop (mkF m 5 #[rv a1, rv a2] [.int 3, .int 0, .ref a2, .ref a1]))) (fun t k => X0.arraylength hx (by rw [e0]; exact Ar1.1) (State.isArrayOf_alike hZ.alike Ar1.2.1) (g := (mkF m 4 #[rv a1, rv a2] [.ref a2, .int 0, .ref a2, .ref a1])) rfl rfl (hb hby d5_4) _ (by rw [len_of S1 M1]; exact k)) ?_
  refine own_fw (A' := (s₁.setTop (mkF m 6 #[rv a1, rv a2] [.null, .int 3, .int 0, .ref a2, .ref a1]))) (fun t k => XS.aconstNull X0.here hx rfl (hb hby d5_5) k) ?_
  obtain ⟨_, _, ⟨T2, L2, k2, n2⟩, -, X2, ⟨Lc2, hQ2, l2, y2, z2⟩, st2⟩ := X0.specialBack hx (y := yq7) rfl hown (mvT hZ (own_w hw 25 rfl)) (mvT hZ (own_w hw 26 rfl)) (mvT hZ (own_w hw 28 rfl)) (by decide) (backOf (W := 0) (rmStrB3 l Z a0 hw [] a1 a2 kc cs c0 c1 c2 h0 n0 Z0 P0 P1 P2 P3 g_a1 ne_a1_a2 P6 hcs hc0 hc1 hc2) hZ (own_w hw 28 rfl) (own_w hw 21 rfl) (by decide) (by decide)) (g := (mkF m 6 #[rv a1, rv a2] [.null, .int 3, .int 0, .ref a2, .ref a1])) rfl (by rw [hml]; rfl) (Steps.refl _) (a := a1) (argsL := [(.ref a2), (.int 0), (.int 3), .null]) (rest := []) (lenOf pd___CIILjava_lang_Void__V rfl) rfl (by show 2 * 0 + _ ≤ _; exact Nat.le_of_eq rfl) (hb hby d5_6) (fun _ _ => ⟨rfl, e0, (by decide : 0 + 1 ≤ _), (by decide : 0 + 3 ≤ _)⟩)
  dsimp only [Pt.U, Pt.locs, Pt.cells, Pt.slots] at X2 l2 y2 z2 st2 hQ2
  subst l2 y2 z2
  obtain ⟨b_2, kb_2, rfl, Nq2, Kq2, Fq2_0, Fq2_1, Fq2_2, Fq2_3⟩ := hQ2
  have Nf2 := Fr.app N0 Nq2
  have K2 : Keep h0 T2.heap [a1] := (Keep.refl h0 [a1]).trans Kq2 (allS (Or.inl (List.mem_of_getElem? (i := 0) rfl)) all0)
  have Z2 : n0 ≤ T2.heap.size := Nat.le_trans Z0 Kq2.1
  refine own_fw (A' := (T2.setTop (mkF m 9 #[rv a1, rv a2] []))) (fun t k => st2.trans k) ?_
  obtain ⟨fs, hr, hrun, hended, hW, hsame⟩ := X2.leave (v := none) (fun _ => rfl)
  refine ⟨_, _, ?_, hrun, hended, _, _, rfl, ?_, ⟨_, rfl⟩, hW, hsame.mono (by decide) (by decide)⟩
  · exact X2.returnOut hx Bd.returns (hb hby d5_9) hr
  · show Q_rmStrA3 Z a1 a2 kc cs c0 c1 c2 h0 n0 _ T2.heap _
    exact ⟨b_2, kb_2, rfl, Nf2, K2, Fq2_0, Fq2_1, Fq2_2, Fq2_3⟩
theorem ef_rmCmpA4 (m : MethodId) (a1 a3 : Addr) : entryFrame m #[(.ref a1), (.int 0), (.ref a3), (.int 0), (.int 4)] 7 = mkF m 0 #[.val (.ref a1), .val (.int 0), .val (.ref a3), .val (.int 0), .val (.int 4), .unset, .unset] [] := by first | (simp [entryFrame, mkF, argsToLocals, Value.category]; done) | rfl
def Q_rmCmpA4 (Z : State) (a1 a3 : Addr) (kc kb : ClassId) (c0 c1 c2 c3 : Int32) (h0 : Heap) (n0 : Nat) (v : Option Value) (h : Heap) (L : List Loc) : Prop := v = some (.int 4) ∧ Fr n0 L ∧ Keep h0 h [a3] ∧ Arv Z h a3 kb .byte (4 : Int32) [(.int (c0.toInt8.toInt32)), (.int (c1.toInt8.toInt32)), (.int (c2.toInt8.toInt32)), (.int (c3.toInt8.toInt32))] (.int 0)
theorem rmCmpA4 (l : Launch) (Z : State) (a0 : Array Value) (hw : ∀ d ∈ tables_1, d.before a0 Z = true) (ws : List Jvm.Cond) (a1 a3 : Addr) (kc kb : ClassId) (c0 c1 c2 c3 : Int32) (h0 : Heap) (n0 : Nat) (Z0 : n0 ≤ h0.size) (P0 : Arv Z h0 a1 kc .char (4 : Int32) [(.int c0), (.int c1), (.int c2), (.int c3)] (.int 0)) (P1 : Arv Z h0 a3 kb .byte (4 : Int32) [(.int 0), (.int 0), (.int 0), (.int 0)] (.int 0)) (g_a3 : n0 ≤ a3) (ne_a1_a3 : a1 ≠ a3) (hc0 : ¬ ((255 : Int32) < c0)) (hc1 : ¬ ((255 : Int32) < c1)) (hc2 : ¬ ((255 : Int32) < c2)) (hc3 : ¬ ((255 : Int32) < c3)) :
    MetFree l yq2 (head1 (Jvm.Cond.code yq2 jdk_52_method_21_code 7 (some .int) :: ws) rq0) (fun a U => a = #[(.ref a1), (.int 0), (.ref a3), (.int 0), (.int 4)] ∧ Z.Warmed39 U.vm ∧ U.heap = h0) (fun _ _ _ _ _ => True) (fun _ U o U' => ∃ v L, o = .returned v ∧ Q_rmCmpA4 Z a1 a3 kc kb c0 c1 c2 c3 h0 n0 v U'.heap L ∧ FrameEnd U o U' L rq0.cells rq0.slots) := by
  refine MetFree.of_bodySF (plainFor_of_name pn_java_lang_StringUTF16) hisR ?_
  intro p e s m args below meth c s₁ Bd hml0 hP hK
  obtain ⟨rfl, hZ, hh⟩ := hP
  have hx := Bd.exec
  have hby := Bd.bytes
  have hml : c.maxLocals = 7 := hml0
  have hown : s.vm.findClass "java/lang/StringUTF16" = some m.cls := findClass_of_methodNamed Bd.named
  have hnm := (name_of_methodNamed Bd.named Bd.method).1
  have X0 : Stand p l e rq0 s m #[(.ref a1), (.int 0), (.ref a3), (.int 0), (.int 4)] below meth c s₁ [] 0 0 := Stand.of_body Bd
  have e0 : s₁.heap = h0 := by rw [← hh, Bd.state]; rfl
  have N0 := Fr.nil n0
  refine own_fw (A' := (s₁.setTop (mkF m 12 #[rv a1, iv 0, rv a3, iv 0, iv 4, iv 0, .unset] [.int 0, .ref a1]))) (fun t k => castTop (ef_rmCmpA4 m a1 a3) (XS.iconst X0.here hx rfl (hb hby d9_0) (XS.istore X0.here hx rfl (hb hby d9_1) rfl (l' := #[rv a1, iv 0, rv a3, iv 0, iv 4, iv 0, .unset]) rfl (XS.iload X0.here hx rfl (hb hby d9_3) rfl (XS.iload X0.here hx rfl (hb hby d9_5) rfl (XS.icmpNo X0.here hx rfl (hb hby d9_7) rfl (XT.ii_ge_f (by decide)) (XS.aloadN X0.here hx rfl (hb hby d9_10) rfl rfl (XS.iloadN X0.here hx rfl (hb hby d9_11) rfl k)))))))) ?_
  obtain ⟨cl1, Ar1, q1, S1, M1, H1, G1⟩ := id P0
  have hin1 : ¬ ((0 : Int32) < 0 ∨ cl1.slots.size ≤ ((0 : Int32)).toNatClampNeg) := inb_of S1 ⟨by decide, by decide⟩
  have hat1 : cl1.slots[((0 : Int32)).toNatClampNeg]? = some (.int c0) := H1.at hin1 rfl
  refine own_fw (A' := (s₁.setTop (mkF m 31 #[rv a1, iv 0, rv a3, iv 0, iv 4, iv 0, iv c0] [.int (c0.toInt8.toInt32), .int 0, .ref a3]))) (fun t k => X0.caload hx (j := (0 : Int32)) (v := (.int c0)) (by rw [e0]; exact Ar1.1) (State.isArrayOf_alike hZ.alike Ar1.2.1) Ar1.2.2 hin1 hat1 (g := (mkF m 12 #[rv a1, iv 0, rv a3, iv 0, iv 4, iv 0, .unset] [.int 0, .ref a1])) rfl rfl (hb hby d9_12) _ (XS.istore X0.here hx rfl (hb hby d9_13) rfl (l' := #[rv a1, iv 0, rv a3, iv 0, iv 4, iv 0, iv c0]) rfl (XS.iload X0.here hx rfl (hb hby d9_15) rfl (XS.sipush X0.here hx rfl (hb hby d9_17) (XS.icmpYes X0.here hx rfl (pc0 := 20) (pc' := 26) rfl (hb hby d9_20) rfl (XT.ii_le_t hc0) (by decide) (by decide) (XS.aloadN X0.here hx rfl (hb hby d9_26) rfl rfl (XS.iloadN X0.here hx rfl (hb hby d9_27) rfl (XS.iload X0.here hx rfl (hb hby d9_28) rfl (XS.i2b X0.here hx rfl (hb hby d9_30) rfl k))))))))) ?_
  obtain ⟨cl2, Ar2, q2, S2, M2, H2, G2⟩ := id P1
  have hin2 : ¬ ((0 : Int32) < 0 ∨ cl2.slots.size ≤ ((0 : Int32)).toNatClampNeg) := inb_of S2 ⟨by decide, by decide⟩
  obtain ⟨T2, h2, X2, e2, W2, st2⟩ := stB X0 hx hZ e0 Ar2 (j := (0 : Int32)) hin2 (g := (mkF m 31 #[rv a1, iv 0, rv a3, iv 0, iv 4, iv 0, iv c0] [.int (c0.toInt8.toInt32), .int 0, .ref a3])) rfl rfl (hb hby d9_31)
  rw [own_narB] at W2
  have V2 : Arv Z h2 a3 kb .byte (4 : Int32) [(.int (c0.toInt8.toInt32)), (.int 0), (.int 0), (.int 0)] (.int 0) := Arv.set Ar2 q2 S2 M2 H2 G2 (fits_nar_byte _) W2 0 rfl (Nat.le_of_ble_eq_true rfl)
  have Nf2 := Fr.snoc X2 N0 g_a3
  have K2 : Keep h0 h2 [a3] := (Keep.refl h0 [a3]).wr W2 (Or.inl (List.mem_of_getElem? (i := 0) rfl))
  have Z2 : n0 ≤ h2.size := Nat.le_trans Z0 (Keep.of_wr W2).1
  refine own_fw (A' := (T2.setTop (mkF m 12 #[rv a1, iv 1, rv a3, iv 1, iv 4, iv 1, iv c0] [.int 1, .ref a1]))) (fun t k => st2 _ (XS.iinc X2.here hx rfl (hb hby d9_32) rfl (l' := #[rv a1, iv 1, rv a3, iv 0, iv 4, iv 0, iv c0]) rfl (XS.iinc X2.here hx rfl (hb hby d9_35) rfl (l' := #[rv a1, iv 1, rv a3, iv 1, iv 4, iv 0, iv c0]) rfl (XS.iinc X2.here hx rfl (hb hby d9_38) rfl (l' := #[rv a1, iv 1, rv a3, iv 1, iv 4, iv 1, iv c0]) rfl (XS.goto X2.here hx rfl (pc0 := 41) (pc' := 3) rfl (hb hby d9_41) (by decide) (by decide) (XS.iload X2.here hx rfl (hb hby d9_3) rfl (XS.iload X2.here hx rfl (hb hby d9_5) rfl (XS.icmpNo X2.here hx rfl (hb hby d9_7) rfl (XT.ii_ge_f (by decide)) (XS.aloadN X2.here hx rfl (hb hby d9_10) rfl rfl (XS.iloadN X2.here hx rfl (hb hby d9_11) rfl k)))))))))) ?_
  obtain ⟨cl3, Ar3, q3, S3, M3, H3, G3⟩ := id (P0.other W2 ne_a1_a3)
  have hin3 : ¬ ((1 : Int32) < 0 ∨ cl3.slots.size ≤ ((1 : Int32)).toNatClampNeg) := inb_of S3 ⟨by decide, by decide⟩
  have hat3 : cl3.slots[((1 : Int32)).toNatClampNeg]? = some (.int c1) := H3.at hin3 rfl
  refine own_fw (A' := (T2.setTop (mkF m 31 #[rv a1, iv 1, rv a3, iv 1, iv 4, iv 1, iv c1] [.int (c1.toInt8.toInt32), .int 1, .ref a3]))) (fun t k => X2.caload hx (j := (1 : Int32)) (v := (.int c1)) (by rw [e2]; exact Ar3.1) (State.isArrayOf_alike hZ.alike Ar3.2.1) Ar3.2.2 hin3 hat3 (g := (mkF m 12 #[rv a1, iv 1, rv a3, iv 1, iv 4, iv 1, iv c0] [.int 1, .ref a1])) rfl rfl (hb hby d9_12) _ (XS.istore X2.here hx rfl (hb hby d9_13) rfl (l' := #[rv a1, iv 1, rv a3, iv 1, iv 4, iv 1, iv c1]) rfl (XS.iload X2.here hx rfl (hb hby d9_15) rfl (XS.sipush X2.here hx rfl (hb hby d9_17) (XS.icmpYes X2.here hx rfl (pc0 := 20) (pc' := 26) rfl (hb hby d9_20) rfl (XT.ii_le_t hc1) (by decide) (by decide) (XS.aloadN X2.here hx rfl (hb hby d9_26) rfl rfl (XS.iloadN X2.here hx rfl (hb hby d9_27) rfl (XS.iload X2.here hx rfl (hb hby d9_28) rfl (XS.i2b X2.here hx rfl (hb hby d9_30) rfl k))))))))) ?_
  obtain ⟨cl4, Ar4, q4, S4, M4, H4, G4⟩ := id V2
  have hin4 : ¬ ((1 : Int32) < 0 ∨ cl4.slots.size ≤ ((1 : Int32)).toNatClampNeg) := inb_of S4 ⟨by decide, by decide⟩
  obtain ⟨T4, h4, X4, e4, W4, st4⟩ := stB X2 hx hZ e2 Ar4 (j := (1 : Int32)) hin4 (g := (mkF m 31 #[rv a1, iv 1, rv a3, iv 1, iv 4, iv 1, iv c1] [.int (c1.toInt8.toInt32), .int 1, .ref a3])) rfl rfl (hb hby d9_31)
  rw [own_narB] at W4
  have V4 : Arv Z h4 a3 kb .byte (4 : Int32) [(.int (c0.toInt8.toInt32)), (.int (c1.toInt8.toInt32)), (.int 0), (.int 0)] (.int 0) := Arv.set Ar4 q4 S4 M4 H4 G4 (fits_nar_byte _) W4 1 rfl (Nat.le_of_ble_eq_true rfl)
  have Nf4 := Fr.snoc X4 Nf2 g_a3
  have K4 : Keep h0 h4 [a3] := K2.wr W4 (Or.inl (List.mem_of_getElem? (i := 0) rfl))
  have Z4 : n0 ≤ h4.size := Nat.le_trans Z2 (Keep.of_wr W4).1
  refine own_fw (A' := (T4.setTop (mkF m 12 #[rv a1, iv 2, rv a3, iv 2, iv 4, iv 2, iv c1] [.int 2, .ref a1]))) (fun t k => st4 _ (XS.iinc X4.here hx rfl (hb hby d9_32) rfl (l' := #[rv a1, iv 2, rv a3, iv 1, iv 4, iv 1, iv c1]) rfl (XS.iinc X4.here hx rfl (hb hby d9_35) rfl (l' := #[rv a1, iv 2, rv a3, iv 2, iv 4, iv 1, iv c1]) rfl (XS.iinc X4.here hx rfl (hb hby d9_38) rfl (l' := #[rv a1, iv 2, rv a3, iv 2, iv 4, iv 2, iv c1]) rfl (XS.goto X4.here hx rfl (pc0 := 41) (pc' := 3) rfl (hb hby d9_41) (by decide) (by decide) (XS.iload X4.here hx rfl (hb hby d9_3) rfl (XS.iload X4.here hx rfl (hb hby d9_5) rfl (XS.icmpNo X4.here hx rfl (hb hby d9_7) rfl (XT.ii_ge_f (by decide)) (XS.aloadN X4.here hx rfl (hb hby d9_10) rfl rfl (XS.iloadN X4.here hx rfl (hb hby d9_11) rfl k)))))))))) ?_
  obtain ⟨cl5, Ar5, q5, S5, M5, H5, G5⟩ := id ((P0.other W2 ne_a1_a3).other W4 ne_a1_a3)
  have hin5 : ¬ ((2 : Int32) < 0 ∨ cl5.slots.size ≤ ((2 : Int32)).toNatClampNeg) := inb_of S5 ⟨by decide, by decide⟩
  have hat5 : cl5.slots[((2 : Int32)).toNatClampNeg]? = some (.int c2) := H5.at hin5 rfl
  refine own_fw (A' := (T4.setTop (mkF m 31 #[rv a1, iv 2, rv a3, iv 2, iv 4, iv 2, iv c2] [.int (c2.toInt8.toInt32), .int 2, .ref a3]))) (fun t k => X4.caload hx (j := (2 : Int32)) (v := (.int c2)) (by rw [e4]; exact Ar5.1) (State.isArrayOf_alike hZ.alike Ar5.2.1) Ar5.2.2 hin5 hat5 (g := (mkF m 12 #[rv a1, iv 2, rv a3, iv 2, iv 4, iv 2, iv c1] [.int 2, .ref a1])) rfl rfl (hb hby d9_12) _ (XS.istore X4.here hx rfl (hb hby d9_13) rfl (l' := #[rv a1, iv 2, rv a3, iv 2, iv 4, iv 2, iv c2]) rfl (XS.iload X4.here hx rfl (hb hby d9_15) rfl (XS.sipush X4.here hx rfl (hb hby d9_17) (XS.icmpYes X4.here hx rfl (pc0 := 20) (pc' := 26) rfl (hb hby d9_20) rfl (XT.ii_le_t hc2) (by decide) (by decide) (XS.aloadN X4.here hx rfl (hb hby d9_26) rfl rfl (XS.iloadN X4.here hx rfl (hb hby d9_27) rfl (XS.iload X4.here hx rfl (hb hby d9_28) rfl (XS.i2b X4.here hx rfl (hb hby d9_30) rfl k))))))))) ?_
  obtain ⟨cl6, Ar6, q6, S6, M6, H6, G6⟩ := id V4
  have hin6 : ¬ ((2 : Int32) < 0 ∨ cl6.slots.size ≤ ((2 : Int32)).toNatClampNeg) := inb_of S6 ⟨by decide, by decide⟩
  obtain ⟨T6, h6, X6, e6, W6, st6⟩ := stB X4 hx hZ e4 Ar6 (j := (2 : Int32)) hin6 (g := (mkF m 31 #[rv a1, iv 2, rv a3, iv 2, iv 4, iv 2, iv c2] [.int (c2.toInt8.toInt32), .int 2, .ref a3])) rfl rfl (hb hby d9_31)
  rw [own_narB] at W6
  have V6 : Arv Z h6 a3 kb .byte (4 : Int32) [(.int (c0.toInt8.toInt32)), (.int (c1.toInt8.toInt32)), (.int (c2.toInt8.toInt32)), (.int 0)] (.int 0) := Arv.set Ar6 q6 S6 M6 H6 G6 (fits_nar_byte _) W6 2 rfl (Nat.le_of_ble_eq_true rfl)
  have Nf6 := Fr.snoc X6 Nf4 g_a3
  have K6 : Keep h0 h6 [a3] := K4.wr W6 (Or.inl (List.mem_of_getElem? (i := 0) rfl))
  have Z6 : n0 ≤ h6.size := Nat.le_trans Z4 (Keep.of_wr W6).1
  refine own_fw (A' := (T6.setTop (mkF m 12 #[rv a1, iv 3, rv a3, iv 3, iv 4, iv 3, iv c2] [.int 3, .ref a1]))) (fun t k => st6 _ (XS.iinc X6.here hx rfl (hb hby d9_32) rfl (l' := #[rv a1, iv 3, rv a3, iv 2, iv 4, iv 2, iv c2]) rfl (XS.iinc X6.here hx rfl (hb hby d9_35) rfl (l' := #[rv a1, iv 3, rv a3, iv 3, iv 4, iv 2, iv c2]) rfl (XS.iinc X6.here hx rfl (hb hby d9_38) rfl (l' := #[rv a1, iv 3, rv a3, iv 3, iv 4, iv 3, iv c2]) rfl (XS.goto X6.here hx rfl (pc0 := 41) (pc' := 3) rfl (hb hby d9_41) (by decide) (by decide) (XS.iload X6.here hx rfl (hb hby d9_3) rfl (XS.iload X6.here hx rfl (hb hby d9_5) rfl (XS.icmpNo X6.here hx rfl (hb hby d9_7) rfl (XT.ii_ge_f (by decide)) (XS.aloadN X6.here hx rfl (hb hby d9_10) rfl rfl (XS.iloadN X6.here hx rfl (hb hby d9_11) rfl k)))))))))) ?_
  obtain ⟨cl7, Ar7, q7, S7, M7, H7, G7⟩ := id (((P0.other W2 ne_a1_a3).other W4 ne_a1_a3).other W6 ne_a1_a3)
  have hin7 : ¬ ((3 : Int32) < 0 ∨ cl7.slots.size ≤ ((3 : Int32)).toNatClampNeg) := inb_of S7 ⟨by decide, by decide⟩
  have hat7 : cl7.slots[((3 : Int32)).toNatClampNeg]? = some (.int c3) := H7.at hin7 rfl
  refine own_fw (A' := (T6.setTop (mkF m 31 #[rv a1, iv 3, rv a3, iv 3, iv 4, iv 3, iv c3] [.int (c3.toInt8.toInt32), .int 3, .ref a3]))) (fun t k => X6.caload hx (j := (3 : Int32)) (v := (.int c3)) (by rw [e6]; exact Ar7.1) (State.isArrayOf_alike hZ.alike Ar7.2.1) Ar7.2.2 hin7 hat7 (g := (mkF m 12 #[rv a1, iv 3, rv a3, iv 3, iv 4, iv 3, iv c2] [.int 3, .ref a1])) rfl rfl (hb hby d9_12) _ (XS.istore X6.here hx rfl (hb hby d9_13) rfl (l' := #[rv a1, iv 3, rv a3, iv 3, iv 4, iv 3, iv c3]) rfl (XS.iload X6.here hx rfl (hb hby d9_15) rfl (XS.sipush X6.here hx rfl (hb hby d9_17) (XS.icmpYes X6.here hx rfl (pc0 := 20) (pc' := 26) rfl (hb hby d9_20) rfl (XT.ii_le_t hc3) (by decide) (by decide) (XS.aloadN X6.here hx rfl (hb hby d9_26) rfl rfl (XS.iloadN X6.here hx rfl (hb hby d9_27) rfl (XS.iload X6.here hx rfl (hb hby d9_28) rfl (XS.i2b X6.here hx rfl (hb hby d9_30) rfl k))))))))) ?_
  obtain ⟨cl8, Ar8, q8, S8, M8, H8, G8⟩ := id V6
  have hin8 : ¬ ((3 : Int32) < 0 ∨ cl8.slots.size ≤ ((3 : Int32)).toNatClampNeg) := inb_of S8 ⟨by decide, by decide⟩
  obtain ⟨T8, h8, X8, e8, W8, st8⟩ := stB X6 hx hZ e6 Ar8 (j := (3 : Int32)) hin8 (g := (mkF m 31 #[rv a1, iv 3, rv a3, iv 3, iv 4, iv 3, iv c3] [.int (c3.toInt8.toInt32), .int 3, .ref a3])) rfl rfl (hb hby d9_31)
  rw [own_narB] at W8
  have V8 : Arv Z h8 a3 kb .byte (4 : Int32) [(.int (c0.toInt8.toInt32)), (.int (c1.toInt8.toInt32)), (.int (c2.toInt8.toInt32)), (.int (c3.toInt8.toInt32))] (.int 0) := Arv.set Ar8 q8 S8 M8 H8 G8 (fits_nar_byte _) W8 3 rfl (Nat.le_of_ble_eq_true rfl)
  have Nf8 := Fr.snoc X8 Nf6 g_a3
  have K8 : Keep h0 h8 [a3] := K6.wr W8 (Or.inl (List.mem_of_getElem? (i := 0) rfl))
  have Z8 : n0 ≤ h8.size := Nat.le_trans Z6 (Keep.of_wr W8).1
  refine own_fw (A' := (T8.setTop (mkF m 46 #[rv a1, iv 4, rv a3, iv 4, iv 4, iv 4, iv c3] [.int 4]))) (fun t k => st8 _ (XS.iinc X8.here hx rfl (hb hby d9_32) rfl (l' := #[rv a1, iv 4, rv a3, iv 3, iv 4, iv 3, iv c3]) rfl (XS.iinc X8.here hx rfl (hb hby d9_35) rfl (l' := #[rv a1, iv 4, rv a3, iv 4, iv 4, iv 3, iv c3]) rfl (XS.iinc X8.here hx rfl (hb hby d9_38) rfl (l' := #[rv a1, iv 4, rv a3, iv 4, iv 4, iv 4, iv c3]) rfl (XS.goto X8.here hx rfl (pc0 := 41) (pc' := 3) rfl (hb hby d9_41) (by decide) (by decide) (XS.iload X8.here hx rfl (hb hby d9_3) rfl (XS.iload X8.here hx rfl (hb hby d9_5) rfl (XS.icmpYes X8.here hx rfl (pc0 := 7) (pc' := 44) rfl (hb hby d9_7) rfl (XT.ii_ge_t (by decide)) (by decide) (by decide) (XS.iload X8.here hx rfl (hb hby d9_44) rfl k))))))))) ?_
  obtain ⟨fs, hr, hrun, hended, hW, hsame⟩ := X8.leave (v := some (.int 4)) (fun h => by rw [Bd.returns] at h; cases h)
  refine ⟨_, _, ?_, hrun, hended, _, _, rfl, ?_, ⟨_, rfl⟩, hW, hsame.mono (by decide) (by decide)⟩
  · exact retOut X8 hx Bd.returns rfl (Or.inl ⟨rfl, by simp, _, rfl⟩) (hb hby d9_46) hr
  · show Q_rmCmpA4 Z a1 a3 kc kb c0 c1 c2 c3 h0 n0 _ T8.heap _
    rw [e8]
    exact ⟨rfl, Nf8, K8, V8⟩
theorem ef_rmCmpB4 (m : MethodId) (a1 : Addr) : entryFrame m #[(.ref a1), (.int 0), (.int 4)] 6 = mkF m 0 #[.val (.ref a1), .val (.int 0), .val (.int 4), .unset, .unset, .unset] [] := by first | (simp [entryFrame, mkF, argsToLocals, Value.category]; done) | rfl
def Q_rmCmpB4 (Z : State) (a1 : Addr) (kc : ClassId) (c0 c1 c2 c3 : Int32) (h0 : Heap) (n0 : Nat) (v : Option Value) (h : Heap) (L : List Loc) : Prop := ∃ b : Addr, ∃ kb : ClassId, v = some (.ref b) ∧ Fr n0 L ∧ Keep h0 h [] ∧ Arv Z h b kb .byte (4 : Int32) [(.int (c0.toInt8.toInt32)), (.int (c1.toInt8.toInt32)), (.int (c2.toInt8.toInt32)), (.int (c3.toInt8.toInt32))] (.int 0) ∧ (h0.size ≤ b)
theorem rmCmpB4 (l : Launch) (Z : State) (a0 : Array Value) (hw : ∀ d ∈ tables_1, d.before a0 Z = true) (ws : List Jvm.Cond) (a1 : Addr) (kc : ClassId) (c0 c1 c2 c3 : Int32) (h0 : Heap) (n0 : Nat) (Z0 : n0 ≤ h0.size) (P0 : Arv Z h0 a1 kc .char (4 : Int32) [(.int c0), (.int c1), (.int c2), (.int c3)] (.int 0)) (hc0 : ¬ ((255 : Int32) < c0)) (hc1 : ¬ ((255 : Int32) < c1)) (hc2 : ¬ ((255 : Int32) < c2)) (hc3 : ¬ ((255 : Int32) < c3)) :
    MetFree l yq4 (head1 (Jvm.Cond.code yq4 jdk_52_method_16_code 6 (some (.array .byte)) :: ws) rq16) (fun a U => a = #[(.ref a1), (.int 0), (.int 4)] ∧ Z.Warmed39 U.vm ∧ U.heap = h0) (fun _ _ _ _ _ => True) (fun _ U o U' => ∃ v L, o = .returned v ∧ Q_rmCmpB4 Z a1 kc c0 c1 c2 c3 h0 n0 v U'.heap L ∧ FrameEnd U o U' L rq16.cells rq16.slots) := by
  refine MetFree.of_bodySF (plainFor_of_name pn_java_lang_StringUTF16) hisR ?_
  intro p e s m args below meth c s₁ Bd hml0 hP hK
  obtain ⟨rfl, hZ, hh⟩ := hP
  have hx := Bd.exec
  have hby := Bd.bytes
  have hml : c.maxLocals = 6 := hml0
  have hown : s.vm.findClass "java/lang/StringUTF16" = some m.cls := findClass_of_methodNamed Bd.named
  have hnm := (name_of_methodNamed Bd.named Bd.method).1
  have X0 : Stand p l e rq16 s m #[(.ref a1), (.int 0), (.int 4)] below meth c s₁ [] 0 0 := Stand.of_body Bd
  have e0 : s₁.heap = h0 := by rw [← hh, Bd.state]; rfl
  have N0 := Fr.nil n0
  refine own_fw (A' := (s₁.setTop (mkF m 1 #[rv a1, iv 0, iv 4, .unset, .unset, .unset] [.int 4]))) (fun t k => castTop (ef_rmCmpB4 m a1) (XS.iloadN X0.here hx rfl (hb hby d8_0) rfl k)) ?_
  obtain ⟨T1, h1, k1, X1, e1, E1, A1, st1⟩ := newP X0 hx hZ (own_w hw 37 rfl) e0 (g := (mkF m 1 #[rv a1, iv 0, iv 4, .unset, .unset, .unset] [.int 4])) rfl (hb hby d8_1) rfl (by decide) (cap := 4) (by decide) (by decide) (by decide) (by decide)
  obtain ⟨b1, gb1⟩ : ∃ z, z = h0.size := ⟨_, rfl⟩
  have g_b1 : n0 ≤ b1 := Nat.le_trans Z0 (Nat.le_of_eq gb1.symm)
  have sz_b1 : h0.size ≤ b1 := Nat.le_trans (Keep.refl h0 []).1 (Nat.le_of_eq gb1.symm)
  have ne_a1_b1 : a1 ≠ b1 := Nat.ne_of_lt (Nat.lt_of_lt_of_le P0.lt (Nat.le_of_eq gb1.symm))
  rw [← gb1] at A1 st1
  have V_b1 : Arv Z h1 b1 k1 .byte (4 : Int32) [(.int 0), (.int 0), (.int 0), (.int 0)] (.int 0) := (Arv.new A1 (by decide)).pad (pad_rep [] (.int 0) 4)
  have K1 : Keep h0 h1 [] := (Keep.refl h0 []).ext E1
  have Z1 : n0 ≤ h1.size := Nat.le_trans Z0 E1.1
  refine own_fw (A' := (T1.setTop (mkF m 9 #[rv a1, iv 0, iv 4, rv b1, .unset, .unset] [.int 4, .int 0, .ref b1, .int 0, .ref a1]))) (fun t k => st1 _ (XS.astoreN X1.here hx rfl (hb hby d8_3) rfl rfl (l' := #[rv a1, iv 0, iv 4, rv b1, .unset, .unset]) rfl (XS.aloadN X1.here hx rfl (hb hby d8_4) rfl rfl (XS.iloadN X1.here hx rfl (hb hby d8_5) rfl (XS.aloadN X1.here hx rfl (hb hby d8_6) rfl rfl (XS.iconst X1.here hx rfl (hb hby d8_7) (XS.iloadN X1.here hx rfl (hb hby d8_8) rfl k))))))) ?_
  obtain ⟨_, _, ⟨T2, L2, k2, n2⟩, -, X2, ⟨Lc2, hQ2, l2, y2, z2⟩, st2⟩ := Jvm.LawKit.callS X1 hx (y := yq2) hown (mvT hZ (own_w hw 38 rfl)) (mvT hZ (own_w hw 39 rfl)) (mvT hZ (own_w hw 35 rfl)) (mvT hZ (own_w hw 40 rfl)) (by decide) (backOf (W := 0) (rmCmpA4 l Z a0 hw [] a1 b1 kc k1 c0 c1 c2 c3 h1 n0 Z1 (P0.ext E1) V_b1 g_b1 ne_a1_b1 hc0 hc1 hc2 hc3) hZ (own_w hw 40 rfl) (own_w hw 35 rfl) (by decide) (by decide)) (g := (mkF m 9 #[rv a1, iv 0, iv 4, rv b1, .unset, .unset] [.int 4, .int 0, .ref b1, .int 0, .ref a1])) rfl (by rw [hml]; rfl) (argsL := [(.ref a1), (.int 0), (.ref b1), (.int 0), (.int 4)]) (rest := []) (lenOf pd___CI_BII_I rfl) rfl (by show 2 * 0 + _ ≤ _; exact Nat.le_of_eq rfl) (hb hby d8_9) (fun _ _ => ⟨rfl, e1, (by decide : 1 + 0 ≤ _), (by decide : 4 + 0 ≤ _)⟩)
  dsimp only [Pt.U, Pt.locs, Pt.cells, Pt.slots] at X2 l2 y2 z2 st2 hQ2
  subst l2 y2 z2
  obtain ⟨rfl, Nq2, Kq2, Fq2_0⟩ := hQ2
  have Nf2 := Fr.app N0 Nq2
  have K2 : Keep h0 T2.heap [] := K1.trans Kq2 (allS (Or.inr sz_b1) all0)
  have Z2 : n0 ≤ T2.heap.size := Nat.le_trans Z1 Kq2.1
  refine own_fw (A' := (T2.setTop (mkF m 58 #[rv a1, iv 0, iv 4, rv b1, iv 4, .unset] [.ref b1]))) (fun t k => st2 _ (XS.istore X2.here hx rfl (hb hby d8_12) rfl (l' := #[rv a1, iv 0, iv 4, rv b1, iv 4, .unset]) rfl (XS.iload X2.here hx rfl (hb hby d8_14) rfl (XS.iloadN X2.here hx rfl (hb hby d8_16) rfl (XS.icmpYes X2.here hx rfl (pc0 := 17) (pc' := 57) rfl (hb hby d8_17) rfl (XT.ii_eq_t rfl) (by decide) (by decide) (XS.aloadN X2.here hx rfl (hb hby d8_57) rfl rfl k)))))) ?_
  obtain ⟨fs, hr, hrun, hended, hW, hsame⟩ := X2.leave (v := some (.ref b1)) (fun h => by rw [Bd.returns] at h; cases h)
  refine ⟨_, _, ?_, hrun, hended, _, _, rfl, ?_, ⟨_, rfl⟩, hW, hsame.mono (by decide) (by decide)⟩
  · exact retOut X2 hx Bd.returns rfl (Or.inr (Or.inr (Or.inr (Or.inr ⟨rfl, rfl, rfl⟩)))) (hb hby d8_58) hr
  · show Q_rmCmpB4 Z a1 kc c0 c1 c2 c3 h0 n0 _ T2.heap _
    exact ⟨b1, k1, rfl, Nf2, K2, Fq2_0, sz_b1⟩
theorem ef_rmCoder4 (m : MethodId) (a1 : Addr) : entryFrame m #[(.ref a1), (.int 4)] 2 = mkF m 0 #[.val (.ref a1), .val (.int 4)] [] := by first | (simp [entryFrame, mkF, argsToLocals, Value.category]; done) | rfl
def Q_rmCoder4 (Z : State) (a1 : Addr) (kb : ClassId) (c0 c1 c2 c3 : Int32) (h0 : Heap) (n0 : Nat) (v : Option Value) (h : Heap) (L : List Loc) : Prop := v = some (.int 0) ∧ Fr n0 L ∧ h = h0
theorem rmCoder4 (l : Launch) (Z : State) (a0 : Array Value) (hw : ∀ d ∈ tables_1, d.before a0 Z = true) (ws : List Jvm.Cond) (a1 : Addr) (kb : ClassId) (c0 c1 c2 c3 : Int32) (h0 : Heap) (n0 : Nat) (Z0 : n0 ≤ h0.size) (P0 : Arv Z h0 a1 kb .byte (4 : Int32) [(.int c0), (.int c1), (.int c2), (.int c3)] (.int 0)) :
    MetFree l yq5 (head1 (Jvm.Cond.code yq5 jdk_52_method_15_code 2 (some .byte) :: ws) rq0) (fun a U => a = #[(.ref a1), (.int 4)] ∧ Z.Warmed39 U.vm ∧ U.heap = h0) (fun _ _ _ _ _ => True) (fun _ U o U' => ∃ v L, o = .returned v ∧ Q_rmCoder4 Z a1 kb c0 c1 c2 c3 h0 n0 v U'.heap L ∧ FrameEnd U o U' L rq0.cells rq0.slots) := by
  refine MetFree.of_bodySF (plainFor_of_name pn_java_lang_StringUTF16) hisR ?_
  intro p e s m args below meth c s₁ Bd hml0 hP hK
  obtain ⟨rfl, hZ, hh⟩ := hP
  have hx := Bd.exec
  have hby := Bd.bytes
  have hml : c.maxLocals = 2 := hml0
  have hown : s.vm.findClass "java/lang/StringUTF16" = some m.cls := findClass_of_methodNamed Bd.named
  have hnm := (name_of_methodNamed Bd.named Bd.method).1
  have X0 : Stand p l e rq0 s m #[(.ref a1), (.int 4)] below meth c s₁ [] 0 0 := Stand.of_body Bd
  have e0 : s₁.heap = h0 := by rw [← hh, Bd.state]; rfl
  have N0 := Fr.nil n0
  refine own_fw (A' := (s₁.setTop (mkF m 2 #[rv a1, iv 4] [.ref a1, .int 4]))) (fun t k => castTop (ef_rmCoder4 m a1) (XS.iloadN X0.here hx rfl (hb hby d15_0) rfl (XS.aloadN X0.here hx rfl (hb hby d15_1) rfl rfl k))) ?_
  obtain ⟨cl1, Ar1, q1, S1, M1, H1, G1⟩ := id P0
  refine own_fw (A' := (s₁.setTop (mkF m 3 #[rv a1, iv 4] [.int 4, .int 4]))) (fun t k => X0.arraylength hx (by rw [e0]; exact Ar1.1) (State.isArrayOf_alike hZ.alike Ar1.2.1) (g := (mkF m 2 #[rv a1, iv 4] [.ref a1, .int 4])) rfl rfl (hb hby d15_2) _ (by rw [len_of S1 M1]; exact k)) ?_
  refine own_fw (A' := (s₁.setTop (mkF m 8 #[rv a1, iv 4] [.int 0]))) (fun t k => XS.isub X0.here hx rfl (hb hby d15_3) rfl (XS.bipush X0.here hx rfl (hb hby d15_4) (XS.iushr X0.here hx rfl (hb hby d15_6) rfl (XS.i2b X0.here hx rfl (hb hby d15_7) rfl k)))) ?_
  obtain ⟨fs, hr, hrun, hended, hW, hsame⟩ := X0.leave (v := some (.int 0)) (fun h => by rw [Bd.returns] at h; cases h)
  refine ⟨_, _, ?_, hrun, hended, _, _, rfl, ?_, ⟨_, rfl⟩, hW, hsame.mono (by decide) (by decide)⟩
  · exact retOut X0 hx Bd.returns rfl (Or.inl ⟨rfl, by simp, _, rfl⟩) (hb hby d15_8) hr
  · show Q_rmCoder4 Z a1 kb c0 c1 c2 c3 h0 n0 _ s₁.heap _
    rw [e0]
    exact ⟨rfl, N0, rfl⟩
theorem ef_rmStrB4 (m : MethodId) (a1 a2 : Addr) : entryFrame m #[(.ref a1), (.ref a2), (.int 0), (.int 4), .null] 6 = mkF m 0 #[.val (.ref a1), .val (.ref a2), .val (.int 0), .val (.int 4), .val .null, .unset] [] := by first | (simp [entryFrame, mkF, argsToLocals, Value.category]; done) | rfl
def Q_rmStrB4 (Z : State) (a1 a2 : Addr) (kc : ClassId) (cs c0 c1 c2 c3 : Int32) (h0 : Heap) (n0 : Nat) (v : Option Value) (h : Heap) (L : List Loc) : Prop := ∃ b : Addr, ∃ kb : ClassId, v = none ∧ Fr n0 L ∧ Keep h0 h [a1] ∧ Exa Z h a1 "java/lang/String" ∧ Fld Z h a1 "java/lang/String" "coder" "B" (.int 0) ∧ Fld Z h a1 "java/lang/String" "value" "[B" (.ref b) ∧ Arv Z h b kb .byte (4 : Int32) [(.int (c0.toInt8.toInt32)), (.int (c1.toInt8.toInt32)), (.int (c2.toInt8.toInt32)), (.int (c3.toInt8.toInt32))] (.int 0)
theorem rmStrB4 (l : Launch) (Z : State) (a0 : Array Value) (hw : ∀ d ∈ tables_1, d.before a0 Z = true) (ws : List Jvm.Cond) (a1 a2 : Addr) (kc : ClassId) (cs c0 c1 c2 c3 : Int32) (h0 : Heap) (n0 : Nat) (Z0 : n0 ≤ h0.size) (P0 : Exa Z h0 a1 "java/lang/String") (P1 : Fld Z h0 a1 "java/lang/String" "coder" "B" (.int 0)) (P2 : Fld Z h0 a1 "java/lang/String" "value" "[B" .null) (P3 : Arv Z h0 a2 kc .char (4 : Int32) [(.int c0), (.int c1), (.int c2), (.int c3)] (.int 0)) (g_a1 : n0 ≤ a1) (ne_a1_a2 : a1 ≠ a2) (P6 : Sta Z h0 "java/lang/String" "COMPACT_STRINGS" "Z" (.int cs)) (hcs : ¬ (cs = (0 : Int32))) (hc0 : ¬ ((255 : Int32) < c0)) (hc1 : ¬ ((255 : Int32) < c1)) (hc2 : ¬ ((255 : Int32) < c2)) (hc3 : ¬ ((255 : Int32) < c3)) :
    MetFree l yq7 (head1 (Jvm.Cond.code yq7 jdk_42_method_149_code 6 none :: ws) rq17) (fun a U => a = #[(.ref a1), (.ref a2), (.int 0), (.int 4), .null] ∧ Z.Warmed39 U.vm ∧ U.heap = h0) (fun _ _ _ _ _ => True) (fun _ U o U' => ∃ v L, o = .returned v ∧ Q_rmStrB4 Z a1 a2 kc cs c0 c1 c2 c3 h0 n0 v U'.heap L ∧ FrameEnd U o U' L rq17.cells rq17.slots) := by
  refine MetFree.of_bodySF (plainFor_of_name pn_java_lang_String) hisR ?_
  intro p e s m args below meth c s₁ Bd hml0 hP hK
  obtain ⟨rfl, hZ, hh⟩ := hP
  have hx := Bd.exec
  have hby := Bd.bytes
  have hml : c.maxLocals = 6 := hml0
  have hown : s.vm.findClass "java/lang/String" = some m.cls := findClass_of_methodNamed Bd.named
  have hnm := (name_of_methodNamed Bd.named Bd.method).1
  have X0 : Stand p l e rq17 s m #[(.ref a1), (.ref a2), (.int 0), (.int 4), .null] below meth c s₁ [] 0 0 := Stand.of_body Bd
  have e0 : s₁.heap = h0 := by rw [← hh, Bd.state]; rfl
  have N0 := Fr.nil n0
  refine own_fw (A' := (s₁.setTop (mkF m 1 #[rv a1, rv a2, iv 0, iv 4, .val (.null), .unset] [.ref a1]))) (fun t k => castTop (ef_rmStrB4 m a1 a2) (XS.aloadN X0.here hx rfl (hb hby d6_0) rfl rfl k)) ?_
  obtain ⟨T1, X1, e1, st1⟩ := initO X0 hx hZ hown (own_w hw 29 rfl) (own_w hw 30 rfl) (own_w hw 31 rfl) e0 (g := (mkF m 1 #[rv a1, rv a2, iv 0, iv 4, .val (.null), .unset] [.ref a1])) rfl (by rw [hml]; rfl) rfl (hb hby d6_1) (by decide) (W := 0) (by show 2 * 0 + _ ≤ _; exact Nat.le_of_eq rfl) (by decide)
  refine own_fw (A' := (T1.setTop (mkF m 27 #[rv a1, rv a2, iv 0, iv 4, .val (.null), .unset] []))) (fun t k => st1 _ (XS.iloadN X1.here hx rfl (hb hby d6_4) rfl (XS.ifYes X1.here hx rfl (pc0 := 5) (pc' := 27) rfl (hb hby d6_5) rfl (XT.i0_ne_t (by decide)) (by decide) (by decide) k))) ?_
  obtain ⟨T2, X2, e2, st2⟩ := getS2 X1 hx hZ hown (host := "") (Or.inl (own_w hw 32 rfl)) Via.refl e1 P6 (g := (mkF m 27 #[rv a1, rv a2, iv 0, iv 4, .val (.null), .unset] [])) rfl (hb hby d6_27)
  refine own_fw (A' := (T2.setTop (mkF m 36 #[rv a1, rv a2, iv 0, iv 4, .val (.null), .unset] [.int 4, .int 0, .ref a2]))) (fun t k => st2 _ (XS.ifNo X2.here hx rfl (hb hby d6_30) rfl (XT.i0_eq_f hcs) (XS.aloadN X2.here hx rfl (hb hby d6_33) rfl rfl (XS.iloadN X2.here hx rfl (hb hby d6_34) rfl (XS.iloadN X2.here hx rfl (hb hby d6_35) rfl k))))) ?_
  obtain ⟨_, _, ⟨T3, L3, k3, n3⟩, -, X3, ⟨Lc3, hQ3, l3, y3, z3⟩, st3⟩ := Jvm.LawKit.callS X2 hx (y := yq4) hown (mvT hZ (own_w hw 33 rfl)) (mvT hZ (own_w hw 34 rfl)) (mvT hZ (own_w hw 35 rfl)) (mvT hZ (own_w hw 36 rfl)) (by decide) (backOf (W := 0) (rmCmpB4 l Z a0 hw [] a2 kc c0 c1 c2 c3 h0 n0 Z0 P3 hc0 hc1 hc2 hc3) hZ (own_w hw 36 rfl) (own_w hw 35 rfl) (by decide) (by decide)) (g := (mkF m 36 #[rv a1, rv a2, iv 0, iv 4, .val (.null), .unset] [.int 4, .int 0, .ref a2])) rfl (by rw [hml]; rfl) (argsL := [(.ref a2), (.int 0), (.int 4)]) (rest := []) (lenOf pd___CII__B rfl) rfl (by show 2 * 0 + _ ≤ _; exact Nat.le_of_eq rfl) (hb hby d6_36) (fun _ _ => ⟨rfl, e2, (by decide : 0 + 1 ≤ _), (by decide : 0 + 4 ≤ _)⟩)
  dsimp only [Pt.U, Pt.locs, Pt.cells, Pt.slots] at X3 l3 y3 z3 st3 hQ3
  subst l3 y3 z3
  obtain ⟨b_3, kb_3, rfl, Nq3, Kq3, Fq3_0, gb_3⟩ := hQ3
  have Nf3 := Fr.app N0 Nq3
  have K3 : Keep h0 T3.heap [a1] := (Keep.refl h0 [a1]).trans Kq3 all0
  have sz_b_3 : h0.size ≤ b_3 := Nat.le_trans (Keep.refl h0 [a1]).1 gb_3
  have g_b_3 : n0 ≤ b_3 := Nat.le_trans Z0 gb_3
  have ne_a1_b_3 : a1 ≠ b_3 := Nat.ne_of_lt (Nat.lt_of_lt_of_le P0.lt gb_3)
  have ne_a2_b_3 : a2 ≠ b_3 := Nat.ne_of_lt (Nat.lt_of_lt_of_le P3.lt gb_3)
  have Z3 : n0 ≤ T3.heap.size := Nat.le_trans Z0 Kq3.1
  refine own_fw (A' := (T3.setTop (mkF m 45 #[rv a1, rv a2, iv 0, iv 4, .val (.null), rv b_3] [.int 4, .ref b_3, .ref a1]))) (fun t k => st3 _ (XS.astore X3.here hx rfl (hb hby d6_39) rfl rfl (l' := #[rv a1, rv a2, iv 0, iv 4, .val (.null), rv b_3]) rfl (XS.aloadN X3.here hx rfl (hb hby d6_41) rfl rfl (XS.aload X3.here hx rfl (hb hby d6_42) rfl rfl (XS.iloadN X3.here hx rfl (hb hby d6_44) rfl k))))) ?_
  obtain ⟨_, _, ⟨T4, L4, k4, n4⟩, -, X4, ⟨Lc4, hQ4, l4, y4, z4⟩, st4⟩ := Jvm.LawKit.callS X3 hx (y := yq5) hown (mvT hZ (own_w hw 60 rfl)) (mvT hZ (own_w hw 61 rfl)) (mvT hZ (own_w hw 35 rfl)) (mvT hZ (own_w hw 62 rfl)) (by decide) (backOf (W := 1) (rmCoder4 l Z a0 hw [] b_3 kb_3 (c0.toInt8.toInt32) (c1.toInt8.toInt32) (c2.toInt8.toInt32) (c3.toInt8.toInt32) T3.heap n0 Z3 Fq3_0) hZ (own_w hw 62 rfl) (own_w hw 35 rfl) (by decide) (by decide)) (g := (mkF m 45 #[rv a1, rv a2, iv 0, iv 4, .val (.null), rv b_3] [.int 4, .ref b_3, .ref a1])) rfl (by rw [hml]; rfl) (argsL := [(.ref b_3), (.int 4)]) (rest := [(.ref a1)]) (lenOf pd___BI_B rfl) rfl (by show 2 * 0 + _ ≤ _; exact Nat.le_of_eq rfl) (hb hby d6_45) (fun _ _ => ⟨rfl, rfl, (by decide : 1 + 0 ≤ _), (by decide : 4 + 0 ≤ _)⟩)
  dsimp only [Pt.U, Pt.locs, Pt.cells, Pt.slots] at X4 l4 y4 z4 st4 hQ4
  subst l4 y4 z4
  obtain ⟨rfl, Nq4, e4⟩ := hQ4
  have Nf4 := Fr.app Nf3 Nq4
  refine own_fw (A' := (T4.setTop (mkF m 48 #[rv a1, rv a2, iv 0, iv 4, .val (.null), rv b_3] [.int 0, .ref a1]))) (fun t k => st4 _ k) ?_
  obtain ⟨T5, h5, X5, e5, W5, st5⟩ := putFN X4 hx hZ hown (own_w hw 63 rfl) Via.refl e4 (P1.keep Kq3 nin0) (P0.keep Kq3) (Or.inr ⟨(own_w hw 64 rfl), rfl, hnm⟩) (own_w hw 20 rfl) (ty := .byte) (v' := (.int 0)) (by decide) rfl rfl (g := (mkF m 48 #[rv a1, rv a2, iv 0, iv 4, .val (.null), rv b_3] [.int 0, .ref a1])) rfl rfl (hb hby d6_48)
  have Fw5 : Fld Z h5 a1 "java/lang/String" "coder" "B" (.int 0) := (P1.keep Kq3 nin0).same W5
  have Nf5 := Fr.snoc X5 Nf4 g_a1
  have K5 : Keep h0 h5 [a1] := K3.wr W5 (Or.inl (List.mem_of_getElem? (i := 0) rfl))
  have Z5 : n0 ≤ h5.size := Nat.le_trans Z3 (Keep.of_wr W5).1
  refine own_fw (A' := (T5.setTop (mkF m 54 #[rv a1, rv a2, iv 0, iv 4, .val (.null), rv b_3] [.ref b_3, .ref a1]))) (fun t k => st5 _ (XS.aloadN X5.here hx rfl (hb hby d6_51) rfl rfl (XS.aload X5.here hx rfl (hb hby d6_52) rfl rfl k))) ?_
  obtain ⟨T6, h6, X6, e6, W6, st6⟩ := putF X5 hx hZ hown (host := "") (Or.inl (own_w hw 65 rfl)) Via.refl e5 ((P2.keep Kq3 nin0).other W5 (Or.inr (slot_ne (Or.inr (own_w hw 66 rfl)) (Or.inr (own_w hw 64 rfl)) (by decide) (t := (.array .byte)) (t' := .byte) (by decide) (by decide)))) ((P0.keep Kq3).wr W5) (Or.inr ⟨(own_w hw 66 rfl), rfl, hnm⟩) (own_w hw 20 rfl) (ty := (.array .byte)) (by decide) rfl rfl (g := (mkF m 54 #[rv a1, rv a2, iv 0, iv 4, .val (.null), rv b_3] [.ref b_3, .ref a1])) rfl rfl (hb hby d6_54)
  have Fw6 : Fld Z h6 a1 "java/lang/String" "value" "[B" (.ref b_3) := ((P2.keep Kq3 nin0).other W5 (Or.inr (slot_ne (Or.inr (own_w hw 66 rfl)) (Or.inr (own_w hw 64 rfl)) (by decide) (t := (.array .byte)) (t' := .byte) (by decide) (by decide)))).same W6
  have Nf6 := Fr.snoc X6 Nf5 g_a1
  have K6 : Keep h0 h6 [a1] := K5.wr W6 (Or.inl (List.mem_of_getElem? (i := 0) rfl))
  have Z6 : n0 ≤ h6.size := Nat.le_trans Z5 (Keep.of_wr W6).1
  refine own_fw (A' := (T6.setTop (mkF m 57 #[rv a1, rv a2, iv 0, iv 4, .val (.null), rv b_3] []))) (fun t k => st6 _ k) ?_
  obtain ⟨fs, hr, hrun, hended, hW, hsame⟩ := X6.leave (v := none) (fun _ => rfl)
  refine ⟨_, _, ?_, hrun, hended, _, _, rfl, ?_, ⟨_, rfl⟩, hW, hsame.mono (by decide) (by decide)⟩
  · exact X6.returnOut hx Bd.returns (hb hby d6_57) hr
  · show Q_rmStrB4 Z a1 a2 kc cs c0 c1 c2 c3 h0 n0 _ T6.heap _
    rw [e6]
    exact ⟨b_3, kb_3, rfl, Nf6, K6, (((P0.keep Kq3).wr W5).wr W6), (Fw5.other W6 (Or.inr (slot_ne (Or.inr (own_w hw 64 rfl)) (Or.inr (own_w hw 66 rfl)) (by decide) (t := .byte) (t' := (.array .byte)) (by decide) (by decide)))), Fw6, ((Fq3_0.other W5 (Ne.symm ne_a1_b_3)).other W6 (Ne.symm ne_a1_b_3))⟩
theorem ef_rmStrA4 (m : MethodId) (a1 a2 : Addr) : entryFrame m #[(.ref a1), (.ref a2)] 2 = mkF m 0 #[.val (.ref a1), .val (.ref a2)] [] := by first | (simp [entryFrame, mkF, argsToLocals, Value.category]; done) | rfl
def Q_rmStrA4 (Z : State) (a1 a2 : Addr) (kc : ClassId) (cs c0 c1 c2 c3 : Int32) (h0 : Heap) (n0 : Nat) (v : Option Value) (h : Heap) (L : List Loc) : Prop := ∃ b : Addr, ∃ kb : ClassId, v = none ∧ Fr n0 L ∧ Keep h0 h [a1] ∧ Exa Z h a1 "java/lang/String" ∧ Fld Z h a1 "java/lang/String" "coder" "B" (.int 0) ∧ Fld Z h a1 "java/lang/String" "value" "[B" (.ref b) ∧ Arv Z h b kb .byte (4 : Int32) [(.int (c0.toInt8.toInt32)), (.int (c1.toInt8.toInt32)), (.int (c2.toInt8.toInt32)), (.int (c3.toInt8.toInt32))] (.int 0)
theorem rmStrA4 (l : Launch) (Z : State) (a0 : Array Value) (hw : ∀ d ∈ tables_1, d.before a0 Z = true) (ws : List Jvm.Cond) (a1 a2 : Addr) (kc : ClassId) (cs c0 c1 c2 c3 : Int32) (h0 : Heap) (n0 : Nat) (Z0 : n0 ≤ h0.size) (P0 : Exa Z h0 a1 "java/lang/String") (P1 : Fld Z h0 a1 "java/lang/String" "coder" "B" (.int 0)) (P2 : Fld Z h0 a1 "java/lang/String" "value" "[B" .null) (P3 : Arv Z h0 a2 kc .char (4 : Int32) [(.int c0), (.int c1), (.int c2), (.int c3)] (.int 0)) (g_a1 : n0 ≤ a1) (ne_a1_a2 : a1 ≠ a2) (P6 : Sta Z h0 "java/lang/String" "COMPACT_STRINGS" "Z" (.int cs)) (hcs : ¬ (cs = (0 : Int32))) (hc0 : ¬ ((255 : Int32) < c0)) (hc1 : ¬ ((255 : Int32) < c1)) (hc2 : ¬ ((255 : Int32) < c2)) (hc3 : ¬ ((255 : Int32) < c3)) :
    MetFree l yq9 (head1 (Jvm.Cond.code yq9 jdk_42_method_3_code 2 none :: ws) rq18) (fun a U => a = #[(.ref a1), (.ref a2)] ∧ Z.Warmed39 U.vm ∧ U.heap = h0) (fun _ _ _ _ _ => True) (fun _ U o U' => ∃ v L, o = .returned v ∧ Q_rmStrA4 Z a1 a2 kc cs c0 c1 c2 c3 h0 n0 v U'.heap L ∧ FrameEnd U o U' L rq18.cells rq18.slots) := by
  refine MetFree.of_bodySF (plainFor_of_name pn_java_lang_String) hisR ?_
  intro p e s m args below meth c s₁ Bd hml0 hP hK
  obtain ⟨rfl, hZ, hh⟩ := hP
  have hx := Bd.exec
  have hby := Bd.bytes
  have hml : c.maxLocals = 2 := hml0
  have hown : s.vm.findClass "java/lang/String" = some m.cls := findClass_of_methodNamed Bd.named
  have hnm := (name_of_methodNamed Bd.named Bd.method).1
  have X0 : Stand p l e rq18 s m #[(.ref a1), (.ref a2)] below meth c s₁ [] 0 0 := Stand.of_body Bd
  have e0 : s₁.heap = h0 := by rw [← hh, Bd.state]; rfl
  have N0 := Fr.nil n0
  refine own_fw (A' := (s₁.setTop (mkF m 4 #[rv a1, rv a2] [.ref a2, .int 0, .ref a2, .ref a1]))) (fun t k => castTop (ef_rmStrA4 m a1 a2) (XS.aloadN X0.here hx rfl (hb hby d5_0) rfl rfl (XS.aloadN X0.here hx rfl (hb hby d5_1) rfl rfl (XS.iconst X0.here hx rfl (hb hby d5_2) (XS.aloadN X0.here hx rfl (hb hby d5_3) rfl rfl k))))) ?_
  obtain ⟨cl1, Ar1, q1, S1, M1, H1, G1⟩ := id P3
  refine own_fw (A' := (s₁.setTop (mkF m 5 #[rv a1, rv a2] [.int 4, .int 0, .ref a2, .ref a1]))) (fun t k => X0.arraylength hx (by rw [e0]; exact Ar1.1) (State.isArrayOf_alike hZ.alike Ar1.2.1) (g := (mkF m 4 #[rv a1, rv a2] [.ref a2, .int 0, .ref a2, .ref a1])) rfl rfl (hb hby d5_4) _ (by rw [len_of S1 M1]; exact k)) ?_
  refine own_fw (A' := (s₁.setTop (mkF m 6 #[rv a1, rv a2] [.null, .int 4, .int 0, .ref a2, .ref a1]))) (fun t k => XS.aconstNull X0.here hx rfl (hb hby d5_5) k) ?_
  obtain ⟨_, _, ⟨T2, L2, k2, n2⟩, -, X2, ⟨Lc2, hQ2, l2, y2, z2⟩, st2⟩ := X0.specialBack hx (y := yq7) rfl hown (mvT hZ (own_w hw 25 rfl)) (mvT hZ (own_w hw 26 rfl)) (mvT hZ (own_w hw 28 rfl)) (by decide) (backOf (W := 0) (rmStrB4 l Z a0 hw [] a1 a2 kc cs c0 c1 c2 c3 h0 n0 Z0 P0 P1 P2 P3 g_a1 ne_a1_a2 P6 hcs hc0 hc1 hc2 hc3) hZ (own_w hw 28 rfl) (own_w hw 21 rfl) (by decide) (by decide)) (g := (mkF m 6 #[rv a1, rv a2] [.null, .int 4, .int 0, .ref a2, .ref a1])) rfl (by rw [hml]; rfl) (Steps.refl _) (a := a1) (argsL := [(.ref a2), (.int 0), (.int 4), .null]) (rest := []) (lenOf pd___CIILjava_lang_Void__V rfl) rfl (by show 2 * 0 + _ ≤ _; exact Nat.le_of_eq rfl) (hb hby d5_6) (fun _ _ => ⟨rfl, e0, (by decide : 0 + 1 ≤ _), (by decide : 0 + 4 ≤ _)⟩)
  dsimp only [Pt.U, Pt.locs, Pt.cells, Pt.slots] at X2 l2 y2 z2 st2 hQ2
  subst l2 y2 z2
  obtain ⟨b_2, kb_2, rfl, Nq2, Kq2, Fq2_0, Fq2_1, Fq2_2, Fq2_3⟩ := hQ2
  have Nf2 := Fr.app N0 Nq2
  have K2 : Keep h0 T2.heap [a1] := (Keep.refl h0 [a1]).trans Kq2 (allS (Or.inl (List.mem_of_getElem? (i := 0) rfl)) all0)
  have Z2 : n0 ≤ T2.heap.size := Nat.le_trans Z0 Kq2.1
  refine own_fw (A' := (T2.setTop (mkF m 9 #[rv a1, rv a2] []))) (fun t k => st2.trans k) ?_
  obtain ⟨fs, hr, hrun, hended, hW, hsame⟩ := X2.leave (v := none) (fun _ => rfl)
  refine ⟨_, _, ?_, hrun, hended, _, _, rfl, ?_, ⟨_, rfl⟩, hW, hsame.mono (by decide) (by decide)⟩
  · exact X2.returnOut hx Bd.returns (hb hby d5_9) hr
  · show Q_rmStrA4 Z a1 a2 kc cs c0 c1 c2 c3 h0 n0 _ T2.heap _
    exact ⟨b_2, kb_2, rfl, Nf2, K2, Fq2_0, Fq2_1, Fq2_2, Fq2_3⟩
theorem d12_0 : decode jdk_52_method_3_code 0 = .ok (.iload_n 0, 1) := by decide +kernel
theorem d12_1 : decode jdk_52_method_3_code 1 = .ok (.ifCond .ge 11, 3) := by decide +kernel
theorem d12_12 : decode jdk_52_method_3_code 12 = .ok (.iload_n 0, 1) := by decide +kernel
theorem d12_13 : decode jdk_52_method_3_code 13 = .ok (.ldc 20, 2) := by decide +kernel
theorem d12_15 : decode jdk_52_method_3_code 15 = .ok (.if_icmp .lt 40, 3) := by decide +kernel
theorem d12_55 : decode jdk_52_method_3_code 55 = .ok (.iload_n 0, 1) := by decide +kernel
theorem d12_56 : decode jdk_52_method_3_code 56 = .ok (.iconst 1, 1) := by decide +kernel
theorem d12_57 : decode jdk_52_method_3_code 57 = .ok (.ishl, 1) := by decide +kernel
theorem d12_58 : decode jdk_52_method_3_code 58 = .ok (.ireturn, 1) := by decide +kernel
theorem ef_rmNBL1 (m : MethodId) : entryFrame m #[(.int 1)] 1 = mkF m 0 #[.val (.int 1)] [] := by first | (simp [entryFrame, mkF, argsToLocals, Value.category]; done) | rfl
def Q_rmNBL1 (Z : State) (h0 : Heap) (n0 : Nat) (v : Option Value) (h : Heap) (L : List Loc) : Prop := v = some (.int 2) ∧ Fr n0 L ∧ h = h0
theorem rmNBL1 (l : Launch) (Z : State) (a0 : Array Value) (hw : ∀ d ∈ tables_1, d.before a0 Z = true) (ws : List Jvm.Cond) (h0 : Heap) (n0 : Nat) (Z0 : n0 ≤ h0.size)  :
    MetFree l yq19 (head1 (Jvm.Cond.code yq19 jdk_52_method_3_code 1 (some .int) :: ws) rq0) (fun a U => a = #[(.int 1)] ∧ Z.Warmed39 U.vm ∧ U.heap = h0) (fun _ _ _ _ _ => True) (fun _ U o U' => ∃ v L, o = .returned v ∧ Q_rmNBL1 Z  h0 n0 v U'.heap L ∧ FrameEnd U o U' L rq0.cells rq0.slots) := by
  refine MetFree.of_bodySF (plainFor_of_name pn_java_lang_StringUTF16) hisR ?_
  intro p e s m args below meth c s₁ Bd hml0 hP hK
  obtain ⟨rfl, hZ, hh⟩ := hP
  have hx := Bd.exec
  have hby := Bd.bytes
  have hml : c.maxLocals = 1 := hml0
  have hown : s.vm.findClass "java/lang/StringUTF16" = some m.cls := findClass_of_methodNamed Bd.named
  have hnm := (name_of_methodNamed Bd.named Bd.method).1
  have X0 : Stand p l e rq0 s m #[(.int 1)] below meth c s₁ [] 0 0 := Stand.of_body Bd
  have e0 : s₁.heap = h0 := by rw [← hh, Bd.state]; rfl
  have N0 := Fr.nil n0
  refine own_fw (A' := (s₁.setTop (mkF m 58 #[iv 1] [.int 2]))) (fun t k => castTop (ef_rmNBL1 m) (XS.iloadN X0.here hx rfl (hb hby d12_0) rfl (XS.ifYes X0.here hx rfl (pc0 := 1) (pc' := 12) rfl (hb hby d12_1) rfl (XT.i0_ge_t (by decide)) (by decide) (by decide) (XS.iloadN X0.here hx rfl (hb hby d12_12) rfl (X0.ldcInt hx hown (mvT hZ (own_w hw 50 rfl)) (g := (mkF m 13 #[iv 1] [.int 1])) rfl (hb hby d12_13) _ (XS.icmpYes X0.here hx rfl (pc0 := 15) (pc' := 55) rfl (hb hby d12_15) rfl (XT.ii_lt_t (by decide)) (by decide) (by decide) (XS.iloadN X0.here hx rfl (hb hby d12_55) rfl (XS.iconst X0.here hx rfl (hb hby d12_56) (XS.ishl X0.here hx rfl (hb hby d12_57) rfl k))))))))) ?_
  obtain ⟨fs, hr, hrun, hended, hW, hsame⟩ := X0.leave (v := some (.int 2)) (fun h => by rw [Bd.returns] at h; cases h)
  refine ⟨_, _, ?_, hrun, hended, _, _, rfl, ?_, ⟨_, rfl⟩, hW, hsame.mono (by decide) (by decide)⟩
  · exact retOut X0 hx Bd.returns rfl (Or.inl ⟨rfl, by simp, _, rfl⟩) (hb hby d12_58) hr
  · show Q_rmNBL1 Z  h0 n0 _ s₁.heap _
    rw [e0]
    exact ⟨rfl, N0, rfl⟩
theorem d11_0 : decode jdk_52_method_2_code 0 = .ok (.iload_n 0, 1) := by decide +kernel
theorem d11_1 : decode jdk_52_method_2_code 1 = .ok (.invokestatic 11, 3) := by decide +kernel
theorem pd__I_I : parseMethodDescriptor "(I)I" = some ⟨[.int], some .int⟩ := by decide +kernel
theorem d11_4 : decode jdk_52_method_2_code 4 = .ok (.newarray .byte, 2) := by decide +kernel
theorem d11_6 : decode jdk_52_method_2_code 6 = .ok (.areturn, 1) := by decide +kernel
theorem ef_rmNBF1 (m : MethodId) : entryFrame m #[(.int 1)] 1 = mkF m 0 #[.val (.int 1)] [] := by first | (simp [entryFrame, mkF, argsToLocals, Value.category]; done) | rfl
def Q_rmNBF1 (Z : State) (h0 : Heap) (n0 : Nat) (v : Option Value) (h : Heap) (L : List Loc) : Prop := ∃ b : Addr, ∃ kb : ClassId, v = some (.ref b) ∧ Fr n0 L ∧ Keep h0 h [] ∧ Arv Z h b kb .byte (2 : Int32) [(.int 0), (.int 0)] (.int 0) ∧ (h0.size ≤ b)
theorem rmNBF1 (l : Launch) (Z : State) (a0 : Array Value) (hw : ∀ d ∈ tables_1, d.before a0 Z = true) (ws : List Jvm.Cond) (h0 : Heap) (n0 : Nat) (Z0 : n0 ≤ h0.size)  :
    MetFree l yq21 (head1 (Jvm.Cond.code yq21 jdk_52_method_2_code 1 (some (.array .byte)) :: ws) rq20) (fun a U => a = #[(.int 1)] ∧ Z.Warmed39 U.vm ∧ U.heap = h0) (fun _ _ _ _ _ => True) (fun _ U o U' => ∃ v L, o = .returned v ∧ Q_rmNBF1 Z  h0 n0 v U'.heap L ∧ FrameEnd U o U' L rq20.cells rq20.slots) := by
  refine MetFree.of_bodySF (plainFor_of_name pn_java_lang_StringUTF16) hisR ?_
  intro p e s m args below meth c s₁ Bd hml0 hP hK
  obtain ⟨rfl, hZ, hh⟩ := hP
  have hx := Bd.exec
  have hby := Bd.bytes
  have hml : c.maxLocals = 1 := hml0
  have hown : s.vm.findClass "java/lang/StringUTF16" = some m.cls := findClass_of_methodNamed Bd.named
  have hnm := (name_of_methodNamed Bd.named Bd.method).1
  have X0 : Stand p l e rq20 s m #[(.int 1)] below meth c s₁ [] 0 0 := Stand.of_body Bd
  have e0 : s₁.heap = h0 := by rw [← hh, Bd.state]; rfl
  have N0 := Fr.nil n0
  refine own_fw (A' := (s₁.setTop (mkF m 1 #[iv 1] [.int 1]))) (fun t k => castTop (ef_rmNBF1 m) (XS.iloadN X0.here hx rfl (hb hby d11_0) rfl k)) ?_
  obtain ⟨_, _, ⟨T1, L1, k1, n1⟩, -, X1, ⟨Lc1, hQ1, l1, y1, z1⟩, st1⟩ := Jvm.LawKit.callS X0 hx (y := yq19) hown (mvT hZ (own_w hw 47 rfl)) (mvT hZ (own_w hw 48 rfl)) (mvT hZ (own_w hw 35 rfl)) (mvT hZ (own_w hw 49 rfl)) (by decide) (backOf (W := 0) (rmNBL1 l Z a0 hw []  h0 n0 Z0 ) hZ (own_w hw 49 rfl) (own_w hw 35 rfl) (by decide) (by decide)) (g := (mkF m 1 #[iv 1] [.int 1])) rfl (by rw [hml]; rfl) (argsL := [(.int 1)]) (rest := []) (lenOf pd__I_I rfl) rfl (by show 2 * 0 + _ ≤ _; exact Nat.le_of_eq rfl) (hb hby d11_1) (fun _ _ => ⟨rfl, e0, (by decide : 0 + 0 ≤ _), (by decide : 0 + 0 ≤ _)⟩)
  dsimp only [Pt.U, Pt.locs, Pt.cells, Pt.slots] at X1 l1 y1 z1 st1 hQ1
  subst l1 y1 z1
  obtain ⟨rfl, Nq1, e1⟩ := hQ1
  have Nf1 := Fr.app N0 Nq1
  refine own_fw (A' := (T1.setTop (mkF m 4 #[iv 1] [.int 2]))) (fun t k => st1 _ k) ?_
  obtain ⟨T2, h2, k2, X2, e2, E2, A2, st2⟩ := newP X1 hx hZ (own_w hw 37 rfl) e1 (g := (mkF m 4 #[iv 1] [.int 2])) rfl (hb hby d11_4) rfl (by decide) (cap := 2) (by decide) (by decide) (by decide) (by decide)
  obtain ⟨b2, gb2⟩ : ∃ z, z = h0.size := ⟨_, rfl⟩
  have g_b2 : n0 ≤ b2 := Nat.le_trans Z0 (Nat.le_of_eq gb2.symm)
  have sz_b2 : h0.size ≤ b2 := Nat.le_trans (Keep.refl h0 []).1 (Nat.le_of_eq gb2.symm)
  rw [← gb2] at A2 st2
  have V_b2 : Arv Z h2 b2 k2 .byte (2 : Int32) [(.int 0), (.int 0)] (.int 0) := (Arv.new A2 (by decide)).pad (pad_rep [] (.int 0) 2)
  have K2 : Keep h0 h2 [] := (Keep.refl h0 []).ext E2
  have Z2 : n0 ≤ h2.size := Nat.le_trans Z0 E2.1
  refine own_fw (A' := (T2.setTop (mkF m 6 #[iv 1] [.ref b2]))) (fun t k => st2 _ k) ?_
  obtain ⟨fs, hr, hrun, hended, hW, hsame⟩ := X2.leave (v := some (.ref b2)) (fun h => by rw [Bd.returns] at h; cases h)
  refine ⟨_, _, ?_, hrun, hended, _, _, rfl, ?_, ⟨_, rfl⟩, hW, hsame.mono (by decide) (by decide)⟩
  · exact retOut X2 hx Bd.returns rfl (Or.inr (Or.inr (Or.inr (Or.inr ⟨rfl, rfl, rfl⟩)))) (hb hby d11_6) hr
  · show Q_rmNBF1 Z  h0 n0 _ T2.heap _
    rw [e2]
    exact ⟨b2, k2, rfl, Nf1, K2, V_b2, sz_b2⟩
theorem d13_0 : decode jdk_52_method_4_code 0 = .ok (.getstatic 44, 3) := by decide +kernel
theorem d13_3 : decode jdk_52_method_4_code 3 = .ok (.ifCond .ne 25, 3) := by decide +kernel
theorem d13_28 : decode jdk_52_method_4_code 28 = .ok (.iload_n 1, 1) := by decide +kernel
theorem d13_29 : decode jdk_52_method_4_code 29 = .ok (.iconst 1, 1) := by decide +kernel
theorem d13_30 : decode jdk_52_method_4_code 30 = .ok (.ishl, 1) := by decide +kernel
theorem d13_31 : decode jdk_52_method_4_code 31 = .ok (.istore_n 1, 1) := by decide +kernel
theorem d13_32 : decode jdk_52_method_4_code 32 = .ok (.aload_n 0, 1) := by decide +kernel
theorem d13_33 : decode jdk_52_method_4_code 33 = .ok (.iload_n 1, 1) := by decide +kernel
theorem d13_34 : decode jdk_52_method_4_code 34 = .ok (.iinc 1 1, 3) := by decide +kernel
theorem d13_37 : decode jdk_52_method_4_code 37 = .ok (.iload_n 2, 1) := by decide +kernel
theorem d13_38 : decode jdk_52_method_4_code 38 = .ok (.getstatic 59, 3) := by decide +kernel
theorem d13_41 : decode jdk_52_method_4_code 41 = .ok (.ishr, 1) := by decide +kernel
theorem d13_42 : decode jdk_52_method_4_code 42 = .ok (.i2b, 1) := by decide +kernel
theorem d13_43 : decode jdk_52_method_4_code 43 = .ok (.bastore, 1) := by decide +kernel
theorem d13_44 : decode jdk_52_method_4_code 44 = .ok (.aload_n 0, 1) := by decide +kernel
theorem d13_45 : decode jdk_52_method_4_code 45 = .ok (.iload_n 1, 1) := by decide +kernel
theorem d13_46 : decode jdk_52_method_4_code 46 = .ok (.iload_n 2, 1) := by decide +kernel
theorem d13_47 : decode jdk_52_method_4_code 47 = .ok (.getstatic 63, 3) := by decide +kernel
theorem d13_50 : decode jdk_52_method_4_code 50 = .ok (.ishr, 1) := by decide +kernel
theorem d13_51 : decode jdk_52_method_4_code 51 = .ok (.i2b, 1) := by decide +kernel
theorem d13_52 : decode jdk_52_method_4_code 52 = .ok (.bastore, 1) := by decide +kernel
theorem d13_53 : decode jdk_52_method_4_code 53 = .ok (.return_, 1) := by decide +kernel
theorem ef_rmPut10 (m : MethodId) (a1 : Addr) (c0 : Int32) : entryFrame m #[(.ref a1), (.int 0), (.int c0)] 3 = mkF m 0 #[.val (.ref a1), .val (.int 0), .val (.int c0)] [] := by first | (simp [entryFrame, mkF, argsToLocals, Value.category]; done) | rfl
def Q_rmPut10 (Z : State) (a1 : Addr) (kb : ClassId) (c0 x0 x1 : Int32) (h0 : Heap) (n0 : Nat) (v : Option Value) (h : Heap) (L : List Loc) : Prop := v = none ∧ Fr n0 L ∧ Keep h0 h [a1] ∧ Arv Z h a1 kb .byte (2 : Int32) [(.int (own_lo c0)), (.int (own_hb c0))] (.int 0)
theorem rmPut10 (l : Launch) (Z : State) (a0 : Array Value) (hw : ∀ d ∈ tables_1, d.before a0 Z = true) (ws : List Jvm.Cond) (a1 : Addr) (kb : ClassId) (c0 x0 x1 : Int32) (h0 : Heap) (n0 : Nat) (Z0 : n0 ≤ h0.size) (P0 : Arv Z h0 a1 kb .byte (2 : Int32) [(.int x0), (.int x1)] (.int 0)) (g_a1 : n0 ≤ a1) (P2 : Sta Z h0 "java/lang/StringUTF16" "$assertionsDisabled" "Z" (.int 1)) (P3 : Sta Z h0 "java/lang/StringUTF16" "HI_BYTE_SHIFT" "I" (.int 0)) (P4 : Sta Z h0 "java/lang/StringUTF16" "LO_BYTE_SHIFT" "I" (.int 8)) :
    MetFree l yq22 (head1 (Jvm.Cond.code yq22 jdk_52_method_4_code 3 none :: ws) rq0) (fun a U => a = #[(.ref a1), (.int 0), (.int c0)] ∧ Z.Warmed39 U.vm ∧ U.heap = h0) (fun _ _ _ _ _ => True) (fun _ U o U' => ∃ v L, o = .returned v ∧ Q_rmPut10 Z a1 kb c0 x0 x1 h0 n0 v U'.heap L ∧ FrameEnd U o U' L rq0.cells rq0.slots) := by
  refine MetFree.of_bodySF (plainFor_of_name pn_java_lang_StringUTF16) hisR ?_
  intro p e s m args below meth c s₁ Bd hml0 hP hK
  obtain ⟨rfl, hZ, hh⟩ := hP
  have hx := Bd.exec
  have hby := Bd.bytes
  have hml : c.maxLocals = 3 := hml0
  have hown : s.vm.findClass "java/lang/StringUTF16" = some m.cls := findClass_of_methodNamed Bd.named
  have hnm := (name_of_methodNamed Bd.named Bd.method).1
  have X0 : Stand p l e rq0 s m #[(.ref a1), (.int 0), (.int c0)] below meth c s₁ [] 0 0 := Stand.of_body Bd
  have e0 : s₁.heap = h0 := by rw [← hh, Bd.state]; rfl
  have N0 := Fr.nil n0
  refine own_fw (A' := (s₁.setTop (mkF m 0 #[.val (.ref a1), .val (.int 0), .val (.int c0)] []))) (fun t k => castTop (ef_rmPut10 m a1 c0) k) ?_
  obtain ⟨T1, X1, e1, st1⟩ := getS2 X0 hx hZ hown (host := "") (Or.inl (own_w hw 54 rfl)) Via.refl e0 P2 (g := (mkF m 0 #[rv a1, iv 0, iv c0] [])) rfl (hb hby d13_0)
  refine own_fw (A' := (T1.setTop (mkF m 38 #[rv a1, iv 1, iv c0] [.int c0, .int 0, .ref a1]))) (fun t k => st1 _ (XS.ifYes X1.here hx rfl (pc0 := 3) (pc' := 28) rfl (hb hby d13_3) rfl (XT.i0_ne_t (by decide)) (by decide) (by decide) (XS.iloadN X1.here hx rfl (hb hby d13_28) rfl (XS.iconst X1.here hx rfl (hb hby d13_29) (XS.ishl X1.here hx rfl (hb hby d13_30) rfl (XS.istoreN X1.here hx rfl (hb hby d13_31) rfl (l' := #[rv a1, iv 0, iv c0]) rfl (XS.aloadN X1.here hx rfl (hb hby d13_32) rfl rfl (XS.iloadN X1.here hx rfl (hb hby d13_33) rfl (XS.iinc X1.here hx rfl (hb hby d13_34) rfl (l' := #[rv a1, iv 1, iv c0]) rfl (XS.iloadN X1.here hx rfl (hb hby d13_37) rfl k)))))))))) ?_
  obtain ⟨T2, X2, e2, st2⟩ := getS2 X1 hx hZ hown (host := "") (Or.inl (own_w hw 55 rfl)) Via.refl e1 P3 (g := (mkF m 38 #[rv a1, iv 1, iv c0] [.int c0, .int 0, .ref a1])) rfl (hb hby d13_38)
  refine own_fw (A' := (T2.setTop (mkF m 43 #[rv a1, iv 1, iv c0] [.int ((c0 >>> ((0 : Int32) &&& 31)).toInt8.toInt32), .int 0, .ref a1]))) (fun t k => st2 _ (XS.ishr X2.here hx rfl (hb hby d13_41) rfl (XS.i2b X2.here hx rfl (hb hby d13_42) rfl k))) ?_
  obtain ⟨cl3, Ar3, q3, S3, M3, H3, G3⟩ := id P0
  have hin3 : ¬ ((0 : Int32) < 0 ∨ cl3.slots.size ≤ ((0 : Int32)).toNatClampNeg) := inb_of S3 ⟨by decide, by decide⟩
  obtain ⟨T3, h3, X3, e3, W3, st3⟩ := stB X2 hx hZ e2 Ar3 (j := (0 : Int32)) hin3 (g := (mkF m 43 #[rv a1, iv 1, iv c0] [.int ((c0 >>> ((0 : Int32) &&& 31)).toInt8.toInt32), .int 0, .ref a1])) rfl rfl (hb hby d13_43)
  rw [own_narB] at W3
  have V3 : Arv Z h3 a1 kb .byte (2 : Int32) [(.int ((c0 >>> ((0 : Int32) &&& 31)).toInt8.toInt32)), (.int x1)] (.int 0) := Arv.set Ar3 q3 S3 M3 H3 G3 (fits_nar_byte _) W3 0 rfl (Nat.le_of_ble_eq_true rfl)
  have Nf3 := Fr.snoc X3 N0 g_a1
  have K3 : Keep h0 h3 [a1] := (Keep.refl h0 [a1]).wr W3 (Or.inl (List.mem_of_getElem? (i := 0) rfl))
  have Z3 : n0 ≤ h3.size := Nat.le_trans Z0 (Keep.of_wr W3).1
  refine own_fw (A' := (T3.setTop (mkF m 47 #[rv a1, iv 1, iv c0] [.int c0, .int 1, .ref a1]))) (fun t k => st3 _ (XS.aloadN X3.here hx rfl (hb hby d13_44) rfl rfl (XS.iloadN X3.here hx rfl (hb hby d13_45) rfl (XS.iloadN X3.here hx rfl (hb hby d13_46) rfl k)))) ?_
  obtain ⟨T4, X4, e4, st4⟩ := getS2 X3 hx hZ hown (host := "") (Or.inl (own_w hw 56 rfl)) Via.refl e3 (P4.wr W3) (g := (mkF m 47 #[rv a1, iv 1, iv c0] [.int c0, .int 1, .ref a1])) rfl (hb hby d13_47)
  refine own_fw (A' := (T4.setTop (mkF m 52 #[rv a1, iv 1, iv c0] [.int ((c0 >>> ((8 : Int32) &&& 31)).toInt8.toInt32), .int 1, .ref a1]))) (fun t k => st4 _ (XS.ishr X4.here hx rfl (hb hby d13_50) rfl (XS.i2b X4.here hx rfl (hb hby d13_51) rfl k))) ?_
  obtain ⟨cl5, Ar5, q5, S5, M5, H5, G5⟩ := id V3
  have hin5 : ¬ ((1 : Int32) < 0 ∨ cl5.slots.size ≤ ((1 : Int32)).toNatClampNeg) := inb_of S5 ⟨by decide, by decide⟩
  obtain ⟨T5, h5, X5, e5, W5, st5⟩ := stB X4 hx hZ e4 Ar5 (j := (1 : Int32)) hin5 (g := (mkF m 52 #[rv a1, iv 1, iv c0] [.int ((c0 >>> ((8 : Int32) &&& 31)).toInt8.toInt32), .int 1, .ref a1])) rfl rfl (hb hby d13_52)
  rw [own_narB] at W5
  have V5 : Arv Z h5 a1 kb .byte (2 : Int32) [(.int ((c0 >>> ((0 : Int32) &&& 31)).toInt8.toInt32)), (.int ((c0 >>> ((8 : Int32) &&& 31)).toInt8.toInt32))] (.int 0) := Arv.set Ar5 q5 S5 M5 H5 G5 (fits_nar_byte _) W5 1 rfl (Nat.le_of_ble_eq_true rfl)
  have Nf5 := Fr.snoc X5 Nf3 g_a1
  have K5 : Keep h0 h5 [a1] := K3.wr W5 (Or.inl (List.mem_of_getElem? (i := 0) rfl))
  have Z5 : n0 ≤ h5.size := Nat.le_trans Z3 (Keep.of_wr W5).1
  refine own_fw (A' := (T5.setTop (mkF m 53 #[rv a1, iv 1, iv c0] []))) (fun t k => st5 _ k) ?_
  obtain ⟨fs, hr, hrun, hended, hW, hsame⟩ := X5.leave (v := none) (fun _ => rfl)
  refine ⟨_, _, ?_, hrun, hended, _, _, rfl, ?_, ⟨_, rfl⟩, hW, hsame.mono (by decide) (by decide)⟩
  · exact X5.returnOut hx Bd.returns (hb hby d13_53) hr
  · show Q_rmPut10 Z a1 kb c0 x0 x1 h0 n0 _ T5.heap _
    rw [e5]
    exact ⟨rfl, Nf5, K5, V5⟩
theorem d10_0 : decode jdk_52_method_14_code 0 = .ok (.iload_n 2, 1) := by decide +kernel
theorem d10_1 : decode jdk_52_method_14_code 1 = .ok (.invokestatic 107, 3) := by decide +kernel
theorem pd__I__B : parseMethodDescriptor "(I)[B" = some ⟨[.int], some (.array .byte)⟩ := by decide +kernel
theorem d10_4 : decode jdk_52_method_14_code 4 = .ok (.astore_n 3, 1) := by decide +kernel
theorem d10_5 : decode jdk_52_method_14_code 5 = .ok (.iconst 0, 1) := by decide +kernel
theorem d10_6 : decode jdk_52_method_14_code 6 = .ok (.istore 4, 2) := by decide +kernel
theorem d10_8 : decode jdk_52_method_14_code 8 = .ok (.iload 4, 2) := by decide +kernel
theorem d10_10 : decode jdk_52_method_14_code 10 = .ok (.iload_n 2, 1) := by decide +kernel
theorem d10_11 : decode jdk_52_method_14_code 11 = .ok (.if_icmp .ge 21, 3) := by decide +kernel
theorem d10_14 : decode jdk_52_method_14_code 14 = .ok (.aload_n 3, 1) := by decide +kernel
theorem d10_15 : decode jdk_52_method_14_code 15 = .ok (.iload 4, 2) := by decide +kernel
theorem d10_17 : decode jdk_52_method_14_code 17 = .ok (.aload_n 0, 1) := by decide +kernel
theorem d10_18 : decode jdk_52_method_14_code 18 = .ok (.iload_n 1, 1) := by decide +kernel
theorem d10_19 : decode jdk_52_method_14_code 19 = .ok (.caload, 1) := by decide +kernel
theorem d10_20 : decode jdk_52_method_14_code 20 = .ok (.invokestatic 111, 3) := by decide +kernel
theorem pd___BII_V : parseMethodDescriptor "([BII)V" = some ⟨[(.array .byte), .int, .int], none⟩ := by decide +kernel
theorem d10_23 : decode jdk_52_method_14_code 23 = .ok (.iinc 1 1, 3) := by decide +kernel
theorem d10_26 : decode jdk_52_method_14_code 26 = .ok (.iinc 4 1, 3) := by decide +kernel
theorem d10_29 : decode jdk_52_method_14_code 29 = .ok (.goto (-21), 3) := by decide +kernel
theorem d10_32 : decode jdk_52_method_14_code 32 = .ok (.aload_n 3, 1) := by decide +kernel
theorem d10_33 : decode jdk_52_method_14_code 33 = .ok (.areturn, 1) := by decide +kernel
theorem ef_rmToB1 (m : MethodId) (a1 : Addr) : entryFrame m #[(.ref a1), (.int 0), (.int 1)] 5 = mkF m 0 #[.val (.ref a1), .val (.int 0), .val (.int 1), .unset, .unset] [] := by first | (simp [entryFrame, mkF, argsToLocals, Value.category]; done) | rfl
def Q_rmToB1 (Z : State) (a1 : Addr) (kc : ClassId) (c0 : Int32) (h0 : Heap) (n0 : Nat) (v : Option Value) (h : Heap) (L : List Loc) : Prop := ∃ b : Addr, ∃ kb : ClassId, v = some (.ref b) ∧ Fr n0 L ∧ Keep h0 h [] ∧ Arv Z h b kb .byte (2 : Int32) [(.int (own_lo c0)), (.int (own_hb c0))] (.int 0) ∧ (h0.size ≤ b)
theorem rmToB1 (l : Launch) (Z : State) (a0 : Array Value) (hw : ∀ d ∈ tables_1, d.before a0 Z = true) (ws : List Jvm.Cond) (a1 : Addr) (kc : ClassId) (c0 : Int32) (h0 : Heap) (n0 : Nat) (Z0 : n0 ≤ h0.size) (P0 : Arv Z h0 a1 kc .char (1 : Int32) [(.int c0)] (.int 0)) (P1 : Sta Z h0 "java/lang/StringUTF16" "$assertionsDisabled" "Z" (.int 1)) (P2 : Sta Z h0 "java/lang/StringUTF16" "HI_BYTE_SHIFT" "I" (.int 0)) (P3 : Sta Z h0 "java/lang/StringUTF16" "LO_BYTE_SHIFT" "I" (.int 8)) :
    MetFree l yq24 (head1 (Jvm.Cond.code yq24 jdk_52_method_14_code 5 (some (.array .byte)) :: ws) rq23) (fun a U => a = #[(.ref a1), (.int 0), (.int 1)] ∧ Z.Warmed39 U.vm ∧ U.heap = h0) (fun _ _ _ _ _ => True) (fun _ U o U' => ∃ v L, o = .returned v ∧ Q_rmToB1 Z a1 kc c0 h0 n0 v U'.heap L ∧ FrameEnd U o U' L rq23.cells rq23.slots) := by
  refine MetFree.of_bodySF (plainFor_of_name pn_java_lang_StringUTF16) hisR ?_
  intro p e s m args below meth c s₁ Bd hml0 hP hK
  obtain ⟨rfl, hZ, hh⟩ := hP
  have hx := Bd.exec
  have hby := Bd.bytes
  have hml : c.maxLocals = 5 := hml0
  have hown : s.vm.findClass "java/lang/StringUTF16" = some m.cls := findClass_of_methodNamed Bd.named
  have hnm := (name_of_methodNamed Bd.named Bd.method).1
  have X0 : Stand p l e rq23 s m #[(.ref a1), (.int 0), (.int 1)] below meth c s₁ [] 0 0 := Stand.of_body Bd
  have e0 : s₁.heap = h0 := by rw [← hh, Bd.state]; rfl
  have N0 := Fr.nil n0
  refine own_fw (A' := (s₁.setTop (mkF m 1 #[rv a1, iv 0, iv 1, .unset, .unset] [.int 1]))) (fun t k => castTop (ef_rmToB1 m a1) (XS.iloadN X0.here hx rfl (hb hby d10_0) rfl k)) ?_
  obtain ⟨_, _, ⟨T1, L1, k1, n1⟩, -, X1, ⟨Lc1, hQ1, l1, y1, z1⟩, st1⟩ := Jvm.LawKit.callS X0 hx (y := yq21) hown (mvT hZ (own_w hw 44 rfl)) (mvT hZ (own_w hw 45 rfl)) (mvT hZ (own_w hw 35 rfl)) (mvT hZ (own_w hw 46 rfl)) (by decide) (backOf (W := 0) (rmNBF1 l Z a0 hw []  h0 n0 Z0 ) hZ (own_w hw 46 rfl) (own_w hw 35 rfl) (by decide) (by decide)) (g := (mkF m 1 #[rv a1, iv 0, iv 1, .unset, .unset] [.int 1])) rfl (by rw [hml]; rfl) (argsL := [(.int 1)]) (rest := []) (lenOf pd__I__B rfl) rfl (by show 2 * 0 + _ ≤ _; exact Nat.le_of_eq rfl) (hb hby d10_1) (fun _ _ => ⟨rfl, e0, (by decide : 0 + 1 ≤ _), (by decide : 0 + 2 ≤ _)⟩)
  dsimp only [Pt.U, Pt.locs, Pt.cells, Pt.slots] at X1 l1 y1 z1 st1 hQ1
  subst l1 y1 z1
  obtain ⟨b_1, kb_1, rfl, Nq1, Kq1, Fq1_0, gb_1⟩ := hQ1
  have Nf1 := Fr.app N0 Nq1
  have K1 : Keep h0 T1.heap [] := (Keep.refl h0 []).trans Kq1 all0
  have sz_b_1 : h0.size ≤ b_1 := Nat.le_trans (Keep.refl h0 []).1 gb_1
  have g_b_1 : n0 ≤ b_1 := Nat.le_trans Z0 gb_1
  have ne_a1_b_1 : a1 ≠ b_1 := Nat.ne_of_lt (Nat.lt_of_lt_of_le P0.lt gb_1)
  have Z1 : n0 ≤ T1.heap.size := Nat.le_trans Z0 Kq1.1
  refine own_fw (A' := (T1.setTop (mkF m 19 #[rv a1, iv 0, iv 1, rv b_1, iv 0] [.int 0, .ref a1, .int 0, .ref b_1]))) (fun t k => st1 _ (XS.astoreN X1.here hx rfl (hb hby d10_4) rfl rfl (l' := #[rv a1, iv 0, iv 1, rv b_1, .unset]) rfl (XS.iconst X1.here hx rfl (hb hby d10_5) (XS.istore X1.here hx rfl (hb hby d10_6) rfl (l' := #[rv a1, iv 0, iv 1, rv b_1, iv 0]) rfl (XS.iload X1.here hx rfl (hb hby d10_8) rfl (XS.iloadN X1.here hx rfl (hb hby d10_10) rfl (XS.icmpNo X1.here hx rfl (hb hby d10_11) rfl (XT.ii_ge_f (by decide)) (XS.aloadN X1.here hx rfl (hb hby d10_14) rfl rfl (XS.iload X1.here hx rfl (hb hby d10_15) rfl (XS.aloadN X1.here hx rfl (hb hby d10_17) rfl rfl (XS.iloadN X1.here hx rfl (hb hby d10_18) rfl k))))))))))) ?_
  obtain ⟨cl2, Ar2, q2, S2, M2, H2, G2⟩ := id (P0.keep Kq1 nin0)
  have hin2 : ¬ ((0 : Int32) < 0 ∨ cl2.slots.size ≤ ((0 : Int32)).toNatClampNeg) := inb_of S2 ⟨by decide, by decide⟩
  have hat2 : cl2.slots[((0 : Int32)).toNatClampNeg]? = some (.int c0) := H2.at hin2 rfl
  refine own_fw (A' := (T1.setTop (mkF m 20 #[rv a1, iv 0, iv 1, rv b_1, iv 0] [.int c0, .int 0, .ref b_1]))) (fun t k => X1.caload hx (j := (0 : Int32)) (v := (.int c0)) (by exact Ar2.1) (State.isArrayOf_alike hZ.alike Ar2.2.1) Ar2.2.2 hin2 hat2 (g := (mkF m 19 #[rv a1, iv 0, iv 1, rv b_1, iv 0] [.int 0, .ref a1, .int 0, .ref b_1])) rfl rfl (hb hby d10_19) _ k) ?_
  obtain ⟨_, _, ⟨T3, L3, k3, n3⟩, -, X3, ⟨Lc3, hQ3, l3, y3, z3⟩, st3⟩ := Jvm.LawKit.callS X1 hx (y := yq22) hown (mvT hZ (own_w hw 51 rfl)) (mvT hZ (own_w hw 52 rfl)) (mvT hZ (own_w hw 35 rfl)) (mvT hZ (own_w hw 53 rfl)) (by decide) (backOf (W := 0) (rmPut10 l Z a0 hw [] b_1 kb_1 c0 (0 : Int32) (0 : Int32) T1.heap n0 Z1 Fq1_0 g_b_1 (own_staKeep P1 Kq1 all0) (own_staKeep P2 Kq1 all0) (own_staKeep P3 Kq1 all0)) hZ (own_w hw 53 rfl) (own_w hw 35 rfl) (by decide) (by decide)) (g := (mkF m 20 #[rv a1, iv 0, iv 1, rv b_1, iv 0] [.int c0, .int 0, .ref b_1])) rfl (by rw [hml]; rfl) (argsL := [(.ref b_1), (.int 0), (.int c0)]) (rest := []) (lenOf pd___BII_V rfl) rfl (by show 2 * 0 + _ ≤ _; exact Nat.le_of_eq rfl) (hb hby d10_20) (fun _ _ => ⟨rfl, rfl, (by decide : 1 + 0 ≤ _), (by decide : 2 + 0 ≤ _)⟩)
  dsimp only [Pt.U, Pt.locs, Pt.cells, Pt.slots] at X3 l3 y3 z3 st3 hQ3
  subst l3 y3 z3
  obtain ⟨rfl, Nq3, Kq3, Fq3_0⟩ := hQ3
  have Nf3 := Fr.app Nf1 Nq3
  have K3 : Keep h0 T3.heap [] := K1.trans Kq3 (allS (Or.inr sz_b_1) all0)
  have Z3 : n0 ≤ T3.heap.size := Nat.le_trans Z1 Kq3.1
  refine own_fw (A' := (T3.setTop (mkF m 33 #[rv a1, iv 1, iv 1, rv b_1, iv 1] [.ref b_1]))) (fun t k => st3 _ (XS.iinc X3.here hx rfl (hb hby d10_23) rfl (l' := #[rv a1, iv 1, iv 1, rv b_1, iv 0]) rfl (XS.iinc X3.here hx rfl (hb hby d10_26) rfl (l' := #[rv a1, iv 1, iv 1, rv b_1, iv 1]) rfl (XS.goto X3.here hx rfl (pc0 := 29) (pc' := 8) rfl (hb hby d10_29) (by decide) (by decide) (XS.iload X3.here hx rfl (hb hby d10_8) rfl (XS.iloadN X3.here hx rfl (hb hby d10_10) rfl (XS.icmpYes X3.here hx rfl (pc0 := 11) (pc' := 32) rfl (hb hby d10_11) rfl (XT.ii_ge_t (by decide)) (by decide) (by decide) (XS.aloadN X3.here hx rfl (hb hby d10_32) rfl rfl k)))))))) ?_
  obtain ⟨fs, hr, hrun, hended, hW, hsame⟩ := X3.leave (v := some (.ref b_1)) (fun h => by rw [Bd.returns] at h; cases h)
  refine ⟨_, _, ?_, hrun, hended, _, _, rfl, ?_, ⟨_, rfl⟩, hW, hsame.mono (by decide) (by decide)⟩
  · exact retOut X3 hx Bd.returns rfl (Or.inr (Or.inr (Or.inr (Or.inr ⟨rfl, rfl, rfl⟩)))) (hb hby d10_33) hr
  · show Q_rmToB1 Z a1 kc c0 h0 n0 _ T3.heap _
    exact ⟨b_1, kb_1, rfl, Nf3, K3, Fq3_0, sz_b_1⟩
theorem ef_rmCoderU1 (m : MethodId) (a1 : Addr) : entryFrame m #[(.ref a1), (.int 1)] 2 = mkF m 0 #[.val (.ref a1), .val (.int 1)] [] := by first | (simp [entryFrame, mkF, argsToLocals, Value.category]; done) | rfl
def Q_rmCoderU1 (Z : State) (a1 : Addr) (kb : ClassId) (x0 x1 : Int32) (h0 : Heap) (n0 : Nat) (v : Option Value) (h : Heap) (L : List Loc) : Prop := v = some (.int 1) ∧ Fr n0 L ∧ h = h0
theorem rmCoderU1 (l : Launch) (Z : State) (a0 : Array Value) (hw : ∀ d ∈ tables_1, d.before a0 Z = true) (ws : List Jvm.Cond) (a1 : Addr) (kb : ClassId) (x0 x1 : Int32) (h0 : Heap) (n0 : Nat) (Z0 : n0 ≤ h0.size) (P0 : Arv Z h0 a1 kb .byte (2 : Int32) [(.int x0), (.int x1)] (.int 0)) :
    MetFree l yq5 (head1 (Jvm.Cond.code yq5 jdk_52_method_15_code 2 (some .byte) :: ws) rq0) (fun a U => a = #[(.ref a1), (.int 1)] ∧ Z.Warmed39 U.vm ∧ U.heap = h0) (fun _ _ _ _ _ => True) (fun _ U o U' => ∃ v L, o = .returned v ∧ Q_rmCoderU1 Z a1 kb x0 x1 h0 n0 v U'.heap L ∧ FrameEnd U o U' L rq0.cells rq0.slots) := by
  refine MetFree.of_bodySF (plainFor_of_name pn_java_lang_StringUTF16) hisR ?_
  intro p e s m args below meth c s₁ Bd hml0 hP hK
  obtain ⟨rfl, hZ, hh⟩ := hP
  have hx := Bd.exec
  have hby := Bd.bytes
  have hml : c.maxLocals = 2 := hml0
  have hown : s.vm.findClass "java/lang/StringUTF16" = some m.cls := findClass_of_methodNamed Bd.named
  have hnm := (name_of_methodNamed Bd.named Bd.method).1
  have X0 : Stand p l e rq0 s m #[(.ref a1), (.int 1)] below meth c s₁ [] 0 0 := Stand.of_body Bd
  have e0 : s₁.heap = h0 := by rw [← hh, Bd.state]; rfl
  have N0 := Fr.nil n0
  refine own_fw (A' := (s₁.setTop (mkF m 2 #[rv a1, iv 1] [.ref a1, .int 1]))) (fun t k => castTop (ef_rmCoderU1 m a1) (XS.iloadN X0.here hx rfl (hb hby d15_0) rfl (XS.aloadN X0.here hx rfl (hb hby d15_1) rfl rfl k))) ?_
  obtain ⟨cl1, Ar1, q1, S1, M1, H1, G1⟩ := id P0
  refine own_fw (A' := (s₁.setTop (mkF m 3 #[rv a1, iv 1] [.int 2, .int 1]))) (fun t k => X0.arraylength hx (by rw [e0]; exact Ar1.1) (State.isArrayOf_alike hZ.alike Ar1.2.1) (g := (mkF m 2 #[rv a1, iv 1] [.ref a1, .int 1])) rfl rfl (hb hby d15_2) _ (by rw [len_of S1 M1]; exact k)) ?_
  refine own_fw (A' := (s₁.setTop (mkF m 8 #[rv a1, iv 1] [.int 1]))) (fun t k => XS.isub X0.here hx rfl (hb hby d15_3) rfl (XS.bipush X0.here hx rfl (hb hby d15_4) (XS.iushr X0.here hx rfl (hb hby d15_6) rfl (XS.i2b X0.here hx rfl (hb hby d15_7) rfl k)))) ?_
  obtain ⟨fs, hr, hrun, hended, hW, hsame⟩ := X0.leave (v := some (.int 1)) (fun h => by rw [Bd.returns] at h; cases h)
  refine ⟨_, _, ?_, hrun, hended, _, _, rfl, ?_, ⟨_, rfl⟩, hW, hsame.mono (by decide) (by decide)⟩
  · exact retOut X0 hx Bd.returns rfl (Or.inl ⟨rfl, by simp, _, rfl⟩) (hb hby d15_8) hr
  · show Q_rmCoderU1 Z a1 kb x0 x1 h0 n0 _ s₁.heap _
    rw [e0]
    exact ⟨rfl, N0, rfl⟩
theorem d9_23 : decode jdk_52_method_21_code 23 = .ok (.iload 5, 2) := by decide +kernel
theorem d9_25 : decode jdk_52_method_21_code 25 = .ok (.ireturn, 1) := by decide +kernel
theorem ef_rmCmpA1U (m : MethodId) (a1 a3 : Addr) : entryFrame m #[(.ref a1), (.int 0), (.ref a3), (.int 0), (.int 1)] 7 = mkF m 0 #[.val (.ref a1), .val (.int 0), .val (.ref a3), .val (.int 0), .val (.int 1), .unset, .unset] [] := by first | (simp [entryFrame, mkF, argsToLocals, Value.category]; done) | rfl
def Q_rmCmpA1U (Z : State) (a1 a3 : Addr) (kc kb : ClassId) (c0 : Int32) (h0 : Heap) (n0 : Nat) (v : Option Value) (h : Heap) (L : List Loc) : Prop := ∃ r : Int32, v = some (.int r) ∧ Fr n0 L ∧ Keep h0 h [a3] ∧ (own_big [c0] r)
theorem rmCmpA1U (l : Launch) (Z : State) (a0 : Array Value) (hw : ∀ d ∈ tables_1, d.before a0 Z = true) (ws : List Jvm.Cond) (a1 a3 : Addr) (kc kb : ClassId) (c0 : Int32) (h0 : Heap) (n0 : Nat) (Z0 : n0 ≤ h0.size) (P0 : Arv Z h0 a1 kc .char (1 : Int32) [(.int c0)] (.int 0)) (P1 : Arv Z h0 a3 kb .byte (1 : Int32) [(.int 0)] (.int 0)) (g_a3 : n0 ≤ a3) (ne_a1_a3 : a1 ≠ a3) (hbig : (255 : Int32) < c0) :
    MetFree l yq2 (head1 (Jvm.Cond.code yq2 jdk_52_method_21_code 7 (some .int) :: ws) rq0) (fun a U => a = #[(.ref a1), (.int 0), (.ref a3), (.int 0), (.int 1)] ∧ Z.Warmed39 U.vm ∧ U.heap = h0) (fun _ _ _ _ _ => True) (fun _ U o U' => ∃ v L, o = .returned v ∧ Q_rmCmpA1U Z a1 a3 kc kb c0 h0 n0 v U'.heap L ∧ FrameEnd U o U' L rq0.cells rq0.slots) := by
  refine MetFree.of_bodySF (plainFor_of_name pn_java_lang_StringUTF16) hisR ?_
  intro p e s m args below meth c s₁ Bd hml0 hP hK
  obtain ⟨rfl, hZ, hh⟩ := hP
  have hx := Bd.exec
  have hby := Bd.bytes
  have hml : c.maxLocals = 7 := hml0
  have hown : s.vm.findClass "java/lang/StringUTF16" = some m.cls := findClass_of_methodNamed Bd.named
  have hnm := (name_of_methodNamed Bd.named Bd.method).1
  have X0 : Stand p l e rq0 s m #[(.ref a1), (.int 0), (.ref a3), (.int 0), (.int 1)] below meth c s₁ [] 0 0 := Stand.of_body Bd
  have e0 : s₁.heap = h0 := by rw [← hh, Bd.state]; rfl
  have N0 := Fr.nil n0
  refine own_fw (A' := (s₁.setTop (mkF m 12 #[rv a1, iv 0, rv a3, iv 0, iv 1, iv 0, .unset] [.int 0, .ref a1]))) (fun t k => castTop (ef_rmCmpA1U m a1 a3) (XS.iconst X0.here hx rfl (hb hby d9_0) (XS.istore X0.here hx rfl (hb hby d9_1) rfl (l' := #[rv a1, iv 0, rv a3, iv 0, iv 1, iv 0, .unset]) rfl (XS.iload X0.here hx rfl (hb hby d9_3) rfl (XS.iload X0.here hx rfl (hb hby d9_5) rfl (XS.icmpNo X0.here hx rfl (hb hby d9_7) rfl (XT.ii_ge_f (by decide)) (XS.aloadN X0.here hx rfl (hb hby d9_10) rfl rfl (XS.iloadN X0.here hx rfl (hb hby d9_11) rfl k)))))))) ?_
  obtain ⟨cl1, Ar1, q1, S1, M1, H1, G1⟩ := id P0
  have hin1 : ¬ ((0 : Int32) < 0 ∨ cl1.slots.size ≤ ((0 : Int32)).toNatClampNeg) := inb_of S1 ⟨by decide, by decide⟩
  have hat1 : cl1.slots[((0 : Int32)).toNatClampNeg]? = some (.int c0) := H1.at hin1 rfl
  refine own_fw (A' := (s₁.setTop (mkF m 25 #[rv a1, iv 0, rv a3, iv 0, iv 1, iv 0, iv c0] [.int 0]))) (fun t k => X0.caload hx (j := (0 : Int32)) (v := (.int c0)) (by rw [e0]; exact Ar1.1) (State.isArrayOf_alike hZ.alike Ar1.2.1) Ar1.2.2 hin1 hat1 (g := (mkF m 12 #[rv a1, iv 0, rv a3, iv 0, iv 1, iv 0, .unset] [.int 0, .ref a1])) rfl rfl (hb hby d9_12) _ (XS.istore X0.here hx rfl (hb hby d9_13) rfl (l' := #[rv a1, iv 0, rv a3, iv 0, iv 1, iv 0, iv c0]) rfl (XS.iload X0.here hx rfl (hb hby d9_15) rfl (XS.sipush X0.here hx rfl (hb hby d9_17) (XS.icmpNo X0.here hx rfl (hb hby d9_20) rfl (XT.ii_le_f hbig) (XS.iload X0.here hx rfl (hb hby d9_23) rfl k)))))) ?_
  obtain ⟨fs, hr, hrun, hended, hW, hsame⟩ := X0.leave (v := some (.int 0)) (fun h => by rw [Bd.returns] at h; cases h)
  refine ⟨_, _, ?_, hrun, hended, _, _, rfl, ?_, ⟨_, rfl⟩, hW, hsame.mono (by decide) (by decide)⟩
  · exact retOut X0 hx Bd.returns rfl (Or.inl ⟨rfl, by simp, _, rfl⟩) (hb hby d9_25) hr
  · show Q_rmCmpA1U Z a1 a3 kc kb c0 h0 n0 _ s₁.heap _
    rw [e0]
    exact ⟨(0 : Int32), rfl, N0, (Keep.refl h0 [a3]), ⟨by decide, (by decide : (0 : Int32) < (1 : Int32)), hbig⟩⟩
theorem d8_20 : decode jdk_52_method_16_code 20 = .ok (.aload_n 0, 1) := by decide +kernel
theorem d8_21 : decode jdk_52_method_16_code 21 = .ok (.iload_n 1, 1) := by decide +kernel
theorem d8_22 : decode jdk_52_method_16_code 22 = .ok (.iload_n 2, 1) := by decide +kernel
theorem d8_23 : decode jdk_52_method_16_code 23 = .ok (.invokestatic 119, 3) := by decide +kernel
theorem d8_26 : decode jdk_52_method_16_code 26 = .ok (.astore 5, 2) := by decide +kernel
theorem d8_28 : decode jdk_52_method_16_code 28 = .ok (.aload 5, 2) := by decide +kernel
theorem d8_30 : decode jdk_52_method_16_code 30 = .ok (.iload 4, 2) := by decide +kernel
theorem d8_32 : decode jdk_52_method_16_code 32 = .ok (.invokestatic 71, 3) := by decide +kernel
theorem pd___BI_C : parseMethodDescriptor "([BI)C" = some ⟨[(.array .byte), .int], some .char⟩ := by decide +kernel
theorem d8_35 : decode jdk_52_method_16_code 35 = .ok (.sipush 255, 3) := by decide +kernel
theorem d8_38 : decode jdk_52_method_16_code 38 = .ok (.if_icmp .gt 16, 3) := by decide +kernel
theorem d8_54 : decode jdk_52_method_16_code 54 = .ok (.aload 5, 2) := by decide +kernel
theorem d8_56 : decode jdk_52_method_16_code 56 = .ok (.areturn, 1) := by decide +kernel
theorem ef_rmCmpB1U (m : MethodId) (a1 : Addr) : entryFrame m #[(.ref a1), (.int 0), (.int 1)] 6 = mkF m 0 #[.val (.ref a1), .val (.int 0), .val (.int 1), .unset, .unset, .unset] [] := by first | (simp [entryFrame, mkF, argsToLocals, Value.category]; done) | rfl
def Q_rmCmpB1U (Z : State) (a1 : Addr) (kc : ClassId) (c0 : Int32) (h0 : Heap) (n0 : Nat) (v : Option Value) (h : Heap) (L : List Loc) : Prop := ∃ b : Addr, ∃ kb : ClassId, v = some (.ref b) ∧ Fr n0 L ∧ Keep h0 h [] ∧ Arv Z h b kb .byte (2 : Int32) [(.int (own_lo c0)), (.int (own_hb c0))] (.int 0) ∧ (h0.size ≤ b)
theorem rmCmpB1U (l : Launch) (Z : State) (a0 : Array Value) (hw : ∀ d ∈ tables_1, d.before a0 Z = true) (ws : List Jvm.Cond) (a1 : Addr) (kc : ClassId) (c0 : Int32) (h0 : Heap) (n0 : Nat) (Z0 : n0 ≤ h0.size) (P0 : Arv Z h0 a1 kc .char (1 : Int32) [(.int c0)] (.int 0)) (P1 : Sta Z h0 "java/lang/StringUTF16" "$assertionsDisabled" "Z" (.int 1)) (P2 : Sta Z h0 "java/lang/StringUTF16" "HI_BYTE_SHIFT" "I" (.int 0)) (P3 : Sta Z h0 "java/lang/StringUTF16" "LO_BYTE_SHIFT" "I" (.int 8)) (hbig : (255 : Int32) < c0) (hr0 : own_c16 c0) :
    MetFree l yq4 (head1 (Jvm.Cond.code yq4 jdk_52_method_16_code 6 (some (.array .byte)) :: ws) rq25) (fun a U => a = #[(.ref a1), (.int 0), (.int 1)] ∧ Z.Warmed39 U.vm ∧ U.heap = h0) (fun _ _ _ _ _ => True) (fun _ U o U' => ∃ v L, o = .returned v ∧ Q_rmCmpB1U Z a1 kc c0 h0 n0 v U'.heap L ∧ FrameEnd U o U' L rq25.cells rq25.slots) := by
  refine MetFree.of_bodySF (plainFor_of_name pn_java_lang_StringUTF16) hisR ?_
  intro p e s m args below meth c s₁ Bd hml0 hP hK
  obtain ⟨rfl, hZ, hh⟩ := hP
  have hx := Bd.exec
  have hby := Bd.bytes
  have hml : c.maxLocals = 6 := hml0
  have hown : s.vm.findClass "java/lang/StringUTF16" = some m.cls := findClass_of_methodNamed Bd.named
  have hnm := (name_of_methodNamed Bd.named Bd.method).1
  have X0 : Stand p l e rq25 s m #[(.ref a1), (.int 0), (.int 1)] below meth c s₁ [] 0 0 := Stand.of_body Bd
  have e0 : s₁.heap = h0 := by rw [← hh, Bd.state]; rfl
  have N0 := Fr.nil n0
  refine own_fw (A' := (s₁.setTop (mkF m 1 #[rv a1, iv 0, iv 1, .unset, .unset, .unset] [.int 1]))) (fun t k => castTop (ef_rmCmpB1U m a1) (XS.iloadN X0.here hx rfl (hb hby d8_0) rfl k)) ?_
  obtain ⟨T1, h1, k1, X1, e1, E1, A1, st1⟩ := newP X0 hx hZ (own_w hw 37 rfl) e0 (g := (mkF m 1 #[rv a1, iv 0, iv 1, .unset, .unset, .unset] [.int 1])) rfl (hb hby d8_1) rfl (by decide) (cap := 1) (by decide) (by decide) (by decide) (by decide)
  obtain ⟨b1, gb1⟩ : ∃ z, z = h0.size := ⟨_, rfl⟩
  have g_b1 : n0 ≤ b1 := Nat.le_trans Z0 (Nat.le_of_eq gb1.symm)
  have sz_b1 : h0.size ≤ b1 := Nat.le_trans (Keep.refl h0 []).1 (Nat.le_of_eq gb1.symm)
  have ne_a1_b1 : a1 ≠ b1 := Nat.ne_of_lt (Nat.lt_of_lt_of_le P0.lt (Nat.le_of_eq gb1.symm))
  rw [← gb1] at A1 st1
  have V_b1 : Arv Z h1 b1 k1 .byte (1 : Int32) [(.int 0)] (.int 0) := (Arv.new A1 (by decide)).pad (pad_rep [] (.int 0) 1)
  have K1 : Keep h0 h1 [] := (Keep.refl h0 []).ext E1
  have Z1 : n0 ≤ h1.size := Nat.le_trans Z0 E1.1
  refine own_fw (A' := (T1.setTop (mkF m 9 #[rv a1, iv 0, iv 1, rv b1, .unset, .unset] [.int 1, .int 0, .ref b1, .int 0, .ref a1]))) (fun t k => st1 _ (XS.astoreN X1.here hx rfl (hb hby d8_3) rfl rfl (l' := #[rv a1, iv 0, iv 1, rv b1, .unset, .unset]) rfl (XS.aloadN X1.here hx rfl (hb hby d8_4) rfl rfl (XS.iloadN X1.here hx rfl (hb hby d8_5) rfl (XS.aloadN X1.here hx rfl (hb hby d8_6) rfl rfl (XS.iconst X1.here hx rfl (hb hby d8_7) (XS.iloadN X1.here hx rfl (hb hby d8_8) rfl k))))))) ?_
  obtain ⟨_, _, ⟨T2, L2, k2, n2⟩, -, X2, ⟨Lc2, hQ2, l2, y2, z2⟩, st2⟩ := Jvm.LawKit.callS X1 hx (y := yq2) hown (mvT hZ (own_w hw 38 rfl)) (mvT hZ (own_w hw 39 rfl)) (mvT hZ (own_w hw 35 rfl)) (mvT hZ (own_w hw 40 rfl)) (by decide) (backOf (W := 0) (rmCmpA1U l Z a0 hw [] a1 b1 kc k1 c0 h1 n0 Z1 (P0.ext E1) V_b1 g_b1 ne_a1_b1 hbig) hZ (own_w hw 40 rfl) (own_w hw 35 rfl) (by decide) (by decide)) (g := (mkF m 9 #[rv a1, iv 0, iv 1, rv b1, .unset, .unset] [.int 1, .int 0, .ref b1, .int 0, .ref a1])) rfl (by rw [hml]; rfl) (argsL := [(.ref a1), (.int 0), (.ref b1), (.int 0), (.int 1)]) (rest := []) (lenOf pd___CI_BII_I rfl) rfl (by show 2 * 0 + _ ≤ _; exact Nat.le_of_eq rfl) (hb hby d8_9) (fun _ _ => ⟨rfl, e1, (by decide : 1 + 0 ≤ _), (by decide : 1 + 0 ≤ _)⟩)
  dsimp only [Pt.U, Pt.locs, Pt.cells, Pt.slots] at X2 l2 y2 z2 st2 hQ2
  subst l2 y2 z2
  obtain ⟨r_2, rfl, Nq2, Kq2, hk_2⟩ := hQ2
  have Nf2 := Fr.app N0 Nq2
  have K2 : Keep h0 T2.heap [] := K1.trans Kq2 (allS (Or.inr sz_b1) all0)
  have Z2 : n0 ≤ T2.heap.size := Nat.le_trans Z1 Kq2.1
  refine own_fw (A' := (T2.setTop (mkF m 23 #[rv a1, iv 0, iv 1, rv b1, iv r_2, .unset] [.int 1, .int 0, .ref a1]))) (fun t k => st2 _ (XS.istore X2.here hx rfl (hb hby d8_12) rfl (l' := #[rv a1, iv 0, iv 1, rv b1, iv r_2, .unset]) rfl (XS.iload X2.here hx rfl (hb hby d8_14) rfl (XS.iloadN X2.here hx rfl (hb hby d8_16) rfl (XS.icmpNo X2.here hx rfl (hb hby d8_17) rfl (XT.ii_eq_f (own_bne hk_2)) (XS.aloadN X2.here hx rfl (hb hby d8_20) rfl rfl (XS.iloadN X2.here hx rfl (hb hby d8_21) rfl (XS.iloadN X2.here hx rfl (hb hby d8_22) rfl k)))))))) ?_
  obtain ⟨_, _, ⟨T3, L3, k3, n3⟩, -, X3, ⟨Lc3, hQ3, l3, y3, z3⟩, st3⟩ := Jvm.LawKit.callS X2 hx (y := yq24) hown (mvT hZ (own_w hw 41 rfl)) (mvT hZ (own_w hw 42 rfl)) (mvT hZ (own_w hw 35 rfl)) (mvT hZ (own_w hw 43 rfl)) (by decide) (backOf (W := 0) (rmToB1 l Z a0 hw [] a1 kc c0 T2.heap n0 Z2 ((P0.ext E1).keep Kq2 (ninS ne_a1_b1 nin0)) (own_staKeep (P1.ext E1) Kq2 (allS (own_plainV V_b1) all0)) (own_staKeep (P2.ext E1) Kq2 (allS (own_plainV V_b1) all0)) (own_staKeep (P3.ext E1) Kq2 (allS (own_plainV V_b1) all0))) hZ (own_w hw 43 rfl) (own_w hw 35 rfl) (by decide) (by decide)) (g := (mkF m 23 #[rv a1, iv 0, iv 1, rv b1, iv r_2, .unset] [.int 1, .int 0, .ref a1])) rfl (by rw [hml]; rfl) (argsL := [(.ref a1), (.int 0), (.int 1)]) (rest := []) (lenOf pd___CII__B rfl) rfl (by show 2 * 0 + _ ≤ _; exact Nat.le_of_eq rfl) (hb hby d8_23) (fun _ _ => ⟨rfl, rfl, (by decide : 1 + 1 ≤ _), (by decide : 1 + 2 ≤ _)⟩)
  dsimp only [Pt.U, Pt.locs, Pt.cells, Pt.slots] at X3 l3 y3 z3 st3 hQ3
  subst l3 y3 z3
  obtain ⟨b_3, kb_3, rfl, Nq3, Kq3, Fq3_0, gb_3⟩ := hQ3
  have Nf3 := Fr.app Nf2 Nq3
  have K3 : Keep h0 T3.heap [] := K2.trans Kq3 all0
  have sz_b_3 : h0.size ≤ b_3 := Nat.le_trans K2.1 gb_3
  have g_b_3 : n0 ≤ b_3 := Nat.le_trans Z2 gb_3
  have ne_a1_b_3 : a1 ≠ b_3 := Nat.ne_of_lt (Nat.lt_of_lt_of_le ((P0.ext E1).keep Kq2 (ninS ne_a1_b1 nin0)).lt gb_3)
  have Z3 : n0 ≤ T3.heap.size := Nat.le_trans Z2 Kq3.1
  refine own_fw (A' := (T3.setTop (mkF m 32 #[rv a1, iv 0, iv 1, rv b1, iv r_2, rv b_3] [.int r_2, .ref b_3]))) (fun t k => st3 _ (XS.astore X3.here hx rfl (hb hby d8_26) rfl rfl (l' := #[rv a1, iv 0, iv 1, rv b1, iv r_2, rv b_3]) rfl (XS.aload X3.here hx rfl (hb hby d8_28) rfl rfl (XS.iload X3.here hx rfl (hb hby d8_30) rfl k)))) ?_
  obtain ⟨_, _, ⟨T4, L4, k4, n4⟩, -, X4, ⟨Lc4, hQ4, l4, y4, z4⟩, st4⟩ := Jvm.LawKit.callS X3 hx (y := yq1) hown (mvT hZ (own_w hw 57 rfl)) (mvT hZ (own_w hw 58 rfl)) (mvT hZ (own_w hw 35 rfl)) (mvT hZ (own_w hw 59 rfl)) (by decide) (backOf (W := 0) (rmGet l Z a0 hw [] b_3 kb_3 ([c0]) r_2 T3.heap n0 Z3 Fq3_0 (own_staKeep (own_staKeep (P1.ext E1) Kq2 (allS (own_plainV V_b1) all0)) Kq3 all0) (own_staKeep (own_staKeep (P2.ext E1) Kq2 (allS (own_plainV V_b1) all0)) Kq3 all0) (own_staKeep (own_staKeep (P3.ext E1) Kq2 (allS (own_plainV V_b1) all0)) Kq3 all0) (own_fine1 hr0) hk_2.1 hk_2.2.1) hZ (own_w hw 59 rfl) (own_w hw 35 rfl) (by decide) (by decide)) (g := (mkF m 32 #[rv a1, iv 0, iv 1, rv b1, iv r_2, rv b_3] [.int r_2, .ref b_3])) rfl (by rw [hml]; rfl) (argsL := [(.ref b_3), (.int r_2)]) (rest := []) (lenOf pd___BI_C rfl) rfl (by show 2 * 0 + _ ≤ _; exact Nat.le_of_eq rfl) (hb hby d8_32) (fun _ _ => ⟨rfl, rfl, (by decide : 2 + 0 ≤ _), (by decide : 3 + 0 ≤ _)⟩)
  dsimp only [Pt.U, Pt.locs, Pt.cells, Pt.slots] at X4 l4 y4 z4 st4 hQ4
  subst l4 y4 z4
  obtain ⟨rfl, Nq4, e4⟩ := hQ4
  have Nf4 := Fr.app Nf3 Nq4
  refine own_fw (A' := (T4.setTop (mkF m 56 #[rv a1, iv 0, iv 1, rv b1, iv r_2, rv b_3] [.ref b_3]))) (fun t k => st4 _ (XS.sipush X4.here hx rfl (hb hby d8_35) (XS.icmpYes X4.here hx rfl (pc0 := 38) (pc' := 54) rfl (hb hby d8_38) rfl (XT.ii_gt_t hk_2.2.2) (by decide) (by decide) (XS.aload X4.here hx rfl (hb hby d8_54) rfl rfl k)))) ?_
  obtain ⟨fs, hr, hrun, hended, hW, hsame⟩ := X4.leave (v := some (.ref b_3)) (fun h => by rw [Bd.returns] at h; cases h)
  refine ⟨_, _, ?_, hrun, hended, _, _, rfl, ?_, ⟨_, rfl⟩, hW, hsame.mono (by decide) (by decide)⟩
  · exact retOut X4 hx Bd.returns rfl (Or.inr (Or.inr (Or.inr (Or.inr ⟨rfl, rfl, rfl⟩)))) (hb hby d8_56) hr
  · show Q_rmCmpB1U Z a1 kc c0 h0 n0 _ T4.heap _
    rw [e4]
    exact ⟨b_3, kb_3, rfl, Nf4, K3, Fq3_0, sz_b_3⟩
theorem ef_rmStrB1U (m : MethodId) (a1 a2 : Addr) : entryFrame m #[(.ref a1), (.ref a2), (.int 0), (.int 1), .null] 6 = mkF m 0 #[.val (.ref a1), .val (.ref a2), .val (.int 0), .val (.int 1), .val .null, .unset] [] := by first | (simp [entryFrame, mkF, argsToLocals, Value.category]; done) | rfl
def Q_rmStrB1U (Z : State) (a1 a2 : Addr) (kc : ClassId) (cs c0 : Int32) (h0 : Heap) (n0 : Nat) (v : Option Value) (h : Heap) (L : List Loc) : Prop := ∃ b : Addr, ∃ kb : ClassId, v = none ∧ Fr n0 L ∧ Keep h0 h [a1] ∧ Exa Z h a1 "java/lang/String" ∧ Fld Z h a1 "java/lang/String" "coder" "B" (.int 1) ∧ Fld Z h a1 "java/lang/String" "value" "[B" (.ref b) ∧ Arv Z h b kb .byte (2 : Int32) [(.int (own_lo c0)), (.int (own_hb c0))] (.int 0)
theorem rmStrB1U (l : Launch) (Z : State) (a0 : Array Value) (hw : ∀ d ∈ tables_1, d.before a0 Z = true) (ws : List Jvm.Cond) (a1 a2 : Addr) (kc : ClassId) (cs c0 : Int32) (h0 : Heap) (n0 : Nat) (Z0 : n0 ≤ h0.size) (P0 : Exa Z h0 a1 "java/lang/String") (P1 : Fld Z h0 a1 "java/lang/String" "coder" "B" (.int 0)) (P2 : Fld Z h0 a1 "java/lang/String" "value" "[B" .null) (P3 : Arv Z h0 a2 kc .char (1 : Int32) [(.int c0)] (.int 0)) (g_a1 : n0 ≤ a1) (ne_a1_a2 : a1 ≠ a2) (P6 : Sta Z h0 "java/lang/String" "COMPACT_STRINGS" "Z" (.int cs)) (hcs : ¬ (cs = (0 : Int32))) (P8 : Sta Z h0 "java/lang/StringUTF16" "$assertionsDisabled" "Z" (.int 1)) (P9 : Sta Z h0 "java/lang/StringUTF16" "HI_BYTE_SHIFT" "I" (.int 0)) (P10 : Sta Z h0 "java/lang/StringUTF16" "LO_BYTE_SHIFT" "I" (.int 8)) (hbig : (255 : Int32) < c0) (hr0 : own_c16 c0) :
    MetFree l yq7 (head1 (Jvm.Cond.code yq7 jdk_42_method_149_code 6 none :: ws) rq26) (fun a U => a = #[(.ref a1), (.ref a2), (.int 0), (.int 1), .null] ∧ Z.Warmed39 U.vm ∧ U.heap = h0) (fun _ _ _ _ _ => True) (fun _ U o U' => ∃ v L, o = .returned v ∧ Q_rmStrB1U Z a1 a2 kc cs c0 h0 n0 v U'.heap L ∧ FrameEnd U o U' L rq26.cells rq26.slots) := by
  refine MetFree.of_bodySF (plainFor_of_name pn_java_lang_String) hisR ?_
  intro p e s m args below meth c s₁ Bd hml0 hP hK
  obtain ⟨rfl, hZ, hh⟩ := hP
  have hx := Bd.exec
  have hby := Bd.bytes
  have hml : c.maxLocals = 6 := hml0
  have hown : s.vm.findClass "java/lang/String" = some m.cls := findClass_of_methodNamed Bd.named
  have hnm := (name_of_methodNamed Bd.named Bd.method).1
  have X0 : Stand p l e rq26 s m #[(.ref a1), (.ref a2), (.int 0), (.int 1), .null] below meth c s₁ [] 0 0 := Stand.of_body Bd
  have e0 : s₁.heap = h0 := by rw [← hh, Bd.state]; rfl
  have N0 := Fr.nil n0
  refine own_fw (A' := (s₁.setTop (mkF m 1 #[rv a1, rv a2, iv 0, iv 1, .val (.null), .unset] [.ref a1]))) (fun t k => castTop (ef_rmStrB1U m a1 a2) (XS.aloadN X0.here hx rfl (hb hby d6_0) rfl rfl k)) ?_
  obtain ⟨T1, X1, e1, st1⟩ := initO X0 hx hZ hown (own_w hw 29 rfl) (own_w hw 30 rfl) (own_w hw 31 rfl) e0 (g := (mkF m 1 #[rv a1, rv a2, iv 0, iv 1, .val (.null), .unset] [.ref a1])) rfl (by rw [hml]; rfl) rfl (hb hby d6_1) (by decide) (W := 0) (by show 2 * 0 + _ ≤ _; exact Nat.le_of_eq rfl) (by decide)
  refine own_fw (A' := (T1.setTop (mkF m 27 #[rv a1, rv a2, iv 0, iv 1, .val (.null), .unset] []))) (fun t k => st1 _ (XS.iloadN X1.here hx rfl (hb hby d6_4) rfl (XS.ifYes X1.here hx rfl (pc0 := 5) (pc' := 27) rfl (hb hby d6_5) rfl (XT.i0_ne_t (by decide)) (by decide) (by decide) k))) ?_
  obtain ⟨T2, X2, e2, st2⟩ := getS2 X1 hx hZ hown (host := "") (Or.inl (own_w hw 32 rfl)) Via.refl e1 P6 (g := (mkF m 27 #[rv a1, rv a2, iv 0, iv 1, .val (.null), .unset] [])) rfl (hb hby d6_27)
  refine own_fw (A' := (T2.setTop (mkF m 36 #[rv a1, rv a2, iv 0, iv 1, .val (.null), .unset] [.int 1, .int 0, .ref a2]))) (fun t k => st2 _ (XS.ifNo X2.here hx rfl (hb hby d6_30) rfl (XT.i0_eq_f hcs) (XS.aloadN X2.here hx rfl (hb hby d6_33) rfl rfl (XS.iloadN X2.here hx rfl (hb hby d6_34) rfl (XS.iloadN X2.here hx rfl (hb hby d6_35) rfl k))))) ?_
  obtain ⟨_, _, ⟨T3, L3, k3, n3⟩, -, X3, ⟨Lc3, hQ3, l3, y3, z3⟩, st3⟩ := Jvm.LawKit.callS X2 hx (y := yq4) hown (mvT hZ (own_w hw 33 rfl)) (mvT hZ (own_w hw 34 rfl)) (mvT hZ (own_w hw 35 rfl)) (mvT hZ (own_w hw 36 rfl)) (by decide) (backOf (W := 0) (rmCmpB1U l Z a0 hw [] a2 kc c0 h0 n0 Z0 P3 P8 P9 P10 hbig hr0) hZ (own_w hw 36 rfl) (own_w hw 35 rfl) (by decide) (by decide)) (g := (mkF m 36 #[rv a1, rv a2, iv 0, iv 1, .val (.null), .unset] [.int 1, .int 0, .ref a2])) rfl (by rw [hml]; rfl) (argsL := [(.ref a2), (.int 0), (.int 1)]) (rest := []) (lenOf pd___CII__B rfl) rfl (by show 2 * 0 + _ ≤ _; exact Nat.le_of_eq rfl) (hb hby d6_36) (fun _ _ => ⟨rfl, e2, (by decide : 0 + 2 ≤ _), (by decide : 0 + 3 ≤ _)⟩)
  dsimp only [Pt.U, Pt.locs, Pt.cells, Pt.slots] at X3 l3 y3 z3 st3 hQ3
  subst l3 y3 z3
  obtain ⟨b_3, kb_3, rfl, Nq3, Kq3, Fq3_0, gb_3⟩ := hQ3
  have Nf3 := Fr.app N0 Nq3
  have K3 : Keep h0 T3.heap [a1] := (Keep.refl h0 [a1]).trans Kq3 all0
  have sz_b_3 : h0.size ≤ b_3 := Nat.le_trans (Keep.refl h0 [a1]).1 gb_3
  have g_b_3 : n0 ≤ b_3 := Nat.le_trans Z0 gb_3
  have ne_a1_b_3 : a1 ≠ b_3 := Nat.ne_of_lt (Nat.lt_of_lt_of_le P0.lt gb_3)
  have ne_a2_b_3 : a2 ≠ b_3 := Nat.ne_of_lt (Nat.lt_of_lt_of_le P3.lt gb_3)
  have Z3 : n0 ≤ T3.heap.size := Nat.le_trans Z0 Kq3.1
  refine own_fw (A' := (T3.setTop (mkF m 45 #[rv a1, rv a2, iv 0, iv 1, .val (.null), rv b_3] [.int 1, .ref b_3, .ref a1]))) (fun t k => st3 _ (XS.astore X3.here hx rfl (hb hby d6_39) rfl rfl (l' := #[rv a1, rv a2, iv 0, iv 1, .val (.null), rv b_3]) rfl (XS.aloadN X3.here hx rfl (hb hby d6_41) rfl rfl (XS.aload X3.here hx rfl (hb hby d6_42) rfl rfl (XS.iloadN X3.here hx rfl (hb hby d6_44) rfl k))))) ?_
  obtain ⟨_, _, ⟨T4, L4, k4, n4⟩, -, X4, ⟨Lc4, hQ4, l4, y4, z4⟩, st4⟩ := Jvm.LawKit.callS X3 hx (y := yq5) hown (mvT hZ (own_w hw 60 rfl)) (mvT hZ (own_w hw 61 rfl)) (mvT hZ (own_w hw 35 rfl)) (mvT hZ (own_w hw 62 rfl)) (by decide) (backOf (W := 1) (rmCoderU1 l Z a0 hw [] b_3 kb_3 (own_lo c0) (own_hb c0) T3.heap n0 Z3 Fq3_0) hZ (own_w hw 62 rfl) (own_w hw 35 rfl) (by decide) (by decide)) (g := (mkF m 45 #[rv a1, rv a2, iv 0, iv 1, .val (.null), rv b_3] [.int 1, .ref b_3, .ref a1])) rfl (by rw [hml]; rfl) (argsL := [(.ref b_3), (.int 1)]) (rest := [(.ref a1)]) (lenOf pd___BI_B rfl) rfl (by show 2 * 0 + _ ≤ _; exact Nat.le_of_eq rfl) (hb hby d6_45) (fun _ _ => ⟨rfl, rfl, (by decide : 2 + 0 ≤ _), (by decide : 3 + 0 ≤ _)⟩)
  dsimp only [Pt.U, Pt.locs, Pt.cells, Pt.slots] at X4 l4 y4 z4 st4 hQ4
  subst l4 y4 z4
  obtain ⟨rfl, Nq4, e4⟩ := hQ4
  have Nf4 := Fr.app Nf3 Nq4
  refine own_fw (A' := (T4.setTop (mkF m 48 #[rv a1, rv a2, iv 0, iv 1, .val (.null), rv b_3] [.int 1, .ref a1]))) (fun t k => st4 _ k) ?_
  obtain ⟨T5, h5, X5, e5, W5, st5⟩ := putFN X4 hx hZ hown (own_w hw 63 rfl) Via.refl e4 (P1.keep Kq3 nin0) (P0.keep Kq3) (Or.inr ⟨(own_w hw 64 rfl), rfl, hnm⟩) (own_w hw 20 rfl) (ty := .byte) (v' := (.int 1)) (by decide) rfl rfl (g := (mkF m 48 #[rv a1, rv a2, iv 0, iv 1, .val (.null), rv b_3] [.int 1, .ref a1])) rfl rfl (hb hby d6_48)
  have Fw5 : Fld Z h5 a1 "java/lang/String" "coder" "B" (.int 1) := (P1.keep Kq3 nin0).same W5
  have Nf5 := Fr.snoc X5 Nf4 g_a1
  have K5 : Keep h0 h5 [a1] := K3.wr W5 (Or.inl (List.mem_of_getElem? (i := 0) rfl))
  have Z5 : n0 ≤ h5.size := Nat.le_trans Z3 (Keep.of_wr W5).1
  refine own_fw (A' := (T5.setTop (mkF m 54 #[rv a1, rv a2, iv 0, iv 1, .val (.null), rv b_3] [.ref b_3, .ref a1]))) (fun t k => st5 _ (XS.aloadN X5.here hx rfl (hb hby d6_51) rfl rfl (XS.aload X5.here hx rfl (hb hby d6_52) rfl rfl k))) ?_
  obtain ⟨T6, h6, X6, e6, W6, st6⟩ := putF X5 hx hZ hown (host := "") (Or.inl (own_w hw 65 rfl)) Via.refl e5 ((P2.keep Kq3 nin0).other W5 (Or.inr (slot_ne (Or.inr (own_w hw 66 rfl)) (Or.inr (own_w hw 64 rfl)) (by decide) (t := (.array .byte)) (t' := .byte) (by decide) (by decide)))) ((P0.keep Kq3).wr W5) (Or.inr ⟨(own_w hw 66 rfl), rfl, hnm⟩) (own_w hw 20 rfl) (ty := (.array .byte)) (by decide) rfl rfl (g := (mkF m 54 #[rv a1, rv a2, iv 0, iv 1, .val (.null), rv b_3] [.ref b_3, .ref a1])) rfl rfl (hb hby d6_54)
  have Fw6 : Fld Z h6 a1 "java/lang/String" "value" "[B" (.ref b_3) := ((P2.keep Kq3 nin0).other W5 (Or.inr (slot_ne (Or.inr (own_w hw 66 rfl)) (Or.inr (own_w hw 64 rfl)) (by decide) (t := (.array .byte)) (t' := .byte) (by decide) (by decide)))).same W6
  have Nf6 := Fr.snoc X6 Nf5 g_a1
  have K6 : Keep h0 h6 [a1] := K5.wr W6 (Or.inl (List.mem_of_getElem? (i := 0) rfl))
  have Z6 : n0 ≤ h6.size := Nat.le_trans Z5 (Keep.of_wr W6).1
  refine own_fw (A' := (T6.setTop (mkF m 57 #[rv a1, rv a2, iv 0, iv 1, .val (.null), rv b_3] []))) (fun t k => st6 _ k) ?_
  obtain ⟨fs, hr, hrun, hended, hW, hsame⟩ := X6.leave (v := none) (fun _ => rfl)
  refine ⟨_, _, ?_, hrun, hended, _, _, rfl, ?_, ⟨_, rfl⟩, hW, hsame.mono (by decide) (by decide)⟩
  · exact X6.returnOut hx Bd.returns (hb hby d6_57) hr
  · show Q_rmStrB1U Z a1 a2 kc cs c0 h0 n0 _ T6.heap _
    rw [e6]
    exact ⟨b_3, kb_3, rfl, Nf6, K6, (((P0.keep Kq3).wr W5).wr W6), (Fw5.other W6 (Or.inr (slot_ne (Or.inr (own_w hw 64 rfl)) (Or.inr (own_w hw 66 rfl)) (by decide) (t := .byte) (t' := (.array .byte)) (by decide) (by decide)))), Fw6, ((Fq3_0.other W5 (Ne.symm ne_a1_b_3)).other W6 (Ne.symm ne_a1_b_3))⟩
theorem ef_rmStrA1U (m : MethodId) (a1 a2 : Addr) : entryFrame m #[(.ref a1), (.ref a2)] 2 = mkF m 0 #[.val (.ref a1), .val (.ref a2)] [] := by first | (simp [entryFrame, mkF, argsToLocals, Value.category]; done) | rfl
def Q_rmStrA1U (Z : State) (a1 a2 : Addr) (kc : ClassId) (cs c0 : Int32) (h0 : Heap) (n0 : Nat) (v : Option Value) (h : Heap) (L : List Loc) : Prop := ∃ b : Addr, ∃ kb : ClassId, v = none ∧ Fr n0 L ∧ Keep h0 h [a1] ∧ Exa Z h a1 "java/lang/String" ∧ Fld Z h a1 "java/lang/String" "coder" "B" (.int 1) ∧ Fld Z h a1 "java/lang/String" "value" "[B" (.ref b) ∧ Arv Z h b kb .byte (2 : Int32) [(.int (own_lo c0)), (.int (own_hb c0))] (.int 0)
theorem rmStrA1U (l : Launch) (Z : State) (a0 : Array Value) (hw : ∀ d ∈ tables_1, d.before a0 Z = true) (ws : List Jvm.Cond) (a1 a2 : Addr) (kc : ClassId) (cs c0 : Int32) (h0 : Heap) (n0 : Nat) (Z0 : n0 ≤ h0.size) (P0 : Exa Z h0 a1 "java/lang/String") (P1 : Fld Z h0 a1 "java/lang/String" "coder" "B" (.int 0)) (P2 : Fld Z h0 a1 "java/lang/String" "value" "[B" .null) (P3 : Arv Z h0 a2 kc .char (1 : Int32) [(.int c0)] (.int 0)) (g_a1 : n0 ≤ a1) (ne_a1_a2 : a1 ≠ a2) (P6 : Sta Z h0 "java/lang/String" "COMPACT_STRINGS" "Z" (.int cs)) (hcs : ¬ (cs = (0 : Int32))) (P8 : Sta Z h0 "java/lang/StringUTF16" "$assertionsDisabled" "Z" (.int 1)) (P9 : Sta Z h0 "java/lang/StringUTF16" "HI_BYTE_SHIFT" "I" (.int 0)) (P10 : Sta Z h0 "java/lang/StringUTF16" "LO_BYTE_SHIFT" "I" (.int 8)) (hbig : (255 : Int32) < c0) (hr0 : own_c16 c0) :
    MetFree l yq9 (head1 (Jvm.Cond.code yq9 jdk_42_method_3_code 2 none :: ws) rq27) (fun a U => a = #[(.ref a1), (.ref a2)] ∧ Z.Warmed39 U.vm ∧ U.heap = h0) (fun _ _ _ _ _ => True) (fun _ U o U' => ∃ v L, o = .returned v ∧ Q_rmStrA1U Z a1 a2 kc cs c0 h0 n0 v U'.heap L ∧ FrameEnd U o U' L rq27.cells rq27.slots) := by
  refine MetFree.of_bodySF (plainFor_of_name pn_java_lang_String) hisR ?_
  intro p e s m args below meth c s₁ Bd hml0 hP hK
  obtain ⟨rfl, hZ, hh⟩ := hP
  have hx := Bd.exec
  have hby := Bd.bytes
  have hml : c.maxLocals = 2 := hml0
  have hown : s.vm.findClass "java/lang/String" = some m.cls := findClass_of_methodNamed Bd.named
  have hnm := (name_of_methodNamed Bd.named Bd.method).1
  have X0 : Stand p l e rq27 s m #[(.ref a1), (.ref a2)] below meth c s₁ [] 0 0 := Stand.of_body Bd
  have e0 : s₁.heap = h0 := by rw [← hh, Bd.state]; rfl
  have N0 := Fr.nil n0
  refine own_fw (A' := (s₁.setTop (mkF m 4 #[rv a1, rv a2] [.ref a2, .int 0, .ref a2, .ref a1]))) (fun t k => castTop (ef_rmStrA1U m a1 a2) (XS.aloadN X0.here hx rfl (hb hby d5_0) rfl rfl (XS.aloadN X0.here hx rfl (hb hby d5_1) rfl rfl (XS.iconst X0.here hx rfl (hb hby d5_2) (XS.aloadN X0.here hx rfl (hb hby d5_3) rfl rfl k))))) ?_
  obtain ⟨cl1, Ar1, q1, S1, M1, H1, G1⟩ := id P3
  refine own_fw (A' := (s₁.setTop (mkF m 5 #[rv a1, rv a2] [.int 1, .int 0, .ref a2, .ref a1]))) (fun t k => X0.arraylength hx (by rw [e0]; exact Ar1.1) (State.isArrayOf_alike hZ.alike Ar1.2.1) (g := (mkF m 4 #[rv a1, rv a2] [.ref a2, .int 0, .ref a2, .ref a1])) rfl rfl (hb hby d5_4) _ (by rw [len_of S1 M1]; exact k)) ?_
  refine own_fw (A' := (s₁.setTop (mkF m 6 #[rv a1, rv a2] [.null, .int 1, .int 0, .ref a2, .ref a1]))) (fun t k => XS.aconstNull X0.here hx rfl (hb hby d5_5) k) ?_
  obtain ⟨_, _, ⟨T2, L2, k2, n2⟩, -, X2, ⟨Lc2, hQ2, l2, y2, z2⟩, st2⟩ := X0.specialBack hx (y := yq7) rfl hown (mvT hZ (own_w hw 25 rfl)) (mvT hZ (own_w hw 26 rfl)) (mvT hZ (own_w hw 28 rfl)) (by decide) (backOf (W := 0) (rmStrB1U l Z a0 hw [] a1 a2 kc cs c0 h0 n0 Z0 P0 P1 P2 P3 g_a1 ne_a1_a2 P6 hcs P8 P9 P10 hbig hr0) hZ (own_w hw 28 rfl) (own_w hw 21 rfl) (by decide) (by decide)) (g := (mkF m 6 #[rv a1, rv a2] [.null, .int 1, .int 0, .ref a2, .ref a1])) rfl (by rw [hml]; rfl) (Steps.refl _) (a := a1) (argsL := [(.ref a2), (.int 0), (.int 1), .null]) (rest := []) (lenOf pd___CIILjava_lang_Void__V rfl) rfl (by show 2 * 0 + _ ≤ _; exact Nat.le_of_eq rfl) (hb hby d5_6) (fun _ _ => ⟨rfl, e0, (by decide : 0 + 2 ≤ _), (by decide : 0 + 3 ≤ _)⟩)
  dsimp only [Pt.U, Pt.locs, Pt.cells, Pt.slots] at X2 l2 y2 z2 st2 hQ2
  subst l2 y2 z2
  obtain ⟨b_2, kb_2, rfl, Nq2, Kq2, Fq2_0, Fq2_1, Fq2_2, Fq2_3⟩ := hQ2
  have Nf2 := Fr.app N0 Nq2
  have K2 : Keep h0 T2.heap [a1] := (Keep.refl h0 [a1]).trans Kq2 (allS (Or.inl (List.mem_of_getElem? (i := 0) rfl)) all0)
  have Z2 : n0 ≤ T2.heap.size := Nat.le_trans Z0 Kq2.1
  refine own_fw (A' := (T2.setTop (mkF m 9 #[rv a1, rv a2] []))) (fun t k => st2.trans k) ?_
  obtain ⟨fs, hr, hrun, hended, hW, hsame⟩ := X2.leave (v := none) (fun _ => rfl)
  refine ⟨_, _, ?_, hrun, hended, _, _, rfl, ?_, ⟨_, rfl⟩, hW, hsame.mono (by decide) (by decide)⟩
  · exact X2.returnOut hx Bd.returns (hb hby d5_9) hr
  · show Q_rmStrA1U Z a1 a2 kc cs c0 h0 n0 _ T2.heap _
    exact ⟨b_2, kb_2, rfl, Nf2, K2, Fq2_0, Fq2_1, Fq2_2, Fq2_3⟩
theorem ef_rmNBL2 (m : MethodId) : entryFrame m #[(.int 2)] 1 = mkF m 0 #[.val (.int 2)] [] := by first | (simp [entryFrame, mkF, argsToLocals, Value.category]; done) | rfl
def Q_rmNBL2 (Z : State) (h0 : Heap) (n0 : Nat) (v : Option Value) (h : Heap) (L : List Loc) : Prop := v = some (.int 4) ∧ Fr n0 L ∧ h = h0
theorem rmNBL2 (l : Launch) (Z : State) (a0 : Array Value) (hw : ∀ d ∈ tables_1, d.before a0 Z = true) (ws : List Jvm.Cond) (h0 : Heap) (n0 : Nat) (Z0 : n0 ≤ h0.size)  :
    MetFree l yq19 (head1 (Jvm.Cond.code yq19 jdk_52_method_3_code 1 (some .int) :: ws) rq0) (fun a U => a = #[(.int 2)] ∧ Z.Warmed39 U.vm ∧ U.heap = h0) (fun _ _ _ _ _ => True) (fun _ U o U' => ∃ v L, o = .returned v ∧ Q_rmNBL2 Z  h0 n0 v U'.heap L ∧ FrameEnd U o U' L rq0.cells rq0.slots) := by
  refine MetFree.of_bodySF (plainFor_of_name pn_java_lang_StringUTF16) hisR ?_
  intro p e s m args below meth c s₁ Bd hml0 hP hK
  obtain ⟨rfl, hZ, hh⟩ := hP
  have hx := Bd.exec
  have hby := Bd.bytes
  have hml : c.maxLocals = 1 := hml0
  have hown : s.vm.findClass "java/lang/StringUTF16" = some m.cls := findClass_of_methodNamed Bd.named
  have hnm := (name_of_methodNamed Bd.named Bd.method).1
  have X0 : Stand p l e rq0 s m #[(.int 2)] below meth c s₁ [] 0 0 := Stand.of_body Bd
  have e0 : s₁.heap = h0 := by rw [← hh, Bd.state]; rfl
  have N0 := Fr.nil n0
  refine own_fw (A' := (s₁.setTop (mkF m 58 #[iv 2] [.int 4]))) (fun t k => castTop (ef_rmNBL2 m) (XS.iloadN X0.here hx rfl (hb hby d12_0) rfl (XS.ifYes X0.here hx rfl (pc0 := 1) (pc' := 12) rfl (hb hby d12_1) rfl (XT.i0_ge_t (by decide)) (by decide) (by decide) (XS.iloadN X0.here hx rfl (hb hby d12_12) rfl (X0.ldcInt hx hown (mvT hZ (own_w hw 50 rfl)) (g := (mkF m 13 #[iv 2] [.int 2])) rfl (hb hby d12_13) _ (XS.icmpYes X0.here hx rfl (pc0 := 15) (pc' := 55) rfl (hb hby d12_15) rfl (XT.ii_lt_t (by decide)) (by decide) (by decide) (XS.iloadN X0.here hx rfl (hb hby d12_55) rfl (XS.iconst X0.here hx rfl (hb hby d12_56) (XS.ishl X0.here hx rfl (hb hby d12_57) rfl k))))))))) ?_
  obtain ⟨fs, hr, hrun, hended, hW, hsame⟩ := X0.leave (v := some (.int 4)) (fun h => by rw [Bd.returns] at h; cases h)
  refine ⟨_, _, ?_, hrun, hended, _, _, rfl, ?_, ⟨_, rfl⟩, hW, hsame.mono (by decide) (by decide)⟩
  · exact retOut X0 hx Bd.returns rfl (Or.inl ⟨rfl, by simp, _, rfl⟩) (hb hby d12_58) hr
  · show Q_rmNBL2 Z  h0 n0 _ s₁.heap _
    rw [e0]
    exact ⟨rfl, N0, rfl⟩
theorem ef_rmNBF2 (m : MethodId) : entryFrame m #[(.int 2)] 1 = mkF m 0 #[.val (.int 2)] [] := by first | (simp [entryFrame, mkF, argsToLocals, Value.category]; done) | rfl
def Q_rmNBF2 (Z : State) (h0 : Heap) (n0 : Nat) (v : Option Value) (h : Heap) (L : List Loc) : Prop := ∃ b : Addr, ∃ kb : ClassId, v = some (.ref b) ∧ Fr n0 L ∧ Keep h0 h [] ∧ Arv Z h b kb .byte (4 : Int32) [(.int 0), (.int 0), (.int 0), (.int 0)] (.int 0) ∧ (h0.size ≤ b)
theorem rmNBF2 (l : Launch) (Z : State) (a0 : Array Value) (hw : ∀ d ∈ tables_1, d.before a0 Z = true) (ws : List Jvm.Cond) (h0 : Heap) (n0 : Nat) (Z0 : n0 ≤ h0.size)  :
    MetFree l yq21 (head1 (Jvm.Cond.code yq21 jdk_52_method_2_code 1 (some (.array .byte)) :: ws) rq28) (fun a U => a = #[(.int 2)] ∧ Z.Warmed39 U.vm ∧ U.heap = h0) (fun _ _ _ _ _ => True) (fun _ U o U' => ∃ v L, o = .returned v ∧ Q_rmNBF2 Z  h0 n0 v U'.heap L ∧ FrameEnd U o U' L rq28.cells rq28.slots) := by
  refine MetFree.of_bodySF (plainFor_of_name pn_java_lang_StringUTF16) hisR ?_
  intro p e s m args below meth c s₁ Bd hml0 hP hK
  obtain ⟨rfl, hZ, hh⟩ := hP
  have hx := Bd.exec
  have hby := Bd.bytes
  have hml : c.maxLocals = 1 := hml0
  have hown : s.vm.findClass "java/lang/StringUTF16" = some m.cls := findClass_of_methodNamed Bd.named
  have hnm := (name_of_methodNamed Bd.named Bd.method).1
  have X0 : Stand p l e rq28 s m #[(.int 2)] below meth c s₁ [] 0 0 := Stand.of_body Bd
  have e0 : s₁.heap = h0 := by rw [← hh, Bd.state]; rfl
  have N0 := Fr.nil n0
  refine own_fw (A' := (s₁.setTop (mkF m 1 #[iv 2] [.int 2]))) (fun t k => castTop (ef_rmNBF2 m) (XS.iloadN X0.here hx rfl (hb hby d11_0) rfl k)) ?_
  obtain ⟨_, _, ⟨T1, L1, k1, n1⟩, -, X1, ⟨Lc1, hQ1, l1, y1, z1⟩, st1⟩ := Jvm.LawKit.callS X0 hx (y := yq19) hown (mvT hZ (own_w hw 47 rfl)) (mvT hZ (own_w hw 48 rfl)) (mvT hZ (own_w hw 35 rfl)) (mvT hZ (own_w hw 49 rfl)) (by decide) (backOf (W := 0) (rmNBL2 l Z a0 hw []  h0 n0 Z0 ) hZ (own_w hw 49 rfl) (own_w hw 35 rfl) (by decide) (by decide)) (g := (mkF m 1 #[iv 2] [.int 2])) rfl (by rw [hml]; rfl) (argsL := [(.int 2)]) (rest := []) (lenOf pd__I_I rfl) rfl (by show 2 * 0 + _ ≤ _; exact Nat.le_of_eq rfl) (hb hby d11_1) (fun _ _ => ⟨rfl, e0, (by decide : 0 + 0 ≤ _), (by decide : 0 + 0 ≤ _)⟩)
  dsimp only [Pt.U, Pt.locs, Pt.cells, Pt.slots] at X1 l1 y1 z1 st1 hQ1
  subst l1 y1 z1
  obtain ⟨rfl, Nq1, e1⟩ := hQ1
  have Nf1 := Fr.app N0 Nq1
  refine own_fw (A' := (T1.setTop (mkF m 4 #[iv 2] [.int 4]))) (fun t k => st1 _ k) ?_
  obtain ⟨T2, h2, k2, X2, e2, E2, A2, st2⟩ := newP X1 hx hZ (own_w hw 37 rfl) e1 (g := (mkF m 4 #[iv 2] [.int 4])) rfl (hb hby d11_4) rfl (by decide) (cap := 4) (by decide) (by decide) (by decide) (by decide)
  obtain ⟨b2, gb2⟩ : ∃ z, z = h0.size := ⟨_, rfl⟩
  have g_b2 : n0 ≤ b2 := Nat.le_trans Z0 (Nat.le_of_eq gb2.symm)
  have sz_b2 : h0.size ≤ b2 := Nat.le_trans (Keep.refl h0 []).1 (Nat.le_of_eq gb2.symm)
  rw [← gb2] at A2 st2
  have V_b2 : Arv Z h2 b2 k2 .byte (4 : Int32) [(.int 0), (.int 0), (.int 0), (.int 0)] (.int 0) := (Arv.new A2 (by decide)).pad (pad_rep [] (.int 0) 4)
  have K2 : Keep h0 h2 [] := (Keep.refl h0 []).ext E2
  have Z2 : n0 ≤ h2.size := Nat.le_trans Z0 E2.1
  refine own_fw (A' := (T2.setTop (mkF m 6 #[iv 2] [.ref b2]))) (fun t k => st2 _ k) ?_
  obtain ⟨fs, hr, hrun, hended, hW, hsame⟩ := X2.leave (v := some (.ref b2)) (fun h => by rw [Bd.returns] at h; cases h)
  refine ⟨_, _, ?_, hrun, hended, _, _, rfl, ?_, ⟨_, rfl⟩, hW, hsame.mono (by decide) (by decide)⟩
  · exact retOut X2 hx Bd.returns rfl (Or.inr (Or.inr (Or.inr (Or.inr ⟨rfl, rfl, rfl⟩)))) (hb hby d11_6) hr
  · show Q_rmNBF2 Z  h0 n0 _ T2.heap _
    rw [e2]
    exact ⟨b2, k2, rfl, Nf1, K2, V_b2, sz_b2⟩
theorem ef_rmPut20 (m : MethodId) (a1 : Addr) (c0 : Int32) : entryFrame m #[(.ref a1), (.int 0), (.int c0)] 3 = mkF m 0 #[.val (.ref a1), .val (.int 0), .val (.int c0)] [] := by first | (simp [entryFrame, mkF, argsToLocals, Value.category]; done) | rfl
def Q_rmPut20 (Z : State) (a1 : Addr) (kb : ClassId) (c0 x0 x1 x2 x3 : Int32) (h0 : Heap) (n0 : Nat) (v : Option Value) (h : Heap) (L : List Loc) : Prop := v = none ∧ Fr n0 L ∧ Keep h0 h [a1] ∧ Arv Z h a1 kb .byte (4 : Int32) [(.int (own_lo c0)), (.int (own_hb c0)), (.int x2), (.int x3)] (.int 0)
theorem rmPut20 (l : Launch) (Z : State) (a0 : Array Value) (hw : ∀ d ∈ tables_1, d.before a0 Z = true) (ws : List Jvm.Cond) (a1 : Addr) (kb : ClassId) (c0 x0 x1 x2 x3 : Int32) (h0 : Heap) (n0 : Nat) (Z0 : n0 ≤ h0.size) (P0 : Arv Z h0 a1 kb .byte (4 : Int32) [(.int x0), (.int x1), (.int x2), (.int x3)] (.int 0)) (g_a1 : n0 ≤ a1) (P2 : Sta Z h0 "java/lang/StringUTF16" "$assertionsDisabled" "Z" (.int 1)) (P3 : Sta Z h0 "java/lang/StringUTF16" "HI_BYTE_SHIFT" "I" (.int 0)) (P4 : Sta Z h0 "java/lang/StringUTF16" "LO_BYTE_SHIFT" "I" (.int 8)) :
    MetFree l yq22 (head1 (Jvm.Cond.code yq22 jdk_52_method_4_code 3 none :: ws) rq0) (fun a U => a = #[(.ref a1), (.int 0), (.int c0)] ∧ Z.Warmed39 U.vm ∧ U.heap = h0) (fun _ _ _ _ _ => True) (fun _ U o U' => ∃ v L, o = .returned v ∧ Q_rmPut20 Z a1 kb c0 x0 x1 x2 x3 h0 n0 v U'.heap L ∧ FrameEnd U o U' L rq0.cells rq0.slots) := by
  refine MetFree.of_bodySF (plainFor_of_name pn_java_lang_StringUTF16) hisR ?_
  intro p e s m args below meth c s₁ Bd hml0 hP hK
  obtain ⟨rfl, hZ, hh⟩ := hP
  have hx := Bd.exec
  have hby := Bd.bytes
  have hml : c.maxLocals = 3 := hml0
  have hown : s.vm.findClass "java/lang/StringUTF16" = some m.cls := findClass_of_methodNamed Bd.named
  have hnm := (name_of_methodNamed Bd.named Bd.method).1
  have X0 : Stand p l e rq0 s m #[(.ref a1), (.int 0), (.int c0)] below meth c s₁ [] 0 0 := Stand.of_body Bd
  have e0 : s₁.heap = h0 := by rw [← hh, Bd.state]; rfl
  have N0 := Fr.nil n0
  refine own_fw (A' := (s₁.setTop (mkF m 0 #[.val (.ref a1), .val (.int 0), .val (.int c0)] []))) (fun t k => castTop (ef_rmPut20 m a1 c0) k) ?_
  obtain ⟨T1, X1, e1, st1⟩ := getS2 X0 hx hZ hown (host := "") (Or.inl (own_w hw 54 rfl)) Via.refl e0 P2 (g := (mkF m 0 #[rv a1, iv 0, iv c0] [])) rfl (hb hby d13_0)
  refine own_fw (A' := (T1.setTop (mkF m 38 #[rv a1, iv 1, iv c0] [.int c0, .int 0, .ref a1]))) (fun t k => st1 _ (XS.ifYes X1.here hx rfl (pc0 := 3) (pc' := 28) rfl (hb hby d13_3) rfl (XT.i0_ne_t (by decide)) (by decide) (by decide) (XS.iloadN X1.here hx rfl (hb hby d13_28) rfl (XS.iconst X1.here hx rfl (hb hby d13_29) (XS.ishl X1.here hx rfl (hb hby d13_30) rfl (XS.istoreN X1.here hx rfl (hb hby d13_31) rfl (l' := #[rv a1, iv 0, iv c0]) rfl (XS.aloadN X1.here hx rfl (hb hby d13_32) rfl rfl (XS.iloadN X1.here hx rfl (hb hby d13_33) rfl (XS.iinc X1.here hx rfl (hb hby d13_34) rfl (l' := #[rv a1, iv 1, iv c0]) rfl (XS.iloadN X1.here hx rfl (hb hby d13_37) rfl k)))))))))) ?_
  obtain ⟨T2, X2, e2, st2⟩ := getS2 X1 hx hZ hown (host := "") (Or.inl (own_w hw 55 rfl)) Via.refl e1 P3 (g := (mkF m 38 #[rv a1, iv 1, iv c0] [.int c0, .int 0, .ref a1])) rfl (hb hby d13_38)
  refine own_fw (A' := (T2.setTop (mkF m 43 #[rv a1, iv 1, iv c0] [.int ((c0 >>> ((0 : Int32) &&& 31)).toInt8.toInt32), .int 0, .ref a1]))) (fun t k => st2 _ (XS.ishr X2.here hx rfl (hb hby d13_41) rfl (XS.i2b X2.here hx rfl (hb hby d13_42) rfl k))) ?_
  obtain ⟨cl3, Ar3, q3, S3, M3, H3, G3⟩ := id P0
  have hin3 : ¬ ((0 : Int32) < 0 ∨ cl3.slots.size ≤ ((0 : Int32)).toNatClampNeg) := inb_of S3 ⟨by decide, by decide⟩
  obtain ⟨T3, h3, X3, e3, W3, st3⟩ := stB X2 hx hZ e2 Ar3 (j := (0 : Int32)) hin3 (g := (mkF m 43 #[rv a1, iv 1, iv c0] [.int ((c0 >>> ((0 : Int32) &&& 31)).toInt8.toInt32), .int 0, .ref a1])) rfl rfl (hb hby d13_43)
  rw [own_narB] at W3
  have V3 : Arv Z h3 a1 kb .byte (4 : Int32) [(.int ((c0 >>> ((0 : Int32) &&& 31)).toInt8.toInt32)), (.int x1), (.int x2), (.int x3)] (.int 0) := Arv.set Ar3 q3 S3 M3 H3 G3 (fits_nar_byte _) W3 0 rfl (Nat.le_of_ble_eq_true rfl)
  have Nf3 := Fr.snoc X3 N0 g_a1
  have K3 : Keep h0 h3 [a1] := (Keep.refl h0 [a1]).wr W3 (Or.inl (List.mem_of_getElem? (i := 0) rfl))
  have Z3 : n0 ≤ h3.size := Nat.le_trans Z0 (Keep.of_wr W3).1
  refine own_fw (A' := (T3.setTop (mkF m 47 #[rv a1, iv 1, iv c0] [.int c0, .int 1, .ref a1]))) (fun t k => st3 _ (XS.aloadN X3.here hx rfl (hb hby d13_44) rfl rfl (XS.iloadN X3.here hx rfl (hb hby d13_45) rfl (XS.iloadN X3.here hx rfl (hb hby d13_46) rfl k)))) ?_
  obtain ⟨T4, X4, e4, st4⟩ := getS2 X3 hx hZ hown (host := "") (Or.inl (own_w hw 56 rfl)) Via.refl e3 (P4.wr W3) (g := (mkF m 47 #[rv a1, iv 1, iv c0] [.int c0, .int 1, .ref a1])) rfl (hb hby d13_47)
  refine own_fw (A' := (T4.setTop (mkF m 52 #[rv a1, iv 1, iv c0] [.int ((c0 >>> ((8 : Int32) &&& 31)).toInt8.toInt32), .int 1, .ref a1]))) (fun t k => st4 _ (XS.ishr X4.here hx rfl (hb hby d13_50) rfl (XS.i2b X4.here hx rfl (hb hby d13_51) rfl k))) ?_
  obtain ⟨cl5, Ar5, q5, S5, M5, H5, G5⟩ := id V3
  have hin5 : ¬ ((1 : Int32) < 0 ∨ cl5.slots.size ≤ ((1 : Int32)).toNatClampNeg) := inb_of S5 ⟨by decide, by decide⟩
  obtain ⟨T5, h5, X5, e5, W5, st5⟩ := stB X4 hx hZ e4 Ar5 (j := (1 : Int32)) hin5 (g := (mkF m 52 #[rv a1, iv 1, iv c0] [.int ((c0 >>> ((8 : Int32) &&& 31)).toInt8.toInt32), .int 1, .ref a1])) rfl rfl (hb hby d13_52)
  rw [own_narB] at W5
  have V5 : Arv Z h5 a1 kb .byte (4 : Int32) [(.int ((c0 >>> ((0 : Int32) &&& 31)).toInt8.toInt32)), (.int ((c0 >>> ((8 : Int32) &&& 31)).toInt8.toInt32)), (.int x2), (.int x3)] (.int 0) := Arv.set Ar5 q5 S5 M5 H5 G5 (fits_nar_byte _) W5 1 rfl (Nat.le_of_ble_eq_true rfl)
  have Nf5 := Fr.snoc X5 Nf3 g_a1
  have K5 : Keep h0 h5 [a1] := K3.wr W5 (Or.inl (List.mem_of_getElem? (i := 0) rfl))
  have Z5 : n0 ≤ h5.size := Nat.le_trans Z3 (Keep.of_wr W5).1
  refine own_fw (A' := (T5.setTop (mkF m 53 #[rv a1, iv 1, iv c0] []))) (fun t k => st5 _ k) ?_
  obtain ⟨fs, hr, hrun, hended, hW, hsame⟩ := X5.leave (v := none) (fun _ => rfl)
  refine ⟨_, _, ?_, hrun, hended, _, _, rfl, ?_, ⟨_, rfl⟩, hW, hsame.mono (by decide) (by decide)⟩
  · exact X5.returnOut hx Bd.returns (hb hby d13_53) hr
  · show Q_rmPut20 Z a1 kb c0 x0 x1 x2 x3 h0 n0 _ T5.heap _
    rw [e5]
    exact ⟨rfl, Nf5, K5, V5⟩
theorem ef_rmPut21 (m : MethodId) (a1 : Addr) (c0 : Int32) : entryFrame m #[(.ref a1), (.int 1), (.int c0)] 3 = mkF m 0 #[.val (.ref a1), .val (.int 1), .val (.int c0)] [] := by first | (simp [entryFrame, mkF, argsToLocals, Value.category]; done) | rfl
def Q_rmPut21 (Z : State) (a1 : Addr) (kb : ClassId) (c0 x0 x1 x2 x3 : Int32) (h0 : Heap) (n0 : Nat) (v : Option Value) (h : Heap) (L : List Loc) : Prop := v = none ∧ Fr n0 L ∧ Keep h0 h [a1] ∧ Arv Z h a1 kb .byte (4 : Int32) [(.int x0), (.int x1), (.int (own_lo c0)), (.int (own_hb c0))] (.int 0)
theorem rmPut21 (l : Launch) (Z : State) (a0 : Array Value) (hw : ∀ d ∈ tables_1, d.before a0 Z = true) (ws : List Jvm.Cond) (a1 : Addr) (kb : ClassId) (c0 x0 x1 x2 x3 : Int32) (h0 : Heap) (n0 : Nat) (Z0 : n0 ≤ h0.size) (P0 : Arv Z h0 a1 kb .byte (4 : Int32) [(.int x0), (.int x1), (.int x2), (.int x3)] (.int 0)) (g_a1 : n0 ≤ a1) (P2 : Sta Z h0 "java/lang/StringUTF16" "$assertionsDisabled" "Z" (.int 1)) (P3 : Sta Z h0 "java/lang/StringUTF16" "HI_BYTE_SHIFT" "I" (.int 0)) (P4 : Sta Z h0 "java/lang/StringUTF16" "LO_BYTE_SHIFT" "I" (.int 8)) :
    MetFree l yq22 (head1 (Jvm.Cond.code yq22 jdk_52_method_4_code 3 none :: ws) rq0) (fun a U => a = #[(.ref a1), (.int 1), (.int c0)] ∧ Z.Warmed39 U.vm ∧ U.heap = h0) (fun _ _ _ _ _ => True) (fun _ U o U' => ∃ v L, o = .returned v ∧ Q_rmPut21 Z a1 kb c0 x0 x1 x2 x3 h0 n0 v U'.heap L ∧ FrameEnd U o U' L rq0.cells rq0.slots) := by
  refine MetFree.of_bodySF (plainFor_of_name pn_java_lang_StringUTF16) hisR ?_
  intro p e s m args below meth c s₁ Bd hml0 hP hK
  obtain ⟨rfl, hZ, hh⟩ := hP
  have hx := Bd.exec
  have hby := Bd.bytes
  have hml : c.maxLocals = 3 := hml0
  have hown : s.vm.findClass "java/lang/StringUTF16" = some m.cls := findClass_of_methodNamed Bd.named
  have hnm := (name_of_methodNamed Bd.named Bd.method).1
  have X0 : Stand p l e rq0 s m #[(.ref a1), (.int 1), (.int c0)] below meth c s₁ [] 0 0 := Stand.of_body Bd
  have e0 : s₁.heap = h0 := by rw [← hh, Bd.state]; rfl
  have N0 := Fr.nil n0
  refine own_fw (A' := (s₁.setTop (mkF m 0 #[.val (.ref a1), .val (.int 1), .val (.int c0)] []))) (fun t k => castTop (ef_rmPut21 m a1 c0) k) ?_
  obtain ⟨T1, X1, e1, st1⟩ := getS2 X0 hx hZ hown (host := "") (Or.inl (own_w hw 54 rfl)) Via.refl e0 P2 (g := (mkF m 0 #[rv a1, iv 1, iv c0] [])) rfl (hb hby d13_0)
  refine own_fw (A' := (T1.setTop (mkF m 38 #[rv a1, iv 3, iv c0] [.int c0, .int 2, .ref a1]))) (fun t k => st1 _ (XS.ifYes X1.here hx rfl (pc0 := 3) (pc' := 28) rfl (hb hby d13_3) rfl (XT.i0_ne_t (by decide)) (by decide) (by decide) (XS.iloadN X1.here hx rfl (hb hby d13_28) rfl (XS.iconst X1.here hx rfl (hb hby d13_29) (XS.ishl X1.here hx rfl (hb hby d13_30) rfl (XS.istoreN X1.here hx rfl (hb hby d13_31) rfl (l' := #[rv a1, iv 2, iv c0]) rfl (XS.aloadN X1.here hx rfl (hb hby d13_32) rfl rfl (XS.iloadN X1.here hx rfl (hb hby d13_33) rfl (XS.iinc X1.here hx rfl (hb hby d13_34) rfl (l' := #[rv a1, iv 3, iv c0]) rfl (XS.iloadN X1.here hx rfl (hb hby d13_37) rfl k)))))))))) ?_
  obtain ⟨T2, X2, e2, st2⟩ := getS2 X1 hx hZ hown (host := "") (Or.inl (own_w hw 55 rfl)) Via.refl e1 P3 (g := (mkF m 38 #[rv a1, iv 3, iv c0] [.int c0, .int 2, .ref a1])) rfl (hb hby d13_38)
  refine own_fw (A' := (T2.setTop (mkF m 43 #[rv a1, iv 3, iv c0] [.int ((c0 >>> ((0 : Int32) &&& 31)).toInt8.toInt32), .int 2, .ref a1]))) (fun t k => st2 _ (XS.ishr X2.here hx rfl (hb hby d13_41) rfl (XS.i2b X2.here hx rfl (hb hby d13_42) rfl k))) ?_
  obtain ⟨cl3, Ar3, q3, S3, M3, H3, G3⟩ := id P0
  have hin3 : ¬ ((2 : Int32) < 0 ∨ cl3.slots.size ≤ ((2 : Int32)).toNatClampNeg) := inb_of S3 ⟨by decide, by decide⟩
  obtain ⟨T3, h3, X3, e3, W3, st3⟩ := stB X2 hx hZ e2 Ar3 (j := (2 : Int32)) hin3 (g := (mkF m 43 #[rv a1, iv 3, iv c0] [.int ((c0 >>> ((0 : Int32) &&& 31)).toInt8.toInt32), .int 2, .ref a1])) rfl rfl (hb hby d13_43)
  rw [own_narB] at W3
  have V3 : Arv Z h3 a1 kb .byte (4 : Int32) [(.int x0), (.int x1), (.int ((c0 >>> ((0 : Int32) &&& 31)).toInt8.toInt32)), (.int x3)] (.int 0) := Arv.set Ar3 q3 S3 M3 H3 G3 (fits_nar_byte _) W3 2 rfl (Nat.le_of_ble_eq_true rfl)
  have Nf3 := Fr.snoc X3 N0 g_a1
  have K3 : Keep h0 h3 [a1] := (Keep.refl h0 [a1]).wr W3 (Or.inl (List.mem_of_getElem? (i := 0) rfl))
  have Z3 : n0 ≤ h3.size := Nat.le_trans Z0 (Keep.of_wr W3).1
  refine own_fw (A' := (T3.setTop (mkF m 47 #[rv a1, iv 3, iv c0] [.int c0, .int 3, .ref a1]))) (fun t k => st3 _ (XS.aloadN X3.here hx rfl (hb hby d13_44) rfl rfl (XS.iloadN X3.here hx rfl (hb hby d13_45) rfl (XS.iloadN X3.here hx rfl (hb hby d13_46) rfl k)))) ?_
  obtain ⟨T4, X4, e4, st4⟩ := getS2 X3 hx hZ hown (host := "") (Or.inl (own_w hw 56 rfl)) Via.refl e3 (P4.wr W3) (g := (mkF m 47 #[rv a1, iv 3, iv c0] [.int c0, .int 3, .ref a1])) rfl (hb hby d13_47)
  refine own_fw (A' := (T4.setTop (mkF m 52 #[rv a1, iv 3, iv c0] [.int ((c0 >>> ((8 : Int32) &&& 31)).toInt8.toInt32), .int 3, .ref a1]))) (fun t k => st4 _ (XS.ishr X4.here hx rfl (hb hby d13_50) rfl (XS.i2b X4.here hx rfl (hb hby d13_51) rfl k))) ?_
  obtain ⟨cl5, Ar5, q5, S5, M5, H5, G5⟩ := id V3
  have hin5 : ¬ ((3 : Int32) < 0 ∨ cl5.slots.size ≤ ((3 : Int32)).toNatClampNeg) := inb_of S5 ⟨by decide, by decide⟩
  obtain ⟨T5, h5, X5, e5, W5, st5⟩ := stB X4 hx hZ e4 Ar5 (j := (3 : Int32)) hin5 (g := (mkF m 52 #[rv a1, iv 3, iv c0] [.int ((c0 >>> ((8 : Int32) &&& 31)).toInt8.toInt32), .int 3, .ref a1])) rfl rfl (hb hby d13_52)
  rw [own_narB] at W5
  have V5 : Arv Z h5 a1 kb .byte (4 : Int32) [(.int x0), (.int x1), (.int ((c0 >>> ((0 : Int32) &&& 31)).toInt8.toInt32)), (.int ((c0 >>> ((8 : Int32) &&& 31)).toInt8.toInt32))] (.int 0) := Arv.set Ar5 q5 S5 M5 H5 G5 (fits_nar_byte _) W5 3 rfl (Nat.le_of_ble_eq_true rfl)
  have Nf5 := Fr.snoc X5 Nf3 g_a1
  have K5 : Keep h0 h5 [a1] := K3.wr W5 (Or.inl (List.mem_of_getElem? (i := 0) rfl))
  have Z5 : n0 ≤ h5.size := Nat.le_trans Z3 (Keep.of_wr W5).1
  refine own_fw (A' := (T5.setTop (mkF m 53 #[rv a1, iv 3, iv c0] []))) (fun t k => st5 _ k) ?_
  obtain ⟨fs, hr, hrun, hended, hW, hsame⟩ := X5.leave (v := none) (fun _ => rfl)
  refine ⟨_, _, ?_, hrun, hended, _, _, rfl, ?_, ⟨_, rfl⟩, hW, hsame.mono (by decide) (by decide)⟩
  · exact X5.returnOut hx Bd.returns (hb hby d13_53) hr
  · show Q_rmPut21 Z a1 kb c0 x0 x1 x2 x3 h0 n0 _ T5.heap _
    rw [e5]
    exact ⟨rfl, Nf5, K5, V5⟩
theorem ef_rmToB2 (m : MethodId) (a1 : Addr) : entryFrame m #[(.ref a1), (.int 0), (.int 2)] 5 = mkF m 0 #[.val (.ref a1), .val (.int 0), .val (.int 2), .unset, .unset] [] := by first | (simp [entryFrame, mkF, argsToLocals, Value.category]; done) | rfl
def Q_rmToB2 (Z : State) (a1 : Addr) (kc : ClassId) (c0 c1 : Int32) (h0 : Heap) (n0 : Nat) (v : Option Value) (h : Heap) (L : List Loc) : Prop := ∃ b : Addr, ∃ kb : ClassId, v = some (.ref b) ∧ Fr n0 L ∧ Keep h0 h [] ∧ Arv Z h b kb .byte (4 : Int32) [(.int (own_lo c0)), (.int (own_hb c0)), (.int (own_lo c1)), (.int (own_hb c1))] (.int 0) ∧ (h0.size ≤ b)
theorem rmToB2 (l : Launch) (Z : State) (a0 : Array Value) (hw : ∀ d ∈ tables_1, d.before a0 Z = true) (ws : List Jvm.Cond) (a1 : Addr) (kc : ClassId) (c0 c1 : Int32) (h0 : Heap) (n0 : Nat) (Z0 : n0 ≤ h0.size) (P0 : Arv Z h0 a1 kc .char (2 : Int32) [(.int c0), (.int c1)] (.int 0)) (P1 : Sta Z h0 "java/lang/StringUTF16" "$assertionsDisabled" "Z" (.int 1)) (P2 : Sta Z h0 "java/lang/StringUTF16" "HI_BYTE_SHIFT" "I" (.int 0)) (P3 : Sta Z h0 "java/lang/StringUTF16" "LO_BYTE_SHIFT" "I" (.int 8)) :
    MetFree l yq24 (head1 (Jvm.Cond.code yq24 jdk_52_method_14_code 5 (some (.array .byte)) :: ws) rq29) (fun a U => a = #[(.ref a1), (.int 0), (.int 2)] ∧ Z.Warmed39 U.vm ∧ U.heap = h0) (fun _ _ _ _ _ => True) (fun _ U o U' => ∃ v L, o = .returned v ∧ Q_rmToB2 Z a1 kc c0 c1 h0 n0 v U'.heap L ∧ FrameEnd U o U' L rq29.cells rq29.slots) := by
  refine MetFree.of_bodySF (plainFor_of_name pn_java_lang_StringUTF16) hisR ?_
  intro p e s m args below meth c s₁ Bd hml0 hP hK
  obtain ⟨rfl, hZ, hh⟩ := hP
  have hx := Bd.exec
  have hby := Bd.bytes
  have hml : c.maxLocals = 5 := hml0
  have hown : s.vm.findClass "java/lang/StringUTF16" = some m.cls := findClass_of_methodNamed Bd.named
  have hnm := (name_of_methodNamed Bd.named Bd.method).1
  have X0 : Stand p l e rq29 s m #[(.ref a1), (.int 0), (.int 2)] below meth c s₁ [] 0 0 := Stand.of_body Bd
  have e0 : s₁.heap = h0 := by rw [← hh, Bd.state]; rfl
  have N0 := Fr.nil n0
  refine own_fw (A' := (s₁.setTop (mkF m 1 #[rv a1, iv 0, iv 2, .unset, .unset] [.int 2]))) (fun t k => castTop (ef_rmToB2 m a1) (XS.iloadN X0.here hx rfl (hb hby d10_0) rfl k)) ?_
  obtain ⟨_, _, ⟨T1, L1, k1, n1⟩, -, X1, ⟨Lc1, hQ1, l1, y1, z1⟩, st1⟩ := Jvm.LawKit.callS X0 hx (y := yq21) hown (mvT hZ (own_w hw 44 rfl)) (mvT hZ (own_w hw 45 rfl)) (mvT hZ (own_w hw 35 rfl)) (mvT hZ (own_w hw 46 rfl)) (by decide) (backOf (W := 0) (rmNBF2 l Z a0 hw []  h0 n0 Z0 ) hZ (own_w hw 46 rfl) (own_w hw 35 rfl) (by decide) (by decide)) (g := (mkF m 1 #[rv a1, iv 0, iv 2, .unset, .unset] [.int 2])) rfl (by rw [hml]; rfl) (argsL := [(.int 2)]) (rest := []) (lenOf pd__I__B rfl) rfl (by show 2 * 0 + _ ≤ _; exact Nat.le_of_eq rfl) (hb hby d10_1) (fun _ _ => ⟨rfl, e0, (by decide : 0 + 1 ≤ _), (by decide : 0 + 4 ≤ _)⟩)
  dsimp only [Pt.U, Pt.locs, Pt.cells, Pt.slots] at X1 l1 y1 z1 st1 hQ1
  subst l1 y1 z1
  obtain ⟨b_1, kb_1, rfl, Nq1, Kq1, Fq1_0, gb_1⟩ := hQ1
  have Nf1 := Fr.app N0 Nq1
  have K1 : Keep h0 T1.heap [] := (Keep.refl h0 []).trans Kq1 all0
  have sz_b_1 : h0.size ≤ b_1 := Nat.le_trans (Keep.refl h0 []).1 gb_1
  have g_b_1 : n0 ≤ b_1 := Nat.le_trans Z0 gb_1
  have ne_a1_b_1 : a1 ≠ b_1 := Nat.ne_of_lt (Nat.lt_of_lt_of_le P0.lt gb_1)
  have Z1 : n0 ≤ T1.heap.size := Nat.le_trans Z0 Kq1.1
  refine own_fw (A' := (T1.setTop (mkF m 19 #[rv a1, iv 0, iv 2, rv b_1, iv 0] [.int 0, .ref a1, .int 0, .ref b_1]))) (fun t k => st1 _ (XS.astoreN X1.here hx rfl (hb hby d10_4) rfl rfl (l' := #[rv a1, iv 0, iv 2, rv b_1, .unset]) rfl (XS.iconst X1.here hx rfl (hb hby d10_5) (XS.istore X1.here hx rfl (hb hby d10_6) rfl (l' := #[rv a1, iv 0, iv 2, rv b_1, iv 0]) rfl (XS.iload X1.here hx rfl (hb hby d10_8) rfl (XS.iloadN X1.here hx rfl (hb hby d10_10) rfl (XS.icmpNo X1.here hx rfl (hb hby d10_11) rfl (XT.ii_ge_f (by decide)) (XS.aloadN X1.here hx rfl (hb hby d10_14) rfl rfl (XS.iload X1.here hx rfl (hb hby d10_15) rfl (XS.aloadN X1.here hx rfl (hb hby d10_17) rfl rfl (XS.iloadN X1.here hx rfl (hb hby d10_18) rfl k))))))))))) ?_
  obtain ⟨cl2, Ar2, q2, S2, M2, H2, G2⟩ := id (P0.keep Kq1 nin0)
  have hin2 : ¬ ((0 : Int32) < 0 ∨ cl2.slots.size ≤ ((0 : Int32)).toNatClampNeg) := inb_of S2 ⟨by decide, by decide⟩
  have hat2 : cl2.slots[((0 : Int32)).toNatClampNeg]? = some (.int c0) := H2.at hin2 rfl
  refine own_fw (A' := (T1.setTop (mkF m 20 #[rv a1, iv 0, iv 2, rv b_1, iv 0] [.int c0, .int 0, .ref b_1]))) (fun t k => X1.caload hx (j := (0 : Int32)) (v := (.int c0)) (by exact Ar2.1) (State.isArrayOf_alike hZ.alike Ar2.2.1) Ar2.2.2 hin2 hat2 (g := (mkF m 19 #[rv a1, iv 0, iv 2, rv b_1, iv 0] [.int 0, .ref a1, .int 0, .ref b_1])) rfl rfl (hb hby d10_19) _ k) ?_
  obtain ⟨_, _, ⟨T3, L3, k3, n3⟩, -, X3, ⟨Lc3, hQ3, l3, y3, z3⟩, st3⟩ := Jvm.LawKit.callS X1 hx (y := yq22) hown (mvT hZ (own_w hw 51 rfl)) (mvT hZ (own_w hw 52 rfl)) (mvT hZ (own_w hw 35 rfl)) (mvT hZ (own_w hw 53 rfl)) (by decide) (backOf (W := 0) (rmPut20 l Z a0 hw [] b_1 kb_1 c0 (0 : Int32) (0 : Int32) (0 : Int32) (0 : Int32) T1.heap n0 Z1 Fq1_0 g_b_1 (own_staKeep P1 Kq1 all0) (own_staKeep P2 Kq1 all0) (own_staKeep P3 Kq1 all0)) hZ (own_w hw 53 rfl) (own_w hw 35 rfl) (by decide) (by decide)) (g := (mkF m 20 #[rv a1, iv 0, iv 2, rv b_1, iv 0] [.int c0, .int 0, .ref b_1])) rfl (by rw [hml]; rfl) (argsL := [(.ref b_1), (.int 0), (.int c0)]) (rest := []) (lenOf pd___BII_V rfl) rfl (by show 2 * 0 + _ ≤ _; exact Nat.le_of_eq rfl) (hb hby d10_20) (fun _ _ => ⟨rfl, rfl, (by decide : 1 + 0 ≤ _), (by decide : 4 + 0 ≤ _)⟩)
  dsimp only [Pt.U, Pt.locs, Pt.cells, Pt.slots] at X3 l3 y3 z3 st3 hQ3
  subst l3 y3 z3
  obtain ⟨rfl, Nq3, Kq3, Fq3_0⟩ := hQ3
  have Nf3 := Fr.app Nf1 Nq3
  have K3 : Keep h0 T3.heap [] := K1.trans Kq3 (allS (Or.inr sz_b_1) all0)
  have Z3 : n0 ≤ T3.heap.size := Nat.le_trans Z1 Kq3.1
  refine own_fw (A' := (T3.setTop (mkF m 19 #[rv a1, iv 1, iv 2, rv b_1, iv 1] [.int 1, .ref a1, .int 1, .ref b_1]))) (fun t k => st3 _ (XS.iinc X3.here hx rfl (hb hby d10_23) rfl (l' := #[rv a1, iv 1, iv 2, rv b_1, iv 0]) rfl (XS.iinc X3.here hx rfl (hb hby d10_26) rfl (l' := #[rv a1, iv 1, iv 2, rv b_1, iv 1]) rfl (XS.goto X3.here hx rfl (pc0 := 29) (pc' := 8) rfl (hb hby d10_29) (by decide) (by decide) (XS.iload X3.here hx rfl (hb hby d10_8) rfl (XS.iloadN X3.here hx rfl (hb hby d10_10) rfl (XS.icmpNo X3.here hx rfl (hb hby d10_11) rfl (XT.ii_ge_f (by decide)) (XS.aloadN X3.here hx rfl (hb hby d10_14) rfl rfl (XS.iload X3.here hx rfl (hb hby d10_15) rfl (XS.aloadN X3.here hx rfl (hb hby d10_17) rfl rfl (XS.iloadN X3.here hx rfl (hb hby d10_18) rfl k))))))))))) ?_
  obtain ⟨cl4, Ar4, q4, S4, M4, H4, G4⟩ := id ((P0.keep Kq1 nin0).keep Kq3 (ninS ne_a1_b_1 nin0))
  have hin4 : ¬ ((1 : Int32) < 0 ∨ cl4.slots.size ≤ ((1 : Int32)).toNatClampNeg) := inb_of S4 ⟨by decide, by decide⟩
  have hat4 : cl4.slots[((1 : Int32)).toNatClampNeg]? = some (.int c1) := H4.at hin4 rfl
  refine own_fw (A' := (T3.setTop (mkF m 20 #[rv a1, iv 1, iv 2, rv b_1, iv 1] [.int c1, .int 1, .ref b_1]))) (fun t k => X3.caload hx (j := (1 : Int32)) (v := (.int c1)) (by exact Ar4.1) (State.isArrayOf_alike hZ.alike Ar4.2.1) Ar4.2.2 hin4 hat4 (g := (mkF m 19 #[rv a1, iv 1, iv 2, rv b_1, iv 1] [.int 1, .ref a1, .int 1, .ref b_1])) rfl rfl (hb hby d10_19) _ k) ?_
  obtain ⟨_, _, ⟨T5, L5, k5, n5⟩, -, X5, ⟨Lc5, hQ5, l5, y5, z5⟩, st5⟩ := Jvm.LawKit.callS X3 hx (y := yq22) hown (mvT hZ (own_w hw 51 rfl)) (mvT hZ (own_w hw 52 rfl)) (mvT hZ (own_w hw 35 rfl)) (mvT hZ (own_w hw 53 rfl)) (by decide) (backOf (W := 0) (rmPut21 l Z a0 hw [] b_1 kb_1 c1 (own_lo c0) (own_hb c0) (0 : Int32) (0 : Int32) T3.heap n0 Z3 Fq3_0 g_b_1 (own_staKeep (own_staKeep P1 Kq1 all0) Kq3 (allS (own_plainV Fq1_0) all0)) (own_staKeep (own_staKeep P2 Kq1 all0) Kq3 (allS (own_plainV Fq1_0) all0)) (own_staKeep (own_staKeep P3 Kq1 all0) Kq3 (allS (own_plainV Fq1_0) all0))) hZ (own_w hw 53 rfl) (own_w hw 35 rfl) (by decide) (by decide)) (g := (mkF m 20 #[rv a1, iv 1, iv 2, rv b_1, iv 1] [.int c1, .int 1, .ref b_1])) rfl (by rw [hml]; rfl) (argsL := [(.ref b_1), (.int 1), (.int c1)]) (rest := []) (lenOf pd___BII_V rfl) rfl (by show 2 * 0 + _ ≤ _; exact Nat.le_of_eq rfl) (hb hby d10_20) (fun _ _ => ⟨rfl, rfl, (by decide : 1 + 0 ≤ _), (by decide : 4 + 0 ≤ _)⟩)
  dsimp only [Pt.U, Pt.locs, Pt.cells, Pt.slots] at X5 l5 y5 z5 st5 hQ5
  subst l5 y5 z5
  obtain ⟨rfl, Nq5, Kq5, Fq5_0⟩ := hQ5
  have Nf5 := Fr.app Nf3 Nq5
  have K5 : Keep h0 T5.heap [] := K3.trans Kq5 (allS (Or.inr sz_b_1) all0)
  have Z5 : n0 ≤ T5.heap.size := Nat.le_trans Z3 Kq5.1
  refine own_fw (A' := (T5.setTop (mkF m 33 #[rv a1, iv 2, iv 2, rv b_1, iv 2] [.ref b_1]))) (fun t k => st5 _ (XS.iinc X5.here hx rfl (hb hby d10_23) rfl (l' := #[rv a1, iv 2, iv 2, rv b_1, iv 1]) rfl (XS.iinc X5.here hx rfl (hb hby d10_26) rfl (l' := #[rv a1, iv 2, iv 2, rv b_1, iv 2]) rfl (XS.goto X5.here hx rfl (pc0 := 29) (pc' := 8) rfl (hb hby d10_29) (by decide) (by decide) (XS.iload X5.here hx rfl (hb hby d10_8) rfl (XS.iloadN X5.here hx rfl (hb hby d10_10) rfl (XS.icmpYes X5.here hx rfl (pc0 := 11) (pc' := 32) rfl (hb hby d10_11) rfl (XT.ii_ge_t (by decide)) (by decide) (by decide) (XS.aloadN X5.here hx rfl (hb hby d10_32) rfl rfl k)))))))) ?_
  obtain ⟨fs, hr, hrun, hended, hW, hsame⟩ := X5.leave (v := some (.ref b_1)) (fun h => by rw [Bd.returns] at h; cases h)
  refine ⟨_, _, ?_, hrun, hended, _, _, rfl, ?_, ⟨_, rfl⟩, hW, hsame.mono (by decide) (by decide)⟩
  · exact retOut X5 hx Bd.returns rfl (Or.inr (Or.inr (Or.inr (Or.inr ⟨rfl, rfl, rfl⟩)))) (hb hby d10_33) hr
  · show Q_rmToB2 Z a1 kc c0 c1 h0 n0 _ T5.heap _
    exact ⟨b_1, kb_1, rfl, Nf5, K5, Fq5_0, sz_b_1⟩
theorem ef_rmCoderU2 (m : MethodId) (a1 : Addr) : entryFrame m #[(.ref a1), (.int 2)] 2 = mkF m 0 #[.val (.ref a1), .val (.int 2)] [] := by first | (simp [entryFrame, mkF, argsToLocals, Value.category]; done) | rfl
def Q_rmCoderU2 (Z : State) (a1 : Addr) (kb : ClassId) (x0 x1 x2 x3 : Int32) (h0 : Heap) (n0 : Nat) (v : Option Value) (h : Heap) (L : List Loc) : Prop := v = some (.int 1) ∧ Fr n0 L ∧ h = h0
theorem rmCoderU2 (l : Launch) (Z : State) (a0 : Array Value) (hw : ∀ d ∈ tables_1, d.before a0 Z = true) (ws : List Jvm.Cond) (a1 : Addr) (kb : ClassId) (x0 x1 x2 x3 : Int32) (h0 : Heap) (n0 : Nat) (Z0 : n0 ≤ h0.size) (P0 : Arv Z h0 a1 kb .byte (4 : Int32) [(.int x0), (.int x1), (.int x2), (.int x3)] (.int 0)) :
    MetFree l yq5 (head1 (Jvm.Cond.code yq5 jdk_52_method_15_code 2 (some .byte) :: ws) rq0) (fun a U => a = #[(.ref a1), (.int 2)] ∧ Z.Warmed39 U.vm ∧ U.heap = h0) (fun _ _ _ _ _ => True) (fun _ U o U' => ∃ v L, o = .returned v ∧ Q_rmCoderU2 Z a1 kb x0 x1 x2 x3 h0 n0 v U'.heap L ∧ FrameEnd U o U' L rq0.cells rq0.slots) := by
  refine MetFree.of_bodySF (plainFor_of_name pn_java_lang_StringUTF16) hisR ?_
  intro p e s m args below meth c s₁ Bd hml0 hP hK
  obtain ⟨rfl, hZ, hh⟩ := hP
  have hx := Bd.exec
  have hby := Bd.bytes
  have hml : c.maxLocals = 2 := hml0
  have hown : s.vm.findClass "java/lang/StringUTF16" = some m.cls := findClass_of_methodNamed Bd.named
  have hnm := (name_of_methodNamed Bd.named Bd.method).1
  have X0 : Stand p l e rq0 s m #[(.ref a1), (.int 2)] below meth c s₁ [] 0 0 := Stand.of_body Bd
  have e0 : s₁.heap = h0 := by rw [← hh, Bd.state]; rfl
  have N0 := Fr.nil n0
  refine own_fw (A' := (s₁.setTop (mkF m 2 #[rv a1, iv 2] [.ref a1, .int 2]))) (fun t k => castTop (ef_rmCoderU2 m a1) (XS.iloadN X0.here hx rfl (hb hby d15_0) rfl (XS.aloadN X0.here hx rfl (hb hby d15_1) rfl rfl k))) ?_
  obtain ⟨cl1, Ar1, q1, S1, M1, H1, G1⟩ := id P0
  refine own_fw (A' := (s₁.setTop (mkF m 3 #[rv a1, iv 2] [.int 4, .int 2]))) (fun t k => X0.arraylength hx (by rw [e0]; exact Ar1.1) (State.isArrayOf_alike hZ.alike Ar1.2.1) (g := (mkF m 2 #[rv a1, iv 2] [.ref a1, .int 2])) rfl rfl (hb hby d15_2) _ (by rw [len_of S1 M1]; exact k)) ?_
  refine own_fw (A' := (s₁.setTop (mkF m 8 #[rv a1, iv 2] [.int 1]))) (fun t k => XS.isub X0.here hx rfl (hb hby d15_3) rfl (XS.bipush X0.here hx rfl (hb hby d15_4) (XS.iushr X0.here hx rfl (hb hby d15_6) rfl (XS.i2b X0.here hx rfl (hb hby d15_7) rfl k)))) ?_
  obtain ⟨fs, hr, hrun, hended, hW, hsame⟩ := X0.leave (v := some (.int 1)) (fun h => by rw [Bd.returns] at h; cases h)
  refine ⟨_, _, ?_, hrun, hended, _, _, rfl, ?_, ⟨_, rfl⟩, hW, hsame.mono (by decide) (by decide)⟩
  · exact retOut X0 hx Bd.returns rfl (Or.inl ⟨rfl, by simp, _, rfl⟩) (hb hby d15_8) hr
  · show Q_rmCoderU2 Z a1 kb x0 x1 x2 x3 h0 n0 _ s₁.heap _
    rw [e0]
    exact ⟨rfl, N0, rfl⟩
theorem ef_rmCmpA2U (m : MethodId) (a1 a3 : Addr) : entryFrame m #[(.ref a1), (.int 0), (.ref a3), (.int 0), (.int 2)] 7 = mkF m 0 #[.val (.ref a1), .val (.int 0), .val (.ref a3), .val (.int 0), .val (.int 2), .unset, .unset] [] := by first | (simp [entryFrame, mkF, argsToLocals, Value.category]; done) | rfl
def Q_rmCmpA2U (Z : State) (a1 a3 : Addr) (kc kb : ClassId) (c0 c1 : Int32) (h0 : Heap) (n0 : Nat) (v : Option Value) (h : Heap) (L : List Loc) : Prop := ∃ r : Int32, v = some (.int r) ∧ Fr n0 L ∧ Keep h0 h [a3] ∧ (own_big [c0, c1] r)
theorem rmCmpA2U (l : Launch) (Z : State) (a0 : Array Value) (hw : ∀ d ∈ tables_1, d.before a0 Z = true) (ws : List Jvm.Cond) (a1 a3 : Addr) (kc kb : ClassId) (c0 c1 : Int32) (h0 : Heap) (n0 : Nat) (Z0 : n0 ≤ h0.size) (P0 : Arv Z h0 a1 kc .char (2 : Int32) [(.int c0), (.int c1)] (.int 0)) (P1 : Arv Z h0 a3 kb .byte (2 : Int32) [(.int 0), (.int 0)] (.int 0)) (g_a3 : n0 ≤ a3) (ne_a1_a3 : a1 ≠ a3) (hbig : (255 : Int32) < c0 ∨ (255 : Int32) < c1) :
    MetFree l yq2 (head1 (Jvm.Cond.code yq2 jdk_52_method_21_code 7 (some .int) :: ws) rq0) (fun a U => a = #[(.ref a1), (.int 0), (.ref a3), (.int 0), (.int 2)] ∧ Z.Warmed39 U.vm ∧ U.heap = h0) (fun _ _ _ _ _ => True) (fun _ U o U' => ∃ v L, o = .returned v ∧ Q_rmCmpA2U Z a1 a3 kc kb c0 c1 h0 n0 v U'.heap L ∧ FrameEnd U o U' L rq0.cells rq0.slots) := by
  refine MetFree.of_bodySF (plainFor_of_name pn_java_lang_StringUTF16) hisR ?_
  intro p e s m args below meth c s₁ Bd hml0 hP hK
  obtain ⟨rfl, hZ, hh⟩ := hP
  have hx := Bd.exec
  have hby := Bd.bytes
  have hml : c.maxLocals = 7 := hml0
  have hown : s.vm.findClass "java/lang/StringUTF16" = some m.cls := findClass_of_methodNamed Bd.named
  have hnm := (name_of_methodNamed Bd.named Bd.method).1
  have X0 : Stand p l e rq0 s m #[(.ref a1), (.int 0), (.ref a3), (.int 0), (.int 2)] below meth c s₁ [] 0 0 := Stand.of_body Bd
  have e0 : s₁.heap = h0 := by rw [← hh, Bd.state]; rfl
  have N0 := Fr.nil n0
  refine own_fw (A' := (s₁.setTop (mkF m 12 #[rv a1, iv 0, rv a3, iv 0, iv 2, iv 0, .unset] [.int 0, .ref a1]))) (fun t k => castTop (ef_rmCmpA2U m a1 a3) (XS.iconst X0.here hx rfl (hb hby d9_0) (XS.istore X0.here hx rfl (hb hby d9_1) rfl (l' := #[rv a1, iv 0, rv a3, iv 0, iv 2, iv 0, .unset]) rfl (XS.iload X0.here hx rfl (hb hby d9_3) rfl (XS.iload X0.here hx rfl (hb hby d9_5) rfl (XS.icmpNo X0.here hx rfl (hb hby d9_7) rfl (XT.ii_ge_f (by decide)) (XS.aloadN X0.here hx rfl (hb hby d9_10) rfl rfl (XS.iloadN X0.here hx rfl (hb hby d9_11) rfl k)))))))) ?_
  obtain ⟨cl1, Ar1, q1, S1, M1, H1, G1⟩ := id P0
  have hin1 : ¬ ((0 : Int32) < 0 ∨ cl1.slots.size ≤ ((0 : Int32)).toNatClampNeg) := inb_of S1 ⟨by decide, by decide⟩
  have hat1 : cl1.slots[((0 : Int32)).toNatClampNeg]? = some (.int c0) := H1.at hin1 rfl
  refine own_fw (A' := (s₁.setTop (mkF m 20 #[rv a1, iv 0, rv a3, iv 0, iv 2, iv 0, iv c0] [.int 255, .int c0]))) (fun t k => X0.caload hx (j := (0 : Int32)) (v := (.int c0)) (by rw [e0]; exact Ar1.1) (State.isArrayOf_alike hZ.alike Ar1.2.1) Ar1.2.2 hin1 hat1 (g := (mkF m 12 #[rv a1, iv 0, rv a3, iv 0, iv 2, iv 0, .unset] [.int 0, .ref a1])) rfl rfl (hb hby d9_12) _ (XS.istore X0.here hx rfl (hb hby d9_13) rfl (l' := #[rv a1, iv 0, rv a3, iv 0, iv 2, iv 0, iv c0]) rfl (XS.iload X0.here hx rfl (hb hby d9_15) rfl (XS.sipush X0.here hx rfl (hb hby d9_17) k)))) ?_
  by_cases hc0 : (255 : Int32) < c0
  · refine own_fw (A' := (s₁.setTop (mkF m 25 #[rv a1, iv 0, rv a3, iv 0, iv 2, iv 0, iv c0] [.int 0]))) (fun t k => XS.icmpNo X0.here hx rfl (hb hby d9_20) rfl (XT.ii_le_f hc0) (XS.iload X0.here hx rfl (hb hby d9_23) rfl k)) ?_
    obtain ⟨fs, hr, hrun, hended, hW, hsame⟩ := X0.leave (v := some (.int 0)) (fun h => by rw [Bd.returns] at h; cases h)
    refine ⟨_, _, ?_, hrun, hended, _, _, rfl, ?_, ⟨_, rfl⟩, hW, hsame.mono (by decide) (by decide)⟩
    · exact retOut X0 hx Bd.returns rfl (Or.inl ⟨rfl, by simp, _, rfl⟩) (hb hby d9_25) hr
    · show Q_rmCmpA2U Z a1 a3 kc kb c0 c1 h0 n0 _ s₁.heap _
      rw [e0]
      exact ⟨(0 : Int32), rfl, N0, (Keep.refl h0 [a3]), ⟨by decide, (by decide : (0 : Int32) < (2 : Int32)), hc0⟩⟩
  · refine own_fw (A' := (s₁.setTop (mkF m 31 #[rv a1, iv 0, rv a3, iv 0, iv 2, iv 0, iv c0] [.int (c0.toInt8.toInt32), .int 0, .ref a3]))) (fun t k => XS.icmpYes X0.here hx rfl (pc0 := 20) (pc' := 26) rfl (hb hby d9_20) rfl (XT.ii_le_t hc0) (by decide) (by decide) (XS.aloadN X0.here hx rfl (hb hby d9_26) rfl rfl (XS.iloadN X0.here hx rfl (hb hby d9_27) rfl (XS.iload X0.here hx rfl (hb hby d9_28) rfl (XS.i2b X0.here hx rfl (hb hby d9_30) rfl k))))) ?_
    obtain ⟨cl2, Ar2, q2, S2, M2, H2, G2⟩ := id P1
    have hin2 : ¬ ((0 : Int32) < 0 ∨ cl2.slots.size ≤ ((0 : Int32)).toNatClampNeg) := inb_of S2 ⟨by decide, by decide⟩
    obtain ⟨T2, h2, X2, e2, W2, st2⟩ := stB X0 hx hZ e0 Ar2 (j := (0 : Int32)) hin2 (g := (mkF m 31 #[rv a1, iv 0, rv a3, iv 0, iv 2, iv 0, iv c0] [.int (c0.toInt8.toInt32), .int 0, .ref a3])) rfl rfl (hb hby d9_31)
    rw [own_narB] at W2
    have V2 : Arv Z h2 a3 kb .byte (2 : Int32) [(.int (c0.toInt8.toInt32)), (.int 0)] (.int 0) := Arv.set Ar2 q2 S2 M2 H2 G2 (fits_nar_byte _) W2 0 rfl (Nat.le_of_ble_eq_true rfl)
    have Nf2 := Fr.snoc X2 N0 g_a3
    have K2 : Keep h0 h2 [a3] := (Keep.refl h0 [a3]).wr W2 (Or.inl (List.mem_of_getElem? (i := 0) rfl))
    have Z2 : n0 ≤ h2.size := Nat.le_trans Z0 (Keep.of_wr W2).1
    refine own_fw (A' := (T2.setTop (mkF m 12 #[rv a1, iv 1, rv a3, iv 1, iv 2, iv 1, iv c0] [.int 1, .ref a1]))) (fun t k => st2 _ (XS.iinc X2.here hx rfl (hb hby d9_32) rfl (l' := #[rv a1, iv 1, rv a3, iv 0, iv 2, iv 0, iv c0]) rfl (XS.iinc X2.here hx rfl (hb hby d9_35) rfl (l' := #[rv a1, iv 1, rv a3, iv 1, iv 2, iv 0, iv c0]) rfl (XS.iinc X2.here hx rfl (hb hby d9_38) rfl (l' := #[rv a1, iv 1, rv a3, iv 1, iv 2, iv 1, iv c0]) rfl (XS.goto X2.here hx rfl (pc0 := 41) (pc' := 3) rfl (hb hby d9_41) (by decide) (by decide) (XS.iload X2.here hx rfl (hb hby d9_3) rfl (XS.iload X2.here hx rfl (hb hby d9_5) rfl (XS.icmpNo X2.here hx rfl (hb hby d9_7) rfl (XT.ii_ge_f (by decide)) (XS.aloadN X2.here hx rfl (hb hby d9_10) rfl rfl (XS.iloadN X2.here hx rfl (hb hby d9_11) rfl k)))))))))) ?_
    obtain ⟨cl3, Ar3, q3, S3, M3, H3, G3⟩ := id (P0.other W2 ne_a1_a3)
    have hin3 : ¬ ((1 : Int32) < 0 ∨ cl3.slots.size ≤ ((1 : Int32)).toNatClampNeg) := inb_of S3 ⟨by decide, by decide⟩
    have hat3 : cl3.slots[((1 : Int32)).toNatClampNeg]? = some (.int c1) := H3.at hin3 rfl
    refine own_fw (A' := (T2.setTop (mkF m 25 #[rv a1, iv 1, rv a3, iv 1, iv 2, iv 1, iv c1] [.int 1]))) (fun t k => X2.caload hx (j := (1 : Int32)) (v := (.int c1)) (by rw [e2]; exact Ar3.1) (State.isArrayOf_alike hZ.alike Ar3.2.1) Ar3.2.2 hin3 hat3 (g := (mkF m 12 #[rv a1, iv 1, rv a3, iv 1, iv 2, iv 1, iv c0] [.int 1, .ref a1])) rfl rfl (hb hby d9_12) _ (XS.istore X2.here hx rfl (hb hby d9_13) rfl (l' := #[rv a1, iv 1, rv a3, iv 1, iv 2, iv 1, iv c1]) rfl (XS.iload X2.here hx rfl (hb hby d9_15) rfl (XS.sipush X2.here hx rfl (hb hby d9_17) (XS.icmpNo X2.here hx rfl (hb hby d9_20) rfl (XT.ii_le_f (hbig.resolve_left hc0)) (XS.iload X2.here hx rfl (hb hby d9_23) rfl k)))))) ?_
    obtain ⟨fs, hr, hrun, hended, hW, hsame⟩ := X2.leave (v := some (.int 1)) (fun h => by rw [Bd.returns] at h; cases h)
    refine ⟨_, _, ?_, hrun, hended, _, _, rfl, ?_, ⟨_, rfl⟩, hW, hsame.mono (by decide) (by decide)⟩
    · exact retOut X2 hx Bd.returns rfl (Or.inl ⟨rfl, by simp, _, rfl⟩) (hb hby d9_25) hr
    · show Q_rmCmpA2U Z a1 a3 kc kb c0 c1 h0 n0 _ T2.heap _
      rw [e2]
      exact ⟨(1 : Int32), rfl, Nf2, K2, ⟨by decide, (by decide : (1 : Int32) < (2 : Int32)), (hbig.resolve_left hc0)⟩⟩
theorem ef_rmCmpB2U (m : MethodId) (a1 : Addr) : entryFrame m #[(.ref a1), (.int 0), (.int 2)] 6 = mkF m 0 #[.val (.ref a1), .val (.int 0), .val (.int 2), .unset, .unset, .unset] [] := by first | (simp [entryFrame, mkF, argsToLocals, Value.category]; done) | rfl
def Q_rmCmpB2U (Z : State) (a1 : Addr) (kc : ClassId) (c0 c1 : Int32) (h0 : Heap) (n0 : Nat) (v : Option Value) (h : Heap) (L : List Loc) : Prop := ∃ b : Addr, ∃ kb : ClassId, v = some (.ref b) ∧ Fr n0 L ∧ Keep h0 h [] ∧ Arv Z h b kb .byte (4 : Int32) [(.int (own_lo c0)), (.int (own_hb c0)), (.int (own_lo c1)), (.int (own_hb c1))] (.int 0) ∧ (h0.size ≤ b)
theorem rmCmpB2U (l : Launch) (Z : State) (a0 : Array Value) (hw : ∀ d ∈ tables_1, d.before a0 Z = true) (ws : List Jvm.Cond) (a1 : Addr) (kc : ClassId) (c0 c1 : Int32) (h0 : Heap) (n0 : Nat) (Z0 : n0 ≤ h0.size) (P0 : Arv Z h0 a1 kc .char (2 : Int32) [(.int c0), (.int c1)] (.int 0)) (P1 : Sta Z h0 "java/lang/StringUTF16" "$assertionsDisabled" "Z" (.int 1)) (P2 : Sta Z h0 "java/lang/StringUTF16" "HI_BYTE_SHIFT" "I" (.int 0)) (P3 : Sta Z h0 "java/lang/StringUTF16" "LO_BYTE_SHIFT" "I" (.int 8)) (hbig : (255 : Int32) < c0 ∨ (255 : Int32) < c1) (hr0 : own_c16 c0) (hr1 : own_c16 c1) :
    MetFree l yq4 (head1 (Jvm.Cond.code yq4 jdk_52_method_16_code 6 (some (.array .byte)) :: ws) rq30) (fun a U => a = #[(.ref a1), (.int 0), (.int 2)] ∧ Z.Warmed39 U.vm ∧ U.heap = h0) (fun _ _ _ _ _ => True) (fun _ U o U' => ∃ v L, o = .returned v ∧ Q_rmCmpB2U Z a1 kc c0 c1 h0 n0 v U'.heap L ∧ FrameEnd U o U' L rq30.cells rq30.slots) := by
  refine MetFree.of_bodySF (plainFor_of_name pn_java_lang_StringUTF16) hisR ?_
  intro p e s m args below meth c s₁ Bd hml0 hP hK
  obtain ⟨rfl, hZ, hh⟩ := hP
  have hx := Bd.exec
  have hby := Bd.bytes
  have hml : c.maxLocals = 6 := hml0
  have hown : s.vm.findClass "java/lang/StringUTF16" = some m.cls := findClass_of_methodNamed Bd.named
  have hnm := (name_of_methodNamed Bd.named Bd.method).1
  have X0 : Stand p l e rq30 s m #[(.ref a1), (.int 0), (.int 2)] below meth c s₁ [] 0 0 := Stand.of_body Bd
  have e0 : s₁.heap = h0 := by rw [← hh, Bd.state]; rfl
  have N0 := Fr.nil n0
  refine own_fw (A' := (s₁.setTop (mkF m 1 #[rv a1, iv 0, iv 2, .unset, .unset, .unset] [.int 2]))) (fun t k => castTop (ef_rmCmpB2U m a1) (XS.iloadN X0.here hx rfl (hb hby d8_0) rfl k)) ?_
  obtain ⟨T1, h1, k1, X1, e1, E1, A1, st1⟩ := newP X0 hx hZ (own_w hw 37 rfl) e0 (g := (mkF m 1 #[rv a1, iv 0, iv 2, .unset, .unset, .unset] [.int 2])) rfl (hb hby d8_1) rfl (by decide) (cap := 2) (by decide) (by decide) (by decide) (by decide)
  obtain ⟨b1, gb1⟩ : ∃ z, z = h0.size := ⟨_, rfl⟩
  have g_b1 : n0 ≤ b1 := Nat.le_trans Z0 (Nat.le_of_eq gb1.symm)
  have sz_b1 : h0.size ≤ b1 := Nat.le_trans (Keep.refl h0 []).1 (Nat.le_of_eq gb1.symm)
  have ne_a1_b1 : a1 ≠ b1 := Nat.ne_of_lt (Nat.lt_of_lt_of_le P0.lt (Nat.le_of_eq gb1.symm))
  rw [← gb1] at A1 st1
  have V_b1 : Arv Z h1 b1 k1 .byte (2 : Int32) [(.int 0), (.int 0)] (.int 0) := (Arv.new A1 (by decide)).pad (pad_rep [] (.int 0) 2)
  have K1 : Keep h0 h1 [] := (Keep.refl h0 []).ext E1
  have Z1 : n0 ≤ h1.size := Nat.le_trans Z0 E1.1
  refine own_fw (A' := (T1.setTop (mkF m 9 #[rv a1, iv 0, iv 2, rv b1, .unset, .unset] [.int 2, .int 0, .ref b1, .int 0, .ref a1]))) (fun t k => st1 _ (XS.astoreN X1.here hx rfl (hb hby d8_3) rfl rfl (l' := #[rv a1, iv 0, iv 2, rv b1, .unset, .unset]) rfl (XS.aloadN X1.here hx rfl (hb hby d8_4) rfl rfl (XS.iloadN X1.here hx rfl (hb hby d8_5) rfl (XS.aloadN X1.here hx rfl (hb hby d8_6) rfl rfl (XS.iconst X1.here hx rfl (hb hby d8_7) (XS.iloadN X1.here hx rfl (hb hby d8_8) rfl k))))))) ?_
  obtain ⟨_, _, ⟨T2, L2, k2, n2⟩, -, X2, ⟨Lc2, hQ2, l2, y2, z2⟩, st2⟩ := Jvm.LawKit.callS X1 hx (y := yq2) hown (mvT hZ (own_w hw 38 rfl)) (mvT hZ (own_w hw 39 rfl)) (mvT hZ (own_w hw 35 rfl)) (mvT hZ (own_w hw 40 rfl)) (by decide) (backOf (W := 0) (rmCmpA2U l Z a0 hw [] a1 b1 kc k1 c0 c1 h1 n0 Z1 (P0.ext E1) V_b1 g_b1 ne_a1_b1 hbig) hZ (own_w hw 40 rfl) (own_w hw 35 rfl) (by decide) (by decide)) (g := (mkF m 9 #[rv a1, iv 0, iv 2, rv b1, .unset, .unset] [.int 2, .int 0, .ref b1, .int 0, .ref a1])) rfl (by rw [hml]; rfl) (argsL := [(.ref a1), (.int 0), (.ref b1), (.int 0), (.int 2)]) (rest := []) (lenOf pd___CI_BII_I rfl) rfl (by show 2 * 0 + _ ≤ _; exact Nat.le_of_eq rfl) (hb hby d8_9) (fun _ _ => ⟨rfl, e1, (by decide : 1 + 0 ≤ _), (by decide : 2 + 0 ≤ _)⟩)
  dsimp only [Pt.U, Pt.locs, Pt.cells, Pt.slots] at X2 l2 y2 z2 st2 hQ2
  subst l2 y2 z2
  obtain ⟨r_2, rfl, Nq2, Kq2, hk_2⟩ := hQ2
  have Nf2 := Fr.app N0 Nq2
  have K2 : Keep h0 T2.heap [] := K1.trans Kq2 (allS (Or.inr sz_b1) all0)
  have Z2 : n0 ≤ T2.heap.size := Nat.le_trans Z1 Kq2.1
  refine own_fw (A' := (T2.setTop (mkF m 23 #[rv a1, iv 0, iv 2, rv b1, iv r_2, .unset] [.int 2, .int 0, .ref a1]))) (fun t k => st2 _ (XS.istore X2.here hx rfl (hb hby d8_12) rfl (l' := #[rv a1, iv 0, iv 2, rv b1, iv r_2, .unset]) rfl (XS.iload X2.here hx rfl (hb hby d8_14) rfl (XS.iloadN X2.here hx rfl (hb hby d8_16) rfl (XS.icmpNo X2.here hx rfl (hb hby d8_17) rfl (XT.ii_eq_f (own_bne hk_2)) (XS.aloadN X2.here hx rfl (hb hby d8_20) rfl rfl (XS.iloadN X2.here hx rfl (hb hby d8_21) rfl (XS.iloadN X2.here hx rfl (hb hby d8_22) rfl k)))))))) ?_
  obtain ⟨_, _, ⟨T3, L3, k3, n3⟩, -, X3, ⟨Lc3, hQ3, l3, y3, z3⟩, st3⟩ := Jvm.LawKit.callS X2 hx (y := yq24) hown (mvT hZ (own_w hw 41 rfl)) (mvT hZ (own_w hw 42 rfl)) (mvT hZ (own_w hw 35 rfl)) (mvT hZ (own_w hw 43 rfl)) (by decide) (backOf (W := 0) (rmToB2 l Z a0 hw [] a1 kc c0 c1 T2.heap n0 Z2 ((P0.ext E1).keep Kq2 (ninS ne_a1_b1 nin0)) (own_staKeep (P1.ext E1) Kq2 (allS (own_plainV V_b1) all0)) (own_staKeep (P2.ext E1) Kq2 (allS (own_plainV V_b1) all0)) (own_staKeep (P3.ext E1) Kq2 (allS (own_plainV V_b1) all0))) hZ (own_w hw 43 rfl) (own_w hw 35 rfl) (by decide) (by decide)) (g := (mkF m 23 #[rv a1, iv 0, iv 2, rv b1, iv r_2, .unset] [.int 2, .int 0, .ref a1])) rfl (by rw [hml]; rfl) (argsL := [(.ref a1), (.int 0), (.int 2)]) (rest := []) (lenOf pd___CII__B rfl) rfl (by show 2 * 0 + _ ≤ _; exact Nat.le_of_eq rfl) (hb hby d8_23) (fun _ _ => ⟨rfl, rfl, (by decide : 1 + 1 ≤ _), (by decide : 2 + 4 ≤ _)⟩)
  dsimp only [Pt.U, Pt.locs, Pt.cells, Pt.slots] at X3 l3 y3 z3 st3 hQ3
  subst l3 y3 z3
  obtain ⟨b_3, kb_3, rfl, Nq3, Kq3, Fq3_0, gb_3⟩ := hQ3
  have Nf3 := Fr.app Nf2 Nq3
  have K3 : Keep h0 T3.heap [] := K2.trans Kq3 all0
  have sz_b_3 : h0.size ≤ b_3 := Nat.le_trans K2.1 gb_3
  have g_b_3 : n0 ≤ b_3 := Nat.le_trans Z2 gb_3
  have ne_a1_b_3 : a1 ≠ b_3 := Nat.ne_of_lt (Nat.lt_of_lt_of_le ((P0.ext E1).keep Kq2 (ninS ne_a1_b1 nin0)).lt gb_3)
  have Z3 : n0 ≤ T3.heap.size := Nat.le_trans Z2 Kq3.1
  refine own_fw (A' := (T3.setTop (mkF m 32 #[rv a1, iv 0, iv 2, rv b1, iv r_2, rv b_3] [.int r_2, .ref b_3]))) (fun t k => st3 _ (XS.astore X3.here hx rfl (hb hby d8_26) rfl rfl (l' := #[rv a1, iv 0, iv 2, rv b1, iv r_2, rv b_3]) rfl (XS.aload X3.here hx rfl (hb hby d8_28) rfl rfl (XS.iload X3.here hx rfl (hb hby d8_30) rfl k)))) ?_
  obtain ⟨_, _, ⟨T4, L4, k4, n4⟩, -, X4, ⟨Lc4, hQ4, l4, y4, z4⟩, st4⟩ := Jvm.LawKit.callS X3 hx (y := yq1) hown (mvT hZ (own_w hw 57 rfl)) (mvT hZ (own_w hw 58 rfl)) (mvT hZ (own_w hw 35 rfl)) (mvT hZ (own_w hw 59 rfl)) (by decide) (backOf (W := 0) (rmGet l Z a0 hw [] b_3 kb_3 ([c0, c1]) r_2 T3.heap n0 Z3 Fq3_0 (own_staKeep (own_staKeep (P1.ext E1) Kq2 (allS (own_plainV V_b1) all0)) Kq3 all0) (own_staKeep (own_staKeep (P2.ext E1) Kq2 (allS (own_plainV V_b1) all0)) Kq3 all0) (own_staKeep (own_staKeep (P3.ext E1) Kq2 (allS (own_plainV V_b1) all0)) Kq3 all0) (own_fine2 hr0 hr1) hk_2.1 hk_2.2.1) hZ (own_w hw 59 rfl) (own_w hw 35 rfl) (by decide) (by decide)) (g := (mkF m 32 #[rv a1, iv 0, iv 2, rv b1, iv r_2, rv b_3] [.int r_2, .ref b_3])) rfl (by rw [hml]; rfl) (argsL := [(.ref b_3), (.int r_2)]) (rest := []) (lenOf pd___BI_C rfl) rfl (by show 2 * 0 + _ ≤ _; exact Nat.le_of_eq rfl) (hb hby d8_32) (fun _ _ => ⟨rfl, rfl, (by decide : 2 + 0 ≤ _), (by decide : 6 + 0 ≤ _)⟩)
  dsimp only [Pt.U, Pt.locs, Pt.cells, Pt.slots] at X4 l4 y4 z4 st4 hQ4
  subst l4 y4 z4
  obtain ⟨rfl, Nq4, e4⟩ := hQ4
  have Nf4 := Fr.app Nf3 Nq4
  refine own_fw (A' := (T4.setTop (mkF m 56 #[rv a1, iv 0, iv 2, rv b1, iv r_2, rv b_3] [.ref b_3]))) (fun t k => st4 _ (XS.sipush X4.here hx rfl (hb hby d8_35) (XS.icmpYes X4.here hx rfl (pc0 := 38) (pc' := 54) rfl (hb hby d8_38) rfl (XT.ii_gt_t hk_2.2.2) (by decide) (by decide) (XS.aload X4.here hx rfl (hb hby d8_54) rfl rfl k)))) ?_
  obtain ⟨fs, hr, hrun, hended, hW, hsame⟩ := X4.leave (v := some (.ref b_3)) (fun h => by rw [Bd.returns] at h; cases h)
  refine ⟨_, _, ?_, hrun, hended, _, _, rfl, ?_, ⟨_, rfl⟩, hW, hsame.mono (by decide) (by decide)⟩
  · exact retOut X4 hx Bd.returns rfl (Or.inr (Or.inr (Or.inr (Or.inr ⟨rfl, rfl, rfl⟩)))) (hb hby d8_56) hr
  · show Q_rmCmpB2U Z a1 kc c0 c1 h0 n0 _ T4.heap _
    rw [e4]
    exact ⟨b_3, kb_3, rfl, Nf4, K3, Fq3_0, sz_b_3⟩
theorem ef_rmStrB2U (m : MethodId) (a1 a2 : Addr) : entryFrame m #[(.ref a1), (.ref a2), (.int 0), (.int 2), .null] 6 = mkF m 0 #[.val (.ref a1), .val (.ref a2), .val (.int 0), .val (.int 2), .val .null, .unset] [] := by first | (simp [entryFrame, mkF, argsToLocals, Value.category]; done) | rfl
def Q_rmStrB2U (Z : State) (a1 a2 : Addr) (kc : ClassId) (cs c0 c1 : Int32) (h0 : Heap) (n0 : Nat) (v : Option Value) (h : Heap) (L : List Loc) : Prop := ∃ b : Addr, ∃ kb : ClassId, v = none ∧ Fr n0 L ∧ Keep h0 h [a1] ∧ Exa Z h a1 "java/lang/String" ∧ Fld Z h a1 "java/lang/String" "coder" "B" (.int 1) ∧ Fld Z h a1 "java/lang/String" "value" "[B" (.ref b) ∧ Arv Z h b kb .byte (4 : Int32) [(.int (own_lo c0)), (.int (own_hb c0)), (.int (own_lo c1)), (.int (own_hb c1))] (.int 0)
theorem rmStrB2U (l : Launch) (Z : State) (a0 : Array Value) (hw : ∀ d ∈ tables_1, d.before a0 Z = true) (ws : List Jvm.Cond) (a1 a2 : Addr) (kc : ClassId) (cs c0 c1 : Int32) (h0 : Heap) (n0 : Nat) (Z0 : n0 ≤ h0.size) (P0 : Exa Z h0 a1 "java/lang/String") (P1 : Fld Z h0 a1 "java/lang/String" "coder" "B" (.int 0)) (P2 : Fld Z h0 a1 "java/lang/String" "value" "[B" .null) (P3 : Arv Z h0 a2 kc .char (2 : Int32) [(.int c0), (.int c1)] (.int 0)) (g_a1 : n0 ≤ a1) (ne_a1_a2 : a1 ≠ a2) (P6 : Sta Z h0 "java/lang/String" "COMPACT_STRINGS" "Z" (.int cs)) (hcs : ¬ (cs = (0 : Int32))) (P8 : Sta Z h0 "java/lang/StringUTF16" "$assertionsDisabled" "Z" (.int 1)) (P9 : Sta Z h0 "java/lang/StringUTF16" "HI_BYTE_SHIFT" "I" (.int 0)) (P10 : Sta Z h0 "java/lang/StringUTF16" "LO_BYTE_SHIFT" "I" (.int 8)) (hbig : (255 : Int32) < c0 ∨ (255 : Int32) < c1) (hr0 : own_c16 c0) (hr1 : own_c16 c1) :
    MetFree l yq7 (head1 (Jvm.Cond.code yq7 jdk_42_method_149_code 6 none :: ws) rq31) (fun a U => a = #[(.ref a1), (.ref a2), (.int 0), (.int 2), .null] ∧ Z.Warmed39 U.vm ∧ U.heap = h0) (fun _ _ _ _ _ => True) (fun _ U o U' => ∃ v L, o = .returned v ∧ Q_rmStrB2U Z a1 a2 kc cs c0 c1 h0 n0 v U'.heap L ∧ FrameEnd U o U' L rq31.cells rq31.slots) := by
  refine MetFree.of_bodySF (plainFor_of_name pn_java_lang_String) hisR ?_
  intro p e s m args below meth c s₁ Bd hml0 hP hK
  obtain ⟨rfl, hZ, hh⟩ := hP
  have hx := Bd.exec
  have hby := Bd.bytes
  have hml : c.maxLocals = 6 := hml0
  have hown : s.vm.findClass "java/lang/String" = some m.cls := findClass_of_methodNamed Bd.named
  have hnm := (name_of_methodNamed Bd.named Bd.method).1
  have X0 : Stand p l e rq31 s m #[(.ref a1), (.ref a2), (.int 0), (.int 2), .null] below meth c s₁ [] 0 0 := Stand.of_body Bd
  have e0 : s₁.heap = h0 := by rw [← hh, Bd.state]; rfl
  have N0 := Fr.nil n0
  refine own_fw (A' := (s₁.setTop (mkF m 1 #[rv a1, rv a2, iv 0, iv 2, .val (.null), .unset] [.ref a1]))) (fun t k => castTop (ef_rmStrB2U m a1 a2) (XS.aloadN X0.here hx rfl (hb hby d6_0) rfl rfl k)) ?_
  obtain ⟨T1, X1, e1, st1⟩ := initO X0 hx hZ hown (own_w hw 29 rfl) (own_w hw 30 rfl) (own_w hw 31 rfl) e0 (g := (mkF m 1 #[rv a1, rv a2, iv 0, iv 2, .val (.null), .unset] [.ref a1])) rfl (by rw [hml]; rfl) rfl (hb hby d6_1) (by decide) (W := 0) (by show 2 * 0 + _ ≤ _; exact Nat.le_of_eq rfl) (by decide)
  refine own_fw (A' := (T1.setTop (mkF m 27 #[rv a1, rv a2, iv 0, iv 2, .val (.null), .unset] []))) (fun t k => st1 _ (XS.iloadN X1.here hx rfl (hb hby d6_4) rfl (XS.ifYes X1.here hx rfl (pc0 := 5) (pc' := 27) rfl (hb hby d6_5) rfl (XT.i0_ne_t (by decide)) (by decide) (by decide) k))) ?_
  obtain ⟨T2, X2, e2, st2⟩ := getS2 X1 hx hZ hown (host := "") (Or.inl (own_w hw 32 rfl)) Via.refl e1 P6 (g := (mkF m 27 #[rv a1, rv a2, iv 0, iv 2, .val (.null), .unset] [])) rfl (hb hby d6_27)
  refine own_fw (A' := (T2.setTop (mkF m 36 #[rv a1, rv a2, iv 0, iv 2, .val (.null), .unset] [.int 2, .int 0, .ref a2]))) (fun t k => st2 _ (XS.ifNo X2.here hx rfl (hb hby d6_30) rfl (XT.i0_eq_f hcs) (XS.aloadN X2.here hx rfl (hb hby d6_33) rfl rfl (XS.iloadN X2.here hx rfl (hb hby d6_34) rfl (XS.iloadN X2.here hx rfl (hb hby d6_35) rfl k))))) ?_
  obtain ⟨_, _, ⟨T3, L3, k3, n3⟩, -, X3, ⟨Lc3, hQ3, l3, y3, z3⟩, st3⟩ := Jvm.LawKit.callS X2 hx (y := yq4) hown (mvT hZ (own_w hw 33 rfl)) (mvT hZ (own_w hw 34 rfl)) (mvT hZ (own_w hw 35 rfl)) (mvT hZ (own_w hw 36 rfl)) (by decide) (backOf (W := 0) (rmCmpB2U l Z a0 hw [] a2 kc c0 c1 h0 n0 Z0 P3 P8 P9 P10 hbig hr0 hr1) hZ (own_w hw 36 rfl) (own_w hw 35 rfl) (by decide) (by decide)) (g := (mkF m 36 #[rv a1, rv a2, iv 0, iv 2, .val (.null), .unset] [.int 2, .int 0, .ref a2])) rfl (by rw [hml]; rfl) (argsL := [(.ref a2), (.int 0), (.int 2)]) (rest := []) (lenOf pd___CII__B rfl) rfl (by show 2 * 0 + _ ≤ _; exact Nat.le_of_eq rfl) (hb hby d6_36) (fun _ _ => ⟨rfl, e2, (by decide : 0 + 2 ≤ _), (by decide : 0 + 6 ≤ _)⟩)
  dsimp only [Pt.U, Pt.locs, Pt.cells, Pt.slots] at X3 l3 y3 z3 st3 hQ3
  subst l3 y3 z3
  obtain ⟨b_3, kb_3, rfl, Nq3, Kq3, Fq3_0, gb_3⟩ := hQ3
  have Nf3 := Fr.app N0 Nq3
  have K3 : Keep h0 T3.heap [a1] := (Keep.refl h0 [a1]).trans Kq3 all0
  have sz_b_3 : h0.size ≤ b_3 := Nat.le_trans (Keep.refl h0 [a1]).1 gb_3
  have g_b_3 : n0 ≤ b_3 := Nat.le_trans Z0 gb_3
  have ne_a1_b_3 : a1 ≠ b_3 := Nat.ne_of_lt (Nat.lt_of_lt_of_le P0.lt gb_3)
  have ne_a2_b_3 : a2 ≠ b_3 := Nat.ne_of_lt (Nat.lt_of_lt_of_le P3.lt gb_3)
  have Z3 : n0 ≤ T3.heap.size := Nat.le_trans Z0 Kq3.1
  refine own_fw (A' := (T3.setTop (mkF m 45 #[rv a1, rv a2, iv 0, iv 2, .val (.null), rv b_3] [.int 2, .ref b_3, .ref a1]))) (fun t k => st3 _ (XS.astore X3.here hx rfl (hb hby d6_39) rfl rfl (l' := #[rv a1, rv a2, iv 0, iv 2, .val (.null), rv b_3]) rfl (XS.aloadN X3.here hx rfl (hb hby d6_41) rfl rfl (XS.aload X3.here hx rfl (hb hby d6_42) rfl rfl (XS.iloadN X3.here hx rfl (hb hby d6_44) rfl k))))) ?_
  obtain ⟨_, _, ⟨T4, L4, k4, n4⟩, -, X4, ⟨Lc4, hQ4, l4, y4, z4⟩, st4⟩ := Jvm.LawKit.callS X3 hx (y := yq5) hown (mvT hZ (own_w hw 60 rfl)) (mvT hZ (own_w hw 61 rfl)) (mvT hZ (own_w hw 35 rfl)) (mvT hZ (own_w hw 62 rfl)) (by decide) (backOf (W := 1) (rmCoderU2 l Z a0 hw [] b_3 kb_3 (own_lo c0) (own_hb c0) (own_lo c1) (own_hb c1) T3.heap n0 Z3 Fq3_0) hZ (own_w hw 62 rfl) (own_w hw 35 rfl) (by decide) (by decide)) (g := (mkF m 45 #[rv a1, rv a2, iv 0, iv 2, .val (.null), rv b_3] [.int 2, .ref b_3, .ref a1])) rfl (by rw [hml]; rfl) (argsL := [(.ref b_3), (.int 2)]) (rest := [(.ref a1)]) (lenOf pd___BI_B rfl) rfl (by show 2 * 0 + _ ≤ _; exact Nat.le_of_eq rfl) (hb hby d6_45) (fun _ _ => ⟨rfl, rfl, (by decide : 2 + 0 ≤ _), (by decide : 6 + 0 ≤ _)⟩)
  dsimp only [Pt.U, Pt.locs, Pt.cells, Pt.slots] at X4 l4 y4 z4 st4 hQ4
  subst l4 y4 z4
  obtain ⟨rfl, Nq4, e4⟩ := hQ4
  have Nf4 := Fr.app Nf3 Nq4
  refine own_fw (A' := (T4.setTop (mkF m 48 #[rv a1, rv a2, iv 0, iv 2, .val (.null), rv b_3] [.int 1, .ref a1]))) (fun t k => st4 _ k) ?_
  obtain ⟨T5, h5, X5, e5, W5, st5⟩ := putFN X4 hx hZ hown (own_w hw 63 rfl) Via.refl e4 (P1.keep Kq3 nin0) (P0.keep Kq3) (Or.inr ⟨(own_w hw 64 rfl), rfl, hnm⟩) (own_w hw 20 rfl) (ty := .byte) (v' := (.int 1)) (by decide) rfl rfl (g := (mkF m 48 #[rv a1, rv a2, iv 0, iv 2, .val (.null), rv b_3] [.int 1, .ref a1])) rfl rfl (hb hby d6_48)
  have Fw5 : Fld Z h5 a1 "java/lang/String" "coder" "B" (.int 1) := (P1.keep Kq3 nin0).same W5
  have Nf5 := Fr.snoc X5 Nf4 g_a1
  have K5 : Keep h0 h5 [a1] := K3.wr W5 (Or.inl (List.mem_of_getElem? (i := 0) rfl))
  have Z5 : n0 ≤ h5.size := Nat.le_trans Z3 (Keep.of_wr W5).1
  refine own_fw (A' := (T5.setTop (mkF m 54 #[rv a1, rv a2, iv 0, iv 2, .val (.null), rv b_3] [.ref b_3, .ref a1]))) (fun t k => st5 _ (XS.aloadN X5.here hx rfl (hb hby d6_51) rfl rfl (XS.aload X5.here hx rfl (hb hby d6_52) rfl rfl k))) ?_
  obtain ⟨T6, h6, X6, e6, W6, st6⟩ := putF X5 hx hZ hown (host := "") (Or.inl (own_w hw 65 rfl)) Via.refl e5 ((P2.keep Kq3 nin0).other W5 (Or.inr (slot_ne (Or.inr (own_w hw 66 rfl)) (Or.inr (own_w hw 64 rfl)) (by decide) (t := (.array .byte)) (t' := .byte) (by decide) (by decide)))) ((P0.keep Kq3).wr W5) (Or.inr ⟨(own_w hw 66 rfl), rfl, hnm⟩) (own_w hw 20 rfl) (ty := (.array .byte)) (by decide) rfl rfl (g := (mkF m 54 #[rv a1, rv a2, iv 0, iv 2, .val (.null), rv b_3] [.ref b_3, .ref a1])) rfl rfl (hb hby d6_54)
  have Fw6 : Fld Z h6 a1 "java/lang/String" "value" "[B" (.ref b_3) := ((P2.keep Kq3 nin0).other W5 (Or.inr (slot_ne (Or.inr (own_w hw 66 rfl)) (Or.inr (own_w hw 64 rfl)) (by decide) (t := (.array .byte)) (t' := .byte) (by decide) (by decide)))).same W6
  have Nf6 := Fr.snoc X6 Nf5 g_a1
  have K6 : Keep h0 h6 [a1] := K5.wr W6 (Or.inl (List.mem_of_getElem? (i := 0) rfl))
  have Z6 : n0 ≤ h6.size := Nat.le_trans Z5 (Keep.of_wr W6).1
  refine own_fw (A' := (T6.setTop (mkF m 57 #[rv a1, rv a2, iv 0, iv 2, .val (.null), rv b_3] []))) (fun t k => st6 _ k) ?_
  obtain ⟨fs, hr, hrun, hended, hW, hsame⟩ := X6.leave (v := none) (fun _ => rfl)
  refine ⟨_, _, ?_, hrun, hended, _, _, rfl, ?_, ⟨_, rfl⟩, hW, hsame.mono (by decide) (by decide)⟩
  · exact X6.returnOut hx Bd.returns (hb hby d6_57) hr
  · show Q_rmStrB2U Z a1 a2 kc cs c0 c1 h0 n0 _ T6.heap _
    rw [e6]
    exact ⟨b_3, kb_3, rfl, Nf6, K6, (((P0.keep Kq3).wr W5).wr W6), (Fw5.other W6 (Or.inr (slot_ne (Or.inr (own_w hw 64 rfl)) (Or.inr (own_w hw 66 rfl)) (by decide) (t := .byte) (t' := (.array .byte)) (by decide) (by decide)))), Fw6, ((Fq3_0.other W5 (Ne.symm ne_a1_b_3)).other W6 (Ne.symm ne_a1_b_3))⟩
theorem ef_rmStrA2U (m : MethodId) (a1 a2 : Addr) : entryFrame m #[(.ref a1), (.ref a2)] 2 = mkF m 0 #[.val (.ref a1), .val (.ref a2)] [] := by first | (simp [entryFrame, mkF, argsToLocals, Value.category]; done) | rfl
def Q_rmStrA2U (Z : State) (a1 a2 : Addr) (kc : ClassId) (cs c0 c1 : Int32) (h0 : Heap) (n0 : Nat) (v : Option Value) (h : Heap) (L : List Loc) : Prop := ∃ b : Addr, ∃ kb : ClassId, v = none ∧ Fr n0 L ∧ Keep h0 h [a1] ∧ Exa Z h a1 "java/lang/String" ∧ Fld Z h a1 "java/lang/String" "coder" "B" (.int 1) ∧ Fld Z h a1 "java/lang/String" "value" "[B" (.ref b) ∧ Arv Z h b kb .byte (4 : Int32) [(.int (own_lo c0)), (.int (own_hb c0)), (.int (own_lo c1)), (.int (own_hb c1))] (.int 0)
theorem rmStrA2U (l : Launch) (Z : State) (a0 : Array Value) (hw : ∀ d ∈ tables_1, d.before a0 Z = true) (ws : List Jvm.Cond) (a1 a2 : Addr) (kc : ClassId) (cs c0 c1 : Int32) (h0 : Heap) (n0 : Nat) (Z0 : n0 ≤ h0.size) (P0 : Exa Z h0 a1 "java/lang/String") (P1 : Fld Z h0 a1 "java/lang/String" "coder" "B" (.int 0)) (P2 : Fld Z h0 a1 "java/lang/String" "value" "[B" .null) (P3 : Arv Z h0 a2 kc .char (2 : Int32) [(.int c0), (.int c1)] (.int 0)) (g_a1 : n0 ≤ a1) (ne_a1_a2 : a1 ≠ a2) (P6 : Sta Z h0 "java/lang/String" "COMPACT_STRINGS" "Z" (.int cs)) (hcs : ¬ (cs = (0 : Int32))) (P8 : Sta Z h0 "java/lang/StringUTF16" "$assertionsDisabled" "Z" (.int 1)) (P9 : Sta Z h0 "java/lang/StringUTF16" "HI_BYTE_SHIFT" "I" (.int 0)) (P10 : Sta Z h0 "java/lang/StringUTF16" "LO_BYTE_SHIFT" "I" (.int 8)) (hbig : (255 : Int32) < c0 ∨ (255 : Int32) < c1) (hr0 : own_c16 c0) (hr1 : own_c16 c1) :
    MetFree l yq9 (head1 (Jvm.Cond.code yq9 jdk_42_method_3_code 2 none :: ws) rq32) (fun a U => a = #[(.ref a1), (.ref a2)] ∧ Z.Warmed39 U.vm ∧ U.heap = h0) (fun _ _ _ _ _ => True) (fun _ U o U' => ∃ v L, o = .returned v ∧ Q_rmStrA2U Z a1 a2 kc cs c0 c1 h0 n0 v U'.heap L ∧ FrameEnd U o U' L rq32.cells rq32.slots) := by
  refine MetFree.of_bodySF (plainFor_of_name pn_java_lang_String) hisR ?_
  intro p e s m args below meth c s₁ Bd hml0 hP hK
  obtain ⟨rfl, hZ, hh⟩ := hP
  have hx := Bd.exec
  have hby := Bd.bytes
  have hml : c.maxLocals = 2 := hml0
  have hown : s.vm.findClass "java/lang/String" = some m.cls := findClass_of_methodNamed Bd.named
  have hnm := (name_of_methodNamed Bd.named Bd.method).1
  have X0 : Stand p l e rq32 s m #[(.ref a1), (.ref a2)] below meth c s₁ [] 0 0 := Stand.of_body Bd
  have e0 : s₁.heap = h0 := by rw [← hh, Bd.state]; rfl
  have N0 := Fr.nil n0
  refine own_fw (A' := (s₁.setTop (mkF m 4 #[rv a1, rv a2] [.ref a2, .int 0, .ref a2, .ref a1]))) (fun t k => castTop (ef_rmStrA2U m a1 a2) (XS.aloadN X0.here hx rfl (hb hby d5_0) rfl rfl (XS.aloadN X0.here hx rfl (hb hby d5_1) rfl rfl (XS.iconst X0.here hx rfl (hb hby d5_2) (XS.aloadN X0.here hx rfl (hb hby d5_3) rfl rfl k))))) ?_
  obtain ⟨cl1, Ar1, q1, S1, M1, H1, G1⟩ := id P3
  refine own_fw (A' := (s₁.setTop (mkF m 5 #[rv a1, rv a2] [.int 2, .int 0, .ref a2, .ref a1]))) (fun t k => X0.arraylength hx (by rw [e0]; exact Ar1.1) (State.isArrayOf_alike hZ.alike Ar1.2.1) (g := (mkF m 4 #[rv a1, rv a2] [.ref a2, .int 0, .ref a2, .ref a1])) rfl rfl (hb hby d5_4) _ (by rw [len_of S1 M1]; exact k)) ?_
  refine own_fw (A' := (s₁.setTop (mkF m 6 #[rv a1, rv a2] [.null, .int 2, .int 0, .ref a2, .ref a1]))) (fun t k => XS.aconstNull X0.here hx rfl (hb hby d5_5) k) ?_
  obtain ⟨_, _, ⟨T2, L2, k2, n2⟩, -, X2, ⟨Lc2, hQ2, l2, y2, z2⟩, st2⟩ := X0.specialBack hx (y := yq7) rfl hown (mvT hZ (own_w hw 25 rfl)) (mvT hZ (own_w hw 26 rfl)) (mvT hZ (own_w hw 28 rfl)) (by decide) (backOf (W := 0) (rmStrB2U l Z a0 hw [] a1 a2 kc cs c0 c1 h0 n0 Z0 P0 P1 P2 P3 g_a1 ne_a1_a2 P6 hcs P8 P9 P10 hbig hr0 hr1) hZ (own_w hw 28 rfl) (own_w hw 21 rfl) (by decide) (by decide)) (g := (mkF m 6 #[rv a1, rv a2] [.null, .int 2, .int 0, .ref a2, .ref a1])) rfl (by rw [hml]; rfl) (Steps.refl _) (a := a1) (argsL := [(.ref a2), (.int 0), (.int 2), .null]) (rest := []) (lenOf pd___CIILjava_lang_Void__V rfl) rfl (by show 2 * 0 + _ ≤ _; exact Nat.le_of_eq rfl) (hb hby d5_6) (fun _ _ => ⟨rfl, e0, (by decide : 0 + 2 ≤ _), (by decide : 0 + 6 ≤ _)⟩)
  dsimp only [Pt.U, Pt.locs, Pt.cells, Pt.slots] at X2 l2 y2 z2 st2 hQ2
  subst l2 y2 z2
  obtain ⟨b_2, kb_2, rfl, Nq2, Kq2, Fq2_0, Fq2_1, Fq2_2, Fq2_3⟩ := hQ2
  have Nf2 := Fr.app N0 Nq2
  have K2 : Keep h0 T2.heap [a1] := (Keep.refl h0 [a1]).trans Kq2 (allS (Or.inl (List.mem_of_getElem? (i := 0) rfl)) all0)
  have Z2 : n0 ≤ T2.heap.size := Nat.le_trans Z0 Kq2.1
  refine own_fw (A' := (T2.setTop (mkF m 9 #[rv a1, rv a2] []))) (fun t k => st2.trans k) ?_
  obtain ⟨fs, hr, hrun, hended, hW, hsame⟩ := X2.leave (v := none) (fun _ => rfl)
  refine ⟨_, _, ?_, hrun, hended, _, _, rfl, ?_, ⟨_, rfl⟩, hW, hsame.mono (by decide) (by decide)⟩
  · exact X2.returnOut hx Bd.returns (hb hby d5_9) hr
  · show Q_rmStrA2U Z a1 a2 kc cs c0 c1 h0 n0 _ T2.heap _
    exact ⟨b_2, kb_2, rfl, Nf2, K2, Fq2_0, Fq2_1, Fq2_2, Fq2_3⟩
theorem ef_rmNBL3 (m : MethodId) : entryFrame m #[(.int 3)] 1 = mkF m 0 #[.val (.int 3)] [] := by first | (simp [entryFrame, mkF, argsToLocals, Value.category]; done) | rfl
def Q_rmNBL3 (Z : State) (h0 : Heap) (n0 : Nat) (v : Option Value) (h : Heap) (L : List Loc) : Prop := v = some (.int 6) ∧ Fr n0 L ∧ h = h0
theorem rmNBL3 (l : Launch) (Z : State) (a0 : Array Value) (hw : ∀ d ∈ tables_1, d.before a0 Z = true) (ws : List Jvm.Cond) (h0 : Heap) (n0 : Nat) (Z0 : n0 ≤ h0.size)  :
    MetFree l yq19 (head1 (Jvm.Cond.code yq19 jdk_52_method_3_code 1 (some .int) :: ws) rq0) (fun a U => a = #[(.int 3)] ∧ Z.Warmed39 U.vm ∧ U.heap = h0) (fun _ _ _ _ _ => True) (fun _ U o U' => ∃ v L, o = .returned v ∧ Q_rmNBL3 Z  h0 n0 v U'.heap L ∧ FrameEnd U o U' L rq0.cells rq0.slots) := by
  refine MetFree.of_bodySF (plainFor_of_name pn_java_lang_StringUTF16) hisR ?_
  intro p e s m args below meth c s₁ Bd hml0 hP hK
  obtain ⟨rfl, hZ, hh⟩ := hP
  have hx := Bd.exec
  have hby := Bd.bytes
  have hml : c.maxLocals = 1 := hml0
  have hown : s.vm.findClass "java/lang/StringUTF16" = some m.cls := findClass_of_methodNamed Bd.named
  have hnm := (name_of_methodNamed Bd.named Bd.method).1
  have X0 : Stand p l e rq0 s m #[(.int 3)] below meth c s₁ [] 0 0 := Stand.of_body Bd
  have e0 : s₁.heap = h0 := by rw [← hh, Bd.state]; rfl
  have N0 := Fr.nil n0
  refine own_fw (A' := (s₁.setTop (mkF m 58 #[iv 3] [.int 6]))) (fun t k => castTop (ef_rmNBL3 m) (XS.iloadN X0.here hx rfl (hb hby d12_0) rfl (XS.ifYes X0.here hx rfl (pc0 := 1) (pc' := 12) rfl (hb hby d12_1) rfl (XT.i0_ge_t (by decide)) (by decide) (by decide) (XS.iloadN X0.here hx rfl (hb hby d12_12) rfl (X0.ldcInt hx hown (mvT hZ (own_w hw 50 rfl)) (g := (mkF m 13 #[iv 3] [.int 3])) rfl (hb hby d12_13) _ (XS.icmpYes X0.here hx rfl (pc0 := 15) (pc' := 55) rfl (hb hby d12_15) rfl (XT.ii_lt_t (by decide)) (by decide) (by decide) (XS.iloadN X0.here hx rfl (hb hby d12_55) rfl (XS.iconst X0.here hx rfl (hb hby d12_56) (XS.ishl X0.here hx rfl (hb hby d12_57) rfl k))))))))) ?_
  obtain ⟨fs, hr, hrun, hended, hW, hsame⟩ := X0.leave (v := some (.int 6)) (fun h => by rw [Bd.returns] at h; cases h)
  refine ⟨_, _, ?_, hrun, hended, _, _, rfl, ?_, ⟨_, rfl⟩, hW, hsame.mono (by decide) (by decide)⟩
  · exact retOut X0 hx Bd.returns rfl (Or.inl ⟨rfl, by simp, _, rfl⟩) (hb hby d12_58) hr
  · show Q_rmNBL3 Z  h0 n0 _ s₁.heap _
    rw [e0]
    exact ⟨rfl, N0, rfl⟩
theorem ef_rmNBF3 (m : MethodId) : entryFrame m #[(.int 3)] 1 = mkF m 0 #[.val (.int 3)] [] := by first | (simp [entryFrame, mkF, argsToLocals, Value.category]; done) | rfl
def Q_rmNBF3 (Z : State) (h0 : Heap) (n0 : Nat) (v : Option Value) (h : Heap) (L : List Loc) : Prop := ∃ b : Addr, ∃ kb : ClassId, v = some (.ref b) ∧ Fr n0 L ∧ Keep h0 h [] ∧ Arv Z h b kb .byte (6 : Int32) [(.int 0), (.int 0), (.int 0), (.int 0), (.int 0), (.int 0)] (.int 0) ∧ (h0.size ≤ b)
theorem rmNBF3 (l : Launch) (Z : State) (a0 : Array Value) (hw : ∀ d ∈ tables_1, d.before a0 Z = true) (ws : List Jvm.Cond) (h0 : Heap) (n0 : Nat) (Z0 : n0 ≤ h0.size)  :
    MetFree l yq21 (head1 (Jvm.Cond.code yq21 jdk_52_method_2_code 1 (some (.array .byte)) :: ws) rq33) (fun a U => a = #[(.int 3)] ∧ Z.Warmed39 U.vm ∧ U.heap = h0) (fun _ _ _ _ _ => True) (fun _ U o U' => ∃ v L, o = .returned v ∧ Q_rmNBF3 Z  h0 n0 v U'.heap L ∧ FrameEnd U o U' L rq33.cells rq33.slots) := by
  refine MetFree.of_bodySF (plainFor_of_name pn_java_lang_StringUTF16) hisR ?_
  intro p e s m args below meth c s₁ Bd hml0 hP hK
  obtain ⟨rfl, hZ, hh⟩ := hP
  have hx := Bd.exec
  have hby := Bd.bytes
  have hml : c.maxLocals = 1 := hml0
  have hown : s.vm.findClass "java/lang/StringUTF16" = some m.cls := findClass_of_methodNamed Bd.named
  have hnm := (name_of_methodNamed Bd.named Bd.method).1
  have X0 : Stand p l e rq33 s m #[(.int 3)] below meth c s₁ [] 0 0 := Stand.of_body Bd
  have e0 : s₁.heap = h0 := by rw [← hh, Bd.state]; rfl
  have N0 := Fr.nil n0
  refine own_fw (A' := (s₁.setTop (mkF m 1 #[iv 3] [.int 3]))) (fun t k => castTop (ef_rmNBF3 m) (XS.iloadN X0.here hx rfl (hb hby d11_0) rfl k)) ?_
  obtain ⟨_, _, ⟨T1, L1, k1, n1⟩, -, X1, ⟨Lc1, hQ1, l1, y1, z1⟩, st1⟩ := Jvm.LawKit.callS X0 hx (y := yq19) hown (mvT hZ (own_w hw 47 rfl)) (mvT hZ (own_w hw 48 rfl)) (mvT hZ (own_w hw 35 rfl)) (mvT hZ (own_w hw 49 rfl)) (by decide) (backOf (W := 0) (rmNBL3 l Z a0 hw []  h0 n0 Z0 ) hZ (own_w hw 49 rfl) (own_w hw 35 rfl) (by decide) (by decide)) (g := (mkF m 1 #[iv 3] [.int 3])) rfl (by rw [hml]; rfl) (argsL := [(.int 3)]) (rest := []) (lenOf pd__I_I rfl) rfl (by show 2 * 0 + _ ≤ _; exact Nat.le_of_eq rfl) (hb hby d11_1) (fun _ _ => ⟨rfl, e0, (by decide : 0 + 0 ≤ _), (by decide : 0 + 0 ≤ _)⟩)
  dsimp only [Pt.U, Pt.locs, Pt.cells, Pt.slots] at X1 l1 y1 z1 st1 hQ1
  subst l1 y1 z1
  obtain ⟨rfl, Nq1, e1⟩ := hQ1
  have Nf1 := Fr.app N0 Nq1
  refine own_fw (A' := (T1.setTop (mkF m 4 #[iv 3] [.int 6]))) (fun t k => st1 _ k) ?_
  obtain ⟨T2, h2, k2, X2, e2, E2, A2, st2⟩ := newP X1 hx hZ (own_w hw 37 rfl) e1 (g := (mkF m 4 #[iv 3] [.int 6])) rfl (hb hby d11_4) rfl (by decide) (cap := 6) (by decide) (by decide) (by decide) (by decide)
  obtain ⟨b2, gb2⟩ : ∃ z, z = h0.size := ⟨_, rfl⟩
  have g_b2 : n0 ≤ b2 := Nat.le_trans Z0 (Nat.le_of_eq gb2.symm)
  have sz_b2 : h0.size ≤ b2 := Nat.le_trans (Keep.refl h0 []).1 (Nat.le_of_eq gb2.symm)
  rw [← gb2] at A2 st2
  have V_b2 : Arv Z h2 b2 k2 .byte (6 : Int32) [(.int 0), (.int 0), (.int 0), (.int 0), (.int 0), (.int 0)] (.int 0) := (Arv.new A2 (by decide)).pad (pad_rep [] (.int 0) 6)
  have K2 : Keep h0 h2 [] := (Keep.refl h0 []).ext E2
  have Z2 : n0 ≤ h2.size := Nat.le_trans Z0 E2.1
  refine own_fw (A' := (T2.setTop (mkF m 6 #[iv 3] [.ref b2]))) (fun t k => st2 _ k) ?_
  obtain ⟨fs, hr, hrun, hended, hW, hsame⟩ := X2.leave (v := some (.ref b2)) (fun h => by rw [Bd.returns] at h; cases h)
  refine ⟨_, _, ?_, hrun, hended, _, _, rfl, ?_, ⟨_, rfl⟩, hW, hsame.mono (by decide) (by decide)⟩
  · exact retOut X2 hx Bd.returns rfl (Or.inr (Or.inr (Or.inr (Or.inr ⟨rfl, rfl, rfl⟩)))) (hb hby d11_6) hr
  · show Q_rmNBF3 Z  h0 n0 _ T2.heap _
    rw [e2]
    exact ⟨b2, k2, rfl, Nf1, K2, V_b2, sz_b2⟩
theorem ef_rmPut30 (m : MethodId) (a1 : Addr) (c0 : Int32) : entryFrame m #[(.ref a1), (.int 0), (.int c0)] 3 = mkF m 0 #[.val (.ref a1), .val (.int 0), .val (.int c0)] [] := by first | (simp [entryFrame, mkF, argsToLocals, Value.category]; done) | rfl
def Q_rmPut30 (Z : State) (a1 : Addr) (kb : ClassId) (c0 x0 x1 x2 x3 x4 x5 : Int32) (h0 : Heap) (n0 : Nat) (v : Option Value) (h : Heap) (L : List Loc) : Prop := v = none ∧ Fr n0 L ∧ Keep h0 h [a1] ∧ Arv Z h a1 kb .byte (6 : Int32) [(.int (own_lo c0)), (.int (own_hb c0)), (.int x2), (.int x3), (.int x4), (.int x5)] (.int 0)
theorem rmPut30 (l : Launch) (Z : State) (a0 : Array Value) (hw : ∀ d ∈ tables_1, d.before a0 Z = true) (ws : List Jvm.Cond) (a1 : Addr) (kb : ClassId) (c0 x0 x1 x2 x3 x4 x5 : Int32) (h0 : Heap) (n0 : Nat) (Z0 : n0 ≤ h0.size) (P0 : Arv Z h0 a1 kb .byte (6 : Int32) [(.int x0), (.int x1), (.int x2), (.int x3), (.int x4), (.int x5)] (.int 0)) (g_a1 : n0 ≤ a1) (P2 : Sta Z h0 "java/lang/StringUTF16" "$assertionsDisabled" "Z" (.int 1)) (P3 : Sta Z h0 "java/lang/StringUTF16" "HI_BYTE_SHIFT" "I" (.int 0)) (P4 : Sta Z h0 "java/lang/StringUTF16" "LO_BYTE_SHIFT" "I" (.int 8)) :
    MetFree l yq22 (head1 (Jvm.Cond.code yq22 jdk_52_method_4_code 3 none :: ws) rq0) (fun a U => a = #[(.ref a1), (.int 0), (.int c0)] ∧ Z.Warmed39 U.vm ∧ U.heap = h0) (fun _ _ _ _ _ => True) (fun _ U o U' => ∃ v L, o = .returned v ∧ Q_rmPut30 Z a1 kb c0 x0 x1 x2 x3 x4 x5 h0 n0 v U'.heap L ∧ FrameEnd U o U' L rq0.cells rq0.slots) := by
  refine MetFree.of_bodySF (plainFor_of_name pn_java_lang_StringUTF16) hisR ?_
  intro p e s m args below meth c s₁ Bd hml0 hP hK
  obtain ⟨rfl, hZ, hh⟩ := hP
  have hx := Bd.exec
  have hby := Bd.bytes
  have hml : c.maxLocals = 3 := hml0
  have hown : s.vm.findClass "java/lang/StringUTF16" = some m.cls := findClass_of_methodNamed Bd.named
  have hnm := (name_of_methodNamed Bd.named Bd.method).1
  have X0 : Stand p l e rq0 s m #[(.ref a1), (.int 0), (.int c0)] below meth c s₁ [] 0 0 := Stand.of_body Bd
  have e0 : s₁.heap = h0 := by rw [← hh, Bd.state]; rfl
  have N0 := Fr.nil n0
  refine own_fw (A' := (s₁.setTop (mkF m 0 #[.val (.ref a1), .val (.int 0), .val (.int c0)] []))) (fun t k => castTop (ef_rmPut30 m a1 c0) k) ?_
  obtain ⟨T1, X1, e1, st1⟩ := getS2 X0 hx hZ hown (host := "") (Or.inl (own_w hw 54 rfl)) Via.refl e0 P2 (g := (mkF m 0 #[rv a1, iv 0, iv c0] [])) rfl (hb hby d13_0)
  refine own_fw (A' := (T1.setTop (mkF m 38 #[rv a1, iv 1, iv c0] [.int c0, .int 0, .ref a1]))) (fun t k => st1 _ (XS.ifYes X1.here hx rfl (pc0 := 3) (pc' := 28) rfl (hb hby d13_3) rfl (XT.i0_ne_t (by decide)) (by decide) (by decide) (XS.iloadN X1.here hx rfl (hb hby d13_28) rfl (XS.iconst X1.here hx rfl (hb hby d13_29) (XS.ishl X1.here hx rfl (hb hby d13_30) rfl (XS.istoreN X1.here hx rfl (hb hby d13_31) rfl (l' := #[rv a1, iv 0, iv c0]) rfl (XS.aloadN X1.here hx rfl (hb hby d13_32) rfl rfl (XS.iloadN X1.here hx rfl (hb hby d13_33) rfl (XS.iinc X1.here hx rfl (hb hby d13_34) rfl (l' := #[rv a1, iv 1, iv c0]) rfl (XS.iloadN X1.here hx rfl (hb hby d13_37) rfl k)))))))))) ?_
  obtain ⟨T2, X2, e2, st2⟩ := getS2 X1 hx hZ hown (host := "") (Or.inl (own_w hw 55 rfl)) Via.refl e1 P3 (g := (mkF m 38 #[rv a1, iv 1, iv c0] [.int c0, .int 0, .ref a1])) rfl (hb hby d13_38)
  refine own_fw (A' := (T2.setTop (mkF m 43 #[rv a1, iv 1, iv c0] [.int ((c0 >>> ((0 : Int32) &&& 31)).toInt8.toInt32), .int 0, .ref a1]))) (fun t k => st2 _ (XS.ishr X2.here hx rfl (hb hby d13_41) rfl (XS.i2b X2.here hx rfl (hb hby d13_42) rfl k))) ?_
  obtain ⟨cl3, Ar3, q3, S3, M3, H3, G3⟩ := id P0
  have hin3 : ¬ ((0 : Int32) < 0 ∨ cl3.slots.size ≤ ((0 : Int32)).toNatClampNeg) := inb_of S3 ⟨by decide, by decide⟩
  obtain ⟨T3, h3, X3, e3, W3, st3⟩ := stB X2 hx hZ e2 Ar3 (j := (0 : Int32)) hin3 (g := (mkF m 43 #[rv a1, iv 1, iv c0] [.int ((c0 >>> ((0 : Int32) &&& 31)).toInt8.toInt32), .int 0, .ref a1])) rfl rfl (hb hby d13_43)
  rw [own_narB] at W3
  have V3 : Arv Z h3 a1 kb .byte (6 : Int32) [(.int ((c0 >>> ((0 : Int32) &&& 31)).toInt8.toInt32)), (.int x1), (.int x2), (.int x3), (.int x4), (.int x5)] (.int 0) := Arv.set Ar3 q3 S3 M3 H3 G3 (fits_nar_byte _) W3 0 rfl (Nat.le_of_ble_eq_true rfl)
  have Nf3 := Fr.snoc X3 N0 g_a1
  have K3 : Keep h0 h3 [a1] := (Keep.refl h0 [a1]).wr W3 (Or.inl (List.mem_of_getElem? (i := 0) rfl))
  have Z3 : n0 ≤ h3.size := Nat.le_trans Z0 (Keep.of_wr W3).1
  refine own_fw (A' := (T3.setTop (mkF m 47 #[rv a1, iv 1, iv c0] [.int c0, .int 1, .ref a1]))) (fun t k => st3 _ (XS.aloadN X3.here hx rfl (hb hby d13_44) rfl rfl (XS.iloadN X3.here hx rfl (hb hby d13_45) rfl (XS.iloadN X3.here hx rfl (hb hby d13_46) rfl k)))) ?_
  obtain ⟨T4, X4, e4, st4⟩ := getS2 X3 hx hZ hown (host := "") (Or.inl (own_w hw 56 rfl)) Via.refl e3 (P4.wr W3) (g := (mkF m 47 #[rv a1, iv 1, iv c0] [.int c0, .int 1, .ref a1])) rfl (hb hby d13_47)
  refine own_fw (A' := (T4.setTop (mkF m 52 #[rv a1, iv 1, iv c0] [.int ((c0 >>> ((8 : Int32) &&& 31)).toInt8.toInt32), .int 1, .ref a1]))) (fun t k => st4 _ (XS.ishr X4.here hx rfl (hb hby d13_50) rfl (XS.i2b X4.here hx rfl (hb hby d13_51) rfl k))) ?_
  obtain ⟨cl5, Ar5, q5, S5, M5, H5, G5⟩ := id V3
  have hin5 : ¬ ((1 : Int32) < 0 ∨ cl5.slots.size ≤ ((1 : Int32)).toNatClampNeg) := inb_of S5 ⟨by decide, by decide⟩
  obtain ⟨T5, h5, X5, e5, W5, st5⟩ := stB X4 hx hZ e4 Ar5 (j := (1 : Int32)) hin5 (g := (mkF m 52 #[rv a1, iv 1, iv c0] [.int ((c0 >>> ((8 : Int32) &&& 31)).toInt8.toInt32), .int 1, .ref a1])) rfl rfl (hb hby d13_52)
  rw [own_narB] at W5
  have V5 : Arv Z h5 a1 kb .byte (6 : Int32) [(.int ((c0 >>> ((0 : Int32) &&& 31)).toInt8.toInt32)), (.int ((c0 >>> ((8 : Int32) &&& 31)).toInt8.toInt32)), (.int x2), (.int x3), (.int x4), (.int x5)] (.int 0) := Arv.set Ar5 q5 S5 M5 H5 G5 (fits_nar_byte _) W5 1 rfl (Nat.le_of_ble_eq_true rfl)
  have Nf5 := Fr.snoc X5 Nf3 g_a1
  have K5 : Keep h0 h5 [a1] := K3.wr W5 (Or.inl (List.mem_of_getElem? (i := 0) rfl))
  have Z5 : n0 ≤ h5.size := Nat.le_trans Z3 (Keep.of_wr W5).1
  refine own_fw (A' := (T5.setTop (mkF m 53 #[rv a1, iv 1, iv c0] []))) (fun t k => st5 _ k) ?_
  obtain ⟨fs, hr, hrun, hended, hW, hsame⟩ := X5.leave (v := none) (fun _ => rfl)
  refine ⟨_, _, ?_, hrun, hended, _, _, rfl, ?_, ⟨_, rfl⟩, hW, hsame.mono (by decide) (by decide)⟩
  · exact X5.returnOut hx Bd.returns (hb hby d13_53) hr
  · show Q_rmPut30 Z a1 kb c0 x0 x1 x2 x3 x4 x5 h0 n0 _ T5.heap _
    rw [e5]
    exact ⟨rfl, Nf5, K5, V5⟩
theorem ef_rmPut31 (m : MethodId) (a1 : Addr) (c0 : Int32) : entryFrame m #[(.ref a1), (.int 1), (.int c0)] 3 = mkF m 0 #[.val (.ref a1), .val (.int 1), .val (.int c0)] [] := by first | (simp [entryFrame, mkF, argsToLocals, Value.category]; done) | rfl
def Q_rmPut31 (Z : State) (a1 : Addr) (kb : ClassId) (c0 x0 x1 x2 x3 x4 x5 : Int32) (h0 : Heap) (n0 : Nat) (v : Option Value) (h : Heap) (L : List Loc) : Prop := v = none ∧ Fr n0 L ∧ Keep h0 h [a1] ∧ Arv Z h a1 kb .byte (6 : Int32) [(.int x0), (.int x1), (.int (own_lo c0)), (.int (own_hb c0)), (.int x4), (.int x5)] (.int 0)
theorem rmPut31 (l : Launch) (Z : State) (a0 : Array Value) (hw : ∀ d ∈ tables_1, d.before a0 Z = true) (ws : List Jvm.Cond) (a1 : Addr) (kb : ClassId) (c0 x0 x1 x2 x3 x4 x5 : Int32) (h0 : Heap) (n0 : Nat) (Z0 : n0 ≤ h0.size) (P0 : Arv Z h0 a1 kb .byte (6 : Int32) [(.int x0), (.int x1), (.int x2), (.int x3), (.int x4), (.int x5)] (.int 0)) (g_a1 : n0 ≤ a1) (P2 : Sta Z h0 "java/lang/StringUTF16" "$assertionsDisabled" "Z" (.int 1)) (P3 : Sta Z h0 "java/lang/StringUTF16" "HI_BYTE_SHIFT" "I" (.int 0)) (P4 : Sta Z h0 "java/lang/StringUTF16" "LO_BYTE_SHIFT" "I" (.int 8)) :
    MetFree l yq22 (head1 (Jvm.Cond.code yq22 jdk_52_method_4_code 3 none :: ws) rq0) (fun a U => a = #[(.ref a1), (.int 1), (.int c0)] ∧ Z.Warmed39 U.vm ∧ U.heap = h0) (fun _ _ _ _ _ => True) (fun _ U o U' => ∃ v L, o = .returned v ∧ Q_rmPut31 Z a1 kb c0 x0 x1 x2 x3 x4 x5 h0 n0 v U'.heap L ∧ FrameEnd U o U' L rq0.cells rq0.slots) := by
  refine MetFree.of_bodySF (plainFor_of_name pn_java_lang_StringUTF16) hisR ?_
  intro p e s m args below meth c s₁ Bd hml0 hP hK
  obtain ⟨rfl, hZ, hh⟩ := hP
  have hx := Bd.exec
  have hby := Bd.bytes
  have hml : c.maxLocals = 3 := hml0
  have hown : s.vm.findClass "java/lang/StringUTF16" = some m.cls := findClass_of_methodNamed Bd.named
  have hnm := (name_of_methodNamed Bd.named Bd.method).1
  have X0 : Stand p l e rq0 s m #[(.ref a1), (.int 1), (.int c0)] below meth c s₁ [] 0 0 := Stand.of_body Bd
  have e0 : s₁.heap = h0 := by rw [← hh, Bd.state]; rfl
  have N0 := Fr.nil n0
  refine own_fw (A' := (s₁.setTop (mkF m 0 #[.val (.ref a1), .val (.int 1), .val (.int c0)] []))) (fun t k => castTop (ef_rmPut31 m a1 c0) k) ?_
  obtain ⟨T1, X1, e1, st1⟩ := getS2 X0 hx hZ hown (host := "") (Or.inl (own_w hw 54 rfl)) Via.refl e0 P2 (g := (mkF m 0 #[rv a1, iv 1, iv c0] [])) rfl (hb hby d13_0)
  refine own_fw (A' := (T1.setTop (mkF m 38 #[rv a1, iv 3, iv c0] [.int c0, .int 2, .ref a1]))) (fun t k => st1 _ (XS.ifYes X1.here hx rfl (pc0 := 3) (pc' := 28) rfl (hb hby d13_3) rfl (XT.i0_ne_t (by decide)) (by decide) (by decide) (XS.iloadN X1.here hx rfl (hb hby d13_28) rfl (XS.iconst X1.here hx rfl (hb hby d13_29) (XS.ishl X1.here hx rfl (hb hby d13_30) rfl (XS.istoreN X1.here hx rfl (hb hby d13_31) rfl (l' := #[rv a1, iv 2, iv c0]) rfl (XS.aloadN X1.here hx rfl (hb hby d13_32) rfl rfl (XS.iloadN X1.here hx rfl (hb hby d13_33) rfl (XS.iinc X1.here hx rfl (hb hby d13_34) rfl (l' := #[rv a1, iv 3, iv c0]) rfl (XS.iloadN X1.here hx rfl (hb hby d13_37) rfl k)))))))))) ?_
  obtain ⟨T2, X2, e2, st2⟩ := getS2 X1 hx hZ hown (host := "") (Or.inl (own_w hw 55 rfl)) Via.refl e1 P3 (g := (mkF m 38 #[rv a1, iv 3, iv c0] [.int c0, .int 2, .ref a1])) rfl (hb hby d13_38)
  refine own_fw (A' := (T2.setTop (mkF m 43 #[rv a1, iv 3, iv c0] [.int ((c0 >>> ((0 : Int32) &&& 31)).toInt8.toInt32), .int 2, .ref a1]))) (fun t k => st2 _ (XS.ishr X2.here hx rfl (hb hby d13_41) rfl (XS.i2b X2.here hx rfl (hb hby d13_42) rfl k))) ?_
  obtain ⟨cl3, Ar3, q3, S3, M3, H3, G3⟩ := id P0
  have hin3 : ¬ ((2 : Int32) < 0 ∨ cl3.slots.size ≤ ((2 : Int32)).toNatClampNeg) := inb_of S3 ⟨by decide, by decide⟩
  obtain ⟨T3, h3, X3, e3, W3, st3⟩ := stB X2 hx hZ e2 Ar3 (j := (2 : Int32)) hin3 (g := (mkF m 43 #[rv a1, iv 3, iv c0] [.int ((c0 >>> ((0 : Int32) &&& 31)).toInt8.toInt32), .int 2, .ref a1])) rfl rfl (hb hby d13_43)
  rw [own_narB] at W3
  have V3 : Arv Z h3 a1 kb .byte (6 : Int32) [(.int x0), (.int x1), (.int ((c0 >>> ((0 : Int32) &&& 31)).toInt8.toInt32)), (.int x3), (.int x4), (.int x5)] (.int 0) := Arv.set Ar3 q3 S3 M3 H3 G3 (fits_nar_byte _) W3 2 rfl (Nat.le_of_ble_eq_true rfl)
  have Nf3 := Fr.snoc X3 N0 g_a1
  have K3 : Keep h0 h3 [a1] := (Keep.refl h0 [a1]).wr W3 (Or.inl (List.mem_of_getElem? (i := 0) rfl))
  have Z3 : n0 ≤ h3.size := Nat.le_trans Z0 (Keep.of_wr W3).1
  refine own_fw (A' := (T3.setTop (mkF m 47 #[rv a1, iv 3, iv c0] [.int c0, .int 3, .ref a1]))) (fun t k => st3 _ (XS.aloadN X3.here hx rfl (hb hby d13_44) rfl rfl (XS.iloadN X3.here hx rfl (hb hby d13_45) rfl (XS.iloadN X3.here hx rfl (hb hby d13_46) rfl k)))) ?_
  obtain ⟨T4, X4, e4, st4⟩ := getS2 X3 hx hZ hown (host := "") (Or.inl (own_w hw 56 rfl)) Via.refl e3 (P4.wr W3) (g := (mkF m 47 #[rv a1, iv 3, iv c0] [.int c0, .int 3, .ref a1])) rfl (hb hby d13_47)
  refine own_fw (A' := (T4.setTop (mkF m 52 #[rv a1, iv 3, iv c0] [.int ((c0 >>> ((8 : Int32) &&& 31)).toInt8.toInt32), .int 3, .ref a1]))) (fun t k => st4 _ (XS.ishr X4.here hx rfl (hb hby d13_50) rfl (XS.i2b X4.here hx rfl (hb hby d13_51) rfl k))) ?_
  obtain ⟨cl5, Ar5, q5, S5, M5, H5, G5⟩ := id V3
  have hin5 : ¬ ((3 : Int32) < 0 ∨ cl5.slots.size ≤ ((3 : Int32)).toNatClampNeg) := inb_of S5 ⟨by decide, by decide⟩
  obtain ⟨T5, h5, X5, e5, W5, st5⟩ := stB X4 hx hZ e4 Ar5 (j := (3 : Int32)) hin5 (g := (mkF m 52 #[rv a1, iv 3, iv c0] [.int ((c0 >>> ((8 : Int32) &&& 31)).toInt8.toInt32), .int 3, .ref a1])) rfl rfl (hb hby d13_52)
  rw [own_narB] at W5
  have V5 : Arv Z h5 a1 kb .byte (6 : Int32) [(.int x0), (.int x1), (.int ((c0 >>> ((0 : Int32) &&& 31)).toInt8.toInt32)), (.int ((c0 >>> ((8 : Int32) &&& 31)).toInt8.toInt32)), (.int x4), (.int x5)] (.int 0) := Arv.set Ar5 q5 S5 M5 H5 G5 (fits_nar_byte _) W5 3 rfl (Nat.le_of_ble_eq_true rfl)
  have Nf5 := Fr.snoc X5 Nf3 g_a1
  have K5 : Keep h0 h5 [a1] := K3.wr W5 (Or.inl (List.mem_of_getElem? (i := 0) rfl))
  have Z5 : n0 ≤ h5.size := Nat.le_trans Z3 (Keep.of_wr W5).1
  refine own_fw (A' := (T5.setTop (mkF m 53 #[rv a1, iv 3, iv c0] []))) (fun t k => st5 _ k) ?_
  obtain ⟨fs, hr, hrun, hended, hW, hsame⟩ := X5.leave (v := none) (fun _ => rfl)
  refine ⟨_, _, ?_, hrun, hended, _, _, rfl, ?_, ⟨_, rfl⟩, hW, hsame.mono (by decide) (by decide)⟩
  · exact X5.returnOut hx Bd.returns (hb hby d13_53) hr
  · show Q_rmPut31 Z a1 kb c0 x0 x1 x2 x3 x4 x5 h0 n0 _ T5.heap _
    rw [e5]
    exact ⟨rfl, Nf5, K5, V5⟩
theorem ef_rmPut32 (m : MethodId) (a1 : Addr) (c0 : Int32) : entryFrame m #[(.ref a1), (.int 2), (.int c0)] 3 = mkF m 0 #[.val (.ref a1), .val (.int 2), .val (.int c0)] [] := by first | (simp [entryFrame, mkF, argsToLocals, Value.category]; done) | rfl
def Q_rmPut32 (Z : State) (a1 : Addr) (kb : ClassId) (c0 x0 x1 x2 x3 x4 x5 : Int32) (h0 : Heap) (n0 : Nat) (v : Option Value) (h : Heap) (L : List Loc) : Prop := v = none ∧ Fr n0 L ∧ Keep h0 h [a1] ∧ Arv Z h a1 kb .byte (6 : Int32) [(.int x0), (.int x1), (.int x2), (.int x3), (.int (own_lo c0)), (.int (own_hb c0))] (.int 0)
theorem rmPut32 (l : Launch) (Z : State) (a0 : Array Value) (hw : ∀ d ∈ tables_1, d.before a0 Z = true) (ws : List Jvm.Cond) (a1 : Addr) (kb : ClassId) (c0 x0 x1 x2 x3 x4 x5 : Int32) (h0 : Heap) (n0 : Nat) (Z0 : n0 ≤ h0.size) (P0 : Arv Z h0 a1 kb .byte (6 : Int32) [(.int x0), (.int x1), (.int x2), (.int x3), (.int x4), (.int x5)] (.int 0)) (g_a1 : n0 ≤ a1) (P2 : Sta Z h0 "java/lang/StringUTF16" "$assertionsDisabled" "Z" (.int 1)) (P3 : Sta Z h0 "java/lang/StringUTF16" "HI_BYTE_SHIFT" "I" (.int 0)) (P4 : Sta Z h0 "java/lang/StringUTF16" "LO_BYTE_SHIFT" "I" (.int 8)) :
    MetFree l yq22 (head1 (Jvm.Cond.code yq22 jdk_52_method_4_code 3 none :: ws) rq0) (fun a U => a = #[(.ref a1), (.int 2), (.int c0)] ∧ Z.Warmed39 U.vm ∧ U.heap = h0) (fun _ _ _ _ _ => True) (fun _ U o U' => ∃ v L, o = .returned v ∧ Q_rmPut32 Z a1 kb c0 x0 x1 x2 x3 x4 x5 h0 n0 v U'.heap L ∧ FrameEnd U o U' L rq0.cells rq0.slots) := by
  refine MetFree.of_bodySF (plainFor_of_name pn_java_lang_StringUTF16) hisR ?_
  intro p e s m args below meth c s₁ Bd hml0 hP hK
  obtain ⟨rfl, hZ, hh⟩ := hP
  have hx := Bd.exec
  have hby := Bd.bytes
  have hml : c.maxLocals = 3 := hml0
  have hown : s.vm.findClass "java/lang/StringUTF16" = some m.cls := findClass_of_methodNamed Bd.named
  have hnm := (name_of_methodNamed Bd.named Bd.method).1
  have X0 : Stand p l e rq0 s m #[(.ref a1), (.int 2), (.int c0)] below meth c s₁ [] 0 0 := Stand.of_body Bd
  have e0 : s₁.heap = h0 := by rw [← hh, Bd.state]; rfl
  have N0 := Fr.nil n0
  refine own_fw (A' := (s₁.setTop (mkF m 0 #[.val (.ref a1), .val (.int 2), .val (.int c0)] []))) (fun t k => castTop (ef_rmPut32 m a1 c0) k) ?_
  obtain ⟨T1, X1, e1, st1⟩ := getS2 X0 hx hZ hown (host := "") (Or.inl (own_w hw 54 rfl)) Via.refl e0 P2 (g := (mkF m 0 #[rv a1, iv 2, iv c0] [])) rfl (hb hby d13_0)
  refine own_fw (A' := (T1.setTop (mkF m 38 #[rv a1, iv 5, iv c0] [.int c0, .int 4, .ref a1]))) (fun t k => st1 _ (XS.ifYes X1.here hx rfl (pc0 := 3) (pc' := 28) rfl (hb hby d13_3) rfl (XT.i0_ne_t (by decide)) (by decide) (by decide) (XS.iloadN X1.here hx rfl (hb hby d13_28) rfl (XS.iconst X1.here hx rfl (hb hby d13_29) (XS.ishl X1.here hx rfl (hb hby d13_30) rfl (XS.istoreN X1.here hx rfl (hb hby d13_31) rfl (l' := #[rv a1, iv 4, iv c0]) rfl (XS.aloadN X1.here hx rfl (hb hby d13_32) rfl rfl (XS.iloadN X1.here hx rfl (hb hby d13_33) rfl (XS.iinc X1.here hx rfl (hb hby d13_34) rfl (l' := #[rv a1, iv 5, iv c0]) rfl (XS.iloadN X1.here hx rfl (hb hby d13_37) rfl k)))))))))) ?_
  obtain ⟨T2, X2, e2, st2⟩ := getS2 X1 hx hZ hown (host := "") (Or.inl (own_w hw 55 rfl)) Via.refl e1 P3 (g := (mkF m 38 #[rv a1, iv 5, iv c0] [.int c0, .int 4, .ref a1])) rfl (hb hby d13_38)
  refine own_fw (A' := (T2.setTop (mkF m 43 #[rv a1, iv 5, iv c0] [.int ((c0 >>> ((0 : Int32) &&& 31)).toInt8.toInt32), .int 4, .ref a1]))) (fun t k => st2 _ (XS.ishr X2.here hx rfl (hb hby d13_41) rfl (XS.i2b X2.here hx rfl (hb hby d13_42) rfl k))) ?_
  obtain ⟨cl3, Ar3, q3, S3, M3, H3, G3⟩ := id P0
  have hin3 : ¬ ((4 : Int32) < 0 ∨ cl3.slots.size ≤ ((4 : Int32)).toNatClampNeg) := inb_of S3 ⟨by decide, by decide⟩
  obtain ⟨T3, h3, X3, e3, W3, st3⟩ := stB X2 hx hZ e2 Ar3 (j := (4 : Int32)) hin3 (g := (mkF m 43 #[rv a1, iv 5, iv c0] [.int ((c0 >>> ((0 : Int32) &&& 31)).toInt8.toInt32), .int 4, .ref a1])) rfl rfl (hb hby d13_43)
  rw [own_narB] at W3
  have V3 : Arv Z h3 a1 kb .byte (6 : Int32) [(.int x0), (.int x1), (.int x2), (.int x3), (.int ((c0 >>> ((0 : Int32) &&& 31)).toInt8.toInt32)), (.int x5)] (.int 0) := Arv.set Ar3 q3 S3 M3 H3 G3 (fits_nar_byte _) W3 4 rfl (Nat.le_of_ble_eq_true rfl)
  have Nf3 := Fr.snoc X3 N0 g_a1
  have K3 : Keep h0 h3 [a1] := (Keep.refl h0 [a1]).wr W3 (Or.inl (List.mem_of_getElem? (i := 0) rfl))
  have Z3 : n0 ≤ h3.size := Nat.le_trans Z0 (Keep.of_wr W3).1
  refine own_fw (A' := (T3.setTop (mkF m 47 #[rv a1, iv 5, iv c0] [.int c0, .int 5, .ref a1]))) (fun t k => st3 _ (XS.aloadN X3.here hx rfl (hb hby d13_44) rfl rfl (XS.iloadN X3.here hx rfl (hb hby d13_45) rfl (XS.iloadN X3.here hx rfl (hb hby d13_46) rfl k)))) ?_
  obtain ⟨T4, X4, e4, st4⟩ := getS2 X3 hx hZ hown (host := "") (Or.inl (own_w hw 56 rfl)) Via.refl e3 (P4.wr W3) (g := (mkF m 47 #[rv a1, iv 5, iv c0] [.int c0, .int 5, .ref a1])) rfl (hb hby d13_47)
  refine own_fw (A' := (T4.setTop (mkF m 52 #[rv a1, iv 5, iv c0] [.int ((c0 >>> ((8 : Int32) &&& 31)).toInt8.toInt32), .int 5, .ref a1]))) (fun t k => st4 _ (XS.ishr X4.here hx rfl (hb hby d13_50) rfl (XS.i2b X4.here hx rfl (hb hby d13_51) rfl k))) ?_
  obtain ⟨cl5, Ar5, q5, S5, M5, H5, G5⟩ := id V3
  have hin5 : ¬ ((5 : Int32) < 0 ∨ cl5.slots.size ≤ ((5 : Int32)).toNatClampNeg) := inb_of S5 ⟨by decide, by decide⟩
  obtain ⟨T5, h5, X5, e5, W5, st5⟩ := stB X4 hx hZ e4 Ar5 (j := (5 : Int32)) hin5 (g := (mkF m 52 #[rv a1, iv 5, iv c0] [.int ((c0 >>> ((8 : Int32) &&& 31)).toInt8.toInt32), .int 5, .ref a1])) rfl rfl (hb hby d13_52)
  rw [own_narB] at W5
  have V5 : Arv Z h5 a1 kb .byte (6 : Int32) [(.int x0), (.int x1), (.int x2), (.int x3), (.int ((c0 >>> ((0 : Int32) &&& 31)).toInt8.toInt32)), (.int ((c0 >>> ((8 : Int32) &&& 31)).toInt8.toInt32))] (.int 0) := Arv.set Ar5 q5 S5 M5 H5 G5 (fits_nar_byte _) W5 5 rfl (Nat.le_of_ble_eq_true rfl)
  have Nf5 := Fr.snoc X5 Nf3 g_a1
  have K5 : Keep h0 h5 [a1] := K3.wr W5 (Or.inl (List.mem_of_getElem? (i := 0) rfl))
  have Z5 : n0 ≤ h5.size := Nat.le_trans Z3 (Keep.of_wr W5).1
  refine own_fw (A' := (T5.setTop (mkF m 53 #[rv a1, iv 5, iv c0] []))) (fun t k => st5 _ k) ?_
  obtain ⟨fs, hr, hrun, hended, hW, hsame⟩ := X5.leave (v := none) (fun _ => rfl)
  refine ⟨_, _, ?_, hrun, hended, _, _, rfl, ?_, ⟨_, rfl⟩, hW, hsame.mono (by decide) (by decide)⟩
  · exact X5.returnOut hx Bd.returns (hb hby d13_53) hr
  · show Q_rmPut32 Z a1 kb c0 x0 x1 x2 x3 x4 x5 h0 n0 _ T5.heap _
    rw [e5]
    exact ⟨rfl, Nf5, K5, V5⟩
theorem ef_rmToB3 (m : MethodId) (a1 : Addr) : entryFrame m #[(.ref a1), (.int 0), (.int 3)] 5 = mkF m 0 #[.val (.ref a1), .val (.int 0), .val (.int 3), .unset, .unset] [] := by first | (simp [entryFrame, mkF, argsToLocals, Value.category]; done) | rfl
def Q_rmToB3 (Z : State) (a1 : Addr) (kc : ClassId) (c0 c1 c2 : Int32) (h0 : Heap) (n0 : Nat) (v : Option Value) (h : Heap) (L : List Loc) : Prop := ∃ b : Addr, ∃ kb : ClassId, v = some (.ref b) ∧ Fr n0 L ∧ Keep h0 h [] ∧ Arv Z h b kb .byte (6 : Int32) [(.int (own_lo c0)), (.int (own_hb c0)), (.int (own_lo c1)), (.int (own_hb c1)), (.int (own_lo c2)), (.int (own_hb c2))] (.int 0) ∧ (h0.size ≤ b)
theorem rmToB3 (l : Launch) (Z : State) (a0 : Array Value) (hw : ∀ d ∈ tables_1, d.before a0 Z = true) (ws : List Jvm.Cond) (a1 : Addr) (kc : ClassId) (c0 c1 c2 : Int32) (h0 : Heap) (n0 : Nat) (Z0 : n0 ≤ h0.size) (P0 : Arv Z h0 a1 kc .char (3 : Int32) [(.int c0), (.int c1), (.int c2)] (.int 0)) (P1 : Sta Z h0 "java/lang/StringUTF16" "$assertionsDisabled" "Z" (.int 1)) (P2 : Sta Z h0 "java/lang/StringUTF16" "HI_BYTE_SHIFT" "I" (.int 0)) (P3 : Sta Z h0 "java/lang/StringUTF16" "LO_BYTE_SHIFT" "I" (.int 8)) :
    MetFree l yq24 (head1 (Jvm.Cond.code yq24 jdk_52_method_14_code 5 (some (.array .byte)) :: ws) rq34) (fun a U => a = #[(.ref a1), (.int 0), (.int 3)] ∧ Z.Warmed39 U.vm ∧ U.heap = h0) (fun _ _ _ _ _ => True) (fun _ U o U' => ∃ v L, o = .returned v ∧ Q_rmToB3 Z a1 kc c0 c1 c2 h0 n0 v U'.heap L ∧ FrameEnd U o U' L rq34.cells rq34.slots) := by
  refine MetFree.of_bodySF (plainFor_of_name pn_java_lang_StringUTF16) hisR ?_
  intro p e s m args below meth c s₁ Bd hml0 hP hK
  obtain ⟨rfl, hZ, hh⟩ := hP
  have hx := Bd.exec
  have hby := Bd.bytes
  have hml : c.maxLocals = 5 := hml0
  have hown : s.vm.findClass "java/lang/StringUTF16" = some m.cls := findClass_of_methodNamed Bd.named
  have hnm := (name_of_methodNamed Bd.named Bd.method).1
  have X0 : Stand p l e rq34 s m #[(.ref a1), (.int 0), (.int 3)] below meth c s₁ [] 0 0 := Stand.of_body Bd
  have e0 : s₁.heap = h0 := by rw [← hh, Bd.state]; rfl
  have N0 := Fr.nil n0
  refine own_fw (A' := (s₁.setTop (mkF m 1 #[rv a1, iv 0, iv 3, .unset, .unset] [.int 3]))) (fun t k => castTop (ef_rmToB3 m a1) (XS.iloadN X0.here hx rfl (hb hby d10_0) rfl k)) ?_
  obtain ⟨_, _, ⟨T1, L1, k1, n1⟩, -, X1, ⟨Lc1, hQ1, l1, y1, z1⟩, st1⟩ := Jvm.LawKit.callS X0 hx (y := yq21) hown (mvT hZ (own_w hw 44 rfl)) (mvT hZ (own_w hw 45 rfl)) (mvT hZ (own_w hw 35 rfl)) (mvT hZ (own_w hw 46 rfl)) (by decide) (backOf (W := 0) (rmNBF3 l Z a0 hw []  h0 n0 Z0 ) hZ (own_w hw 46 rfl) (own_w hw 35 rfl) (by decide) (by decide)) (g := (mkF m 1 #[rv a1, iv 0, iv 3, .unset, .unset] [.int 3])) rfl (by rw [hml]; rfl) (argsL := [(.int 3)]) (rest := []) (lenOf pd__I__B rfl) rfl (by show 2 * 0 + _ ≤ _; exact Nat.le_of_eq rfl) (hb hby d10_1) (fun _ _ => ⟨rfl, e0, (by decide : 0 + 1 ≤ _), (by decide : 0 + 6 ≤ _)⟩)
  dsimp only [Pt.U, Pt.locs, Pt.cells, Pt.slots] at X1 l1 y1 z1 st1 hQ1
  subst l1 y1 z1
  obtain ⟨b_1, kb_1, rfl, Nq1, Kq1, Fq1_0, gb_1⟩ := hQ1
  have Nf1 := Fr.app N0 Nq1
  have K1 : Keep h0 T1.heap [] := (Keep.refl h0 []).trans Kq1 all0
  have sz_b_1 : h0.size ≤ b_1 := Nat.le_trans (Keep.refl h0 []).1 gb_1
  have g_b_1 : n0 ≤ b_1 := Nat.le_trans Z0 gb_1
  have ne_a1_b_1 : a1 ≠ b_1 := Nat.ne_of_lt (Nat.lt_of_lt_of_le P0.lt gb_1)
  have Z1 : n0 ≤ T1.heap.size := Nat.le_trans Z0 Kq1.1
  refine own_fw (A' := (T1.setTop (mkF m 19 #[rv a1, iv 0, iv 3, rv b_1, iv 0] [.int 0, .ref a1, .int 0, .ref b_1]))) (fun t k => st1 _ (XS.astoreN X1.here hx rfl (hb hby d10_4) rfl rfl (l' := #[rv a1, iv 0, iv 3, rv b_1, .unset]) rfl (XS.iconst X1.here hx rfl (hb hby d10_5) (XS.istore X1.here hx rfl (hb hby d10_6) rfl (l' := #[rv a1, iv 0, iv 3, rv b_1, iv 0]) rfl (XS.iload X1.here hx rfl (hb hby d10_8) rfl (XS.iloadN X1.here hx rfl (hb hby d10_10) rfl (XS.icmpNo X1.here hx rfl (hb hby d10_11) rfl (XT.ii_ge_f (by decide)) (XS.aloadN X1.here hx rfl (hb hby d10_14) rfl rfl (XS.iload X1.here hx rfl (hb hby d10_15) rfl (XS.aloadN X1.here hx rfl (hb hby d10_17) rfl rfl (XS.iloadN X1.here hx rfl (hb hby d10_18) rfl k))))))))))) ?_
  obtain ⟨cl2, Ar2, q2, S2, M2, H2, G2⟩ := id (P0.keep Kq1 nin0)
  have hin2 : ¬ ((0 : Int32) < 0 ∨ cl2.slots.size ≤ ((0 : Int32)).toNatClampNeg) := inb_of S2 ⟨by decide, by decide⟩
  have hat2 : cl2.slots[((0 : Int32)).toNatClampNeg]? = some (.int c0) := H2.at hin2 rfl
  refine own_fw (A' := (T1.setTop (mkF m 20 #[rv a1, iv 0, iv 3, rv b_1, iv 0] [.int c0, .int 0, .ref b_1]))) (fun t k => X1.caload hx (j := (0 : Int32)) (v := (.int c0)) (by exact Ar2.1) (State.isArrayOf_alike hZ.alike Ar2.2.1) Ar2.2.2 hin2 hat2 (g := (mkF m 19 #[rv a1, iv 0, iv 3, rv b_1, iv 0] [.int 0, .ref a1, .int 0, .ref b_1])) rfl rfl (hb hby d10_19) _ k) ?_
  obtain ⟨_, _, ⟨T3, L3, k3, n3⟩, -, X3, ⟨Lc3, hQ3, l3, y3, z3⟩, st3⟩ := Jvm.LawKit.callS X1 hx (y := yq22) hown (mvT hZ (own_w hw 51 rfl)) (mvT hZ (own_w hw 52 rfl)) (mvT hZ (own_w hw 35 rfl)) (mvT hZ (own_w hw 53 rfl)) (by decide) (backOf (W := 0) (rmPut30 l Z a0 hw [] b_1 kb_1 c0 (0 : Int32) (0 : Int32) (0 : Int32) (0 : Int32) (0 : Int32) (0 : Int32) T1.heap n0 Z1 Fq1_0 g_b_1 (own_staKeep P1 Kq1 all0) (own_staKeep P2 Kq1 all0) (own_staKeep P3 Kq1 all0)) hZ (own_w hw 53 rfl) (own_w hw 35 rfl) (by decide) (by decide)) (g := (mkF m 20 #[rv a1, iv 0, iv 3, rv b_1, iv 0] [.int c0, .int 0, .ref b_1])) rfl (by rw [hml]; rfl) (argsL := [(.ref b_1), (.int 0), (.int c0)]) (rest := []) (lenOf pd___BII_V rfl) rfl (by show 2 * 0 + _ ≤ _; exact Nat.le_of_eq rfl) (hb hby d10_20) (fun _ _ => ⟨rfl, rfl, (by decide : 1 + 0 ≤ _), (by decide : 6 + 0 ≤ _)⟩)
  dsimp only [Pt.U, Pt.locs, Pt.cells, Pt.slots] at X3 l3 y3 z3 st3 hQ3
  subst l3 y3 z3
  obtain ⟨rfl, Nq3, Kq3, Fq3_0⟩ := hQ3
  have Nf3 := Fr.app Nf1 Nq3
  have K3 : Keep h0 T3.heap [] := K1.trans Kq3 (allS (Or.inr sz_b_1) all0)
  have Z3 : n0 ≤ T3.heap.size := Nat.le_trans Z1 Kq3.1
  refine own_fw (A' := (T3.setTop (mkF m 19 #[rv a1, iv 1, iv 3, rv b_1, iv 1] [.int 1, .ref a1, .int 1, .ref b_1]))) (fun t k => st3 _ (XS.iinc X3.here hx rfl (hb hby d10_23) rfl (l' := #[rv a1, iv 1, iv 3, rv b_1, iv 0]) rfl (XS.iinc X3.here hx rfl (hb hby d10_26) rfl (l' := #[rv a1, iv 1, iv 3, rv b_1, iv 1]) rfl (XS.goto X3.here hx rfl (pc0 := 29) (pc' := 8) rfl (hb hby d10_29) (by decide) (by decide) (XS.iload X3.here hx rfl (hb hby d10_8) rfl (XS.iloadN X3.here hx rfl (hb hby d10_10) rfl (XS.icmpNo X3.here hx rfl (hb hby d10_11) rfl (XT.ii_ge_f (by decide)) (XS.aloadN X3.here hx rfl (hb hby d10_14) rfl rfl (XS.iload X3.here hx rfl (hb hby d10_15) rfl (XS.aloadN X3.here hx rfl (hb hby d10_17) rfl rfl (XS.iloadN X3.here hx rfl (hb hby d10_18) rfl k))))))))))) ?_
  obtain ⟨cl4, Ar4, q4, S4, M4, H4, G4⟩ := id ((P0.keep Kq1 nin0).keep Kq3 (ninS ne_a1_b_1 nin0))
  have hin4 : ¬ ((1 : Int32) < 0 ∨ cl4.slots.size ≤ ((1 : Int32)).toNatClampNeg) := inb_of S4 ⟨by decide, by decide⟩
  have hat4 : cl4.slots[((1 : Int32)).toNatClampNeg]? = some (.int c1) := H4.at hin4 rfl
  refine own_fw (A' := (T3.setTop (mkF m 20 #[rv a1, iv 1, iv 3, rv b_1, iv 1] [.int c1, .int 1, .ref b_1]))) (fun t k => X3.caload hx (j := (1 : Int32)) (v := (.int c1)) (by exact Ar4.1) (State.isArrayOf_alike hZ.alike Ar4.2.1) Ar4.2.2 hin4 hat4 (g := (mkF m 19 #[rv a1, iv 1, iv 3, rv b_1, iv 1] [.int 1, .ref a1, .int 1, .ref b_1])) rfl rfl (hb hby d10_19) _ k) ?_
  obtain ⟨_, _, ⟨T5, L5, k5, n5⟩, -, X5, ⟨Lc5, hQ5, l5, y5, z5⟩, st5⟩ := Jvm.LawKit.callS X3 hx (y := yq22) hown (mvT hZ (own_w hw 51 rfl)) (mvT hZ (own_w hw 52 rfl)) (mvT hZ (own_w hw 35 rfl)) (mvT hZ (own_w hw 53 rfl)) (by decide) (backOf (W := 0) (rmPut31 l Z a0 hw [] b_1 kb_1 c1 (own_lo c0) (own_hb c0) (0 : Int32) (0 : Int32) (0 : Int32) (0 : Int32) T3.heap n0 Z3 Fq3_0 g_b_1 (own_staKeep (own_staKeep P1 Kq1 all0) Kq3 (allS (own_plainV Fq1_0) all0)) (own_staKeep (own_staKeep P2 Kq1 all0) Kq3 (allS (own_plainV Fq1_0) all0)) (own_staKeep (own_staKeep P3 Kq1 all0) Kq3 (allS (own_plainV Fq1_0) all0))) hZ (own_w hw 53 rfl) (own_w hw 35 rfl) (by decide) (by decide)) (g := (mkF m 20 #[rv a1, iv 1, iv 3, rv b_1, iv 1] [.int c1, .int 1, .ref b_1])) rfl (by rw [hml]; rfl) (argsL := [(.ref b_1), (.int 1), (.int c1)]) (rest := []) (lenOf pd___BII_V rfl) rfl (by show 2 * 0 + _ ≤ _; exact Nat.le_of_eq rfl) (hb hby d10_20) (fun _ _ => ⟨rfl, rfl, (by decide : 1 + 0 ≤ _), (by decide : 6 + 0 ≤ _)⟩)
  dsimp only [Pt.U, Pt.locs, Pt.cells, Pt.slots] at X5 l5 y5 z5 st5 hQ5
  subst l5 y5 z5
  obtain ⟨rfl, Nq5, Kq5, Fq5_0⟩ := hQ5
  have Nf5 := Fr.app Nf3 Nq5
  have K5 : Keep h0 T5.heap [] := K3.trans Kq5 (allS (Or.inr sz_b_1) all0)
  have Z5 : n0 ≤ T5.heap.size := Nat.le_trans Z3 Kq5.1
  refine own_fw (A' := (T5.setTop (mkF m 19 #[rv a1, iv 2, iv 3, rv b_1, iv 2] [.int 2, .ref a1, .int 2, .ref b_1]))) (fun t k => st5 _ (XS.iinc X5.here hx rfl (hb hby d10_23) rfl (l' := #[rv a1, iv 2, iv 3, rv b_1, iv 1]) rfl (XS.iinc X5.here hx rfl (hb hby d10_26) rfl (l' := #[rv a1, iv 2, iv 3, rv b_1, iv 2]) rfl (XS.goto X5.here hx rfl (pc0 := 29) (pc' := 8) rfl (hb hby d10_29) (by decide) (by decide) (XS.iload X5.here hx rfl (hb hby d10_8) rfl (XS.iloadN X5.here hx rfl (hb hby d10_10) rfl (XS.icmpNo X5.here hx rfl (hb hby d10_11) rfl (XT.ii_ge_f (by decide)) (XS.aloadN X5.here hx rfl (hb hby d10_14) rfl rfl (XS.iload X5.here hx rfl (hb hby d10_15) rfl (XS.aloadN X5.here hx rfl (hb hby d10_17) rfl rfl (XS.iloadN X5.here hx rfl (hb hby d10_18) rfl k))))))))))) ?_
  obtain ⟨cl6, Ar6, q6, S6, M6, H6, G6⟩ := id (((P0.keep Kq1 nin0).keep Kq3 (ninS ne_a1_b_1 nin0)).keep Kq5 (ninS ne_a1_b_1 nin0))
  have hin6 : ¬ ((2 : Int32) < 0 ∨ cl6.slots.size ≤ ((2 : Int32)).toNatClampNeg) := inb_of S6 ⟨by decide, by decide⟩
  have hat6 : cl6.slots[((2 : Int32)).toNatClampNeg]? = some (.int c2) := H6.at hin6 rfl
  refine own_fw (A' := (T5.setTop (mkF m 20 #[rv a1, iv 2, iv 3, rv b_1, iv 2] [.int c2, .int 2, .ref b_1]))) (fun t k => X5.caload hx (j := (2 : Int32)) (v := (.int c2)) (by exact Ar6.1) (State.isArrayOf_alike hZ.alike Ar6.2.1) Ar6.2.2 hin6 hat6 (g := (mkF m 19 #[rv a1, iv 2, iv 3, rv b_1, iv 2] [.int 2, .ref a1, .int 2, .ref b_1])) rfl rfl (hb hby d10_19) _ k) ?_
  obtain ⟨_, _, ⟨T7, L7, k7, n7⟩, -, X7, ⟨Lc7, hQ7, l7, y7, z7⟩, st7⟩ := Jvm.LawKit.callS X5 hx (y := yq22) hown (mvT hZ (own_w hw 51 rfl)) (mvT hZ (own_w hw 52 rfl)) (mvT hZ (own_w hw 35 rfl)) (mvT hZ (own_w hw 53 rfl)) (by decide) (backOf (W := 0) (rmPut32 l Z a0 hw [] b_1 kb_1 c2 (own_lo c0) (own_hb c0) (own_lo c1) (own_hb c1) (0 : Int32) (0 : Int32) T5.heap n0 Z5 Fq5_0 g_b_1 (own_staKeep (own_staKeep (own_staKeep P1 Kq1 all0) Kq3 (allS (own_plainV Fq1_0) all0)) Kq5 (allS (own_plainV Fq3_0) all0)) (own_staKeep (own_staKeep (own_staKeep P2 Kq1 all0) Kq3 (allS (own_plainV Fq1_0) all0)) Kq5 (allS (own_plainV Fq3_0) all0)) (own_staKeep (own_staKeep (own_staKeep P3 Kq1 all0) Kq3 (allS (own_plainV Fq1_0) all0)) Kq5 (allS (own_plainV Fq3_0) all0))) hZ (own_w hw 53 rfl) (own_w hw 35 rfl) (by decide) (by decide)) (g := (mkF m 20 #[rv a1, iv 2, iv 3, rv b_1, iv 2] [.int c2, .int 2, .ref b_1])) rfl (by rw [hml]; rfl) (argsL := [(.ref b_1), (.int 2), (.int c2)]) (rest := []) (lenOf pd___BII_V rfl) rfl (by show 2 * 0 + _ ≤ _; exact Nat.le_of_eq rfl) (hb hby d10_20) (fun _ _ => ⟨rfl, rfl, (by decide : 1 + 0 ≤ _), (by decide : 6 + 0 ≤ _)⟩)
  dsimp only [Pt.U, Pt.locs, Pt.cells, Pt.slots] at X7 l7 y7 z7 st7 hQ7
  subst l7 y7 z7
  obtain ⟨rfl, Nq7, Kq7, Fq7_0⟩ := hQ7
  have Nf7 := Fr.app Nf5 Nq7
  have K7 : Keep h0 T7.heap [] := K5.trans Kq7 (allS (Or.inr sz_b_1) all0)
  have Z7 : n0 ≤ T7.heap.size := Nat.le_trans Z5 Kq7.1
  refine own_fw (A' := (T7.setTop (mkF m 33 #[rv a1, iv 3, iv 3, rv b_1, iv 3] [.ref b_1]))) (fun t k => st7 _ (XS.iinc X7.here hx rfl (hb hby d10_23) rfl (l' := #[rv a1, iv 3, iv 3, rv b_1, iv 2]) rfl (XS.iinc X7.here hx rfl (hb hby d10_26) rfl (l' := #[rv a1, iv 3, iv 3, rv b_1, iv 3]) rfl (XS.goto X7.here hx rfl (pc0 := 29) (pc' := 8) rfl (hb hby d10_29) (by decide) (by decide) (XS.iload X7.here hx rfl (hb hby d10_8) rfl (XS.iloadN X7.here hx rfl (hb hby d10_10) rfl (XS.icmpYes X7.here hx rfl (pc0 := 11) (pc' := 32) rfl (hb hby d10_11) rfl (XT.ii_ge_t (by decide)) (by decide) (by decide) (XS.aloadN X7.here hx rfl (hb hby d10_32) rfl rfl k)))))))) ?_
  obtain ⟨fs, hr, hrun, hended, hW, hsame⟩ := X7.leave (v := some (.ref b_1)) (fun h => by rw [Bd.returns] at h; cases h)
  refine ⟨_, _, ?_, hrun, hended, _, _, rfl, ?_, ⟨_, rfl⟩, hW, hsame.mono (by decide) (by decide)⟩
  · exact retOut X7 hx Bd.returns rfl (Or.inr (Or.inr (Or.inr (Or.inr ⟨rfl, rfl, rfl⟩)))) (hb hby d10_33) hr
  · show Q_rmToB3 Z a1 kc c0 c1 c2 h0 n0 _ T7.heap _
    exact ⟨b_1, kb_1, rfl, Nf7, K7, Fq7_0, sz_b_1⟩
theorem ef_rmCoderU3 (m : MethodId) (a1 : Addr) : entryFrame m #[(.ref a1), (.int 3)] 2 = mkF m 0 #[.val (.ref a1), .val (.int 3)] [] := by first | (simp [entryFrame, mkF, argsToLocals, Value.category]; done) | rfl
def Q_rmCoderU3 (Z : State) (a1 : Addr) (kb : ClassId) (x0 x1 x2 x3 x4 x5 : Int32) (h0 : Heap) (n0 : Nat) (v : Option Value) (h : Heap) (L : List Loc) : Prop := v = some (.int 1) ∧ Fr n0 L ∧ h = h0
theorem rmCoderU3 (l : Launch) (Z : State) (a0 : Array Value) (hw : ∀ d ∈ tables_1, d.before a0 Z = true) (ws : List Jvm.Cond) (a1 : Addr) (kb : ClassId) (x0 x1 x2 x3 x4 x5 : Int32) (h0 : Heap) (n0 : Nat) (Z0 : n0 ≤ h0.size) (P0 : Arv Z h0 a1 kb .byte (6 : Int32) [(.int x0), (.int x1), (.int x2), (.int x3), (.int x4), (.int x5)] (.int 0)) :
    MetFree l yq5 (head1 (Jvm.Cond.code yq5 jdk_52_method_15_code 2 (some .byte) :: ws) rq0) (fun a U => a = #[(.ref a1), (.int 3)] ∧ Z.Warmed39 U.vm ∧ U.heap = h0) (fun _ _ _ _ _ => True) (fun _ U o U' => ∃ v L, o = .returned v ∧ Q_rmCoderU3 Z a1 kb x0 x1 x2 x3 x4 x5 h0 n0 v U'.heap L ∧ FrameEnd U o U' L rq0.cells rq0.slots) := by
  refine MetFree.of_bodySF (plainFor_of_name pn_java_lang_StringUTF16) hisR ?_
  intro p e s m args below meth c s₁ Bd hml0 hP hK
  obtain ⟨rfl, hZ, hh⟩ := hP
  have hx := Bd.exec
  have hby := Bd.bytes
  have hml : c.maxLocals = 2 := hml0
  have hown : s.vm.findClass "java/lang/StringUTF16" = some m.cls := findClass_of_methodNamed Bd.named
  have hnm := (name_of_methodNamed Bd.named Bd.method).1
  have X0 : Stand p l e rq0 s m #[(.ref a1), (.int 3)] below meth c s₁ [] 0 0 := Stand.of_body Bd
  have e0 : s₁.heap = h0 := by rw [← hh, Bd.state]; rfl
  have N0 := Fr.nil n0
  refine own_fw (A' := (s₁.setTop (mkF m 2 #[rv a1, iv 3] [.ref a1, .int 3]))) (fun t k => castTop (ef_rmCoderU3 m a1) (XS.iloadN X0.here hx rfl (hb hby d15_0) rfl (XS.aloadN X0.here hx rfl (hb hby d15_1) rfl rfl k))) ?_
  obtain ⟨cl1, Ar1, q1, S1, M1, H1, G1⟩ := id P0
  refine own_fw (A' := (s₁.setTop (mkF m 3 #[rv a1, iv 3] [.int 6, .int 3]))) (fun t k => X0.arraylength hx (by rw [e0]; exact Ar1.1) (State.isArrayOf_alike hZ.alike Ar1.2.1) (g := (mkF m 2 #[rv a1, iv 3] [.ref a1, .int 3])) rfl rfl (hb hby d15_2) _ (by rw [len_of S1 M1]; exact k)) ?_
  refine own_fw (A' := (s₁.setTop (mkF m 8 #[rv a1, iv 3] [.int 1]))) (fun t k => XS.isub X0.here hx rfl (hb hby d15_3) rfl (XS.bipush X0.here hx rfl (hb hby d15_4) (XS.iushr X0.here hx rfl (hb hby d15_6) rfl (XS.i2b X0.here hx rfl (hb hby d15_7) rfl k)))) ?_
  obtain ⟨fs, hr, hrun, hended, hW, hsame⟩ := X0.leave (v := some (.int 1)) (fun h => by rw [Bd.returns] at h; cases h)
  refine ⟨_, _, ?_, hrun, hended, _, _, rfl, ?_, ⟨_, rfl⟩, hW, hsame.mono (by decide) (by decide)⟩
  · exact retOut X0 hx Bd.returns rfl (Or.inl ⟨rfl, by simp, _, rfl⟩) (hb hby d15_8) hr
  · show Q_rmCoderU3 Z a1 kb x0 x1 x2 x3 x4 x5 h0 n0 _ s₁.heap _
    rw [e0]
    exact ⟨rfl, N0, rfl⟩
theorem ef_rmCmpA3U (m : MethodId) (a1 a3 : Addr) : entryFrame m #[(.ref a1), (.int 0), (.ref a3), (.int 0), (.int 3)] 7 = mkF m 0 #[.val (.ref a1), .val (.int 0), .val (.ref a3), .val (.int 0), .val (.int 3), .unset, .unset] [] := by first | (simp [entryFrame, mkF, argsToLocals, Value.category]; done) | rfl
def Q_rmCmpA3U (Z : State) (a1 a3 : Addr) (kc kb : ClassId) (c0 c1 c2 : Int32) (h0 : Heap) (n0 : Nat) (v : Option Value) (h : Heap) (L : List Loc) : Prop := ∃ r : Int32, v = some (.int r) ∧ Fr n0 L ∧ Keep h0 h [a3] ∧ (own_big [c0, c1, c2] r)
theorem rmCmpA3U (l : Launch) (Z : State) (a0 : Array Value) (hw : ∀ d ∈ tables_1, d.before a0 Z = true) (ws : List Jvm.Cond) (a1 a3 : Addr) (kc kb : ClassId) (c0 c1 c2 : Int32) (h0 : Heap) (n0 : Nat) (Z0 : n0 ≤ h0.size) (P0 : Arv Z h0 a1 kc .char (3 : Int32) [(.int c0), (.int c1), (.int c2)] (.int 0)) (P1 : Arv Z h0 a3 kb .byte (3 : Int32) [(.int 0), (.int 0), (.int 0)] (.int 0)) (g_a3 : n0 ≤ a3) (ne_a1_a3 : a1 ≠ a3) (hbig : (255 : Int32) < c0 ∨ (255 : Int32) < c1 ∨ (255 : Int32) < c2) :
    MetFree l yq2 (head1 (Jvm.Cond.code yq2 jdk_52_method_21_code 7 (some .int) :: ws) rq0) (fun a U => a = #[(.ref a1), (.int 0), (.ref a3), (.int 0), (.int 3)] ∧ Z.Warmed39 U.vm ∧ U.heap = h0) (fun _ _ _ _ _ => True) (fun _ U o U' => ∃ v L, o = .returned v ∧ Q_rmCmpA3U Z a1 a3 kc kb c0 c1 c2 h0 n0 v U'.heap L ∧ FrameEnd U o U' L rq0.cells rq0.slots) := by
  refine MetFree.of_bodySF (plainFor_of_name pn_java_lang_StringUTF16) hisR ?_
  intro p e s m args below meth c s₁ Bd hml0 hP hK
  obtain ⟨rfl, hZ, hh⟩ := hP
  have hx := Bd.exec
  have hby := Bd.bytes
  have hml : c.maxLocals = 7 := hml0
  have hown : s.vm.findClass "java/lang/StringUTF16" = some m.cls := findClass_of_methodNamed Bd.named
  have hnm := (name_of_methodNamed Bd.named Bd.method).1
  have X0 : Stand p l e rq0 s m #[(.ref a1), (.int 0), (.ref a3), (.int 0), (.int 3)] below meth c s₁ [] 0 0 := Stand.of_body Bd
  have e0 : s₁.heap = h0 := by rw [← hh, Bd.state]; rfl
  have N0 := Fr.nil n0
  refine own_fw (A' := (s₁.setTop (mkF m 12 #[rv a1, iv 0, rv a3, iv 0, iv 3, iv 0, .unset] [.int 0, .ref a1]))) (fun t k => castTop (ef_rmCmpA3U m a1 a3) (XS.iconst X0.here hx rfl (hb hby d9_0) (XS.istore X0.here hx rfl (hb hby d9_1) rfl (l' := #[rv a1, iv 0, rv a3, iv 0, iv 3, iv 0, .unset]) rfl (XS.iload X0.here hx rfl (hb hby d9_3) rfl (XS.iload X0.here hx rfl (hb hby d9_5) rfl (XS.icmpNo X0.here hx rfl (hb hby d9_7) rfl (XT.ii_ge_f (by decide)) (XS.aloadN X0.here hx rfl (hb hby d9_10) rfl rfl (XS.iloadN X0.here hx rfl (hb hby d9_11) rfl k)))))))) ?_
  obtain ⟨cl1, Ar1, q1, S1, M1, H1, G1⟩ := id P0
  have hin1 : ¬ ((0 : Int32) < 0 ∨ cl1.slots.size ≤ ((0 : Int32)).toNatClampNeg) := inb_of S1 ⟨by decide, by decide⟩
  have hat1 : cl1.slots[((0 : Int32)).toNatClampNeg]? = some (.int c0) := H1.at hin1 rfl
  refine own_fw (A' := (s₁.setTop (mkF m 20 #[rv a1, iv 0, rv a3, iv 0, iv 3, iv 0, iv c0] [.int 255, .int c0]))) (fun t k => X0.caload hx (j := (0 : Int32)) (v := (.int c0)) (by rw [e0]; exact Ar1.1) (State.isArrayOf_alike hZ.alike Ar1.2.1) Ar1.2.2 hin1 hat1 (g := (mkF m 12 #[rv a1, iv 0, rv a3, iv 0, iv 3, iv 0, .unset] [.int 0, .ref a1])) rfl rfl (hb hby d9_12) _ (XS.istore X0.here hx rfl (hb hby d9_13) rfl (l' := #[rv a1, iv 0, rv a3, iv 0, iv 3, iv 0, iv c0]) rfl (XS.iload X0.here hx rfl (hb hby d9_15) rfl (XS.sipush X0.here hx rfl (hb hby d9_17) k)))) ?_
  by_cases hc0 : (255 : Int32) < c0
  · refine own_fw (A' := (s₁.setTop (mkF m 25 #[rv a1, iv 0, rv a3, iv 0, iv 3, iv 0, iv c0] [.int 0]))) (fun t k => XS.icmpNo X0.here hx rfl (hb hby d9_20) rfl (XT.ii_le_f hc0) (XS.iload X0.here hx rfl (hb hby d9_23) rfl k)) ?_
    obtain ⟨fs, hr, hrun, hended, hW, hsame⟩ := X0.leave (v := some (.int 0)) (fun h => by rw [Bd.returns] at h; cases h)
    refine ⟨_, _, ?_, hrun, hended, _, _, rfl, ?_, ⟨_, rfl⟩, hW, hsame.mono (by decide) (by decide)⟩
    · exact retOut X0 hx Bd.returns rfl (Or.inl ⟨rfl, by simp, _, rfl⟩) (hb hby d9_25) hr
    · show Q_rmCmpA3U Z a1 a3 kc kb c0 c1 c2 h0 n0 _ s₁.heap _
      rw [e0]
      exact ⟨(0 : Int32), rfl, N0, (Keep.refl h0 [a3]), ⟨by decide, (by decide : (0 : Int32) < (3 : Int32)), hc0⟩⟩
  · refine own_fw (A' := (s₁.setTop (mkF m 31 #[rv a1, iv 0, rv a3, iv 0, iv 3, iv 0, iv c0] [.int (c0.toInt8.toInt32), .int 0, .ref a3]))) (fun t k => XS.icmpYes X0.here hx rfl (pc0 := 20) (pc' := 26) rfl (hb hby d9_20) rfl (XT.ii_le_t hc0) (by decide) (by decide) (XS.aloadN X0.here hx rfl (hb hby d9_26) rfl rfl (XS.iloadN X0.here hx rfl (hb hby d9_27) rfl (XS.iload X0.here hx rfl (hb hby d9_28) rfl (XS.i2b X0.here hx rfl (hb hby d9_30) rfl k))))) ?_
    obtain ⟨cl2, Ar2, q2, S2, M2, H2, G2⟩ := id P1
    have hin2 : ¬ ((0 : Int32) < 0 ∨ cl2.slots.size ≤ ((0 : Int32)).toNatClampNeg) := inb_of S2 ⟨by decide, by decide⟩
    obtain ⟨T2, h2, X2, e2, W2, st2⟩ := stB X0 hx hZ e0 Ar2 (j := (0 : Int32)) hin2 (g := (mkF m 31 #[rv a1, iv 0, rv a3, iv 0, iv 3, iv 0, iv c0] [.int (c0.toInt8.toInt32), .int 0, .ref a3])) rfl rfl (hb hby d9_31)
    rw [own_narB] at W2
    have V2 : Arv Z h2 a3 kb .byte (3 : Int32) [(.int (c0.toInt8.toInt32)), (.int 0), (.int 0)] (.int 0) := Arv.set Ar2 q2 S2 M2 H2 G2 (fits_nar_byte _) W2 0 rfl (Nat.le_of_ble_eq_true rfl)
    have Nf2 := Fr.snoc X2 N0 g_a3
    have K2 : Keep h0 h2 [a3] := (Keep.refl h0 [a3]).wr W2 (Or.inl (List.mem_of_getElem? (i := 0) rfl))
    have Z2 : n0 ≤ h2.size := Nat.le_trans Z0 (Keep.of_wr W2).1
    refine own_fw (A' := (T2.setTop (mkF m 12 #[rv a1, iv 1, rv a3, iv 1, iv 3, iv 1, iv c0] [.int 1, .ref a1]))) (fun t k => st2 _ (XS.iinc X2.here hx rfl (hb hby d9_32) rfl (l' := #[rv a1, iv 1, rv a3, iv 0, iv 3, iv 0, iv c0]) rfl (XS.iinc X2.here hx rfl (hb hby d9_35) rfl (l' := #[rv a1, iv 1, rv a3, iv 1, iv 3, iv 0, iv c0]) rfl (XS.iinc X2.here hx rfl (hb hby d9_38) rfl (l' := #[rv a1, iv 1, rv a3, iv 1, iv 3, iv 1, iv c0]) rfl (XS.goto X2.here hx rfl (pc0 := 41) (pc' := 3) rfl (hb hby d9_41) (by decide) (by decide) (XS.iload X2.here hx rfl (hb hby d9_3) rfl (XS.iload X2.here hx rfl (hb hby d9_5) rfl (XS.icmpNo X2.here hx rfl (hb hby d9_7) rfl (XT.ii_ge_f (by decide)) (XS.aloadN X2.here hx rfl (hb hby d9_10) rfl rfl (XS.iloadN X2.here hx rfl (hb hby d9_11) rfl k)))))))))) ?_
    obtain ⟨cl3, Ar3, q3, S3, M3, H3, G3⟩ := id (P0.other W2 ne_a1_a3)
    have hin3 : ¬ ((1 : Int32) < 0 ∨ cl3.slots.size ≤ ((1 : Int32)).toNatClampNeg) := inb_of S3 ⟨by decide, by decide⟩
    have hat3 : cl3.slots[((1 : Int32)).toNatClampNeg]? = some (.int c1) := H3.at hin3 rfl
    refine own_fw (A' := (T2.setTop (mkF m 20 #[rv a1, iv 1, rv a3, iv 1, iv 3, iv 1, iv c1] [.int 255, .int c1]))) (fun t k => X2.caload hx (j := (1 : Int32)) (v := (.int c1)) (by rw [e2]; exact Ar3.1) (State.isArrayOf_alike hZ.alike Ar3.2.1) Ar3.2.2 hin3 hat3 (g := (mkF m 12 #[rv a1, iv 1, rv a3, iv 1, iv 3, iv 1, iv c0] [.int 1, .ref a1])) rfl rfl (hb hby d9_12) _ (XS.istore X2.here hx rfl (hb hby d9_13) rfl (l' := #[rv a1, iv 1, rv a3, iv 1, iv 3, iv 1, iv c1]) rfl (XS.iload X2.here hx rfl (hb hby d9_15) rfl (XS.sipush X2.here hx rfl (hb hby d9_17) k)))) ?_
    by_cases hc1 : (255 : Int32) < c1
    · refine own_fw (A' := (T2.setTop (mkF m 25 #[rv a1, iv 1, rv a3, iv 1, iv 3, iv 1, iv c1] [.int 1]))) (fun t k => XS.icmpNo X2.here hx rfl (hb hby d9_20) rfl (XT.ii_le_f hc1) (XS.iload X2.here hx rfl (hb hby d9_23) rfl k)) ?_
      obtain ⟨fs, hr, hrun, hended, hW, hsame⟩ := X2.leave (v := some (.int 1)) (fun h => by rw [Bd.returns] at h; cases h)
      refine ⟨_, _, ?_, hrun, hended, _, _, rfl, ?_, ⟨_, rfl⟩, hW, hsame.mono (by decide) (by decide)⟩
      · exact retOut X2 hx Bd.returns rfl (Or.inl ⟨rfl, by simp, _, rfl⟩) (hb hby d9_25) hr
      · show Q_rmCmpA3U Z a1 a3 kc kb c0 c1 c2 h0 n0 _ T2.heap _
        rw [e2]
        exact ⟨(1 : Int32), rfl, Nf2, K2, ⟨by decide, (by decide : (1 : Int32) < (3 : Int32)), hc1⟩⟩
    · refine own_fw (A' := (T2.setTop (mkF m 31 #[rv a1, iv 1, rv a3, iv 1, iv 3, iv 1, iv c1] [.int (c1.toInt8.toInt32), .int 1, .ref a3]))) (fun t k => XS.icmpYes X2.here hx rfl (pc0 := 20) (pc' := 26) rfl (hb hby d9_20) rfl (XT.ii_le_t hc1) (by decide) (by decide) (XS.aloadN X2.here hx rfl (hb hby d9_26) rfl rfl (XS.iloadN X2.here hx rfl (hb hby d9_27) rfl (XS.iload X2.here hx rfl (hb hby d9_28) rfl (XS.i2b X2.here hx rfl (hb hby d9_30) rfl k))))) ?_
      obtain ⟨cl4, Ar4, q4, S4, M4, H4, G4⟩ := id V2
      have hin4 : ¬ ((1 : Int32) < 0 ∨ cl4.slots.size ≤ ((1 : Int32)).toNatClampNeg) := inb_of S4 ⟨by decide, by decide⟩
      obtain ⟨T4, h4, X4, e4, W4, st4⟩ := stB X2 hx hZ e2 Ar4 (j := (1 : Int32)) hin4 (g := (mkF m 31 #[rv a1, iv 1, rv a3, iv 1, iv 3, iv 1, iv c1] [.int (c1.toInt8.toInt32), .int 1, .ref a3])) rfl rfl (hb hby d9_31)
      rw [own_narB] at W4
      have V4 : Arv Z h4 a3 kb .byte (3 : Int32) [(.int (c0.toInt8.toInt32)), (.int (c1.toInt8.toInt32)), (.int 0)] (.int 0) := Arv.set Ar4 q4 S4 M4 H4 G4 (fits_nar_byte _) W4 1 rfl (Nat.le_of_ble_eq_true rfl)
      have Nf4 := Fr.snoc X4 Nf2 g_a3
      have K4 : Keep h0 h4 [a3] := K2.wr W4 (Or.inl (List.mem_of_getElem? (i := 0) rfl))
      have Z4 : n0 ≤ h4.size := Nat.le_trans Z2 (Keep.of_wr W4).1
      refine own_fw (A' := (T4.setTop (mkF m 12 #[rv a1, iv 2, rv a3, iv 2, iv 3, iv 2, iv c1] [.int 2, .ref a1]))) (fun t k => st4 _ (XS.iinc X4.here hx rfl (hb hby d9_32) rfl (l' := #[rv a1, iv 2, rv a3, iv 1, iv 3, iv 1, iv c1]) rfl (XS.iinc X4.here hx rfl (hb hby d9_35) rfl (l' := #[rv a1, iv 2, rv a3, iv 2, iv 3, iv 1, iv c1]) rfl (XS.iinc X4.here hx rfl (hb hby d9_38) rfl (l' := #[rv a1, iv 2, rv a3, iv 2, iv 3, iv 2, iv c1]) rfl (XS.goto X4.here hx rfl (pc0 := 41) (pc' := 3) rfl (hb hby d9_41) (by decide) (by decide) (XS.iload X4.here hx rfl (hb hby d9_3) rfl (XS.iload X4.here hx rfl (hb hby d9_5) rfl (XS.icmpNo X4.here hx rfl (hb hby d9_7) rfl (XT.ii_ge_f (by decide)) (XS.aloadN X4.here hx rfl (hb hby d9_10) rfl rfl (XS.iloadN X4.here hx rfl (hb hby d9_11) rfl k)))))))))) ?_
      obtain ⟨cl5, Ar5, q5, S5, M5, H5, G5⟩ := id ((P0.other W2 ne_a1_a3).other W4 ne_a1_a3)
      have hin5 : ¬ ((2 : Int32) < 0 ∨ cl5.slots.size ≤ ((2 : Int32)).toNatClampNeg) := inb_of S5 ⟨by decide, by decide⟩
      have hat5 : cl5.slots[((2 : Int32)).toNatClampNeg]? = some (.int c2) := H5.at hin5 rfl
      refine own_fw (A' := (T4.setTop (mkF m 25 #[rv a1, iv 2, rv a3, iv 2, iv 3, iv 2, iv c2] [.int 2]))) (fun t k => X4.caload hx (j := (2 : Int32)) (v := (.int c2)) (by rw [e4]; exact Ar5.1) (State.isArrayOf_alike hZ.alike Ar5.2.1) Ar5.2.2 hin5 hat5 (g := (mkF m 12 #[rv a1, iv 2, rv a3, iv 2, iv 3, iv 2, iv c1] [.int 2, .ref a1])) rfl rfl (hb hby d9_12) _ (XS.istore X4.here hx rfl (hb hby d9_13) rfl (l' := #[rv a1, iv 2, rv a3, iv 2, iv 3, iv 2, iv c2]) rfl (XS.iload X4.here hx rfl (hb hby d9_15) rfl (XS.sipush X4.here hx rfl (hb hby d9_17) (XS.icmpNo X4.here hx rfl (hb hby d9_20) rfl (XT.ii_le_f ((hbig.resolve_left hc0).resolve_left hc1)) (XS.iload X4.here hx rfl (hb hby d9_23) rfl k)))))) ?_
      obtain ⟨fs, hr, hrun, hended, hW, hsame⟩ := X4.leave (v := some (.int 2)) (fun h => by rw [Bd.returns] at h; cases h)
      refine ⟨_, _, ?_, hrun, hended, _, _, rfl, ?_, ⟨_, rfl⟩, hW, hsame.mono (by decide) (by decide)⟩
      · exact retOut X4 hx Bd.returns rfl (Or.inl ⟨rfl, by simp, _, rfl⟩) (hb hby d9_25) hr
      · show Q_rmCmpA3U Z a1 a3 kc kb c0 c1 c2 h0 n0 _ T4.heap _
        rw [e4]
        exact ⟨(2 : Int32), rfl, Nf4, K4, ⟨by decide, (by decide : (2 : Int32) < (3 : Int32)), ((hbig.resolve_left hc0).resolve_left hc1)⟩⟩
theorem ef_rmCmpB3U (m : MethodId) (a1 : Addr) : entryFrame m #[(.ref a1), (.int 0), (.int 3)] 6 = mkF m 0 #[.val (.ref a1), .val (.int 0), .val (.int 3), .unset, .unset, .unset] [] := by first | (simp [entryFrame, mkF, argsToLocals, Value.category]; done) | rfl
def Q_rmCmpB3U (Z : State) (a1 : Addr) (kc : ClassId) (c0 c1 c2 : Int32) (h0 : Heap) (n0 : Nat) (v : Option Value) (h : Heap) (L : List Loc) : Prop := ∃ b : Addr, ∃ kb : ClassId, v = some (.ref b) ∧ Fr n0 L ∧ Keep h0 h [] ∧ Arv Z h b kb .byte (6 : Int32) [(.int (own_lo c0)), (.int (own_hb c0)), (.int (own_lo c1)), (.int (own_hb c1)), (.int (own_lo c2)), (.int (own_hb c2))] (.int 0) ∧ (h0.size ≤ b)
theorem rmCmpB3U (l : Launch) (Z : State) (a0 : Array Value) (hw : ∀ d ∈ tables_1, d.before a0 Z = true) (ws : List Jvm.Cond) (a1 : Addr) (kc : ClassId) (c0 c1 c2 : Int32) (h0 : Heap) (n0 : Nat) (Z0 : n0 ≤ h0.size) (P0 : Arv Z h0 a1 kc .char (3 : Int32) [(.int c0), (.int c1), (.int c2)] (.int 0)) (P1 : Sta Z h0 "java/lang/StringUTF16" "$assertionsDisabled" "Z" (.int 1)) (P2 : Sta Z h0 "java/lang/StringUTF16" "HI_BYTE_SHIFT" "I" (.int 0)) (P3 : Sta Z h0 "java/lang/StringUTF16" "LO_BYTE_SHIFT" "I" (.int 8)) (hbig : (255 : Int32) < c0 ∨ (255 : Int32) < c1 ∨ (255 : Int32) < c2) (hr0 : own_c16 c0) (hr1 : own_c16 c1) (hr2 : own_c16 c2) :
    MetFree l yq4 (head1 (Jvm.Cond.code yq4 jdk_52_method_16_code 6 (some (.array .byte)) :: ws) rq35) (fun a U => a = #[(.ref a1), (.int 0), (.int 3)] ∧ Z.Warmed39 U.vm ∧ U.heap = h0) (fun _ _ _ _ _ => True) (fun _ U o U' => ∃ v L, o = .returned v ∧ Q_rmCmpB3U Z a1 kc c0 c1 c2 h0 n0 v U'.heap L ∧ FrameEnd U o U' L rq35.cells rq35.slots) := by
  refine MetFree.of_bodySF (plainFor_of_name pn_java_lang_StringUTF16) hisR ?_
  intro p e s m args below meth c s₁ Bd hml0 hP hK
  obtain ⟨rfl, hZ, hh⟩ := hP
  have hx := Bd.exec
  have hby := Bd.bytes
  have hml : c.maxLocals = 6 := hml0
  have hown : s.vm.findClass "java/lang/StringUTF16" = some m.cls := findClass_of_methodNamed Bd.named
  have hnm := (name_of_methodNamed Bd.named Bd.method).1
  have X0 : Stand p l e rq35 s m #[(.ref a1), (.int 0), (.int 3)] below meth c s₁ [] 0 0 := Stand.of_body Bd
  have e0 : s₁.heap = h0 := by rw [← hh, Bd.state]; rfl
  have N0 := Fr.nil n0
  refine own_fw (A' := (s₁.setTop (mkF m 1 #[rv a1, iv 0, iv 3, .unset, .unset, .unset] [.int 3]))) (fun t k => castTop (ef_rmCmpB3U m a1) (XS.iloadN X0.here hx rfl (hb hby d8_0) rfl k)) ?_
  obtain ⟨T1, h1, k1, X1, e1, E1, A1, st1⟩ := newP X0 hx hZ (own_w hw 37 rfl) e0 (g := (mkF m 1 #[rv a1, iv 0, iv 3, .unset, .unset, .unset] [.int 3])) rfl (hb hby d8_1) rfl (by decide) (cap := 3) (by decide) (by decide) (by decide) (by decide)
  obtain ⟨b1, gb1⟩ : ∃ z, z = h0.size := ⟨_, rfl⟩
  have g_b1 : n0 ≤ b1 := Nat.le_trans Z0 (Nat.le_of_eq gb1.symm)
  have sz_b1 : h0.size ≤ b1 := Nat.le_trans (Keep.refl h0 []).1 (Nat.le_of_eq gb1.symm)
  have ne_a1_b1 : a1 ≠ b1 := Nat.ne_of_lt (Nat.lt_of_lt_of_le P0.lt (Nat.le_of_eq gb1.symm))
  rw [← gb1] at A1 st1
  have V_b1 : Arv Z h1 b1 k1 .byte (3 : Int32) [(.int 0), (.int 0), (.int 0)] (.int 0) := (Arv.new A1 (by decide)).pad (pad_rep [] (.int 0) 3)
  have K1 : Keep h0 h1 [] := (Keep.refl h0 []).ext E1
  have Z1 : n0 ≤ h1.size := Nat.le_trans Z0 E1.1
  refine own_fw (A' := (T1.setTop (mkF m 9 #[rv a1, iv 0, iv 3, rv b1, .unset, .unset] [.int 3, .int 0, .ref b1, .int 0, .ref a1]))) (fun t k => st1 _ (XS.astoreN X1.here hx rfl (hb hby d8_3) rfl rfl (l' := #[rv a1, iv 0, iv 3, rv b1, .unset, .unset]) rfl (XS.aloadN X1.here hx rfl (hb hby d8_4) rfl rfl (XS.iloadN X1.here hx rfl (hb hby d8_5) rfl (XS.aloadN X1.here hx rfl (hb hby d8_6) rfl rfl (XS.iconst X1.here hx rfl (hb hby d8_7) (XS.iloadN X1.here hx rfl (hb hby d8_8) rfl k))))))) ?_
  obtain ⟨_, _, ⟨T2, L2, k2, n2⟩, -, X2, ⟨Lc2, hQ2, l2, y2, z2⟩, st2⟩ := Jvm.LawKit.callS X1 hx (y := yq2) hown (mvT hZ (own_w hw 38 rfl)) (mvT hZ (own_w hw 39 rfl)) (mvT hZ (own_w hw 35 rfl)) (mvT hZ (own_w hw 40 rfl)) (by decide) (backOf (W := 0) (rmCmpA3U l Z a0 hw [] a1 b1 kc k1 c0 c1 c2 h1 n0 Z1 (P0.ext E1) V_b1 g_b1 ne_a1_b1 hbig) hZ (own_w hw 40 rfl) (own_w hw 35 rfl) (by decide) (by decide)) (g := (mkF m 9 #[rv a1, iv 0, iv 3, rv b1, .unset, .unset] [.int 3, .int 0, .ref b1, .int 0, .ref a1])) rfl (by rw [hml]; rfl) (argsL := [(.ref a1), (.int 0), (.ref b1), (.int 0), (.int 3)]) (rest := []) (lenOf pd___CI_BII_I rfl) rfl (by show 2 * 0 + _ ≤ _; exact Nat.le_of_eq rfl) (hb hby d8_9) (fun _ _ => ⟨rfl, e1, (by decide : 1 + 0 ≤ _), (by decide : 3 + 0 ≤ _)⟩)
  dsimp only [Pt.U, Pt.locs, Pt.cells, Pt.slots] at X2 l2 y2 z2 st2 hQ2
  subst l2 y2 z2
  obtain ⟨r_2, rfl, Nq2, Kq2, hk_2⟩ := hQ2
  have Nf2 := Fr.app N0 Nq2
  have K2 : Keep h0 T2.heap [] := K1.trans Kq2 (allS (Or.inr sz_b1) all0)
  have Z2 : n0 ≤ T2.heap.size := Nat.le_trans Z1 Kq2.1
  refine own_fw (A' := (T2.setTop (mkF m 23 #[rv a1, iv 0, iv 3, rv b1, iv r_2, .unset] [.int 3, .int 0, .ref a1]))) (fun t k => st2 _ (XS.istore X2.here hx rfl (hb hby d8_12) rfl (l' := #[rv a1, iv 0, iv 3, rv b1, iv r_2, .unset]) rfl (XS.iload X2.here hx rfl (hb hby d8_14) rfl (XS.iloadN X2.here hx rfl (hb hby d8_16) rfl (XS.icmpNo X2.here hx rfl (hb hby d8_17) rfl (XT.ii_eq_f (own_bne hk_2)) (XS.aloadN X2.here hx rfl (hb hby d8_20) rfl rfl (XS.iloadN X2.here hx rfl (hb hby d8_21) rfl (XS.iloadN X2.here hx rfl (hb hby d8_22) rfl k)))))))) ?_
  obtain ⟨_, _, ⟨T3, L3, k3, n3⟩, -, X3, ⟨Lc3, hQ3, l3, y3, z3⟩, st3⟩ := Jvm.LawKit.callS X2 hx (y := yq24) hown (mvT hZ (own_w hw 41 rfl)) (mvT hZ (own_w hw 42 rfl)) (mvT hZ (own_w hw 35 rfl)) (mvT hZ (own_w hw 43 rfl)) (by decide) (backOf (W := 0) (rmToB3 l Z a0 hw [] a1 kc c0 c1 c2 T2.heap n0 Z2 ((P0.ext E1).keep Kq2 (ninS ne_a1_b1 nin0)) (own_staKeep (P1.ext E1) Kq2 (allS (own_plainV V_b1) all0)) (own_staKeep (P2.ext E1) Kq2 (allS (own_plainV V_b1) all0)) (own_staKeep (P3.ext E1) Kq2 (allS (own_plainV V_b1) all0))) hZ (own_w hw 43 rfl) (own_w hw 35 rfl) (by decide) (by decide)) (g := (mkF m 23 #[rv a1, iv 0, iv 3, rv b1, iv r_2, .unset] [.int 3, .int 0, .ref a1])) rfl (by rw [hml]; rfl) (argsL := [(.ref a1), (.int 0), (.int 3)]) (rest := []) (lenOf pd___CII__B rfl) rfl (by show 2 * 0 + _ ≤ _; exact Nat.le_of_eq rfl) (hb hby d8_23) (fun _ _ => ⟨rfl, rfl, (by decide : 1 + 1 ≤ _), (by decide : 3 + 6 ≤ _)⟩)
  dsimp only [Pt.U, Pt.locs, Pt.cells, Pt.slots] at X3 l3 y3 z3 st3 hQ3
  subst l3 y3 z3
  obtain ⟨b_3, kb_3, rfl, Nq3, Kq3, Fq3_0, gb_3⟩ := hQ3
  have Nf3 := Fr.app Nf2 Nq3
  have K3 : Keep h0 T3.heap [] := K2.trans Kq3 all0
  have sz_b_3 : h0.size ≤ b_3 := Nat.le_trans K2.1 gb_3
  have g_b_3 : n0 ≤ b_3 := Nat.le_trans Z2 gb_3
  have ne_a1_b_3 : a1 ≠ b_3 := Nat.ne_of_lt (Nat.lt_of_lt_of_le ((P0.ext E1).keep Kq2 (ninS ne_a1_b1 nin0)).lt gb_3)
  have Z3 : n0 ≤ T3.heap.size := Nat.le_trans Z2 Kq3.1
  refine own_fw (A' := (T3.setTop (mkF m 32 #[rv a1, iv 0, iv 3, rv b1, iv r_2, rv b_3] [.int r_2, .ref b_3]))) (fun t k => st3 _ (XS.astore X3.here hx rfl (hb hby d8_26) rfl rfl (l' := #[rv a1, iv 0, iv 3, rv b1, iv r_2, rv b_3]) rfl (XS.aload X3.here hx rfl (hb hby d8_28) rfl rfl (XS.iload X3.here hx rfl (hb hby d8_30) rfl k)))) ?_
  obtain ⟨_, _, ⟨T4, L4, k4, n4⟩, -, X4, ⟨Lc4, hQ4, l4, y4, z4⟩, st4⟩ := Jvm.LawKit.callS X3 hx (y := yq1) hown (mvT hZ (own_w hw 57 rfl)) (mvT hZ (own_w hw 58 rfl)) (mvT hZ (own_w hw 35 rfl)) (mvT hZ (own_w hw 59 rfl)) (by decide) (backOf (W := 0) (rmGet l Z a0 hw [] b_3 kb_3 ([c0, c1, c2]) r_2 T3.heap n0 Z3 Fq3_0 (own_staKeep (own_staKeep (P1.ext E1) Kq2 (allS (own_plainV V_b1) all0)) Kq3 all0) (own_staKeep (own_staKeep (P2.ext E1) Kq2 (allS (own_plainV V_b1) all0)) Kq3 all0) (own_staKeep (own_staKeep (P3.ext E1) Kq2 (allS (own_plainV V_b1) all0)) Kq3 all0) (own_fine3 hr0 hr1 hr2) hk_2.1 hk_2.2.1) hZ (own_w hw 59 rfl) (own_w hw 35 rfl) (by decide) (by decide)) (g := (mkF m 32 #[rv a1, iv 0, iv 3, rv b1, iv r_2, rv b_3] [.int r_2, .ref b_3])) rfl (by rw [hml]; rfl) (argsL := [(.ref b_3), (.int r_2)]) (rest := []) (lenOf pd___BI_C rfl) rfl (by show 2 * 0 + _ ≤ _; exact Nat.le_of_eq rfl) (hb hby d8_32) (fun _ _ => ⟨rfl, rfl, (by decide : 2 + 0 ≤ _), (by decide : 9 + 0 ≤ _)⟩)
  dsimp only [Pt.U, Pt.locs, Pt.cells, Pt.slots] at X4 l4 y4 z4 st4 hQ4
  subst l4 y4 z4
  obtain ⟨rfl, Nq4, e4⟩ := hQ4
  have Nf4 := Fr.app Nf3 Nq4
  refine own_fw (A' := (T4.setTop (mkF m 56 #[rv a1, iv 0, iv 3, rv b1, iv r_2, rv b_3] [.ref b_3]))) (fun t k => st4 _ (XS.sipush X4.here hx rfl (hb hby d8_35) (XS.icmpYes X4.here hx rfl (pc0 := 38) (pc' := 54) rfl (hb hby d8_38) rfl (XT.ii_gt_t hk_2.2.2) (by decide) (by decide) (XS.aload X4.here hx rfl (hb hby d8_54) rfl rfl k)))) ?_
  obtain ⟨fs, hr, hrun, hended, hW, hsame⟩ := X4.leave (v := some (.ref b_3)) (fun h => by rw [Bd.returns] at h; cases h)
  refine ⟨_, _, ?_, hrun, hended, _, _, rfl, ?_, ⟨_, rfl⟩, hW, hsame.mono (by decide) (by decide)⟩
  · exact retOut X4 hx Bd.returns rfl (Or.inr (Or.inr (Or.inr (Or.inr ⟨rfl, rfl, rfl⟩)))) (hb hby d8_56) hr
  · show Q_rmCmpB3U Z a1 kc c0 c1 c2 h0 n0 _ T4.heap _
    rw [e4]
    exact ⟨b_3, kb_3, rfl, Nf4, K3, Fq3_0, sz_b_3⟩
theorem ef_rmStrB3U (m : MethodId) (a1 a2 : Addr) : entryFrame m #[(.ref a1), (.ref a2), (.int 0), (.int 3), .null] 6 = mkF m 0 #[.val (.ref a1), .val (.ref a2), .val (.int 0), .val (.int 3), .val .null, .unset] [] := by first | (simp [entryFrame, mkF, argsToLocals, Value.category]; done) | rfl
def Q_rmStrB3U (Z : State) (a1 a2 : Addr) (kc : ClassId) (cs c0 c1 c2 : Int32) (h0 : Heap) (n0 : Nat) (v : Option Value) (h : Heap) (L : List Loc) : Prop := ∃ b : Addr, ∃ kb : ClassId, v = none ∧ Fr n0 L ∧ Keep h0 h [a1] ∧ Exa Z h a1 "java/lang/String" ∧ Fld Z h a1 "java/lang/String" "coder" "B" (.int 1) ∧ Fld Z h a1 "java/lang/String" "value" "[B" (.ref b) ∧ Arv Z h b kb .byte (6 : Int32) [(.int (own_lo c0)), (.int (own_hb c0)), (.int (own_lo c1)), (.int (own_hb c1)), (.int (own_lo c2)), (.int (own_hb c2))] (.int 0)
theorem rmStrB3U (l : Launch) (Z : State) (a0 : Array Value) (hw : ∀ d ∈ tables_1, d.before a0 Z = true) (ws : List Jvm.Cond) (a1 a2 : Addr) (kc : ClassId) (cs c0 c1 c2 : Int32) (h0 : Heap) (n0 : Nat) (Z0 : n0 ≤ h0.size) (P0 : Exa Z h0 a1 "java/lang/String") (P1 : Fld Z h0 a1 "java/lang/String" "coder" "B" (.int 0)) (P2 : Fld Z h0 a1 "java/lang/String" "value" "[B" .null) (P3 : Arv Z h0 a2 kc .char (3 : Int32) [(.int c0), (.int c1), (.int c2)] (.int 0)) (g_a1 : n0 ≤ a1) (ne_a1_a2 : a1 ≠ a2) (P6 : Sta Z h0 "java/lang/String" "COMPACT_STRINGS" "Z" (.int cs)) (hcs : ¬ (cs = (0 : Int32))) (P8 : Sta Z h0 "java/lang/StringUTF16" "$assertionsDisabled" "Z" (.int 1)) (P9 : Sta Z h0 "java/lang/StringUTF16" "HI_BYTE_SHIFT" "I" (.int 0)) (P10 : Sta Z h0 "java/lang/StringUTF16" "LO_BYTE_SHIFT" "I" (.int 8)) (hbig : (255 : Int32) < c0 ∨ (255 : Int32) < c1 ∨ (255 : Int32) < c2) (hr0 : own_c16 c0) (hr1 : own_c16 c1) (hr2 : own_c16 c2) :
    MetFree l yq7 (head1 (Jvm.Cond.code yq7 jdk_42_method_149_code 6 none :: ws) rq36) (fun a U => a = #[(.ref a1), (.ref a2), (.int 0), (.int 3), .null] ∧ Z.Warmed39 U.vm ∧ U.heap = h0) (fun _ _ _ _ _ => True) (fun _ U o U' => ∃ v L, o = .returned v ∧ Q_rmStrB3U Z a1 a2 kc cs c0 c1 c2 h0 n0 v U'.heap L ∧ FrameEnd U o U' L rq36.cells rq36.slots) := by
  refine MetFree.of_bodySF (plainFor_of_name pn_java_lang_String) hisR ?_
  intro p e s m args below meth c s₁ Bd hml0 hP hK
  obtain ⟨rfl, hZ, hh⟩ := hP
  have hx := Bd.exec
  have hby := Bd.bytes
  have hml : c.maxLocals = 6 := hml0
  have hown : s.vm.findClass "java/lang/String" = some m.cls := findClass_of_methodNamed Bd.named
  have hnm := (name_of_methodNamed Bd.named Bd.method).1
  have X0 : Stand p l e rq36 s m #[(.ref a1), (.ref a2), (.int 0), (.int 3), .null] below meth c s₁ [] 0 0 := Stand.of_body Bd
  have e0 : s₁.heap = h0 := by rw [← hh, Bd.state]; rfl
  have N0 := Fr.nil n0
  refine own_fw (A' := (s₁.setTop (mkF m 1 #[rv a1, rv a2, iv 0, iv 3, .val (.null), .unset] [.ref a1]))) (fun t k => castTop (ef_rmStrB3U m a1 a2) (XS.aloadN X0.here hx rfl (hb hby d6_0) rfl rfl k)) ?_
  obtain ⟨T1, X1, e1, st1⟩ := initO X0 hx hZ hown (own_w hw 29 rfl) (own_w hw 30 rfl) (own_w hw 31 rfl) e0 (g := (mkF m 1 #[rv a1, rv a2, iv 0, iv 3, .val (.null), .unset] [.ref a1])) rfl (by rw [hml]; rfl) rfl (hb hby d6_1) (by decide) (W := 0) (by show 2 * 0 + _ ≤ _; exact Nat.le_of_eq rfl) (by decide)
  refine own_fw (A' := (T1.setTop (mkF m 27 #[rv a1, rv a2, iv 0, iv 3, .val (.null), .unset] []))) (fun t k => st1 _ (XS.iloadN X1.here hx rfl (hb hby d6_4) rfl (XS.ifYes X1.here hx rfl (pc0 := 5) (pc' := 27) rfl (hb hby d6_5) rfl (XT.i0_ne_t (by decide)) (by decide) (by decide) k))) ?_
  obtain ⟨T2, X2, e2, st2⟩ := getS2 X1 hx hZ hown (host := "") (Or.inl (own_w hw 32 rfl)) Via.refl e1 P6 (g := (mkF m 27 #[rv a1, rv a2, iv 0, iv 3, .val (.null), .unset] [])) rfl (hb hby d6_27)
  refine own_fw (A' := (T2.setTop (mkF m 36 #[rv a1, rv a2, iv 0, iv 3, .val (.null), .unset] [.int 3, .int 0, .ref a2]))) (fun t k => st2 _ (XS.ifNo X2.here hx rfl (hb hby d6_30) rfl (XT.i0_eq_f hcs) (XS.aloadN X2.here hx rfl (hb hby d6_33) rfl rfl (XS.iloadN X2.here hx rfl (hb hby d6_34) rfl (XS.iloadN X2.here hx rfl (hb hby d6_35) rfl k))))) ?_
  obtain ⟨_, _, ⟨T3, L3, k3, n3⟩, -, X3, ⟨Lc3, hQ3, l3, y3, z3⟩, st3⟩ := Jvm.LawKit.callS X2 hx (y := yq4) hown (mvT hZ (own_w hw 33 rfl)) (mvT hZ (own_w hw 34 rfl)) (mvT hZ (own_w hw 35 rfl)) (mvT hZ (own_w hw 36 rfl)) (by decide) (backOf (W := 0) (rmCmpB3U l Z a0 hw [] a2 kc c0 c1 c2 h0 n0 Z0 P3 P8 P9 P10 hbig hr0 hr1 hr2) hZ (own_w hw 36 rfl) (own_w hw 35 rfl) (by decide) (by decide)) (g := (mkF m 36 #[rv a1, rv a2, iv 0, iv 3, .val (.null), .unset] [.int 3, .int 0, .ref a2])) rfl (by rw [hml]; rfl) (argsL := [(.ref a2), (.int 0), (.int 3)]) (rest := []) (lenOf pd___CII__B rfl) rfl (by show 2 * 0 + _ ≤ _; exact Nat.le_of_eq rfl) (hb hby d6_36) (fun _ _ => ⟨rfl, e2, (by decide : 0 + 2 ≤ _), (by decide : 0 + 9 ≤ _)⟩)
  dsimp only [Pt.U, Pt.locs, Pt.cells, Pt.slots] at X3 l3 y3 z3 st3 hQ3
  subst l3 y3 z3
  obtain ⟨b_3, kb_3, rfl, Nq3, Kq3, Fq3_0, gb_3⟩ := hQ3
  have Nf3 := Fr.app N0 Nq3
  have K3 : Keep h0 T3.heap [a1] := (Keep.refl h0 [a1]).trans Kq3 all0
  have sz_b_3 : h0.size ≤ b_3 := Nat.le_trans (Keep.refl h0 [a1]).1 gb_3
  have g_b_3 : n0 ≤ b_3 := Nat.le_trans Z0 gb_3
  have ne_a1_b_3 : a1 ≠ b_3 := Nat.ne_of_lt (Nat.lt_of_lt_of_le P0.lt gb_3)
  have ne_a2_b_3 : a2 ≠ b_3 := Nat.ne_of_lt (Nat.lt_of_lt_of_le P3.lt gb_3)
  have Z3 : n0 ≤ T3.heap.size := Nat.le_trans Z0 Kq3.1
  refine own_fw (A' := (T3.setTop (mkF m 45 #[rv a1, rv a2, iv 0, iv 3, .val (.null), rv b_3] [.int 3, .ref b_3, .ref a1]))) (fun t k => st3 _ (XS.astore X3.here hx rfl (hb hby d6_39) rfl rfl (l' := #[rv a1, rv a2, iv 0, iv 3, .val (.null), rv b_3]) rfl (XS.aloadN X3.here hx rfl (hb hby d6_41) rfl rfl (XS.aload X3.here hx rfl (hb hby d6_42) rfl rfl (XS.iloadN X3.here hx rfl (hb hby d6_44) rfl k))))) ?_
  obtain ⟨_, _, ⟨T4, L4, k4, n4⟩, -, X4, ⟨Lc4, hQ4, l4, y4, z4⟩, st4⟩ := Jvm.LawKit.callS X3 hx (y := yq5) hown (mvT hZ (own_w hw 60 rfl)) (mvT hZ (own_w hw 61 rfl)) (mvT hZ (own_w hw 35 rfl)) (mvT hZ (own_w hw 62 rfl)) (by decide) (backOf (W := 1) (rmCoderU3 l Z a0 hw [] b_3 kb_3 (own_lo c0) (own_hb c0) (own_lo c1) (own_hb c1) (own_lo c2) (own_hb c2) T3.heap n0 Z3 Fq3_0) hZ (own_w hw 62 rfl) (own_w hw 35 rfl) (by decide) (by decide)) (g := (mkF m 45 #[rv a1, rv a2, iv 0, iv 3, .val (.null), rv b_3] [.int 3, .ref b_3, .ref a1])) rfl (by rw [hml]; rfl) (argsL := [(.ref b_3), (.int 3)]) (rest := [(.ref a1)]) (lenOf pd___BI_B rfl) rfl (by show 2 * 0 + _ ≤ _; exact Nat.le_of_eq rfl) (hb hby d6_45) (fun _ _ => ⟨rfl, rfl, (by decide : 2 + 0 ≤ _), (by decide : 9 + 0 ≤ _)⟩)
  dsimp only [Pt.U, Pt.locs, Pt.cells, Pt.slots] at X4 l4 y4 z4 st4 hQ4
  subst l4 y4 z4
  obtain ⟨rfl, Nq4, e4⟩ := hQ4
  have Nf4 := Fr.app Nf3 Nq4
  refine own_fw (A' := (T4.setTop (mkF m 48 #[rv a1, rv a2, iv 0, iv 3, .val (.null), rv b_3] [.int 1, .ref a1]))) (fun t k => st4 _ k) ?_
  obtain ⟨T5, h5, X5, e5, W5, st5⟩ := putFN X4 hx hZ hown (own_w hw 63 rfl) Via.refl e4 (P1.keep Kq3 nin0) (P0.keep Kq3) (Or.inr ⟨(own_w hw 64 rfl), rfl, hnm⟩) (own_w hw 20 rfl) (ty := .byte) (v' := (.int 1)) (by decide) rfl rfl (g := (mkF m 48 #[rv a1, rv a2, iv 0, iv 3, .val (.null), rv b_3] [.int 1, .ref a1])) rfl rfl (hb hby d6_48)
  have Fw5 : Fld Z h5 a1 "java/lang/String" "coder" "B" (.int 1) := (P1.keep Kq3 nin0).same W5
  have Nf5 := Fr.snoc X5 Nf4 g_a1
  have K5 : Keep h0 h5 [a1] := K3.wr W5 (Or.inl (List.mem_of_getElem? (i := 0) rfl))
  have Z5 : n0 ≤ h5.size := Nat.le_trans Z3 (Keep.of_wr W5).1
  refine own_fw (A' := (T5.setTop (mkF m 54 #[rv a1, rv a2, iv 0, iv 3, .val (.null), rv b_3] [.ref b_3, .ref a1]))) (fun t k => st5 _ (XS.aloadN X5.here hx rfl (hb hby d6_51) rfl rfl (XS.aload X5.here hx rfl (hb hby d6_52) rfl rfl k))) ?_
  obtain ⟨T6, h6, X6, e6, W6, st6⟩ := putF X5 hx hZ hown (host := "") (Or.inl (own_w hw 65 rfl)) Via.refl e5 ((P2.keep Kq3 nin0).other W5 (Or.inr (slot_ne (Or.inr (own_w hw 66 rfl)) (Or.inr (own_w hw 64 rfl)) (by decide) (t := (.array .byte)) (t' := .byte) (by decide) (by decide)))) ((P0.keep Kq3).wr W5) (Or.inr ⟨(own_w hw 66 rfl), rfl, hnm⟩) (own_w hw 20 rfl) (ty := (.array .byte)) (by decide) rfl rfl (g := (mkF m 54 #[rv a1, rv a2, iv 0, iv 3, .val (.null), rv b_3] [.ref b_3, .ref a1])) rfl rfl (hb hby d6_54)
  have Fw6 : Fld Z h6 a1 "java/lang/String" "value" "[B" (.ref b_3) := ((P2.keep Kq3 nin0).other W5 (Or.inr (slot_ne (Or.inr (own_w hw 66 rfl)) (Or.inr (own_w hw 64 rfl)) (by decide) (t := (.array .byte)) (t' := .byte) (by decide) (by decide)))).same W6
  have Nf6 := Fr.snoc X6 Nf5 g_a1
  have K6 : Keep h0 h6 [a1] := K5.wr W6 (Or.inl (List.mem_of_getElem? (i := 0) rfl))
  have Z6 : n0 ≤ h6.size := Nat.le_trans Z5 (Keep.of_wr W6).1
  refine own_fw (A' := (T6.setTop (mkF m 57 #[rv a1, rv a2, iv 0, iv 3, .val (.null), rv b_3] []))) (fun t k => st6 _ k) ?_
  obtain ⟨fs, hr, hrun, hended, hW, hsame⟩ := X6.leave (v := none) (fun _ => rfl)
  refine ⟨_, _, ?_, hrun, hended, _, _, rfl, ?_, ⟨_, rfl⟩, hW, hsame.mono (by decide) (by decide)⟩
  · exact X6.returnOut hx Bd.returns (hb hby d6_57) hr
  · show Q_rmStrB3U Z a1 a2 kc cs c0 c1 c2 h0 n0 _ T6.heap _
    rw [e6]
    exact ⟨b_3, kb_3, rfl, Nf6, K6, (((P0.keep Kq3).wr W5).wr W6), (Fw5.other W6 (Or.inr (slot_ne (Or.inr (own_w hw 64 rfl)) (Or.inr (own_w hw 66 rfl)) (by decide) (t := .byte) (t' := (.array .byte)) (by decide) (by decide)))), Fw6, ((Fq3_0.other W5 (Ne.symm ne_a1_b_3)).other W6 (Ne.symm ne_a1_b_3))⟩
theorem ef_rmStrA3U (m : MethodId) (a1 a2 : Addr) : entryFrame m #[(.ref a1), (.ref a2)] 2 = mkF m 0 #[.val (.ref a1), .val (.ref a2)] [] := by first | (simp [entryFrame, mkF, argsToLocals, Value.category]; done) | rfl
def Q_rmStrA3U (Z : State) (a1 a2 : Addr) (kc : ClassId) (cs c0 c1 c2 : Int32) (h0 : Heap) (n0 : Nat) (v : Option Value) (h : Heap) (L : List Loc) : Prop := ∃ b : Addr, ∃ kb : ClassId, v = none ∧ Fr n0 L ∧ Keep h0 h [a1] ∧ Exa Z h a1 "java/lang/String" ∧ Fld Z h a1 "java/lang/String" "coder" "B" (.int 1) ∧ Fld Z h a1 "java/lang/String" "value" "[B" (.ref b) ∧ Arv Z h b kb .byte (6 : Int32) [(.int (own_lo c0)), (.int (own_hb c0)), (.int (own_lo c1)), (.int (own_hb c1)), (.int (own_lo c2)), (.int (own_hb c2))] (.int 0)
theorem rmStrA3U (l : Launch) (Z : State) (a0 : Array Value) (hw : ∀ d ∈ tables_1, d.before a0 Z = true) (ws : List Jvm.Cond) (a1 a2 : Addr) (kc : ClassId) (cs c0 c1 c2 : Int32) (h0 : Heap) (n0 : Nat) (Z0 : n0 ≤ h0.size) (P0 : Exa Z h0 a1 "java/lang/String") (P1 : Fld Z h0 a1 "java/lang/String" "coder" "B" (.int 0)) (P2 : Fld Z h0 a1 "java/lang/String" "value" "[B" .null) (P3 : Arv Z h0 a2 kc .char (3 : Int32) [(.int c0), (.int c1), (.int c2)] (.int 0)) (g_a1 : n0 ≤ a1) (ne_a1_a2 : a1 ≠ a2) (P6 : Sta Z h0 "java/lang/String" "COMPACT_STRINGS" "Z" (.int cs)) (hcs : ¬ (cs = (0 : Int32))) (P8 : Sta Z h0 "java/lang/StringUTF16" "$assertionsDisabled" "Z" (.int 1)) (P9 : Sta Z h0 "java/lang/StringUTF16" "HI_BYTE_SHIFT" "I" (.int 0)) (P10 : Sta Z h0 "java/lang/StringUTF16" "LO_BYTE_SHIFT" "I" (.int 8)) (hbig : (255 : Int32) < c0 ∨ (255 : Int32) < c1 ∨ (255 : Int32) < c2) (hr0 : own_c16 c0) (hr1 : own_c16 c1) (hr2 : own_c16 c2) :
    MetFree l yq9 (head1 (Jvm.Cond.code yq9 jdk_42_method_3_code 2 none :: ws) rq37) (fun a U => a = #[(.ref a1), (.ref a2)] ∧ Z.Warmed39 U.vm ∧ U.heap = h0) (fun _ _ _ _ _ => True) (fun _ U o U' => ∃ v L, o = .returned v ∧ Q_rmStrA3U Z a1 a2 kc cs c0 c1 c2 h0 n0 v U'.heap L ∧ FrameEnd U o U' L rq37.cells rq37.slots) := by
  refine MetFree.of_bodySF (plainFor_of_name pn_java_lang_String) hisR ?_
  intro p e s m args below meth c s₁ Bd hml0 hP hK
  obtain ⟨rfl, hZ, hh⟩ := hP
  have hx := Bd.exec
  have hby := Bd.bytes
  have hml : c.maxLocals = 2 := hml0
  have hown : s.vm.findClass "java/lang/String" = some m.cls := findClass_of_methodNamed Bd.named
  have hnm := (name_of_methodNamed Bd.named Bd.method).1
  have X0 : Stand p l e rq37 s m #[(.ref a1), (.ref a2)] below meth c s₁ [] 0 0 := Stand.of_body Bd
  have e0 : s₁.heap = h0 := by rw [← hh, Bd.state]; rfl
  have N0 := Fr.nil n0
  refine own_fw (A' := (s₁.setTop (mkF m 4 #[rv a1, rv a2] [.ref a2, .int 0, .ref a2, .ref a1]))) (fun t k => castTop (ef_rmStrA3U m a1 a2) (XS.aloadN X0.here hx rfl (hb hby d5_0) rfl rfl (XS.aloadN X0.here hx rfl (hb hby d5_1) rfl rfl (XS.iconst X0.here hx rfl (hb hby d5_2) (XS.aloadN X0.here hx rfl (hb hby d5_3) rfl rfl k))))) ?_
  obtain ⟨cl1, Ar1, q1, S1, M1, H1, G1⟩ := id P3
  refine own_fw (A' := (s₁.setTop (mkF m 5 #[rv a1, rv a2] [.int 3, .int 0, .ref a2, .ref a1]))) (fun t k => X0.arraylength hx (by rw [e0]; exact Ar1.1) (State.isArrayOf_alike hZ.alike Ar1.2.1) (g := (mkF m 4 #[rv a1, rv a2] [.ref a2, .int 0, .ref a2, .ref a1])) rfl rfl (hb hby d5_4) _ (by rw [len_of S1 M1]; exact k)) ?_
  refine own_fw (A' := (s₁.setTop (mkF m 6 #[rv a1, rv a2] [.null, .int 3, .int 0, .ref a2, .ref a1]))) (fun t k => XS.aconstNull X0.here hx rfl (hb hby d5_5) k) ?_
  obtain ⟨_, _, ⟨T2, L2, k2, n2⟩, -, X2, ⟨Lc2, hQ2, l2, y2, z2⟩, st2⟩ := X0.specialBack hx (y := yq7) rfl hown (mvT hZ (own_w hw 25 rfl)) (mvT hZ (own_w hw 26 rfl)) (mvT hZ (own_w hw 28 rfl)) (by decide) (backOf (W := 0) (rmStrB3U l Z a0 hw [] a1 a2 kc cs c0 c1 c2 h0 n0 Z0 P0 P1 P2 P3 g_a1 ne_a1_a2 P6 hcs P8 P9 P10 hbig hr0 hr1 hr2) hZ (own_w hw 28 rfl) (own_w hw 21 rfl) (by decide) (by decide)) (g := (mkF m 6 #[rv a1, rv a2] [.null, .int 3, .int 0, .ref a2, .ref a1])) rfl (by rw [hml]; rfl) (Steps.refl _) (a := a1) (argsL := [(.ref a2), (.int 0), (.int 3), .null]) (rest := []) (lenOf pd___CIILjava_lang_Void__V rfl) rfl (by show 2 * 0 + _ ≤ _; exact Nat.le_of_eq rfl) (hb hby d5_6) (fun _ _ => ⟨rfl, e0, (by decide : 0 + 2 ≤ _), (by decide : 0 + 9 ≤ _)⟩)
  dsimp only [Pt.U, Pt.locs, Pt.cells, Pt.slots] at X2 l2 y2 z2 st2 hQ2
  subst l2 y2 z2
  obtain ⟨b_2, kb_2, rfl, Nq2, Kq2, Fq2_0, Fq2_1, Fq2_2, Fq2_3⟩ := hQ2
  have Nf2 := Fr.app N0 Nq2
  have K2 : Keep h0 T2.heap [a1] := (Keep.refl h0 [a1]).trans Kq2 (allS (Or.inl (List.mem_of_getElem? (i := 0) rfl)) all0)
  have Z2 : n0 ≤ T2.heap.size := Nat.le_trans Z0 Kq2.1
  refine own_fw (A' := (T2.setTop (mkF m 9 #[rv a1, rv a2] []))) (fun t k => st2.trans k) ?_
  obtain ⟨fs, hr, hrun, hended, hW, hsame⟩ := X2.leave (v := none) (fun _ => rfl)
  refine ⟨_, _, ?_, hrun, hended, _, _, rfl, ?_, ⟨_, rfl⟩, hW, hsame.mono (by decide) (by decide)⟩
  · exact X2.returnOut hx Bd.returns (hb hby d5_9) hr
  · show Q_rmStrA3U Z a1 a2 kc cs c0 c1 c2 h0 n0 _ T2.heap _
    exact ⟨b_2, kb_2, rfl, Nf2, K2, Fq2_0, Fq2_1, Fq2_2, Fq2_3⟩
theorem ef_rmNBL4 (m : MethodId) : entryFrame m #[(.int 4)] 1 = mkF m 0 #[.val (.int 4)] [] := by first | (simp [entryFrame, mkF, argsToLocals, Value.category]; done) | rfl
def Q_rmNBL4 (Z : State) (h0 : Heap) (n0 : Nat) (v : Option Value) (h : Heap) (L : List Loc) : Prop := v = some (.int 8) ∧ Fr n0 L ∧ h = h0
theorem rmNBL4 (l : Launch) (Z : State) (a0 : Array Value) (hw : ∀ d ∈ tables_1, d.before a0 Z = true) (ws : List Jvm.Cond) (h0 : Heap) (n0 : Nat) (Z0 : n0 ≤ h0.size)  :
    MetFree l yq19 (head1 (Jvm.Cond.code yq19 jdk_52_method_3_code 1 (some .int) :: ws) rq0) (fun a U => a = #[(.int 4)] ∧ Z.Warmed39 U.vm ∧ U.heap = h0) (fun _ _ _ _ _ => True) (fun _ U o U' => ∃ v L, o = .returned v ∧ Q_rmNBL4 Z  h0 n0 v U'.heap L ∧ FrameEnd U o U' L rq0.cells rq0.slots) := by
  refine MetFree.of_bodySF (plainFor_of_name pn_java_lang_StringUTF16) hisR ?_
  intro p e s m args below meth c s₁ Bd hml0 hP hK
  obtain ⟨rfl, hZ, hh⟩ := hP
  have hx := Bd.exec
  have hby := Bd.bytes
  have hml : c.maxLocals = 1 := hml0
  have hown : s.vm.findClass "java/lang/StringUTF16" = some m.cls := findClass_of_methodNamed Bd.named
  have hnm := (name_of_methodNamed Bd.named Bd.method).1
  have X0 : Stand p l e rq0 s m #[(.int 4)] below meth c s₁ [] 0 0 := Stand.of_body Bd
  have e0 : s₁.heap = h0 := by rw [← hh, Bd.state]; rfl
  have N0 := Fr.nil n0
  refine own_fw (A' := (s₁.setTop (mkF m 58 #[iv 4] [.int 8]))) (fun t k => castTop (ef_rmNBL4 m) (XS.iloadN X0.here hx rfl (hb hby d12_0) rfl (XS.ifYes X0.here hx rfl (pc0 := 1) (pc' := 12) rfl (hb hby d12_1) rfl (XT.i0_ge_t (by decide)) (by decide) (by decide) (XS.iloadN X0.here hx rfl (hb hby d12_12) rfl (X0.ldcInt hx hown (mvT hZ (own_w hw 50 rfl)) (g := (mkF m 13 #[iv 4] [.int 4])) rfl (hb hby d12_13) _ (XS.icmpYes X0.here hx rfl (pc0 := 15) (pc' := 55) rfl (hb hby d12_15) rfl (XT.ii_lt_t (by decide)) (by decide) (by decide) (XS.iloadN X0.here hx rfl (hb hby d12_55) rfl (XS.iconst X0.here hx rfl (hb hby d12_56) (XS.ishl X0.here hx rfl (hb hby d12_57) rfl k))))))))) ?_
  obtain ⟨fs, hr, hrun, hended, hW, hsame⟩ := X0.leave (v := some (.int 8)) (fun h => by rw [Bd.returns] at h; cases h)
  refine ⟨_, _, ?_, hrun, hended, _, _, rfl, ?_, ⟨_, rfl⟩, hW, hsame.mono (by decide) (by decide)⟩
  · exact retOut X0 hx Bd.returns rfl (Or.inl ⟨rfl, by simp, _, rfl⟩) (hb hby d12_58) hr
  · show Q_rmNBL4 Z  h0 n0 _ s₁.heap _
    rw [e0]
    exact ⟨rfl, N0, rfl⟩
theorem ef_rmNBF4 (m : MethodId) : entryFrame m #[(.int 4)] 1 = mkF m 0 #[.val (.int 4)] [] := by first | (simp [entryFrame, mkF, argsToLocals, Value.category]; done) | rfl
def Q_rmNBF4 (Z : State) (h0 : Heap) (n0 : Nat) (v : Option Value) (h : Heap) (L : List Loc) : Prop := ∃ b : Addr, ∃ kb : ClassId, v = some (.ref b) ∧ Fr n0 L ∧ Keep h0 h [] ∧ Arv Z h b kb .byte (8 : Int32) [(.int 0), (.int 0), (.int 0), (.int 0), (.int 0), (.int 0), (.int 0), (.int 0)] (.int 0) ∧ (h0.size ≤ b)
theorem rmNBF4 (l : Launch) (Z : State) (a0 : Array Value) (hw : ∀ d ∈ tables_1, d.before a0 Z = true) (ws : List Jvm.Cond) (h0 : Heap) (n0 : Nat) (Z0 : n0 ≤ h0.size)  :
    MetFree l yq21 (head1 (Jvm.Cond.code yq21 jdk_52_method_2_code 1 (some (.array .byte)) :: ws) rq38) (fun a U => a = #[(.int 4)] ∧ Z.Warmed39 U.vm ∧ U.heap = h0) (fun _ _ _ _ _ => True) (fun _ U o U' => ∃ v L, o = .returned v ∧ Q_rmNBF4 Z  h0 n0 v U'.heap L ∧ FrameEnd U o U' L rq38.cells rq38.slots) := by
  refine MetFree.of_bodySF (plainFor_of_name pn_java_lang_StringUTF16) hisR ?_
  intro p e s m args below meth c s₁ Bd hml0 hP hK
  obtain ⟨rfl, hZ, hh⟩ := hP
  have hx := Bd.exec
  have hby := Bd.bytes
  have hml : c.maxLocals = 1 := hml0
  have hown : s.vm.findClass "java/lang/StringUTF16" = some m.cls := findClass_of_methodNamed Bd.named
  have hnm := (name_of_methodNamed Bd.named Bd.method).1
  have X0 : Stand p l e rq38 s m #[(.int 4)] below meth c s₁ [] 0 0 := Stand.of_body Bd
  have e0 : s₁.heap = h0 := by rw [← hh, Bd.state]; rfl
  have N0 := Fr.nil n0
  refine own_fw (A' := (s₁.setTop (mkF m 1 #[iv 4] [.int 4]))) (fun t k => castTop (ef_rmNBF4 m) (XS.iloadN X0.here hx rfl (hb hby d11_0) rfl k)) ?_
  obtain ⟨_, _, ⟨T1, L1, k1, n1⟩, -, X1, ⟨Lc1, hQ1, l1, y1, z1⟩, st1⟩ := Jvm.LawKit.callS X0 hx (y := yq19) hown (mvT hZ (own_w hw 47 rfl)) (mvT hZ (own_w hw 48 rfl)) (mvT hZ (own_w hw 35 rfl)) (mvT hZ (own_w hw 49 rfl)) (by decide) (backOf (W := 0) (rmNBL4 l Z a0 hw []  h0 n0 Z0 ) hZ (own_w hw 49 rfl) (own_w hw 35 rfl) (by decide) (by decide)) (g := (mkF m 1 #[iv 4] [.int 4])) rfl (by rw [hml]; rfl) (argsL := [(.int 4)]) (rest := []) (lenOf pd__I_I rfl) rfl (by show 2 * 0 + _ ≤ _; exact Nat.le_of_eq rfl) (hb hby d11_1) (fun _ _ => ⟨rfl, e0, (by decide : 0 + 0 ≤ _), (by decide : 0 + 0 ≤ _)⟩)
  dsimp only [Pt.U, Pt.locs, Pt.cells, Pt.slots] at X1 l1 y1 z1 st1 hQ1
  subst l1 y1 z1
  obtain ⟨rfl, Nq1, e1⟩ := hQ1
  have Nf1 := Fr.app N0 Nq1
  refine own_fw (A' := (T1.setTop (mkF m 4 #[iv 4] [.int 8]))) (fun t k => st1 _ k) ?_
  obtain ⟨T2, h2, k2, X2, e2, E2, A2, st2⟩ := newP X1 hx hZ (own_w hw 37 rfl) e1 (g := (mkF m 4 #[iv 4] [.int 8])) rfl (hb hby d11_4) rfl (by decide) (cap := 8) (by decide) (by decide) (by decide) (by decide)
  obtain ⟨b2, gb2⟩ : ∃ z, z = h0.size := ⟨_, rfl⟩
  have g_b2 : n0 ≤ b2 := Nat.le_trans Z0 (Nat.le_of_eq gb2.symm)
  have sz_b2 : h0.size ≤ b2 := Nat.le_trans (Keep.refl h0 []).1 (Nat.le_of_eq gb2.symm)
  rw [← gb2] at A2 st2
  have V_b2 : Arv Z h2 b2 k2 .byte (8 : Int32) [(.int 0), (.int 0), (.int 0), (.int 0), (.int 0), (.int 0), (.int 0), (.int 0)] (.int 0) := (Arv.new A2 (by decide)).pad (pad_rep [] (.int 0) 8)
  have K2 : Keep h0 h2 [] := (Keep.refl h0 []).ext E2
  have Z2 : n0 ≤ h2.size := Nat.le_trans Z0 E2.1
  refine own_fw (A' := (T2.setTop (mkF m 6 #[iv 4] [.ref b2]))) (fun t k => st2 _ k) ?_
  obtain ⟨fs, hr, hrun, hended, hW, hsame⟩ := X2.leave (v := some (.ref b2)) (fun h => by rw [Bd.returns] at h; cases h)
  refine ⟨_, _, ?_, hrun, hended, _, _, rfl, ?_, ⟨_, rfl⟩, hW, hsame.mono (by decide) (by decide)⟩
  · exact retOut X2 hx Bd.returns rfl (Or.inr (Or.inr (Or.inr (Or.inr ⟨rfl, rfl, rfl⟩)))) (hb hby d11_6) hr
  · show Q_rmNBF4 Z  h0 n0 _ T2.heap _
    rw [e2]
    exact ⟨b2, k2, rfl, Nf1, K2, V_b2, sz_b2⟩
theorem ef_rmPut40 (m : MethodId) (a1 : Addr) (c0 : Int32) : entryFrame m #[(.ref a1), (.int 0), (.int c0)] 3 = mkF m 0 #[.val (.ref a1), .val (.int 0), .val (.int c0)] [] := by first | (simp [entryFrame, mkF, argsToLocals, Value.category]; done) | rfl
def Q_rmPut40 (Z : State) (a1 : Addr) (kb : ClassId) (c0 x0 x1 x2 x3 x4 x5 x6 x7 : Int32) (h0 : Heap) (n0 : Nat) (v : Option Value) (h : Heap) (L : List Loc) : Prop := v = none ∧ Fr n0 L ∧ Keep h0 h [a1] ∧ Arv Z h a1 kb .byte (8 : Int32) [(.int (own_lo c0)), (.int (own_hb c0)), (.int x2), (.int x3), (.int x4), (.int x5), (.int x6), (.int x7)] (.int 0)
theorem rmPut40 (l : Launch) (Z : State) (a0 : Array Value) (hw : ∀ d ∈ tables_1, d.before a0 Z = true) (ws : List Jvm.Cond) (a1 : Addr) (kb : ClassId) (c0 x0 x1 x2 x3 x4 x5 x6 x7 : Int32) (h0 : Heap) (n0 : Nat) (Z0 : n0 ≤ h0.size) (P0 : Arv Z h0 a1 kb .byte (8 : Int32) [(.int x0), (.int x1), (.int x2), (.int x3), (.int x4), (.int x5), (.int x6), (.int x7)] (.int 0)) (g_a1 : n0 ≤ a1) (P2 : Sta Z h0 "java/lang/StringUTF16" "$assertionsDisabled" "Z" (.int 1)) (P3 : Sta Z h0 "java/lang/StringUTF16" "HI_BYTE_SHIFT" "I" (.int 0)) (P4 : Sta Z h0 "java/lang/StringUTF16" "LO_BYTE_SHIFT" "I" (.int 8)) :
    MetFree l yq22 (head1 (Jvm.Cond.code yq22 jdk_52_method_4_code 3 none :: ws) rq0) (fun a U => a = #[(.ref a1), (.int 0), (.int c0)] ∧ Z.Warmed39 U.vm ∧ U.heap = h0) (fun _ _ _ _ _ => True) (fun _ U o U' => ∃ v L, o = .returned v ∧ Q_rmPut40 Z a1 kb c0 x0 x1 x2 x3 x4 x5 x6 x7 h0 n0 v U'.heap L ∧ FrameEnd U o U' L rq0.cells rq0.slots) := by
  refine MetFree.of_bodySF (plainFor_of_name pn_java_lang_StringUTF16) hisR ?_
  intro p e s m args below meth c s₁ Bd hml0 hP hK
  obtain ⟨rfl, hZ, hh⟩ := hP
  have hx := Bd.exec
  have hby := Bd.bytes
  have hml : c.maxLocals = 3 := hml0
  have hown : s.vm.findClass "java/lang/StringUTF16" = some m.cls := findClass_of_methodNamed Bd.named
  have hnm := (name_of_methodNamed Bd.named Bd.method).1
  have X0 : Stand p l e rq0 s m #[(.ref a1), (.int 0), (.int c0)] below meth c s₁ [] 0 0 := Stand.of_body Bd
  have e0 : s₁.heap = h0 := by rw [← hh, Bd.state]; rfl
  have N0 := Fr.nil n0
  refine own_fw (A' := (s₁.setTop (mkF m 0 #[.val (.ref a1), .val (.int 0), .val (.int c0)] []))) (fun t k => castTop (ef_rmPut40 m a1 c0) k) ?_
  obtain ⟨T1, X1, e1, st1⟩ := getS2 X0 hx hZ hown (host := "") (Or.inl (own_w hw 54 rfl)) Via.refl e0 P2 (g := (mkF m 0 #[rv a1, iv 0, iv c0] [])) rfl (hb hby d13_0)
  refine own_fw (A' := (T1.setTop (mkF m 38 #[rv a1, iv 1, iv c0] [.int c0, .int 0, .ref a1]))) (fun t k => st1 _ (XS.ifYes X1.here hx rfl (pc0 := 3) (pc' := 28) rfl (hb hby d13_3) rfl (XT.i0_ne_t (by decide)) (by decide) (by decide) (XS.iloadN X1.here hx rfl (hb hby d13_28) rfl (XS.iconst X1.here hx rfl (hb hby d13_29) (XS.ishl X1.here hx rfl (hb hby d13_30) rfl (XS.istoreN X1.here hx rfl (hb hby d13_31) rfl (l' := #[rv a1, iv 0, iv c0]) rfl (XS.aloadN X1.here hx rfl (hb hby d13_32) rfl rfl (XS.iloadN X1.here hx rfl (hb hby d13_33) rfl (XS.iinc X1.here hx rfl (hb hby d13_34) rfl (l' := #[rv a1, iv 1, iv c0]) rfl (XS.iloadN X1.here hx rfl (hb hby d13_37) rfl k)))))))))) ?_
  obtain ⟨T2, X2, e2, st2⟩ := getS2 X1 hx hZ hown (host := "") (Or.inl (own_w hw 55 rfl)) Via.refl e1 P3 (g := (mkF m 38 #[rv a1, iv 1, iv c0] [.int c0, .int 0, .ref a1])) rfl (hb hby d13_38)
  refine own_fw (A' := (T2.setTop (mkF m 43 #[rv a1, iv 1, iv c0] [.int ((c0 >>> ((0 : Int32) &&& 31)).toInt8.toInt32), .int 0, .ref a1]))) (fun t k => st2 _ (XS.ishr X2.here hx rfl (hb hby d13_41) rfl (XS.i2b X2.here hx rfl (hb hby d13_42) rfl k))) ?_
  obtain ⟨cl3, Ar3, q3, S3, M3, H3, G3⟩ := id P0
  have hin3 : ¬ ((0 : Int32) < 0 ∨ cl3.slots.size ≤ ((0 : Int32)).toNatClampNeg) := inb_of S3 ⟨by decide, by decide⟩
  obtain ⟨T3, h3, X3, e3, W3, st3⟩ := stB X2 hx hZ e2 Ar3 (j := (0 : Int32)) hin3 (g := (mkF m 43 #[rv a1, iv 1, iv c0] [.int ((c0 >>> ((0 : Int32) &&& 31)).toInt8.toInt32), .int 0, .ref a1])) rfl rfl (hb hby d13_43)
  rw [own_narB] at W3
  have V3 : Arv Z h3 a1 kb .byte (8 : Int32) [(.int ((c0 >>> ((0 : Int32) &&& 31)).toInt8.toInt32)), (.int x1), (.int x2), (.int x3), (.int x4), (.int x5), (.int x6), (.int x7)] (.int 0) := Arv.set Ar3 q3 S3 M3 H3 G3 (fits_nar_byte _) W3 0 rfl (Nat.le_of_ble_eq_true rfl)
  have Nf3 := Fr.snoc X3 N0 g_a1
  have K3 : Keep h0 h3 [a1] := (Keep.refl h0 [a1]).wr W3 (Or.inl (List.mem_of_getElem? (i := 0) rfl))
  have Z3 : n0 ≤ h3.size := Nat.le_trans Z0 (Keep.of_wr W3).1
  refine own_fw (A' := (T3.setTop (mkF m 47 #[rv a1, iv 1, iv c0] [.int c0, .int 1, .ref a1]))) (fun t k => st3 _ (XS.aloadN X3.here hx rfl (hb hby d13_44) rfl rfl (XS.iloadN X3.here hx rfl (hb hby d13_45) rfl (XS.iloadN X3.here hx rfl (hb hby d13_46) rfl k)))) ?_
  obtain ⟨T4, X4, e4, st4⟩ := getS2 X3 hx hZ hown (host := "") (Or.inl (own_w hw 56 rfl)) Via.refl e3 (P4.wr W3) (g := (mkF m 47 #[rv a1, iv 1, iv c0] [.int c0, .int 1, .ref a1])) rfl (hb hby d13_47)
  refine own_fw (A' := (T4.setTop (mkF m 52 #[rv a1, iv 1, iv c0] [.int ((c0 >>> ((8 : Int32) &&& 31)).toInt8.toInt32), .int 1, .ref a1]))) (fun t k => st4 _ (XS.ishr X4.here hx rfl (hb hby d13_50) rfl (XS.i2b X4.here hx rfl (hb hby d13_51) rfl k))) ?_
  obtain ⟨cl5, Ar5, q5, S5, M5, H5, G5⟩ := id V3
  have hin5 : ¬ ((1 : Int32) < 0 ∨ cl5.slots.size ≤ ((1 : Int32)).toNatClampNeg) := inb_of S5 ⟨by decide, by decide⟩
  obtain ⟨T5, h5, X5, e5, W5, st5⟩ := stB X4 hx hZ e4 Ar5 (j := (1 : Int32)) hin5 (g := (mkF m 52 #[rv a1, iv 1, iv c0] [.int ((c0 >>> ((8 : Int32) &&& 31)).toInt8.toInt32), .int 1, .ref a1])) rfl rfl (hb hby d13_52)
  rw [own_narB] at W5
  have V5 : Arv Z h5 a1 kb .byte (8 : Int32) [(.int ((c0 >>> ((0 : Int32) &&& 31)).toInt8.toInt32)), (.int ((c0 >>> ((8 : Int32) &&& 31)).toInt8.toInt32)), (.int x2), (.int x3), (.int x4), (.int x5), (.int x6), (.int x7)] (.int 0) := Arv.set Ar5 q5 S5 M5 H5 G5 (fits_nar_byte _) W5 1 rfl (Nat.le_of_ble_eq_true rfl)
  have Nf5 := Fr.snoc X5 Nf3 g_a1
  have K5 : Keep h0 h5 [a1] := K3.wr W5 (Or.inl (List.mem_of_getElem? (i := 0) rfl))
  have Z5 : n0 ≤ h5.size := Nat.le_trans Z3 (Keep.of_wr W5).1
  refine own_fw (A' := (T5.setTop (mkF m 53 #[rv a1, iv 1, iv c0] []))) (fun t k => st5 _ k) ?_
  obtain ⟨fs, hr, hrun, hended, hW, hsame⟩ := X5.leave (v := none) (fun _ => rfl)
  refine ⟨_, _, ?_, hrun, hended, _, _, rfl, ?_, ⟨_, rfl⟩, hW, hsame.mono (by decide) (by decide)⟩
  · exact X5.returnOut hx Bd.returns (hb hby d13_53) hr
  · show Q_rmPut40 Z a1 kb c0 x0 x1 x2 x3 x4 x5 x6 x7 h0 n0 _ T5.heap _
    rw [e5]
    exact ⟨rfl, Nf5, K5, V5⟩
theorem ef_rmPut41 (m : MethodId) (a1 : Addr) (c0 : Int32) : entryFrame m #[(.ref a1), (.int 1), (.int c0)] 3 = mkF m 0 #[.val (.ref a1), .val (.int 1), .val (.int c0)] [] := by first | (simp [entryFrame, mkF, argsToLocals, Value.category]; done) | rfl
def Q_rmPut41 (Z : State) (a1 : Addr) (kb : ClassId) (c0 x0 x1 x2 x3 x4 x5 x6 x7 : Int32) (h0 : Heap) (n0 : Nat) (v : Option Value) (h : Heap) (L : List Loc) : Prop := v = none ∧ Fr n0 L ∧ Keep h0 h [a1] ∧ Arv Z h a1 kb .byte (8 : Int32) [(.int x0), (.int x1), (.int (own_lo c0)), (.int (own_hb c0)), (.int x4), (.int x5), (.int x6), (.int x7)] (.int 0)
theorem rmPut41 (l : Launch) (Z : State) (a0 : Array Value) (hw : ∀ d ∈ tables_1, d.before a0 Z = true) (ws : List Jvm.Cond) (a1 : Addr) (kb : ClassId) (c0 x0 x1 x2 x3 x4 x5 x6 x7 : Int32) (h0 : Heap) (n0 : Nat) (Z0 : n0 ≤ h0.size) (P0 : Arv Z h0 a1 kb .byte (8 : Int32) [(.int x0), (.int x1), (.int x2), (.int x3), (.int x4), (.int x5), (.int x6), (.int x7)] (.int 0)) (g_a1 : n0 ≤ a1) (P2 : Sta Z h0 "java/lang/StringUTF16" "$assertionsDisabled" "Z" (.int 1)) (P3 : Sta Z h0 "java/lang/StringUTF16" "HI_BYTE_SHIFT" "I" (.int 0)) (P4 : Sta Z h0 "java/lang/StringUTF16" "LO_BYTE_SHIFT" "I" (.int 8)) :
    MetFree l yq22 (head1 (Jvm.Cond.code yq22 jdk_52_method_4_code 3 none :: ws) rq0) (fun a U => a = #[(.ref a1), (.int 1), (.int c0)] ∧ Z.Warmed39 U.vm ∧ U.heap = h0) (fun _ _ _ _ _ => True) (fun _ U o U' => ∃ v L, o = .returned v ∧ Q_rmPut41 Z a1 kb c0 x0 x1 x2 x3 x4 x5 x6 x7 h0 n0 v U'.heap L ∧ FrameEnd U o U' L rq0.cells rq0.slots) := by
  refine MetFree.of_bodySF (plainFor_of_name pn_java_lang_StringUTF16) hisR ?_
  intro p e s m args below meth c s₁ Bd hml0 hP hK
  obtain ⟨rfl, hZ, hh⟩ := hP
  have hx := Bd.exec
  have hby := Bd.bytes
  have hml : c.maxLocals = 3 := hml0
  have hown : s.vm.findClass "java/lang/StringUTF16" = some m.cls := findClass_of_methodNamed Bd.named
  have hnm := (name_of_methodNamed Bd.named Bd.method).1
  have X0 : Stand p l e rq0 s m #[(.ref a1), (.int 1), (.int c0)] below meth c s₁ [] 0 0 := Stand.of_body Bd
  have e0 : s₁.heap = h0 := by rw [← hh, Bd.state]; rfl
  have N0 := Fr.nil n0
  refine own_fw (A' := (s₁.setTop (mkF m 0 #[.val (.ref a1), .val (.int 1), .val (.int c0)] []))) (fun t k => castTop (ef_rmPut41 m a1 c0) k) ?_
  obtain ⟨T1, X1, e1, st1⟩ := getS2 X0 hx hZ hown (host := "") (Or.inl (own_w hw 54 rfl)) Via.refl e0 P2 (g := (mkF m 0 #[rv a1, iv 1, iv c0] [])) rfl (hb hby d13_0)
  refine own_fw (A' := (T1.setTop (mkF m 38 #[rv a1, iv 3, iv c0] [.int c0, .int 2, .ref a1]))) (fun t k => st1 _ (XS.ifYes X1.here hx rfl (pc0 := 3) (pc' := 28) rfl (hb hby d13_3) rfl (XT.i0_ne_t (by decide)) (by decide) (by decide) (XS.iloadN X1.here hx rfl (hb hby d13_28) rfl (XS.iconst X1.here hx rfl (hb hby d13_29) (XS.ishl X1.here hx rfl (hb hby d13_30) rfl (XS.istoreN X1.here hx rfl (hb hby d13_31) rfl (l' := #[rv a1, iv 2, iv c0]) rfl (XS.aloadN X1.here hx rfl (hb hby d13_32) rfl rfl (XS.iloadN X1.here hx rfl (hb hby d13_33) rfl (XS.iinc X1.here hx rfl (hb hby d13_34) rfl (l' := #[rv a1, iv 3, iv c0]) rfl (XS.iloadN X1.here hx rfl (hb hby d13_37) rfl k)))))))))) ?_
  obtain ⟨T2, X2, e2, st2⟩ := getS2 X1 hx hZ hown (host := "") (Or.inl (own_w hw 55 rfl)) Via.refl e1 P3 (g := (mkF m 38 #[rv a1, iv 3, iv c0] [.int c0, .int 2, .ref a1])) rfl (hb hby d13_38)
  refine own_fw (A' := (T2.setTop (mkF m 43 #[rv a1, iv 3, iv c0] [.int ((c0 >>> ((0 : Int32) &&& 31)).toInt8.toInt32), .int 2, .ref a1]))) (fun t k => st2 _ (XS.ishr X2.here hx rfl (hb hby d13_41) rfl (XS.i2b X2.here hx rfl (hb hby d13_42) rfl k))) ?_
  obtain ⟨cl3, Ar3, q3, S3, M3, H3, G3⟩ := id P0
  have hin3 : ¬ ((2 : Int32) < 0 ∨ cl3.slots.size ≤ ((2 : Int32)).toNatClampNeg) := inb_of S3 ⟨by decide, by decide⟩
  obtain ⟨T3, h3, X3, e3, W3, st3⟩ := stB X2 hx hZ e2 Ar3 (j := (2 : Int32)) hin3 (g := (mkF m 43 #[rv a1, iv 3, iv c0] [.int ((c0 >>> ((0 : Int32) &&& 31)).toInt8.toInt32), .int 2, .ref a1])) rfl rfl (hb hby d13_43)
  rw [own_narB] at W3
  have V3 : Arv Z h3 a1 kb .byte (8 : Int32) [(.int x0), (.int x1), (.int ((c0 >>> ((0 : Int32) &&& 31)).toInt8.toInt32)), (.int x3), (.int x4), (.int x5), (.int x6), (.int x7)] (.int 0) := Arv.set Ar3 q3 S3 M3 H3 G3 (fits_nar_byte _) W3 2 rfl (Nat.le_of_ble_eq_true rfl)
  have Nf3 := Fr.snoc X3 N0 g_a1
  have K3 : Keep h0 h3 [a1] := (Keep.refl h0 [a1]).wr W3 (Or.inl (List.mem_of_getElem? (i := 0) rfl))
  have Z3 : n0 ≤ h3.size := Nat.le_trans Z0 (Keep.of_wr W3).1
  refine own_fw (A' := (T3.setTop (mkF m 47 #[rv a1, iv 3, iv c0] [.int c0, .int 3, .ref a1]))) (fun t k => st3 _ (XS.aloadN X3.here hx rfl (hb hby d13_44) rfl rfl (XS.iloadN X3.here hx rfl (hb hby d13_45) rfl (XS.iloadN X3.here hx rfl (hb hby d13_46) rfl k)))) ?_
  obtain ⟨T4, X4, e4, st4⟩ := getS2 X3 hx hZ hown (host := "") (Or.inl (own_w hw 56 rfl)) Via.refl e3 (P4.wr W3) (g := (mkF m 47 #[rv a1, iv 3, iv c0] [.int c0, .int 3, .ref a1])) rfl (hb hby d13_47)
  refine own_fw (A' := (T4.setTop (mkF m 52 #[rv a1, iv 3, iv c0] [.int ((c0 >>> ((8 : Int32) &&& 31)).toInt8.toInt32), .int 3, .ref a1]))) (fun t k => st4 _ (XS.ishr X4.here hx rfl (hb hby d13_50) rfl (XS.i2b X4.here hx rfl (hb hby d13_51) rfl k))) ?_
  obtain ⟨cl5, Ar5, q5, S5, M5, H5, G5⟩ := id V3
  have hin5 : ¬ ((3 : Int32) < 0 ∨ cl5.slots.size ≤ ((3 : Int32)).toNatClampNeg) := inb_of S5 ⟨by decide, by decide⟩
  obtain ⟨T5, h5, X5, e5, W5, st5⟩ := stB X4 hx hZ e4 Ar5 (j := (3 : Int32)) hin5 (g := (mkF m 52 #[rv a1, iv 3, iv c0] [.int ((c0 >>> ((8 : Int32) &&& 31)).toInt8.toInt32), .int 3, .ref a1])) rfl rfl (hb hby d13_52)
  rw [own_narB] at W5
  have V5 : Arv Z h5 a1 kb .byte (8 : Int32) [(.int x0), (.int x1), (.int ((c0 >>> ((0 : Int32) &&& 31)).toInt8.toInt32)), (.int ((c0 >>> ((8 : Int32) &&& 31)).toInt8.toInt32)), (.int x4), (.int x5), (.int x6), (.int x7)] (.int 0) := Arv.set Ar5 q5 S5 M5 H5 G5 (fits_nar_byte _) W5 3 rfl (Nat.le_of_ble_eq_true rfl)
  have Nf5 := Fr.snoc X5 Nf3 g_a1
  have K5 : Keep h0 h5 [a1] := K3.wr W5 (Or.inl (List.mem_of_getElem? (i := 0) rfl))
  have Z5 : n0 ≤ h5.size := Nat.le_trans Z3 (Keep.of_wr W5).1
  refine own_fw (A' := (T5.setTop (mkF m 53 #[rv a1, iv 3, iv c0] []))) (fun t k => st5 _ k) ?_
  obtain ⟨fs, hr, hrun, hended, hW, hsame⟩ := X5.leave (v := none) (fun _ => rfl)
  refine ⟨_, _, ?_, hrun, hended, _, _, rfl, ?_, ⟨_, rfl⟩, hW, hsame.mono (by decide) (by decide)⟩
  · exact X5.returnOut hx Bd.returns (hb hby d13_53) hr
  · show Q_rmPut41 Z a1 kb c0 x0 x1 x2 x3 x4 x5 x6 x7 h0 n0 _ T5.heap _
    rw [e5]
    exact ⟨rfl, Nf5, K5, V5⟩
theorem ef_rmPut42 (m : MethodId) (a1 : Addr) (c0 : Int32) : entryFrame m #[(.ref a1), (.int 2), (.int c0)] 3 = mkF m 0 #[.val (.ref a1), .val (.int 2), .val (.int c0)] [] := by first | (simp [entryFrame, mkF, argsToLocals, Value.category]; done) | rfl
def Q_rmPut42 (Z : State) (a1 : Addr) (kb : ClassId) (c0 x0 x1 x2 x3 x4 x5 x6 x7 : Int32) (h0 : Heap) (n0 : Nat) (v : Option Value) (h : Heap) (L : List Loc) : Prop := v = none ∧ Fr n0 L ∧ Keep h0 h [a1] ∧ Arv Z h a1 kb .byte (8 : Int32) [(.int x0), (.int x1), (.int x2), (.int x3), (.int (own_lo c0)), (.int (own_hb c0)), (.int x6), (.int x7)] (.int 0)
theorem rmPut42 (l : Launch) (Z : State) (a0 : Array Value) (hw : ∀ d ∈ tables_1, d.before a0 Z = true) (ws : List Jvm.Cond) (a1 : Addr) (kb : ClassId) (c0 x0 x1 x2 x3 x4 x5 x6 x7 : Int32) (h0 : Heap) (n0 : Nat) (Z0 : n0 ≤ h0.size) (P0 : Arv Z h0 a1 kb .byte (8 : Int32) [(.int x0), (.int x1), (.int x2), (.int x3), (.int x4), (.int x5), (.int x6), (.int x7)] (.int 0)) (g_a1 : n0 ≤ a1) (P2 : Sta Z h0 "java/lang/StringUTF16" "$assertionsDisabled" "Z" (.int 1)) (P3 : Sta Z h0 "java/lang/StringUTF16" "HI_BYTE_SHIFT" "I" (.int 0)) (P4 : Sta Z h0 "java/lang/StringUTF16" "LO_BYTE_SHIFT" "I" (.int 8)) :
    MetFree l yq22 (head1 (Jvm.Cond.code yq22 jdk_52_method_4_code 3 none :: ws) rq0) (fun a U => a = #[(.ref a1), (.int 2), (.int c0)] ∧ Z.Warmed39 U.vm ∧ U.heap = h0) (fun _ _ _ _ _ => True) (fun _ U o U' => ∃ v L, o = .returned v ∧ Q_rmPut42 Z a1 kb c0 x0 x1 x2 x3 x4 x5 x6 x7 h0 n0 v U'.heap L ∧ FrameEnd U o U' L rq0.cells rq0.slots) := by
  refine MetFree.of_bodySF (plainFor_of_name pn_java_lang_StringUTF16) hisR ?_
  intro p e s m args below meth c s₁ Bd hml0 hP hK
  obtain ⟨rfl, hZ, hh⟩ := hP
  have hx := Bd.exec
  have hby := Bd.bytes
  have hml : c.maxLocals = 3 := hml0
  have hown : s.vm.findClass "java/lang/StringUTF16" = some m.cls := findClass_of_methodNamed Bd.named
  have hnm := (name_of_methodNamed Bd.named Bd.method).1
  have X0 : Stand p l e rq0 s m #[(.ref a1), (.int 2), (.int c0)] below meth c s₁ [] 0 0 := Stand.of_body Bd
  have e0 : s₁.heap = h0 := by rw [← hh, Bd.state]; rfl
  have N0 := Fr.nil n0
  refine own_fw (A' := (s₁.setTop (mkF m 0 #[.val (.ref a1), .val (.int 2), .val (.int c0)] []))) (fun t k => castTop (ef_rmPut42 m a1 c0) k) ?_
  obtain ⟨T1, X1, e1, st1⟩ := getS2 X0 hx hZ hown (host := "") (Or.inl (own_w hw 54 rfl)) Via.refl e0 P2 (g := (mkF m 0 #[rv a1, iv 2, iv c0] [])) rfl (hb hby d13_0)
  refine own_fw (A' := (T1.setTop (mkF m 38 #[rv a1, iv 5, iv c0] [.int c0, .int 4, .ref a1]))) (fun t k => st1 _ (XS.ifYes X1.here hx rfl (pc0 := 3) (pc' := 28) rfl (hb hby d13_3) rfl (XT.i0_ne_t (by decide)) (by decide) (by decide) (XS.iloadN X1.here hx rfl (hb hby d13_28) rfl (XS.iconst X1.here hx rfl (hb hby d13_29) (XS.ishl X1.here hx rfl (hb hby d13_30) rfl (XS.istoreN X1.here hx rfl (hb hby d13_31) rfl (l' := #[rv a1, iv 4, iv c0]) rfl (XS.aloadN X1.here hx rfl (hb hby d13_32) rfl rfl (XS.iloadN X1.here hx rfl (hb hby d13_33) rfl (XS.iinc X1.here hx rfl (hb hby d13_34) rfl (l' := #[rv a1, iv 5, iv c0]) rfl (XS.iloadN X1.here hx rfl (hb hby d13_37) rfl k)))))))))) ?_
  obtain ⟨T2, X2, e2, st2⟩ := getS2 X1 hx hZ hown (host := "") (Or.inl (own_w hw 55 rfl)) Via.refl e1 P3 (g := (mkF m 38 #[rv a1, iv 5, iv c0] [.int c0, .int 4, .ref a1])) rfl (hb hby d13_38)
  refine own_fw (A' := (T2.setTop (mkF m 43 #[rv a1, iv 5, iv c0] [.int ((c0 >>> ((0 : Int32) &&& 31)).toInt8.toInt32), .int 4, .ref a1]))) (fun t k => st2 _ (XS.ishr X2.here hx rfl (hb hby d13_41) rfl (XS.i2b X2.here hx rfl (hb hby d13_42) rfl k))) ?_
  obtain ⟨cl3, Ar3, q3, S3, M3, H3, G3⟩ := id P0
  have hin3 : ¬ ((4 : Int32) < 0 ∨ cl3.slots.size ≤ ((4 : Int32)).toNatClampNeg) := inb_of S3 ⟨by decide, by decide⟩
  obtain ⟨T3, h3, X3, e3, W3, st3⟩ := stB X2 hx hZ e2 Ar3 (j := (4 : Int32)) hin3 (g := (mkF m 43 #[rv a1, iv 5, iv c0] [.int ((c0 >>> ((0 : Int32) &&& 31)).toInt8.toInt32), .int 4, .ref a1])) rfl rfl (hb hby d13_43)
  rw [own_narB] at W3
  have V3 : Arv Z h3 a1 kb .byte (8 : Int32) [(.int x0), (.int x1), (.int x2), (.int x3), (.int ((c0 >>> ((0 : Int32) &&& 31)).toInt8.toInt32)), (.int x5), (.int x6), (.int x7)] (.int 0) := Arv.set Ar3 q3 S3 M3 H3 G3 (fits_nar_byte _) W3 4 rfl (Nat.le_of_ble_eq_true rfl)
  have Nf3 := Fr.snoc X3 N0 g_a1
  have K3 : Keep h0 h3 [a1] := (Keep.refl h0 [a1]).wr W3 (Or.inl (List.mem_of_getElem? (i := 0) rfl))
  have Z3 : n0 ≤ h3.size := Nat.le_trans Z0 (Keep.of_wr W3).1
  refine own_fw (A' := (T3.setTop (mkF m 47 #[rv a1, iv 5, iv c0] [.int c0, .int 5, .ref a1]))) (fun t k => st3 _ (XS.aloadN X3.here hx rfl (hb hby d13_44) rfl rfl (XS.iloadN X3.here hx rfl (hb hby d13_45) rfl (XS.iloadN X3.here hx rfl (hb hby d13_46) rfl k)))) ?_
  obtain ⟨T4, X4, e4, st4⟩ := getS2 X3 hx hZ hown (host := "") (Or.inl (own_w hw 56 rfl)) Via.refl e3 (P4.wr W3) (g := (mkF m 47 #[rv a1, iv 5, iv c0] [.int c0, .int 5, .ref a1])) rfl (hb hby d13_47)
  refine own_fw (A' := (T4.setTop (mkF m 52 #[rv a1, iv 5, iv c0] [.int ((c0 >>> ((8 : Int32) &&& 31)).toInt8.toInt32), .int 5, .ref a1]))) (fun t k => st4 _ (XS.ishr X4.here hx rfl (hb hby d13_50) rfl (XS.i2b X4.here hx rfl (hb hby d13_51) rfl k))) ?_
  obtain ⟨cl5, Ar5, q5, S5, M5, H5, G5⟩ := id V3
  have hin5 : ¬ ((5 : Int32) < 0 ∨ cl5.slots.size ≤ ((5 : Int32)).toNatClampNeg) := inb_of S5 ⟨by decide, by decide⟩
  obtain ⟨T5, h5, X5, e5, W5, st5⟩ := stB X4 hx hZ e4 Ar5 (j := (5 : Int32)) hin5 (g := (mkF m 52 #[rv a1, iv 5, iv c0] [.int ((c0 >>> ((8 : Int32) &&& 31)).toInt8.toInt32), .int 5, .ref a1])) rfl rfl (hb hby d13_52)
  rw [own_narB] at W5
  have V5 : Arv Z h5 a1 kb .byte (8 : Int32) [(.int x0), (.int x1), (.int x2), (.int x3), (.int ((c0 >>> ((0 : Int32) &&& 31)).toInt8.toInt32)), (.int ((c0 >>> ((8 : Int32) &&& 31)).toInt8.toInt32)), (.int x6), (.int x7)] (.int 0) := Arv.set Ar5 q5 S5 M5 H5 G5 (fits_nar_byte _) W5 5 rfl (Nat.le_of_ble_eq_true rfl)
  have Nf5 := Fr.snoc X5 Nf3 g_a1
  have K5 : Keep h0 h5 [a1] := K3.wr W5 (Or.inl (List.mem_of_getElem? (i := 0) rfl))
  have Z5 : n0 ≤ h5.size := Nat.le_trans Z3 (Keep.of_wr W5).1
  refine own_fw (A' := (T5.setTop (mkF m 53 #[rv a1, iv 5, iv c0] []))) (fun t k => st5 _ k) ?_
  obtain ⟨fs, hr, hrun, hended, hW, hsame⟩ := X5.leave (v := none) (fun _ => rfl)
  refine ⟨_, _, ?_, hrun, hended, _, _, rfl, ?_, ⟨_, rfl⟩, hW, hsame.mono (by decide) (by decide)⟩
  · exact X5.returnOut hx Bd.returns (hb hby d13_53) hr
  · show Q_rmPut42 Z a1 kb c0 x0 x1 x2 x3 x4 x5 x6 x7 h0 n0 _ T5.heap _
    rw [e5]
    exact ⟨rfl, Nf5, K5, V5⟩
theorem ef_rmPut43 (m : MethodId) (a1 : Addr) (c0 : Int32) : entryFrame m #[(.ref a1), (.int 3), (.int c0)] 3 = mkF m 0 #[.val (.ref a1), .val (.int 3), .val (.int c0)] [] := by first | (simp [entryFrame, mkF, argsToLocals, Value.category]; done) | rfl
def Q_rmPut43 (Z : State) (a1 : Addr) (kb : ClassId) (c0 x0 x1 x2 x3 x4 x5 x6 x7 : Int32) (h0 : Heap) (n0 : Nat) (v : Option Value) (h : Heap) (L : List Loc) : Prop := v = none ∧ Fr n0 L ∧ Keep h0 h [a1] ∧ Arv Z h a1 kb .byte (8 : Int32) [(.int x0), (.int x1), (.int x2), (.int x3), (.int x4), (.int x5), (.int (own_lo c0)), (.int (own_hb c0))] (.int 0)
theorem rmPut43 (l : Launch) (Z : State) (a0 : Array Value) (hw : ∀ d ∈ tables_1, d.before a0 Z = true) (ws : List Jvm.Cond) (a1 : Addr) (kb : ClassId) (c0 x0 x1 x2 x3 x4 x5 x6 x7 : Int32) (h0 : Heap) (n0 : Nat) (Z0 : n0 ≤ h0.size) (P0 : Arv Z h0 a1 kb .byte (8 : Int32) [(.int x0), (.int x1), (.int x2), (.int x3), (.int x4), (.int x5), (.int x6), (.int x7)] (.int 0)) (g_a1 : n0 ≤ a1) (P2 : Sta Z h0 "java/lang/StringUTF16" "$assertionsDisabled" "Z" (.int 1)) (P3 : Sta Z h0 "java/lang/StringUTF16" "HI_BYTE_SHIFT" "I" (.int 0)) (P4 : Sta Z h0 "java/lang/StringUTF16" "LO_BYTE_SHIFT" "I" (.int 8)) :
    MetFree l yq22 (head1 (Jvm.Cond.code yq22 jdk_52_method_4_code 3 none :: ws) rq0) (fun a U => a = #[(.ref a1), (.int 3), (.int c0)] ∧ Z.Warmed39 U.vm ∧ U.heap = h0) (fun _ _ _ _ _ => True) (fun _ U o U' => ∃ v L, o = .returned v ∧ Q_rmPut43 Z a1 kb c0 x0 x1 x2 x3 x4 x5 x6 x7 h0 n0 v U'.heap L ∧ FrameEnd U o U' L rq0.cells rq0.slots) := by
  refine MetFree.of_bodySF (plainFor_of_name pn_java_lang_StringUTF16) hisR ?_
  intro p e s m args below meth c s₁ Bd hml0 hP hK
  obtain ⟨rfl, hZ, hh⟩ := hP
  have hx := Bd.exec
  have hby := Bd.bytes
  have hml : c.maxLocals = 3 := hml0
  have hown : s.vm.findClass "java/lang/StringUTF16" = some m.cls := findClass_of_methodNamed Bd.named
  have hnm := (name_of_methodNamed Bd.named Bd.method).1
  have X0 : Stand p l e rq0 s m #[(.ref a1), (.int 3), (.int c0)] below meth c s₁ [] 0 0 := Stand.of_body Bd
  have e0 : s₁.heap = h0 := by rw [← hh, Bd.state]; rfl
  have N0 := Fr.nil n0
  refine own_fw (A' := (s₁.setTop (mkF m 0 #[.val (.ref a1), .val (.int 3), .val (.int c0)] []))) (fun t k => castTop (ef_rmPut43 m a1 c0) k) ?_
  obtain ⟨T1, X1, e1, st1⟩ := getS2 X0 hx hZ hown (host := "") (Or.inl (own_w hw 54 rfl)) Via.refl e0 P2 (g := (mkF m 0 #[rv a1, iv 3, iv c0] [])) rfl (hb hby d13_0)
  refine own_fw (A' := (T1.setTop (mkF m 38 #[rv a1, iv 7, iv c0] [.int c0, .int 6, .ref a1]))) (fun t k => st1 _ (XS.ifYes X1.here hx rfl (pc0 := 3) (pc' := 28) rfl (hb hby d13_3) rfl (XT.i0_ne_t (by decide)) (by decide) (by decide) (XS.iloadN X1.here hx rfl (hb hby d13_28) rfl (XS.iconst X1.here hx rfl (hb hby d13_29) (XS.ishl X1.here hx rfl (hb hby d13_30) rfl (XS.istoreN X1.here hx rfl (hb hby d13_31) rfl (l' := #[rv a1, iv 6, iv c0]) rfl (XS.aloadN X1.here hx rfl (hb hby d13_32) rfl rfl (XS.iloadN X1.here hx rfl (hb hby d13_33) rfl (XS.iinc X1.here hx rfl (hb hby d13_34) rfl (l' := #[rv a1, iv 7, iv c0]) rfl (XS.iloadN X1.here hx rfl (hb hby d13_37) rfl k)))))))))) ?_
  obtain ⟨T2, X2, e2, st2⟩ := getS2 X1 hx hZ hown (host := "") (Or.inl (own_w hw 55 rfl)) Via.refl e1 P3 (g := (mkF m 38 #[rv a1, iv 7, iv c0] [.int c0, .int 6, .ref a1])) rfl (hb hby d13_38)
  refine own_fw (A' := (T2.setTop (mkF m 43 #[rv a1, iv 7, iv c0] [.int ((c0 >>> ((0 : Int32) &&& 31)).toInt8.toInt32), .int 6, .ref a1]))) (fun t k => st2 _ (XS.ishr X2.here hx rfl (hb hby d13_41) rfl (XS.i2b X2.here hx rfl (hb hby d13_42) rfl k))) ?_
  obtain ⟨cl3, Ar3, q3, S3, M3, H3, G3⟩ := id P0
  have hin3 : ¬ ((6 : Int32) < 0 ∨ cl3.slots.size ≤ ((6 : Int32)).toNatClampNeg) := inb_of S3 ⟨by decide, by decide⟩
  obtain ⟨T3, h3, X3, e3, W3, st3⟩ := stB X2 hx hZ e2 Ar3 (j := (6 : Int32)) hin3 (g := (mkF m 43 #[rv a1, iv 7, iv c0] [.int ((c0 >>> ((0 : Int32) &&& 31)).toInt8.toInt32), .int 6, .ref a1])) rfl rfl (hb hby d13_43)
  rw [own_narB] at W3
  have V3 : Arv Z h3 a1 kb .byte (8 : Int32) [(.int x0), (.int x1), (.int x2), (.int x3), (.int x4), (.int x5), (.int ((c0 >>> ((0 : Int32) &&& 31)).toInt8.toInt32)), (.int x7)] (.int 0) := Arv.set Ar3 q3 S3 M3 H3 G3 (fits_nar_byte _) W3 6 rfl (Nat.le_of_ble_eq_true rfl)
  have Nf3 := Fr.snoc X3 N0 g_a1
  have K3 : Keep h0 h3 [a1] := (Keep.refl h0 [a1]).wr W3 (Or.inl (List.mem_of_getElem? (i := 0) rfl))
  have Z3 : n0 ≤ h3.size := Nat.le_trans Z0 (Keep.of_wr W3).1
  refine own_fw (A' := (T3.setTop (mkF m 47 #[rv a1, iv 7, iv c0] [.int c0, .int 7, .ref a1]))) (fun t k => st3 _ (XS.aloadN X3.here hx rfl (hb hby d13_44) rfl rfl (XS.iloadN X3.here hx rfl (hb hby d13_45) rfl (XS.iloadN X3.here hx rfl (hb hby d13_46) rfl k)))) ?_
  obtain ⟨T4, X4, e4, st4⟩ := getS2 X3 hx hZ hown (host := "") (Or.inl (own_w hw 56 rfl)) Via.refl e3 (P4.wr W3) (g := (mkF m 47 #[rv a1, iv 7, iv c0] [.int c0, .int 7, .ref a1])) rfl (hb hby d13_47)
  refine own_fw (A' := (T4.setTop (mkF m 52 #[rv a1, iv 7, iv c0] [.int ((c0 >>> ((8 : Int32) &&& 31)).toInt8.toInt32), .int 7, .ref a1]))) (fun t k => st4 _ (XS.ishr X4.here hx rfl (hb hby d13_50) rfl (XS.i2b X4.here hx rfl (hb hby d13_51) rfl k))) ?_
  obtain ⟨cl5, Ar5, q5, S5, M5, H5, G5⟩ := id V3
  have hin5 : ¬ ((7 : Int32) < 0 ∨ cl5.slots.size ≤ ((7 : Int32)).toNatClampNeg) := inb_of S5 ⟨by decide, by decide⟩
  obtain ⟨T5, h5, X5, e5, W5, st5⟩ := stB X4 hx hZ e4 Ar5 (j := (7 : Int32)) hin5 (g := (mkF m 52 #[rv a1, iv 7, iv c0] [.int ((c0 >>> ((8 : Int32) &&& 31)).toInt8.toInt32), .int 7, .ref a1])) rfl rfl (hb hby d13_52)
  rw [own_narB] at W5
  have V5 : Arv Z h5 a1 kb .byte (8 : Int32) [(.int x0), (.int x1), (.int x2), (.int x3), (.int x4), (.int x5), (.int ((c0 >>> ((0 : Int32) &&& 31)).toInt8.toInt32)), (.int ((c0 >>> ((8 : Int32) &&& 31)).toInt8.toInt32))] (.int 0) := Arv.set Ar5 q5 S5 M5 H5 G5 (fits_nar_byte _) W5 7 rfl (Nat.le_of_ble_eq_true rfl)
  have Nf5 := Fr.snoc X5 Nf3 g_a1
  have K5 : Keep h0 h5 [a1] := K3.wr W5 (Or.inl (List.mem_of_getElem? (i := 0) rfl))
  have Z5 : n0 ≤ h5.size := Nat.le_trans Z3 (Keep.of_wr W5).1
  refine own_fw (A' := (T5.setTop (mkF m 53 #[rv a1, iv 7, iv c0] []))) (fun t k => st5 _ k) ?_
  obtain ⟨fs, hr, hrun, hended, hW, hsame⟩ := X5.leave (v := none) (fun _ => rfl)
  refine ⟨_, _, ?_, hrun, hended, _, _, rfl, ?_, ⟨_, rfl⟩, hW, hsame.mono (by decide) (by decide)⟩
  · exact X5.returnOut hx Bd.returns (hb hby d13_53) hr
  · show Q_rmPut43 Z a1 kb c0 x0 x1 x2 x3 x4 x5 x6 x7 h0 n0 _ T5.heap _
    rw [e5]
    exact ⟨rfl, Nf5, K5, V5⟩
theorem ef_rmToB4 (m : MethodId) (a1 : Addr) : entryFrame m #[(.ref a1), (.int 0), (.int 4)] 5 = mkF m 0 #[.val (.ref a1), .val (.int 0), .val (.int 4), .unset, .unset] [] := by first | (simp [entryFrame, mkF, argsToLocals, Value.category]; done) | rfl
def Q_rmToB4 (Z : State) (a1 : Addr) (kc : ClassId) (c0 c1 c2 c3 : Int32) (h0 : Heap) (n0 : Nat) (v : Option Value) (h : Heap) (L : List Loc) : Prop := ∃ b : Addr, ∃ kb : ClassId, v = some (.ref b) ∧ Fr n0 L ∧ Keep h0 h [] ∧ Arv Z h b kb .byte (8 : Int32) [(.int (own_lo c0)), (.int (own_hb c0)), (.int (own_lo c1)), (.int (own_hb c1)), (.int (own_lo c2)), (.int (own_hb c2)), (.int (own_lo c3)), (.int (own_hb c3))] (.int 0) ∧ (h0.size ≤ b)
theorem rmToB4 (l : Launch) (Z : State) (a0 : Array Value) (hw : ∀ d ∈ tables_1, d.before a0 Z = true) (ws : List Jvm.Cond) (a1 : Addr) (kc : ClassId) (c0 c1 c2 c3 : Int32) (h0 : Heap) (n0 : Nat) (Z0 : n0 ≤ h0.size) (P0 : Arv Z h0 a1 kc .char (4 : Int32) [(.int c0), (.int c1), (.int c2), (.int c3)] (.int 0)) (P1 : Sta Z h0 "java/lang/StringUTF16" "$assertionsDisabled" "Z" (.int 1)) (P2 : Sta Z h0 "java/lang/StringUTF16" "HI_BYTE_SHIFT" "I" (.int 0)) (P3 : Sta Z h0 "java/lang/StringUTF16" "LO_BYTE_SHIFT" "I" (.int 8)) :
    MetFree l yq24 (head1 (Jvm.Cond.code yq24 jdk_52_method_14_code 5 (some (.array .byte)) :: ws) rq39) (fun a U => a = #[(.ref a1), (.int 0), (.int 4)] ∧ Z.Warmed39 U.vm ∧ U.heap = h0) (fun _ _ _ _ _ => True) (fun _ U o U' => ∃ v L, o = .returned v ∧ Q_rmToB4 Z a1 kc c0 c1 c2 c3 h0 n0 v U'.heap L ∧ FrameEnd U o U' L rq39.cells rq39.slots) := by
  refine MetFree.of_bodySF (plainFor_of_name pn_java_lang_StringUTF16) hisR ?_
  intro p e s m args below meth c s₁ Bd hml0 hP hK
  obtain ⟨rfl, hZ, hh⟩ := hP
  have hx := Bd.exec
  have hby := Bd.bytes
  have hml : c.maxLocals = 5 := hml0
  have hown : s.vm.findClass "java/lang/StringUTF16" = some m.cls := findClass_of_methodNamed Bd.named
  have hnm := (name_of_methodNamed Bd.named Bd.method).1
  have X0 : Stand p l e rq39 s m #[(.ref a1), (.int 0), (.int 4)] below meth c s₁ [] 0 0 := Stand.of_body Bd
  have e0 : s₁.heap = h0 := by rw [← hh, Bd.state]; rfl
  have N0 := Fr.nil n0
  refine own_fw (A' := (s₁.setTop (mkF m 1 #[rv a1, iv 0, iv 4, .unset, .unset] [.int 4]))) (fun t k => castTop (ef_rmToB4 m a1) (XS.iloadN X0.here hx rfl (hb hby d10_0) rfl k)) ?_
  obtain ⟨_, _, ⟨T1, L1, k1, n1⟩, -, X1, ⟨Lc1, hQ1, l1, y1, z1⟩, st1⟩ := Jvm.LawKit.callS X0 hx (y := yq21) hown (mvT hZ (own_w hw 44 rfl)) (mvT hZ (own_w hw 45 rfl)) (mvT hZ (own_w hw 35 rfl)) (mvT hZ (own_w hw 46 rfl)) (by decide) (backOf (W := 0) (rmNBF4 l Z a0 hw []  h0 n0 Z0 ) hZ (own_w hw 46 rfl) (own_w hw 35 rfl) (by decide) (by decide)) (g := (mkF m 1 #[rv a1, iv 0, iv 4, .unset, .unset] [.int 4])) rfl (by rw [hml]; rfl) (argsL := [(.int 4)]) (rest := []) (lenOf pd__I__B rfl) rfl (by show 2 * 0 + _ ≤ _; exact Nat.le_of_eq rfl) (hb hby d10_1) (fun _ _ => ⟨rfl, e0, (by decide : 0 + 1 ≤ _), (by decide : 0 + 8 ≤ _)⟩)
  dsimp only [Pt.U, Pt.locs, Pt.cells, Pt.slots] at X1 l1 y1 z1 st1 hQ1
  subst l1 y1 z1
  obtain ⟨b_1, kb_1, rfl, Nq1, Kq1, Fq1_0, gb_1⟩ := hQ1
  have Nf1 := Fr.app N0 Nq1
  have K1 : Keep h0 T1.heap [] := (Keep.refl h0 []).trans Kq1 all0
  have sz_b_1 : h0.size ≤ b_1 := Nat.le_trans (Keep.refl h0 []).1 gb_1
  have g_b_1 : n0 ≤ b_1 := Nat.le_trans Z0 gb_1
  have ne_a1_b_1 : a1 ≠ b_1 := Nat.ne_of_lt (Nat.lt_of_lt_of_le P0.lt gb_1)
  have Z1 : n0 ≤ T1.heap.size := Nat.le_trans Z0 Kq1.1
  refine own_fw (A' := (T1.setTop (mkF m 19 #[rv a1, iv 0, iv 4, rv b_1, iv 0] [.int 0, .ref a1, .int 0, .ref b_1]))) (fun t k => st1 _ (XS.astoreN X1.here hx rfl (hb hby d10_4) rfl rfl (l' := #[rv a1, iv 0, iv 4, rv b_1, .unset]) rfl (XS.iconst X1.here hx rfl (hb hby d10_5) (XS.istore X1.here hx rfl (hb hby d10_6) rfl (l' := #[rv a1, iv 0, iv 4, rv b_1, iv 0]) rfl (XS.iload X1.here hx rfl (hb hby d10_8) rfl (XS.iloadN X1.here hx rfl (hb hby d10_10) rfl (XS.icmpNo X1.here hx rfl (hb hby d10_11) rfl (XT.ii_ge_f (by decide)) (XS.aloadN X1.here hx rfl (hb hby d10_14) rfl rfl (XS.iload X1.here hx rfl (hb hby d10_15) rfl (XS.aloadN X1.here hx rfl (hb hby d10_17) rfl rfl (XS.iloadN X1.here hx rfl (hb hby d10_18) rfl k))))))))))) ?_
  obtain ⟨cl2, Ar2, q2, S2, M2, H2, G2⟩ := id (P0.keep Kq1 nin0)
  have hin2 : ¬ ((0 : Int32) < 0 ∨ cl2.slots.size ≤ ((0 : Int32)).toNatClampNeg) := inb_of S2 ⟨by decide, by decide⟩
  have hat2 : cl2.slots[((0 : Int32)).toNatClampNeg]? = some (.int c0) := H2.at hin2 rfl
  refine own_fw (A' := (T1.setTop (mkF m 20 #[rv a1, iv 0, iv 4, rv b_1, iv 0] [.int c0, .int 0, .ref b_1]))) (fun t k => X1.caload hx (j := (0 : Int32)) (v := (.int c0)) (by exact Ar2.1) (State.isArrayOf_alike hZ.alike Ar2.2.1) Ar2.2.2 hin2 hat2 (g := (mkF m 19 #[rv a1, iv 0, iv 4, rv b_1, iv 0] [.int 0, .ref a1, .int 0, .ref b_1])) rfl rfl (hb hby d10_19) _ k) ?_
  obtain ⟨_, _, ⟨T3, L3, k3, n3⟩, -, X3, ⟨Lc3, hQ3, l3, y3, z3⟩, st3⟩ := Jvm.LawKit.callS X1 hx (y := yq22) hown (mvT hZ (own_w hw 51 rfl)) (mvT hZ (own_w hw 52 rfl)) (mvT hZ (own_w hw 35 rfl)) (mvT hZ (own_w hw 53 rfl)) (by decide) (backOf (W := 0) (rmPut40 l Z a0 hw [] b_1 kb_1 c0 (0 : Int32) (0 : Int32) (0 : Int32) (0 : Int32) (0 : Int32) (0 : Int32) (0 : Int32) (0 : Int32) T1.heap n0 Z1 Fq1_0 g_b_1 (own_staKeep P1 Kq1 all0) (own_staKeep P2 Kq1 all0) (own_staKeep P3 Kq1 all0)) hZ (own_w hw 53 rfl) (own_w hw 35 rfl) (by decide) (by decide)) (g := (mkF m 20 #[rv a1, iv 0, iv 4, rv b_1, iv 0] [.int c0, .int 0, .ref b_1])) rfl (by rw [hml]; rfl) (argsL := [(.ref b_1), (.int 0), (.int c0)]) (rest := []) (lenOf pd___BII_V rfl) rfl (by show 2 * 0 + _ ≤ _; exact Nat.le_of_eq rfl) (hb hby d10_20) (fun _ _ => ⟨rfl, rfl, (by decide : 1 + 0 ≤ _), (by decide : 8 + 0 ≤ _)⟩)
  dsimp only [Pt.U, Pt.locs, Pt.cells, Pt.slots] at X3 l3 y3 z3 st3 hQ3
  subst l3 y3 z3
  obtain ⟨rfl, Nq3, Kq3, Fq3_0⟩ := hQ3
  have Nf3 := Fr.app Nf1 Nq3
  have K3 : Keep h0 T3.heap [] := K1.trans Kq3 (allS (Or.inr sz_b_1) all0)
  have Z3 : n0 ≤ T3.heap.size := Nat.le_trans Z1 Kq3.1
  refine own_fw (A' := (T3.setTop (mkF m 19 #[rv a1, iv 1, iv 4, rv b_1, iv 1] [.int 1, .ref a1, .int 1, .ref b_1]))) (fun t k => st3 _ (XS.iinc X3.here hx rfl (hb hby d10_23) rfl (l' := #[rv a1, iv 1, iv 4, rv b_1, iv 0]) rfl (XS.iinc X3.here hx rfl (hb hby d10_26) rfl (l' := #[rv a1, iv 1, iv 4, rv b_1, iv 1]) rfl (XS.goto X3.here hx rfl (pc0 := 29) (pc' := 8) rfl (hb hby d10_29) (by decide) (by decide) (XS.iload X3.here hx rfl (hb hby d10_8) rfl (XS.iloadN X3.here hx rfl (hb hby d10_10) rfl (XS.icmpNo X3.here hx rfl (hb hby d10_11) rfl (XT.ii_ge_f (by decide)) (XS.aloadN X3.here hx rfl (hb hby d10_14) rfl rfl (XS.iload X3.here hx rfl (hb hby d10_15) rfl (XS.aloadN X3.here hx rfl (hb hby d10_17) rfl rfl (XS.iloadN X3.here hx rfl (hb hby d10_18) rfl k))))))))))) ?_
  obtain ⟨cl4, Ar4, q4, S4, M4, H4, G4⟩ := id ((P0.keep Kq1 nin0).keep Kq3 (ninS ne_a1_b_1 nin0))
  have hin4 : ¬ ((1 : Int32) < 0 ∨ cl4.slots.size ≤ ((1 : Int32)).toNatClampNeg) := inb_of S4 ⟨by decide, by decide⟩
  have hat4 : cl4.slots[((1 : Int32)).toNatClampNeg]? = some (.int c1) := H4.at hin4 rfl
  refine own_fw (A' := (T3.setTop (mkF m 20 #[rv a1, iv 1, iv 4, rv b_1, iv 1] [.int c1, .int 1, .ref b_1]))) (fun t k => X3.caload hx (j := (1 : Int32)) (v := (.int c1)) (by exact Ar4.1) (State.isArrayOf_alike hZ.alike Ar4.2.1) Ar4.2.2 hin4 hat4 (g := (mkF m 19 #[rv a1, iv 1, iv 4, rv b_1, iv 1] [.int 1, .ref a1, .int 1, .ref b_1])) rfl rfl (hb hby d10_19) _ k) ?_
  obtain ⟨_, _, ⟨T5, L5, k5, n5⟩, -, X5, ⟨Lc5, hQ5, l5, y5, z5⟩, st5⟩ := Jvm.LawKit.callS X3 hx (y := yq22) hown (mvT hZ (own_w hw 51 rfl)) (mvT hZ (own_w hw 52 rfl)) (mvT hZ (own_w hw 35 rfl)) (mvT hZ (own_w hw 53 rfl)) (by decide) (backOf (W := 0) (rmPut41 l Z a0 hw [] b_1 kb_1 c1 (own_lo c0) (own_hb c0) (0 : Int32) (0 : Int32) (0 : Int32) (0 : Int32) (0 : Int32) (0 : Int32) T3.heap n0 Z3 Fq3_0 g_b_1 (own_staKeep (own_staKeep P1 Kq1 all0) Kq3 (allS (own_plainV Fq1_0) all0)) (own_staKeep (own_staKeep P2 Kq1 all0) Kq3 (allS (own_plainV Fq1_0) all0)) (own_staKeep (own_staKeep P3 Kq1 all0) Kq3 (allS (own_plainV Fq1_0) all0))) hZ (own_w hw 53 rfl) (own_w hw 35 rfl) (by decide) (by decide)) (g := (mkF m 20 #[rv a1, iv 1, iv 4, rv b_1, iv 1] [.int c1, .int 1, .ref b_1])) rfl (by rw [hml]; rfl) (argsL := [(.ref b_1), (.int 1), (.int c1)]) (rest := []) (lenOf pd___BII_V rfl) rfl (by show 2 * 0 + _ ≤ _; exact Nat.le_of_eq rfl) (hb hby d10_20) (fun _ _ => ⟨rfl, rfl, (by decide : 1 + 0 ≤ _), (by decide : 8 + 0 ≤ _)⟩)
  dsimp only [Pt.U, Pt.locs, Pt.cells, Pt.slots] at X5 l5 y5 z5 st5 hQ5
  subst l5 y5 z5
  obtain ⟨rfl, Nq5, Kq5, Fq5_0⟩ := hQ5
  have Nf5 := Fr.app Nf3 Nq5
  have K5 : Keep h0 T5.heap [] := K3.trans Kq5 (allS (Or.inr sz_b_1) all0)
  have Z5 : n0 ≤ T5.heap.size := Nat.le_trans Z3 Kq5.1
  refine own_fw (A' := (T5.setTop (mkF m 19 #[rv a1, iv 2, iv 4, rv b_1, iv 2] [.int 2, .ref a1, .int 2, .ref b_1]))) (fun t k => st5 _ (XS.iinc X5.here hx rfl (hb hby d10_23) rfl (l' := #[rv a1, iv 2, iv 4, rv b_1, iv 1]) rfl (XS.iinc X5.here hx rfl (hb hby d10_26) rfl (l' := #[rv a1, iv 2, iv 4, rv b_1, iv 2]) rfl (XS.goto X5.here hx rfl (pc0 := 29) (pc' := 8) rfl (hb hby d10_29) (by decide) (by decide) (XS.iload X5.here hx rfl (hb hby d10_8) rfl (XS.iloadN X5.here hx rfl (hb hby d10_10) rfl (XS.icmpNo X5.here hx rfl (hb hby d10_11) rfl (XT.ii_ge_f (by decide)) (XS.aloadN X5.here hx rfl (hb hby d10_14) rfl rfl (XS.iload X5.here hx rfl (hb hby d10_15) rfl (XS.aloadN X5.here hx rfl (hb hby d10_17) rfl rfl (XS.iloadN X5.here hx rfl (hb hby d10_18) rfl k))))))))))) ?_
  obtain ⟨cl6, Ar6, q6, S6, M6, H6, G6⟩ := id (((P0.keep Kq1 nin0).keep Kq3 (ninS ne_a1_b_1 nin0)).keep Kq5 (ninS ne_a1_b_1 nin0))
  have hin6 : ¬ ((2 : Int32) < 0 ∨ cl6.slots.size ≤ ((2 : Int32)).toNatClampNeg) := inb_of S6 ⟨by decide, by decide⟩
  have hat6 : cl6.slots[((2 : Int32)).toNatClampNeg]? = some (.int c2) := H6.at hin6 rfl
  refine own_fw (A' := (T5.setTop (mkF m 20 #[rv a1, iv 2, iv 4, rv b_1, iv 2] [.int c2, .int 2, .ref b_1]))) (fun t k => X5.caload hx (j := (2 : Int32)) (v := (.int c2)) (by exact Ar6.1) (State.isArrayOf_alike hZ.alike Ar6.2.1) Ar6.2.2 hin6 hat6 (g := (mkF m 19 #[rv a1, iv 2, iv 4, rv b_1, iv 2] [.int 2, .ref a1, .int 2, .ref b_1])) rfl rfl (hb hby d10_19) _ k) ?_
  obtain ⟨_, _, ⟨T7, L7, k7, n7⟩, -, X7, ⟨Lc7, hQ7, l7, y7, z7⟩, st7⟩ := Jvm.LawKit.callS X5 hx (y := yq22) hown (mvT hZ (own_w hw 51 rfl)) (mvT hZ (own_w hw 52 rfl)) (mvT hZ (own_w hw 35 rfl)) (mvT hZ (own_w hw 53 rfl)) (by decide) (backOf (W := 0) (rmPut42 l Z a0 hw [] b_1 kb_1 c2 (own_lo c0) (own_hb c0) (own_lo c1) (own_hb c1) (0 : Int32) (0 : Int32) (0 : Int32) (0 : Int32) T5.heap n0 Z5 Fq5_0 g_b_1 (own_staKeep (own_staKeep (own_staKeep P1 Kq1 all0) Kq3 (allS (own_plainV Fq1_0) all0)) Kq5 (allS (own_plainV Fq3_0) all0)) (own_staKeep (own_staKeep (own_staKeep P2 Kq1 all0) Kq3 (allS (own_plainV Fq1_0) all0)) Kq5 (allS (own_plainV Fq3_0) all0)) (own_staKeep (own_staKeep (own_staKeep P3 Kq1 all0) Kq3 (allS (own_plainV Fq1_0) all0)) Kq5 (allS (own_plainV Fq3_0) all0))) hZ (own_w hw 53 rfl) (own_w hw 35 rfl) (by decide) (by decide)) (g := (mkF m 20 #[rv a1, iv 2, iv 4, rv b_1, iv 2] [.int c2, .int 2, .ref b_1])) rfl (by rw [hml]; rfl) (argsL := [(.ref b_1), (.int 2), (.int c2)]) (rest := []) (lenOf pd___BII_V rfl) rfl (by show 2 * 0 + _ ≤ _; exact Nat.le_of_eq rfl) (hb hby d10_20) (fun _ _ => ⟨rfl, rfl, (by decide : 1 + 0 ≤ _), (by decide : 8 + 0 ≤ _)⟩)
  dsimp only [Pt.U, Pt.locs, Pt.cells, Pt.slots] at X7 l7 y7 z7 st7 hQ7
  subst l7 y7 z7
  obtain ⟨rfl, Nq7, Kq7, Fq7_0⟩ := hQ7
  have Nf7 := Fr.app Nf5 Nq7
  have K7 : Keep h0 T7.heap [] := K5.trans Kq7 (allS (Or.inr sz_b_1) all0)
  have Z7 : n0 ≤ T7.heap.size := Nat.le_trans Z5 Kq7.1
  refine own_fw (A' := (T7.setTop (mkF m 19 #[rv a1, iv 3, iv 4, rv b_1, iv 3] [.int 3, .ref a1, .int 3, .ref b_1]))) (fun t k => st7 _ (XS.iinc X7.here hx rfl (hb hby d10_23) rfl (l' := #[rv a1, iv 3, iv 4, rv b_1, iv 2]) rfl (XS.iinc X7.here hx rfl (hb hby d10_26) rfl (l' := #[rv a1, iv 3, iv 4, rv b_1, iv 3]) rfl (XS.goto X7.here hx rfl (pc0 := 29) (pc' := 8) rfl (hb hby d10_29) (by decide) (by decide) (XS.iload X7.here hx rfl (hb hby d10_8) rfl (XS.iloadN X7.here hx rfl (hb hby d10_10) rfl (XS.icmpNo X7.here hx rfl (hb hby d10_11) rfl (XT.ii_ge_f (by decide)) (XS.aloadN X7.here hx rfl (hb hby d10_14) rfl rfl (XS.iload X7.here hx rfl (hb hby d10_15) rfl (XS.aloadN X7.here hx rfl (hb hby d10_17) rfl rfl (XS.iloadN X7.here hx rfl (hb hby d10_18) rfl k))))))))))) ?_
  obtain ⟨cl8, Ar8, q8, S8, M8, H8, G8⟩ := id ((((P0.keep Kq1 nin0).keep Kq3 (ninS ne_a1_b_1 nin0)).keep Kq5 (ninS ne_a1_b_1 nin0)).keep Kq7 (ninS ne_a1_b_1 nin0))
  have hin8 : ¬ ((3 : Int32) < 0 ∨ cl8.slots.size ≤ ((3 : Int32)).toNatClampNeg) := inb_of S8 ⟨by decide, by decide⟩
  have hat8 : cl8.slots[((3 : Int32)).toNatClampNeg]? = some (.int c3) := H8.at hin8 rfl
  refine own_fw (A' := (T7.setTop (mkF m 20 #[rv a1, iv 3, iv 4, rv b_1, iv 3] [.int c3, .int 3, .ref b_1]))) (fun t k => X7.caload hx (j := (3 : Int32)) (v := (.int c3)) (by exact Ar8.1) (State.isArrayOf_alike hZ.alike Ar8.2.1) Ar8.2.2 hin8 hat8 (g := (mkF m 19 #[rv a1, iv 3, iv 4, rv b_1, iv 3] [.int 3, .ref a1, .int 3, .ref b_1])) rfl rfl (hb hby d10_19) _ k) ?_
  obtain ⟨_, _, ⟨T9, L9, k9, n9⟩, -, X9, ⟨Lc9, hQ9, l9, y9, z9⟩, st9⟩ := Jvm.LawKit.callS X7 hx (y := yq22) hown (mvT hZ (own_w hw 51 rfl)) (mvT hZ (own_w hw 52 rfl)) (mvT hZ (own_w hw 35 rfl)) (mvT hZ (own_w hw 53 rfl)) (by decide) (backOf (W := 0) (rmPut43 l Z a0 hw [] b_1 kb_1 c3 (own_lo c0) (own_hb c0) (own_lo c1) (own_hb c1) (own_lo c2) (own_hb c2) (0 : Int32) (0 : Int32) T7.heap n0 Z7 Fq7_0 g_b_1 (own_staKeep (own_staKeep (own_staKeep (own_staKeep P1 Kq1 all0) Kq3 (allS (own_plainV Fq1_0) all0)) Kq5 (allS (own_plainV Fq3_0) all0)) Kq7 (allS (own_plainV Fq5_0) all0)) (own_staKeep (own_staKeep (own_staKeep (own_staKeep P2 Kq1 all0) Kq3 (allS (own_plainV Fq1_0) all0)) Kq5 (allS (own_plainV Fq3_0) all0)) Kq7 (allS (own_plainV Fq5_0) all0)) (own_staKeep (own_staKeep (own_staKeep (own_staKeep P3 Kq1 all0) Kq3 (allS (own_plainV Fq1_0) all0)) Kq5 (allS (own_plainV Fq3_0) all0)) Kq7 (allS (own_plainV Fq5_0) all0))) hZ (own_w hw 53 rfl) (own_w hw 35 rfl) (by decide) (by decide)) (g := (mkF m 20 #[rv a1, iv 3, iv 4, rv b_1, iv 3] [.int c3, .int 3, .ref b_1])) rfl (by rw [hml]; rfl) (argsL := [(.ref b_1), (.int 3), (.int c3)]) (rest := []) (lenOf pd___BII_V rfl) rfl (by show 2 * 0 + _ ≤ _; exact Nat.le_of_eq rfl) (hb hby d10_20) (fun _ _ => ⟨rfl, rfl, (by decide : 1 + 0 ≤ _), (by decide : 8 + 0 ≤ _)⟩)
  dsimp only [Pt.U, Pt.locs, Pt.cells, Pt.slots] at X9 l9 y9 z9 st9 hQ9
  subst l9 y9 z9
  obtain ⟨rfl, Nq9, Kq9, Fq9_0⟩ := hQ9
  have Nf9 := Fr.app Nf7 Nq9
  have K9 : Keep h0 T9.heap [] := K7.trans Kq9 (allS (Or.inr sz_b_1) all0)
  have Z9 : n0 ≤ T9.heap.size := Nat.le_trans Z7 Kq9.1
  refine own_fw (A' := (T9.setTop (mkF m 33 #[rv a1, iv 4, iv 4, rv b_1, iv 4] [.ref b_1]))) (fun t k => st9 _ (XS.iinc X9.here hx rfl (hb hby d10_23) rfl (l' := #[rv a1, iv 4, iv 4, rv b_1, iv 3]) rfl (XS.iinc X9.here hx rfl (hb hby d10_26) rfl (l' := #[rv a1, iv 4, iv 4, rv b_1, iv 4]) rfl (XS.goto X9.here hx rfl (pc0 := 29) (pc' := 8) rfl (hb hby d10_29) (by decide) (by decide) (XS.iload X9.here hx rfl (hb hby d10_8) rfl (XS.iloadN X9.here hx rfl (hb hby d10_10) rfl (XS.icmpYes X9.here hx rfl (pc0 := 11) (pc' := 32) rfl (hb hby d10_11) rfl (XT.ii_ge_t (by decide)) (by decide) (by decide) (XS.aloadN X9.here hx rfl (hb hby d10_32) rfl rfl k)))))))) ?_
  obtain ⟨fs, hr, hrun, hended, hW, hsame⟩ := X9.leave (v := some (.ref b_1)) (fun h => by rw [Bd.returns] at h; cases h)
  refine ⟨_, _, ?_, hrun, hended, _, _, rfl, ?_, ⟨_, rfl⟩, hW, hsame.mono (by decide) (by decide)⟩
  · exact retOut X9 hx Bd.returns rfl (Or.inr (Or.inr (Or.inr (Or.inr ⟨rfl, rfl, rfl⟩)))) (hb hby d10_33) hr
  · show Q_rmToB4 Z a1 kc c0 c1 c2 c3 h0 n0 _ T9.heap _
    exact ⟨b_1, kb_1, rfl, Nf9, K9, Fq9_0, sz_b_1⟩
theorem ef_rmCoderU4 (m : MethodId) (a1 : Addr) : entryFrame m #[(.ref a1), (.int 4)] 2 = mkF m 0 #[.val (.ref a1), .val (.int 4)] [] := by first | (simp [entryFrame, mkF, argsToLocals, Value.category]; done) | rfl
def Q_rmCoderU4 (Z : State) (a1 : Addr) (kb : ClassId) (x0 x1 x2 x3 x4 x5 x6 x7 : Int32) (h0 : Heap) (n0 : Nat) (v : Option Value) (h : Heap) (L : List Loc) : Prop := v = some (.int 1) ∧ Fr n0 L ∧ h = h0
theorem rmCoderU4 (l : Launch) (Z : State) (a0 : Array Value) (hw : ∀ d ∈ tables_1, d.before a0 Z = true) (ws : List Jvm.Cond) (a1 : Addr) (kb : ClassId) (x0 x1 x2 x3 x4 x5 x6 x7 : Int32) (h0 : Heap) (n0 : Nat) (Z0 : n0 ≤ h0.size) (P0 : Arv Z h0 a1 kb .byte (8 : Int32) [(.int x0), (.int x1), (.int x2), (.int x3), (.int x4), (.int x5), (.int x6), (.int x7)] (.int 0)) :
    MetFree l yq5 (head1 (Jvm.Cond.code yq5 jdk_52_method_15_code 2 (some .byte) :: ws) rq0) (fun a U => a = #[(.ref a1), (.int 4)] ∧ Z.Warmed39 U.vm ∧ U.heap = h0) (fun _ _ _ _ _ => True) (fun _ U o U' => ∃ v L, o = .returned v ∧ Q_rmCoderU4 Z a1 kb x0 x1 x2 x3 x4 x5 x6 x7 h0 n0 v U'.heap L ∧ FrameEnd U o U' L rq0.cells rq0.slots) := by
  refine MetFree.of_bodySF (plainFor_of_name pn_java_lang_StringUTF16) hisR ?_
  intro p e s m args below meth c s₁ Bd hml0 hP hK
  obtain ⟨rfl, hZ, hh⟩ := hP
  have hx := Bd.exec
  have hby := Bd.bytes
  have hml : c.maxLocals = 2 := hml0
  have hown : s.vm.findClass "java/lang/StringUTF16" = some m.cls := findClass_of_methodNamed Bd.named
  have hnm := (name_of_methodNamed Bd.named Bd.method).1
  have X0 : Stand p l e rq0 s m #[(.ref a1), (.int 4)] below meth c s₁ [] 0 0 := Stand.of_body Bd
  have e0 : s₁.heap = h0 := by rw [← hh, Bd.state]; rfl
  have N0 := Fr.nil n0
  refine own_fw (A' := (s₁.setTop (mkF m 2 #[rv a1, iv 4] [.ref a1, .int 4]))) (fun t k => castTop (ef_rmCoderU4 m a1) (XS.iloadN X0.here hx rfl (hb hby d15_0) rfl (XS.aloadN X0.here hx rfl (hb hby d15_1) rfl rfl k))) ?_
  obtain ⟨cl1, Ar1, q1, S1, M1, H1, G1⟩ := id P0
  refine own_fw (A' := (s₁.setTop (mkF m 3 #[rv a1, iv 4] [.int 8, .int 4]))) (fun t k => X0.arraylength hx (by rw [e0]; exact Ar1.1) (State.isArrayOf_alike hZ.alike Ar1.2.1) (g := (mkF m 2 #[rv a1, iv 4] [.ref a1, .int 4])) rfl rfl (hb hby d15_2) _ (by rw [len_of S1 M1]; exact k)) ?_
  refine own_fw (A' := (s₁.setTop (mkF m 8 #[rv a1, iv 4] [.int 1]))) (fun t k => XS.isub X0.here hx rfl (hb hby d15_3) rfl (XS.bipush X0.here hx rfl (hb hby d15_4) (XS.iushr X0.here hx rfl (hb hby d15_6) rfl (XS.i2b X0.here hx rfl (hb hby d15_7) rfl k)))) ?_
  obtain ⟨fs, hr, hrun, hended, hW, hsame⟩ := X0.leave (v := some (.int 1)) (fun h => by rw [Bd.returns] at h; cases h)
  refine ⟨_, _, ?_, hrun, hended, _, _, rfl, ?_, ⟨_, rfl⟩, hW, hsame.mono (by decide) (by decide)⟩
  · exact retOut X0 hx Bd.returns rfl (Or.inl ⟨rfl, by simp, _, rfl⟩) (hb hby d15_8) hr
  · show Q_rmCoderU4 Z a1 kb x0 x1 x2 x3 x4 x5 x6 x7 h0 n0 _ s₁.heap _
    rw [e0]
    exact ⟨rfl, N0, rfl⟩
theorem ef_rmCmpA4U (m : MethodId) (a1 a3 : Addr) : entryFrame m #[(.ref a1), (.int 0), (.ref a3), (.int 0), (.int 4)] 7 = mkF m 0 #[.val (.ref a1), .val (.int 0), .val (.ref a3), .val (.int 0), .val (.int 4), .unset, .unset] [] := by first | (simp [entryFrame, mkF, argsToLocals, Value.category]; done) | rfl
def Q_rmCmpA4U (Z : State) (a1 a3 : Addr) (kc kb : ClassId) (c0 c1 c2 c3 : Int32) (h0 : Heap) (n0 : Nat) (v : Option Value) (h : Heap) (L : List Loc) : Prop := ∃ r : Int32, v = some (.int r) ∧ Fr n0 L ∧ Keep h0 h [a3] ∧ (own_big [c0, c1, c2, c3] r)
theorem rmCmpA4U (l : Launch) (Z : State) (a0 : Array Value) (hw : ∀ d ∈ tables_1, d.before a0 Z = true) (ws : List Jvm.Cond) (a1 a3 : Addr) (kc kb : ClassId) (c0 c1 c2 c3 : Int32) (h0 : Heap) (n0 : Nat) (Z0 : n0 ≤ h0.size) (P0 : Arv Z h0 a1 kc .char (4 : Int32) [(.int c0), (.int c1), (.int c2), (.int c3)] (.int 0)) (P1 : Arv Z h0 a3 kb .byte (4 : Int32) [(.int 0), (.int 0), (.int 0), (.int 0)] (.int 0)) (g_a3 : n0 ≤ a3) (ne_a1_a3 : a1 ≠ a3) (hbig : (255 : Int32) < c0 ∨ (255 : Int32) < c1 ∨ (255 : Int32) < c2 ∨ (255 : Int32) < c3) :
    MetFree l yq2 (head1 (Jvm.Cond.code yq2 jdk_52_method_21_code 7 (some .int) :: ws) rq0) (fun a U => a = #[(.ref a1), (.int 0), (.ref a3), (.int 0), (.int 4)] ∧ Z.Warmed39 U.vm ∧ U.heap = h0) (fun _ _ _ _ _ => True) (fun _ U o U' => ∃ v L, o = .returned v ∧ Q_rmCmpA4U Z a1 a3 kc kb c0 c1 c2 c3 h0 n0 v U'.heap L ∧ FrameEnd U o U' L rq0.cells rq0.slots) := by
  refine MetFree.of_bodySF (plainFor_of_name pn_java_lang_StringUTF16) hisR ?_
  intro p e s m args below meth c s₁ Bd hml0 hP hK
  obtain ⟨rfl, hZ, hh⟩ := hP
  have hx := Bd.exec
  have hby := Bd.bytes
  have hml : c.maxLocals = 7 := hml0
  have hown : s.vm.findClass "java/lang/StringUTF16" = some m.cls := findClass_of_methodNamed Bd.named
  have hnm := (name_of_methodNamed Bd.named Bd.method).1
  have X0 : Stand p l e rq0 s m #[(.ref a1), (.int 0), (.ref a3), (.int 0), (.int 4)] below meth c s₁ [] 0 0 := Stand.of_body Bd
  have e0 : s₁.heap = h0 := by rw [← hh, Bd.state]; rfl
  have N0 := Fr.nil n0
  refine own_fw (A' := (s₁.setTop (mkF m 12 #[rv a1, iv 0, rv a3, iv 0, iv 4, iv 0, .unset] [.int 0, .ref a1]))) (fun t k => castTop (ef_rmCmpA4U m a1 a3) (XS.iconst X0.here hx rfl (hb hby d9_0) (XS.istore X0.here hx rfl (hb hby d9_1) rfl (l' := #[rv a1, iv 0, rv a3, iv 0, iv 4, iv 0, .unset]) rfl (XS.iload X0.here hx rfl (hb hby d9_3) rfl (XS.iload X0.here hx rfl (hb hby d9_5) rfl (XS.icmpNo X0.here hx rfl (hb hby d9_7) rfl (XT.ii_ge_f (by decide)) (XS.aloadN X0.here hx rfl (hb hby d9_10) rfl rfl (XS.iloadN X0.here hx rfl (hb hby d9_11) rfl k)))))))) ?_
  obtain ⟨cl1, Ar1, q1, S1, M1, H1, G1⟩ := id P0
  have hin1 : ¬ ((0 : Int32) < 0 ∨ cl1.slots.size ≤ ((0 : Int32)).toNatClampNeg) := inb_of S1 ⟨by decide, by decide⟩
  have hat1 : cl1.slots[((0 : Int32)).toNatClampNeg]? = some (.int c0) := H1.at hin1 rfl
  refine own_fw (A' := (s₁.setTop (mkF m 20 #[rv a1, iv 0, rv a3, iv 0, iv 4, iv 0, iv c0] [.int 255, .int c0]))) (fun t k => X0.caload hx (j := (0 : Int32)) (v := (.int c0)) (by rw [e0]; exact Ar1.1) (State.isArrayOf_alike hZ.alike Ar1.2.1) Ar1.2.2 hin1 hat1 (g := (mkF m 12 #[rv a1, iv 0, rv a3, iv 0, iv 4, iv 0, .unset] [.int 0, .ref a1])) rfl rfl (hb hby d9_12) _ (XS.istore X0.here hx rfl (hb hby d9_13) rfl (l' := #[rv a1, iv 0, rv a3, iv 0, iv 4, iv 0, iv c0]) rfl (XS.iload X0.here hx rfl (hb hby d9_15) rfl (XS.sipush X0.here hx rfl (hb hby d9_17) k)))) ?_
  by_cases hc0 : (255 : Int32) < c0
  · refine own_fw (A' := (s₁.setTop (mkF m 25 #[rv a1, iv 0, rv a3, iv 0, iv 4, iv 0, iv c0] [.int 0]))) (fun t k => XS.icmpNo X0.here hx rfl (hb hby d9_20) rfl (XT.ii_le_f hc0) (XS.iload X0.here hx rfl (hb hby d9_23) rfl k)) ?_
    obtain ⟨fs, hr, hrun, hended, hW, hsame⟩ := X0.leave (v := some (.int 0)) (fun h => by rw [Bd.returns] at h; cases h)
    refine ⟨_, _, ?_, hrun, hended, _, _, rfl, ?_, ⟨_, rfl⟩, hW, hsame.mono (by decide) (by decide)⟩
    · exact retOut X0 hx Bd.returns rfl (Or.inl ⟨rfl, by simp, _, rfl⟩) (hb hby d9_25) hr
    · show Q_rmCmpA4U Z a1 a3 kc kb c0 c1 c2 c3 h0 n0 _ s₁.heap _
      rw [e0]
      exact ⟨(0 : Int32), rfl, N0, (Keep.refl h0 [a3]), ⟨by decide, (by decide : (0 : Int32) < (4 : Int32)), hc0⟩⟩
  · refine own_fw (A' := (s₁.setTop (mkF m 31 #[rv a1, iv 0, rv a3, iv 0, iv 4, iv 0, iv c0] [.int (c0.toInt8.toInt32), .int 0, .ref a3]))) (fun t k => XS.icmpYes X0.here hx rfl (pc0 := 20) (pc' := 26) rfl (hb hby d9_20) rfl (XT.ii_le_t hc0) (by decide) (by decide) (XS.aloadN X0.here hx rfl (hb hby d9_26) rfl rfl (XS.iloadN X0.here hx rfl (hb hby d9_27) rfl (XS.iload X0.here hx rfl (hb hby d9_28) rfl (XS.i2b X0.here hx rfl (hb hby d9_30) rfl k))))) ?_
    obtain ⟨cl2, Ar2, q2, S2, M2, H2, G2⟩ := id P1
    have hin2 : ¬ ((0 : Int32) < 0 ∨ cl2.slots.size ≤ ((0 : Int32)).toNatClampNeg) := inb_of S2 ⟨by decide, by decide⟩
    obtain ⟨T2, h2, X2, e2, W2, st2⟩ := stB X0 hx hZ e0 Ar2 (j := (0 : Int32)) hin2 (g := (mkF m 31 #[rv a1, iv 0, rv a3, iv 0, iv 4, iv 0, iv c0] [.int (c0.toInt8.toInt32), .int 0, .ref a3])) rfl rfl (hb hby d9_31)
    rw [own_narB] at W2
    have V2 : Arv Z h2 a3 kb .byte (4 : Int32) [(.int (c0.toInt8.toInt32)), (.int 0), (.int 0), (.int 0)] (.int 0) := Arv.set Ar2 q2 S2 M2 H2 G2 (fits_nar_byte _) W2 0 rfl (Nat.le_of_ble_eq_true rfl)
    have Nf2 := Fr.snoc X2 N0 g_a3
    have K2 : Keep h0 h2 [a3] := (Keep.refl h0 [a3]).wr W2 (Or.inl (List.mem_of_getElem? (i := 0) rfl))
    have Z2 : n0 ≤ h2.size := Nat.le_trans Z0 (Keep.of_wr W2).1
    refine own_fw (A' := (T2.setTop (mkF m 12 #[rv a1, iv 1, rv a3, iv 1, iv 4, iv 1, iv c0] [.int 1, .ref a1]))) (fun t k => st2 _ (XS.iinc X2.here hx rfl (hb hby d9_32) rfl (l' := #[rv a1, iv 1, rv a3, iv 0, iv 4, iv 0, iv c0]) rfl (XS.iinc X2.here hx rfl (hb hby d9_35) rfl (l' := #[rv a1, iv 1, rv a3, iv 1, iv 4, iv 0, iv c0]) rfl (XS.iinc X2.here hx rfl (hb hby d9_38) rfl (l' := #[rv a1, iv 1, rv a3, iv 1, iv 4, iv 1, iv c0]) rfl (XS.goto X2.here hx rfl (pc0 := 41) (pc' := 3) rfl (hb hby d9_41) (by decide) (by decide) (XS.iload X2.here hx rfl (hb hby d9_3) rfl (XS.iload X2.here hx rfl (hb hby d9_5) rfl (XS.icmpNo X2.here hx rfl (hb hby d9_7) rfl (XT.ii_ge_f (by decide)) (XS.aloadN X2.here hx rfl (hb hby d9_10) rfl rfl (XS.iloadN X2.here hx rfl (hb hby d9_11) rfl k)))))))))) ?_
    obtain ⟨cl3, Ar3, q3, S3, M3, H3, G3⟩ := id (P0.other W2 ne_a1_a3)
    have hin3 : ¬ ((1 : Int32) < 0 ∨ cl3.slots.size ≤ ((1 : Int32)).toNatClampNeg) := inb_of S3 ⟨by decide, by decide⟩
    have hat3 : cl3.slots[((1 : Int32)).toNatClampNeg]? = some (.int c1) := H3.at hin3 rfl
    refine own_fw (A' := (T2.setTop (mkF m 20 #[rv a1, iv 1, rv a3, iv 1, iv 4, iv 1, iv c1] [.int 255, .int c1]))) (fun t k => X2.caload hx (j := (1 : Int32)) (v := (.int c1)) (by rw [e2]; exact Ar3.1) (State.isArrayOf_alike hZ.alike Ar3.2.1) Ar3.2.2 hin3 hat3 (g := (mkF m 12 #[rv a1, iv 1, rv a3, iv 1, iv 4, iv 1, iv c0] [.int 1, .ref a1])) rfl rfl (hb hby d9_12) _ (XS.istore X2.here hx rfl (hb hby d9_13) rfl (l' := #[rv a1, iv 1, rv a3, iv 1, iv 4, iv 1, iv c1]) rfl (XS.iload X2.here hx rfl (hb hby d9_15) rfl (XS.sipush X2.here hx rfl (hb hby d9_17) k)))) ?_
    by_cases hc1 : (255 : Int32) < c1
    · refine own_fw (A' := (T2.setTop (mkF m 25 #[rv a1, iv 1, rv a3, iv 1, iv 4, iv 1, iv c1] [.int 1]))) (fun t k => XS.icmpNo X2.here hx rfl (hb hby d9_20) rfl (XT.ii_le_f hc1) (XS.iload X2.here hx rfl (hb hby d9_23) rfl k)) ?_
      obtain ⟨fs, hr, hrun, hended, hW, hsame⟩ := X2.leave (v := some (.int 1)) (fun h => by rw [Bd.returns] at h; cases h)
      refine ⟨_, _, ?_, hrun, hended, _, _, rfl, ?_, ⟨_, rfl⟩, hW, hsame.mono (by decide) (by decide)⟩
      · exact retOut X2 hx Bd.returns rfl (Or.inl ⟨rfl, by simp, _, rfl⟩) (hb hby d9_25) hr
      · show Q_rmCmpA4U Z a1 a3 kc kb c0 c1 c2 c3 h0 n0 _ T2.heap _
        rw [e2]
        exact ⟨(1 : Int32), rfl, Nf2, K2, ⟨by decide, (by decide : (1 : Int32) < (4 : Int32)), hc1⟩⟩
    · refine own_fw (A' := (T2.setTop (mkF m 31 #[rv a1, iv 1, rv a3, iv 1, iv 4, iv 1, iv c1] [.int (c1.toInt8.toInt32), .int 1, .ref a3]))) (fun t k => XS.icmpYes X2.here hx rfl (pc0 := 20) (pc' := 26) rfl (hb hby d9_20) rfl (XT.ii_le_t hc1) (by decide) (by decide) (XS.aloadN X2.here hx rfl (hb hby d9_26) rfl rfl (XS.iloadN X2.here hx rfl (hb hby d9_27) rfl (XS.iload X2.here hx rfl (hb hby d9_28) rfl (XS.i2b X2.here hx rfl (hb hby d9_30) rfl k))))) ?_
      obtain ⟨cl4, Ar4, q4, S4, M4, H4, G4⟩ := id V2
      have hin4 : ¬ ((1 : Int32) < 0 ∨ cl4.slots.size ≤ ((1 : Int32)).toNatClampNeg) := inb_of S4 ⟨by decide, by decide⟩
      obtain ⟨T4, h4, X4, e4, W4, st4⟩ := stB X2 hx hZ e2 Ar4 (j := (1 : Int32)) hin4 (g := (mkF m 31 #[rv a1, iv 1, rv a3, iv 1, iv 4, iv 1, iv c1] [.int (c1.toInt8.toInt32), .int 1, .ref a3])) rfl rfl (hb hby d9_31)
      rw [own_narB] at W4
      have V4 : Arv Z h4 a3 kb .byte (4 : Int32) [(.int (c0.toInt8.toInt32)), (.int (c1.toInt8.toInt32)), (.int 0), (.int 0)] (.int 0) := Arv.set Ar4 q4 S4 M4 H4 G4 (fits_nar_byte _) W4 1 rfl (Nat.le_of_ble_eq_true rfl)
      have Nf4 := Fr.snoc X4 Nf2 g_a3
      have K4 : Keep h0 h4 [a3] := K2.wr W4 (Or.inl (List.mem_of_getElem? (i := 0) rfl))
      have Z4 : n0 ≤ h4.size := Nat.le_trans Z2 (Keep.of_wr W4).1
      refine own_fw (A' := (T4.setTop (mkF m 12 #[rv a1, iv 2, rv a3, iv 2, iv 4, iv 2, iv c1] [.int 2, .ref a1]))) (fun t k => st4 _ (XS.iinc X4.here hx rfl (hb hby d9_32) rfl (l' := #[rv a1, iv 2, rv a3, iv 1, iv 4, iv 1, iv c1]) rfl (XS.iinc X4.here hx rfl (hb hby d9_35) rfl (l' := #[rv a1, iv 2, rv a3, iv 2, iv 4, iv 1, iv c1]) rfl (XS.iinc X4.here hx rfl (hb hby d9_38) rfl (l' := #[rv a1, iv 2, rv a3, iv 2, iv 4, iv 2, iv c1]) rfl (XS.goto X4.here hx rfl (pc0 := 41) (pc' := 3) rfl (hb hby d9_41) (by decide) (by decide) (XS.iload X4.here hx rfl (hb hby d9_3) rfl (XS.iload X4.here hx rfl (hb hby d9_5) rfl (XS.icmpNo X4.here hx rfl (hb hby d9_7) rfl (XT.ii_ge_f (by decide)) (XS.aloadN X4.here hx rfl (hb hby d9_10) rfl rfl (XS.iloadN X4.here hx rfl (hb hby d9_11) rfl k)))))))))) ?_
      obtain ⟨cl5, Ar5, q5, S5, M5, H5, G5⟩ := id ((P0.other W2 ne_a1_a3).other W4 ne_a1_a3)
      have hin5 : ¬ ((2 : Int32) < 0 ∨ cl5.slots.size ≤ ((2 : Int32)).toNatClampNeg) := inb_of S5 ⟨by decide, by decide⟩
      have hat5 : cl5.slots[((2 : Int32)).toNatClampNeg]? = some (.int c2) := H5.at hin5 rfl
      refine own_fw (A' := (T4.setTop (mkF m 20 #[rv a1, iv 2, rv a3, iv 2, iv 4, iv 2, iv c2] [.int 255, .int c2]))) (fun t k => X4.caload hx (j := (2 : Int32)) (v := (.int c2)) (by rw [e4]; exact Ar5.1) (State.isArrayOf_alike hZ.alike Ar5.2.1) Ar5.2.2 hin5 hat5 (g := (mkF m 12 #[rv a1, iv 2, rv a3, iv 2, iv 4, iv 2, iv c1] [.int 2, .ref a1])) rfl rfl (hb hby d9_12) _ (XS.istore X4.here hx rfl (hb hby d9_13) rfl (l' := #[rv a1, iv 2, rv a3, iv 2, iv 4, iv 2, iv c2]) rfl (XS.iload X4.here hx rfl (hb hby d9_15) rfl (XS.sipush X4.here hx rfl (hb hby d9_17) k)))) ?_
      by_cases hc2 : (255 : Int32) < c2
      · refine own_fw (A' := (T4.setTop (mkF m 25 #[rv a1, iv 2, rv a3, iv 2, iv 4, iv 2, iv c2] [.int 2]))) (fun t k => XS.icmpNo X4.here hx rfl (hb hby d9_20) rfl (XT.ii_le_f hc2) (XS.iload X4.here hx rfl (hb hby d9_23) rfl k)) ?_
        obtain ⟨fs, hr, hrun, hended, hW, hsame⟩ := X4.leave (v := some (.int 2)) (fun h => by rw [Bd.returns] at h; cases h)
        refine ⟨_, _, ?_, hrun, hended, _, _, rfl, ?_, ⟨_, rfl⟩, hW, hsame.mono (by decide) (by decide)⟩
        · exact retOut X4 hx Bd.returns rfl (Or.inl ⟨rfl, by simp, _, rfl⟩) (hb hby d9_25) hr
        · show Q_rmCmpA4U Z a1 a3 kc kb c0 c1 c2 c3 h0 n0 _ T4.heap _
          rw [e4]
          exact ⟨(2 : Int32), rfl, Nf4, K4, ⟨by decide, (by decide : (2 : Int32) < (4 : Int32)), hc2⟩⟩
      · refine own_fw (A' := (T4.setTop (mkF m 31 #[rv a1, iv 2, rv a3, iv 2, iv 4, iv 2, iv c2] [.int (c2.toInt8.toInt32), .int 2, .ref a3]))) (fun t k => XS.icmpYes X4.here hx rfl (pc0 := 20) (pc' := 26) rfl (hb hby d9_20) rfl (XT.ii_le_t hc2) (by decide) (by decide) (XS.aloadN X4.here hx rfl (hb hby d9_26) rfl rfl (XS.iloadN X4.here hx rfl (hb hby d9_27) rfl (XS.iload X4.here hx rfl (hb hby d9_28) rfl (XS.i2b X4.here hx rfl (hb hby d9_30) rfl k))))) ?_
        obtain ⟨cl6, Ar6, q6, S6, M6, H6, G6⟩ := id V4
        have hin6 : ¬ ((2 : Int32) < 0 ∨ cl6.slots.size ≤ ((2 : Int32)).toNatClampNeg) := inb_of S6 ⟨by decide, by decide⟩
        obtain ⟨T6, h6, X6, e6, W6, st6⟩ := stB X4 hx hZ e4 Ar6 (j := (2 : Int32)) hin6 (g := (mkF m 31 #[rv a1, iv 2, rv a3, iv 2, iv 4, iv 2, iv c2] [.int (c2.toInt8.toInt32), .int 2, .ref a3])) rfl rfl (hb hby d9_31)
        rw [own_narB] at W6
        have V6 : Arv Z h6 a3 kb .byte (4 : Int32) [(.int (c0.toInt8.toInt32)), (.int (c1.toInt8.toInt32)), (.int (c2.toInt8.toInt32)), (.int 0)] (.int 0) := Arv.set Ar6 q6 S6 M6 H6 G6 (fits_nar_byte _) W6 2 rfl (Nat.le_of_ble_eq_true rfl)
        have Nf6 := Fr.snoc X6 Nf4 g_a3
        have K6 : Keep h0 h6 [a3] := K4.wr W6 (Or.inl (List.mem_of_getElem? (i := 0) rfl))
        have Z6 : n0 ≤ h6.size := Nat.le_trans Z4 (Keep.of_wr W6).1
        refine own_fw (A' := (T6.setTop (mkF m 12 #[rv a1, iv 3, rv a3, iv 3, iv 4, iv 3, iv c2] [.int 3, .ref a1]))) (fun t k => st6 _ (XS.iinc X6.here hx rfl (hb hby d9_32) rfl (l' := #[rv a1, iv 3, rv a3, iv 2, iv 4, iv 2, iv c2]) rfl (XS.iinc X6.here hx rfl (hb hby d9_35) rfl (l' := #[rv a1, iv 3, rv a3, iv 3, iv 4, iv 2, iv c2]) rfl (XS.iinc X6.here hx rfl (hb hby d9_38) rfl (l' := #[rv a1, iv 3, rv a3, iv 3, iv 4, iv 3, iv c2]) rfl (XS.goto X6.here hx rfl (pc0 := 41) (pc' := 3) rfl (hb hby d9_41) (by decide) (by decide) (XS.iload X6.here hx rfl (hb hby d9_3) rfl (XS.iload X6.here hx rfl (hb hby d9_5) rfl (XS.icmpNo X6.here hx rfl (hb hby d9_7) rfl (XT.ii_ge_f (by decide)) (XS.aloadN X6.here hx rfl (hb hby d9_10) rfl rfl (XS.iloadN X6.here hx rfl (hb hby d9_11) rfl k)))))))))) ?_
        obtain ⟨cl7, Ar7, q7, S7, M7, H7, G7⟩ := id (((P0.other W2 ne_a1_a3).other W4 ne_a1_a3).other W6 ne_a1_a3)
        have hin7 : ¬ ((3 : Int32) < 0 ∨ cl7.slots.size ≤ ((3 : Int32)).toNatClampNeg) := inb_of S7 ⟨by decide, by decide⟩
        have hat7 : cl7.slots[((3 : Int32)).toNatClampNeg]? = some (.int c3) := H7.at hin7 rfl
        refine own_fw (A' := (T6.setTop (mkF m 25 #[rv a1, iv 3, rv a3, iv 3, iv 4, iv 3, iv c3] [.int 3]))) (fun t k => X6.caload hx (j := (3 : Int32)) (v := (.int c3)) (by rw [e6]; exact Ar7.1) (State.isArrayOf_alike hZ.alike Ar7.2.1) Ar7.2.2 hin7 hat7 (g := (mkF m 12 #[rv a1, iv 3, rv a3, iv 3, iv 4, iv 3, iv c2] [.int 3, .ref a1])) rfl rfl (hb hby d9_12) _ (XS.istore X6.here hx rfl (hb hby d9_13) rfl (l' := #[rv a1, iv 3, rv a3, iv 3, iv 4, iv 3, iv c3]) rfl (XS.iload X6.here hx rfl (hb hby d9_15) rfl (XS.sipush X6.here hx rfl (hb hby d9_17) (XS.icmpNo X6.here hx rfl (hb hby d9_20) rfl (XT.ii_le_f (((hbig.resolve_left hc0).resolve_left hc1).resolve_left hc2)) (XS.iload X6.here hx rfl (hb hby d9_23) rfl k)))))) ?_
        obtain ⟨fs, hr, hrun, hended, hW, hsame⟩ := X6.leave (v := some (.int 3)) (fun h => by rw [Bd.returns] at h; cases h)
        refine ⟨_, _, ?_, hrun, hended, _, _, rfl, ?_, ⟨_, rfl⟩, hW, hsame.mono (by decide) (by decide)⟩
        · exact retOut X6 hx Bd.returns rfl (Or.inl ⟨rfl, by simp, _, rfl⟩) (hb hby d9_25) hr
        · show Q_rmCmpA4U Z a1 a3 kc kb c0 c1 c2 c3 h0 n0 _ T6.heap _
          rw [e6]
          exact ⟨(3 : Int32), rfl, Nf6, K6, ⟨by decide, (by decide : (3 : Int32) < (4 : Int32)), (((hbig.resolve_left hc0).resolve_left hc1).resolve_left hc2)⟩⟩
theorem ef_rmCmpB4U (m : MethodId) (a1 : Addr) : entryFrame m #[(.ref a1), (.int 0), (.int 4)] 6 = mkF m 0 #[.val (.ref a1), .val (.int 0), .val (.int 4), .unset, .unset, .unset] [] := by first | (simp [entryFrame, mkF, argsToLocals, Value.category]; done) | rfl
def Q_rmCmpB4U (Z : State) (a1 : Addr) (kc : ClassId) (c0 c1 c2 c3 : Int32) (h0 : Heap) (n0 : Nat) (v : Option Value) (h : Heap) (L : List Loc) : Prop := ∃ b : Addr, ∃ kb : ClassId, v = some (.ref b) ∧ Fr n0 L ∧ Keep h0 h [] ∧ Arv Z h b kb .byte (8 : Int32) [(.int (own_lo c0)), (.int (own_hb c0)), (.int (own_lo c1)), (.int (own_hb c1)), (.int (own_lo c2)), (.int (own_hb c2)), (.int (own_lo c3)), (.int (own_hb c3))] (.int 0) ∧ (h0.size ≤ b)
theorem rmCmpB4U (l : Launch) (Z : State) (a0 : Array Value) (hw : ∀ d ∈ tables_1, d.before a0 Z = true) (ws : List Jvm.Cond) (a1 : Addr) (kc : ClassId) (c0 c1 c2 c3 : Int32) (h0 : Heap) (n0 : Nat) (Z0 : n0 ≤ h0.size) (P0 : Arv Z h0 a1 kc .char (4 : Int32) [(.int c0), (.int c1), (.int c2), (.int c3)] (.int 0)) (P1 : Sta Z h0 "java/lang/StringUTF16" "$assertionsDisabled" "Z" (.int 1)) (P2 : Sta Z h0 "java/lang/StringUTF16" "HI_BYTE_SHIFT" "I" (.int 0)) (P3 : Sta Z h0 "java/lang/StringUTF16" "LO_BYTE_SHIFT" "I" (.int 8)) (hbig : (255 : Int32) < c0 ∨ (255 : Int32) < c1 ∨ (255 : Int32) < c2 ∨ (255 : Int32) < c3) (hr0 : own_c16 c0) (hr1 : own_c16 c1) (hr2 : own_c16 c2) (hr3 : own_c16 c3) :
    MetFree l yq4 (head1 (Jvm.Cond.code yq4 jdk_52_method_16_code 6 (some (.array .byte)) :: ws) rq40) (fun a U => a = #[(.ref a1), (.int 0), (.int 4)] ∧ Z.Warmed39 U.vm ∧ U.heap = h0) (fun _ _ _ _ _ => True) (fun _ U o U' => ∃ v L, o = .returned v ∧ Q_rmCmpB4U Z a1 kc c0 c1 c2 c3 h0 n0 v U'.heap L ∧ FrameEnd U o U' L rq40.cells rq40.slots) := by
  refine MetFree.of_bodySF (plainFor_of_name pn_java_lang_StringUTF16) hisR ?_
  intro p e s m args below meth c s₁ Bd hml0 hP hK
  obtain ⟨rfl, hZ, hh⟩ := hP
  have hx := Bd.exec
  have hby := Bd.bytes
  have hml : c.maxLocals = 6 := hml0
  have hown : s.vm.findClass "java/lang/StringUTF16" = some m.cls := findClass_of_methodNamed Bd.named
  have hnm := (name_of_methodNamed Bd.named Bd.method).1
  have X0 : Stand p l e rq40 s m #[(.ref a1), (.int 0), (.int 4)] below meth c s₁ [] 0 0 := Stand.of_body Bd
  have e0 : s₁.heap = h0 := by rw [← hh, Bd.state]; rfl
  have N0 := Fr.nil n0
  refine own_fw (A' := (s₁.setTop (mkF m 1 #[rv a1, iv 0, iv 4, .unset, .unset, .unset] [.int 4]))) (fun t k => castTop (ef_rmCmpB4U m a1) (XS.iloadN X0.here hx rfl (hb hby d8_0) rfl k)) ?_
  obtain ⟨T1, h1, k1, X1, e1, E1, A1, st1⟩ := newP X0 hx hZ (own_w hw 37 rfl) e0 (g := (mkF m 1 #[rv a1, iv 0, iv 4, .unset, .unset, .unset] [.int 4])) rfl (hb hby d8_1) rfl (by decide) (cap := 4) (by decide) (by decide) (by decide) (by decide)
  obtain ⟨b1, gb1⟩ : ∃ z, z = h0.size := ⟨_, rfl⟩
  have g_b1 : n0 ≤ b1 := Nat.le_trans Z0 (Nat.le_of_eq gb1.symm)
  have sz_b1 : h0.size ≤ b1 := Nat.le_trans (Keep.refl h0 []).1 (Nat.le_of_eq gb1.symm)
  have ne_a1_b1 : a1 ≠ b1 := Nat.ne_of_lt (Nat.lt_of_lt_of_le P0.lt (Nat.le_of_eq gb1.symm))
  rw [← gb1] at A1 st1
  have V_b1 : Arv Z h1 b1 k1 .byte (4 : Int32) [(.int 0), (.int 0), (.int 0), (.int 0)] (.int 0) := (Arv.new A1 (by decide)).pad (pad_rep [] (.int 0) 4)
  have K1 : Keep h0 h1 [] := (Keep.refl h0 []).ext E1
  have Z1 : n0 ≤ h1.size := Nat.le_trans Z0 E1.1
  refine own_fw (A' := (T1.setTop (mkF m 9 #[rv a1, iv 0, iv 4, rv b1, .unset, .unset] [.int 4, .int 0, .ref b1, .int 0, .ref a1]))) (fun t k => st1 _ (XS.astoreN X1.here hx rfl (hb hby d8_3) rfl rfl (l' := #[rv a1, iv 0, iv 4, rv b1, .unset, .unset]) rfl (XS.aloadN X1.here hx rfl (hb hby d8_4) rfl rfl (XS.iloadN X1.here hx rfl (hb hby d8_5) rfl (XS.aloadN X1.here hx rfl (hb hby d8_6) rfl rfl (XS.iconst X1.here hx rfl (hb hby d8_7) (XS.iloadN X1.here hx rfl (hb hby d8_8) rfl k))))))) ?_
  obtain ⟨_, _, ⟨T2, L2, k2, n2⟩, -, X2, ⟨Lc2, hQ2, l2, y2, z2⟩, st2⟩ := Jvm.LawKit.callS X1 hx (y := yq2) hown (mvT hZ (own_w hw 38 rfl)) (mvT hZ (own_w hw 39 rfl)) (mvT hZ (own_w hw 35 rfl)) (mvT hZ (own_w hw 40 rfl)) (by decide) (backOf (W := 0) (rmCmpA4U l Z a0 hw [] a1 b1 kc k1 c0 c1 c2 c3 h1 n0 Z1 (P0.ext E1) V_b1 g_b1 ne_a1_b1 hbig) hZ (own_w hw 40 rfl) (own_w hw 35 rfl) (by decide) (by decide)) (g := (mkF m 9 #[rv a1, iv 0, iv 4, rv b1, .unset, .unset] [.int 4, .int 0, .ref b1, .int 0, .ref a1])) rfl (by rw [hml]; rfl) (argsL := [(.ref a1), (.int 0), (.ref b1), (.int 0), (.int 4)]) (rest := []) (lenOf pd___CI_BII_I rfl) rfl (by show 2 * 0 + _ ≤ _; exact Nat.le_of_eq rfl) (hb hby d8_9) (fun _ _ => ⟨rfl, e1, (by decide : 1 + 0 ≤ _), (by decide : 4 + 0 ≤ _)⟩)
  dsimp only [Pt.U, Pt.locs, Pt.cells, Pt.slots] at X2 l2 y2 z2 st2 hQ2
  subst l2 y2 z2
  obtain ⟨r_2, rfl, Nq2, Kq2, hk_2⟩ := hQ2
  have Nf2 := Fr.app N0 Nq2
  have K2 : Keep h0 T2.heap [] := K1.trans Kq2 (allS (Or.inr sz_b1) all0)
  have Z2 : n0 ≤ T2.heap.size := Nat.le_trans Z1 Kq2.1
  refine own_fw (A' := (T2.setTop (mkF m 23 #[rv a1, iv 0, iv 4, rv b1, iv r_2, .unset] [.int 4, .int 0, .ref a1]))) (fun t k => st2 _ (XS.istore X2.here hx rfl (hb hby d8_12) rfl (l' := #[rv a1, iv 0, iv 4, rv b1, iv r_2, .unset]) rfl (XS.iload X2.here hx rfl (hb hby d8_14) rfl (XS.iloadN X2.here hx rfl (hb hby d8_16) rfl (XS.icmpNo X2.here hx rfl (hb hby d8_17) rfl (XT.ii_eq_f (own_bne hk_2)) (XS.aloadN X2.here hx rfl (hb hby d8_20) rfl rfl (XS.iloadN X2.here hx rfl (hb hby d8_21) rfl (XS.iloadN X2.here hx rfl (hb hby d8_22) rfl k)))))))) ?_
  obtain ⟨_, _, ⟨T3, L3, k3, n3⟩, -, X3, ⟨Lc3, hQ3, l3, y3, z3⟩, st3⟩ := Jvm.LawKit.callS X2 hx (y := yq24) hown (mvT hZ (own_w hw 41 rfl)) (mvT hZ (own_w hw 42 rfl)) (mvT hZ (own_w hw 35 rfl)) (mvT hZ (own_w hw 43 rfl)) (by decide) (backOf (W := 0) (rmToB4 l Z a0 hw [] a1 kc c0 c1 c2 c3 T2.heap n0 Z2 ((P0.ext E1).keep Kq2 (ninS ne_a1_b1 nin0)) (own_staKeep (P1.ext E1) Kq2 (allS (own_plainV V_b1) all0)) (own_staKeep (P2.ext E1) Kq2 (allS (own_plainV V_b1) all0)) (own_staKeep (P3.ext E1) Kq2 (allS (own_plainV V_b1) all0))) hZ (own_w hw 43 rfl) (own_w hw 35 rfl) (by decide) (by decide)) (g := (mkF m 23 #[rv a1, iv 0, iv 4, rv b1, iv r_2, .unset] [.int 4, .int 0, .ref a1])) rfl (by rw [hml]; rfl) (argsL := [(.ref a1), (.int 0), (.int 4)]) (rest := []) (lenOf pd___CII__B rfl) rfl (by show 2 * 0 + _ ≤ _; exact Nat.le_of_eq rfl) (hb hby d8_23) (fun _ _ => ⟨rfl, rfl, (by decide : 1 + 1 ≤ _), (by decide : 4 + 8 ≤ _)⟩)
  dsimp only [Pt.U, Pt.locs, Pt.cells, Pt.slots] at X3 l3 y3 z3 st3 hQ3
  subst l3 y3 z3
  obtain ⟨b_3, kb_3, rfl, Nq3, Kq3, Fq3_0, gb_3⟩ := hQ3
  have Nf3 := Fr.app Nf2 Nq3
  have K3 : Keep h0 T3.heap [] := K2.trans Kq3 all0
  have sz_b_3 : h0.size ≤ b_3 := Nat.le_trans K2.1 gb_3
  have g_b_3 : n0 ≤ b_3 := Nat.le_trans Z2 gb_3
  have ne_a1_b_3 : a1 ≠ b_3 := Nat.ne_of_lt (Nat.lt_of_lt_of_le ((P0.ext E1).keep Kq2 (ninS ne_a1_b1 nin0)).lt gb_3)
  have Z3 : n0 ≤ T3.heap.size := Nat.le_trans Z2 Kq3.1
  refine own_fw (A' := (T3.setTop (mkF m 32 #[rv a1, iv 0, iv 4, rv b1, iv r_2, rv b_3] [.int r_2, .ref b_3]))) (fun t k => st3 _ (XS.astore X3.here hx rfl (hb hby d8_26) rfl rfl (l' := #[rv a1, iv 0, iv 4, rv b1, iv r_2, rv b_3]) rfl (XS.aload X3.here hx rfl (hb hby d8_28) rfl rfl (XS.iload X3.here hx rfl (hb hby d8_30) rfl k)))) ?_
  obtain ⟨_, _, ⟨T4, L4, k4, n4⟩, -, X4, ⟨Lc4, hQ4, l4, y4, z4⟩, st4⟩ := Jvm.LawKit.callS X3 hx (y := yq1) hown (mvT hZ (own_w hw 57 rfl)) (mvT hZ (own_w hw 58 rfl)) (mvT hZ (own_w hw 35 rfl)) (mvT hZ (own_w hw 59 rfl)) (by decide) (backOf (W := 0) (rmGet l Z a0 hw [] b_3 kb_3 ([c0, c1, c2, c3]) r_2 T3.heap n0 Z3 Fq3_0 (own_staKeep (own_staKeep (P1.ext E1) Kq2 (allS (own_plainV V_b1) all0)) Kq3 all0) (own_staKeep (own_staKeep (P2.ext E1) Kq2 (allS (own_plainV V_b1) all0)) Kq3 all0) (own_staKeep (own_staKeep (P3.ext E1) Kq2 (allS (own_plainV V_b1) all0)) Kq3 all0) (own_fine4 hr0 hr1 hr2 hr3) hk_2.1 hk_2.2.1) hZ (own_w hw 59 rfl) (own_w hw 35 rfl) (by decide) (by decide)) (g := (mkF m 32 #[rv a1, iv 0, iv 4, rv b1, iv r_2, rv b_3] [.int r_2, .ref b_3])) rfl (by rw [hml]; rfl) (argsL := [(.ref b_3), (.int r_2)]) (rest := []) (lenOf pd___BI_C rfl) rfl (by show 2 * 0 + _ ≤ _; exact Nat.le_of_eq rfl) (hb hby d8_32) (fun _ _ => ⟨rfl, rfl, (by decide : 2 + 0 ≤ _), (by decide : 12 + 0 ≤ _)⟩)
  dsimp only [Pt.U, Pt.locs, Pt.cells, Pt.slots] at X4 l4 y4 z4 st4 hQ4
  subst l4 y4 z4
  obtain ⟨rfl, Nq4, e4⟩ := hQ4
  have Nf4 := Fr.app Nf3 Nq4
  refine own_fw (A' := (T4.setTop (mkF m 56 #[rv a1, iv 0, iv 4, rv b1, iv r_2, rv b_3] [.ref b_3]))) (fun t k => st4 _ (XS.sipush X4.here hx rfl (hb hby d8_35) (XS.icmpYes X4.here hx rfl (pc0 := 38) (pc' := 54) rfl (hb hby d8_38) rfl (XT.ii_gt_t hk_2.2.2) (by decide) (by decide) (XS.aload X4.here hx rfl (hb hby d8_54) rfl rfl k)))) ?_
  obtain ⟨fs, hr, hrun, hended, hW, hsame⟩ := X4.leave (v := some (.ref b_3)) (fun h => by rw [Bd.returns] at h; cases h)
  refine ⟨_, _, ?_, hrun, hended, _, _, rfl, ?_, ⟨_, rfl⟩, hW, hsame.mono (by decide) (by decide)⟩
  · exact retOut X4 hx Bd.returns rfl (Or.inr (Or.inr (Or.inr (Or.inr ⟨rfl, rfl, rfl⟩)))) (hb hby d8_56) hr
  · show Q_rmCmpB4U Z a1 kc c0 c1 c2 c3 h0 n0 _ T4.heap _
    rw [e4]
    exact ⟨b_3, kb_3, rfl, Nf4, K3, Fq3_0, sz_b_3⟩
theorem ef_rmStrB4U (m : MethodId) (a1 a2 : Addr) : entryFrame m #[(.ref a1), (.ref a2), (.int 0), (.int 4), .null] 6 = mkF m 0 #[.val (.ref a1), .val (.ref a2), .val (.int 0), .val (.int 4), .val .null, .unset] [] := by first | (simp [entryFrame, mkF, argsToLocals, Value.category]; done) | rfl
def Q_rmStrB4U (Z : State) (a1 a2 : Addr) (kc : ClassId) (cs c0 c1 c2 c3 : Int32) (h0 : Heap) (n0 : Nat) (v : Option Value) (h : Heap) (L : List Loc) : Prop := ∃ b : Addr, ∃ kb : ClassId, v = none ∧ Fr n0 L ∧ Keep h0 h [a1] ∧ Exa Z h a1 "java/lang/String" ∧ Fld Z h a1 "java/lang/String" "coder" "B" (.int 1) ∧ Fld Z h a1 "java/lang/String" "value" "[B" (.ref b) ∧ Arv Z h b kb .byte (8 : Int32) [(.int (own_lo c0)), (.int (own_hb c0)), (.int (own_lo c1)), (.int (own_hb c1)), (.int (own_lo c2)), (.int (own_hb c2)), (.int (own_lo c3)), (.int (own_hb c3))] (.int 0)
theorem rmStrB4U (l : Launch) (Z : State) (a0 : Array Value) (hw : ∀ d ∈ tables_1, d.before a0 Z = true) (ws : List Jvm.Cond) (a1 a2 : Addr) (kc : ClassId) (cs c0 c1 c2 c3 : Int32) (h0 : Heap) (n0 : Nat) (Z0 : n0 ≤ h0.size) (P0 : Exa Z h0 a1 "java/lang/String") (P1 : Fld Z h0 a1 "java/lang/String" "coder" "B" (.int 0)) (P2 : Fld Z h0 a1 "java/lang/String" "value" "[B" .null) (P3 : Arv Z h0 a2 kc .char (4 : Int32) [(.int c0), (.int c1), (.int c2), (.int c3)] (.int 0)) (g_a1 : n0 ≤ a1) (ne_a1_a2 : a1 ≠ a2) (P6 : Sta Z h0 "java/lang/String" "COMPACT_STRINGS" "Z" (.int cs)) (hcs : ¬ (cs = (0 : Int32))) (P8 : Sta Z h0 "java/lang/StringUTF16" "$assertionsDisabled" "Z" (.int 1)) (P9 : Sta Z h0 "java/lang/StringUTF16" "HI_BYTE_SHIFT" "I" (.int 0)) (P10 : Sta Z h0 "java/lang/StringUTF16" "LO_BYTE_SHIFT" "I" (.int 8)) (hbig : (255 : Int32) < c0 ∨ (255 : Int32) < c1 ∨ (255 : Int32) < c2 ∨ (255 : Int32) < c3) (hr0 : own_c16 c0) (hr1 : own_c16 c1) (hr2 : own_c16 c2) (hr3 : own_c16 c3) :
    MetFree l yq7 (head1 (Jvm.Cond.code yq7 jdk_42_method_149_code 6 none :: ws) rq41) (fun a U => a = #[(.ref a1), (.ref a2), (.int 0), (.int 4), .null] ∧ Z.Warmed39 U.vm ∧ U.heap = h0) (fun _ _ _ _ _ => True) (fun _ U o U' => ∃ v L, o = .returned v ∧ Q_rmStrB4U Z a1 a2 kc cs c0 c1 c2 c3 h0 n0 v U'.heap L ∧ FrameEnd U o U' L rq41.cells rq41.slots) := by
  refine MetFree.of_bodySF (plainFor_of_name pn_java_lang_String) hisR ?_
  intro p e s m args below meth c s₁ Bd hml0 hP hK
  obtain ⟨rfl, hZ, hh⟩ := hP
  have hx := Bd.exec
  have hby := Bd.bytes
  have hml : c.maxLocals = 6 := hml0
  have hown : s.vm.findClass "java/lang/String" = some m.cls := findClass_of_methodNamed Bd.named
  have hnm := (name_of_methodNamed Bd.named Bd.method).1
  have X0 : Stand p l e rq41 s m #[(.ref a1), (.ref a2), (.int 0), (.int 4), .null] below meth c s₁ [] 0 0 := Stand.of_body Bd
  have e0 : s₁.heap = h0 := by rw [← hh, Bd.state]; rfl
  have N0 := Fr.nil n0
  refine own_fw (A' := (s₁.setTop (mkF m 1 #[rv a1, rv a2, iv 0, iv 4, .val (.null), .unset] [.ref a1]))) (fun t k => castTop (ef_rmStrB4U m a1 a2) (XS.aloadN X0.here hx rfl (hb hby d6_0) rfl rfl k)) ?_
  obtain ⟨T1, X1, e1, st1⟩ := initO X0 hx hZ hown (own_w hw 29 rfl) (own_w hw 30 rfl) (own_w hw 31 rfl) e0 (g := (mkF m 1 #[rv a1, rv a2, iv 0, iv 4, .val (.null), .unset] [.ref a1])) rfl (by rw [hml]; rfl) rfl (hb hby d6_1) (by decide) (W := 0) (by show 2 * 0 + _ ≤ _; exact Nat.le_of_eq rfl) (by decide)
  refine own_fw (A' := (T1.setTop (mkF m 27 #[rv a1, rv a2, iv 0, iv 4, .val (.null), .unset] []))) (fun t k => st1 _ (XS.iloadN X1.here hx rfl (hb hby d6_4) rfl (XS.ifYes X1.here hx rfl (pc0 := 5) (pc' := 27) rfl (hb hby d6_5) rfl (XT.i0_ne_t (by decide)) (by decide) (by decide) k))) ?_
  obtain ⟨T2, X2, e2, st2⟩ := getS2 X1 hx hZ hown (host := "") (Or.inl (own_w hw 32 rfl)) Via.refl e1 P6 (g := (mkF m 27 #[rv a1, rv a2, iv 0, iv 4, .val (.null), .unset] [])) rfl (hb hby d6_27)
  refine own_fw (A' := (T2.setTop (mkF m 36 #[rv a1, rv a2, iv 0, iv 4, .val (.null), .unset] [.int 4, .int 0, .ref a2]))) (fun t k => st2 _ (XS.ifNo X2.here hx rfl (hb hby d6_30) rfl (XT.i0_eq_f hcs) (XS.aloadN X2.here hx rfl (hb hby d6_33) rfl rfl (XS.iloadN X2.here hx rfl (hb hby d6_34) rfl (XS.iloadN X2.here hx rfl (hb hby d6_35) rfl k))))) ?_
  obtain ⟨_, _, ⟨T3, L3, k3, n3⟩, -, X3, ⟨Lc3, hQ3, l3, y3, z3⟩, st3⟩ := Jvm.LawKit.callS X2 hx (y := yq4) hown (mvT hZ (own_w hw 33 rfl)) (mvT hZ (own_w hw 34 rfl)) (mvT hZ (own_w hw 35 rfl)) (mvT hZ (own_w hw 36 rfl)) (by decide) (backOf (W := 0) (rmCmpB4U l Z a0 hw [] a2 kc c0 c1 c2 c3 h0 n0 Z0 P3 P8 P9 P10 hbig hr0 hr1 hr2 hr3) hZ (own_w hw 36 rfl) (own_w hw 35 rfl) (by decide) (by decide)) (g := (mkF m 36 #[rv a1, rv a2, iv 0, iv 4, .val (.null), .unset] [.int 4, .int 0, .ref a2])) rfl (by rw [hml]; rfl) (argsL := [(.ref a2), (.int 0), (.int 4)]) (rest := []) (lenOf pd___CII__B rfl) rfl (by show 2 * 0 + _ ≤ _; exact Nat.le_of_eq rfl) (hb hby d6_36) (fun _ _ => ⟨rfl, e2, (by decide : 0 + 2 ≤ _), (by decide : 0 + 12 ≤ _)⟩)
  dsimp only [Pt.U, Pt.locs, Pt.cells, Pt.slots] at X3 l3 y3 z3 st3 hQ3
  subst l3 y3 z3
  obtain ⟨b_3, kb_3, rfl, Nq3, Kq3, Fq3_0, gb_3⟩ := hQ3
  have Nf3 := Fr.app N0 Nq3
  have K3 : Keep h0 T3.heap [a1] := (Keep.refl h0 [a1]).trans Kq3 all0
  have sz_b_3 : h0.size ≤ b_3 := Nat.le_trans (Keep.refl h0 [a1]).1 gb_3
  have g_b_3 : n0 ≤ b_3 := Nat.le_trans Z0 gb_3
  have ne_a1_b_3 : a1 ≠ b_3 := Nat.ne_of_lt (Nat.lt_of_lt_of_le P0.lt gb_3)
  have ne_a2_b_3 : a2 ≠ b_3 := Nat.ne_of_lt (Nat.lt_of_lt_of_le P3.lt gb_3)
  have Z3 : n0 ≤ T3.heap.size := Nat.le_trans Z0 Kq3.1
  refine own_fw (A' := (T3.setTop (mkF m 45 #[rv a1, rv a2, iv 0, iv 4, .val (.null), rv b_3] [.int 4, .ref b_3, .ref a1]))) (fun t k => st3 _ (XS.astore X3.here hx rfl (hb hby d6_39) rfl rfl (l' := #[rv a1, rv a2, iv 0, iv 4, .val (.null), rv b_3]) rfl (XS.aloadN X3.here hx rfl (hb hby d6_41) rfl rfl (XS.aload X3.here hx rfl (hb hby d6_42) rfl rfl (XS.iloadN X3.here hx rfl (hb hby d6_44) rfl k))))) ?_
  obtain ⟨_, _, ⟨T4, L4, k4, n4⟩, -, X4, ⟨Lc4, hQ4, l4, y4, z4⟩, st4⟩ := Jvm.LawKit.callS X3 hx (y := yq5) hown (mvT hZ (own_w hw 60 rfl)) (mvT hZ (own_w hw 61 rfl)) (mvT hZ (own_w hw 35 rfl)) (mvT hZ (own_w hw 62 rfl)) (by decide) (backOf (W := 1) (rmCoderU4 l Z a0 hw [] b_3 kb_3 (own_lo c0) (own_hb c0) (own_lo c1) (own_hb c1) (own_lo c2) (own_hb c2) (own_lo c3) (own_hb c3) T3.heap n0 Z3 Fq3_0) hZ (own_w hw 62 rfl) (own_w hw 35 rfl) (by decide) (by decide)) (g := (mkF m 45 #[rv a1, rv a2, iv 0, iv 4, .val (.null), rv b_3] [.int 4, .ref b_3, .ref a1])) rfl (by rw [hml]; rfl) (argsL := [(.ref b_3), (.int 4)]) (rest := [(.ref a1)]) (lenOf pd___BI_B rfl) rfl (by show 2 * 0 + _ ≤ _; exact Nat.le_of_eq rfl) (hb hby d6_45) (fun _ _ => ⟨rfl, rfl, (by decide : 2 + 0 ≤ _), (by decide : 12 + 0 ≤ _)⟩)
  dsimp only [Pt.U, Pt.locs, Pt.cells, Pt.slots] at X4 l4 y4 z4 st4 hQ4
  subst l4 y4 z4
  obtain ⟨rfl, Nq4, e4⟩ := hQ4
  have Nf4 := Fr.app Nf3 Nq4
  refine own_fw (A' := (T4.setTop (mkF m 48 #[rv a1, rv a2, iv 0, iv 4, .val (.null), rv b_3] [.int 1, .ref a1]))) (fun t k => st4 _ k) ?_
  obtain ⟨T5, h5, X5, e5, W5, st5⟩ := putFN X4 hx hZ hown (own_w hw 63 rfl) Via.refl e4 (P1.keep Kq3 nin0) (P0.keep Kq3) (Or.inr ⟨(own_w hw 64 rfl), rfl, hnm⟩) (own_w hw 20 rfl) (ty := .byte) (v' := (.int 1)) (by decide) rfl rfl (g := (mkF m 48 #[rv a1, rv a2, iv 0, iv 4, .val (.null), rv b_3] [.int 1, .ref a1])) rfl rfl (hb hby d6_48)
  have Fw5 : Fld Z h5 a1 "java/lang/String" "coder" "B" (.int 1) := (P1.keep Kq3 nin0).same W5
  have Nf5 := Fr.snoc X5 Nf4 g_a1
  have K5 : Keep h0 h5 [a1] := K3.wr W5 (Or.inl (List.mem_of_getElem? (i := 0) rfl))
  have Z5 : n0 ≤ h5.size := Nat.le_trans Z3 (Keep.of_wr W5).1
  refine own_fw (A' := (T5.setTop (mkF m 54 #[rv a1, rv a2, iv 0, iv 4, .val (.null), rv b_3] [.ref b_3, .ref a1]))) (fun t k => st5 _ (XS.aloadN X5.here hx rfl (hb hby d6_51) rfl rfl (XS.aload X5.here hx rfl (hb hby d6_52) rfl rfl k))) ?_
  obtain ⟨T6, h6, X6, e6, W6, st6⟩ := putF X5 hx hZ hown (host := "") (Or.inl (own_w hw 65 rfl)) Via.refl e5 ((P2.keep Kq3 nin0).other W5 (Or.inr (slot_ne (Or.inr (own_w hw 66 rfl)) (Or.inr (own_w hw 64 rfl)) (by decide) (t := (.array .byte)) (t' := .byte) (by decide) (by decide)))) ((P0.keep Kq3).wr W5) (Or.inr ⟨(own_w hw 66 rfl), rfl, hnm⟩) (own_w hw 20 rfl) (ty := (.array .byte)) (by decide) rfl rfl (g := (mkF m 54 #[rv a1, rv a2, iv 0, iv 4, .val (.null), rv b_3] [.ref b_3, .ref a1])) rfl rfl (hb hby d6_54)
  have Fw6 : Fld Z h6 a1 "java/lang/String" "value" "[B" (.ref b_3) := ((P2.keep Kq3 nin0).other W5 (Or.inr (slot_ne (Or.inr (own_w hw 66 rfl)) (Or.inr (own_w hw 64 rfl)) (by decide) (t := (.array .byte)) (t' := .byte) (by decide) (by decide)))).same W6
  have Nf6 := Fr.snoc X6 Nf5 g_a1
  have K6 : Keep h0 h6 [a1] := K5.wr W6 (Or.inl (List.mem_of_getElem? (i := 0) rfl))
  have Z6 : n0 ≤ h6.size := Nat.le_trans Z5 (Keep.of_wr W6).1
  refine own_fw (A' := (T6.setTop (mkF m 57 #[rv a1, rv a2, iv 0, iv 4, .val (.null), rv b_3] []))) (fun t k => st6 _ k) ?_
  obtain ⟨fs, hr, hrun, hended, hW, hsame⟩ := X6.leave (v := none) (fun _ => rfl)
  refine ⟨_, _, ?_, hrun, hended, _, _, rfl, ?_, ⟨_, rfl⟩, hW, hsame.mono (by decide) (by decide)⟩
  · exact X6.returnOut hx Bd.returns (hb hby d6_57) hr
  · show Q_rmStrB4U Z a1 a2 kc cs c0 c1 c2 c3 h0 n0 _ T6.heap _
    rw [e6]
    exact ⟨b_3, kb_3, rfl, Nf6, K6, (((P0.keep Kq3).wr W5).wr W6), (Fw5.other W6 (Or.inr (slot_ne (Or.inr (own_w hw 64 rfl)) (Or.inr (own_w hw 66 rfl)) (by decide) (t := .byte) (t' := (.array .byte)) (by decide) (by decide)))), Fw6, ((Fq3_0.other W5 (Ne.symm ne_a1_b_3)).other W6 (Ne.symm ne_a1_b_3))⟩
theorem ef_rmStrA4U (m : MethodId) (a1 a2 : Addr) : entryFrame m #[(.ref a1), (.ref a2)] 2 = mkF m 0 #[.val (.ref a1), .val (.ref a2)] [] := by first | (simp [entryFrame, mkF, argsToLocals, Value.category]; done) | rfl
def Q_rmStrA4U (Z : State) (a1 a2 : Addr) (kc : ClassId) (cs c0 c1 c2 c3 : Int32) (h0 : Heap) (n0 : Nat) (v : Option Value) (h : Heap) (L : List Loc) : Prop := ∃ b : Addr, ∃ kb : ClassId, v = none ∧ Fr n0 L ∧ Keep h0 h [a1] ∧ Exa Z h a1 "java/lang/String" ∧ Fld Z h a1 "java/lang/String" "coder" "B" (.int 1) ∧ Fld Z h a1 "java/lang/String" "value" "[B" (.ref b) ∧ Arv Z h b kb .byte (8 : Int32) [(.int (own_lo c0)), (.int (own_hb c0)), (.int (own_lo c1)), (.int (own_hb c1)), (.int (own_lo c2)), (.int (own_hb c2)), (.int (own_lo c3)), (.int (own_hb c3))] (.int 0)
theorem rmStrA4U (l : Launch) (Z : State) (a0 : Array Value) (hw : ∀ d ∈ tables_1, d.before a0 Z = true) (ws : List Jvm.Cond) (a1 a2 : Addr) (kc : ClassId) (cs c0 c1 c2 c3 : Int32) (h0 : Heap) (n0 : Nat) (Z0 : n0 ≤ h0.size) (P0 : Exa Z h0 a1 "java/lang/String") (P1 : Fld Z h0 a1 "java/lang/String" "coder" "B" (.int 0)) (P2 : Fld Z h0 a1 "java/lang/String" "value" "[B" .null) (P3 : Arv Z h0 a2 kc .char (4 : Int32) [(.int c0), (.int c1), (.int c2), (.int c3)] (.int 0)) (g_a1 : n0 ≤ a1) (ne_a1_a2 : a1 ≠ a2) (P6 : Sta Z h0 "java/lang/String" "COMPACT_STRINGS" "Z" (.int cs)) (hcs : ¬ (cs = (0 : Int32))) (P8 : Sta Z h0 "java/lang/StringUTF16" "$assertionsDisabled" "Z" (.int 1)) (P9 : Sta Z h0 "java/lang/StringUTF16" "HI_BYTE_SHIFT" "I" (.int 0)) (P10 : Sta Z h0 "java/lang/StringUTF16" "LO_BYTE_SHIFT" "I" (.int 8)) (hbig : (255 : Int32) < c0 ∨ (255 : Int32) < c1 ∨ (255 : Int32) < c2 ∨ (255 : Int32) < c3) (hr0 : own_c16 c0) (hr1 : own_c16 c1) (hr2 : own_c16 c2) (hr3 : own_c16 c3) :
    MetFree l yq9 (head1 (Jvm.Cond.code yq9 jdk_42_method_3_code 2 none :: ws) rq42) (fun a U => a = #[(.ref a1), (.ref a2)] ∧ Z.Warmed39 U.vm ∧ U.heap = h0) (fun _ _ _ _ _ => True) (fun _ U o U' => ∃ v L, o = .returned v ∧ Q_rmStrA4U Z a1 a2 kc cs c0 c1 c2 c3 h0 n0 v U'.heap L ∧ FrameEnd U o U' L rq42.cells rq42.slots) := by
  refine MetFree.of_bodySF (plainFor_of_name pn_java_lang_String) hisR ?_
  intro p e s m args below meth c s₁ Bd hml0 hP hK
  obtain ⟨rfl, hZ, hh⟩ := hP
  have hx := Bd.exec
  have hby := Bd.bytes
  have hml : c.maxLocals = 2 := hml0
  have hown : s.vm.findClass "java/lang/String" = some m.cls := findClass_of_methodNamed Bd.named
  have hnm := (name_of_methodNamed Bd.named Bd.method).1
  have X0 : Stand p l e rq42 s m #[(.ref a1), (.ref a2)] below meth c s₁ [] 0 0 := Stand.of_body Bd
  have e0 : s₁.heap = h0 := by rw [← hh, Bd.state]; rfl
  have N0 := Fr.nil n0
  refine own_fw (A' := (s₁.setTop (mkF m 4 #[rv a1, rv a2] [.ref a2, .int 0, .ref a2, .ref a1]))) (fun t k => castTop (ef_rmStrA4U m a1 a2) (XS.aloadN X0.here hx rfl (hb hby d5_0) rfl rfl (XS.aloadN X0.here hx rfl (hb hby d5_1) rfl rfl (XS.iconst X0.here hx rfl (hb hby d5_2) (XS.aloadN X0.here hx rfl (hb hby d5_3) rfl rfl k))))) ?_
  obtain ⟨cl1, Ar1, q1, S1, M1, H1, G1⟩ := id P3
  refine own_fw (A' := (s₁.setTop (mkF m 5 #[rv a1, rv a2] [.int 4, .int 0, .ref a2, .ref a1]))) (fun t k => X0.arraylength hx (by rw [e0]; exact Ar1.1) (State.isArrayOf_alike hZ.alike Ar1.2.1) (g := (mkF m 4 #[rv a1, rv a2] [.ref a2, .int 0, .ref a2, .ref a1])) rfl rfl (hb hby d5_4) _ (by rw [len_of S1 M1]; exact k)) ?_
  refine own_fw (A' := (s₁.setTop (mkF m 6 #[rv a1, rv a2] [.null, .int 4, .int 0, .ref a2, .ref a1]))) (fun t k => XS.aconstNull X0.here hx rfl (hb hby d5_5) k) ?_
  obtain ⟨_, _, ⟨T2, L2, k2, n2⟩, -, X2, ⟨Lc2, hQ2, l2, y2, z2⟩, st2⟩ := X0.specialBack hx (y := yq7) rfl hown (mvT hZ (own_w hw 25 rfl)) (mvT hZ (own_w hw 26 rfl)) (mvT hZ (own_w hw 28 rfl)) (by decide) (backOf (W := 0) (rmStrB4U l Z a0 hw [] a1 a2 kc cs c0 c1 c2 c3 h0 n0 Z0 P0 P1 P2 P3 g_a1 ne_a1_a2 P6 hcs P8 P9 P10 hbig hr0 hr1 hr2 hr3) hZ (own_w hw 28 rfl) (own_w hw 21 rfl) (by decide) (by decide)) (g := (mkF m 6 #[rv a1, rv a2] [.null, .int 4, .int 0, .ref a2, .ref a1])) rfl (by rw [hml]; rfl) (Steps.refl _) (a := a1) (argsL := [(.ref a2), (.int 0), (.int 4), .null]) (rest := []) (lenOf pd___CIILjava_lang_Void__V rfl) rfl (by show 2 * 0 + _ ≤ _; exact Nat.le_of_eq rfl) (hb hby d5_6) (fun _ _ => ⟨rfl, e0, (by decide : 0 + 2 ≤ _), (by decide : 0 + 12 ≤ _)⟩)
  dsimp only [Pt.U, Pt.locs, Pt.cells, Pt.slots] at X2 l2 y2 z2 st2 hQ2
  subst l2 y2 z2
  obtain ⟨b_2, kb_2, rfl, Nq2, Kq2, Fq2_0, Fq2_1, Fq2_2, Fq2_3⟩ := hQ2
  have Nf2 := Fr.app N0 Nq2
  have K2 : Keep h0 T2.heap [a1] := (Keep.refl h0 [a1]).trans Kq2 (allS (Or.inl (List.mem_of_getElem? (i := 0) rfl)) all0)
  have Z2 : n0 ≤ T2.heap.size := Nat.le_trans Z0 Kq2.1
  refine own_fw (A' := (T2.setTop (mkF m 9 #[rv a1, rv a2] []))) (fun t k => st2.trans k) ?_
  obtain ⟨fs, hr, hrun, hended, hW, hsame⟩ := X2.leave (v := none) (fun _ => rfl)
  refine ⟨_, _, ?_, hrun, hended, _, _, rfl, ?_, ⟨_, rfl⟩, hW, hsame.mono (by decide) (by decide)⟩
  · exact X2.returnOut hx Bd.returns (hb hby d5_9) hr
  · show Q_rmStrA4U Z a1 a2 kc cs c0 c1 c2 c3 h0 n0 _ T2.heap _
    exact ⟨b_2, kb_2, rfl, Nf2, K2, Fq2_0, Fq2_1, Fq2_2, Fq2_3⟩
theorem pn_jdk_internal_util_Preconditions : plainName "jdk/internal/util/Preconditions" = true := by first | (simp [plainName, overriddenIn]; done) | decide +kernel
theorem d28_0 : decode jdk_41_method_11_code 0 = .ok (.iload_n 0, 1) := by decide +kernel
theorem d28_1 : decode jdk_41_method_11_code 1 = .ok (.ifCond .lt 8, 3) := by decide +kernel
theorem d28_4 : decode jdk_41_method_11_code 4 = .ok (.iload_n 0, 1) := by decide +kernel
theorem d28_5 : decode jdk_41_method_11_code 5 = .ok (.iload_n 1, 1) := by decide +kernel
theorem d28_6 : decode jdk_41_method_11_code 6 = .ok (.if_icmp .lt 10, 3) := by decide +kernel
theorem d28_16 : decode jdk_41_method_11_code 16 = .ok (.iload_n 0, 1) := by decide +kernel
theorem d28_17 : decode jdk_41_method_11_code 17 = .ok (.ireturn, 1) := by decide +kernel
theorem ef_rmPreN (m : MethodId) (p1 p2 : Int32) : entryFrame m #[(.int p1), (.int p2), .null] 3 = mkF m 0 #[.val (.int p1), .val (.int p2), .val .null] [] := by first | (simp [entryFrame, mkF, argsToLocals, Value.category]; done) | rfl
def Q_rmPreN (Z : State) (p1 p2 : Int32) (h0 : Heap) (n0 : Nat) (v : Option Value) (h : Heap) (L : List Loc) : Prop := v = some (.int p1) ∧ Fr n0 L ∧ h = h0
theorem rmPreN (l : Launch) (Z : State) (a0 : Array Value) (hw : ∀ d ∈ tables_1, d.before a0 Z = true) (ws : List Jvm.Cond) (p1 p2 : Int32) (h0 : Heap) (n0 : Nat) (Z0 : n0 ≤ h0.size) (u0 : ¬ (p1 < (0 : Int32))) (u1 : p1 < p2) :
    MetFree l yq44 (head1 (Jvm.Cond.code yq44 jdk_41_method_11_code 3 (some .int) :: ws) rq0) (fun a U => a = #[(.int p1), (.int p2), .null] ∧ Z.Warmed39 U.vm ∧ U.heap = h0) (fun _ _ _ _ _ => True) (fun _ U o U' => ∃ v L, o = .returned v ∧ Q_rmPreN Z p1 p2 h0 n0 v U'.heap L ∧ FrameEnd U o U' L rq0.cells rq0.slots) := by
  refine MetFree.of_bodySF (plainFor_of_name pn_jdk_internal_util_Preconditions) hisR ?_
  intro p e s m args below meth c s₁ Bd hml0 hP hK
  obtain ⟨rfl, hZ, hh⟩ := hP
  have hx := Bd.exec
  have hby := Bd.bytes
  have hml : c.maxLocals = 3 := hml0
  have hown : s.vm.findClass "jdk/internal/util/Preconditions" = some m.cls := findClass_of_methodNamed Bd.named
  have hnm := (name_of_methodNamed Bd.named Bd.method).1
  have X0 : Stand p l e rq0 s m #[(.int p1), (.int p2), .null] below meth c s₁ [] 0 0 := Stand.of_body Bd
  have e0 : s₁.heap = h0 := by rw [← hh, Bd.state]; rfl
  have N0 := Fr.nil n0
  refine own_fw (A' := (s₁.setTop (mkF m 17 #[iv p1, iv p2, .val (.null)] [.int p1]))) (fun t k => castTop (ef_rmPreN m p1 p2) (XS.iloadN X0.here hx rfl (hb hby d28_0) rfl (XS.ifNo X0.here hx rfl (hb hby d28_1) rfl (XT.i0_lt_f u0) (XS.iloadN X0.here hx rfl (hb hby d28_4) rfl (XS.iloadN X0.here hx rfl (hb hby d28_5) rfl (XS.icmpYes X0.here hx rfl (pc0 := 6) (pc' := 16) rfl (hb hby d28_6) rfl (XT.ii_lt_t u1) (by decide) (by decide) (XS.iloadN X0.here hx rfl (hb hby d28_16) rfl k))))))) ?_
  obtain ⟨fs, hr, hrun, hended, hW, hsame⟩ := X0.leave (v := some (.int p1)) (fun h => by rw [Bd.returns] at h; cases h)
  refine ⟨_, _, ?_, hrun, hended, _, _, rfl, ?_, ⟨_, rfl⟩, hW, hsame.mono (by decide) (by decide)⟩
  · exact retOut X0 hx Bd.returns rfl (Or.inl ⟨rfl, by simp, _, rfl⟩) (hb hby d28_17) hr
  · show Q_rmPreN Z p1 p2 h0 n0 _ s₁.heap _
    rw [e0]
    exact ⟨rfl, N0, rfl⟩
theorem d27_0 : decode jdk_42_method_155_code 0 = .ok (.iload_n 0, 1) := by decide +kernel
theorem d27_1 : decode jdk_42_method_155_code 1 = .ok (.iload_n 1, 1) := by decide +kernel
theorem d27_2 : decode jdk_42_method_155_code 2 = .ok (.getstatic 1053, 3) := by decide +kernel
theorem d27_5 : decode jdk_42_method_155_code 5 = .ok (.invokestatic 1059, 3) := by decide +kernel
theorem pd__IILjava_util_function_BiFunction__I : parseMethodDescriptor "(IILjava/util/function/BiFunction;)I" = some ⟨[.int, .int, (.object "java/util/function/BiFunction")], some .int⟩ := by decide +kernel
theorem d27_8 : decode jdk_42_method_155_code 8 = .ok (.pop, 1) := by decide +kernel
theorem d27_9 : decode jdk_42_method_155_code 9 = .ok (.return_, 1) := by decide +kernel
theorem ef_rmCkN (m : MethodId) (p1 p2 : Int32) : entryFrame m #[(.int p1), (.int p2)] 2 = mkF m 0 #[.val (.int p1), .val (.int p2)] [] := by first | (simp [entryFrame, mkF, argsToLocals, Value.category]; done) | rfl
def Q_rmCkN (Z : State) (p1 p2 : Int32) (h0 : Heap) (n0 : Nat) (v : Option Value) (h : Heap) (L : List Loc) : Prop := v = none ∧ Fr n0 L ∧ h = h0
theorem rmCkN (l : Launch) (Z : State) (a0 : Array Value) (hw : ∀ d ∈ tables_1, d.before a0 Z = true) (ws : List Jvm.Cond) (p1 p2 : Int32) (h0 : Heap) (n0 : Nat) (Z0 : n0 ≤ h0.size) (P0 : Sta Z h0 "jdk/internal/util/Preconditions" "SIOOBE_FORMATTER" "Ljava/util/function/BiFunction;" .null) (u0 : ¬ (p1 < (0 : Int32))) (u1 : p1 < p2) :
    MetFree l yq45 (head1 (Jvm.Cond.code yq45 jdk_42_method_155_code 2 none :: ws) rq43) (fun a U => a = #[(.int p1), (.int p2)] ∧ Z.Warmed39 U.vm ∧ U.heap = h0) (fun _ _ _ _ _ => True) (fun _ U o U' => ∃ v L, o = .returned v ∧ Q_rmCkN Z p1 p2 h0 n0 v U'.heap L ∧ FrameEnd U o U' L rq43.cells rq43.slots) := by
  refine MetFree.of_bodySF (plainFor_of_name pn_java_lang_String) hisR ?_
  intro p e s m args below meth c s₁ Bd hml0 hP hK
  obtain ⟨rfl, hZ, hh⟩ := hP
  have hx := Bd.exec
  have hby := Bd.bytes
  have hml : c.maxLocals = 2 := hml0
  have hown : s.vm.findClass "java/lang/String" = some m.cls := findClass_of_methodNamed Bd.named
  have hnm := (name_of_methodNamed Bd.named Bd.method).1
  have X0 : Stand p l e rq43 s m #[(.int p1), (.int p2)] below meth c s₁ [] 0 0 := Stand.of_body Bd
  have e0 : s₁.heap = h0 := by rw [← hh, Bd.state]; rfl
  have N0 := Fr.nil n0
  refine own_fw (A' := (s₁.setTop (mkF m 2 #[iv p1, iv p2] [.int p2, .int p1]))) (fun t k => castTop (ef_rmCkN m p1 p2) (XS.iloadN X0.here hx rfl (hb hby d27_0) rfl (XS.iloadN X0.here hx rfl (hb hby d27_1) rfl k))) ?_
  obtain ⟨T1, X1, e1, st1⟩ := getS2 X0 hx hZ hown (host := "") (Or.inl (own_w hw 120 rfl)) Via.refl e0 P0 (g := (mkF m 2 #[iv p1, iv p2] [.int p2, .int p1])) rfl (hb hby d27_2)
  refine own_fw (A' := (T1.setTop (mkF m 5 #[iv p1, iv p2] [.null, .int p2, .int p1]))) (fun t k => st1 _ k) ?_
  obtain ⟨_, _, ⟨T2, L2, k2, n2⟩, -, X2, ⟨Lc2, hQ2, l2, y2, z2⟩, st2⟩ := Jvm.LawKit.callS X1 hx (y := yq44) hown (mvT hZ (own_w hw 121 rfl)) (mvT hZ (own_w hw 122 rfl)) (mvT hZ (own_w hw 99 rfl)) (mvT hZ (own_w hw 123 rfl)) (by decide) (backOf (W := 0) (rmPreN l Z a0 hw [] p1 p2 h0 n0 Z0 u0 u1) hZ (own_w hw 123 rfl) (own_w hw 99 rfl) (by decide) (by decide)) (g := (mkF m 5 #[iv p1, iv p2] [.null, .int p2, .int p1])) rfl (by rw [hml]; rfl) (argsL := [(.int p1), (.int p2), .null]) (rest := []) (lenOf pd__IILjava_util_function_BiFunction__I rfl) rfl (by show 2 * 0 + _ ≤ _; exact Nat.le_of_eq rfl) (hb hby d27_5) (fun _ _ => ⟨rfl, e1, (by decide : 0 + 0 ≤ _), (by decide : 0 + 0 ≤ _)⟩)
  dsimp only [Pt.U, Pt.locs, Pt.cells, Pt.slots] at X2 l2 y2 z2 st2 hQ2
  subst l2 y2 z2
  obtain ⟨rfl, Nq2, e2⟩ := hQ2
  have Nf2 := Fr.app N0 Nq2
  refine own_fw (A' := (T2.setTop (mkF m 9 #[iv p1, iv p2] []))) (fun t k => st2 _ (XS.pop X2.here hx rfl (hb hby d27_8) rfl rfl k)) ?_
  obtain ⟨fs, hr, hrun, hended, hW, hsame⟩ := X2.leave (v := none) (fun _ => rfl)
  refine ⟨_, _, ?_, hrun, hended, _, _, rfl, ?_, ⟨_, rfl⟩, hW, hsame.mono (by decide) (by decide)⟩
  · exact X2.returnOut hx Bd.returns (hb hby d27_9) hr
  · show Q_rmCkN Z p1 p2 h0 n0 _ T2.heap _
    rw [e2]
    exact ⟨rfl, Nf2, rfl⟩
theorem ef_rmPreR (m : MethodId) (p1 p2 : Int32) (sf : Addr) : entryFrame m #[(.int p1), (.int p2), (.ref sf)] 3 = mkF m 0 #[.val (.int p1), .val (.int p2), .val (.ref sf)] [] := by first | (simp [entryFrame, mkF, argsToLocals, Value.category]; done) | rfl
def Q_rmPreR (Z : State) (p1 p2 : Int32) (sf : Addr) (h0 : Heap) (n0 : Nat) (v : Option Value) (h : Heap) (L : List Loc) : Prop := v = some (.int p1) ∧ Fr n0 L ∧ h = h0
theorem rmPreR (l : Launch) (Z : State) (a0 : Array Value) (hw : ∀ d ∈ tables_1, d.before a0 Z = true) (ws : List Jvm.Cond) (p1 p2 : Int32) (sf : Addr) (h0 : Heap) (n0 : Nat) (Z0 : n0 ≤ h0.size) (u0 : ¬ (p1 < (0 : Int32))) (u1 : p1 < p2) :
    MetFree l yq44 (head1 (Jvm.Cond.code yq44 jdk_41_method_11_code 3 (some .int) :: ws) rq0) (fun a U => a = #[(.int p1), (.int p2), (.ref sf)] ∧ Z.Warmed39 U.vm ∧ U.heap = h0) (fun _ _ _ _ _ => True) (fun _ U o U' => ∃ v L, o = .returned v ∧ Q_rmPreR Z p1 p2 sf h0 n0 v U'.heap L ∧ FrameEnd U o U' L rq0.cells rq0.slots) := by
  refine MetFree.of_bodySF (plainFor_of_name pn_jdk_internal_util_Preconditions) hisR ?_
  intro p e s m args below meth c s₁ Bd hml0 hP hK
  obtain ⟨rfl, hZ, hh⟩ := hP
  have hx := Bd.exec
  have hby := Bd.bytes
  have hml : c.maxLocals = 3 := hml0
  have hown : s.vm.findClass "jdk/internal/util/Preconditions" = some m.cls := findClass_of_methodNamed Bd.named
  have hnm := (name_of_methodNamed Bd.named Bd.method).1
  have X0 : Stand p l e rq0 s m #[(.int p1), (.int p2), (.ref sf)] below meth c s₁ [] 0 0 := Stand.of_body Bd
  have e0 : s₁.heap = h0 := by rw [← hh, Bd.state]; rfl
  have N0 := Fr.nil n0
  refine own_fw (A' := (s₁.setTop (mkF m 17 #[iv p1, iv p2, rv sf] [.int p1]))) (fun t k => castTop (ef_rmPreR m p1 p2 sf) (XS.iloadN X0.here hx rfl (hb hby d28_0) rfl (XS.ifNo X0.here hx rfl (hb hby d28_1) rfl (XT.i0_lt_f u0) (XS.iloadN X0.here hx rfl (hb hby d28_4) rfl (XS.iloadN X0.here hx rfl (hb hby d28_5) rfl (XS.icmpYes X0.here hx rfl (pc0 := 6) (pc' := 16) rfl (hb hby d28_6) rfl (XT.ii_lt_t u1) (by decide) (by decide) (XS.iloadN X0.here hx rfl (hb hby d28_16) rfl k))))))) ?_
  obtain ⟨fs, hr, hrun, hended, hW, hsame⟩ := X0.leave (v := some (.int p1)) (fun h => by rw [Bd.returns] at h; cases h)
  refine ⟨_, _, ?_, hrun, hended, _, _, rfl, ?_, ⟨_, rfl⟩, hW, hsame.mono (by decide) (by decide)⟩
  · exact retOut X0 hx Bd.returns rfl (Or.inl ⟨rfl, by simp, _, rfl⟩) (hb hby d28_17) hr
  · show Q_rmPreR Z p1 p2 sf h0 n0 _ s₁.heap _
    rw [e0]
    exact ⟨rfl, N0, rfl⟩
theorem ef_rmCkR (m : MethodId) (p1 p2 : Int32) : entryFrame m #[(.int p1), (.int p2)] 2 = mkF m 0 #[.val (.int p1), .val (.int p2)] [] := by first | (simp [entryFrame, mkF, argsToLocals, Value.category]; done) | rfl
def Q_rmCkR (Z : State) (p1 p2 : Int32) (sf : Addr) (h0 : Heap) (n0 : Nat) (v : Option Value) (h : Heap) (L : List Loc) : Prop := v = none ∧ Fr n0 L ∧ h = h0
theorem rmCkR (l : Launch) (Z : State) (a0 : Array Value) (hw : ∀ d ∈ tables_1, d.before a0 Z = true) (ws : List Jvm.Cond) (p1 p2 : Int32) (sf : Addr) (h0 : Heap) (n0 : Nat) (Z0 : n0 ≤ h0.size) (P0 : Sta Z h0 "jdk/internal/util/Preconditions" "SIOOBE_FORMATTER" "Ljava/util/function/BiFunction;" (.ref sf)) (u0 : ¬ (p1 < (0 : Int32))) (u1 : p1 < p2) :
    MetFree l yq45 (head1 (Jvm.Cond.code yq45 jdk_42_method_155_code 2 none :: ws) rq43) (fun a U => a = #[(.int p1), (.int p2)] ∧ Z.Warmed39 U.vm ∧ U.heap = h0) (fun _ _ _ _ _ => True) (fun _ U o U' => ∃ v L, o = .returned v ∧ Q_rmCkR Z p1 p2 sf h0 n0 v U'.heap L ∧ FrameEnd U o U' L rq43.cells rq43.slots) := by
  refine MetFree.of_bodySF (plainFor_of_name pn_java_lang_String) hisR ?_
  intro p e s m args below meth c s₁ Bd hml0 hP hK
  obtain ⟨rfl, hZ, hh⟩ := hP
  have hx := Bd.exec
  have hby := Bd.bytes
  have hml : c.maxLocals = 2 := hml0
  have hown : s.vm.findClass "java/lang/String" = some m.cls := findClass_of_methodNamed Bd.named
  have hnm := (name_of_methodNamed Bd.named Bd.method).1
  have X0 : Stand p l e rq43 s m #[(.int p1), (.int p2)] below meth c s₁ [] 0 0 := Stand.of_body Bd
  have e0 : s₁.heap = h0 := by rw [← hh, Bd.state]; rfl
  have N0 := Fr.nil n0
  refine own_fw (A' := (s₁.setTop (mkF m 2 #[iv p1, iv p2] [.int p2, .int p1]))) (fun t k => castTop (ef_rmCkR m p1 p2) (XS.iloadN X0.here hx rfl (hb hby d27_0) rfl (XS.iloadN X0.here hx rfl (hb hby d27_1) rfl k))) ?_
  obtain ⟨T1, X1, e1, st1⟩ := getS2 X0 hx hZ hown (host := "") (Or.inl (own_w hw 120 rfl)) Via.refl e0 P0 (g := (mkF m 2 #[iv p1, iv p2] [.int p2, .int p1])) rfl (hb hby d27_2)
  refine own_fw (A' := (T1.setTop (mkF m 5 #[iv p1, iv p2] [.ref sf, .int p2, .int p1]))) (fun t k => st1 _ k) ?_
  obtain ⟨_, _, ⟨T2, L2, k2, n2⟩, -, X2, ⟨Lc2, hQ2, l2, y2, z2⟩, st2⟩ := Jvm.LawKit.callS X1 hx (y := yq44) hown (mvT hZ (own_w hw 121 rfl)) (mvT hZ (own_w hw 122 rfl)) (mvT hZ (own_w hw 99 rfl)) (mvT hZ (own_w hw 123 rfl)) (by decide) (backOf (W := 0) (rmPreR l Z a0 hw [] p1 p2 sf h0 n0 Z0 u0 u1) hZ (own_w hw 123 rfl) (own_w hw 99 rfl) (by decide) (by decide)) (g := (mkF m 5 #[iv p1, iv p2] [.ref sf, .int p2, .int p1])) rfl (by rw [hml]; rfl) (argsL := [(.int p1), (.int p2), (.ref sf)]) (rest := []) (lenOf pd__IILjava_util_function_BiFunction__I rfl) rfl (by show 2 * 0 + _ ≤ _; exact Nat.le_of_eq rfl) (hb hby d27_5) (fun _ _ => ⟨rfl, e1, (by decide : 0 + 0 ≤ _), (by decide : 0 + 0 ≤ _)⟩)
  dsimp only [Pt.U, Pt.locs, Pt.cells, Pt.slots] at X2 l2 y2 z2 st2 hQ2
  subst l2 y2 z2
  obtain ⟨rfl, Nq2, e2⟩ := hQ2
  have Nf2 := Fr.app N0 Nq2
  refine own_fw (A' := (T2.setTop (mkF m 9 #[iv p1, iv p2] []))) (fun t k => st2 _ (XS.pop X2.here hx rfl (hb hby d27_8) rfl rfl k)) ?_
  obtain ⟨fs, hr, hrun, hended, hW, hsame⟩ := X2.leave (v := none) (fun _ => rfl)
  refine ⟨_, _, ?_, hrun, hended, _, _, rfl, ?_, ⟨_, rfl⟩, hW, hsame.mono (by decide) (by decide)⟩
  · exact X2.returnOut hx Bd.returns (hb hby d27_9) hr
  · show Q_rmCkR Z p1 p2 sf h0 n0 _ T2.heap _
    rw [e2]
    exact ⟨rfl, Nf2, rfl⟩
def Q_rmCk (Z : State) (p1 p2 : Int32) (sv : Value) (h0 : Heap) (n0 : Nat) (v : Option Value) (h : Heap) (L : List Loc) : Prop := v = none ∧ Fr n0 L ∧ h = h0
theorem rmCk (l : Launch) (Z : State) (a0 : Array Value) (hw : ∀ d ∈ tables_1, d.before a0 Z = true) (ws : List Jvm.Cond) (p1 p2 : Int32) (sv : Value) (h0 : Heap) (n0 : Nat) (Z0 : n0 ≤ h0.size) (P0 : Sta Z h0 "jdk/internal/util/Preconditions" "SIOOBE_FORMATTER" "Ljava/util/function/BiFunction;" sv) (hsv : sv.isRef = true) (u0 : ¬ (p1 < (0 : Int32))) (u1 : p1 < p2) :
    MetFree l yq45 (head1 (Jvm.Cond.code yq45 jdk_42_method_155_code 2 none :: ws) rq43) (fun a U => a = #[(.int p1), (.int p2)] ∧ Z.Warmed39 U.vm ∧ U.heap = h0) (fun _ _ _ _ _ => True) (fun _ U o U' => ∃ v L, o = .returned v ∧ Q_rmCk Z p1 p2 sv h0 n0 v U'.heap L ∧ FrameEnd U o U' L rq43.cells rq43.slots) := by
  rcases ref_cases hsv with rfl | ⟨sf, rfl⟩
  · exact rmCkN l Z a0 hw ws p1 p2 h0 n0 Z0 P0 u0 u1
  · exact rmCkR l Z a0 hw ws p1 p2 sf h0 n0 Z0 P0 u0 u1
theorem pn_com_example_guarded_once_guardedonce_guard_MessageKeyOfPinLaw : plainName "com/example/guarded_once/guardedonce/guard/MessageKeyOfPinLaw" = true := by first | (simp [plainName, overriddenIn]; done) | decide +kernel
theorem d1_0 : decode method_2_code 0 = .ok (.iload_n 0, 1) := by decide +kernel
theorem d1_1 : decode method_2_code 1 = .ok (.iconst 3, 1) := by decide +kernel
theorem d1_2 : decode method_2_code 2 = .ok (.iand, 1) := by decide +kernel
theorem d1_3 : decode method_2_code 3 = .ok (.istore_n 1, 1) := by decide +kernel
theorem d1_4 : decode method_2_code 4 = .ok (.iload_n 0, 1) := by decide +kernel
theorem d1_5 : decode method_2_code 5 = .ok (.iconst 2, 1) := by decide +kernel
theorem d1_6 : decode method_2_code 6 = .ok (.iushr, 1) := by decide +kernel
theorem d1_7 : decode method_2_code 7 = .ok (.istore_n 2, 1) := by decide +kernel
theorem d1_8 : decode method_2_code 8 = .ok (.iload_n 1, 1) := by decide +kernel
theorem d1_9 : decode method_2_code 9 = .ok (.ifCond .ne 10, 3) := by decide +kernel
theorem d1_12 : decode method_2_code 12 = .ok (.iload_n 2, 1) := by decide +kernel
theorem d1_13 : decode method_2_code 13 = .ok (.sipush 255, 3) := by decide +kernel
theorem d1_16 : decode method_2_code 16 = .ok (.iand, 1) := by decide +kernel
theorem d1_17 : decode method_2_code 17 = .ok (.i2c, 1) := by decide +kernel
theorem d1_18 : decode method_2_code 18 = .ok (.ireturn, 1) := by decide +kernel
theorem d1_19 : decode method_2_code 19 = .ok (.iload_n 1, 1) := by decide +kernel
theorem d1_20 : decode method_2_code 20 = .ok (.iconst 1, 1) := by decide +kernel
theorem d1_21 : decode method_2_code 21 = .ok (.if_icmp .ne 13, 3) := by decide +kernel
theorem d1_24 : decode method_2_code 24 = .ok (.ldc 7, 2) := by decide +kernel
theorem d1_26 : decode method_2_code 26 = .ok (.iload_n 2, 1) := by decide +kernel
theorem d1_27 : decode method_2_code 27 = .ok (.sipush 1023, 3) := by decide +kernel
theorem d1_30 : decode method_2_code 30 = .ok (.iand, 1) := by decide +kernel
theorem d1_31 : decode method_2_code 31 = .ok (.iadd, 1) := by decide +kernel
theorem d1_32 : decode method_2_code 32 = .ok (.i2c, 1) := by decide +kernel
theorem d1_33 : decode method_2_code 33 = .ok (.ireturn, 1) := by decide +kernel
theorem d1_34 : decode method_2_code 34 = .ok (.iload_n 1, 1) := by decide +kernel
theorem d1_35 : decode method_2_code 35 = .ok (.iconst 2, 1) := by decide +kernel
theorem d1_36 : decode method_2_code 36 = .ok (.if_icmp .ne 13, 3) := by decide +kernel
theorem d1_39 : decode method_2_code 39 = .ok (.ldc 8, 2) := by decide +kernel
theorem d1_41 : decode method_2_code 41 = .ok (.iload_n 2, 1) := by decide +kernel
theorem d1_42 : decode method_2_code 42 = .ok (.sipush 1023, 3) := by decide +kernel
theorem d1_45 : decode method_2_code 45 = .ok (.iand, 1) := by decide +kernel
theorem d1_46 : decode method_2_code 46 = .ok (.iadd, 1) := by decide +kernel
theorem d1_47 : decode method_2_code 47 = .ok (.i2c, 1) := by decide +kernel
theorem d1_48 : decode method_2_code 48 = .ok (.ireturn, 1) := by decide +kernel
theorem d1_49 : decode method_2_code 49 = .ok (.iload_n 2, 1) := by decide +kernel
theorem d1_50 : decode method_2_code 50 = .ok (.ldc 9, 2) := by decide +kernel
theorem d1_52 : decode method_2_code 52 = .ok (.iand, 1) := by decide +kernel
theorem d1_53 : decode method_2_code 53 = .ok (.i2c, 1) := by decide +kernel
theorem d1_54 : decode method_2_code 54 = .ok (.ireturn, 1) := by decide +kernel
theorem ef_rmDraw (m : MethodId) (p1 : Int32) : entryFrame m #[(.int p1)] 3 = mkF m 0 #[.val (.int p1), .unset, .unset] [] := by first | (simp [entryFrame, mkF, argsToLocals, Value.category]; done) | rfl
def Q_rmDraw (Z : State) (p1 : Int32) (h0 : Heap) (n0 : Nat) (v : Option Value) (h : Heap) (L : List Loc) : Prop := ∃ r : Int32, v = some (.int r) ∧ Fr n0 L ∧ h = h0 ∧ (own_c16 r)
theorem rmDraw (l : Launch) (Z : State) (a0 : Array Value) (hw : ∀ d ∈ tables_1, d.before a0 Z = true) (ws : List Jvm.Cond) (p1 : Int32) (h0 : Heap) (n0 : Nat) (Z0 : n0 ≤ h0.size)  :
    MetFree l yq46 (head1 (Jvm.Cond.code yq46 method_2_code 3 (some .char) :: ws) rq0) (fun a U => a = #[(.int p1)] ∧ Z.Warmed39 U.vm ∧ U.heap = h0) (fun _ _ _ _ _ => True) (fun _ U o U' => ∃ v L, o = .returned v ∧ Q_rmDraw Z p1 h0 n0 v U'.heap L ∧ FrameEnd U o U' L rq0.cells rq0.slots) := by
  refine MetFree.of_bodySF (plainFor_of_name pn_com_example_guarded_once_guardedonce_guard_MessageKeyOfPinLaw) hisR ?_
  intro p e s m args below meth c s₁ Bd hml0 hP hK
  obtain ⟨rfl, hZ, hh⟩ := hP
  have hx := Bd.exec
  have hby := Bd.bytes
  have hml : c.maxLocals = 3 := hml0
  have hown : s.vm.findClass "com/example/guarded_once/guardedonce/guard/MessageKeyOfPinLaw" = some m.cls := findClass_of_methodNamed Bd.named
  have hnm := (name_of_methodNamed Bd.named Bd.method).1
  have X0 : Stand p l e rq0 s m #[(.int p1)] below meth c s₁ [] 0 0 := Stand.of_body Bd
  have e0 : s₁.heap = h0 := by rw [← hh, Bd.state]; rfl
  have N0 := Fr.nil n0
  refine own_fw (A' := (s₁.setTop (mkF m 9 #[iv p1, iv (p1 &&& (3 : Int32)), iv ((p1.toUInt32 >>> ((2 : Int32) &&& 31).toUInt32).toInt32)] [.int (p1 &&& (3 : Int32))]))) (fun t k => castTop (ef_rmDraw m p1) (XS.iloadN X0.here hx rfl (hb hby d1_0) rfl (XS.iconst X0.here hx rfl (hb hby d1_1) (XS.iand X0.here hx rfl (hb hby d1_2) rfl (XS.istoreN X0.here hx rfl (hb hby d1_3) rfl (l' := #[iv p1, iv (p1 &&& (3 : Int32)), .unset]) rfl (XS.iloadN X0.here hx rfl (hb hby d1_4) rfl (XS.iconst X0.here hx rfl (hb hby d1_5) (XS.iushr X0.here hx rfl (hb hby d1_6) rfl (XS.istoreN X0.here hx rfl (hb hby d1_7) rfl (l' := #[iv p1, iv (p1 &&& (3 : Int32)), iv ((p1.toUInt32 >>> ((2 : Int32) &&& 31).toUInt32).toInt32)]) rfl (XS.iloadN X0.here hx rfl (hb hby d1_8) rfl k)))))))))) ?_
  by_cases hc1 : (p1 &&& (3 : Int32)) = (0 : Int32)
  · refine own_fw (A' := (s₁.setTop (mkF m 18 #[iv p1, iv (p1 &&& (3 : Int32)), iv ((p1.toUInt32 >>> ((2 : Int32) &&& 31).toUInt32).toInt32)] [.int ((((p1.toUInt32 >>> ((2 : Int32) &&& 31).toUInt32).toInt32) &&& (255 : Int32)).toUInt32.toUInt16.toUInt32.toInt32)]))) (fun t k => XS.ifNo X0.here hx rfl (hb hby d1_9) rfl (XT.i0_ne_f hc1) (XS.iloadN X0.here hx rfl (hb hby d1_12) rfl (XS.sipush X0.here hx rfl (hb hby d1_13) (XS.iand X0.here hx rfl (hb hby d1_16) rfl (XS.i2c X0.here hx rfl (hb hby d1_17) rfl k))))) ?_
    obtain ⟨fs, hr, hrun, hended, hW, hsame⟩ := X0.leave (v := some (.int ((((p1.toUInt32 >>> ((2 : Int32) &&& 31).toUInt32).toInt32) &&& (255 : Int32)).toUInt32.toUInt16.toUInt32.toInt32))) (fun h => by rw [Bd.returns] at h; cases h)
    refine ⟨_, _, ?_, hrun, hended, _, _, rfl, ?_, ⟨_, rfl⟩, hW, hsame.mono (by decide) (by decide)⟩
    · exact retOut X0 hx Bd.returns (own_narr16 (own_c16i _)) (Or.inl ⟨rfl, by simp, _, rfl⟩) (hb hby d1_18) hr
    · show Q_rmDraw Z p1 h0 n0 _ s₁.heap _
      rw [e0]
      exact ⟨((((p1.toUInt32 >>> ((2 : Int32) &&& 31).toUInt32).toInt32) &&& (255 : Int32)).toUInt32.toUInt16.toUInt32.toInt32), rfl, N0, rfl, (own_c16i _)⟩
  · refine own_fw (A' := (s₁.setTop (mkF m 21 #[iv p1, iv (p1 &&& (3 : Int32)), iv ((p1.toUInt32 >>> ((2 : Int32) &&& 31).toUInt32).toInt32)] [.int 1, .int (p1 &&& (3 : Int32))]))) (fun t k => XS.ifYes X0.here hx rfl (pc0 := 9) (pc' := 19) rfl (hb hby d1_9) rfl (XT.i0_ne_t hc1) (by decide) (by decide) (XS.iloadN X0.here hx rfl (hb hby d1_19) rfl (XS.iconst X0.here hx rfl (hb hby d1_20) k))) ?_
    by_cases hc2 : (p1 &&& (3 : Int32)) = (1 : Int32)
    · refine own_fw (A' := (s₁.setTop (mkF m 33 #[iv p1, iv (p1 &&& (3 : Int32)), iv ((p1.toUInt32 >>> ((2 : Int32) &&& 31).toUInt32).toInt32)] [.int (((55296 : Int32) + (((p1.toUInt32 >>> ((2 : Int32) &&& 31).toUInt32).toInt32) &&& (1023 : Int32))).toUInt32.toUInt16.toUInt32.toInt32)]))) (fun t k => XS.icmpNo X0.here hx rfl (hb hby d1_21) rfl (XT.ii_ne_f hc2) (X0.ldcInt hx hown (mvT hZ (own_w hw 7 rfl)) (g := (mkF m 24 #[iv p1, iv (p1 &&& (3 : Int32)), iv ((p1.toUInt32 >>> ((2 : Int32) &&& 31).toUInt32).toInt32)] [])) rfl (hb hby d1_24) _ (XS.iloadN X0.here hx rfl (hb hby d1_26) rfl (XS.sipush X0.here hx rfl (hb hby d1_27) (XS.iand X0.here hx rfl (hb hby d1_30) rfl (XS.iadd X0.here hx rfl (hb hby d1_31) rfl (XS.i2c X0.here hx rfl (hb hby d1_32) rfl k))))))) ?_
      obtain ⟨fs, hr, hrun, hended, hW, hsame⟩ := X0.leave (v := some (.int (((55296 : Int32) + (((p1.toUInt32 >>> ((2 : Int32) &&& 31).toUInt32).toInt32) &&& (1023 : Int32))).toUInt32.toUInt16.toUInt32.toInt32))) (fun h => by rw [Bd.returns] at h; cases h)
      refine ⟨_, _, ?_, hrun, hended, _, _, rfl, ?_, ⟨_, rfl⟩, hW, hsame.mono (by decide) (by decide)⟩
      · exact retOut X0 hx Bd.returns (own_narr16 (own_c16i _)) (Or.inl ⟨rfl, by simp, _, rfl⟩) (hb hby d1_33) hr
      · show Q_rmDraw Z p1 h0 n0 _ s₁.heap _
        rw [e0]
        exact ⟨(((55296 : Int32) + (((p1.toUInt32 >>> ((2 : Int32) &&& 31).toUInt32).toInt32) &&& (1023 : Int32))).toUInt32.toUInt16.toUInt32.toInt32), rfl, N0, rfl, (own_c16i _)⟩
    · refine own_fw (A' := (s₁.setTop (mkF m 36 #[iv p1, iv (p1 &&& (3 : Int32)), iv ((p1.toUInt32 >>> ((2 : Int32) &&& 31).toUInt32).toInt32)] [.int 2, .int (p1 &&& (3 : Int32))]))) (fun t k => XS.icmpYes X0.here hx rfl (pc0 := 21) (pc' := 34) rfl (hb hby d1_21) rfl (XT.ii_ne_t hc2) (by decide) (by decide) (XS.iloadN X0.here hx rfl (hb hby d1_34) rfl (XS.iconst X0.here hx rfl (hb hby d1_35) k))) ?_
      by_cases hc3 : (p1 &&& (3 : Int32)) = (2 : Int32)
      · refine own_fw (A' := (s₁.setTop (mkF m 48 #[iv p1, iv (p1 &&& (3 : Int32)), iv ((p1.toUInt32 >>> ((2 : Int32) &&& 31).toUInt32).toInt32)] [.int (((56320 : Int32) + (((p1.toUInt32 >>> ((2 : Int32) &&& 31).toUInt32).toInt32) &&& (1023 : Int32))).toUInt32.toUInt16.toUInt32.toInt32)]))) (fun t k => XS.icmpNo X0.here hx rfl (hb hby d1_36) rfl (XT.ii_ne_f hc3) (X0.ldcInt hx hown (mvT hZ (own_w hw 6 rfl)) (g := (mkF m 39 #[iv p1, iv (p1 &&& (3 : Int32)), iv ((p1.toUInt32 >>> ((2 : Int32) &&& 31).toUInt32).toInt32)] [])) rfl (hb hby d1_39) _ (XS.iloadN X0.here hx rfl (hb hby d1_41) rfl (XS.sipush X0.here hx rfl (hb hby d1_42) (XS.iand X0.here hx rfl (hb hby d1_45) rfl (XS.iadd X0.here hx rfl (hb hby d1_46) rfl (XS.i2c X0.here hx rfl (hb hby d1_47) rfl k))))))) ?_
        obtain ⟨fs, hr, hrun, hended, hW, hsame⟩ := X0.leave (v := some (.int (((56320 : Int32) + (((p1.toUInt32 >>> ((2 : Int32) &&& 31).toUInt32).toInt32) &&& (1023 : Int32))).toUInt32.toUInt16.toUInt32.toInt32))) (fun h => by rw [Bd.returns] at h; cases h)
        refine ⟨_, _, ?_, hrun, hended, _, _, rfl, ?_, ⟨_, rfl⟩, hW, hsame.mono (by decide) (by decide)⟩
        · exact retOut X0 hx Bd.returns (own_narr16 (own_c16i _)) (Or.inl ⟨rfl, by simp, _, rfl⟩) (hb hby d1_48) hr
        · show Q_rmDraw Z p1 h0 n0 _ s₁.heap _
          rw [e0]
          exact ⟨(((56320 : Int32) + (((p1.toUInt32 >>> ((2 : Int32) &&& 31).toUInt32).toInt32) &&& (1023 : Int32))).toUInt32.toUInt16.toUInt32.toInt32), rfl, N0, rfl, (own_c16i _)⟩
      · refine own_fw (A' := (s₁.setTop (mkF m 54 #[iv p1, iv (p1 &&& (3 : Int32)), iv ((p1.toUInt32 >>> ((2 : Int32) &&& 31).toUInt32).toInt32)] [.int ((((p1.toUInt32 >>> ((2 : Int32) &&& 31).toUInt32).toInt32) &&& (65535 : Int32)).toUInt32.toUInt16.toUInt32.toInt32)]))) (fun t k => XS.icmpYes X0.here hx rfl (pc0 := 36) (pc' := 49) rfl (hb hby d1_36) rfl (XT.ii_ne_t hc3) (by decide) (by decide) (XS.iloadN X0.here hx rfl (hb hby d1_49) rfl (X0.ldcInt hx hown (mvT hZ (own_w hw 5 rfl)) (g := (mkF m 50 #[iv p1, iv (p1 &&& (3 : Int32)), iv ((p1.toUInt32 >>> ((2 : Int32) &&& 31).toUInt32).toInt32)] [.int ((p1.toUInt32 >>> ((2 : Int32) &&& 31).toUInt32).toInt32)])) rfl (hb hby d1_50) _ (XS.iand X0.here hx rfl (hb hby d1_52) rfl (XS.i2c X0.here hx rfl (hb hby d1_53) rfl k))))) ?_
        obtain ⟨fs, hr, hrun, hended, hW, hsame⟩ := X0.leave (v := some (.int ((((p1.toUInt32 >>> ((2 : Int32) &&& 31).toUInt32).toInt32) &&& (65535 : Int32)).toUInt32.toUInt16.toUInt32.toInt32))) (fun h => by rw [Bd.returns] at h; cases h)
        refine ⟨_, _, ?_, hrun, hended, _, _, rfl, ?_, ⟨_, rfl⟩, hW, hsame.mono (by decide) (by decide)⟩
        · exact retOut X0 hx Bd.returns (own_narr16 (own_c16i _)) (Or.inl ⟨rfl, by simp, _, rfl⟩) (hb hby d1_54) hr
        · show Q_rmDraw Z p1 h0 n0 _ s₁.heap _
          rw [e0]
          exact ⟨((((p1.toUInt32 >>> ((2 : Int32) &&& 31).toUInt32).toInt32) &&& (65535 : Int32)).toUInt32.toUInt16.toUInt32.toInt32), rfl, N0, rfl, (own_c16i _)⟩
theorem d3_0 : decode method_3_code 0 = .ok (.iload_n 0, 1) := by decide +kernel
theorem d3_1 : decode method_3_code 1 = .ok (.ldc 7, 2) := by decide +kernel
theorem d3_3 : decode method_3_code 3 = .ok (.if_icmp .lt 13, 3) := by decide +kernel
theorem d3_16 : decode method_3_code 16 = .ok (.iconst 0, 1) := by decide +kernel
theorem d3_17 : decode method_3_code 17 = .ok (.ireturn, 1) := by decide +kernel
theorem d3_6 : decode method_3_code 6 = .ok (.iload_n 0, 1) := by decide +kernel
theorem d3_7 : decode method_3_code 7 = .ok (.ldc 10, 2) := by decide +kernel
theorem d3_9 : decode method_3_code 9 = .ok (.if_icmp .gt 7, 3) := by decide +kernel
theorem d3_12 : decode method_3_code 12 = .ok (.iconst 1, 1) := by decide +kernel
theorem d3_13 : decode method_3_code 13 = .ok (.goto 4, 3) := by decide +kernel
theorem ef_rmIsH (m : MethodId) (p1 : Int32) : entryFrame m #[(.int p1)] 1 = mkF m 0 #[.val (.int p1)] [] := by first | (simp [entryFrame, mkF, argsToLocals, Value.category]; done) | rfl
def Q_rmIsH (Z : State) (p1 : Int32) (h0 : Heap) (n0 : Nat) (v : Option Value) (h : Heap) (L : List Loc) : Prop := v = some (.int (own_hi p1)) ∧ Fr n0 L ∧ h = h0
theorem rmIsH (l : Launch) (Z : State) (a0 : Array Value) (hw : ∀ d ∈ tables_1, d.before a0 Z = true) (ws : List Jvm.Cond) (p1 : Int32) (h0 : Heap) (n0 : Nat) (Z0 : n0 ≤ h0.size)  :
    MetFree l yq47 (head1 (Jvm.Cond.code yq47 method_3_code 1 (some .boolean) :: ws) rq0) (fun a U => a = #[(.int p1)] ∧ Z.Warmed39 U.vm ∧ U.heap = h0) (fun _ _ _ _ _ => True) (fun _ U o U' => ∃ v L, o = .returned v ∧ Q_rmIsH Z p1 h0 n0 v U'.heap L ∧ FrameEnd U o U' L rq0.cells rq0.slots) := by
  refine MetFree.of_bodySF (plainFor_of_name pn_com_example_guarded_once_guardedonce_guard_MessageKeyOfPinLaw) hisR ?_
  intro p e s m args below meth c s₁ Bd hml0 hP hK
  obtain ⟨rfl, hZ, hh⟩ := hP
  have hx := Bd.exec
  have hby := Bd.bytes
  have hml : c.maxLocals = 1 := hml0
  have hown : s.vm.findClass "com/example/guarded_once/guardedonce/guard/MessageKeyOfPinLaw" = some m.cls := findClass_of_methodNamed Bd.named
  have hnm := (name_of_methodNamed Bd.named Bd.method).1
  have X0 : Stand p l e rq0 s m #[(.int p1)] below meth c s₁ [] 0 0 := Stand.of_body Bd
  have e0 : s₁.heap = h0 := by rw [← hh, Bd.state]; rfl
  have N0 := Fr.nil n0
  refine own_fw (A' := (s₁.setTop (mkF m 3 #[iv p1] [.int 55296, .int p1]))) (fun t k => castTop (ef_rmIsH m p1) (XS.iloadN X0.here hx rfl (hb hby d3_0) rfl (X0.ldcInt hx hown (mvT hZ (own_w hw 7 rfl)) (g := (mkF m 1 #[iv p1] [.int p1])) rfl (hb hby d3_1) _ k))) ?_
  by_cases hc1 : p1 < (55296 : Int32)
  · refine own_fw (A' := (s₁.setTop (mkF m 17 #[iv p1] [.int 0]))) (fun t k => XS.icmpYes X0.here hx rfl (pc0 := 3) (pc' := 16) rfl (hb hby d3_3) rfl (XT.ii_lt_t hc1) (by decide) (by decide) (XS.iconst X0.here hx rfl (hb hby d3_16) k)) ?_
    obtain ⟨fs, hr, hrun, hended, hW, hsame⟩ := X0.leave (v := some (.int 0)) (fun h => by rw [Bd.returns] at h; cases h)
    refine ⟨_, _, ?_, hrun, hended, _, _, rfl, ?_, ⟨_, rfl⟩, hW, hsame.mono (by decide) (by decide)⟩
    · exact retOut X0 hx Bd.returns rfl (Or.inl ⟨rfl, by simp, _, rfl⟩) (hb hby d3_17) hr
    · show Q_rmIsH Z p1 h0 n0 _ s₁.heap _
      rw [e0]
      exact ⟨(by simp only [own_hi, if_pos hc1]), N0, rfl⟩
  · refine own_fw (A' := (s₁.setTop (mkF m 9 #[iv p1] [.int 56319, .int p1]))) (fun t k => XS.icmpNo X0.here hx rfl (hb hby d3_3) rfl (XT.ii_lt_f hc1) (XS.iloadN X0.here hx rfl (hb hby d3_6) rfl (X0.ldcInt hx hown (mvT hZ (own_w hw 17 rfl)) (g := (mkF m 7 #[iv p1] [.int p1])) rfl (hb hby d3_7) _ k))) ?_
    by_cases hc2 : (56319 : Int32) < p1
    · refine own_fw (A' := (s₁.setTop (mkF m 17 #[iv p1] [.int 0]))) (fun t k => XS.icmpYes X0.here hx rfl (pc0 := 9) (pc' := 16) rfl (hb hby d3_9) rfl (XT.ii_gt_t hc2) (by decide) (by decide) (XS.iconst X0.here hx rfl (hb hby d3_16) k)) ?_
      obtain ⟨fs, hr, hrun, hended, hW, hsame⟩ := X0.leave (v := some (.int 0)) (fun h => by rw [Bd.returns] at h; cases h)
      refine ⟨_, _, ?_, hrun, hended, _, _, rfl, ?_, ⟨_, rfl⟩, hW, hsame.mono (by decide) (by decide)⟩
      · exact retOut X0 hx Bd.returns rfl (Or.inl ⟨rfl, by simp, _, rfl⟩) (hb hby d3_17) hr
      · show Q_rmIsH Z p1 h0 n0 _ s₁.heap _
        rw [e0]
        exact ⟨(by simp only [own_hi, if_neg hc1, if_pos hc2]), N0, rfl⟩
    · refine own_fw (A' := (s₁.setTop (mkF m 17 #[iv p1] [.int 1]))) (fun t k => XS.icmpNo X0.here hx rfl (hb hby d3_9) rfl (XT.ii_gt_f hc2) (XS.iconst X0.here hx rfl (hb hby d3_12) (XS.goto X0.here hx rfl (pc0 := 13) (pc' := 17) rfl (hb hby d3_13) (by decide) (by decide) k))) ?_
      obtain ⟨fs, hr, hrun, hended, hW, hsame⟩ := X0.leave (v := some (.int 1)) (fun h => by rw [Bd.returns] at h; cases h)
      refine ⟨_, _, ?_, hrun, hended, _, _, rfl, ?_, ⟨_, rfl⟩, hW, hsame.mono (by decide) (by decide)⟩
      · exact retOut X0 hx Bd.returns rfl (Or.inl ⟨rfl, by simp, _, rfl⟩) (hb hby d3_17) hr
      · show Q_rmIsH Z p1 h0 n0 _ s₁.heap _
        rw [e0]
        exact ⟨(by simp only [own_hi, if_neg hc1, if_neg hc2]), N0, rfl⟩
theorem d4_0 : decode method_4_code 0 = .ok (.iload_n 0, 1) := by decide +kernel
theorem d4_1 : decode method_4_code 1 = .ok (.ldc 8, 2) := by decide +kernel
theorem d4_3 : decode method_4_code 3 = .ok (.if_icmp .lt 13, 3) := by decide +kernel
theorem d4_16 : decode method_4_code 16 = .ok (.iconst 0, 1) := by decide +kernel
theorem d4_17 : decode method_4_code 17 = .ok (.ireturn, 1) := by decide +kernel
theorem d4_6 : decode method_4_code 6 = .ok (.iload_n 0, 1) := by decide +kernel
theorem d4_7 : decode method_4_code 7 = .ok (.ldc 11, 2) := by decide +kernel
theorem d4_9 : decode method_4_code 9 = .ok (.if_icmp .gt 7, 3) := by decide +kernel
theorem d4_12 : decode method_4_code 12 = .ok (.iconst 1, 1) := by decide +kernel
theorem d4_13 : decode method_4_code 13 = .ok (.goto 4, 3) := by decide +kernel
theorem ef_rmIsL (m : MethodId) (p1 : Int32) : entryFrame m #[(.int p1)] 1 = mkF m 0 #[.val (.int p1)] [] := by first | (simp [entryFrame, mkF, argsToLocals, Value.category]; done) | rfl
def Q_rmIsL (Z : State) (p1 : Int32) (h0 : Heap) (n0 : Nat) (v : Option Value) (h : Heap) (L : List Loc) : Prop := v = some (.int (own_lw p1)) ∧ Fr n0 L ∧ h = h0
theorem rmIsL (l : Launch) (Z : State) (a0 : Array Value) (hw : ∀ d ∈ tables_1, d.before a0 Z = true) (ws : List Jvm.Cond) (p1 : Int32) (h0 : Heap) (n0 : Nat) (Z0 : n0 ≤ h0.size)  :
    MetFree l yq48 (head1 (Jvm.Cond.code yq48 method_4_code 1 (some .boolean) :: ws) rq0) (fun a U => a = #[(.int p1)] ∧ Z.Warmed39 U.vm ∧ U.heap = h0) (fun _ _ _ _ _ => True) (fun _ U o U' => ∃ v L, o = .returned v ∧ Q_rmIsL Z p1 h0 n0 v U'.heap L ∧ FrameEnd U o U' L rq0.cells rq0.slots) := by
  refine MetFree.of_bodySF (plainFor_of_name pn_com_example_guarded_once_guardedonce_guard_MessageKeyOfPinLaw) hisR ?_
  intro p e s m args below meth c s₁ Bd hml0 hP hK
  obtain ⟨rfl, hZ, hh⟩ := hP
  have hx := Bd.exec
  have hby := Bd.bytes
  have hml : c.maxLocals = 1 := hml0
  have hown : s.vm.findClass "com/example/guarded_once/guardedonce/guard/MessageKeyOfPinLaw" = some m.cls := findClass_of_methodNamed Bd.named
  have hnm := (name_of_methodNamed Bd.named Bd.method).1
  have X0 : Stand p l e rq0 s m #[(.int p1)] below meth c s₁ [] 0 0 := Stand.of_body Bd
  have e0 : s₁.heap = h0 := by rw [← hh, Bd.state]; rfl
  have N0 := Fr.nil n0
  refine own_fw (A' := (s₁.setTop (mkF m 3 #[iv p1] [.int 56320, .int p1]))) (fun t k => castTop (ef_rmIsL m p1) (XS.iloadN X0.here hx rfl (hb hby d4_0) rfl (X0.ldcInt hx hown (mvT hZ (own_w hw 6 rfl)) (g := (mkF m 1 #[iv p1] [.int p1])) rfl (hb hby d4_1) _ k))) ?_
  by_cases hc1 : p1 < (56320 : Int32)
  · refine own_fw (A' := (s₁.setTop (mkF m 17 #[iv p1] [.int 0]))) (fun t k => XS.icmpYes X0.here hx rfl (pc0 := 3) (pc' := 16) rfl (hb hby d4_3) rfl (XT.ii_lt_t hc1) (by decide) (by decide) (XS.iconst X0.here hx rfl (hb hby d4_16) k)) ?_
    obtain ⟨fs, hr, hrun, hended, hW, hsame⟩ := X0.leave (v := some (.int 0)) (fun h => by rw [Bd.returns] at h; cases h)
    refine ⟨_, _, ?_, hrun, hended, _, _, rfl, ?_, ⟨_, rfl⟩, hW, hsame.mono (by decide) (by decide)⟩
    · exact retOut X0 hx Bd.returns rfl (Or.inl ⟨rfl, by simp, _, rfl⟩) (hb hby d4_17) hr
    · show Q_rmIsL Z p1 h0 n0 _ s₁.heap _
      rw [e0]
      exact ⟨(by simp only [own_lw, if_pos hc1]), N0, rfl⟩
  · refine own_fw (A' := (s₁.setTop (mkF m 9 #[iv p1] [.int 57343, .int p1]))) (fun t k => XS.icmpNo X0.here hx rfl (hb hby d4_3) rfl (XT.ii_lt_f hc1) (XS.iloadN X0.here hx rfl (hb hby d4_6) rfl (X0.ldcInt hx hown (mvT hZ (own_w hw 18 rfl)) (g := (mkF m 7 #[iv p1] [.int p1])) rfl (hb hby d4_7) _ k))) ?_
    by_cases hc2 : (57343 : Int32) < p1
    · refine own_fw (A' := (s₁.setTop (mkF m 17 #[iv p1] [.int 0]))) (fun t k => XS.icmpYes X0.here hx rfl (pc0 := 9) (pc' := 16) rfl (hb hby d4_9) rfl (XT.ii_gt_t hc2) (by decide) (by decide) (XS.iconst X0.here hx rfl (hb hby d4_16) k)) ?_
      obtain ⟨fs, hr, hrun, hended, hW, hsame⟩ := X0.leave (v := some (.int 0)) (fun h => by rw [Bd.returns] at h; cases h)
      refine ⟨_, _, ?_, hrun, hended, _, _, rfl, ?_, ⟨_, rfl⟩, hW, hsame.mono (by decide) (by decide)⟩
      · exact retOut X0 hx Bd.returns rfl (Or.inl ⟨rfl, by simp, _, rfl⟩) (hb hby d4_17) hr
      · show Q_rmIsL Z p1 h0 n0 _ s₁.heap _
        rw [e0]
        exact ⟨(by simp only [own_lw, if_neg hc1, if_pos hc2]), N0, rfl⟩
    · refine own_fw (A' := (s₁.setTop (mkF m 17 #[iv p1] [.int 1]))) (fun t k => XS.icmpNo X0.here hx rfl (hb hby d4_9) rfl (XT.ii_gt_f hc2) (XS.iconst X0.here hx rfl (hb hby d4_12) (XS.goto X0.here hx rfl (pc0 := 13) (pc' := 17) rfl (hb hby d4_13) (by decide) (by decide) k))) ?_
      obtain ⟨fs, hr, hrun, hended, hW, hsame⟩ := X0.leave (v := some (.int 1)) (fun h => by rw [Bd.returns] at h; cases h)
      refine ⟨_, _, ?_, hrun, hended, _, _, rfl, ?_, ⟨_, rfl⟩, hW, hsame.mono (by decide) (by decide)⟩
      · exact retOut X0 hx Bd.returns rfl (Or.inl ⟨rfl, by simp, _, rfl⟩) (hb hby d4_17) hr
      · show Q_rmIsL Z p1 h0 n0 _ s₁.heap _
        rw [e0]
        exact ⟨(by simp only [own_lw, if_neg hc1, if_neg hc2]), N0, rfl⟩
theorem d2_0 : decode method_5_code 0 = .ok (.iload_n 2, 1) := by decide +kernel
theorem d2_1 : decode method_5_code 1 = .ok (.iload_n 1, 1) := by decide +kernel
theorem d2_2 : decode method_5_code 2 = .ok (.if_icmp .lt 5, 3) := by decide +kernel
theorem d2_7 : decode method_5_code 7 = .ok (.aload_n 0, 1) := by decide +kernel
theorem d2_8 : decode method_5_code 8 = .ok (.iload_n 2, 1) := by decide +kernel
theorem d2_9 : decode method_5_code 9 = .ok (.caload, 1) := by decide +kernel
theorem d2_10 : decode method_5_code 10 = .ok (.istore_n 3, 1) := by decide +kernel
theorem d2_11 : decode method_5_code 11 = .ok (.iload_n 3, 1) := by decide +kernel
theorem d2_12 : decode method_5_code 12 = .ok (.ifCond .ne 5, 3) := by decide +kernel
theorem d2_15 : decode method_5_code 15 = .ok (.iconst 0, 1) := by decide +kernel
theorem d2_16 : decode method_5_code 16 = .ok (.ireturn, 1) := by decide +kernel
theorem d2_17 : decode method_5_code 17 = .ok (.iload_n 3, 1) := by decide +kernel
theorem d2_18 : decode method_5_code 18 = .ok (.invokestatic 12, 3) := by decide +kernel
theorem pd__C_Z : parseMethodDescriptor "(C)Z" = some ⟨[.char], some .boolean⟩ := by decide +kernel
theorem d2_21 : decode method_5_code 21 = .ok (.ifCond .eq 27, 3) := by decide +kernel
theorem d2_48 : decode method_5_code 48 = .ok (.iload_n 3, 1) := by decide +kernel
theorem d2_49 : decode method_5_code 49 = .ok (.invokestatic 18, 3) := by decide +kernel
theorem d2_52 : decode method_5_code 52 = .ok (.ifCond .eq 25, 3) := by decide +kernel
theorem d2_77 : decode method_5_code 77 = .ok (.iconst 1, 1) := by decide +kernel
theorem d2_78 : decode method_5_code 78 = .ok (.ireturn, 1) := by decide +kernel
theorem d2_55 : decode method_5_code 55 = .ok (.iload_n 2, 1) := by decide +kernel
theorem d2_56 : decode method_5_code 56 = .ok (.iconst 1, 1) := by decide +kernel
theorem d2_57 : decode method_5_code 57 = .ok (.if_icmp .lt 18, 3) := by decide +kernel
theorem d2_75 : decode method_5_code 75 = .ok (.iconst 0, 1) := by decide +kernel
theorem d2_76 : decode method_5_code 76 = .ok (.ireturn, 1) := by decide +kernel
theorem d2_24 : decode method_5_code 24 = .ok (.iload_n 2, 1) := by decide +kernel
theorem d2_25 : decode method_5_code 25 = .ok (.iconst 1, 1) := by decide +kernel
theorem d2_26 : decode method_5_code 26 = .ok (.iadd, 1) := by decide +kernel
theorem d2_27 : decode method_5_code 27 = .ok (.iload_n 1, 1) := by decide +kernel
theorem d2_28 : decode method_5_code 28 = .ok (.if_icmp .ge 18, 3) := by decide +kernel
theorem d2_31 : decode method_5_code 31 = .ok (.aload_n 0, 1) := by decide +kernel
theorem d2_32 : decode method_5_code 32 = .ok (.iload_n 2, 1) := by decide +kernel
theorem d2_33 : decode method_5_code 33 = .ok (.iconst 1, 1) := by decide +kernel
theorem d2_34 : decode method_5_code 34 = .ok (.iadd, 1) := by decide +kernel
theorem d2_35 : decode method_5_code 35 = .ok (.caload, 1) := by decide +kernel
theorem d2_36 : decode method_5_code 36 = .ok (.invokestatic 18, 3) := by decide +kernel
theorem d2_39 : decode method_5_code 39 = .ok (.ifCond .eq 7, 3) := by decide +kernel
theorem d2_46 : decode method_5_code 46 = .ok (.iconst 0, 1) := by decide +kernel
theorem d2_47 : decode method_5_code 47 = .ok (.ireturn, 1) := by decide +kernel
theorem d2_42 : decode method_5_code 42 = .ok (.iconst 1, 1) := by decide +kernel
theorem d2_43 : decode method_5_code 43 = .ok (.goto 4, 3) := by decide +kernel
theorem d2_5 : decode method_5_code 5 = .ok (.iconst 1, 1) := by decide +kernel
theorem d2_6 : decode method_5_code 6 = .ok (.ireturn, 1) := by decide +kernel
theorem ef_rmOk0 (m : MethodId) (a1 : Addr) (nn : Int32) : entryFrame m #[(.ref a1), (.int nn), (.int 0)] 4 = mkF m 0 #[.val (.ref a1), .val (.int nn), .val (.int 0), .unset] [] := by first | (simp [entryFrame, mkF, argsToLocals, Value.category]; done) | rfl
def Q_rmOk0 (Z : State) (a1 : Addr) (kc : ClassId) (nn c0 c1 c2 c3 : Int32) (h0 : Heap) (n0 : Nat) (v : Option Value) (h : Heap) (L : List Loc) : Prop := v = some (.int (own_oka nn (0 : Int32) (1 : Int32) c0 c1 (0 : Int32))) ∧ Fr n0 L ∧ h = h0
theorem rmOk0 (l : Launch) (Z : State) (a0 : Array Value) (hw : ∀ d ∈ tables_1, d.before a0 Z = true) (ws : List Jvm.Cond) (a1 : Addr) (kc : ClassId) (nn c0 c1 c2 c3 : Int32) (h0 : Heap) (n0 : Nat) (Z0 : n0 ≤ h0.size) (P0 : Arv Z h0 a1 kc .char (4 : Int32) [(.int c0), (.int c1), (.int c2), (.int c3)] (.int 0)) :
    MetFree l yq50 (head1 (Jvm.Cond.code yq50 method_5_code 4 (some .boolean) :: ws) rq49) (fun a U => a = #[(.ref a1), (.int nn), (.int 0)] ∧ Z.Warmed39 U.vm ∧ U.heap = h0) (fun _ _ _ _ _ => True) (fun _ U o U' => ∃ v L, o = .returned v ∧ Q_rmOk0 Z a1 kc nn c0 c1 c2 c3 h0 n0 v U'.heap L ∧ FrameEnd U o U' L rq49.cells rq49.slots) := by
  refine MetFree.of_bodySF (plainFor_of_name pn_com_example_guarded_once_guardedonce_guard_MessageKeyOfPinLaw) hisR ?_
  intro p e s m args below meth c s₁ Bd hml0 hP hK
  obtain ⟨rfl, hZ, hh⟩ := hP
  have hx := Bd.exec
  have hby := Bd.bytes
  have hml : c.maxLocals = 4 := hml0
  have hown : s.vm.findClass "com/example/guarded_once/guardedonce/guard/MessageKeyOfPinLaw" = some m.cls := findClass_of_methodNamed Bd.named
  have hnm := (name_of_methodNamed Bd.named Bd.method).1
  have X0 : Stand p l e rq49 s m #[(.ref a1), (.int nn), (.int 0)] below meth c s₁ [] 0 0 := Stand.of_body Bd
  have e0 : s₁.heap = h0 := by rw [← hh, Bd.state]; rfl
  have N0 := Fr.nil n0
  refine own_fw (A' := (s₁.setTop (mkF m 2 #[rv a1, iv nn, iv 0, .unset] [.int nn, .int 0]))) (fun t k => castTop (ef_rmOk0 m a1 nn) (XS.iloadN X0.here hx rfl (hb hby d2_0) rfl (XS.iloadN X0.here hx rfl (hb hby d2_1) rfl k))) ?_
  by_cases hc1 : (0 : Int32) < nn
  · refine own_fw (A' := (s₁.setTop (mkF m 9 #[rv a1, iv nn, iv 0, .unset] [.int 0, .ref a1]))) (fun t k => XS.icmpYes X0.here hx rfl (pc0 := 2) (pc' := 7) rfl (hb hby d2_2) rfl (XT.ii_lt_t hc1) (by decide) (by decide) (XS.aloadN X0.here hx rfl (hb hby d2_7) rfl rfl (XS.iloadN X0.here hx rfl (hb hby d2_8) rfl k))) ?_
    obtain ⟨cl2, Ar2, q2, S2, M2, H2, G2⟩ := id P0
    have hin2 : ¬ ((0 : Int32) < 0 ∨ cl2.slots.size ≤ ((0 : Int32)).toNatClampNeg) := inb_of S2 ⟨by decide, by decide⟩
    have hat2 : cl2.slots[((0 : Int32)).toNatClampNeg]? = some (.int c0) := H2.at hin2 rfl
    refine own_fw (A' := (s₁.setTop (mkF m 12 #[rv a1, iv nn, iv 0, iv c0] [.int c0]))) (fun t k => X0.caload hx (j := (0 : Int32)) (v := (.int c0)) (by rw [e0]; exact Ar2.1) (State.isArrayOf_alike hZ.alike Ar2.2.1) Ar2.2.2 hin2 hat2 (g := (mkF m 9 #[rv a1, iv nn, iv 0, .unset] [.int 0, .ref a1])) rfl rfl (hb hby d2_9) _ (XS.istoreN X0.here hx rfl (hb hby d2_10) rfl (l' := #[rv a1, iv nn, iv 0, iv c0]) rfl (XS.iloadN X0.here hx rfl (hb hby d2_11) rfl k))) ?_
    by_cases hc3 : c0 = (0 : Int32)
    · refine own_fw (A' := (s₁.setTop (mkF m 16 #[rv a1, iv nn, iv 0, iv c0] [.int 0]))) (fun t k => XS.ifNo X0.here hx rfl (hb hby d2_12) rfl (XT.i0_ne_f hc3) (XS.iconst X0.here hx rfl (hb hby d2_15) k)) ?_
      obtain ⟨fs, hr, hrun, hended, hW, hsame⟩ := X0.leave (v := some (.int 0)) (fun h => by rw [Bd.returns] at h; cases h)
      refine ⟨_, _, ?_, hrun, hended, _, _, rfl, ?_, ⟨_, rfl⟩, hW, hsame.mono (by decide) (by decide)⟩
      · exact retOut X0 hx Bd.returns rfl (Or.inl ⟨rfl, by simp, _, rfl⟩) (hb hby d2_16) hr
      · show Q_rmOk0 Z a1 kc nn c0 c1 c2 c3 h0 n0 _ s₁.heap _
        rw [e0]
        exact ⟨(by simp only [own_oka, own_ok, own_t, if_pos hc1, if_pos hc3]), N0, rfl⟩
    · refine own_fw (A' := (s₁.setTop (mkF m 18 #[rv a1, iv nn, iv 0, iv c0] [.int c0]))) (fun t k => XS.ifYes X0.here hx rfl (pc0 := 12) (pc' := 17) rfl (hb hby d2_12) rfl (XT.i0_ne_t hc3) (by decide) (by decide) (XS.iloadN X0.here hx rfl (hb hby d2_17) rfl k)) ?_
      obtain ⟨_, _, ⟨T4, L4, k4, n4⟩, -, X4, ⟨Lc4, hQ4, l4, y4, z4⟩, st4⟩ := Jvm.LawKit.callS X0 hx (y := yq47) hown (mvT hZ (own_w hw 11 rfl)) (mvT hZ (own_w hw 12 rfl)) (mvT hZ (own_w hw 3 rfl)) (mvT hZ (own_w hw 13 rfl)) (by decide) (backOf (W := 0) (rmIsH l Z a0 hw [] c0 h0 n0 Z0 ) hZ (own_w hw 13 rfl) (own_w hw 3 rfl) (by decide) (by decide)) (g := (mkF m 18 #[rv a1, iv nn, iv 0, iv c0] [.int c0])) rfl (by rw [hml]; rfl) (argsL := [(.int c0)]) (rest := []) (lenOf pd__C_Z rfl) rfl (by show 2 * 0 + _ ≤ _; exact Nat.le_of_eq rfl) (hb hby d2_18) (fun _ _ => ⟨rfl, e0, (by decide : 0 + 0 ≤ _), (by decide : 0 + 0 ≤ _)⟩)
      dsimp only [Pt.U, Pt.locs, Pt.cells, Pt.slots] at X4 l4 y4 z4 st4 hQ4
      subst l4 y4 z4
      obtain ⟨rfl, Nq4, e4⟩ := hQ4
      have Nf4 := Fr.app N0 Nq4
      refine own_fw (A' := (T4.setTop (mkF m 21 #[rv a1, iv nn, iv 0, iv c0] [.int (own_hi c0)]))) (fun t k => st4 _ k) ?_
      by_cases hc5 : (own_hi c0) = (0 : Int32)
      · refine own_fw (A' := (T4.setTop (mkF m 49 #[rv a1, iv nn, iv 0, iv c0] [.int c0]))) (fun t k => XS.ifYes X4.here hx rfl (pc0 := 21) (pc' := 48) rfl (hb hby d2_21) rfl (XT.i0_eq_t hc5) (by decide) (by decide) (XS.iloadN X4.here hx rfl (hb hby d2_48) rfl k)) ?_
        obtain ⟨_, _, ⟨T6, L6, k6, n6⟩, -, X6, ⟨Lc6, hQ6, l6, y6, z6⟩, st6⟩ := Jvm.LawKit.callS X4 hx (y := yq48) hown (mvT hZ (own_w hw 14 rfl)) (mvT hZ (own_w hw 15 rfl)) (mvT hZ (own_w hw 3 rfl)) (mvT hZ (own_w hw 16 rfl)) (by decide) (backOf (W := 0) (rmIsL l Z a0 hw [] c0 h0 n0 Z0 ) hZ (own_w hw 16 rfl) (own_w hw 3 rfl) (by decide) (by decide)) (g := (mkF m 49 #[rv a1, iv nn, iv 0, iv c0] [.int c0])) rfl (by rw [hml]; rfl) (argsL := [(.int c0)]) (rest := []) (lenOf pd__C_Z rfl) rfl (by show 2 * 0 + _ ≤ _; exact Nat.le_of_eq rfl) (hb hby d2_49) (fun _ _ => ⟨rfl, e4, (by decide : 0 + 0 ≤ _), (by decide : 0 + 0 ≤ _)⟩)
        dsimp only [Pt.U, Pt.locs, Pt.cells, Pt.slots] at X6 l6 y6 z6 st6 hQ6
        subst l6 y6 z6
        obtain ⟨rfl, Nq6, e6⟩ := hQ6
        have Nf6 := Fr.app Nf4 Nq6
        refine own_fw (A' := (T6.setTop (mkF m 52 #[rv a1, iv nn, iv 0, iv c0] [.int (own_lw c0)]))) (fun t k => st6 _ k) ?_
        by_cases hc7 : (own_lw c0) = (0 : Int32)
        · refine own_fw (A' := (T6.setTop (mkF m 78 #[rv a1, iv nn, iv 0, iv c0] [.int 1]))) (fun t k => XS.ifYes X6.here hx rfl (pc0 := 52) (pc' := 77) rfl (hb hby d2_52) rfl (XT.i0_eq_t hc7) (by decide) (by decide) (XS.iconst X6.here hx rfl (hb hby d2_77) k)) ?_
          obtain ⟨fs, hr, hrun, hended, hW, hsame⟩ := X6.leave (v := some (.int 1)) (fun h => by rw [Bd.returns] at h; cases h)
          refine ⟨_, _, ?_, hrun, hended, _, _, rfl, ?_, ⟨_, rfl⟩, hW, hsame.mono (by decide) (by decide)⟩
          · exact retOut X6 hx Bd.returns rfl (Or.inl ⟨rfl, by simp, _, rfl⟩) (hb hby d2_78) hr
          · show Q_rmOk0 Z a1 kc nn c0 c1 c2 c3 h0 n0 _ T6.heap _
            rw [e6]
            exact ⟨(by simp only [own_oka, own_ok, own_t, if_pos hc1, if_neg hc3, if_pos hc5, if_pos hc7]), Nf6, rfl⟩
        · refine own_fw (A' := (T6.setTop (mkF m 76 #[rv a1, iv nn, iv 0, iv c0] [.int 0]))) (fun t k => XS.ifNo X6.here hx rfl (hb hby d2_52) rfl (XT.i0_eq_f hc7) (XS.iloadN X6.here hx rfl (hb hby d2_55) rfl (XS.iconst X6.here hx rfl (hb hby d2_56) (XS.icmpYes X6.here hx rfl (pc0 := 57) (pc' := 75) rfl (hb hby d2_57) rfl (XT.ii_lt_t (by decide)) (by decide) (by decide) (XS.iconst X6.here hx rfl (hb hby d2_75) k))))) ?_
          obtain ⟨fs, hr, hrun, hended, hW, hsame⟩ := X6.leave (v := some (.int 0)) (fun h => by rw [Bd.returns] at h; cases h)
          refine ⟨_, _, ?_, hrun, hended, _, _, rfl, ?_, ⟨_, rfl⟩, hW, hsame.mono (by decide) (by decide)⟩
          · exact retOut X6 hx Bd.returns rfl (Or.inl ⟨rfl, by simp, _, rfl⟩) (hb hby d2_76) hr
          · show Q_rmOk0 Z a1 kc nn c0 c1 c2 c3 h0 n0 _ T6.heap _
            rw [e6]
            exact ⟨(by simp only [own_oka, own_ok, own_t, if_pos hc1, if_neg hc3, if_pos hc5, if_neg hc7]), Nf6, rfl⟩
      · refine own_fw (A' := (T4.setTop (mkF m 28 #[rv a1, iv nn, iv 0, iv c0] [.int nn, .int 1]))) (fun t k => XS.ifNo X4.here hx rfl (hb hby d2_21) rfl (XT.i0_eq_f hc5) (XS.iloadN X4.here hx rfl (hb hby d2_24) rfl (XS.iconst X4.here hx rfl (hb hby d2_25) (XS.iadd X4.here hx rfl (hb hby d2_26) rfl (XS.iloadN X4.here hx rfl (hb hby d2_27) rfl k))))) ?_
        by_cases hc8 : (1 : Int32) < nn
        · refine own_fw (A' := (T4.setTop (mkF m 35 #[rv a1, iv nn, iv 0, iv c0] [.int 1, .ref a1]))) (fun t k => XS.icmpNo X4.here hx rfl (hb hby d2_28) rfl (XT.ii_ge_f hc8) (XS.aloadN X4.here hx rfl (hb hby d2_31) rfl rfl (XS.iloadN X4.here hx rfl (hb hby d2_32) rfl (XS.iconst X4.here hx rfl (hb hby d2_33) (XS.iadd X4.here hx rfl (hb hby d2_34) rfl k))))) ?_
          obtain ⟨cl9, Ar9, q9, S9, M9, H9, G9⟩ := id P0
          have hin9 : ¬ ((1 : Int32) < 0 ∨ cl9.slots.size ≤ ((1 : Int32)).toNatClampNeg) := inb_of S9 ⟨by decide, by decide⟩
          have hat9 : cl9.slots[((1 : Int32)).toNatClampNeg]? = some (.int c1) := H9.at hin9 rfl
          refine own_fw (A' := (T4.setTop (mkF m 36 #[rv a1, iv nn, iv 0, iv c0] [.int c1]))) (fun t k => X4.caload hx (j := (1 : Int32)) (v := (.int c1)) (by rw [e4]; exact Ar9.1) (State.isArrayOf_alike hZ.alike Ar9.2.1) Ar9.2.2 hin9 hat9 (g := (mkF m 35 #[rv a1, iv nn, iv 0, iv c0] [.int 1, .ref a1])) rfl rfl (hb hby d2_35) _ k) ?_
          obtain ⟨_, _, ⟨T10, L10, k10, n10⟩, -, X10, ⟨Lc10, hQ10, l10, y10, z10⟩, st10⟩ := Jvm.LawKit.callS X4 hx (y := yq48) hown (mvT hZ (own_w hw 14 rfl)) (mvT hZ (own_w hw 15 rfl)) (mvT hZ (own_w hw 3 rfl)) (mvT hZ (own_w hw 16 rfl)) (by decide) (backOf (W := 0) (rmIsL l Z a0 hw [] c1 h0 n0 Z0 ) hZ (own_w hw 16 rfl) (own_w hw 3 rfl) (by decide) (by decide)) (g := (mkF m 36 #[rv a1, iv nn, iv 0, iv c0] [.int c1])) rfl (by rw [hml]; rfl) (argsL := [(.int c1)]) (rest := []) (lenOf pd__C_Z rfl) rfl (by show 2 * 0 + _ ≤ _; exact Nat.le_of_eq rfl) (hb hby d2_36) (fun _ _ => ⟨rfl, e4, (by decide : 0 + 0 ≤ _), (by decide : 0 + 0 ≤ _)⟩)
          dsimp only [Pt.U, Pt.locs, Pt.cells, Pt.slots] at X10 l10 y10 z10 st10 hQ10
          subst l10 y10 z10
          obtain ⟨rfl, Nq10, e10⟩ := hQ10
          have Nf10 := Fr.app Nf4 Nq10
          refine own_fw (A' := (T10.setTop (mkF m 39 #[rv a1, iv nn, iv 0, iv c0] [.int (own_lw c1)]))) (fun t k => st10 _ k) ?_
          by_cases hc11 : (own_lw c1) = (0 : Int32)
          · refine own_fw (A' := (T10.setTop (mkF m 47 #[rv a1, iv nn, iv 0, iv c0] [.int 0]))) (fun t k => XS.ifYes X10.here hx rfl (pc0 := 39) (pc' := 46) rfl (hb hby d2_39) rfl (XT.i0_eq_t hc11) (by decide) (by decide) (XS.iconst X10.here hx rfl (hb hby d2_46) k)) ?_
            obtain ⟨fs, hr, hrun, hended, hW, hsame⟩ := X10.leave (v := some (.int 0)) (fun h => by rw [Bd.returns] at h; cases h)
            refine ⟨_, _, ?_, hrun, hended, _, _, rfl, ?_, ⟨_, rfl⟩, hW, hsame.mono (by decide) (by decide)⟩
            · exact retOut X10 hx Bd.returns rfl (Or.inl ⟨rfl, by simp, _, rfl⟩) (hb hby d2_47) hr
            · show Q_rmOk0 Z a1 kc nn c0 c1 c2 c3 h0 n0 _ T10.heap _
              rw [e10]
              exact ⟨(by simp only [own_oka, own_ok, own_t, if_pos hc1, if_neg hc3, if_neg hc5, if_pos hc8, if_pos hc11]), Nf10, rfl⟩
          · refine own_fw (A' := (T10.setTop (mkF m 47 #[rv a1, iv nn, iv 0, iv c0] [.int 1]))) (fun t k => XS.ifNo X10.here hx rfl (hb hby d2_39) rfl (XT.i0_eq_f hc11) (XS.iconst X10.here hx rfl (hb hby d2_42) (XS.goto X10.here hx rfl (pc0 := 43) (pc' := 47) rfl (hb hby d2_43) (by decide) (by decide) k))) ?_
            obtain ⟨fs, hr, hrun, hended, hW, hsame⟩ := X10.leave (v := some (.int 1)) (fun h => by rw [Bd.returns] at h; cases h)
            refine ⟨_, _, ?_, hrun, hended, _, _, rfl, ?_, ⟨_, rfl⟩, hW, hsame.mono (by decide) (by decide)⟩
            · exact retOut X10 hx Bd.returns rfl (Or.inl ⟨rfl, by simp, _, rfl⟩) (hb hby d2_47) hr
            · show Q_rmOk0 Z a1 kc nn c0 c1 c2 c3 h0 n0 _ T10.heap _
              rw [e10]
              exact ⟨(by simp only [own_oka, own_ok, own_t, if_pos hc1, if_neg hc3, if_neg hc5, if_pos hc8, if_neg hc11]), Nf10, rfl⟩
        · refine own_fw (A' := (T4.setTop (mkF m 47 #[rv a1, iv nn, iv 0, iv c0] [.int 0]))) (fun t k => XS.icmpYes X4.here hx rfl (pc0 := 28) (pc' := 46) rfl (hb hby d2_28) rfl (XT.ii_ge_t hc8) (by decide) (by decide) (XS.iconst X4.here hx rfl (hb hby d2_46) k)) ?_
          obtain ⟨fs, hr, hrun, hended, hW, hsame⟩ := X4.leave (v := some (.int 0)) (fun h => by rw [Bd.returns] at h; cases h)
          refine ⟨_, _, ?_, hrun, hended, _, _, rfl, ?_, ⟨_, rfl⟩, hW, hsame.mono (by decide) (by decide)⟩
          · exact retOut X4 hx Bd.returns rfl (Or.inl ⟨rfl, by simp, _, rfl⟩) (hb hby d2_47) hr
          · show Q_rmOk0 Z a1 kc nn c0 c1 c2 c3 h0 n0 _ T4.heap _
            rw [e4]
            exact ⟨(by simp only [own_oka, own_ok, own_t, if_pos hc1, if_neg hc3, if_neg hc5, if_neg hc8]), Nf4, rfl⟩
  · refine own_fw (A' := (s₁.setTop (mkF m 6 #[rv a1, iv nn, iv 0, .unset] [.int 1]))) (fun t k => XS.icmpNo X0.here hx rfl (hb hby d2_2) rfl (XT.ii_lt_f hc1) (XS.iconst X0.here hx rfl (hb hby d2_5) k)) ?_
    obtain ⟨fs, hr, hrun, hended, hW, hsame⟩ := X0.leave (v := some (.int 1)) (fun h => by rw [Bd.returns] at h; cases h)
    refine ⟨_, _, ?_, hrun, hended, _, _, rfl, ?_, ⟨_, rfl⟩, hW, hsame.mono (by decide) (by decide)⟩
    · exact retOut X0 hx Bd.returns rfl (Or.inl ⟨rfl, by simp, _, rfl⟩) (hb hby d2_6) hr
    · show Q_rmOk0 Z a1 kc nn c0 c1 c2 c3 h0 n0 _ s₁.heap _
      rw [e0]
      exact ⟨(by simp only [own_oka, own_ok, own_t, if_neg hc1]), N0, rfl⟩
theorem d2_60 : decode method_5_code 60 = .ok (.aload_n 0, 1) := by decide +kernel
theorem d2_61 : decode method_5_code 61 = .ok (.iload_n 2, 1) := by decide +kernel
theorem d2_62 : decode method_5_code 62 = .ok (.iconst 1, 1) := by decide +kernel
theorem d2_63 : decode method_5_code 63 = .ok (.isub, 1) := by decide +kernel
theorem d2_64 : decode method_5_code 64 = .ok (.caload, 1) := by decide +kernel
theorem d2_65 : decode method_5_code 65 = .ok (.invokestatic 12, 3) := by decide +kernel
theorem d2_68 : decode method_5_code 68 = .ok (.ifCond .eq 7, 3) := by decide +kernel
theorem d2_71 : decode method_5_code 71 = .ok (.iconst 1, 1) := by decide +kernel
theorem d2_72 : decode method_5_code 72 = .ok (.goto 4, 3) := by decide +kernel
theorem ef_rmOk1 (m : MethodId) (a1 : Addr) (nn : Int32) : entryFrame m #[(.ref a1), (.int nn), (.int 1)] 4 = mkF m 0 #[.val (.ref a1), .val (.int nn), .val (.int 1), .unset] [] := by first | (simp [entryFrame, mkF, argsToLocals, Value.category]; done) | rfl
def Q_rmOk1 (Z : State) (a1 : Addr) (kc : ClassId) (nn c0 c1 c2 c3 : Int32) (h0 : Heap) (n0 : Nat) (v : Option Value) (h : Heap) (L : List Loc) : Prop := v = some (.int (own_oka nn (1 : Int32) (2 : Int32) c1 c2 (own_t (own_hi c0)))) ∧ Fr n0 L ∧ h = h0
theorem rmOk1 (l : Launch) (Z : State) (a0 : Array Value) (hw : ∀ d ∈ tables_1, d.before a0 Z = true) (ws : List Jvm.Cond) (a1 : Addr) (kc : ClassId) (nn c0 c1 c2 c3 : Int32) (h0 : Heap) (n0 : Nat) (Z0 : n0 ≤ h0.size) (P0 : Arv Z h0 a1 kc .char (4 : Int32) [(.int c0), (.int c1), (.int c2), (.int c3)] (.int 0)) :
    MetFree l yq50 (head1 (Jvm.Cond.code yq50 method_5_code 4 (some .boolean) :: ws) rq49) (fun a U => a = #[(.ref a1), (.int nn), (.int 1)] ∧ Z.Warmed39 U.vm ∧ U.heap = h0) (fun _ _ _ _ _ => True) (fun _ U o U' => ∃ v L, o = .returned v ∧ Q_rmOk1 Z a1 kc nn c0 c1 c2 c3 h0 n0 v U'.heap L ∧ FrameEnd U o U' L rq49.cells rq49.slots) := by
  refine MetFree.of_bodySF (plainFor_of_name pn_com_example_guarded_once_guardedonce_guard_MessageKeyOfPinLaw) hisR ?_
  intro p e s m args below meth c s₁ Bd hml0 hP hK
  obtain ⟨rfl, hZ, hh⟩ := hP
  have hx := Bd.exec
  have hby := Bd.bytes
  have hml : c.maxLocals = 4 := hml0
  have hown : s.vm.findClass "com/example/guarded_once/guardedonce/guard/MessageKeyOfPinLaw" = some m.cls := findClass_of_methodNamed Bd.named
  have hnm := (name_of_methodNamed Bd.named Bd.method).1
  have X0 : Stand p l e rq49 s m #[(.ref a1), (.int nn), (.int 1)] below meth c s₁ [] 0 0 := Stand.of_body Bd
  have e0 : s₁.heap = h0 := by rw [← hh, Bd.state]; rfl
  have N0 := Fr.nil n0
  refine own_fw (A' := (s₁.setTop (mkF m 2 #[rv a1, iv nn, iv 1, .unset] [.int nn, .int 1]))) (fun t k => castTop (ef_rmOk1 m a1 nn) (XS.iloadN X0.here hx rfl (hb hby d2_0) rfl (XS.iloadN X0.here hx rfl (hb hby d2_1) rfl k))) ?_
  by_cases hc1 : (1 : Int32) < nn
  · refine own_fw (A' := (s₁.setTop (mkF m 9 #[rv a1, iv nn, iv 1, .unset] [.int 1, .ref a1]))) (fun t k => XS.icmpYes X0.here hx rfl (pc0 := 2) (pc' := 7) rfl (hb hby d2_2) rfl (XT.ii_lt_t hc1) (by decide) (by decide) (XS.aloadN X0.here hx rfl (hb hby d2_7) rfl rfl (XS.iloadN X0.here hx rfl (hb hby d2_8) rfl k))) ?_
    obtain ⟨cl2, Ar2, q2, S2, M2, H2, G2⟩ := id P0
    have hin2 : ¬ ((1 : Int32) < 0 ∨ cl2.slots.size ≤ ((1 : Int32)).toNatClampNeg) := inb_of S2 ⟨by decide, by decide⟩
    have hat2 : cl2.slots[((1 : Int32)).toNatClampNeg]? = some (.int c1) := H2.at hin2 rfl
    refine own_fw (A' := (s₁.setTop (mkF m 12 #[rv a1, iv nn, iv 1, iv c1] [.int c1]))) (fun t k => X0.caload hx (j := (1 : Int32)) (v := (.int c1)) (by rw [e0]; exact Ar2.1) (State.isArrayOf_alike hZ.alike Ar2.2.1) Ar2.2.2 hin2 hat2 (g := (mkF m 9 #[rv a1, iv nn, iv 1, .unset] [.int 1, .ref a1])) rfl rfl (hb hby d2_9) _ (XS.istoreN X0.here hx rfl (hb hby d2_10) rfl (l' := #[rv a1, iv nn, iv 1, iv c1]) rfl (XS.iloadN X0.here hx rfl (hb hby d2_11) rfl k))) ?_
    by_cases hc3 : c1 = (0 : Int32)
    · refine own_fw (A' := (s₁.setTop (mkF m 16 #[rv a1, iv nn, iv 1, iv c1] [.int 0]))) (fun t k => XS.ifNo X0.here hx rfl (hb hby d2_12) rfl (XT.i0_ne_f hc3) (XS.iconst X0.here hx rfl (hb hby d2_15) k)) ?_
      obtain ⟨fs, hr, hrun, hended, hW, hsame⟩ := X0.leave (v := some (.int 0)) (fun h => by rw [Bd.returns] at h; cases h)
      refine ⟨_, _, ?_, hrun, hended, _, _, rfl, ?_, ⟨_, rfl⟩, hW, hsame.mono (by decide) (by decide)⟩
      · exact retOut X0 hx Bd.returns rfl (Or.inl ⟨rfl, by simp, _, rfl⟩) (hb hby d2_16) hr
      · show Q_rmOk1 Z a1 kc nn c0 c1 c2 c3 h0 n0 _ s₁.heap _
        rw [e0]
        exact ⟨(by simp only [own_oka, own_ok, own_t, if_pos hc1, if_pos hc3]), N0, rfl⟩
    · refine own_fw (A' := (s₁.setTop (mkF m 18 #[rv a1, iv nn, iv 1, iv c1] [.int c1]))) (fun t k => XS.ifYes X0.here hx rfl (pc0 := 12) (pc' := 17) rfl (hb hby d2_12) rfl (XT.i0_ne_t hc3) (by decide) (by decide) (XS.iloadN X0.here hx rfl (hb hby d2_17) rfl k)) ?_
      obtain ⟨_, _, ⟨T4, L4, k4, n4⟩, -, X4, ⟨Lc4, hQ4, l4, y4, z4⟩, st4⟩ := Jvm.LawKit.callS X0 hx (y := yq47) hown (mvT hZ (own_w hw 11 rfl)) (mvT hZ (own_w hw 12 rfl)) (mvT hZ (own_w hw 3 rfl)) (mvT hZ (own_w hw 13 rfl)) (by decide) (backOf (W := 0) (rmIsH l Z a0 hw [] c1 h0 n0 Z0 ) hZ (own_w hw 13 rfl) (own_w hw 3 rfl) (by decide) (by decide)) (g := (mkF m 18 #[rv a1, iv nn, iv 1, iv c1] [.int c1])) rfl (by rw [hml]; rfl) (argsL := [(.int c1)]) (rest := []) (lenOf pd__C_Z rfl) rfl (by show 2 * 0 + _ ≤ _; exact Nat.le_of_eq rfl) (hb hby d2_18) (fun _ _ => ⟨rfl, e0, (by decide : 0 + 0 ≤ _), (by decide : 0 + 0 ≤ _)⟩)
      dsimp only [Pt.U, Pt.locs, Pt.cells, Pt.slots] at X4 l4 y4 z4 st4 hQ4
      subst l4 y4 z4
      obtain ⟨rfl, Nq4, e4⟩ := hQ4
      have Nf4 := Fr.app N0 Nq4
      refine own_fw (A' := (T4.setTop (mkF m 21 #[rv a1, iv nn, iv 1, iv c1] [.int (own_hi c1)]))) (fun t k => st4 _ k) ?_
      by_cases hc5 : (own_hi c1) = (0 : Int32)
      · refine own_fw (A' := (T4.setTop (mkF m 49 #[rv a1, iv nn, iv 1, iv c1] [.int c1]))) (fun t k => XS.ifYes X4.here hx rfl (pc0 := 21) (pc' := 48) rfl (hb hby d2_21) rfl (XT.i0_eq_t hc5) (by decide) (by decide) (XS.iloadN X4.here hx rfl (hb hby d2_48) rfl k)) ?_
        obtain ⟨_, _, ⟨T6, L6, k6, n6⟩, -, X6, ⟨Lc6, hQ6, l6, y6, z6⟩, st6⟩ := Jvm.LawKit.callS X4 hx (y := yq48) hown (mvT hZ (own_w hw 14 rfl)) (mvT hZ (own_w hw 15 rfl)) (mvT hZ (own_w hw 3 rfl)) (mvT hZ (own_w hw 16 rfl)) (by decide) (backOf (W := 0) (rmIsL l Z a0 hw [] c1 h0 n0 Z0 ) hZ (own_w hw 16 rfl) (own_w hw 3 rfl) (by decide) (by decide)) (g := (mkF m 49 #[rv a1, iv nn, iv 1, iv c1] [.int c1])) rfl (by rw [hml]; rfl) (argsL := [(.int c1)]) (rest := []) (lenOf pd__C_Z rfl) rfl (by show 2 * 0 + _ ≤ _; exact Nat.le_of_eq rfl) (hb hby d2_49) (fun _ _ => ⟨rfl, e4, (by decide : 0 + 0 ≤ _), (by decide : 0 + 0 ≤ _)⟩)
        dsimp only [Pt.U, Pt.locs, Pt.cells, Pt.slots] at X6 l6 y6 z6 st6 hQ6
        subst l6 y6 z6
        obtain ⟨rfl, Nq6, e6⟩ := hQ6
        have Nf6 := Fr.app Nf4 Nq6
        refine own_fw (A' := (T6.setTop (mkF m 52 #[rv a1, iv nn, iv 1, iv c1] [.int (own_lw c1)]))) (fun t k => st6 _ k) ?_
        by_cases hc7 : (own_lw c1) = (0 : Int32)
        · refine own_fw (A' := (T6.setTop (mkF m 78 #[rv a1, iv nn, iv 1, iv c1] [.int 1]))) (fun t k => XS.ifYes X6.here hx rfl (pc0 := 52) (pc' := 77) rfl (hb hby d2_52) rfl (XT.i0_eq_t hc7) (by decide) (by decide) (XS.iconst X6.here hx rfl (hb hby d2_77) k)) ?_
          obtain ⟨fs, hr, hrun, hended, hW, hsame⟩ := X6.leave (v := some (.int 1)) (fun h => by rw [Bd.returns] at h; cases h)
          refine ⟨_, _, ?_, hrun, hended, _, _, rfl, ?_, ⟨_, rfl⟩, hW, hsame.mono (by decide) (by decide)⟩
          · exact retOut X6 hx Bd.returns rfl (Or.inl ⟨rfl, by simp, _, rfl⟩) (hb hby d2_78) hr
          · show Q_rmOk1 Z a1 kc nn c0 c1 c2 c3 h0 n0 _ T6.heap _
            rw [e6]
            exact ⟨(by simp only [own_oka, own_ok, own_t, if_pos hc1, if_neg hc3, if_pos hc5, if_pos hc7]), Nf6, rfl⟩
        · refine own_fw (A' := (T6.setTop (mkF m 64 #[rv a1, iv nn, iv 1, iv c1] [.int 0, .ref a1]))) (fun t k => XS.ifNo X6.here hx rfl (hb hby d2_52) rfl (XT.i0_eq_f hc7) (XS.iloadN X6.here hx rfl (hb hby d2_55) rfl (XS.iconst X6.here hx rfl (hb hby d2_56) (XS.icmpNo X6.here hx rfl (hb hby d2_57) rfl (XT.ii_lt_f (by decide)) (XS.aloadN X6.here hx rfl (hb hby d2_60) rfl rfl (XS.iloadN X6.here hx rfl (hb hby d2_61) rfl (XS.iconst X6.here hx rfl (hb hby d2_62) (XS.isub X6.here hx rfl (hb hby d2_63) rfl k)))))))) ?_
          obtain ⟨cl8, Ar8, q8, S8, M8, H8, G8⟩ := id P0
          have hin8 : ¬ ((0 : Int32) < 0 ∨ cl8.slots.size ≤ ((0 : Int32)).toNatClampNeg) := inb_of S8 ⟨by decide, by decide⟩
          have hat8 : cl8.slots[((0 : Int32)).toNatClampNeg]? = some (.int c0) := H8.at hin8 rfl
          refine own_fw (A' := (T6.setTop (mkF m 65 #[rv a1, iv nn, iv 1, iv c1] [.int c0]))) (fun t k => X6.caload hx (j := (0 : Int32)) (v := (.int c0)) (by rw [e6]; exact Ar8.1) (State.isArrayOf_alike hZ.alike Ar8.2.1) Ar8.2.2 hin8 hat8 (g := (mkF m 64 #[rv a1, iv nn, iv 1, iv c1] [.int 0, .ref a1])) rfl rfl (hb hby d2_64) _ k) ?_
          obtain ⟨_, _, ⟨T9, L9, k9, n9⟩, -, X9, ⟨Lc9, hQ9, l9, y9, z9⟩, st9⟩ := Jvm.LawKit.callS X6 hx (y := yq47) hown (mvT hZ (own_w hw 11 rfl)) (mvT hZ (own_w hw 12 rfl)) (mvT hZ (own_w hw 3 rfl)) (mvT hZ (own_w hw 13 rfl)) (by decide) (backOf (W := 0) (rmIsH l Z a0 hw [] c0 h0 n0 Z0 ) hZ (own_w hw 13 rfl) (own_w hw 3 rfl) (by decide) (by decide)) (g := (mkF m 65 #[rv a1, iv nn, iv 1, iv c1] [.int c0])) rfl (by rw [hml]; rfl) (argsL := [(.int c0)]) (rest := []) (lenOf pd__C_Z rfl) rfl (by show 2 * 0 + _ ≤ _; exact Nat.le_of_eq rfl) (hb hby d2_65) (fun _ _ => ⟨rfl, e6, (by decide : 0 + 0 ≤ _), (by decide : 0 + 0 ≤ _)⟩)
          dsimp only [Pt.U, Pt.locs, Pt.cells, Pt.slots] at X9 l9 y9 z9 st9 hQ9
          subst l9 y9 z9
          obtain ⟨rfl, Nq9, e9⟩ := hQ9
          have Nf9 := Fr.app Nf6 Nq9
          refine own_fw (A' := (T9.setTop (mkF m 68 #[rv a1, iv nn, iv 1, iv c1] [.int (own_hi c0)]))) (fun t k => st9 _ k) ?_
          by_cases hc10 : (own_hi c0) = (0 : Int32)
          · refine own_fw (A' := (T9.setTop (mkF m 76 #[rv a1, iv nn, iv 1, iv c1] [.int 0]))) (fun t k => XS.ifYes X9.here hx rfl (pc0 := 68) (pc' := 75) rfl (hb hby d2_68) rfl (XT.i0_eq_t hc10) (by decide) (by decide) (XS.iconst X9.here hx rfl (hb hby d2_75) k)) ?_
            obtain ⟨fs, hr, hrun, hended, hW, hsame⟩ := X9.leave (v := some (.int 0)) (fun h => by rw [Bd.returns] at h; cases h)
            refine ⟨_, _, ?_, hrun, hended, _, _, rfl, ?_, ⟨_, rfl⟩, hW, hsame.mono (by decide) (by decide)⟩
            · exact retOut X9 hx Bd.returns rfl (Or.inl ⟨rfl, by simp, _, rfl⟩) (hb hby d2_76) hr
            · show Q_rmOk1 Z a1 kc nn c0 c1 c2 c3 h0 n0 _ T9.heap _
              rw [e9]
              exact ⟨(by simp only [own_oka, own_ok, own_t, if_pos hc1, if_neg hc3, if_pos hc5, if_neg hc7, if_pos hc10]), Nf9, rfl⟩
          · refine own_fw (A' := (T9.setTop (mkF m 76 #[rv a1, iv nn, iv 1, iv c1] [.int 1]))) (fun t k => XS.ifNo X9.here hx rfl (hb hby d2_68) rfl (XT.i0_eq_f hc10) (XS.iconst X9.here hx rfl (hb hby d2_71) (XS.goto X9.here hx rfl (pc0 := 72) (pc' := 76) rfl (hb hby d2_72) (by decide) (by decide) k))) ?_
            obtain ⟨fs, hr, hrun, hended, hW, hsame⟩ := X9.leave (v := some (.int 1)) (fun h => by rw [Bd.returns] at h; cases h)
            refine ⟨_, _, ?_, hrun, hended, _, _, rfl, ?_, ⟨_, rfl⟩, hW, hsame.mono (by decide) (by decide)⟩
            · exact retOut X9 hx Bd.returns rfl (Or.inl ⟨rfl, by simp, _, rfl⟩) (hb hby d2_76) hr
            · show Q_rmOk1 Z a1 kc nn c0 c1 c2 c3 h0 n0 _ T9.heap _
              rw [e9]
              exact ⟨(by simp only [own_oka, own_ok, own_t, if_pos hc1, if_neg hc3, if_pos hc5, if_neg hc7, if_neg hc10]), Nf9, rfl⟩
      · refine own_fw (A' := (T4.setTop (mkF m 28 #[rv a1, iv nn, iv 1, iv c1] [.int nn, .int 2]))) (fun t k => XS.ifNo X4.here hx rfl (hb hby d2_21) rfl (XT.i0_eq_f hc5) (XS.iloadN X4.here hx rfl (hb hby d2_24) rfl (XS.iconst X4.here hx rfl (hb hby d2_25) (XS.iadd X4.here hx rfl (hb hby d2_26) rfl (XS.iloadN X4.here hx rfl (hb hby d2_27) rfl k))))) ?_
        by_cases hc11 : (2 : Int32) < nn
        · refine own_fw (A' := (T4.setTop (mkF m 35 #[rv a1, iv nn, iv 1, iv c1] [.int 2, .ref a1]))) (fun t k => XS.icmpNo X4.here hx rfl (hb hby d2_28) rfl (XT.ii_ge_f hc11) (XS.aloadN X4.here hx rfl (hb hby d2_31) rfl rfl (XS.iloadN X4.here hx rfl (hb hby d2_32) rfl (XS.iconst X4.here hx rfl (hb hby d2_33) (XS.iadd X4.here hx rfl (hb hby d2_34) rfl k))))) ?_
          obtain ⟨cl12, Ar12, q12, S12, M12, H12, G12⟩ := id P0
          have hin12 : ¬ ((2 : Int32) < 0 ∨ cl12.slots.size ≤ ((2 : Int32)).toNatClampNeg) := inb_of S12 ⟨by decide, by decide⟩
          have hat12 : cl12.slots[((2 : Int32)).toNatClampNeg]? = some (.int c2) := H12.at hin12 rfl
          refine own_fw (A' := (T4.setTop (mkF m 36 #[rv a1, iv nn, iv 1, iv c1] [.int c2]))) (fun t k => X4.caload hx (j := (2 : Int32)) (v := (.int c2)) (by rw [e4]; exact Ar12.1) (State.isArrayOf_alike hZ.alike Ar12.2.1) Ar12.2.2 hin12 hat12 (g := (mkF m 35 #[rv a1, iv nn, iv 1, iv c1] [.int 2, .ref a1])) rfl rfl (hb hby d2_35) _ k) ?_
          obtain ⟨_, _, ⟨T13, L13, k13, n13⟩, -, X13, ⟨Lc13, hQ13, l13, y13, z13⟩, st13⟩ := Jvm.LawKit.callS X4 hx (y := yq48) hown (mvT hZ (own_w hw 14 rfl)) (mvT hZ (own_w hw 15 rfl)) (mvT hZ (own_w hw 3 rfl)) (mvT hZ (own_w hw 16 rfl)) (by decide) (backOf (W := 0) (rmIsL l Z a0 hw [] c2 h0 n0 Z0 ) hZ (own_w hw 16 rfl) (own_w hw 3 rfl) (by decide) (by decide)) (g := (mkF m 36 #[rv a1, iv nn, iv 1, iv c1] [.int c2])) rfl (by rw [hml]; rfl) (argsL := [(.int c2)]) (rest := []) (lenOf pd__C_Z rfl) rfl (by show 2 * 0 + _ ≤ _; exact Nat.le_of_eq rfl) (hb hby d2_36) (fun _ _ => ⟨rfl, e4, (by decide : 0 + 0 ≤ _), (by decide : 0 + 0 ≤ _)⟩)
          dsimp only [Pt.U, Pt.locs, Pt.cells, Pt.slots] at X13 l13 y13 z13 st13 hQ13
          subst l13 y13 z13
          obtain ⟨rfl, Nq13, e13⟩ := hQ13
          have Nf13 := Fr.app Nf4 Nq13
          refine own_fw (A' := (T13.setTop (mkF m 39 #[rv a1, iv nn, iv 1, iv c1] [.int (own_lw c2)]))) (fun t k => st13 _ k) ?_
          by_cases hc14 : (own_lw c2) = (0 : Int32)
          · refine own_fw (A' := (T13.setTop (mkF m 47 #[rv a1, iv nn, iv 1, iv c1] [.int 0]))) (fun t k => XS.ifYes X13.here hx rfl (pc0 := 39) (pc' := 46) rfl (hb hby d2_39) rfl (XT.i0_eq_t hc14) (by decide) (by decide) (XS.iconst X13.here hx rfl (hb hby d2_46) k)) ?_
            obtain ⟨fs, hr, hrun, hended, hW, hsame⟩ := X13.leave (v := some (.int 0)) (fun h => by rw [Bd.returns] at h; cases h)
            refine ⟨_, _, ?_, hrun, hended, _, _, rfl, ?_, ⟨_, rfl⟩, hW, hsame.mono (by decide) (by decide)⟩
            · exact retOut X13 hx Bd.returns rfl (Or.inl ⟨rfl, by simp, _, rfl⟩) (hb hby d2_47) hr
            · show Q_rmOk1 Z a1 kc nn c0 c1 c2 c3 h0 n0 _ T13.heap _
              rw [e13]
              exact ⟨(by simp only [own_oka, own_ok, own_t, if_pos hc1, if_neg hc3, if_neg hc5, if_pos hc11, if_pos hc14]), Nf13, rfl⟩
          · refine own_fw (A' := (T13.setTop (mkF m 47 #[rv a1, iv nn, iv 1, iv c1] [.int 1]))) (fun t k => XS.ifNo X13.here hx rfl (hb hby d2_39) rfl (XT.i0_eq_f hc14) (XS.iconst X13.here hx rfl (hb hby d2_42) (XS.goto X13.here hx rfl (pc0 := 43) (pc' := 47) rfl (hb hby d2_43) (by decide) (by decide) k))) ?_
            obtain ⟨fs, hr, hrun, hended, hW, hsame⟩ := X13.leave (v := some (.int 1)) (fun h => by rw [Bd.returns] at h; cases h)
            refine ⟨_, _, ?_, hrun, hended, _, _, rfl, ?_, ⟨_, rfl⟩, hW, hsame.mono (by decide) (by decide)⟩
            · exact retOut X13 hx Bd.returns rfl (Or.inl ⟨rfl, by simp, _, rfl⟩) (hb hby d2_47) hr
            · show Q_rmOk1 Z a1 kc nn c0 c1 c2 c3 h0 n0 _ T13.heap _
              rw [e13]
              exact ⟨(by simp only [own_oka, own_ok, own_t, if_pos hc1, if_neg hc3, if_neg hc5, if_pos hc11, if_neg hc14]), Nf13, rfl⟩
        · refine own_fw (A' := (T4.setTop (mkF m 47 #[rv a1, iv nn, iv 1, iv c1] [.int 0]))) (fun t k => XS.icmpYes X4.here hx rfl (pc0 := 28) (pc' := 46) rfl (hb hby d2_28) rfl (XT.ii_ge_t hc11) (by decide) (by decide) (XS.iconst X4.here hx rfl (hb hby d2_46) k)) ?_
          obtain ⟨fs, hr, hrun, hended, hW, hsame⟩ := X4.leave (v := some (.int 0)) (fun h => by rw [Bd.returns] at h; cases h)
          refine ⟨_, _, ?_, hrun, hended, _, _, rfl, ?_, ⟨_, rfl⟩, hW, hsame.mono (by decide) (by decide)⟩
          · exact retOut X4 hx Bd.returns rfl (Or.inl ⟨rfl, by simp, _, rfl⟩) (hb hby d2_47) hr
          · show Q_rmOk1 Z a1 kc nn c0 c1 c2 c3 h0 n0 _ T4.heap _
            rw [e4]
            exact ⟨(by simp only [own_oka, own_ok, own_t, if_pos hc1, if_neg hc3, if_neg hc5, if_neg hc11]), Nf4, rfl⟩
  · refine own_fw (A' := (s₁.setTop (mkF m 6 #[rv a1, iv nn, iv 1, .unset] [.int 1]))) (fun t k => XS.icmpNo X0.here hx rfl (hb hby d2_2) rfl (XT.ii_lt_f hc1) (XS.iconst X0.here hx rfl (hb hby d2_5) k)) ?_
    obtain ⟨fs, hr, hrun, hended, hW, hsame⟩ := X0.leave (v := some (.int 1)) (fun h => by rw [Bd.returns] at h; cases h)
    refine ⟨_, _, ?_, hrun, hended, _, _, rfl, ?_, ⟨_, rfl⟩, hW, hsame.mono (by decide) (by decide)⟩
    · exact retOut X0 hx Bd.returns rfl (Or.inl ⟨rfl, by simp, _, rfl⟩) (hb hby d2_6) hr
    · show Q_rmOk1 Z a1 kc nn c0 c1 c2 c3 h0 n0 _ s₁.heap _
      rw [e0]
      exact ⟨(by simp only [own_oka, own_ok, own_t, if_neg hc1]), N0, rfl⟩
theorem ef_rmOk2 (m : MethodId) (a1 : Addr) (nn : Int32) : entryFrame m #[(.ref a1), (.int nn), (.int 2)] 4 = mkF m 0 #[.val (.ref a1), .val (.int nn), .val (.int 2), .unset] [] := by first | (simp [entryFrame, mkF, argsToLocals, Value.category]; done) | rfl
def Q_rmOk2 (Z : State) (a1 : Addr) (kc : ClassId) (nn c0 c1 c2 c3 : Int32) (h0 : Heap) (n0 : Nat) (v : Option Value) (h : Heap) (L : List Loc) : Prop := v = some (.int (own_oka nn (2 : Int32) (3 : Int32) c2 c3 (own_t (own_hi c1)))) ∧ Fr n0 L ∧ h = h0
theorem rmOk2 (l : Launch) (Z : State) (a0 : Array Value) (hw : ∀ d ∈ tables_1, d.before a0 Z = true) (ws : List Jvm.Cond) (a1 : Addr) (kc : ClassId) (nn c0 c1 c2 c3 : Int32) (h0 : Heap) (n0 : Nat) (Z0 : n0 ≤ h0.size) (P0 : Arv Z h0 a1 kc .char (4 : Int32) [(.int c0), (.int c1), (.int c2), (.int c3)] (.int 0)) :
    MetFree l yq50 (head1 (Jvm.Cond.code yq50 method_5_code 4 (some .boolean) :: ws) rq49) (fun a U => a = #[(.ref a1), (.int nn), (.int 2)] ∧ Z.Warmed39 U.vm ∧ U.heap = h0) (fun _ _ _ _ _ => True) (fun _ U o U' => ∃ v L, o = .returned v ∧ Q_rmOk2 Z a1 kc nn c0 c1 c2 c3 h0 n0 v U'.heap L ∧ FrameEnd U o U' L rq49.cells rq49.slots) := by
  refine MetFree.of_bodySF (plainFor_of_name pn_com_example_guarded_once_guardedonce_guard_MessageKeyOfPinLaw) hisR ?_
  intro p e s m args below meth c s₁ Bd hml0 hP hK
  obtain ⟨rfl, hZ, hh⟩ := hP
  have hx := Bd.exec
  have hby := Bd.bytes
  have hml : c.maxLocals = 4 := hml0
  have hown : s.vm.findClass "com/example/guarded_once/guardedonce/guard/MessageKeyOfPinLaw" = some m.cls := findClass_of_methodNamed Bd.named
  have hnm := (name_of_methodNamed Bd.named Bd.method).1
  have X0 : Stand p l e rq49 s m #[(.ref a1), (.int nn), (.int 2)] below meth c s₁ [] 0 0 := Stand.of_body Bd
  have e0 : s₁.heap = h0 := by rw [← hh, Bd.state]; rfl
  have N0 := Fr.nil n0
  refine own_fw (A' := (s₁.setTop (mkF m 2 #[rv a1, iv nn, iv 2, .unset] [.int nn, .int 2]))) (fun t k => castTop (ef_rmOk2 m a1 nn) (XS.iloadN X0.here hx rfl (hb hby d2_0) rfl (XS.iloadN X0.here hx rfl (hb hby d2_1) rfl k))) ?_
  by_cases hc1 : (2 : Int32) < nn
  · refine own_fw (A' := (s₁.setTop (mkF m 9 #[rv a1, iv nn, iv 2, .unset] [.int 2, .ref a1]))) (fun t k => XS.icmpYes X0.here hx rfl (pc0 := 2) (pc' := 7) rfl (hb hby d2_2) rfl (XT.ii_lt_t hc1) (by decide) (by decide) (XS.aloadN X0.here hx rfl (hb hby d2_7) rfl rfl (XS.iloadN X0.here hx rfl (hb hby d2_8) rfl k))) ?_
    obtain ⟨cl2, Ar2, q2, S2, M2, H2, G2⟩ := id P0
    have hin2 : ¬ ((2 : Int32) < 0 ∨ cl2.slots.size ≤ ((2 : Int32)).toNatClampNeg) := inb_of S2 ⟨by decide, by decide⟩
    have hat2 : cl2.slots[((2 : Int32)).toNatClampNeg]? = some (.int c2) := H2.at hin2 rfl
    refine own_fw (A' := (s₁.setTop (mkF m 12 #[rv a1, iv nn, iv 2, iv c2] [.int c2]))) (fun t k => X0.caload hx (j := (2 : Int32)) (v := (.int c2)) (by rw [e0]; exact Ar2.1) (State.isArrayOf_alike hZ.alike Ar2.2.1) Ar2.2.2 hin2 hat2 (g := (mkF m 9 #[rv a1, iv nn, iv 2, .unset] [.int 2, .ref a1])) rfl rfl (hb hby d2_9) _ (XS.istoreN X0.here hx rfl (hb hby d2_10) rfl (l' := #[rv a1, iv nn, iv 2, iv c2]) rfl (XS.iloadN X0.here hx rfl (hb hby d2_11) rfl k))) ?_
    by_cases hc3 : c2 = (0 : Int32)
    · refine own_fw (A' := (s₁.setTop (mkF m 16 #[rv a1, iv nn, iv 2, iv c2] [.int 0]))) (fun t k => XS.ifNo X0.here hx rfl (hb hby d2_12) rfl (XT.i0_ne_f hc3) (XS.iconst X0.here hx rfl (hb hby d2_15) k)) ?_
      obtain ⟨fs, hr, hrun, hended, hW, hsame⟩ := X0.leave (v := some (.int 0)) (fun h => by rw [Bd.returns] at h; cases h)
      refine ⟨_, _, ?_, hrun, hended, _, _, rfl, ?_, ⟨_, rfl⟩, hW, hsame.mono (by decide) (by decide)⟩
      · exact retOut X0 hx Bd.returns rfl (Or.inl ⟨rfl, by simp, _, rfl⟩) (hb hby d2_16) hr
      · show Q_rmOk2 Z a1 kc nn c0 c1 c2 c3 h0 n0 _ s₁.heap _
        rw [e0]
        exact ⟨(by simp only [own_oka, own_ok, own_t, if_pos hc1, if_pos hc3]), N0, rfl⟩
    · refine own_fw (A' := (s₁.setTop (mkF m 18 #[rv a1, iv nn, iv 2, iv c2] [.int c2]))) (fun t k => XS.ifYes X0.here hx rfl (pc0 := 12) (pc' := 17) rfl (hb hby d2_12) rfl (XT.i0_ne_t hc3) (by decide) (by decide) (XS.iloadN X0.here hx rfl (hb hby d2_17) rfl k)) ?_
      obtain ⟨_, _, ⟨T4, L4, k4, n4⟩, -, X4, ⟨Lc4, hQ4, l4, y4, z4⟩, st4⟩ := Jvm.LawKit.callS X0 hx (y := yq47) hown (mvT hZ (own_w hw 11 rfl)) (mvT hZ (own_w hw 12 rfl)) (mvT hZ (own_w hw 3 rfl)) (mvT hZ (own_w hw 13 rfl)) (by decide) (backOf (W := 0) (rmIsH l Z a0 hw [] c2 h0 n0 Z0 ) hZ (own_w hw 13 rfl) (own_w hw 3 rfl) (by decide) (by decide)) (g := (mkF m 18 #[rv a1, iv nn, iv 2, iv c2] [.int c2])) rfl (by rw [hml]; rfl) (argsL := [(.int c2)]) (rest := []) (lenOf pd__C_Z rfl) rfl (by show 2 * 0 + _ ≤ _; exact Nat.le_of_eq rfl) (hb hby d2_18) (fun _ _ => ⟨rfl, e0, (by decide : 0 + 0 ≤ _), (by decide : 0 + 0 ≤ _)⟩)
      dsimp only [Pt.U, Pt.locs, Pt.cells, Pt.slots] at X4 l4 y4 z4 st4 hQ4
      subst l4 y4 z4
      obtain ⟨rfl, Nq4, e4⟩ := hQ4
      have Nf4 := Fr.app N0 Nq4
      refine own_fw (A' := (T4.setTop (mkF m 21 #[rv a1, iv nn, iv 2, iv c2] [.int (own_hi c2)]))) (fun t k => st4 _ k) ?_
      by_cases hc5 : (own_hi c2) = (0 : Int32)
      · refine own_fw (A' := (T4.setTop (mkF m 49 #[rv a1, iv nn, iv 2, iv c2] [.int c2]))) (fun t k => XS.ifYes X4.here hx rfl (pc0 := 21) (pc' := 48) rfl (hb hby d2_21) rfl (XT.i0_eq_t hc5) (by decide) (by decide) (XS.iloadN X4.here hx rfl (hb hby d2_48) rfl k)) ?_
        obtain ⟨_, _, ⟨T6, L6, k6, n6⟩, -, X6, ⟨Lc6, hQ6, l6, y6, z6⟩, st6⟩ := Jvm.LawKit.callS X4 hx (y := yq48) hown (mvT hZ (own_w hw 14 rfl)) (mvT hZ (own_w hw 15 rfl)) (mvT hZ (own_w hw 3 rfl)) (mvT hZ (own_w hw 16 rfl)) (by decide) (backOf (W := 0) (rmIsL l Z a0 hw [] c2 h0 n0 Z0 ) hZ (own_w hw 16 rfl) (own_w hw 3 rfl) (by decide) (by decide)) (g := (mkF m 49 #[rv a1, iv nn, iv 2, iv c2] [.int c2])) rfl (by rw [hml]; rfl) (argsL := [(.int c2)]) (rest := []) (lenOf pd__C_Z rfl) rfl (by show 2 * 0 + _ ≤ _; exact Nat.le_of_eq rfl) (hb hby d2_49) (fun _ _ => ⟨rfl, e4, (by decide : 0 + 0 ≤ _), (by decide : 0 + 0 ≤ _)⟩)
        dsimp only [Pt.U, Pt.locs, Pt.cells, Pt.slots] at X6 l6 y6 z6 st6 hQ6
        subst l6 y6 z6
        obtain ⟨rfl, Nq6, e6⟩ := hQ6
        have Nf6 := Fr.app Nf4 Nq6
        refine own_fw (A' := (T6.setTop (mkF m 52 #[rv a1, iv nn, iv 2, iv c2] [.int (own_lw c2)]))) (fun t k => st6 _ k) ?_
        by_cases hc7 : (own_lw c2) = (0 : Int32)
        · refine own_fw (A' := (T6.setTop (mkF m 78 #[rv a1, iv nn, iv 2, iv c2] [.int 1]))) (fun t k => XS.ifYes X6.here hx rfl (pc0 := 52) (pc' := 77) rfl (hb hby d2_52) rfl (XT.i0_eq_t hc7) (by decide) (by decide) (XS.iconst X6.here hx rfl (hb hby d2_77) k)) ?_
          obtain ⟨fs, hr, hrun, hended, hW, hsame⟩ := X6.leave (v := some (.int 1)) (fun h => by rw [Bd.returns] at h; cases h)
          refine ⟨_, _, ?_, hrun, hended, _, _, rfl, ?_, ⟨_, rfl⟩, hW, hsame.mono (by decide) (by decide)⟩
          · exact retOut X6 hx Bd.returns rfl (Or.inl ⟨rfl, by simp, _, rfl⟩) (hb hby d2_78) hr
          · show Q_rmOk2 Z a1 kc nn c0 c1 c2 c3 h0 n0 _ T6.heap _
            rw [e6]
            exact ⟨(by simp only [own_oka, own_ok, own_t, if_pos hc1, if_neg hc3, if_pos hc5, if_pos hc7]), Nf6, rfl⟩
        · refine own_fw (A' := (T6.setTop (mkF m 64 #[rv a1, iv nn, iv 2, iv c2] [.int 1, .ref a1]))) (fun t k => XS.ifNo X6.here hx rfl (hb hby d2_52) rfl (XT.i0_eq_f hc7) (XS.iloadN X6.here hx rfl (hb hby d2_55) rfl (XS.iconst X6.here hx rfl (hb hby d2_56) (XS.icmpNo X6.here hx rfl (hb hby d2_57) rfl (XT.ii_lt_f (by decide)) (XS.aloadN X6.here hx rfl (hb hby d2_60) rfl rfl (XS.iloadN X6.here hx rfl (hb hby d2_61) rfl (XS.iconst X6.here hx rfl (hb hby d2_62) (XS.isub X6.here hx rfl (hb hby d2_63) rfl k)))))))) ?_
          obtain ⟨cl8, Ar8, q8, S8, M8, H8, G8⟩ := id P0
          have hin8 : ¬ ((1 : Int32) < 0 ∨ cl8.slots.size ≤ ((1 : Int32)).toNatClampNeg) := inb_of S8 ⟨by decide, by decide⟩
          have hat8 : cl8.slots[((1 : Int32)).toNatClampNeg]? = some (.int c1) := H8.at hin8 rfl
          refine own_fw (A' := (T6.setTop (mkF m 65 #[rv a1, iv nn, iv 2, iv c2] [.int c1]))) (fun t k => X6.caload hx (j := (1 : Int32)) (v := (.int c1)) (by rw [e6]; exact Ar8.1) (State.isArrayOf_alike hZ.alike Ar8.2.1) Ar8.2.2 hin8 hat8 (g := (mkF m 64 #[rv a1, iv nn, iv 2, iv c2] [.int 1, .ref a1])) rfl rfl (hb hby d2_64) _ k) ?_
          obtain ⟨_, _, ⟨T9, L9, k9, n9⟩, -, X9, ⟨Lc9, hQ9, l9, y9, z9⟩, st9⟩ := Jvm.LawKit.callS X6 hx (y := yq47) hown (mvT hZ (own_w hw 11 rfl)) (mvT hZ (own_w hw 12 rfl)) (mvT hZ (own_w hw 3 rfl)) (mvT hZ (own_w hw 13 rfl)) (by decide) (backOf (W := 0) (rmIsH l Z a0 hw [] c1 h0 n0 Z0 ) hZ (own_w hw 13 rfl) (own_w hw 3 rfl) (by decide) (by decide)) (g := (mkF m 65 #[rv a1, iv nn, iv 2, iv c2] [.int c1])) rfl (by rw [hml]; rfl) (argsL := [(.int c1)]) (rest := []) (lenOf pd__C_Z rfl) rfl (by show 2 * 0 + _ ≤ _; exact Nat.le_of_eq rfl) (hb hby d2_65) (fun _ _ => ⟨rfl, e6, (by decide : 0 + 0 ≤ _), (by decide : 0 + 0 ≤ _)⟩)
          dsimp only [Pt.U, Pt.locs, Pt.cells, Pt.slots] at X9 l9 y9 z9 st9 hQ9
          subst l9 y9 z9
          obtain ⟨rfl, Nq9, e9⟩ := hQ9
          have Nf9 := Fr.app Nf6 Nq9
          refine own_fw (A' := (T9.setTop (mkF m 68 #[rv a1, iv nn, iv 2, iv c2] [.int (own_hi c1)]))) (fun t k => st9 _ k) ?_
          by_cases hc10 : (own_hi c1) = (0 : Int32)
          · refine own_fw (A' := (T9.setTop (mkF m 76 #[rv a1, iv nn, iv 2, iv c2] [.int 0]))) (fun t k => XS.ifYes X9.here hx rfl (pc0 := 68) (pc' := 75) rfl (hb hby d2_68) rfl (XT.i0_eq_t hc10) (by decide) (by decide) (XS.iconst X9.here hx rfl (hb hby d2_75) k)) ?_
            obtain ⟨fs, hr, hrun, hended, hW, hsame⟩ := X9.leave (v := some (.int 0)) (fun h => by rw [Bd.returns] at h; cases h)
            refine ⟨_, _, ?_, hrun, hended, _, _, rfl, ?_, ⟨_, rfl⟩, hW, hsame.mono (by decide) (by decide)⟩
            · exact retOut X9 hx Bd.returns rfl (Or.inl ⟨rfl, by simp, _, rfl⟩) (hb hby d2_76) hr
            · show Q_rmOk2 Z a1 kc nn c0 c1 c2 c3 h0 n0 _ T9.heap _
              rw [e9]
              exact ⟨(by simp only [own_oka, own_ok, own_t, if_pos hc1, if_neg hc3, if_pos hc5, if_neg hc7, if_pos hc10]), Nf9, rfl⟩
          · refine own_fw (A' := (T9.setTop (mkF m 76 #[rv a1, iv nn, iv 2, iv c2] [.int 1]))) (fun t k => XS.ifNo X9.here hx rfl (hb hby d2_68) rfl (XT.i0_eq_f hc10) (XS.iconst X9.here hx rfl (hb hby d2_71) (XS.goto X9.here hx rfl (pc0 := 72) (pc' := 76) rfl (hb hby d2_72) (by decide) (by decide) k))) ?_
            obtain ⟨fs, hr, hrun, hended, hW, hsame⟩ := X9.leave (v := some (.int 1)) (fun h => by rw [Bd.returns] at h; cases h)
            refine ⟨_, _, ?_, hrun, hended, _, _, rfl, ?_, ⟨_, rfl⟩, hW, hsame.mono (by decide) (by decide)⟩
            · exact retOut X9 hx Bd.returns rfl (Or.inl ⟨rfl, by simp, _, rfl⟩) (hb hby d2_76) hr
            · show Q_rmOk2 Z a1 kc nn c0 c1 c2 c3 h0 n0 _ T9.heap _
              rw [e9]
              exact ⟨(by simp only [own_oka, own_ok, own_t, if_pos hc1, if_neg hc3, if_pos hc5, if_neg hc7, if_neg hc10]), Nf9, rfl⟩
      · refine own_fw (A' := (T4.setTop (mkF m 28 #[rv a1, iv nn, iv 2, iv c2] [.int nn, .int 3]))) (fun t k => XS.ifNo X4.here hx rfl (hb hby d2_21) rfl (XT.i0_eq_f hc5) (XS.iloadN X4.here hx rfl (hb hby d2_24) rfl (XS.iconst X4.here hx rfl (hb hby d2_25) (XS.iadd X4.here hx rfl (hb hby d2_26) rfl (XS.iloadN X4.here hx rfl (hb hby d2_27) rfl k))))) ?_
        by_cases hc11 : (3 : Int32) < nn
        · refine own_fw (A' := (T4.setTop (mkF m 35 #[rv a1, iv nn, iv 2, iv c2] [.int 3, .ref a1]))) (fun t k => XS.icmpNo X4.here hx rfl (hb hby d2_28) rfl (XT.ii_ge_f hc11) (XS.aloadN X4.here hx rfl (hb hby d2_31) rfl rfl (XS.iloadN X4.here hx rfl (hb hby d2_32) rfl (XS.iconst X4.here hx rfl (hb hby d2_33) (XS.iadd X4.here hx rfl (hb hby d2_34) rfl k))))) ?_
          obtain ⟨cl12, Ar12, q12, S12, M12, H12, G12⟩ := id P0
          have hin12 : ¬ ((3 : Int32) < 0 ∨ cl12.slots.size ≤ ((3 : Int32)).toNatClampNeg) := inb_of S12 ⟨by decide, by decide⟩
          have hat12 : cl12.slots[((3 : Int32)).toNatClampNeg]? = some (.int c3) := H12.at hin12 rfl
          refine own_fw (A' := (T4.setTop (mkF m 36 #[rv a1, iv nn, iv 2, iv c2] [.int c3]))) (fun t k => X4.caload hx (j := (3 : Int32)) (v := (.int c3)) (by rw [e4]; exact Ar12.1) (State.isArrayOf_alike hZ.alike Ar12.2.1) Ar12.2.2 hin12 hat12 (g := (mkF m 35 #[rv a1, iv nn, iv 2, iv c2] [.int 3, .ref a1])) rfl rfl (hb hby d2_35) _ k) ?_
          obtain ⟨_, _, ⟨T13, L13, k13, n13⟩, -, X13, ⟨Lc13, hQ13, l13, y13, z13⟩, st13⟩ := Jvm.LawKit.callS X4 hx (y := yq48) hown (mvT hZ (own_w hw 14 rfl)) (mvT hZ (own_w hw 15 rfl)) (mvT hZ (own_w hw 3 rfl)) (mvT hZ (own_w hw 16 rfl)) (by decide) (backOf (W := 0) (rmIsL l Z a0 hw [] c3 h0 n0 Z0 ) hZ (own_w hw 16 rfl) (own_w hw 3 rfl) (by decide) (by decide)) (g := (mkF m 36 #[rv a1, iv nn, iv 2, iv c2] [.int c3])) rfl (by rw [hml]; rfl) (argsL := [(.int c3)]) (rest := []) (lenOf pd__C_Z rfl) rfl (by show 2 * 0 + _ ≤ _; exact Nat.le_of_eq rfl) (hb hby d2_36) (fun _ _ => ⟨rfl, e4, (by decide : 0 + 0 ≤ _), (by decide : 0 + 0 ≤ _)⟩)
          dsimp only [Pt.U, Pt.locs, Pt.cells, Pt.slots] at X13 l13 y13 z13 st13 hQ13
          subst l13 y13 z13
          obtain ⟨rfl, Nq13, e13⟩ := hQ13
          have Nf13 := Fr.app Nf4 Nq13
          refine own_fw (A' := (T13.setTop (mkF m 39 #[rv a1, iv nn, iv 2, iv c2] [.int (own_lw c3)]))) (fun t k => st13 _ k) ?_
          by_cases hc14 : (own_lw c3) = (0 : Int32)
          · refine own_fw (A' := (T13.setTop (mkF m 47 #[rv a1, iv nn, iv 2, iv c2] [.int 0]))) (fun t k => XS.ifYes X13.here hx rfl (pc0 := 39) (pc' := 46) rfl (hb hby d2_39) rfl (XT.i0_eq_t hc14) (by decide) (by decide) (XS.iconst X13.here hx rfl (hb hby d2_46) k)) ?_
            obtain ⟨fs, hr, hrun, hended, hW, hsame⟩ := X13.leave (v := some (.int 0)) (fun h => by rw [Bd.returns] at h; cases h)
            refine ⟨_, _, ?_, hrun, hended, _, _, rfl, ?_, ⟨_, rfl⟩, hW, hsame.mono (by decide) (by decide)⟩
            · exact retOut X13 hx Bd.returns rfl (Or.inl ⟨rfl, by simp, _, rfl⟩) (hb hby d2_47) hr
            · show Q_rmOk2 Z a1 kc nn c0 c1 c2 c3 h0 n0 _ T13.heap _
              rw [e13]
              exact ⟨(by simp only [own_oka, own_ok, own_t, if_pos hc1, if_neg hc3, if_neg hc5, if_pos hc11, if_pos hc14]), Nf13, rfl⟩
          · refine own_fw (A' := (T13.setTop (mkF m 47 #[rv a1, iv nn, iv 2, iv c2] [.int 1]))) (fun t k => XS.ifNo X13.here hx rfl (hb hby d2_39) rfl (XT.i0_eq_f hc14) (XS.iconst X13.here hx rfl (hb hby d2_42) (XS.goto X13.here hx rfl (pc0 := 43) (pc' := 47) rfl (hb hby d2_43) (by decide) (by decide) k))) ?_
            obtain ⟨fs, hr, hrun, hended, hW, hsame⟩ := X13.leave (v := some (.int 1)) (fun h => by rw [Bd.returns] at h; cases h)
            refine ⟨_, _, ?_, hrun, hended, _, _, rfl, ?_, ⟨_, rfl⟩, hW, hsame.mono (by decide) (by decide)⟩
            · exact retOut X13 hx Bd.returns rfl (Or.inl ⟨rfl, by simp, _, rfl⟩) (hb hby d2_47) hr
            · show Q_rmOk2 Z a1 kc nn c0 c1 c2 c3 h0 n0 _ T13.heap _
              rw [e13]
              exact ⟨(by simp only [own_oka, own_ok, own_t, if_pos hc1, if_neg hc3, if_neg hc5, if_pos hc11, if_neg hc14]), Nf13, rfl⟩
        · refine own_fw (A' := (T4.setTop (mkF m 47 #[rv a1, iv nn, iv 2, iv c2] [.int 0]))) (fun t k => XS.icmpYes X4.here hx rfl (pc0 := 28) (pc' := 46) rfl (hb hby d2_28) rfl (XT.ii_ge_t hc11) (by decide) (by decide) (XS.iconst X4.here hx rfl (hb hby d2_46) k)) ?_
          obtain ⟨fs, hr, hrun, hended, hW, hsame⟩ := X4.leave (v := some (.int 0)) (fun h => by rw [Bd.returns] at h; cases h)
          refine ⟨_, _, ?_, hrun, hended, _, _, rfl, ?_, ⟨_, rfl⟩, hW, hsame.mono (by decide) (by decide)⟩
          · exact retOut X4 hx Bd.returns rfl (Or.inl ⟨rfl, by simp, _, rfl⟩) (hb hby d2_47) hr
          · show Q_rmOk2 Z a1 kc nn c0 c1 c2 c3 h0 n0 _ T4.heap _
            rw [e4]
            exact ⟨(by simp only [own_oka, own_ok, own_t, if_pos hc1, if_neg hc3, if_neg hc5, if_neg hc11]), Nf4, rfl⟩
  · refine own_fw (A' := (s₁.setTop (mkF m 6 #[rv a1, iv nn, iv 2, .unset] [.int 1]))) (fun t k => XS.icmpNo X0.here hx rfl (hb hby d2_2) rfl (XT.ii_lt_f hc1) (XS.iconst X0.here hx rfl (hb hby d2_5) k)) ?_
    obtain ⟨fs, hr, hrun, hended, hW, hsame⟩ := X0.leave (v := some (.int 1)) (fun h => by rw [Bd.returns] at h; cases h)
    refine ⟨_, _, ?_, hrun, hended, _, _, rfl, ?_, ⟨_, rfl⟩, hW, hsame.mono (by decide) (by decide)⟩
    · exact retOut X0 hx Bd.returns rfl (Or.inl ⟨rfl, by simp, _, rfl⟩) (hb hby d2_6) hr
    · show Q_rmOk2 Z a1 kc nn c0 c1 c2 c3 h0 n0 _ s₁.heap _
      rw [e0]
      exact ⟨(by simp only [own_oka, own_ok, own_t, if_neg hc1]), N0, rfl⟩
theorem ef_rmOk3 (m : MethodId) (a1 : Addr) (nn : Int32) : entryFrame m #[(.ref a1), (.int nn), (.int 3)] 4 = mkF m 0 #[.val (.ref a1), .val (.int nn), .val (.int 3), .unset] [] := by first | (simp [entryFrame, mkF, argsToLocals, Value.category]; done) | rfl
def Q_rmOk3 (Z : State) (a1 : Addr) (kc : ClassId) (nn c0 c1 c2 c3 : Int32) (h0 : Heap) (n0 : Nat) (v : Option Value) (h : Heap) (L : List Loc) : Prop := v = some (.int (own_oka nn (3 : Int32) (4 : Int32) c3 (0 : Int32) (own_t (own_hi c2)))) ∧ Fr n0 L ∧ h = h0
theorem rmOk3 (l : Launch) (Z : State) (a0 : Array Value) (hw : ∀ d ∈ tables_1, d.before a0 Z = true) (ws : List Jvm.Cond) (a1 : Addr) (kc : ClassId) (nn c0 c1 c2 c3 : Int32) (h0 : Heap) (n0 : Nat) (Z0 : n0 ≤ h0.size) (P0 : Arv Z h0 a1 kc .char (4 : Int32) [(.int c0), (.int c1), (.int c2), (.int c3)] (.int 0)) (hn4 : ¬ ((4 : Int32) < nn)) :
    MetFree l yq50 (head1 (Jvm.Cond.code yq50 method_5_code 4 (some .boolean) :: ws) rq49) (fun a U => a = #[(.ref a1), (.int nn), (.int 3)] ∧ Z.Warmed39 U.vm ∧ U.heap = h0) (fun _ _ _ _ _ => True) (fun _ U o U' => ∃ v L, o = .returned v ∧ Q_rmOk3 Z a1 kc nn c0 c1 c2 c3 h0 n0 v U'.heap L ∧ FrameEnd U o U' L rq49.cells rq49.slots) := by
  refine MetFree.of_bodySF (plainFor_of_name pn_com_example_guarded_once_guardedonce_guard_MessageKeyOfPinLaw) hisR ?_
  intro p e s m args below meth c s₁ Bd hml0 hP hK
  obtain ⟨rfl, hZ, hh⟩ := hP
  have hx := Bd.exec
  have hby := Bd.bytes
  have hml : c.maxLocals = 4 := hml0
  have hown : s.vm.findClass "com/example/guarded_once/guardedonce/guard/MessageKeyOfPinLaw" = some m.cls := findClass_of_methodNamed Bd.named
  have hnm := (name_of_methodNamed Bd.named Bd.method).1
  have X0 : Stand p l e rq49 s m #[(.ref a1), (.int nn), (.int 3)] below meth c s₁ [] 0 0 := Stand.of_body Bd
  have e0 : s₁.heap = h0 := by rw [← hh, Bd.state]; rfl
  have N0 := Fr.nil n0
  refine own_fw (A' := (s₁.setTop (mkF m 2 #[rv a1, iv nn, iv 3, .unset] [.int nn, .int 3]))) (fun t k => castTop (ef_rmOk3 m a1 nn) (XS.iloadN X0.here hx rfl (hb hby d2_0) rfl (XS.iloadN X0.here hx rfl (hb hby d2_1) rfl k))) ?_
  by_cases hc1 : (3 : Int32) < nn
  · refine own_fw (A' := (s₁.setTop (mkF m 9 #[rv a1, iv nn, iv 3, .unset] [.int 3, .ref a1]))) (fun t k => XS.icmpYes X0.here hx rfl (pc0 := 2) (pc' := 7) rfl (hb hby d2_2) rfl (XT.ii_lt_t hc1) (by decide) (by decide) (XS.aloadN X0.here hx rfl (hb hby d2_7) rfl rfl (XS.iloadN X0.here hx rfl (hb hby d2_8) rfl k))) ?_
    obtain ⟨cl2, Ar2, q2, S2, M2, H2, G2⟩ := id P0
    have hin2 : ¬ ((3 : Int32) < 0 ∨ cl2.slots.size ≤ ((3 : Int32)).toNatClampNeg) := inb_of S2 ⟨by decide, by decide⟩
    have hat2 : cl2.slots[((3 : Int32)).toNatClampNeg]? = some (.int c3) := H2.at hin2 rfl
    refine own_fw (A' := (s₁.setTop (mkF m 12 #[rv a1, iv nn, iv 3, iv c3] [.int c3]))) (fun t k => X0.caload hx (j := (3 : Int32)) (v := (.int c3)) (by rw [e0]; exact Ar2.1) (State.isArrayOf_alike hZ.alike Ar2.2.1) Ar2.2.2 hin2 hat2 (g := (mkF m 9 #[rv a1, iv nn, iv 3, .unset] [.int 3, .ref a1])) rfl rfl (hb hby d2_9) _ (XS.istoreN X0.here hx rfl (hb hby d2_10) rfl (l' := #[rv a1, iv nn, iv 3, iv c3]) rfl (XS.iloadN X0.here hx rfl (hb hby d2_11) rfl k))) ?_
    by_cases hc3 : c3 = (0 : Int32)
    · refine own_fw (A' := (s₁.setTop (mkF m 16 #[rv a1, iv nn, iv 3, iv c3] [.int 0]))) (fun t k => XS.ifNo X0.here hx rfl (hb hby d2_12) rfl (XT.i0_ne_f hc3) (XS.iconst X0.here hx rfl (hb hby d2_15) k)) ?_
      obtain ⟨fs, hr, hrun, hended, hW, hsame⟩ := X0.leave (v := some (.int 0)) (fun h => by rw [Bd.returns] at h; cases h)
      refine ⟨_, _, ?_, hrun, hended, _, _, rfl, ?_, ⟨_, rfl⟩, hW, hsame.mono (by decide) (by decide)⟩
      · exact retOut X0 hx Bd.returns rfl (Or.inl ⟨rfl, by simp, _, rfl⟩) (hb hby d2_16) hr
      · show Q_rmOk3 Z a1 kc nn c0 c1 c2 c3 h0 n0 _ s₁.heap _
        rw [e0]
        exact ⟨(by simp only [own_oka, own_ok, own_t, if_neg hn4, if_pos hc1, if_pos hc3]), N0, rfl⟩
    · refine own_fw (A' := (s₁.setTop (mkF m 18 #[rv a1, iv nn, iv 3, iv c3] [.int c3]))) (fun t k => XS.ifYes X0.here hx rfl (pc0 := 12) (pc' := 17) rfl (hb hby d2_12) rfl (XT.i0_ne_t hc3) (by decide) (by decide) (XS.iloadN X0.here hx rfl (hb hby d2_17) rfl k)) ?_
      obtain ⟨_, _, ⟨T4, L4, k4, n4⟩, -, X4, ⟨Lc4, hQ4, l4, y4, z4⟩, st4⟩ := Jvm.LawKit.callS X0 hx (y := yq47) hown (mvT hZ (own_w hw 11 rfl)) (mvT hZ (own_w hw 12 rfl)) (mvT hZ (own_w hw 3 rfl)) (mvT hZ (own_w hw 13 rfl)) (by decide) (backOf (W := 0) (rmIsH l Z a0 hw [] c3 h0 n0 Z0 ) hZ (own_w hw 13 rfl) (own_w hw 3 rfl) (by decide) (by decide)) (g := (mkF m 18 #[rv a1, iv nn, iv 3, iv c3] [.int c3])) rfl (by rw [hml]; rfl) (argsL := [(.int c3)]) (rest := []) (lenOf pd__C_Z rfl) rfl (by show 2 * 0 + _ ≤ _; exact Nat.le_of_eq rfl) (hb hby d2_18) (fun _ _ => ⟨rfl, e0, (by decide : 0 + 0 ≤ _), (by decide : 0 + 0 ≤ _)⟩)
      dsimp only [Pt.U, Pt.locs, Pt.cells, Pt.slots] at X4 l4 y4 z4 st4 hQ4
      subst l4 y4 z4
      obtain ⟨rfl, Nq4, e4⟩ := hQ4
      have Nf4 := Fr.app N0 Nq4
      refine own_fw (A' := (T4.setTop (mkF m 21 #[rv a1, iv nn, iv 3, iv c3] [.int (own_hi c3)]))) (fun t k => st4 _ k) ?_
      by_cases hc5 : (own_hi c3) = (0 : Int32)
      · refine own_fw (A' := (T4.setTop (mkF m 49 #[rv a1, iv nn, iv 3, iv c3] [.int c3]))) (fun t k => XS.ifYes X4.here hx rfl (pc0 := 21) (pc' := 48) rfl (hb hby d2_21) rfl (XT.i0_eq_t hc5) (by decide) (by decide) (XS.iloadN X4.here hx rfl (hb hby d2_48) rfl k)) ?_
        obtain ⟨_, _, ⟨T6, L6, k6, n6⟩, -, X6, ⟨Lc6, hQ6, l6, y6, z6⟩, st6⟩ := Jvm.LawKit.callS X4 hx (y := yq48) hown (mvT hZ (own_w hw 14 rfl)) (mvT hZ (own_w hw 15 rfl)) (mvT hZ (own_w hw 3 rfl)) (mvT hZ (own_w hw 16 rfl)) (by decide) (backOf (W := 0) (rmIsL l Z a0 hw [] c3 h0 n0 Z0 ) hZ (own_w hw 16 rfl) (own_w hw 3 rfl) (by decide) (by decide)) (g := (mkF m 49 #[rv a1, iv nn, iv 3, iv c3] [.int c3])) rfl (by rw [hml]; rfl) (argsL := [(.int c3)]) (rest := []) (lenOf pd__C_Z rfl) rfl (by show 2 * 0 + _ ≤ _; exact Nat.le_of_eq rfl) (hb hby d2_49) (fun _ _ => ⟨rfl, e4, (by decide : 0 + 0 ≤ _), (by decide : 0 + 0 ≤ _)⟩)
        dsimp only [Pt.U, Pt.locs, Pt.cells, Pt.slots] at X6 l6 y6 z6 st6 hQ6
        subst l6 y6 z6
        obtain ⟨rfl, Nq6, e6⟩ := hQ6
        have Nf6 := Fr.app Nf4 Nq6
        refine own_fw (A' := (T6.setTop (mkF m 52 #[rv a1, iv nn, iv 3, iv c3] [.int (own_lw c3)]))) (fun t k => st6 _ k) ?_
        by_cases hc7 : (own_lw c3) = (0 : Int32)
        · refine own_fw (A' := (T6.setTop (mkF m 78 #[rv a1, iv nn, iv 3, iv c3] [.int 1]))) (fun t k => XS.ifYes X6.here hx rfl (pc0 := 52) (pc' := 77) rfl (hb hby d2_52) rfl (XT.i0_eq_t hc7) (by decide) (by decide) (XS.iconst X6.here hx rfl (hb hby d2_77) k)) ?_
          obtain ⟨fs, hr, hrun, hended, hW, hsame⟩ := X6.leave (v := some (.int 1)) (fun h => by rw [Bd.returns] at h; cases h)
          refine ⟨_, _, ?_, hrun, hended, _, _, rfl, ?_, ⟨_, rfl⟩, hW, hsame.mono (by decide) (by decide)⟩
          · exact retOut X6 hx Bd.returns rfl (Or.inl ⟨rfl, by simp, _, rfl⟩) (hb hby d2_78) hr
          · show Q_rmOk3 Z a1 kc nn c0 c1 c2 c3 h0 n0 _ T6.heap _
            rw [e6]
            exact ⟨(by simp only [own_oka, own_ok, own_t, if_neg hn4, if_pos hc1, if_neg hc3, if_pos hc5, if_pos hc7]), Nf6, rfl⟩
        · refine own_fw (A' := (T6.setTop (mkF m 64 #[rv a1, iv nn, iv 3, iv c3] [.int 2, .ref a1]))) (fun t k => XS.ifNo X6.here hx rfl (hb hby d2_52) rfl (XT.i0_eq_f hc7) (XS.iloadN X6.here hx rfl (hb hby d2_55) rfl (XS.iconst X6.here hx rfl (hb hby d2_56) (XS.icmpNo X6.here hx rfl (hb hby d2_57) rfl (XT.ii_lt_f (by decide)) (XS.aloadN X6.here hx rfl (hb hby d2_60) rfl rfl (XS.iloadN X6.here hx rfl (hb hby d2_61) rfl (XS.iconst X6.here hx rfl (hb hby d2_62) (XS.isub X6.here hx rfl (hb hby d2_63) rfl k)))))))) ?_
          obtain ⟨cl8, Ar8, q8, S8, M8, H8, G8⟩ := id P0
          have hin8 : ¬ ((2 : Int32) < 0 ∨ cl8.slots.size ≤ ((2 : Int32)).toNatClampNeg) := inb_of S8 ⟨by decide, by decide⟩
          have hat8 : cl8.slots[((2 : Int32)).toNatClampNeg]? = some (.int c2) := H8.at hin8 rfl
          refine own_fw (A' := (T6.setTop (mkF m 65 #[rv a1, iv nn, iv 3, iv c3] [.int c2]))) (fun t k => X6.caload hx (j := (2 : Int32)) (v := (.int c2)) (by rw [e6]; exact Ar8.1) (State.isArrayOf_alike hZ.alike Ar8.2.1) Ar8.2.2 hin8 hat8 (g := (mkF m 64 #[rv a1, iv nn, iv 3, iv c3] [.int 2, .ref a1])) rfl rfl (hb hby d2_64) _ k) ?_
          obtain ⟨_, _, ⟨T9, L9, k9, n9⟩, -, X9, ⟨Lc9, hQ9, l9, y9, z9⟩, st9⟩ := Jvm.LawKit.callS X6 hx (y := yq47) hown (mvT hZ (own_w hw 11 rfl)) (mvT hZ (own_w hw 12 rfl)) (mvT hZ (own_w hw 3 rfl)) (mvT hZ (own_w hw 13 rfl)) (by decide) (backOf (W := 0) (rmIsH l Z a0 hw [] c2 h0 n0 Z0 ) hZ (own_w hw 13 rfl) (own_w hw 3 rfl) (by decide) (by decide)) (g := (mkF m 65 #[rv a1, iv nn, iv 3, iv c3] [.int c2])) rfl (by rw [hml]; rfl) (argsL := [(.int c2)]) (rest := []) (lenOf pd__C_Z rfl) rfl (by show 2 * 0 + _ ≤ _; exact Nat.le_of_eq rfl) (hb hby d2_65) (fun _ _ => ⟨rfl, e6, (by decide : 0 + 0 ≤ _), (by decide : 0 + 0 ≤ _)⟩)
          dsimp only [Pt.U, Pt.locs, Pt.cells, Pt.slots] at X9 l9 y9 z9 st9 hQ9
          subst l9 y9 z9
          obtain ⟨rfl, Nq9, e9⟩ := hQ9
          have Nf9 := Fr.app Nf6 Nq9
          refine own_fw (A' := (T9.setTop (mkF m 68 #[rv a1, iv nn, iv 3, iv c3] [.int (own_hi c2)]))) (fun t k => st9 _ k) ?_
          by_cases hc10 : (own_hi c2) = (0 : Int32)
          · refine own_fw (A' := (T9.setTop (mkF m 76 #[rv a1, iv nn, iv 3, iv c3] [.int 0]))) (fun t k => XS.ifYes X9.here hx rfl (pc0 := 68) (pc' := 75) rfl (hb hby d2_68) rfl (XT.i0_eq_t hc10) (by decide) (by decide) (XS.iconst X9.here hx rfl (hb hby d2_75) k)) ?_
            obtain ⟨fs, hr, hrun, hended, hW, hsame⟩ := X9.leave (v := some (.int 0)) (fun h => by rw [Bd.returns] at h; cases h)
            refine ⟨_, _, ?_, hrun, hended, _, _, rfl, ?_, ⟨_, rfl⟩, hW, hsame.mono (by decide) (by decide)⟩
            · exact retOut X9 hx Bd.returns rfl (Or.inl ⟨rfl, by simp, _, rfl⟩) (hb hby d2_76) hr
            · show Q_rmOk3 Z a1 kc nn c0 c1 c2 c3 h0 n0 _ T9.heap _
              rw [e9]
              exact ⟨(by simp only [own_oka, own_ok, own_t, if_neg hn4, if_pos hc1, if_neg hc3, if_pos hc5, if_neg hc7, if_pos hc10]), Nf9, rfl⟩
          · refine own_fw (A' := (T9.setTop (mkF m 76 #[rv a1, iv nn, iv 3, iv c3] [.int 1]))) (fun t k => XS.ifNo X9.here hx rfl (hb hby d2_68) rfl (XT.i0_eq_f hc10) (XS.iconst X9.here hx rfl (hb hby d2_71) (XS.goto X9.here hx rfl (pc0 := 72) (pc' := 76) rfl (hb hby d2_72) (by decide) (by decide) k))) ?_
            obtain ⟨fs, hr, hrun, hended, hW, hsame⟩ := X9.leave (v := some (.int 1)) (fun h => by rw [Bd.returns] at h; cases h)
            refine ⟨_, _, ?_, hrun, hended, _, _, rfl, ?_, ⟨_, rfl⟩, hW, hsame.mono (by decide) (by decide)⟩
            · exact retOut X9 hx Bd.returns rfl (Or.inl ⟨rfl, by simp, _, rfl⟩) (hb hby d2_76) hr
            · show Q_rmOk3 Z a1 kc nn c0 c1 c2 c3 h0 n0 _ T9.heap _
              rw [e9]
              exact ⟨(by simp only [own_oka, own_ok, own_t, if_neg hn4, if_pos hc1, if_neg hc3, if_pos hc5, if_neg hc7, if_neg hc10]), Nf9, rfl⟩
      · refine own_fw (A' := (T4.setTop (mkF m 47 #[rv a1, iv nn, iv 3, iv c3] [.int 0]))) (fun t k => XS.ifNo X4.here hx rfl (hb hby d2_21) rfl (XT.i0_eq_f hc5) (XS.iloadN X4.here hx rfl (hb hby d2_24) rfl (XS.iconst X4.here hx rfl (hb hby d2_25) (XS.iadd X4.here hx rfl (hb hby d2_26) rfl (XS.iloadN X4.here hx rfl (hb hby d2_27) rfl (XS.icmpYes X4.here hx rfl (pc0 := 28) (pc' := 46) rfl (hb hby d2_28) rfl (XT.ii_ge_t hn4) (by decide) (by decide) (XS.iconst X4.here hx rfl (hb hby d2_46) k))))))) ?_
        obtain ⟨fs, hr, hrun, hended, hW, hsame⟩ := X4.leave (v := some (.int 0)) (fun h => by rw [Bd.returns] at h; cases h)
        refine ⟨_, _, ?_, hrun, hended, _, _, rfl, ?_, ⟨_, rfl⟩, hW, hsame.mono (by decide) (by decide)⟩
        · exact retOut X4 hx Bd.returns rfl (Or.inl ⟨rfl, by simp, _, rfl⟩) (hb hby d2_47) hr
        · show Q_rmOk3 Z a1 kc nn c0 c1 c2 c3 h0 n0 _ T4.heap _
          rw [e4]
          exact ⟨(by simp only [own_oka, own_ok, own_t, if_neg hn4, if_pos hc1, if_neg hc3, if_neg hc5]), Nf4, rfl⟩
  · refine own_fw (A' := (s₁.setTop (mkF m 6 #[rv a1, iv nn, iv 3, .unset] [.int 1]))) (fun t k => XS.icmpNo X0.here hx rfl (hb hby d2_2) rfl (XT.ii_lt_f hc1) (XS.iconst X0.here hx rfl (hb hby d2_5) k)) ?_
    obtain ⟨fs, hr, hrun, hended, hW, hsame⟩ := X0.leave (v := some (.int 1)) (fun h => by rw [Bd.returns] at h; cases h)
    refine ⟨_, _, ?_, hrun, hended, _, _, rfl, ?_, ⟨_, rfl⟩, hW, hsame.mono (by decide) (by decide)⟩
    · exact retOut X0 hx Bd.returns rfl (Or.inl ⟨rfl, by simp, _, rfl⟩) (hb hby d2_6) hr
    · show Q_rmOk3 Z a1 kc nn c0 c1 c2 c3 h0 n0 _ s₁.heap _
      rw [e0]
      exact ⟨(by simp only [own_oka, own_ok, own_t, if_neg hn4, if_neg hc1]), N0, rfl⟩
theorem pn_java_lang_Character : plainName "java/lang/Character" = true := by first | (simp [plainName, overriddenIn]; done) | decide +kernel
theorem d31_0 : decode jdk_89_method_14_code 0 = .ok (.iload_n 0, 1) := by decide +kernel
theorem d31_1 : decode jdk_89_method_14_code 1 = .ok (.ldc 75, 2) := by decide +kernel
theorem d31_3 : decode jdk_89_method_14_code 3 = .ok (.if_icmp .lt 13, 3) := by decide +kernel
theorem d31_16 : decode jdk_89_method_14_code 16 = .ok (.iconst 0, 1) := by decide +kernel
theorem d31_17 : decode jdk_89_method_14_code 17 = .ok (.ireturn, 1) := by decide +kernel
theorem d31_6 : decode jdk_89_method_14_code 6 = .ok (.iload_n 0, 1) := by decide +kernel
theorem d31_7 : decode jdk_89_method_14_code 7 = .ok (.ldc 76, 2) := by decide +kernel
theorem d31_9 : decode jdk_89_method_14_code 9 = .ok (.if_icmp .ge 7, 3) := by decide +kernel
theorem d31_12 : decode jdk_89_method_14_code 12 = .ok (.iconst 1, 1) := by decide +kernel
theorem d31_13 : decode jdk_89_method_14_code 13 = .ok (.goto 4, 3) := by decide +kernel
theorem ef_rmHs (m : MethodId) (p1 : Int32) : entryFrame m #[(.int p1)] 1 = mkF m 0 #[.val (.int p1)] [] := by first | (simp [entryFrame, mkF, argsToLocals, Value.category]; done) | rfl
def Q_rmHs (Z : State) (p1 : Int32) (h0 : Heap) (n0 : Nat) (v : Option Value) (h : Heap) (L : List Loc) : Prop := v = some (.int (own_hs p1)) ∧ Fr n0 L ∧ h = h0
theorem rmHs (l : Launch) (Z : State) (a0 : Array Value) (hw : ∀ d ∈ tables_1, d.before a0 Z = true) (ws : List Jvm.Cond) (p1 : Int32) (h0 : Heap) (n0 : Nat) (Z0 : n0 ≤ h0.size)  :
    MetFree l yq51 (head1 (Jvm.Cond.code yq51 jdk_89_method_14_code 1 (some .boolean) :: ws) rq0) (fun a U => a = #[(.int p1)] ∧ Z.Warmed39 U.vm ∧ U.heap = h0) (fun _ _ _ _ _ => True) (fun _ U o U' => ∃ v L, o = .returned v ∧ Q_rmHs Z p1 h0 n0 v U'.heap L ∧ FrameEnd U o U' L rq0.cells rq0.slots) := by
  refine MetFree.of_bodySF (plainFor_of_name pn_java_lang_Character) hisR ?_
  intro p e s m args below meth c s₁ Bd hml0 hP hK
  obtain ⟨rfl, hZ, hh⟩ := hP
  have hx := Bd.exec
  have hby := Bd.bytes
  have hml : c.maxLocals = 1 := hml0
  have hown : s.vm.findClass "java/lang/Character" = some m.cls := findClass_of_methodNamed Bd.named
  have hnm := (name_of_methodNamed Bd.named Bd.method).1
  have X0 : Stand p l e rq0 s m #[(.int p1)] below meth c s₁ [] 0 0 := Stand.of_body Bd
  have e0 : s₁.heap = h0 := by rw [← hh, Bd.state]; rfl
  have N0 := Fr.nil n0
  refine own_fw (A' := (s₁.setTop (mkF m 3 #[iv p1] [.int 55296, .int p1]))) (fun t k => castTop (ef_rmHs m p1) (XS.iloadN X0.here hx rfl (hb hby d31_0) rfl (X0.ldcInt hx hown (mvT hZ (own_w hw 134 rfl)) (g := (mkF m 1 #[iv p1] [.int p1])) rfl (hb hby d31_1) _ k))) ?_
  by_cases hc1 : p1 < (55296 : Int32)
  · refine own_fw (A' := (s₁.setTop (mkF m 17 #[iv p1] [.int 0]))) (fun t k => XS.icmpYes X0.here hx rfl (pc0 := 3) (pc' := 16) rfl (hb hby d31_3) rfl (XT.ii_lt_t hc1) (by decide) (by decide) (XS.iconst X0.here hx rfl (hb hby d31_16) k)) ?_
    obtain ⟨fs, hr, hrun, hended, hW, hsame⟩ := X0.leave (v := some (.int 0)) (fun h => by rw [Bd.returns] at h; cases h)
    refine ⟨_, _, ?_, hrun, hended, _, _, rfl, ?_, ⟨_, rfl⟩, hW, hsame.mono (by decide) (by decide)⟩
    · exact retOut X0 hx Bd.returns rfl (Or.inl ⟨rfl, by simp, _, rfl⟩) (hb hby d31_17) hr
    · show Q_rmHs Z p1 h0 n0 _ s₁.heap _
      rw [e0]
      exact ⟨(by simp only [own_hs, if_pos hc1]), N0, rfl⟩
  · refine own_fw (A' := (s₁.setTop (mkF m 9 #[iv p1] [.int 56320, .int p1]))) (fun t k => XS.icmpNo X0.here hx rfl (hb hby d31_3) rfl (XT.ii_lt_f hc1) (XS.iloadN X0.here hx rfl (hb hby d31_6) rfl (X0.ldcInt hx hown (mvT hZ (own_w hw 158 rfl)) (g := (mkF m 7 #[iv p1] [.int p1])) rfl (hb hby d31_7) _ k))) ?_
    by_cases hc2 : p1 < (56320 : Int32)
    · refine own_fw (A' := (s₁.setTop (mkF m 17 #[iv p1] [.int 1]))) (fun t k => XS.icmpNo X0.here hx rfl (hb hby d31_9) rfl (XT.ii_ge_f hc2) (XS.iconst X0.here hx rfl (hb hby d31_12) (XS.goto X0.here hx rfl (pc0 := 13) (pc' := 17) rfl (hb hby d31_13) (by decide) (by decide) k))) ?_
      obtain ⟨fs, hr, hrun, hended, hW, hsame⟩ := X0.leave (v := some (.int 1)) (fun h => by rw [Bd.returns] at h; cases h)
      refine ⟨_, _, ?_, hrun, hended, _, _, rfl, ?_, ⟨_, rfl⟩, hW, hsame.mono (by decide) (by decide)⟩
      · exact retOut X0 hx Bd.returns rfl (Or.inl ⟨rfl, by simp, _, rfl⟩) (hb hby d31_17) hr
      · show Q_rmHs Z p1 h0 n0 _ s₁.heap _
        rw [e0]
        exact ⟨(by simp only [own_hs, if_neg hc1, if_pos hc2]), N0, rfl⟩
    · refine own_fw (A' := (s₁.setTop (mkF m 17 #[iv p1] [.int 0]))) (fun t k => XS.icmpYes X0.here hx rfl (pc0 := 9) (pc' := 16) rfl (hb hby d31_9) rfl (XT.ii_ge_t hc2) (by decide) (by decide) (XS.iconst X0.here hx rfl (hb hby d31_16) k)) ?_
      obtain ⟨fs, hr, hrun, hended, hW, hsame⟩ := X0.leave (v := some (.int 0)) (fun h => by rw [Bd.returns] at h; cases h)
      refine ⟨_, _, ?_, hrun, hended, _, _, rfl, ?_, ⟨_, rfl⟩, hW, hsame.mono (by decide) (by decide)⟩
      · exact retOut X0 hx Bd.returns rfl (Or.inl ⟨rfl, by simp, _, rfl⟩) (hb hby d31_17) hr
      · show Q_rmHs Z p1 h0 n0 _ s₁.heap _
        rw [e0]
        exact ⟨(by simp only [own_hs, if_neg hc1, if_neg hc2]), N0, rfl⟩
theorem d36_0 : decode jdk_89_method_15_code 0 = .ok (.iload_n 0, 1) := by decide +kernel
theorem d36_1 : decode jdk_89_method_15_code 1 = .ok (.ldc 76, 2) := by decide +kernel
theorem d36_3 : decode jdk_89_method_15_code 3 = .ok (.if_icmp .lt 13, 3) := by decide +kernel
theorem d36_16 : decode jdk_89_method_15_code 16 = .ok (.iconst 0, 1) := by decide +kernel
theorem d36_17 : decode jdk_89_method_15_code 17 = .ok (.ireturn, 1) := by decide +kernel
theorem d36_6 : decode jdk_89_method_15_code 6 = .ok (.iload_n 0, 1) := by decide +kernel
theorem d36_7 : decode jdk_89_method_15_code 7 = .ok (.ldc 77, 2) := by decide +kernel
theorem d36_9 : decode jdk_89_method_15_code 9 = .ok (.if_icmp .ge 7, 3) := by decide +kernel
theorem d36_12 : decode jdk_89_method_15_code 12 = .ok (.iconst 1, 1) := by decide +kernel
theorem d36_13 : decode jdk_89_method_15_code 13 = .ok (.goto 4, 3) := by decide +kernel
theorem ef_rmLs (m : MethodId) (p1 : Int32) : entryFrame m #[(.int p1)] 1 = mkF m 0 #[.val (.int p1)] [] := by first | (simp [entryFrame, mkF, argsToLocals, Value.category]; done) | rfl
def Q_rmLs (Z : State) (p1 : Int32) (h0 : Heap) (n0 : Nat) (v : Option Value) (h : Heap) (L : List Loc) : Prop := v = some (.int (own_ls p1)) ∧ Fr n0 L ∧ h = h0
theorem rmLs (l : Launch) (Z : State) (a0 : Array Value) (hw : ∀ d ∈ tables_1, d.before a0 Z = true) (ws : List Jvm.Cond) (p1 : Int32) (h0 : Heap) (n0 : Nat) (Z0 : n0 ≤ h0.size)  :
    MetFree l yq52 (head1 (Jvm.Cond.code yq52 jdk_89_method_15_code 1 (some .boolean) :: ws) rq0) (fun a U => a = #[(.int p1)] ∧ Z.Warmed39 U.vm ∧ U.heap = h0) (fun _ _ _ _ _ => True) (fun _ U o U' => ∃ v L, o = .returned v ∧ Q_rmLs Z p1 h0 n0 v U'.heap L ∧ FrameEnd U o U' L rq0.cells rq0.slots) := by
  refine MetFree.of_bodySF (plainFor_of_name pn_java_lang_Character) hisR ?_
  intro p e s m args below meth c s₁ Bd hml0 hP hK
  obtain ⟨rfl, hZ, hh⟩ := hP
  have hx := Bd.exec
  have hby := Bd.bytes
  have hml : c.maxLocals = 1 := hml0
  have hown : s.vm.findClass "java/lang/Character" = some m.cls := findClass_of_methodNamed Bd.named
  have hnm := (name_of_methodNamed Bd.named Bd.method).1
  have X0 : Stand p l e rq0 s m #[(.int p1)] below meth c s₁ [] 0 0 := Stand.of_body Bd
  have e0 : s₁.heap = h0 := by rw [← hh, Bd.state]; rfl
  have N0 := Fr.nil n0
  refine own_fw (A' := (s₁.setTop (mkF m 3 #[iv p1] [.int 56320, .int p1]))) (fun t k => castTop (ef_rmLs m p1) (XS.iloadN X0.here hx rfl (hb hby d36_0) rfl (X0.ldcInt hx hown (mvT hZ (own_w hw 158 rfl)) (g := (mkF m 1 #[iv p1] [.int p1])) rfl (hb hby d36_1) _ k))) ?_
  by_cases hc1 : p1 < (56320 : Int32)
  · refine own_fw (A' := (s₁.setTop (mkF m 17 #[iv p1] [.int 0]))) (fun t k => XS.icmpYes X0.here hx rfl (pc0 := 3) (pc' := 16) rfl (hb hby d36_3) rfl (XT.ii_lt_t hc1) (by decide) (by decide) (XS.iconst X0.here hx rfl (hb hby d36_16) k)) ?_
    obtain ⟨fs, hr, hrun, hended, hW, hsame⟩ := X0.leave (v := some (.int 0)) (fun h => by rw [Bd.returns] at h; cases h)
    refine ⟨_, _, ?_, hrun, hended, _, _, rfl, ?_, ⟨_, rfl⟩, hW, hsame.mono (by decide) (by decide)⟩
    · exact retOut X0 hx Bd.returns rfl (Or.inl ⟨rfl, by simp, _, rfl⟩) (hb hby d36_17) hr
    · show Q_rmLs Z p1 h0 n0 _ s₁.heap _
      rw [e0]
      exact ⟨(by simp only [own_ls, if_pos hc1]), N0, rfl⟩
  · refine own_fw (A' := (s₁.setTop (mkF m 9 #[iv p1] [.int 57344, .int p1]))) (fun t k => XS.icmpNo X0.here hx rfl (hb hby d36_3) rfl (XT.ii_lt_f hc1) (XS.iloadN X0.here hx rfl (hb hby d36_6) rfl (X0.ldcInt hx hown (mvT hZ (own_w hw 163 rfl)) (g := (mkF m 7 #[iv p1] [.int p1])) rfl (hb hby d36_7) _ k))) ?_
    by_cases hc2 : p1 < (57344 : Int32)
    · refine own_fw (A' := (s₁.setTop (mkF m 17 #[iv p1] [.int 1]))) (fun t k => XS.icmpNo X0.here hx rfl (hb hby d36_9) rfl (XT.ii_ge_f hc2) (XS.iconst X0.here hx rfl (hb hby d36_12) (XS.goto X0.here hx rfl (pc0 := 13) (pc' := 17) rfl (hb hby d36_13) (by decide) (by decide) k))) ?_
      obtain ⟨fs, hr, hrun, hended, hW, hsame⟩ := X0.leave (v := some (.int 1)) (fun h => by rw [Bd.returns] at h; cases h)
      refine ⟨_, _, ?_, hrun, hended, _, _, rfl, ?_, ⟨_, rfl⟩, hW, hsame.mono (by decide) (by decide)⟩
      · exact retOut X0 hx Bd.returns rfl (Or.inl ⟨rfl, by simp, _, rfl⟩) (hb hby d36_17) hr
      · show Q_rmLs Z p1 h0 n0 _ s₁.heap _
        rw [e0]
        exact ⟨(by simp only [own_ls, if_neg hc1, if_pos hc2]), N0, rfl⟩
    · refine own_fw (A' := (s₁.setTop (mkF m 17 #[iv p1] [.int 0]))) (fun t k => XS.icmpYes X0.here hx rfl (pc0 := 9) (pc' := 16) rfl (hb hby d36_9) rfl (XT.ii_ge_t hc2) (by decide) (by decide) (XS.iconst X0.here hx rfl (hb hby d36_16) k)) ?_
      obtain ⟨fs, hr, hrun, hended, hW, hsame⟩ := X0.leave (v := some (.int 0)) (fun h => by rw [Bd.returns] at h; cases h)
      refine ⟨_, _, ?_, hrun, hended, _, _, rfl, ?_, ⟨_, rfl⟩, hW, hsame.mono (by decide) (by decide)⟩
      · exact retOut X0 hx Bd.returns rfl (Or.inl ⟨rfl, by simp, _, rfl⟩) (hb hby d36_17) hr
      · show Q_rmLs Z p1 h0 n0 _ s₁.heap _
        rw [e0]
        exact ⟨(by simp only [own_ls, if_neg hc1, if_neg hc2]), N0, rfl⟩
theorem d37_0 : decode jdk_89_method_19_code 0 = .ok (.iload_n 0, 1) := by decide +kernel
theorem d37_1 : decode jdk_89_method_19_code 1 = .ok (.bipush 10, 2) := by decide +kernel
theorem d37_3 : decode jdk_89_method_19_code 3 = .ok (.ishl, 1) := by decide +kernel
theorem d37_4 : decode jdk_89_method_19_code 4 = .ok (.iload_n 1, 1) := by decide +kernel
theorem d37_5 : decode jdk_89_method_19_code 5 = .ok (.iadd, 1) := by decide +kernel
theorem d37_6 : decode jdk_89_method_19_code 6 = .ok (.ldc 85, 2) := by decide +kernel
theorem d37_8 : decode jdk_89_method_19_code 8 = .ok (.iadd, 1) := by decide +kernel
theorem d37_9 : decode jdk_89_method_19_code 9 = .ok (.ireturn, 1) := by decide +kernel
theorem ef_rmCp (m : MethodId) (p1 p2 : Int32) : entryFrame m #[(.int p1), (.int p2)] 2 = mkF m 0 #[.val (.int p1), .val (.int p2)] [] := by first | (simp [entryFrame, mkF, argsToLocals, Value.category]; done) | rfl
def Q_rmCp (Z : State) (p1 p2 : Int32) (h0 : Heap) (n0 : Nat) (v : Option Value) (h : Heap) (L : List Loc) : Prop := v = some (.int (own_cp p1 p2)) ∧ Fr n0 L ∧ h = h0
theorem rmCp (l : Launch) (Z : State) (a0 : Array Value) (hw : ∀ d ∈ tables_1, d.before a0 Z = true) (ws : List Jvm.Cond) (p1 p2 : Int32) (h0 : Heap) (n0 : Nat) (Z0 : n0 ≤ h0.size)  :
    MetFree l yq53 (head1 (Jvm.Cond.code yq53 jdk_89_method_19_code 2 (some .int) :: ws) rq0) (fun a U => a = #[(.int p1), (.int p2)] ∧ Z.Warmed39 U.vm ∧ U.heap = h0) (fun _ _ _ _ _ => True) (fun _ U o U' => ∃ v L, o = .returned v ∧ Q_rmCp Z p1 p2 h0 n0 v U'.heap L ∧ FrameEnd U o U' L rq0.cells rq0.slots) := by
  refine MetFree.of_bodySF (plainFor_of_name pn_java_lang_Character) hisR ?_
  intro p e s m args below meth c s₁ Bd hml0 hP hK
  obtain ⟨rfl, hZ, hh⟩ := hP
  have hx := Bd.exec
  have hby := Bd.bytes
  have hml : c.maxLocals = 2 := hml0
  have hown : s.vm.findClass "java/lang/Character" = some m.cls := findClass_of_methodNamed Bd.named
  have hnm := (name_of_methodNamed Bd.named Bd.method).1
  have X0 : Stand p l e rq0 s m #[(.int p1), (.int p2)] below meth c s₁ [] 0 0 := Stand.of_body Bd
  have e0 : s₁.heap = h0 := by rw [← hh, Bd.state]; rfl
  have N0 := Fr.nil n0
  refine own_fw (A' := (s₁.setTop (mkF m 9 #[iv p1, iv p2] [.int (((p1 <<< ((10 : Int32) &&& 31)) + p2) + (-56613888 : Int32))]))) (fun t k => castTop (ef_rmCp m p1 p2) (XS.iloadN X0.here hx rfl (hb hby d37_0) rfl (XS.bipush X0.here hx rfl (hb hby d37_1) (XS.ishl X0.here hx rfl (hb hby d37_3) rfl (XS.iloadN X0.here hx rfl (hb hby d37_4) rfl (XS.iadd X0.here hx rfl (hb hby d37_5) rfl (X0.ldcInt hx hown (mvT hZ (own_w hw 167 rfl)) (g := (mkF m 6 #[iv p1, iv p2] [.int ((p1 <<< ((10 : Int32) &&& 31)) + p2)])) rfl (hb hby d37_6) _ (XS.iadd X0.here hx rfl (hb hby d37_8) rfl k)))))))) ?_
  obtain ⟨fs, hr, hrun, hended, hW, hsame⟩ := X0.leave (v := some (.int (((p1 <<< ((10 : Int32) &&& 31)) + p2) + (-56613888 : Int32)))) (fun h => by rw [Bd.returns] at h; cases h)
  refine ⟨_, _, ?_, hrun, hended, _, _, rfl, ?_, ⟨_, rfl⟩, hW, hsame.mono (by decide) (by decide)⟩
  · exact retOut X0 hx Bd.returns rfl (Or.inl ⟨rfl, by simp, _, rfl⟩) (hb hby d37_9) hr
  · show Q_rmCp Z p1 p2 h0 n0 _ s₁.heap _
    rw [e0]
    exact ⟨rfl, N0, rfl⟩
theorem d32_0 : decode jdk_89_method_18_code 0 = .ok (.iload_n 0, 1) := by decide +kernel
theorem d32_1 : decode jdk_89_method_18_code 1 = .ok (.ldc 73, 2) := by decide +kernel
theorem d32_3 : decode jdk_89_method_18_code 3 = .ok (.if_icmp .lt 7, 3) := by decide +kernel
theorem d32_10 : decode jdk_89_method_18_code 10 = .ok (.iconst 1, 1) := by decide +kernel
theorem d32_11 : decode jdk_89_method_18_code 11 = .ok (.ireturn, 1) := by decide +kernel
theorem d32_6 : decode jdk_89_method_18_code 6 = .ok (.iconst 2, 1) := by decide +kernel
theorem d32_7 : decode jdk_89_method_18_code 7 = .ok (.goto 4, 3) := by decide +kernel
theorem ef_rmCc (m : MethodId) (p1 : Int32) : entryFrame m #[(.int p1)] 1 = mkF m 0 #[.val (.int p1)] [] := by first | (simp [entryFrame, mkF, argsToLocals, Value.category]; done) | rfl
def Q_rmCc (Z : State) (p1 : Int32) (h0 : Heap) (n0 : Nat) (v : Option Value) (h : Heap) (L : List Loc) : Prop := v = some (.int (own_cc p1)) ∧ Fr n0 L ∧ h = h0
theorem rmCc (l : Launch) (Z : State) (a0 : Array Value) (hw : ∀ d ∈ tables_1, d.before a0 Z = true) (ws : List Jvm.Cond) (p1 : Int32) (h0 : Heap) (n0 : Nat) (Z0 : n0 ≤ h0.size)  :
    MetFree l yq54 (head1 (Jvm.Cond.code yq54 jdk_89_method_18_code 1 (some .int) :: ws) rq0) (fun a U => a = #[(.int p1)] ∧ Z.Warmed39 U.vm ∧ U.heap = h0) (fun _ _ _ _ _ => True) (fun _ U o U' => ∃ v L, o = .returned v ∧ Q_rmCc Z p1 h0 n0 v U'.heap L ∧ FrameEnd U o U' L rq0.cells rq0.slots) := by
  refine MetFree.of_bodySF (plainFor_of_name pn_java_lang_Character) hisR ?_
  intro p e s m args below meth c s₁ Bd hml0 hP hK
  obtain ⟨rfl, hZ, hh⟩ := hP
  have hx := Bd.exec
  have hby := Bd.bytes
  have hml : c.maxLocals = 1 := hml0
  have hown : s.vm.findClass "java/lang/Character" = some m.cls := findClass_of_methodNamed Bd.named
  have hnm := (name_of_methodNamed Bd.named Bd.method).1
  have X0 : Stand p l e rq0 s m #[(.int p1)] below meth c s₁ [] 0 0 := Stand.of_body Bd
  have e0 : s₁.heap = h0 := by rw [← hh, Bd.state]; rfl
  have N0 := Fr.nil n0
  refine own_fw (A' := (s₁.setTop (mkF m 3 #[iv p1] [.int 65536, .int p1]))) (fun t k => castTop (ef_rmCc m p1) (XS.iloadN X0.here hx rfl (hb hby d32_0) rfl (X0.ldcInt hx hown (mvT hZ (own_w hw 139 rfl)) (g := (mkF m 1 #[iv p1] [.int p1])) rfl (hb hby d32_1) _ k))) ?_
  by_cases hc1 : p1 < (65536 : Int32)
  · refine own_fw (A' := (s₁.setTop (mkF m 11 #[iv p1] [.int 1]))) (fun t k => XS.icmpYes X0.here hx rfl (pc0 := 3) (pc' := 10) rfl (hb hby d32_3) rfl (XT.ii_lt_t hc1) (by decide) (by decide) (XS.iconst X0.here hx rfl (hb hby d32_10) k)) ?_
    obtain ⟨fs, hr, hrun, hended, hW, hsame⟩ := X0.leave (v := some (.int 1)) (fun h => by rw [Bd.returns] at h; cases h)
    refine ⟨_, _, ?_, hrun, hended, _, _, rfl, ?_, ⟨_, rfl⟩, hW, hsame.mono (by decide) (by decide)⟩
    · exact retOut X0 hx Bd.returns rfl (Or.inl ⟨rfl, by simp, _, rfl⟩) (hb hby d32_11) hr
    · show Q_rmCc Z p1 h0 n0 _ s₁.heap _
      rw [e0]
      exact ⟨(by simp only [own_cc, if_pos hc1]), N0, rfl⟩
  · refine own_fw (A' := (s₁.setTop (mkF m 11 #[iv p1] [.int 2]))) (fun t k => XS.icmpNo X0.here hx rfl (hb hby d32_3) rfl (XT.ii_lt_f hc1) (XS.iconst X0.here hx rfl (hb hby d32_6) (XS.goto X0.here hx rfl (pc0 := 7) (pc' := 11) rfl (hb hby d32_7) (by decide) (by decide) k))) ?_
    obtain ⟨fs, hr, hrun, hended, hW, hsame⟩ := X0.leave (v := some (.int 2)) (fun h => by rw [Bd.returns] at h; cases h)
    refine ⟨_, _, ?_, hrun, hended, _, _, rfl, ?_, ⟨_, rfl⟩, hW, hsame.mono (by decide) (by decide)⟩
    · exact retOut X0 hx Bd.returns rfl (Or.inl ⟨rfl, by simp, _, rfl⟩) (hb hby d32_11) hr
    · show Q_rmCc Z p1 h0 n0 _ s₁.heap _
      rw [e0]
      exact ⟨(by simp only [own_cc, if_neg hc1]), N0, rfl⟩
theorem d19_0 : decode jdk_42_method_152_code 0 = .ok (.getstatic 38, 3) := by decide +kernel
theorem d19_3 : decode jdk_42_method_152_code 3 = .ok (.ifCond .eq 10, 3) := by decide +kernel
theorem d19_6 : decode jdk_42_method_152_code 6 = .ok (.aload_n 0, 1) := by decide +kernel
theorem d19_7 : decode jdk_42_method_152_code 7 = .ok (.getfield 15, 3) := by decide +kernel
theorem d19_10 : decode jdk_42_method_152_code 10 = .ok (.goto 4, 3) := by decide +kernel
theorem d19_14 : decode jdk_42_method_152_code 14 = .ok (.ireturn, 1) := by decide +kernel
theorem ef_rmCodL (m : MethodId) (a1 : Addr) : entryFrame m #[(.ref a1)] 1 = mkF m 0 #[.val (.ref a1)] [] := by first | (simp [entryFrame, mkF, argsToLocals, Value.category]; done) | rfl
def Q_rmCodL (Z : State) (a1 : Addr) (cs : Int32) (h0 : Heap) (n0 : Nat) (v : Option Value) (h : Heap) (L : List Loc) : Prop := v = some (.int 0) ∧ Fr n0 L ∧ h = h0
theorem rmCodL (l : Launch) (Z : State) (a0 : Array Value) (hw : ∀ d ∈ tables_1, d.before a0 Z = true) (ws : List Jvm.Cond) (a1 : Addr) (cs : Int32) (h0 : Heap) (n0 : Nat) (Z0 : n0 ≤ h0.size) (P0 : Fld Z h0 a1 "java/lang/String" "coder" "B" (.int 0)) (P1 : Sta Z h0 "java/lang/String" "COMPACT_STRINGS" "Z" (.int cs)) (hcs : ¬ (cs = (0 : Int32))) :
    MetFree l yq55 (head1 (Jvm.Cond.code yq55 jdk_42_method_152_code 1 (some .byte) :: ws) rq0) (fun a U => a = #[(.ref a1)] ∧ Z.Warmed39 U.vm ∧ U.heap = h0) (fun _ _ _ _ _ => True) (fun _ U o U' => ∃ v L, o = .returned v ∧ Q_rmCodL Z a1 cs h0 n0 v U'.heap L ∧ FrameEnd U o U' L rq0.cells rq0.slots) := by
  refine MetFree.of_bodySF (plainFor_of_name pn_java_lang_String) hisR ?_
  intro p e s m args below meth c s₁ Bd hml0 hP hK
  obtain ⟨rfl, hZ, hh⟩ := hP
  have hx := Bd.exec
  have hby := Bd.bytes
  have hml : c.maxLocals = 1 := hml0
  have hown : s.vm.findClass "java/lang/String" = some m.cls := findClass_of_methodNamed Bd.named
  have hnm := (name_of_methodNamed Bd.named Bd.method).1
  have X0 : Stand p l e rq0 s m #[(.ref a1)] below meth c s₁ [] 0 0 := Stand.of_body Bd
  have e0 : s₁.heap = h0 := by rw [← hh, Bd.state]; rfl
  have N0 := Fr.nil n0
  refine own_fw (A' := (s₁.setTop (mkF m 0 #[.val (.ref a1)] []))) (fun t k => castTop (ef_rmCodL m a1) k) ?_
  obtain ⟨T1, X1, e1, st1⟩ := getS2 X0 hx hZ hown (host := "") (Or.inl (own_w hw 32 rfl)) Via.refl e0 P1 (g := (mkF m 0 #[rv a1] [])) rfl (hb hby d19_0)
  refine own_fw (A' := (T1.setTop (mkF m 7 #[rv a1] [.ref a1]))) (fun t k => st1 _ (XS.ifNo X1.here hx rfl (hb hby d19_3) rfl (XT.i0_eq_f hcs) (XS.aloadN X1.here hx rfl (hb hby d19_6) rfl rfl k))) ?_
  obtain ⟨T2, X2, e2, st2⟩ := getF X1 hx hZ hown (host := "") (Or.inl (own_w hw 63 rfl)) Via.refl e1 P0 (g := (mkF m 7 #[rv a1] [.ref a1])) rfl rfl (hb hby d19_7)
  refine own_fw (A' := (T2.setTop (mkF m 14 #[rv a1] [.int 0]))) (fun t k => st2 _ (XS.goto X2.here hx rfl (pc0 := 10) (pc' := 14) rfl (hb hby d19_10) (by decide) (by decide) k)) ?_
  obtain ⟨fs, hr, hrun, hended, hW, hsame⟩ := X2.leave (v := some (.int 0)) (fun h => by rw [Bd.returns] at h; cases h)
  refine ⟨_, _, ?_, hrun, hended, _, _, rfl, ?_, ⟨_, rfl⟩, hW, hsame.mono (by decide) (by decide)⟩
  · exact retOut X2 hx Bd.returns rfl (Or.inl ⟨rfl, by simp, _, rfl⟩) (hb hby d19_14) hr
  · show Q_rmCodL Z a1 cs h0 n0 _ T2.heap _
    rw [e2]
    exact ⟨rfl, N0, rfl⟩
theorem d23_0 : decode jdk_42_method_154_code 0 = .ok (.getstatic 38, 3) := by decide +kernel
theorem d23_3 : decode jdk_42_method_154_code 3 = .ok (.ifCond .eq 14, 3) := by decide +kernel
theorem d23_6 : decode jdk_42_method_154_code 6 = .ok (.aload_n 0, 1) := by decide +kernel
theorem d23_7 : decode jdk_42_method_154_code 7 = .ok (.getfield 15, 3) := by decide +kernel
theorem d23_10 : decode jdk_42_method_154_code 10 = .ok (.ifCond .ne 7, 3) := by decide +kernel
theorem d23_13 : decode jdk_42_method_154_code 13 = .ok (.iconst 1, 1) := by decide +kernel
theorem d23_14 : decode jdk_42_method_154_code 14 = .ok (.goto 4, 3) := by decide +kernel
theorem d23_18 : decode jdk_42_method_154_code 18 = .ok (.ireturn, 1) := by decide +kernel
theorem ef_rmIslL (m : MethodId) (a1 : Addr) : entryFrame m #[(.ref a1)] 1 = mkF m 0 #[.val (.ref a1)] [] := by first | (simp [entryFrame, mkF, argsToLocals, Value.category]; done) | rfl
def Q_rmIslL (Z : State) (a1 : Addr) (cs : Int32) (h0 : Heap) (n0 : Nat) (v : Option Value) (h : Heap) (L : List Loc) : Prop := v = some (.int 1) ∧ Fr n0 L ∧ h = h0
theorem rmIslL (l : Launch) (Z : State) (a0 : Array Value) (hw : ∀ d ∈ tables_1, d.before a0 Z = true) (ws : List Jvm.Cond) (a1 : Addr) (cs : Int32) (h0 : Heap) (n0 : Nat) (Z0 : n0 ≤ h0.size) (P0 : Fld Z h0 a1 "java/lang/String" "coder" "B" (.int 0)) (P1 : Sta Z h0 "java/lang/String" "COMPACT_STRINGS" "Z" (.int cs)) (hcs : ¬ (cs = (0 : Int32))) :
    MetFree l yq56 (head1 (Jvm.Cond.code yq56 jdk_42_method_154_code 1 (some .boolean) :: ws) rq0) (fun a U => a = #[(.ref a1)] ∧ Z.Warmed39 U.vm ∧ U.heap = h0) (fun _ _ _ _ _ => True) (fun _ U o U' => ∃ v L, o = .returned v ∧ Q_rmIslL Z a1 cs h0 n0 v U'.heap L ∧ FrameEnd U o U' L rq0.cells rq0.slots) := by
  refine MetFree.of_bodySF (plainFor_of_name pn_java_lang_String) hisR ?_
  intro p e s m args below meth c s₁ Bd hml0 hP hK
  obtain ⟨rfl, hZ, hh⟩ := hP
  have hx := Bd.exec
  have hby := Bd.bytes
  have hml : c.maxLocals = 1 := hml0
  have hown : s.vm.findClass "java/lang/String" = some m.cls := findClass_of_methodNamed Bd.named
  have hnm := (name_of_methodNamed Bd.named Bd.method).1
  have X0 : Stand p l e rq0 s m #[(.ref a1)] below meth c s₁ [] 0 0 := Stand.of_body Bd
  have e0 : s₁.heap = h0 := by rw [← hh, Bd.state]; rfl
  have N0 := Fr.nil n0
  refine own_fw (A' := (s₁.setTop (mkF m 0 #[.val (.ref a1)] []))) (fun t k => castTop (ef_rmIslL m a1) k) ?_
  obtain ⟨T1, X1, e1, st1⟩ := getS2 X0 hx hZ hown (host := "") (Or.inl (own_w hw 32 rfl)) Via.refl e0 P1 (g := (mkF m 0 #[rv a1] [])) rfl (hb hby d23_0)
  refine own_fw (A' := (T1.setTop (mkF m 7 #[rv a1] [.ref a1]))) (fun t k => st1 _ (XS.ifNo X1.here hx rfl (hb hby d23_3) rfl (XT.i0_eq_f hcs) (XS.aloadN X1.here hx rfl (hb hby d23_6) rfl rfl k))) ?_
  obtain ⟨T2, X2, e2, st2⟩ := getF X1 hx hZ hown (host := "") (Or.inl (own_w hw 63 rfl)) Via.refl e1 P0 (g := (mkF m 7 #[rv a1] [.ref a1])) rfl rfl (hb hby d23_7)
  refine own_fw (A' := (T2.setTop (mkF m 18 #[rv a1] [.int 1]))) (fun t k => st2 _ (XS.ifNo X2.here hx rfl (hb hby d23_10) rfl (XT.i0_ne_f rfl) (XS.iconst X2.here hx rfl (hb hby d23_13) (XS.goto X2.here hx rfl (pc0 := 14) (pc' := 18) rfl (hb hby d23_14) (by decide) (by decide) k)))) ?_
  obtain ⟨fs, hr, hrun, hended, hW, hsame⟩ := X2.leave (v := some (.int 1)) (fun h => by rw [Bd.returns] at h; cases h)
  refine ⟨_, _, ?_, hrun, hended, _, _, rfl, ?_, ⟨_, rfl⟩, hW, hsame.mono (by decide) (by decide)⟩
  · exact retOut X2 hx Bd.returns rfl (Or.inl ⟨rfl, by simp, _, rfl⟩) (hb hby d23_18) hr
  · show Q_rmIslL Z a1 cs h0 n0 _ T2.heap _
    rw [e2]
    exact ⟨rfl, N0, rfl⟩
theorem d18_0 : decode jdk_42_method_54_code 0 = .ok (.aload_n 0, 1) := by decide +kernel
theorem d18_1 : decode jdk_42_method_54_code 1 = .ok (.getfield 9, 3) := by decide +kernel
theorem d18_4 : decode jdk_42_method_54_code 4 = .ok (.arraylength, 1) := by decide +kernel
theorem d18_5 : decode jdk_42_method_54_code 5 = .ok (.aload_n 0, 1) := by decide +kernel
theorem d18_6 : decode jdk_42_method_54_code 6 = .ok (.invokevirtual 335, 3) := by decide +kernel
theorem pd___B : parseMethodDescriptor "()B" = some ⟨[], some .byte⟩ := by decide +kernel
theorem d18_9 : decode jdk_42_method_54_code 9 = .ok (.ishr, 1) := by decide +kernel
theorem d18_10 : decode jdk_42_method_54_code 10 = .ok (.ireturn, 1) := by decide +kernel
theorem ef_rmLenL (m : MethodId) (a1 : Addr) : entryFrame m #[(.ref a1)] 1 = mkF m 0 #[.val (.ref a1)] [] := by first | (simp [entryFrame, mkF, argsToLocals, Value.category]; done) | rfl
def Q_rmLenL (Z : State) (a1 b1 : Addr) (kb : ClassId) (cs : Int32) (ds : List Int32) (h0 : Heap) (n0 : Nat) (v : Option Value) (h : Heap) (L : List Loc) : Prop := v = some (.int (own_n ds)) ∧ Fr n0 L ∧ h = h0
theorem rmLenL (l : Launch) (Z : State) (a0 : Array Value) (hw : ∀ d ∈ tables_1, d.before a0 Z = true) (ws : List Jvm.Cond) (a1 b1 : Addr) (kb : ClassId) (cs : Int32) (ds : List Int32) (h0 : Heap) (n0 : Nat) (Z0 : n0 ≤ h0.size) (P0 : Exa Z h0 a1 "java/lang/String") (P1 : Fld Z h0 a1 "java/lang/String" "coder" "B" (.int 0)) (P2 : Fld Z h0 a1 "java/lang/String" "value" "[B" (.ref b1)) (P3 : Arv Z h0 b1 kb .byte (own_n ds) (own_ly ds) (.int 0)) (P4 : Sta Z h0 "java/lang/String" "COMPACT_STRINGS" "Z" (.int cs)) (hcs : ¬ (cs = (0 : Int32))) (hf : own_fine ds) :
    MetFree l yq58 (head1 (Jvm.Cond.code yq58 jdk_42_method_54_code 1 (some .int) :: ws) rq57) (fun a U => a = #[(.ref a1)] ∧ Z.Warmed39 U.vm ∧ U.heap = h0) (fun _ _ _ _ _ => True) (fun _ U o U' => ∃ v L, o = .returned v ∧ Q_rmLenL Z a1 b1 kb cs ds h0 n0 v U'.heap L ∧ FrameEnd U o U' L rq57.cells rq57.slots) := by
  refine MetFree.of_bodySF (plainFor_of_name pn_java_lang_String) hisR ?_
  intro p e s m args below meth c s₁ Bd hml0 hP hK
  obtain ⟨rfl, hZ, hh⟩ := hP
  have hx := Bd.exec
  have hby := Bd.bytes
  have hml : c.maxLocals = 1 := hml0
  have hown : s.vm.findClass "java/lang/String" = some m.cls := findClass_of_methodNamed Bd.named
  have hnm := (name_of_methodNamed Bd.named Bd.method).1
  have X0 : Stand p l e rq57 s m #[(.ref a1)] below meth c s₁ [] 0 0 := Stand.of_body Bd
  have e0 : s₁.heap = h0 := by rw [← hh, Bd.state]; rfl
  have N0 := Fr.nil n0
  refine own_fw (A' := (s₁.setTop (mkF m 1 #[rv a1] [.ref a1]))) (fun t k => castTop (ef_rmLenL m a1) (XS.aloadN X0.here hx rfl (hb hby d18_0) rfl rfl k)) ?_
  obtain ⟨T1, X1, e1, st1⟩ := getF X0 hx hZ hown (host := "") (Or.inl (own_w hw 65 rfl)) Via.refl e0 P2 (g := (mkF m 1 #[rv a1] [.ref a1])) rfl rfl (hb hby d18_1)
  refine own_fw (A' := (T1.setTop (mkF m 4 #[rv a1] [.ref b1]))) (fun t k => st1 _ k) ?_
  obtain ⟨cl2, Ar2, q2, S2, M2, H2, G2⟩ := id P3
  refine own_fw (A' := (T1.setTop (mkF m 5 #[rv a1] [.int (own_n ds)]))) (fun t k => X1.arraylength hx (by rw [e1]; exact Ar2.1) (State.isArrayOf_alike hZ.alike Ar2.2.1) (g := (mkF m 4 #[rv a1] [.ref b1])) rfl rfl (hb hby d18_4) _ (by rw [len_of S2 M2]; exact k)) ?_
  refine own_fw (A' := (T1.setTop (mkF m 6 #[rv a1] [.ref a1, .int (own_n ds)]))) (fun t k => XS.aloadN X1.here hx rfl (hb hby d18_5) rfl rfl k) ?_
  obtain ⟨cq3, kq3, qa3, qb3, qc3⟩ := isOf hZ e1 P0
  obtain ⟨_, _, ⟨T3, L3, k3, n3⟩, -, X3, ⟨Lc3, hQ3, l3, y3, z3⟩, st3⟩ := X1.virtualBack hx (y := yq55) (z := yq55) hown (mvT hZ (own_w hw 83 rfl)) (mvT hZ (own_w hw 84 rfl)) (notFace_of_selects (args := #[]) (mvT hZ (own_w hw 86 rfl))) (mvT hZ (own_w hw 86 rfl)) (mvT hZ (own_w hw 85 rfl)) (by decide) (backOf (W := 1) (rmCodL l Z a0 hw [] a1 cs h0 n0 Z0 P1 P4 hcs) hZ (own_w hw 87 rfl) (own_w hw 21 rfl) (by decide) (by decide)) qa3 qc3 (g := (mkF m 6 #[rv a1] [.ref a1, .int (own_n ds)])) rfl (by rw [hml]; rfl) (Steps.refl _) (argsL := []) (rest := [(.int (own_n ds))]) (lenOf pd___B rfl) rfl (by show 2 * 0 + _ ≤ _; exact Nat.le_of_eq rfl) (hb hby d18_6) (fun _ _ => ⟨rfl, e1, (by decide : 0 + 0 ≤ _), (by decide : 0 + 0 ≤ _)⟩)
  dsimp only [Pt.U, Pt.locs, Pt.cells, Pt.slots] at X3 l3 y3 z3 st3 hQ3
  subst l3 y3 z3
  obtain ⟨rfl, Nq3, e3⟩ := hQ3
  have Nf3 := Fr.app N0 Nq3
  refine own_fw (A' := (T3.setTop (mkF m 10 #[rv a1] [.int ((own_n ds) >>> ((0 : Int32) &&& 31))]))) (fun t k => st3.trans (XS.ishr X3.here hx rfl (hb hby d18_9) rfl k)) ?_
  obtain ⟨fs, hr, hrun, hended, hW, hsame⟩ := X3.leave (v := some (.int ((own_n ds) >>> ((0 : Int32) &&& 31)))) (fun h => by rw [Bd.returns] at h; cases h)
  refine ⟨_, _, ?_, hrun, hended, _, _, rfl, ?_, ⟨_, rfl⟩, hW, hsame.mono (by decide) (by decide)⟩
  · exact retOut X3 hx Bd.returns rfl (Or.inl ⟨rfl, by simp, _, rfl⟩) (hb hby d18_10) hr
  · show Q_rmLenL Z a1 b1 kb cs ds h0 n0 _ T3.heap _
    rw [e3]
    exact ⟨(congrArg (fun z => some (Value.int z)) (own_sh0 ds)), Nf3, rfl⟩
theorem ef_rmCodU (m : MethodId) (a1 : Addr) : entryFrame m #[(.ref a1)] 1 = mkF m 0 #[.val (.ref a1)] [] := by first | (simp [entryFrame, mkF, argsToLocals, Value.category]; done) | rfl
def Q_rmCodU (Z : State) (a1 : Addr) (cs : Int32) (h0 : Heap) (n0 : Nat) (v : Option Value) (h : Heap) (L : List Loc) : Prop := v = some (.int 1) ∧ Fr n0 L ∧ h = h0
theorem rmCodU (l : Launch) (Z : State) (a0 : Array Value) (hw : ∀ d ∈ tables_1, d.before a0 Z = true) (ws : List Jvm.Cond) (a1 : Addr) (cs : Int32) (h0 : Heap) (n0 : Nat) (Z0 : n0 ≤ h0.size) (P0 : Fld Z h0 a1 "java/lang/String" "coder" "B" (.int 1)) (P1 : Sta Z h0 "java/lang/String" "COMPACT_STRINGS" "Z" (.int cs)) (hcs : ¬ (cs = (0 : Int32))) :
    MetFree l yq55 (head1 (Jvm.Cond.code yq55 jdk_42_method_152_code 1 (some .byte) :: ws) rq0) (fun a U => a = #[(.ref a1)] ∧ Z.Warmed39 U.vm ∧ U.heap = h0) (fun _ _ _ _ _ => True) (fun _ U o U' => ∃ v L, o = .returned v ∧ Q_rmCodU Z a1 cs h0 n0 v U'.heap L ∧ FrameEnd U o U' L rq0.cells rq0.slots) := by
  refine MetFree.of_bodySF (plainFor_of_name pn_java_lang_String) hisR ?_
  intro p e s m args below meth c s₁ Bd hml0 hP hK
  obtain ⟨rfl, hZ, hh⟩ := hP
  have hx := Bd.exec
  have hby := Bd.bytes
  have hml : c.maxLocals = 1 := hml0
  have hown : s.vm.findClass "java/lang/String" = some m.cls := findClass_of_methodNamed Bd.named
  have hnm := (name_of_methodNamed Bd.named Bd.method).1
  have X0 : Stand p l e rq0 s m #[(.ref a1)] below meth c s₁ [] 0 0 := Stand.of_body Bd
  have e0 : s₁.heap = h0 := by rw [← hh, Bd.state]; rfl
  have N0 := Fr.nil n0
  refine own_fw (A' := (s₁.setTop (mkF m 0 #[.val (.ref a1)] []))) (fun t k => castTop (ef_rmCodU m a1) k) ?_
  obtain ⟨T1, X1, e1, st1⟩ := getS2 X0 hx hZ hown (host := "") (Or.inl (own_w hw 32 rfl)) Via.refl e0 P1 (g := (mkF m 0 #[rv a1] [])) rfl (hb hby d19_0)
  refine own_fw (A' := (T1.setTop (mkF m 7 #[rv a1] [.ref a1]))) (fun t k => st1 _ (XS.ifNo X1.here hx rfl (hb hby d19_3) rfl (XT.i0_eq_f hcs) (XS.aloadN X1.here hx rfl (hb hby d19_6) rfl rfl k))) ?_
  obtain ⟨T2, X2, e2, st2⟩ := getF X1 hx hZ hown (host := "") (Or.inl (own_w hw 63 rfl)) Via.refl e1 P0 (g := (mkF m 7 #[rv a1] [.ref a1])) rfl rfl (hb hby d19_7)
  refine own_fw (A' := (T2.setTop (mkF m 14 #[rv a1] [.int 1]))) (fun t k => st2 _ (XS.goto X2.here hx rfl (pc0 := 10) (pc' := 14) rfl (hb hby d19_10) (by decide) (by decide) k)) ?_
  obtain ⟨fs, hr, hrun, hended, hW, hsame⟩ := X2.leave (v := some (.int 1)) (fun h => by rw [Bd.returns] at h; cases h)
  refine ⟨_, _, ?_, hrun, hended, _, _, rfl, ?_, ⟨_, rfl⟩, hW, hsame.mono (by decide) (by decide)⟩
  · exact retOut X2 hx Bd.returns rfl (Or.inl ⟨rfl, by simp, _, rfl⟩) (hb hby d19_14) hr
  · show Q_rmCodU Z a1 cs h0 n0 _ T2.heap _
    rw [e2]
    exact ⟨rfl, N0, rfl⟩
theorem d23_17 : decode jdk_42_method_154_code 17 = .ok (.iconst 0, 1) := by decide +kernel
theorem ef_rmIslU (m : MethodId) (a1 : Addr) : entryFrame m #[(.ref a1)] 1 = mkF m 0 #[.val (.ref a1)] [] := by first | (simp [entryFrame, mkF, argsToLocals, Value.category]; done) | rfl
def Q_rmIslU (Z : State) (a1 : Addr) (cs : Int32) (h0 : Heap) (n0 : Nat) (v : Option Value) (h : Heap) (L : List Loc) : Prop := v = some (.int 0) ∧ Fr n0 L ∧ h = h0
theorem rmIslU (l : Launch) (Z : State) (a0 : Array Value) (hw : ∀ d ∈ tables_1, d.before a0 Z = true) (ws : List Jvm.Cond) (a1 : Addr) (cs : Int32) (h0 : Heap) (n0 : Nat) (Z0 : n0 ≤ h0.size) (P0 : Fld Z h0 a1 "java/lang/String" "coder" "B" (.int 1)) (P1 : Sta Z h0 "java/lang/String" "COMPACT_STRINGS" "Z" (.int cs)) (hcs : ¬ (cs = (0 : Int32))) :
    MetFree l yq56 (head1 (Jvm.Cond.code yq56 jdk_42_method_154_code 1 (some .boolean) :: ws) rq0) (fun a U => a = #[(.ref a1)] ∧ Z.Warmed39 U.vm ∧ U.heap = h0) (fun _ _ _ _ _ => True) (fun _ U o U' => ∃ v L, o = .returned v ∧ Q_rmIslU Z a1 cs h0 n0 v U'.heap L ∧ FrameEnd U o U' L rq0.cells rq0.slots) := by
  refine MetFree.of_bodySF (plainFor_of_name pn_java_lang_String) hisR ?_
  intro p e s m args below meth c s₁ Bd hml0 hP hK
  obtain ⟨rfl, hZ, hh⟩ := hP
  have hx := Bd.exec
  have hby := Bd.bytes
  have hml : c.maxLocals = 1 := hml0
  have hown : s.vm.findClass "java/lang/String" = some m.cls := findClass_of_methodNamed Bd.named
  have hnm := (name_of_methodNamed Bd.named Bd.method).1
  have X0 : Stand p l e rq0 s m #[(.ref a1)] below meth c s₁ [] 0 0 := Stand.of_body Bd
  have e0 : s₁.heap = h0 := by rw [← hh, Bd.state]; rfl
  have N0 := Fr.nil n0
  refine own_fw (A' := (s₁.setTop (mkF m 0 #[.val (.ref a1)] []))) (fun t k => castTop (ef_rmIslU m a1) k) ?_
  obtain ⟨T1, X1, e1, st1⟩ := getS2 X0 hx hZ hown (host := "") (Or.inl (own_w hw 32 rfl)) Via.refl e0 P1 (g := (mkF m 0 #[rv a1] [])) rfl (hb hby d23_0)
  refine own_fw (A' := (T1.setTop (mkF m 7 #[rv a1] [.ref a1]))) (fun t k => st1 _ (XS.ifNo X1.here hx rfl (hb hby d23_3) rfl (XT.i0_eq_f hcs) (XS.aloadN X1.here hx rfl (hb hby d23_6) rfl rfl k))) ?_
  obtain ⟨T2, X2, e2, st2⟩ := getF X1 hx hZ hown (host := "") (Or.inl (own_w hw 63 rfl)) Via.refl e1 P0 (g := (mkF m 7 #[rv a1] [.ref a1])) rfl rfl (hb hby d23_7)
  refine own_fw (A' := (T2.setTop (mkF m 18 #[rv a1] [.int 0]))) (fun t k => st2 _ (XS.ifYes X2.here hx rfl (pc0 := 10) (pc' := 17) rfl (hb hby d23_10) rfl (XT.i0_ne_t (by decide)) (by decide) (by decide) (XS.iconst X2.here hx rfl (hb hby d23_17) k))) ?_
  obtain ⟨fs, hr, hrun, hended, hW, hsame⟩ := X2.leave (v := some (.int 0)) (fun h => by rw [Bd.returns] at h; cases h)
  refine ⟨_, _, ?_, hrun, hended, _, _, rfl, ?_, ⟨_, rfl⟩, hW, hsame.mono (by decide) (by decide)⟩
  · exact retOut X2 hx Bd.returns rfl (Or.inl ⟨rfl, by simp, _, rfl⟩) (hb hby d23_18) hr
  · show Q_rmIslU Z a1 cs h0 n0 _ T2.heap _
    rw [e2]
    exact ⟨rfl, N0, rfl⟩
theorem ef_rmLenU (m : MethodId) (a1 : Addr) : entryFrame m #[(.ref a1)] 1 = mkF m 0 #[.val (.ref a1)] [] := by first | (simp [entryFrame, mkF, argsToLocals, Value.category]; done) | rfl
def Q_rmLenU (Z : State) (a1 b1 : Addr) (kb : ClassId) (cs : Int32) (ds : List Int32) (h0 : Heap) (n0 : Nat) (v : Option Value) (h : Heap) (L : List Loc) : Prop := v = some (.int (own_n ds)) ∧ Fr n0 L ∧ h = h0
theorem rmLenU (l : Launch) (Z : State) (a0 : Array Value) (hw : ∀ d ∈ tables_1, d.before a0 Z = true) (ws : List Jvm.Cond) (a1 b1 : Addr) (kb : ClassId) (cs : Int32) (ds : List Int32) (h0 : Heap) (n0 : Nat) (Z0 : n0 ≤ h0.size) (P0 : Exa Z h0 a1 "java/lang/String") (P1 : Fld Z h0 a1 "java/lang/String" "coder" "B" (.int 1)) (P2 : Fld Z h0 a1 "java/lang/String" "value" "[B" (.ref b1)) (P3 : Arv Z h0 b1 kb .byte (own_2 ds) (own_by ds) (.int 0)) (P4 : Sta Z h0 "java/lang/String" "COMPACT_STRINGS" "Z" (.int cs)) (hcs : ¬ (cs = (0 : Int32))) (hf : own_fine ds) :
    MetFree l yq58 (head1 (Jvm.Cond.code yq58 jdk_42_method_54_code 1 (some .int) :: ws) rq57) (fun a U => a = #[(.ref a1)] ∧ Z.Warmed39 U.vm ∧ U.heap = h0) (fun _ _ _ _ _ => True) (fun _ U o U' => ∃ v L, o = .returned v ∧ Q_rmLenU Z a1 b1 kb cs ds h0 n0 v U'.heap L ∧ FrameEnd U o U' L rq57.cells rq57.slots) := by
  refine MetFree.of_bodySF (plainFor_of_name pn_java_lang_String) hisR ?_
  intro p e s m args below meth c s₁ Bd hml0 hP hK
  obtain ⟨rfl, hZ, hh⟩ := hP
  have hx := Bd.exec
  have hby := Bd.bytes
  have hml : c.maxLocals = 1 := hml0
  have hown : s.vm.findClass "java/lang/String" = some m.cls := findClass_of_methodNamed Bd.named
  have hnm := (name_of_methodNamed Bd.named Bd.method).1
  have X0 : Stand p l e rq57 s m #[(.ref a1)] below meth c s₁ [] 0 0 := Stand.of_body Bd
  have e0 : s₁.heap = h0 := by rw [← hh, Bd.state]; rfl
  have N0 := Fr.nil n0
  refine own_fw (A' := (s₁.setTop (mkF m 1 #[rv a1] [.ref a1]))) (fun t k => castTop (ef_rmLenU m a1) (XS.aloadN X0.here hx rfl (hb hby d18_0) rfl rfl k)) ?_
  obtain ⟨T1, X1, e1, st1⟩ := getF X0 hx hZ hown (host := "") (Or.inl (own_w hw 65 rfl)) Via.refl e0 P2 (g := (mkF m 1 #[rv a1] [.ref a1])) rfl rfl (hb hby d18_1)
  refine own_fw (A' := (T1.setTop (mkF m 4 #[rv a1] [.ref b1]))) (fun t k => st1 _ k) ?_
  obtain ⟨cl2, Ar2, q2, S2, M2, H2, G2⟩ := id P3
  refine own_fw (A' := (T1.setTop (mkF m 5 #[rv a1] [.int (own_2 ds)]))) (fun t k => X1.arraylength hx (by rw [e1]; exact Ar2.1) (State.isArrayOf_alike hZ.alike Ar2.2.1) (g := (mkF m 4 #[rv a1] [.ref b1])) rfl rfl (hb hby d18_4) _ (by rw [len_of S2 M2]; exact k)) ?_
  refine own_fw (A' := (T1.setTop (mkF m 6 #[rv a1] [.ref a1, .int (own_2 ds)]))) (fun t k => XS.aloadN X1.here hx rfl (hb hby d18_5) rfl rfl k) ?_
  obtain ⟨cq3, kq3, qa3, qb3, qc3⟩ := isOf hZ e1 P0
  obtain ⟨_, _, ⟨T3, L3, k3, n3⟩, -, X3, ⟨Lc3, hQ3, l3, y3, z3⟩, st3⟩ := X1.virtualBack hx (y := yq55) (z := yq55) hown (mvT hZ (own_w hw 83 rfl)) (mvT hZ (own_w hw 84 rfl)) (notFace_of_selects (args := #[]) (mvT hZ (own_w hw 86 rfl))) (mvT hZ (own_w hw 86 rfl)) (mvT hZ (own_w hw 85 rfl)) (by decide) (backOf (W := 1) (rmCodU l Z a0 hw [] a1 cs h0 n0 Z0 P1 P4 hcs) hZ (own_w hw 87 rfl) (own_w hw 21 rfl) (by decide) (by decide)) qa3 qc3 (g := (mkF m 6 #[rv a1] [.ref a1, .int (own_2 ds)])) rfl (by rw [hml]; rfl) (Steps.refl _) (argsL := []) (rest := [(.int (own_2 ds))]) (lenOf pd___B rfl) rfl (by show 2 * 0 + _ ≤ _; exact Nat.le_of_eq rfl) (hb hby d18_6) (fun _ _ => ⟨rfl, e1, (by decide : 0 + 0 ≤ _), (by decide : 0 + 0 ≤ _)⟩)
  dsimp only [Pt.U, Pt.locs, Pt.cells, Pt.slots] at X3 l3 y3 z3 st3 hQ3
  subst l3 y3 z3
  obtain ⟨rfl, Nq3, e3⟩ := hQ3
  have Nf3 := Fr.app N0 Nq3
  refine own_fw (A' := (T3.setTop (mkF m 10 #[rv a1] [.int ((own_2 ds) >>> ((1 : Int32) &&& 31))]))) (fun t k => st3.trans (XS.ishr X3.here hx rfl (hb hby d18_9) rfl k)) ?_
  obtain ⟨fs, hr, hrun, hended, hW, hsame⟩ := X3.leave (v := some (.int ((own_2 ds) >>> ((1 : Int32) &&& 31)))) (fun h => by rw [Bd.returns] at h; cases h)
  refine ⟨_, _, ?_, hrun, hended, _, _, rfl, ?_, ⟨_, rfl⟩, hW, hsame.mono (by decide) (by decide)⟩
  · exact retOut X3 hx Bd.returns rfl (Or.inl ⟨rfl, by simp, _, rfl⟩) (hb hby d18_10) hr
  · show Q_rmLenU Z a1 b1 kb cs ds h0 n0 _ T3.heap _
    rw [e3]
    exact ⟨(congrArg (fun z => some (Value.int z)) (own_half hf)), Nf3, rfl⟩
theorem d22_0 : decode jdk_41_method_12_code 0 = .ok (.iload_n 0, 1) := by decide +kernel
theorem d22_1 : decode jdk_41_method_12_code 1 = .ok (.ifCond .lt 13, 3) := by decide +kernel
theorem d22_4 : decode jdk_41_method_12_code 4 = .ok (.iload_n 0, 1) := by decide +kernel
theorem d22_5 : decode jdk_41_method_12_code 5 = .ok (.iload_n 1, 1) := by decide +kernel
theorem d22_6 : decode jdk_41_method_12_code 6 = .ok (.if_icmp .gt 8, 3) := by decide +kernel
theorem d22_9 : decode jdk_41_method_12_code 9 = .ok (.iload_n 1, 1) := by decide +kernel
theorem d22_10 : decode jdk_41_method_12_code 10 = .ok (.iload_n 2, 1) := by decide +kernel
theorem d22_11 : decode jdk_41_method_12_code 11 = .ok (.if_icmp .le 11, 3) := by decide +kernel
theorem d22_22 : decode jdk_41_method_12_code 22 = .ok (.iload_n 0, 1) := by decide +kernel
theorem d22_23 : decode jdk_41_method_12_code 23 = .ok (.ireturn, 1) := by decide +kernel
theorem ef_rmPft (m : MethodId) (p1 : Int32) : entryFrame m #[(.int 0), (.int p1), (.int p1), .null] 4 = mkF m 0 #[.val (.int 0), .val (.int p1), .val (.int p1), .val .null] [] := by first | (simp [entryFrame, mkF, argsToLocals, Value.category]; done) | rfl
def Q_rmPft (Z : State) (p1 : Int32) (h0 : Heap) (n0 : Nat) (v : Option Value) (h : Heap) (L : List Loc) : Prop := v = some (.int 0) ∧ Fr n0 L ∧ h = h0
theorem rmPft (l : Launch) (Z : State) (a0 : Array Value) (hw : ∀ d ∈ tables_1, d.before a0 Z = true) (ws : List Jvm.Cond) (p1 : Int32) (h0 : Heap) (n0 : Nat) (Z0 : n0 ≤ h0.size) (hq : ¬ (p1 < (0 : Int32))) :
    MetFree l yq59 (head1 (Jvm.Cond.code yq59 jdk_41_method_12_code 4 (some .int) :: ws) rq0) (fun a U => a = #[(.int 0), (.int p1), (.int p1), .null] ∧ Z.Warmed39 U.vm ∧ U.heap = h0) (fun _ _ _ _ _ => True) (fun _ U o U' => ∃ v L, o = .returned v ∧ Q_rmPft Z p1 h0 n0 v U'.heap L ∧ FrameEnd U o U' L rq0.cells rq0.slots) := by
  refine MetFree.of_bodySF (plainFor_of_name pn_jdk_internal_util_Preconditions) hisR ?_
  intro p e s m args below meth c s₁ Bd hml0 hP hK
  obtain ⟨rfl, hZ, hh⟩ := hP
  have hx := Bd.exec
  have hby := Bd.bytes
  have hml : c.maxLocals = 4 := hml0
  have hown : s.vm.findClass "jdk/internal/util/Preconditions" = some m.cls := findClass_of_methodNamed Bd.named
  have hnm := (name_of_methodNamed Bd.named Bd.method).1
  have X0 : Stand p l e rq0 s m #[(.int 0), (.int p1), (.int p1), .null] below meth c s₁ [] 0 0 := Stand.of_body Bd
  have e0 : s₁.heap = h0 := by rw [← hh, Bd.state]; rfl
  have N0 := Fr.nil n0
  refine own_fw (A' := (s₁.setTop (mkF m 23 #[iv 0, iv p1, iv p1, .val (.null)] [.int 0]))) (fun t k => castTop (ef_rmPft m p1) (XS.iloadN X0.here hx rfl (hb hby d22_0) rfl (XS.ifNo X0.here hx rfl (hb hby d22_1) rfl (XT.i0_lt_f (by decide)) (XS.iloadN X0.here hx rfl (hb hby d22_4) rfl (XS.iloadN X0.here hx rfl (hb hby d22_5) rfl (XS.icmpNo X0.here hx rfl (hb hby d22_6) rfl (XT.ii_gt_f hq) (XS.iloadN X0.here hx rfl (hb hby d22_9) rfl (XS.iloadN X0.here hx rfl (hb hby d22_10) rfl (XS.icmpYes X0.here hx rfl (pc0 := 11) (pc' := 22) rfl (hb hby d22_11) rfl (XT.ii_le_t Int32.lt_irrefl) (by decide) (by decide) (XS.iloadN X0.here hx rfl (hb hby d22_22) rfl k)))))))))) ?_
  obtain ⟨fs, hr, hrun, hended, hW, hsame⟩ := X0.leave (v := some (.int 0)) (fun h => by rw [Bd.returns] at h; cases h)
  refine ⟨_, _, ?_, hrun, hended, _, _, rfl, ?_, ⟨_, rfl⟩, hW, hsame.mono (by decide) (by decide)⟩
  · exact retOut X0 hx Bd.returns rfl (Or.inl ⟨rfl, by simp, _, rfl⟩) (hb hby d22_23) hr
  · show Q_rmPft Z p1 h0 n0 _ s₁.heap _
    rw [e0]
    exact ⟨rfl, N0, rfl⟩
theorem pn_java_util_Objects : plainName "java/util/Objects" = true := by first | (simp [plainName, overriddenIn]; done) | decide +kernel
theorem d21_0 : decode jdk_31_method_18_code 0 = .ok (.iload_n 0, 1) := by decide +kernel
theorem d21_1 : decode jdk_31_method_18_code 1 = .ok (.iload_n 1, 1) := by decide +kernel
theorem d21_2 : decode jdk_31_method_18_code 2 = .ok (.iload_n 2, 1) := by decide +kernel
theorem d21_3 : decode jdk_31_method_18_code 3 = .ok (.aconst_null, 1) := by decide +kernel
theorem d21_4 : decode jdk_31_method_18_code 4 = .ok (.invokestatic 111, 3) := by decide +kernel
theorem pd__IIILjava_util_function_BiFunction__I : parseMethodDescriptor "(IIILjava/util/function/BiFunction;)I" = some ⟨[.int, .int, .int, (.object "java/util/function/BiFunction")], some .int⟩ := by decide +kernel
theorem d21_7 : decode jdk_31_method_18_code 7 = .ok (.ireturn, 1) := by decide +kernel
theorem ef_rmOft (m : MethodId) (p1 : Int32) : entryFrame m #[(.int 0), (.int p1), (.int p1)] 3 = mkF m 0 #[.val (.int 0), .val (.int p1), .val (.int p1)] [] := by first | (simp [entryFrame, mkF, argsToLocals, Value.category]; done) | rfl
def Q_rmOft (Z : State) (p1 : Int32) (h0 : Heap) (n0 : Nat) (v : Option Value) (h : Heap) (L : List Loc) : Prop := v = some (.int 0) ∧ Fr n0 L ∧ h = h0
theorem rmOft (l : Launch) (Z : State) (a0 : Array Value) (hw : ∀ d ∈ tables_1, d.before a0 Z = true) (ws : List Jvm.Cond) (p1 : Int32) (h0 : Heap) (n0 : Nat) (Z0 : n0 ≤ h0.size) (hq : ¬ (p1 < (0 : Int32))) :
    MetFree l yq61 (head1 (Jvm.Cond.code yq61 jdk_31_method_18_code 3 (some .int) :: ws) rq60) (fun a U => a = #[(.int 0), (.int p1), (.int p1)] ∧ Z.Warmed39 U.vm ∧ U.heap = h0) (fun _ _ _ _ _ => True) (fun _ U o U' => ∃ v L, o = .returned v ∧ Q_rmOft Z p1 h0 n0 v U'.heap L ∧ FrameEnd U o U' L rq60.cells rq60.slots) := by
  refine MetFree.of_bodySF (plainFor_of_name pn_java_util_Objects) hisR ?_
  intro p e s m args below meth c s₁ Bd hml0 hP hK
  obtain ⟨rfl, hZ, hh⟩ := hP
  have hx := Bd.exec
  have hby := Bd.bytes
  have hml : c.maxLocals = 3 := hml0
  have hown : s.vm.findClass "java/util/Objects" = some m.cls := findClass_of_methodNamed Bd.named
  have hnm := (name_of_methodNamed Bd.named Bd.method).1
  have X0 : Stand p l e rq60 s m #[(.int 0), (.int p1), (.int p1)] below meth c s₁ [] 0 0 := Stand.of_body Bd
  have e0 : s₁.heap = h0 := by rw [← hh, Bd.state]; rfl
  have N0 := Fr.nil n0
  refine own_fw (A' := (s₁.setTop (mkF m 4 #[iv 0, iv p1, iv p1] [.null, .int p1, .int p1, .int 0]))) (fun t k => castTop (ef_rmOft m p1) (XS.iloadN X0.here hx rfl (hb hby d21_0) rfl (XS.iloadN X0.here hx rfl (hb hby d21_1) rfl (XS.iloadN X0.here hx rfl (hb hby d21_2) rfl (XS.aconstNull X0.here hx rfl (hb hby d21_3) k))))) ?_
  obtain ⟨_, _, ⟨T1, L1, k1, n1⟩, -, X1, ⟨Lc1, hQ1, l1, y1, z1⟩, st1⟩ := Jvm.LawKit.callS X0 hx (y := yq59) hown (mvT hZ (own_w hw 97 rfl)) (mvT hZ (own_w hw 98 rfl)) (mvT hZ (own_w hw 99 rfl)) (mvT hZ (own_w hw 100 rfl)) (by decide) (backOf (W := 0) (rmPft l Z a0 hw [] p1 h0 n0 Z0 hq) hZ (own_w hw 100 rfl) (own_w hw 99 rfl) (by decide) (by decide)) (g := (mkF m 4 #[iv 0, iv p1, iv p1] [.null, .int p1, .int p1, .int 0])) rfl (by rw [hml]; rfl) (argsL := [(.int 0), (.int p1), (.int p1), .null]) (rest := []) (lenOf pd__IIILjava_util_function_BiFunction__I rfl) rfl (by show 2 * 0 + _ ≤ _; exact Nat.le_of_eq rfl) (hb hby d21_4) (fun _ _ => ⟨rfl, e0, (by decide : 0 + 0 ≤ _), (by decide : 0 + 0 ≤ _)⟩)
  dsimp only [Pt.U, Pt.locs, Pt.cells, Pt.slots] at X1 l1 y1 z1 st1 hQ1
  subst l1 y1 z1
  obtain ⟨rfl, Nq1, e1⟩ := hQ1
  have Nf1 := Fr.app N0 Nq1
  refine own_fw (A' := (T1.setTop (mkF m 7 #[iv 0, iv p1, iv p1] [.int 0]))) (fun t k => st1 _ k) ?_
  obtain ⟨fs, hr, hrun, hended, hW, hsame⟩ := X1.leave (v := some (.int 0)) (fun h => by rw [Bd.returns] at h; cases h)
  refine ⟨_, _, ?_, hrun, hended, _, _, rfl, ?_, ⟨_, rfl⟩, hW, hsame.mono (by decide) (by decide)⟩
  · exact retOut X1 hx Bd.returns rfl (Or.inl ⟨rfl, by simp, _, rfl⟩) (hb hby d21_7) hr
  · show Q_rmOft Z p1 h0 n0 _ T1.heap _
    rw [e1]
    exact ⟨rfl, Nf1, rfl⟩
theorem d25_0 : decode jdk_52_method_11_code 0 = .ok (.getstatic 44, 3) := by decide +kernel
theorem d25_3 : decode jdk_52_method_11_code 3 = .ok (.ifCond .ne 16, 3) := by decide +kernel
theorem d25_19 : decode jdk_52_method_11_code 19 = .ok (.iload_n 2, 1) := by decide +kernel
theorem d25_20 : decode jdk_52_method_11_code 20 = .ok (.iload_n 1, 1) := by decide +kernel
theorem d25_21 : decode jdk_52_method_11_code 21 = .ok (.isub, 1) := by decide +kernel
theorem d25_22 : decode jdk_52_method_11_code 22 = .ok (.istore 4, 2) := by decide +kernel
theorem d25_24 : decode jdk_52_method_11_code 24 = .ok (.iload_n 1, 1) := by decide +kernel
theorem d25_25 : decode jdk_52_method_11_code 25 = .ok (.istore 5, 2) := by decide +kernel
theorem d25_27 : decode jdk_52_method_11_code 27 = .ok (.iload_n 3, 1) := by decide +kernel
theorem d25_28 : decode jdk_52_method_11_code 28 = .ok (.ifCond .eq 16, 3) := by decide +kernel
theorem d25_44 : decode jdk_52_method_11_code 44 = .ok (.iload 5, 2) := by decide +kernel
theorem d25_46 : decode jdk_52_method_11_code 46 = .ok (.iload_n 2, 1) := by decide +kernel
theorem d25_47 : decode jdk_52_method_11_code 47 = .ok (.iconst 1, 1) := by decide +kernel
theorem d25_48 : decode jdk_52_method_11_code 48 = .ok (.isub, 1) := by decide +kernel
theorem d25_49 : decode jdk_52_method_11_code 49 = .ok (.if_icmp .ge 39, 3) := by decide +kernel
theorem d25_88 : decode jdk_52_method_11_code 88 = .ok (.iload 4, 2) := by decide +kernel
theorem d25_90 : decode jdk_52_method_11_code 90 = .ok (.ireturn, 1) := by decide +kernel
theorem d25_52 : decode jdk_52_method_11_code 52 = .ok (.aload_n 0, 1) := by decide +kernel
theorem d25_53 : decode jdk_52_method_11_code 53 = .ok (.iload 5, 2) := by decide +kernel
theorem d25_55 : decode jdk_52_method_11_code 55 = .ok (.iinc 5 1, 3) := by decide +kernel
theorem d25_58 : decode jdk_52_method_11_code 58 = .ok (.invokestatic 71, 3) := by decide +kernel
theorem d25_61 : decode jdk_52_method_11_code 61 = .ok (.invokestatic 75, 3) := by decide +kernel
theorem d25_64 : decode jdk_52_method_11_code 64 = .ok (.ifCond .eq (-20), 3) := by decide +kernel
theorem d25_67 : decode jdk_52_method_11_code 67 = .ok (.aload_n 0, 1) := by decide +kernel
theorem d25_68 : decode jdk_52_method_11_code 68 = .ok (.iload 5, 2) := by decide +kernel
theorem d25_70 : decode jdk_52_method_11_code 70 = .ok (.invokestatic 71, 3) := by decide +kernel
theorem d25_73 : decode jdk_52_method_11_code 73 = .ok (.invokestatic 81, 3) := by decide +kernel
theorem d25_76 : decode jdk_52_method_11_code 76 = .ok (.ifCond .eq (-32), 3) := by decide +kernel
theorem d25_79 : decode jdk_52_method_11_code 79 = .ok (.iinc 4 (-1), 3) := by decide +kernel
theorem d25_82 : decode jdk_52_method_11_code 82 = .ok (.iinc 5 1, 3) := by decide +kernel
theorem d25_85 : decode jdk_52_method_11_code 85 = .ok (.goto (-41), 3) := by decide +kernel
theorem ef_rmUcz (m : MethodId) (a1 : Addr) (ds : List Int32) : entryFrame m #[(.ref a1), (.int 0), (.int (own_n ds)), (.int 0)] 6 = mkF m 0 #[.val (.ref a1), .val (.int 0), .val (.int (own_n ds)), .val (.int 0), .unset, .unset] [] := by first | (simp [entryFrame, mkF, argsToLocals, Value.category]; done) | rfl
def Q_rmUcz (Z : State) (a1 : Addr) (kb : ClassId) (ds : List Int32) (h0 : Heap) (n0 : Nat) (v : Option Value) (h : Heap) (L : List Loc) : Prop := ∃ r : Int32, v = some (.int r) ∧ Fr n0 L ∧ h = h0 ∧ (¬ (r = (0 : Int32))) ∧ (¬ ((100 : Int32) < r))
theorem rmUcz (l : Launch) (Z : State) (a0 : Array Value) (hw : ∀ d ∈ tables_1, d.before a0 Z = true) (ws : List Jvm.Cond) (a1 : Addr) (kb : ClassId) (ds : List Int32) (h0 : Heap) (n0 : Nat) (Z0 : n0 ≤ h0.size) (P0 : Arv Z h0 a1 kb .byte (own_2 ds) (own_by ds) (.int 0)) (P1 : Sta Z h0 "java/lang/StringUTF16" "$assertionsDisabled" "Z" (.int 1)) (P2 : Sta Z h0 "java/lang/StringUTF16" "HI_BYTE_SHIFT" "I" (.int 0)) (P3 : Sta Z h0 "java/lang/StringUTF16" "LO_BYTE_SHIFT" "I" (.int 8)) (hf : own_fine ds) :
    MetFree l yq62 (head1 (Jvm.Cond.code yq62 jdk_52_method_11_code 6 (some .int) :: ws) rq57) (fun a U => a = #[(.ref a1), (.int 0), (.int (own_n ds)), (.int 0)] ∧ Z.Warmed39 U.vm ∧ U.heap = h0) (fun _ _ _ _ _ => True) (fun _ U o U' => ∃ v L, o = .returned v ∧ Q_rmUcz Z a1 kb ds h0 n0 v U'.heap L ∧ FrameEnd U o U' L rq57.cells rq57.slots) := by
  refine MetFree.of_bodySF (plainFor_of_name pn_java_lang_StringUTF16) hisR ?_
  intro p e s m args below meth c s₁ Bd hml0 hP hK
  obtain ⟨rfl, hZ, hh⟩ := hP
  have hx := Bd.exec
  have hby := Bd.bytes
  have hml : c.maxLocals = 6 := hml0
  have hown : s.vm.findClass "java/lang/StringUTF16" = some m.cls := findClass_of_methodNamed Bd.named
  have hnm := (name_of_methodNamed Bd.named Bd.method).1
  have X0 : Stand p l e rq57 s m #[(.ref a1), (.int 0), (.int (own_n ds)), (.int 0)] below meth c s₁ [] 0 0 := Stand.of_body Bd
  have e0 : s₁.heap = h0 := by rw [← hh, Bd.state]; rfl
  have N0 := Fr.nil n0
  refine own_fw (A' := (s₁.setTop (mkF m 0 #[.val (.ref a1), .val (.int 0), .val (.int (own_n ds)), .val (.int 0), .unset, .unset] []))) (fun t k => castTop (ef_rmUcz m a1 ds) k) ?_
  obtain ⟨T1, X1, e1, st1⟩ := getS2 X0 hx hZ hown (host := "") (Or.inl (own_w hw 54 rfl)) Via.refl e0 P1 (g := (mkF m 0 #[rv a1, iv 0, iv (own_n ds), iv 0, .unset, .unset] [])) rfl (hb hby d25_0)
  refine own_fw (A' := (T1.setTop (mkF m 44 #[rv a1, iv 0, iv (own_n ds), iv 0, iv ((own_n ds) - (0 : Int32)), iv 0] []))) (fun t k => st1 _ (XS.ifYes X1.here hx rfl (pc0 := 3) (pc' := 19) rfl (hb hby d25_3) rfl (XT.i0_ne_t (by decide)) (by decide) (by decide) (XS.iloadN X1.here hx rfl (hb hby d25_19) rfl (XS.iloadN X1.here hx rfl (hb hby d25_20) rfl (XS.isub X1.here hx rfl (hb hby d25_21) rfl (XS.istore X1.here hx rfl (hb hby d25_22) rfl (l' := #[rv a1, iv 0, iv (own_n ds), iv 0, iv ((own_n ds) - (0 : Int32)), .unset]) rfl (XS.iloadN X1.here hx rfl (hb hby d25_24) rfl (XS.istore X1.here hx rfl (hb hby d25_25) rfl (l' := #[rv a1, iv 0, iv (own_n ds), iv 0, iv ((own_n ds) - (0 : Int32)), iv 0]) rfl (XS.iloadN X1.here hx rfl (hb hby d25_27) rfl (XS.ifYes X1.here hx rfl (pc0 := 28) (pc' := 44) rfl (hb hby d25_28) rfl (XT.i0_eq_t rfl) (by decide) (by decide) k)))))))))) ?_
  have HL : ∀ (n : Nat) (cn : Int32) (i : Int32) (TL : State) (LL : List Loc) (_ : Stand p l e rq57 s m #[(.ref a1), (.int 0), (.int (own_n ds)), (.int 0)] below meth c TL LL 0 0) (_ : TL.heap = h0) (_ : Fr n0 LL) (_ : own_inv ds n cn i), ∃ U o, Steps p.tables e below (TL.setTop (mkF m 44 #[rv a1, iv 0, iv (own_n ds), iv 0, iv cn, iv i] [])) U ∧ U.status = .running ∧ Ended U below o ∧ ∃ v L, o = .returned v ∧ Q_rmUcz Z a1 kb ds h0 n0 v U.heap L ∧ FrameEnd s o U L rq57.cells rq57.slots := by
    intro n
    induction n with
    | zero =>
      intro cn i TL LL XL eL NL hinv
      refine own_fw (A' := (TL.setTop (mkF m 90 #[rv a1, iv 0, iv (own_n ds), iv 0, iv cn, iv i] [.int cn]))) (fun t k => XS.iload XL.here hx rfl (hb hby d25_44) rfl (XS.iloadN XL.here hx rfl (hb hby d25_46) rfl (XS.iconst XL.here hx rfl (hb hby d25_47) (XS.isub XL.here hx rfl (hb hby d25_48) rfl (XS.icmpYes XL.here hx rfl (pc0 := 49) (pc' := 88) rfl (hb hby d25_49) rfl (XT.ii_ge_t (own_z hf hinv)) (by decide) (by decide) (XS.iload XL.here hx rfl (hb hby d25_88) rfl k)))))) ?_
      obtain ⟨fs, hr, hrun, hended, hW, hsame⟩ := XL.leave (v := some (.int cn)) (fun h => by rw [Bd.returns] at h; cases h)
      refine ⟨_, _, ?_, hrun, hended, _, _, rfl, ?_, ⟨_, rfl⟩, hW, hsame.mono (by decide) (by decide)⟩
      · exact retOut XL hx Bd.returns rfl (Or.inl ⟨rfl, by simp, _, rfl⟩) (hb hby d25_90) hr
      · show Q_rmUcz Z a1 kb ds h0 n0 _ TL.heap _
        rw [eL]
        exact ⟨cn, rfl, NL, rfl, (own_r0 hf hinv), (own_r1 hf hinv)⟩
    | succ n ih =>
      intro cn i TL LL XL eL NL hinv
      refine own_fw (A' := (TL.setTop (mkF m 49 #[rv a1, iv 0, iv (own_n ds), iv 0, iv cn, iv i] [.int ((own_n ds) - (1 : Int32)), .int i]))) (fun t k => XS.iload XL.here hx rfl (hb hby d25_44) rfl (XS.iloadN XL.here hx rfl (hb hby d25_46) rfl (XS.iconst XL.here hx rfl (hb hby d25_47) (XS.isub XL.here hx rfl (hb hby d25_48) rfl k)))) ?_
      by_cases hc2 : i < ((own_n ds) - (1 : Int32))
      · refine own_fw (A' := (TL.setTop (mkF m 58 #[rv a1, iv 0, iv (own_n ds), iv 0, iv cn, iv (i + (1 : Int32))] [.int i, .ref a1]))) (fun t k => XS.icmpNo XL.here hx rfl (hb hby d25_49) rfl (XT.ii_ge_f hc2) (XS.aloadN XL.here hx rfl (hb hby d25_52) rfl rfl (XS.iload XL.here hx rfl (hb hby d25_53) rfl (XS.iinc XL.here hx rfl (hb hby d25_55) rfl (l' := #[rv a1, iv 0, iv (own_n ds), iv 0, iv cn, iv (i + (1 : Int32))]) rfl k)))) ?_
        obtain ⟨_, _, ⟨T3, L3, k3, n3⟩, -, X3, ⟨Lc3, hQ3, l3, y3, z3⟩, st3⟩ := Jvm.LawKit.callS XL hx (y := yq1) hown (mvT hZ (own_w hw 57 rfl)) (mvT hZ (own_w hw 58 rfl)) (mvT hZ (own_w hw 35 rfl)) (mvT hZ (own_w hw 59 rfl)) (by decide) (backOf (W := 0) (rmGet l Z a0 hw [] a1 kb ds i h0 n0 Z0 P0 P1 P2 P3 hf (own_u0 hinv) (own_u1 hf hc2)) hZ (own_w hw 59 rfl) (own_w hw 35 rfl) (by decide) (by decide)) (g := (mkF m 58 #[rv a1, iv 0, iv (own_n ds), iv 0, iv cn, iv (i + (1 : Int32))] [.int i, .ref a1])) rfl (by rw [hml]; rfl) (argsL := [(.ref a1), (.int i)]) (rest := []) (lenOf pd___BI_C rfl) rfl (by show 2 * 0 + _ ≤ _; exact Nat.le_of_eq rfl) (hb hby d25_58) (fun _ _ => ⟨rfl, eL, (by decide : 0 + 0 ≤ _), (by decide : 0 + 0 ≤ _)⟩)
        dsimp only [Pt.U, Pt.locs, Pt.cells, Pt.slots] at X3 l3 y3 z3 st3 hQ3
        subst l3 y3 z3
        obtain ⟨rfl, Nq3, e3⟩ := hQ3
        have Nf3 := Fr.app NL Nq3
        refine own_fw (A' := (T3.setTop (mkF m 61 #[rv a1, iv 0, iv (own_n ds), iv 0, iv cn, iv (i + (1 : Int32))] [.int (own_at ds i)]))) (fun t k => st3 _ k) ?_
        obtain ⟨_, _, ⟨T4, L4, k4, n4⟩, -, X4, ⟨Lc4, hQ4, l4, y4, z4⟩, st4⟩ := Jvm.LawKit.callS X3 hx (y := yq51) hown (mvT hZ (own_w hw 130 rfl)) (mvT hZ (own_w hw 131 rfl)) (mvT hZ (own_w hw 132 rfl)) (mvT hZ (own_w hw 133 rfl)) (by decide) (backOf (W := 0) (rmHs l Z a0 hw [] (own_at ds i) h0 n0 Z0 ) hZ (own_w hw 133 rfl) (own_w hw 132 rfl) (by decide) (by decide)) (g := (mkF m 61 #[rv a1, iv 0, iv (own_n ds), iv 0, iv cn, iv (i + (1 : Int32))] [.int (own_at ds i)])) rfl (by rw [hml]; rfl) (argsL := [(.int (own_at ds i))]) (rest := []) (lenOf pd__C_Z rfl) rfl (by show 2 * 0 + _ ≤ _; exact Nat.le_of_eq rfl) (hb hby d25_61) (fun _ _ => ⟨rfl, e3, (by decide : 0 + 0 ≤ _), (by decide : 0 + 0 ≤ _)⟩)
        dsimp only [Pt.U, Pt.locs, Pt.cells, Pt.slots] at X4 l4 y4 z4 st4 hQ4
        subst l4 y4 z4
        obtain ⟨rfl, Nq4, e4⟩ := hQ4
        have Nf4 := Fr.app Nf3 Nq4
        refine own_fw (A' := (T4.setTop (mkF m 64 #[rv a1, iv 0, iv (own_n ds), iv 0, iv cn, iv (i + (1 : Int32))] [.int (own_hs (own_at ds i))]))) (fun t k => st4 _ k) ?_
        by_cases hc5 : (own_hs (own_at ds i)) = (0 : Int32)
        · refine own_fw (A' := (T4.setTop (mkF m 44 #[rv a1, iv 0, iv (own_n ds), iv 0, iv cn, iv (i + (1 : Int32))] []))) (fun t k => XS.ifYes X4.here hx rfl (pc0 := 64) (pc' := 44) rfl (hb hby d25_64) rfl (XT.i0_eq_t hc5) (by decide) (by decide) k) ?_
          exact ih _ _ _ _ X4 e4 Nf4 (own_nA hf hinv hc2)
        · refine own_fw (A' := (T4.setTop (mkF m 70 #[rv a1, iv 0, iv (own_n ds), iv 0, iv cn, iv (i + (1 : Int32))] [.int (i + (1 : Int32)), .ref a1]))) (fun t k => XS.ifNo X4.here hx rfl (hb hby d25_64) rfl (XT.i0_eq_f hc5) (XS.aloadN X4.here hx rfl (hb hby d25_67) rfl rfl (XS.iload X4.here hx rfl (hb hby d25_68) rfl k))) ?_
          obtain ⟨_, _, ⟨T6, L6, k6, n6⟩, -, X6, ⟨Lc6, hQ6, l6, y6, z6⟩, st6⟩ := Jvm.LawKit.callS X4 hx (y := yq1) hown (mvT hZ (own_w hw 57 rfl)) (mvT hZ (own_w hw 58 rfl)) (mvT hZ (own_w hw 35 rfl)) (mvT hZ (own_w hw 59 rfl)) (by decide) (backOf (W := 0) (rmGet l Z a0 hw [] a1 kb ds (i + (1 : Int32)) h0 n0 Z0 P0 P1 P2 P3 hf (own_v0 hf (own_u0 hinv) (own_u1 hf hc2)) (own_u3 hf hinv hc2)) hZ (own_w hw 59 rfl) (own_w hw 35 rfl) (by decide) (by decide)) (g := (mkF m 70 #[rv a1, iv 0, iv (own_n ds), iv 0, iv cn, iv (i + (1 : Int32))] [.int (i + (1 : Int32)), .ref a1])) rfl (by rw [hml]; rfl) (argsL := [(.ref a1), (.int (i + (1 : Int32)))]) (rest := []) (lenOf pd___BI_C rfl) rfl (by show 2 * 0 + _ ≤ _; exact Nat.le_of_eq rfl) (hb hby d25_70) (fun _ _ => ⟨rfl, e4, (by decide : 0 + 0 ≤ _), (by decide : 0 + 0 ≤ _)⟩)
          dsimp only [Pt.U, Pt.locs, Pt.cells, Pt.slots] at X6 l6 y6 z6 st6 hQ6
          subst l6 y6 z6
          obtain ⟨rfl, Nq6, e6⟩ := hQ6
          have Nf6 := Fr.app Nf4 Nq6
          refine own_fw (A' := (T6.setTop (mkF m 73 #[rv a1, iv 0, iv (own_n ds), iv 0, iv cn, iv (i + (1 : Int32))] [.int (own_at ds (i + (1 : Int32)))]))) (fun t k => st6 _ k) ?_
          obtain ⟨_, _, ⟨T7, L7, k7, n7⟩, -, X7, ⟨Lc7, hQ7, l7, y7, z7⟩, st7⟩ := Jvm.LawKit.callS X6 hx (y := yq52) hown (mvT hZ (own_w hw 160 rfl)) (mvT hZ (own_w hw 161 rfl)) (mvT hZ (own_w hw 132 rfl)) (mvT hZ (own_w hw 162 rfl)) (by decide) (backOf (W := 0) (rmLs l Z a0 hw [] (own_at ds (i + (1 : Int32))) h0 n0 Z0 ) hZ (own_w hw 162 rfl) (own_w hw 132 rfl) (by decide) (by decide)) (g := (mkF m 73 #[rv a1, iv 0, iv (own_n ds), iv 0, iv cn, iv (i + (1 : Int32))] [.int (own_at ds (i + (1 : Int32)))])) rfl (by rw [hml]; rfl) (argsL := [(.int (own_at ds (i + (1 : Int32))))]) (rest := []) (lenOf pd__C_Z rfl) rfl (by show 2 * 0 + _ ≤ _; exact Nat.le_of_eq rfl) (hb hby d25_73) (fun _ _ => ⟨rfl, e6, (by decide : 0 + 0 ≤ _), (by decide : 0 + 0 ≤ _)⟩)
          dsimp only [Pt.U, Pt.locs, Pt.cells, Pt.slots] at X7 l7 y7 z7 st7 hQ7
          subst l7 y7 z7
          obtain ⟨rfl, Nq7, e7⟩ := hQ7
          have Nf7 := Fr.app Nf6 Nq7
          refine own_fw (A' := (T7.setTop (mkF m 76 #[rv a1, iv 0, iv (own_n ds), iv 0, iv cn, iv (i + (1 : Int32))] [.int (own_ls (own_at ds (i + (1 : Int32))))]))) (fun t k => st7 _ k) ?_
          by_cases hc8 : (own_ls (own_at ds (i + (1 : Int32)))) = (0 : Int32)
          · refine own_fw (A' := (T7.setTop (mkF m 44 #[rv a1, iv 0, iv (own_n ds), iv 0, iv cn, iv (i + (1 : Int32))] []))) (fun t k => XS.ifYes X7.here hx rfl (pc0 := 76) (pc' := 44) rfl (hb hby d25_76) rfl (XT.i0_eq_t hc8) (by decide) (by decide) k) ?_
            exact ih _ _ _ _ X7 e7 Nf7 (own_nA hf hinv hc2)
          · refine own_fw (A' := (T7.setTop (mkF m 44 #[rv a1, iv 0, iv (own_n ds), iv 0, iv (cn + (-1 : Int32)), iv ((i + (1 : Int32)) + (1 : Int32))] []))) (fun t k => XS.ifNo X7.here hx rfl (hb hby d25_76) rfl (XT.i0_eq_f hc8) (XS.iinc X7.here hx rfl (hb hby d25_79) rfl (l' := #[rv a1, iv 0, iv (own_n ds), iv 0, iv (cn + (-1 : Int32)), iv (i + (1 : Int32))]) rfl (XS.iinc X7.here hx rfl (hb hby d25_82) rfl (l' := #[rv a1, iv 0, iv (own_n ds), iv 0, iv (cn + (-1 : Int32)), iv ((i + (1 : Int32)) + (1 : Int32))]) rfl (XS.goto X7.here hx rfl (pc0 := 85) (pc' := 44) rfl (hb hby d25_85) (by decide) (by decide) k)))) ?_
            exact ih _ _ _ _ X7 e7 Nf7 (own_nB hf hinv hc2)
      · refine own_fw (A' := (TL.setTop (mkF m 90 #[rv a1, iv 0, iv (own_n ds), iv 0, iv cn, iv i] [.int cn]))) (fun t k => XS.icmpYes XL.here hx rfl (pc0 := 49) (pc' := 88) rfl (hb hby d25_49) rfl (XT.ii_ge_t hc2) (by decide) (by decide) (XS.iload XL.here hx rfl (hb hby d25_88) rfl k)) ?_
        obtain ⟨fs, hr, hrun, hended, hW, hsame⟩ := XL.leave (v := some (.int cn)) (fun h => by rw [Bd.returns] at h; cases h)
        refine ⟨_, _, ?_, hrun, hended, _, _, rfl, ?_, ⟨_, rfl⟩, hW, hsame.mono (by decide) (by decide)⟩
        · exact retOut XL hx Bd.returns rfl (Or.inl ⟨rfl, by simp, _, rfl⟩) (hb hby d25_90) hr
        · show Q_rmUcz Z a1 kb ds h0 n0 _ TL.heap _
          rw [eL]
          exact ⟨cn, rfl, NL, rfl, (own_r0 hf hinv), (own_r1 hf hinv)⟩
  exact HL _ _ _ _ _ X1 e1 N0 (own_first hf)
theorem d24_0 : decode jdk_52_method_12_code 0 = .ok (.aload_n 0, 1) := by decide +kernel
theorem d24_1 : decode jdk_52_method_12_code 1 = .ok (.iload_n 1, 1) := by decide +kernel
theorem d24_2 : decode jdk_52_method_12_code 2 = .ok (.iload_n 2, 1) := by decide +kernel
theorem d24_3 : decode jdk_52_method_12_code 3 = .ok (.iconst 0, 1) := by decide +kernel
theorem d24_4 : decode jdk_52_method_12_code 4 = .ok (.invokestatic 100, 3) := by decide +kernel
theorem pd___BIIZ_I : parseMethodDescriptor "([BIIZ)I" = some ⟨[(.array .byte), .int, .int, .boolean], some .int⟩ := by decide +kernel
theorem d24_7 : decode jdk_52_method_12_code 7 = .ok (.ireturn, 1) := by decide +kernel
theorem ef_rmUc (m : MethodId) (a1 : Addr) (ds : List Int32) : entryFrame m #[(.ref a1), (.int 0), (.int (own_n ds))] 3 = mkF m 0 #[.val (.ref a1), .val (.int 0), .val (.int (own_n ds))] [] := by first | (simp [entryFrame, mkF, argsToLocals, Value.category]; done) | rfl
def Q_rmUc (Z : State) (a1 : Addr) (kb : ClassId) (ds : List Int32) (h0 : Heap) (n0 : Nat) (v : Option Value) (h : Heap) (L : List Loc) : Prop := ∃ r : Int32, v = some (.int r) ∧ Fr n0 L ∧ h = h0 ∧ (¬ (r = (0 : Int32))) ∧ (¬ ((100 : Int32) < r))
theorem rmUc (l : Launch) (Z : State) (a0 : Array Value) (hw : ∀ d ∈ tables_1, d.before a0 Z = true) (ws : List Jvm.Cond) (a1 : Addr) (kb : ClassId) (ds : List Int32) (h0 : Heap) (n0 : Nat) (Z0 : n0 ≤ h0.size) (P0 : Arv Z h0 a1 kb .byte (own_2 ds) (own_by ds) (.int 0)) (P1 : Sta Z h0 "java/lang/StringUTF16" "$assertionsDisabled" "Z" (.int 1)) (P2 : Sta Z h0 "java/lang/StringUTF16" "HI_BYTE_SHIFT" "I" (.int 0)) (P3 : Sta Z h0 "java/lang/StringUTF16" "LO_BYTE_SHIFT" "I" (.int 8)) (hf : own_fine ds) :
    MetFree l yq64 (head1 (Jvm.Cond.code yq64 jdk_52_method_12_code 3 (some .int) :: ws) rq63) (fun a U => a = #[(.ref a1), (.int 0), (.int (own_n ds))] ∧ Z.Warmed39 U.vm ∧ U.heap = h0) (fun _ _ _ _ _ => True) (fun _ U o U' => ∃ v L, o = .returned v ∧ Q_rmUc Z a1 kb ds h0 n0 v U'.heap L ∧ FrameEnd U o U' L rq63.cells rq63.slots) := by
  refine MetFree.of_bodySF (plainFor_of_name pn_java_lang_StringUTF16) hisR ?_
  intro p e s m args below meth c s₁ Bd hml0 hP hK
  obtain ⟨rfl, hZ, hh⟩ := hP
  have hx := Bd.exec
  have hby := Bd.bytes
  have hml : c.maxLocals = 3 := hml0
  have hown : s.vm.findClass "java/lang/StringUTF16" = some m.cls := findClass_of_methodNamed Bd.named
  have hnm := (name_of_methodNamed Bd.named Bd.method).1
  have X0 : Stand p l e rq63 s m #[(.ref a1), (.int 0), (.int (own_n ds))] below meth c s₁ [] 0 0 := Stand.of_body Bd
  have e0 : s₁.heap = h0 := by rw [← hh, Bd.state]; rfl
  have N0 := Fr.nil n0
  refine own_fw (A' := (s₁.setTop (mkF m 4 #[rv a1, iv 0, iv (own_n ds)] [.int 0, .int (own_n ds), .int 0, .ref a1]))) (fun t k => castTop (ef_rmUc m a1 ds) (XS.aloadN X0.here hx rfl (hb hby d24_0) rfl rfl (XS.iloadN X0.here hx rfl (hb hby d24_1) rfl (XS.iloadN X0.here hx rfl (hb hby d24_2) rfl (XS.iconst X0.here hx rfl (hb hby d24_3) k))))) ?_
  obtain ⟨_, _, ⟨T1, L1, k1, n1⟩, -, X1, ⟨Lc1, hQ1, l1, y1, z1⟩, st1⟩ := Jvm.LawKit.callS X0 hx (y := yq62) hown (mvT hZ (own_w hw 109 rfl)) (mvT hZ (own_w hw 110 rfl)) (mvT hZ (own_w hw 35 rfl)) (mvT hZ (own_w hw 111 rfl)) (by decide) (backOf (W := 0) (rmUcz l Z a0 hw [] a1 kb ds h0 n0 Z0 P0 P1 P2 P3 hf) hZ (own_w hw 111 rfl) (own_w hw 35 rfl) (by decide) (by decide)) (g := (mkF m 4 #[rv a1, iv 0, iv (own_n ds)] [.int 0, .int (own_n ds), .int 0, .ref a1])) rfl (by rw [hml]; rfl) (argsL := [(.ref a1), (.int 0), (.int (own_n ds)), (.int 0)]) (rest := []) (lenOf pd___BIIZ_I rfl) rfl (by show 2 * 0 + _ ≤ _; exact Nat.le_of_eq rfl) (hb hby d24_4) (fun _ _ => ⟨rfl, e0, (by decide : 0 + 0 ≤ _), (by decide : 0 + 0 ≤ _)⟩)
  dsimp only [Pt.U, Pt.locs, Pt.cells, Pt.slots] at X1 l1 y1 z1 st1 hQ1
  subst l1 y1 z1
  obtain ⟨r_1, rfl, Nq1, e1, hr0_1, hr1_1⟩ := hQ1
  have Nf1 := Fr.app N0 Nq1
  refine own_fw (A' := (T1.setTop (mkF m 7 #[rv a1, iv 0, iv (own_n ds)] [.int r_1]))) (fun t k => st1 _ k) ?_
  obtain ⟨fs, hr, hrun, hended, hW, hsame⟩ := X1.leave (v := some (.int r_1)) (fun h => by rw [Bd.returns] at h; cases h)
  refine ⟨_, _, ?_, hrun, hended, _, _, rfl, ?_, ⟨_, rfl⟩, hW, hsame.mono (by decide) (by decide)⟩
  · exact retOut X1 hx Bd.returns rfl (Or.inl ⟨rfl, by simp, _, rfl⟩) (hb hby d24_7) hr
  · show Q_rmUc Z a1 kb ds h0 n0 _ T1.heap _
    rw [e1]
    exact ⟨r_1, rfl, Nf1, rfl, hr0_1, hr1_1⟩
theorem d20_0 : decode jdk_42_method_59_code 0 = .ok (.iload_n 1, 1) := by decide +kernel
theorem d20_1 : decode jdk_42_method_59_code 1 = .ok (.iload_n 2, 1) := by decide +kernel
theorem d20_2 : decode jdk_42_method_59_code 2 = .ok (.aload_n 0, 1) := by decide +kernel
theorem d20_3 : decode jdk_42_method_59_code 3 = .ok (.invokevirtual 505, 3) := by decide +kernel
theorem pd___I : parseMethodDescriptor "()I" = some ⟨[], some .int⟩ := by decide +kernel
theorem d20_6 : decode jdk_42_method_59_code 6 = .ok (.invokestatic 511, 3) := by decide +kernel
theorem pd__III_I : parseMethodDescriptor "(III)I" = some ⟨[.int, .int, .int], some .int⟩ := by decide +kernel
theorem d20_9 : decode jdk_42_method_59_code 9 = .ok (.pop, 1) := by decide +kernel
theorem d20_10 : decode jdk_42_method_59_code 10 = .ok (.aload_n 0, 1) := by decide +kernel
theorem d20_11 : decode jdk_42_method_59_code 11 = .ok (.invokevirtual 492, 3) := by decide +kernel
theorem pd___Z : parseMethodDescriptor "()Z" = some ⟨[], some .boolean⟩ := by decide +kernel
theorem d20_14 : decode jdk_42_method_59_code 14 = .ok (.ifCond .eq 7, 3) := by decide +kernel
theorem d20_17 : decode jdk_42_method_59_code 17 = .ok (.iload_n 2, 1) := by decide +kernel
theorem d20_18 : decode jdk_42_method_59_code 18 = .ok (.iload_n 1, 1) := by decide +kernel
theorem d20_19 : decode jdk_42_method_59_code 19 = .ok (.isub, 1) := by decide +kernel
theorem d20_20 : decode jdk_42_method_59_code 20 = .ok (.ireturn, 1) := by decide +kernel
theorem ef_rmCouL (m : MethodId) (a1 : Addr) (ds : List Int32) : entryFrame m #[(.ref a1), (.int 0), (.int (own_n ds))] 3 = mkF m 0 #[.val (.ref a1), .val (.int 0), .val (.int (own_n ds))] [] := by first | (simp [entryFrame, mkF, argsToLocals, Value.category]; done) | rfl
def Q_rmCouL (Z : State) (a1 b1 : Addr) (kb : ClassId) (cs : Int32) (ds : List Int32) (h0 : Heap) (n0 : Nat) (v : Option Value) (h : Heap) (L : List Loc) : Prop := ∃ r : Int32, v = some (.int r) ∧ Fr n0 L ∧ h = h0 ∧ (¬ (r = (0 : Int32))) ∧ (¬ ((100 : Int32) < r))
theorem rmCouL (l : Launch) (Z : State) (a0 : Array Value) (hw : ∀ d ∈ tables_1, d.before a0 Z = true) (ws : List Jvm.Cond) (a1 b1 : Addr) (kb : ClassId) (cs : Int32) (ds : List Int32) (h0 : Heap) (n0 : Nat) (Z0 : n0 ≤ h0.size) (P0 : Exa Z h0 a1 "java/lang/String") (P1 : Fld Z h0 a1 "java/lang/String" "coder" "B" (.int 0)) (P2 : Fld Z h0 a1 "java/lang/String" "value" "[B" (.ref b1)) (P3 : Arv Z h0 b1 kb .byte (own_n ds) (own_ly ds) (.int 0)) (P4 : Sta Z h0 "java/lang/String" "COMPACT_STRINGS" "Z" (.int cs)) (hcs : ¬ (cs = (0 : Int32))) (hf : own_fine ds) :
    MetFree l yq66 (head1 (Jvm.Cond.code yq66 jdk_42_method_59_code 3 (some .int) :: ws) rq65) (fun a U => a = #[(.ref a1), (.int 0), (.int (own_n ds))] ∧ Z.Warmed39 U.vm ∧ U.heap = h0) (fun _ _ _ _ _ => True) (fun _ U o U' => ∃ v L, o = .returned v ∧ Q_rmCouL Z a1 b1 kb cs ds h0 n0 v U'.heap L ∧ FrameEnd U o U' L rq65.cells rq65.slots) := by
  refine MetFree.of_bodySF (plainFor_of_name pn_java_lang_String) hisR ?_
  intro p e s m args below meth c s₁ Bd hml0 hP hK
  obtain ⟨rfl, hZ, hh⟩ := hP
  have hx := Bd.exec
  have hby := Bd.bytes
  have hml : c.maxLocals = 3 := hml0
  have hown : s.vm.findClass "java/lang/String" = some m.cls := findClass_of_methodNamed Bd.named
  have hnm := (name_of_methodNamed Bd.named Bd.method).1
  have X0 : Stand p l e rq65 s m #[(.ref a1), (.int 0), (.int (own_n ds))] below meth c s₁ [] 0 0 := Stand.of_body Bd
  have e0 : s₁.heap = h0 := by rw [← hh, Bd.state]; rfl
  have N0 := Fr.nil n0
  refine own_fw (A' := (s₁.setTop (mkF m 3 #[rv a1, iv 0, iv (own_n ds)] [.ref a1, .int (own_n ds), .int 0]))) (fun t k => castTop (ef_rmCouL m a1 ds) (XS.iloadN X0.here hx rfl (hb hby d20_0) rfl (XS.iloadN X0.here hx rfl (hb hby d20_1) rfl (XS.aloadN X0.here hx rfl (hb hby d20_2) rfl rfl k)))) ?_
  obtain ⟨cq1, kq1, qa1, qb1, qc1⟩ := isOf hZ e0 P0
  obtain ⟨_, _, ⟨T1, L1, k1, n1⟩, -, X1, ⟨Lc1, hQ1, l1, y1, z1⟩, st1⟩ := X0.virtualBack hx (y := yq58) (z := yq58) hown (mvT hZ (own_w hw 93 rfl)) (mvT hZ (own_w hw 79 rfl)) (notFace_of_selects (args := #[]) (mvT hZ (own_w hw 81 rfl))) (mvT hZ (own_w hw 81 rfl)) (mvT hZ (own_w hw 80 rfl)) (by decide) (backOf (W := 2) (rmLenL l Z a0 hw [] a1 b1 kb cs ds h0 n0 Z0 P0 P1 P2 P3 P4 hcs hf) hZ (own_w hw 82 rfl) (own_w hw 21 rfl) (by decide) (by decide)) qa1 qc1 (g := (mkF m 3 #[rv a1, iv 0, iv (own_n ds)] [.ref a1, .int (own_n ds), .int 0])) rfl (by rw [hml]; rfl) (Steps.refl _) (argsL := []) (rest := [(.int (own_n ds)), (.int 0)]) (lenOf pd___I rfl) rfl (by show 2 * 0 + _ ≤ _; exact Nat.le_of_eq rfl) (hb hby d20_3) (fun _ _ => ⟨rfl, e0, (by decide : 0 + 0 ≤ _), (by decide : 0 + 0 ≤ _)⟩)
  dsimp only [Pt.U, Pt.locs, Pt.cells, Pt.slots] at X1 l1 y1 z1 st1 hQ1
  subst l1 y1 z1
  obtain ⟨rfl, Nq1, e1⟩ := hQ1
  have Nf1 := Fr.app N0 Nq1
  refine own_fw (A' := (T1.setTop (mkF m 6 #[rv a1, iv 0, iv (own_n ds)] [.int (own_n ds), .int (own_n ds), .int 0]))) (fun t k => st1.trans k) ?_
  obtain ⟨_, _, ⟨T2, L2, k2, n2⟩, -, X2, ⟨Lc2, hQ2, l2, y2, z2⟩, st2⟩ := Jvm.LawKit.callS X1 hx (y := yq61) hown (mvT hZ (own_w hw 94 rfl)) (mvT hZ (own_w hw 95 rfl)) (mvT hZ (own_w hw 76 rfl)) (mvT hZ (own_w hw 96 rfl)) (by decide) (backOf (W := 0) (rmOft l Z a0 hw [] (own_n ds) h0 n0 Z0 (own_nn hf)) hZ (own_w hw 96 rfl) (own_w hw 76 rfl) (by decide) (by decide)) (g := (mkF m 6 #[rv a1, iv 0, iv (own_n ds)] [.int (own_n ds), .int (own_n ds), .int 0])) rfl (by rw [hml]; rfl) (argsL := [(.int 0), (.int (own_n ds)), (.int (own_n ds))]) (rest := []) (lenOf pd__III_I rfl) rfl (by show 2 * 0 + _ ≤ _; exact Nat.le_of_eq rfl) (hb hby d20_6) (fun _ _ => ⟨rfl, e1, (by decide : 0 + 0 ≤ _), (by decide : 0 + 0 ≤ _)⟩)
  dsimp only [Pt.U, Pt.locs, Pt.cells, Pt.slots] at X2 l2 y2 z2 st2 hQ2
  subst l2 y2 z2
  obtain ⟨rfl, Nq2, e2⟩ := hQ2
  have Nf2 := Fr.app Nf1 Nq2
  refine own_fw (A' := (T2.setTop (mkF m 11 #[rv a1, iv 0, iv (own_n ds)] [.ref a1]))) (fun t k => st2 _ (XS.pop X2.here hx rfl (hb hby d20_9) rfl rfl (XS.aloadN X2.here hx rfl (hb hby d20_10) rfl rfl k))) ?_
  obtain ⟨cq3, kq3, qa3, qb3, qc3⟩ := isOf hZ e2 P0
  obtain ⟨_, _, ⟨T3, L3, k3, n3⟩, -, X3, ⟨Lc3, hQ3, l3, y3, z3⟩, st3⟩ := X2.virtualBack hx (y := yq56) (z := yq56) hown (mvT hZ (own_w hw 101 rfl)) (mvT hZ (own_w hw 102 rfl)) (notFace_of_selects (args := #[]) (mvT hZ (own_w hw 104 rfl))) (mvT hZ (own_w hw 104 rfl)) (mvT hZ (own_w hw 103 rfl)) (by decide) (backOf (W := 0) (rmIslL l Z a0 hw [] a1 cs h0 n0 Z0 P1 P4 hcs) hZ (own_w hw 105 rfl) (own_w hw 21 rfl) (by decide) (by decide)) qa3 qc3 (g := (mkF m 11 #[rv a1, iv 0, iv (own_n ds)] [.ref a1])) rfl (by rw [hml]; rfl) (Steps.refl _) (argsL := []) (rest := []) (lenOf pd___Z rfl) rfl (by show 2 * 0 + _ ≤ _; exact Nat.le_of_eq rfl) (hb hby d20_11) (fun _ _ => ⟨rfl, e2, (by decide : 0 + 0 ≤ _), (by decide : 0 + 0 ≤ _)⟩)
  dsimp only [Pt.U, Pt.locs, Pt.cells, Pt.slots] at X3 l3 y3 z3 st3 hQ3
  subst l3 y3 z3
  obtain ⟨rfl, Nq3, e3⟩ := hQ3
  have Nf3 := Fr.app Nf2 Nq3
  refine own_fw (A' := (T3.setTop (mkF m 20 #[rv a1, iv 0, iv (own_n ds)] [.int ((own_n ds) - (0 : Int32))]))) (fun t k => st3.trans (XS.ifNo X3.here hx rfl (hb hby d20_14) rfl (XT.i0_eq_f (by decide)) (XS.iloadN X3.here hx rfl (hb hby d20_17) rfl (XS.iloadN X3.here hx rfl (hb hby d20_18) rfl (XS.isub X3.here hx rfl (hb hby d20_19) rfl k))))) ?_
  obtain ⟨fs, hr, hrun, hended, hW, hsame⟩ := X3.leave (v := some (.int ((own_n ds) - (0 : Int32)))) (fun h => by rw [Bd.returns] at h; cases h)
  refine ⟨_, _, ?_, hrun, hended, _, _, rfl, ?_, ⟨_, rfl⟩, hW, hsame.mono (by decide) (by decide)⟩
  · exact retOut X3 hx Bd.returns rfl (Or.inl ⟨rfl, by simp, _, rfl⟩) (hb hby d20_20) hr
  · show Q_rmCouL Z a1 b1 kb cs ds h0 n0 _ T3.heap _
    rw [e3]
    exact ⟨((own_n ds) - (0 : Int32)), rfl, Nf3, rfl, (own_l0 hf), (own_l1 hf)⟩
theorem d20_21 : decode jdk_42_method_59_code 21 = .ok (.aload_n 0, 1) := by decide +kernel
theorem d20_22 : decode jdk_42_method_59_code 22 = .ok (.getfield 9, 3) := by decide +kernel
theorem d20_25 : decode jdk_42_method_59_code 25 = .ok (.iload_n 1, 1) := by decide +kernel
theorem d20_26 : decode jdk_42_method_59_code 26 = .ok (.iload_n 2, 1) := by decide +kernel
theorem d20_27 : decode jdk_42_method_59_code 27 = .ok (.invokestatic 514, 3) := by decide +kernel
theorem pd___BII_I : parseMethodDescriptor "([BII)I" = some ⟨[(.array .byte), .int, .int], some .int⟩ := by decide +kernel
theorem d20_30 : decode jdk_42_method_59_code 30 = .ok (.ireturn, 1) := by decide +kernel
theorem ef_rmCouU (m : MethodId) (a1 : Addr) (ds : List Int32) : entryFrame m #[(.ref a1), (.int 0), (.int (own_n ds))] 3 = mkF m 0 #[.val (.ref a1), .val (.int 0), .val (.int (own_n ds))] [] := by first | (simp [entryFrame, mkF, argsToLocals, Value.category]; done) | rfl
def Q_rmCouU (Z : State) (a1 b1 : Addr) (kb : ClassId) (cs : Int32) (ds : List Int32) (h0 : Heap) (n0 : Nat) (v : Option Value) (h : Heap) (L : List Loc) : Prop := ∃ r : Int32, v = some (.int r) ∧ Fr n0 L ∧ h = h0 ∧ (¬ (r = (0 : Int32))) ∧ (¬ ((100 : Int32) < r))
theorem rmCouU (l : Launch) (Z : State) (a0 : Array Value) (hw : ∀ d ∈ tables_1, d.before a0 Z = true) (ws : List Jvm.Cond) (a1 b1 : Addr) (kb : ClassId) (cs : Int32) (ds : List Int32) (h0 : Heap) (n0 : Nat) (Z0 : n0 ≤ h0.size) (P0 : Exa Z h0 a1 "java/lang/String") (P1 : Fld Z h0 a1 "java/lang/String" "coder" "B" (.int 1)) (P2 : Fld Z h0 a1 "java/lang/String" "value" "[B" (.ref b1)) (P3 : Arv Z h0 b1 kb .byte (own_2 ds) (own_by ds) (.int 0)) (P4 : Sta Z h0 "java/lang/String" "COMPACT_STRINGS" "Z" (.int cs)) (hcs : ¬ (cs = (0 : Int32))) (hf : own_fine ds) (P7 : Sta Z h0 "java/lang/StringUTF16" "$assertionsDisabled" "Z" (.int 1)) (P8 : Sta Z h0 "java/lang/StringUTF16" "HI_BYTE_SHIFT" "I" (.int 0)) (P9 : Sta Z h0 "java/lang/StringUTF16" "LO_BYTE_SHIFT" "I" (.int 8)) :
    MetFree l yq66 (head1 (Jvm.Cond.code yq66 jdk_42_method_59_code 3 (some .int) :: ws) rq67) (fun a U => a = #[(.ref a1), (.int 0), (.int (own_n ds))] ∧ Z.Warmed39 U.vm ∧ U.heap = h0) (fun _ _ _ _ _ => True) (fun _ U o U' => ∃ v L, o = .returned v ∧ Q_rmCouU Z a1 b1 kb cs ds h0 n0 v U'.heap L ∧ FrameEnd U o U' L rq67.cells rq67.slots) := by
  refine MetFree.of_bodySF (plainFor_of_name pn_java_lang_String) hisR ?_
  intro p e s m args below meth c s₁ Bd hml0 hP hK
  obtain ⟨rfl, hZ, hh⟩ := hP
  have hx := Bd.exec
  have hby := Bd.bytes
  have hml : c.maxLocals = 3 := hml0
  have hown : s.vm.findClass "java/lang/String" = some m.cls := findClass_of_methodNamed Bd.named
  have hnm := (name_of_methodNamed Bd.named Bd.method).1
  have X0 : Stand p l e rq67 s m #[(.ref a1), (.int 0), (.int (own_n ds))] below meth c s₁ [] 0 0 := Stand.of_body Bd
  have e0 : s₁.heap = h0 := by rw [← hh, Bd.state]; rfl
  have N0 := Fr.nil n0
  refine own_fw (A' := (s₁.setTop (mkF m 3 #[rv a1, iv 0, iv (own_n ds)] [.ref a1, .int (own_n ds), .int 0]))) (fun t k => castTop (ef_rmCouU m a1 ds) (XS.iloadN X0.here hx rfl (hb hby d20_0) rfl (XS.iloadN X0.here hx rfl (hb hby d20_1) rfl (XS.aloadN X0.here hx rfl (hb hby d20_2) rfl rfl k)))) ?_
  obtain ⟨cq1, kq1, qa1, qb1, qc1⟩ := isOf hZ e0 P0
  obtain ⟨_, _, ⟨T1, L1, k1, n1⟩, -, X1, ⟨Lc1, hQ1, l1, y1, z1⟩, st1⟩ := X0.virtualBack hx (y := yq58) (z := yq58) hown (mvT hZ (own_w hw 93 rfl)) (mvT hZ (own_w hw 79 rfl)) (notFace_of_selects (args := #[]) (mvT hZ (own_w hw 81 rfl))) (mvT hZ (own_w hw 81 rfl)) (mvT hZ (own_w hw 80 rfl)) (by decide) (backOf (W := 2) (rmLenU l Z a0 hw [] a1 b1 kb cs ds h0 n0 Z0 P0 P1 P2 P3 P4 hcs hf) hZ (own_w hw 82 rfl) (own_w hw 21 rfl) (by decide) (by decide)) qa1 qc1 (g := (mkF m 3 #[rv a1, iv 0, iv (own_n ds)] [.ref a1, .int (own_n ds), .int 0])) rfl (by rw [hml]; rfl) (Steps.refl _) (argsL := []) (rest := [(.int (own_n ds)), (.int 0)]) (lenOf pd___I rfl) rfl (by show 2 * 0 + _ ≤ _; exact Nat.le_of_eq rfl) (hb hby d20_3) (fun _ _ => ⟨rfl, e0, (by decide : 0 + 0 ≤ _), (by decide : 0 + 0 ≤ _)⟩)
  dsimp only [Pt.U, Pt.locs, Pt.cells, Pt.slots] at X1 l1 y1 z1 st1 hQ1
  subst l1 y1 z1
  obtain ⟨rfl, Nq1, e1⟩ := hQ1
  have Nf1 := Fr.app N0 Nq1
  refine own_fw (A' := (T1.setTop (mkF m 6 #[rv a1, iv 0, iv (own_n ds)] [.int (own_n ds), .int (own_n ds), .int 0]))) (fun t k => st1.trans k) ?_
  obtain ⟨_, _, ⟨T2, L2, k2, n2⟩, -, X2, ⟨Lc2, hQ2, l2, y2, z2⟩, st2⟩ := Jvm.LawKit.callS X1 hx (y := yq61) hown (mvT hZ (own_w hw 94 rfl)) (mvT hZ (own_w hw 95 rfl)) (mvT hZ (own_w hw 76 rfl)) (mvT hZ (own_w hw 96 rfl)) (by decide) (backOf (W := 0) (rmOft l Z a0 hw [] (own_n ds) h0 n0 Z0 (own_nn hf)) hZ (own_w hw 96 rfl) (own_w hw 76 rfl) (by decide) (by decide)) (g := (mkF m 6 #[rv a1, iv 0, iv (own_n ds)] [.int (own_n ds), .int (own_n ds), .int 0])) rfl (by rw [hml]; rfl) (argsL := [(.int 0), (.int (own_n ds)), (.int (own_n ds))]) (rest := []) (lenOf pd__III_I rfl) rfl (by show 2 * 0 + _ ≤ _; exact Nat.le_of_eq rfl) (hb hby d20_6) (fun _ _ => ⟨rfl, e1, (by decide : 0 + 0 ≤ _), (by decide : 0 + 0 ≤ _)⟩)
  dsimp only [Pt.U, Pt.locs, Pt.cells, Pt.slots] at X2 l2 y2 z2 st2 hQ2
  subst l2 y2 z2
  obtain ⟨rfl, Nq2, e2⟩ := hQ2
  have Nf2 := Fr.app Nf1 Nq2
  refine own_fw (A' := (T2.setTop (mkF m 11 #[rv a1, iv 0, iv (own_n ds)] [.ref a1]))) (fun t k => st2 _ (XS.pop X2.here hx rfl (hb hby d20_9) rfl rfl (XS.aloadN X2.here hx rfl (hb hby d20_10) rfl rfl k))) ?_
  obtain ⟨cq3, kq3, qa3, qb3, qc3⟩ := isOf hZ e2 P0
  obtain ⟨_, _, ⟨T3, L3, k3, n3⟩, -, X3, ⟨Lc3, hQ3, l3, y3, z3⟩, st3⟩ := X2.virtualBack hx (y := yq56) (z := yq56) hown (mvT hZ (own_w hw 101 rfl)) (mvT hZ (own_w hw 102 rfl)) (notFace_of_selects (args := #[]) (mvT hZ (own_w hw 104 rfl))) (mvT hZ (own_w hw 104 rfl)) (mvT hZ (own_w hw 103 rfl)) (by decide) (backOf (W := 0) (rmIslU l Z a0 hw [] a1 cs h0 n0 Z0 P1 P4 hcs) hZ (own_w hw 105 rfl) (own_w hw 21 rfl) (by decide) (by decide)) qa3 qc3 (g := (mkF m 11 #[rv a1, iv 0, iv (own_n ds)] [.ref a1])) rfl (by rw [hml]; rfl) (Steps.refl _) (argsL := []) (rest := []) (lenOf pd___Z rfl) rfl (by show 2 * 0 + _ ≤ _; exact Nat.le_of_eq rfl) (hb hby d20_11) (fun _ _ => ⟨rfl, e2, (by decide : 0 + 0 ≤ _), (by decide : 0 + 0 ≤ _)⟩)
  dsimp only [Pt.U, Pt.locs, Pt.cells, Pt.slots] at X3 l3 y3 z3 st3 hQ3
  subst l3 y3 z3
  obtain ⟨rfl, Nq3, e3⟩ := hQ3
  have Nf3 := Fr.app Nf2 Nq3
  refine own_fw (A' := (T3.setTop (mkF m 22 #[rv a1, iv 0, iv (own_n ds)] [.ref a1]))) (fun t k => st3.trans (XS.ifYes X3.here hx rfl (pc0 := 14) (pc' := 21) rfl (hb hby d20_14) rfl (XT.i0_eq_t rfl) (by decide) (by decide) (XS.aloadN X3.here hx rfl (hb hby d20_21) rfl rfl k))) ?_
  obtain ⟨T4, X4, e4, st4⟩ := getF X3 hx hZ hown (host := "") (Or.inl (own_w hw 65 rfl)) Via.refl e3 P2 (g := (mkF m 22 #[rv a1, iv 0, iv (own_n ds)] [.ref a1])) rfl rfl (hb hby d20_22)
  refine own_fw (A' := (T4.setTop (mkF m 27 #[rv a1, iv 0, iv (own_n ds)] [.int (own_n ds), .int 0, .ref b1]))) (fun t k => st4 _ (XS.iloadN X4.here hx rfl (hb hby d20_25) rfl (XS.iloadN X4.here hx rfl (hb hby d20_26) rfl k))) ?_
  obtain ⟨_, _, ⟨T5, L5, k5, n5⟩, -, X5, ⟨Lc5, hQ5, l5, y5, z5⟩, st5⟩ := Jvm.LawKit.callS X4 hx (y := yq64) hown (mvT hZ (own_w hw 106 rfl)) (mvT hZ (own_w hw 107 rfl)) (mvT hZ (own_w hw 35 rfl)) (mvT hZ (own_w hw 108 rfl)) (by decide) (backOf (W := 0) (rmUc l Z a0 hw [] b1 kb ds h0 n0 Z0 P3 P7 P8 P9 hf) hZ (own_w hw 108 rfl) (own_w hw 35 rfl) (by decide) (by decide)) (g := (mkF m 27 #[rv a1, iv 0, iv (own_n ds)] [.int (own_n ds), .int 0, .ref b1])) rfl (by rw [hml]; rfl) (argsL := [(.ref b1), (.int 0), (.int (own_n ds))]) (rest := []) (lenOf pd___BII_I rfl) rfl (by show 2 * 0 + _ ≤ _; exact Nat.le_of_eq rfl) (hb hby d20_27) (fun _ _ => ⟨rfl, e4, (by decide : 0 + 0 ≤ _), (by decide : 0 + 0 ≤ _)⟩)
  dsimp only [Pt.U, Pt.locs, Pt.cells, Pt.slots] at X5 l5 y5 z5 st5 hQ5
  subst l5 y5 z5
  obtain ⟨r_5, rfl, Nq5, e5, hr0_5, hr1_5⟩ := hQ5
  have Nf5 := Fr.app Nf3 Nq5
  refine own_fw (A' := (T5.setTop (mkF m 30 #[rv a1, iv 0, iv (own_n ds)] [.int r_5]))) (fun t k => st5 _ k) ?_
  obtain ⟨fs, hr, hrun, hended, hW, hsame⟩ := X5.leave (v := some (.int r_5)) (fun h => by rw [Bd.returns] at h; cases h)
  refine ⟨_, _, ?_, hrun, hended, _, _, rfl, ?_, ⟨_, rfl⟩, hW, hsame.mono (by decide) (by decide)⟩
  · exact retOut X5 hx Bd.returns rfl (Or.inl ⟨rfl, by simp, _, rfl⟩) (hb hby d20_30) hr
  · show Q_rmCouU Z a1 b1 kb cs ds h0 n0 _ T5.heap _
    rw [e5]
    exact ⟨r_5, rfl, Nf5, rfl, hr0_5, hr1_5⟩
theorem d30_0 : decode jdk_52_method_7_code 0 = .ok (.getstatic 44, 3) := by decide +kernel
theorem d30_3 : decode jdk_52_method_7_code 3 = .ok (.ifCond .ne 16, 3) := by decide +kernel
theorem d30_19 : decode jdk_52_method_7_code 19 = .ok (.iload_n 3, 1) := by decide +kernel
theorem d30_20 : decode jdk_52_method_7_code 20 = .ok (.ifCond .eq 8, 3) := by decide +kernel
theorem d30_28 : decode jdk_52_method_7_code 28 = .ok (.aload_n 0, 1) := by decide +kernel
theorem d30_29 : decode jdk_52_method_7_code 29 = .ok (.iload_n 1, 1) := by decide +kernel
theorem d30_30 : decode jdk_52_method_7_code 30 = .ok (.invokestatic 71, 3) := by decide +kernel
theorem d30_33 : decode jdk_52_method_7_code 33 = .ok (.istore 4, 2) := by decide +kernel
theorem d30_35 : decode jdk_52_method_7_code 35 = .ok (.iload 4, 2) := by decide +kernel
theorem d30_37 : decode jdk_52_method_7_code 37 = .ok (.invokestatic 75, 3) := by decide +kernel
theorem d30_40 : decode jdk_52_method_7_code 40 = .ok (.ifCond .eq 43, 3) := by decide +kernel
theorem d30_83 : decode jdk_52_method_7_code 83 = .ok (.iload 4, 2) := by decide +kernel
theorem d30_85 : decode jdk_52_method_7_code 85 = .ok (.ireturn, 1) := by decide +kernel
theorem d30_43 : decode jdk_52_method_7_code 43 = .ok (.iinc 1 1, 3) := by decide +kernel
theorem d30_46 : decode jdk_52_method_7_code 46 = .ok (.iload_n 1, 1) := by decide +kernel
theorem d30_47 : decode jdk_52_method_7_code 47 = .ok (.iload_n 2, 1) := by decide +kernel
theorem d30_48 : decode jdk_52_method_7_code 48 = .ok (.if_icmp .ge 35, 3) := by decide +kernel
theorem d30_51 : decode jdk_52_method_7_code 51 = .ok (.iload_n 3, 1) := by decide +kernel
theorem d30_52 : decode jdk_52_method_7_code 52 = .ok (.ifCond .eq 8, 3) := by decide +kernel
theorem d30_60 : decode jdk_52_method_7_code 60 = .ok (.aload_n 0, 1) := by decide +kernel
theorem d30_61 : decode jdk_52_method_7_code 61 = .ok (.iload_n 1, 1) := by decide +kernel
theorem d30_62 : decode jdk_52_method_7_code 62 = .ok (.invokestatic 71, 3) := by decide +kernel
theorem d30_65 : decode jdk_52_method_7_code 65 = .ok (.istore 5, 2) := by decide +kernel
theorem d30_67 : decode jdk_52_method_7_code 67 = .ok (.iload 5, 2) := by decide +kernel
theorem d30_69 : decode jdk_52_method_7_code 69 = .ok (.invokestatic 81, 3) := by decide +kernel
theorem d30_72 : decode jdk_52_method_7_code 72 = .ok (.ifCond .eq 11, 3) := by decide +kernel
theorem d30_75 : decode jdk_52_method_7_code 75 = .ok (.iload 4, 2) := by decide +kernel
theorem d30_77 : decode jdk_52_method_7_code 77 = .ok (.iload 5, 2) := by decide +kernel
theorem d30_79 : decode jdk_52_method_7_code 79 = .ok (.invokestatic 84, 3) := by decide +kernel
theorem pd__CC_I : parseMethodDescriptor "(CC)I" = some ⟨[.char, .char], some .int⟩ := by decide +kernel
theorem d30_82 : decode jdk_52_method_7_code 82 = .ok (.ireturn, 1) := by decide +kernel
theorem ef_rmUaz (m : MethodId) (a1 : Addr) (ds : List Int32) (i : Int32) : entryFrame m #[(.ref a1), (.int i), (.int (own_n ds)), (.int 0)] 6 = mkF m 0 #[.val (.ref a1), .val (.int i), .val (.int (own_n ds)), .val (.int 0), .unset, .unset] [] := by first | (simp [entryFrame, mkF, argsToLocals, Value.category]; done) | rfl
def Q_rmUaz (Z : State) (a1 : Addr) (kb : ClassId) (ds : List Int32) (i : Int32) (h0 : Heap) (n0 : Nat) (v : Option Value) (h : Heap) (L : List Loc) : Prop := v = some (.int (own_ca ds i)) ∧ Fr n0 L ∧ h = h0
theorem rmUaz (l : Launch) (Z : State) (a0 : Array Value) (hw : ∀ d ∈ tables_1, d.before a0 Z = true) (ws : List Jvm.Cond) (a1 : Addr) (kb : ClassId) (ds : List Int32) (i : Int32) (h0 : Heap) (n0 : Nat) (Z0 : n0 ≤ h0.size) (P0 : Arv Z h0 a1 kb .byte (own_2 ds) (own_by ds) (.int 0)) (P1 : Sta Z h0 "java/lang/StringUTF16" "$assertionsDisabled" "Z" (.int 1)) (P2 : Sta Z h0 "java/lang/StringUTF16" "HI_BYTE_SHIFT" "I" (.int 0)) (P3 : Sta Z h0 "java/lang/StringUTF16" "LO_BYTE_SHIFT" "I" (.int 8)) (hf : own_fine ds) (hi0 : ¬ (i < (0 : Int32))) (hi1 : i < (own_n ds)) (hqq : own_q ds i) :
    MetFree l yq68 (head1 (Jvm.Cond.code yq68 jdk_52_method_7_code 6 (some .int) :: ws) rq57) (fun a U => a = #[(.ref a1), (.int i), (.int (own_n ds)), (.int 0)] ∧ Z.Warmed39 U.vm ∧ U.heap = h0) (fun _ _ _ _ _ => True) (fun _ U o U' => ∃ v L, o = .returned v ∧ Q_rmUaz Z a1 kb ds i h0 n0 v U'.heap L ∧ FrameEnd U o U' L rq57.cells rq57.slots) := by
  refine MetFree.of_bodySF (plainFor_of_name pn_java_lang_StringUTF16) hisR ?_
  intro p e s m args below meth c s₁ Bd hml0 hP hK
  obtain ⟨rfl, hZ, hh⟩ := hP
  have hx := Bd.exec
  have hby := Bd.bytes
  have hml : c.maxLocals = 6 := hml0
  have hown : s.vm.findClass "java/lang/StringUTF16" = some m.cls := findClass_of_methodNamed Bd.named
  have hnm := (name_of_methodNamed Bd.named Bd.method).1
  have X0 : Stand p l e rq57 s m #[(.ref a1), (.int i), (.int (own_n ds)), (.int 0)] below meth c s₁ [] 0 0 := Stand.of_body Bd
  have e0 : s₁.heap = h0 := by rw [← hh, Bd.state]; rfl
  have N0 := Fr.nil n0
  refine own_fw (A' := (s₁.setTop (mkF m 0 #[.val (.ref a1), .val (.int i), .val (.int (own_n ds)), .val (.int 0), .unset, .unset] []))) (fun t k => castTop (ef_rmUaz m a1 ds i) k) ?_
  obtain ⟨T1, X1, e1, st1⟩ := getS2 X0 hx hZ hown (host := "") (Or.inl (own_w hw 54 rfl)) Via.refl e0 P1 (g := (mkF m 0 #[rv a1, iv i, iv (own_n ds), iv 0, .unset, .unset] [])) rfl (hb hby d30_0)
  refine own_fw (A' := (T1.setTop (mkF m 30 #[rv a1, iv i, iv (own_n ds), iv 0, .unset, .unset] [.int i, .ref a1]))) (fun t k => st1 _ (XS.ifYes X1.here hx rfl (pc0 := 3) (pc' := 19) rfl (hb hby d30_3) rfl (XT.i0_ne_t (by decide)) (by decide) (by decide) (XS.iloadN X1.here hx rfl (hb hby d30_19) rfl (XS.ifYes X1.here hx rfl (pc0 := 20) (pc' := 28) rfl (hb hby d30_20) rfl (XT.i0_eq_t rfl) (by decide) (by decide) (XS.aloadN X1.here hx rfl (hb hby d30_28) rfl rfl (XS.iloadN X1.here hx rfl (hb hby d30_29) rfl k)))))) ?_
  obtain ⟨_, _, ⟨T2, L2, k2, n2⟩, -, X2, ⟨Lc2, hQ2, l2, y2, z2⟩, st2⟩ := Jvm.LawKit.callS X1 hx (y := yq1) hown (mvT hZ (own_w hw 57 rfl)) (mvT hZ (own_w hw 58 rfl)) (mvT hZ (own_w hw 35 rfl)) (mvT hZ (own_w hw 59 rfl)) (by decide) (backOf (W := 0) (rmGet l Z a0 hw [] a1 kb ds i h0 n0 Z0 P0 P1 P2 P3 hf hi0 hi1) hZ (own_w hw 59 rfl) (own_w hw 35 rfl) (by decide) (by decide)) (g := (mkF m 30 #[rv a1, iv i, iv (own_n ds), iv 0, .unset, .unset] [.int i, .ref a1])) rfl (by rw [hml]; rfl) (argsL := [(.ref a1), (.int i)]) (rest := []) (lenOf pd___BI_C rfl) rfl (by show 2 * 0 + _ ≤ _; exact Nat.le_of_eq rfl) (hb hby d30_30) (fun _ _ => ⟨rfl, e1, (by decide : 0 + 0 ≤ _), (by decide : 0 + 0 ≤ _)⟩)
  dsimp only [Pt.U, Pt.locs, Pt.cells, Pt.slots] at X2 l2 y2 z2 st2 hQ2
  subst l2 y2 z2
  obtain ⟨rfl, Nq2, e2⟩ := hQ2
  have Nf2 := Fr.app N0 Nq2
  refine own_fw (A' := (T2.setTop (mkF m 37 #[rv a1, iv i, iv (own_n ds), iv 0, iv (own_at ds i), .unset] [.int (own_at ds i)]))) (fun t k => st2 _ (XS.istore X2.here hx rfl (hb hby d30_33) rfl (l' := #[rv a1, iv i, iv (own_n ds), iv 0, iv (own_at ds i), .unset]) rfl (XS.iload X2.here hx rfl (hb hby d30_35) rfl k))) ?_
  obtain ⟨_, _, ⟨T3, L3, k3, n3⟩, -, X3, ⟨Lc3, hQ3, l3, y3, z3⟩, st3⟩ := Jvm.LawKit.callS X2 hx (y := yq51) hown (mvT hZ (own_w hw 130 rfl)) (mvT hZ (own_w hw 131 rfl)) (mvT hZ (own_w hw 132 rfl)) (mvT hZ (own_w hw 133 rfl)) (by decide) (backOf (W := 0) (rmHs l Z a0 hw [] (own_at ds i) h0 n0 Z0 ) hZ (own_w hw 133 rfl) (own_w hw 132 rfl) (by decide) (by decide)) (g := (mkF m 37 #[rv a1, iv i, iv (own_n ds), iv 0, iv (own_at ds i), .unset] [.int (own_at ds i)])) rfl (by rw [hml]; rfl) (argsL := [(.int (own_at ds i))]) (rest := []) (lenOf pd__C_Z rfl) rfl (by show 2 * 0 + _ ≤ _; exact Nat.le_of_eq rfl) (hb hby d30_37) (fun _ _ => ⟨rfl, e2, (by decide : 0 + 0 ≤ _), (by decide : 0 + 0 ≤ _)⟩)
  dsimp only [Pt.U, Pt.locs, Pt.cells, Pt.slots] at X3 l3 y3 z3 st3 hQ3
  subst l3 y3 z3
  obtain ⟨rfl, Nq3, e3⟩ := hQ3
  have Nf3 := Fr.app Nf2 Nq3
  refine own_fw (A' := (T3.setTop (mkF m 40 #[rv a1, iv i, iv (own_n ds), iv 0, iv (own_at ds i), .unset] [.int (own_hs (own_at ds i))]))) (fun t k => st3 _ k) ?_
  by_cases hsz : (own_hs (own_at ds i)) = (0 : Int32)
  · refine own_fw (A' := (T3.setTop (mkF m 85 #[rv a1, iv i, iv (own_n ds), iv 0, iv (own_at ds i), .unset] [.int (own_at ds i)]))) (fun t k => XS.ifYes X3.here hx rfl (pc0 := 40) (pc' := 83) rfl (hb hby d30_40) rfl (XT.i0_eq_t hsz) (by decide) (by decide) (XS.iload X3.here hx rfl (hb hby d30_83) rfl k)) ?_
    obtain ⟨fs, hr, hrun, hended, hW, hsame⟩ := X3.leave (v := some (.int (own_at ds i))) (fun h => by rw [Bd.returns] at h; cases h)
    refine ⟨_, _, ?_, hrun, hended, _, _, rfl, ?_, ⟨_, rfl⟩, hW, hsame.mono (by decide) (by decide)⟩
    · exact retOut X3 hx Bd.returns rfl (Or.inl ⟨rfl, by simp, _, rfl⟩) (hb hby d30_85) hr
    · show Q_rmUaz Z a1 kb ds i h0 n0 _ T3.heap _
      rw [e3]
      exact ⟨(by simp only [own_ca, if_pos hf, if_neg hi0, if_pos hi1, if_pos hqq, if_pos hsz]), Nf3, rfl⟩
  · have hpr := own_pair hqq hsz
    refine own_fw (A' := (T3.setTop (mkF m 62 #[rv a1, iv (i + (1 : Int32)), iv (own_n ds), iv 0, iv (own_at ds i), .unset] [.int (i + (1 : Int32)), .ref a1]))) (fun t k => XS.ifNo X3.here hx rfl (hb hby d30_40) rfl (XT.i0_eq_f hsz) (XS.iinc X3.here hx rfl (hb hby d30_43) rfl (l' := #[rv a1, iv (i + (1 : Int32)), iv (own_n ds), iv 0, iv (own_at ds i), .unset]) rfl (XS.iloadN X3.here hx rfl (hb hby d30_46) rfl (XS.iloadN X3.here hx rfl (hb hby d30_47) rfl (XS.icmpNo X3.here hx rfl (hb hby d30_48) rfl (XT.ii_ge_f hpr.1) (XS.iloadN X3.here hx rfl (hb hby d30_51) rfl (XS.ifYes X3.here hx rfl (pc0 := 52) (pc' := 60) rfl (hb hby d30_52) rfl (XT.i0_eq_t rfl) (by decide) (by decide) (XS.aloadN X3.here hx rfl (hb hby d30_60) rfl rfl (XS.iloadN X3.here hx rfl (hb hby d30_61) rfl k))))))))) ?_
    obtain ⟨_, _, ⟨T4, L4, k4, n4⟩, -, X4, ⟨Lc4, hQ4, l4, y4, z4⟩, st4⟩ := Jvm.LawKit.callS X3 hx (y := yq1) hown (mvT hZ (own_w hw 57 rfl)) (mvT hZ (own_w hw 58 rfl)) (mvT hZ (own_w hw 35 rfl)) (mvT hZ (own_w hw 59 rfl)) (by decide) (backOf (W := 0) (rmGet l Z a0 hw [] a1 kb ds (i + (1 : Int32)) h0 n0 Z0 P0 P1 P2 P3 hf (own_v0 hf hi0 hi1) hpr.1) hZ (own_w hw 59 rfl) (own_w hw 35 rfl) (by decide) (by decide)) (g := (mkF m 62 #[rv a1, iv (i + (1 : Int32)), iv (own_n ds), iv 0, iv (own_at ds i), .unset] [.int (i + (1 : Int32)), .ref a1])) rfl (by rw [hml]; rfl) (argsL := [(.ref a1), (.int (i + (1 : Int32)))]) (rest := []) (lenOf pd___BI_C rfl) rfl (by show 2 * 0 + _ ≤ _; exact Nat.le_of_eq rfl) (hb hby d30_62) (fun _ _ => ⟨rfl, e3, (by decide : 0 + 0 ≤ _), (by decide : 0 + 0 ≤ _)⟩)
    dsimp only [Pt.U, Pt.locs, Pt.cells, Pt.slots] at X4 l4 y4 z4 st4 hQ4
    subst l4 y4 z4
    obtain ⟨rfl, Nq4, e4⟩ := hQ4
    have Nf4 := Fr.app Nf3 Nq4
    refine own_fw (A' := (T4.setTop (mkF m 69 #[rv a1, iv (i + (1 : Int32)), iv (own_n ds), iv 0, iv (own_at ds i), iv (own_at ds (i + (1 : Int32)))] [.int (own_at ds (i + (1 : Int32)))]))) (fun t k => st4 _ (XS.istore X4.here hx rfl (hb hby d30_65) rfl (l' := #[rv a1, iv (i + (1 : Int32)), iv (own_n ds), iv 0, iv (own_at ds i), iv (own_at ds (i + (1 : Int32)))]) rfl (XS.iload X4.here hx rfl (hb hby d30_67) rfl k))) ?_
    obtain ⟨_, _, ⟨T5, L5, k5, n5⟩, -, X5, ⟨Lc5, hQ5, l5, y5, z5⟩, st5⟩ := Jvm.LawKit.callS X4 hx (y := yq52) hown (mvT hZ (own_w hw 160 rfl)) (mvT hZ (own_w hw 161 rfl)) (mvT hZ (own_w hw 132 rfl)) (mvT hZ (own_w hw 162 rfl)) (by decide) (backOf (W := 0) (rmLs l Z a0 hw [] (own_at ds (i + (1 : Int32))) h0 n0 Z0 ) hZ (own_w hw 162 rfl) (own_w hw 132 rfl) (by decide) (by decide)) (g := (mkF m 69 #[rv a1, iv (i + (1 : Int32)), iv (own_n ds), iv 0, iv (own_at ds i), iv (own_at ds (i + (1 : Int32)))] [.int (own_at ds (i + (1 : Int32)))])) rfl (by rw [hml]; rfl) (argsL := [(.int (own_at ds (i + (1 : Int32))))]) (rest := []) (lenOf pd__C_Z rfl) rfl (by show 2 * 0 + _ ≤ _; exact Nat.le_of_eq rfl) (hb hby d30_69) (fun _ _ => ⟨rfl, e4, (by decide : 0 + 0 ≤ _), (by decide : 0 + 0 ≤ _)⟩)
    dsimp only [Pt.U, Pt.locs, Pt.cells, Pt.slots] at X5 l5 y5 z5 st5 hQ5
    subst l5 y5 z5
    obtain ⟨rfl, Nq5, e5⟩ := hQ5
    have Nf5 := Fr.app Nf4 Nq5
    refine own_fw (A' := (T5.setTop (mkF m 79 #[rv a1, iv (i + (1 : Int32)), iv (own_n ds), iv 0, iv (own_at ds i), iv (own_at ds (i + (1 : Int32)))] [.int (own_at ds (i + (1 : Int32))), .int (own_at ds i)]))) (fun t k => st5 _ (XS.ifNo X5.here hx rfl (hb hby d30_72) rfl (XT.i0_eq_f (own_lsn hpr.2)) (XS.iload X5.here hx rfl (hb hby d30_75) rfl (XS.iload X5.here hx rfl (hb hby d30_77) rfl k)))) ?_
    obtain ⟨_, _, ⟨T6, L6, k6, n6⟩, -, X6, ⟨Lc6, hQ6, l6, y6, z6⟩, st6⟩ := Jvm.LawKit.callS X5 hx (y := yq53) hown (mvT hZ (own_w hw 164 rfl)) (mvT hZ (own_w hw 165 rfl)) (mvT hZ (own_w hw 132 rfl)) (mvT hZ (own_w hw 166 rfl)) (by decide) (backOf (W := 0) (rmCp l Z a0 hw [] (own_at ds i) (own_at ds (i + (1 : Int32))) h0 n0 Z0 ) hZ (own_w hw 166 rfl) (own_w hw 132 rfl) (by decide) (by decide)) (g := (mkF m 79 #[rv a1, iv (i + (1 : Int32)), iv (own_n ds), iv 0, iv (own_at ds i), iv (own_at ds (i + (1 : Int32)))] [.int (own_at ds (i + (1 : Int32))), .int (own_at ds i)])) rfl (by rw [hml]; rfl) (argsL := [(.int (own_at ds i)), (.int (own_at ds (i + (1 : Int32))))]) (rest := []) (lenOf pd__CC_I rfl) rfl (by show 2 * 0 + _ ≤ _; exact Nat.le_of_eq rfl) (hb hby d30_79) (fun _ _ => ⟨rfl, e5, (by decide : 0 + 0 ≤ _), (by decide : 0 + 0 ≤ _)⟩)
    dsimp only [Pt.U, Pt.locs, Pt.cells, Pt.slots] at X6 l6 y6 z6 st6 hQ6
    subst l6 y6 z6
    obtain ⟨rfl, Nq6, e6⟩ := hQ6
    have Nf6 := Fr.app Nf5 Nq6
    refine own_fw (A' := (T6.setTop (mkF m 82 #[rv a1, iv (i + (1 : Int32)), iv (own_n ds), iv 0, iv (own_at ds i), iv (own_at ds (i + (1 : Int32)))] [.int (own_cp (own_at ds i) (own_at ds (i + (1 : Int32))))]))) (fun t k => st6 _ k) ?_
    obtain ⟨fs, hr, hrun, hended, hW, hsame⟩ := X6.leave (v := some (.int (own_cp (own_at ds i) (own_at ds (i + (1 : Int32)))))) (fun h => by rw [Bd.returns] at h; cases h)
    refine ⟨_, _, ?_, hrun, hended, _, _, rfl, ?_, ⟨_, rfl⟩, hW, hsame.mono (by decide) (by decide)⟩
    · exact retOut X6 hx Bd.returns rfl (Or.inl ⟨rfl, by simp, _, rfl⟩) (hb hby d30_82) hr
    · show Q_rmUaz Z a1 kb ds i h0 n0 _ T6.heap _
      rw [e6]
      exact ⟨(by simp only [own_ca, if_pos hf, if_neg hi0, if_pos hi1, if_pos hqq, if_neg hsz]), Nf6, rfl⟩
theorem d29_0 : decode jdk_52_method_8_code 0 = .ok (.aload_n 0, 1) := by decide +kernel
theorem d29_1 : decode jdk_52_method_8_code 1 = .ok (.iload_n 1, 1) := by decide +kernel
theorem d29_2 : decode jdk_52_method_8_code 2 = .ok (.iload_n 2, 1) := by decide +kernel
theorem d29_3 : decode jdk_52_method_8_code 3 = .ok (.iconst 0, 1) := by decide +kernel
theorem d29_4 : decode jdk_52_method_8_code 4 = .ok (.invokestatic 88, 3) := by decide +kernel
theorem d29_7 : decode jdk_52_method_8_code 7 = .ok (.ireturn, 1) := by decide +kernel
theorem ef_rmUa (m : MethodId) (a1 : Addr) (ds : List Int32) (i : Int32) : entryFrame m #[(.ref a1), (.int i), (.int (own_n ds))] 3 = mkF m 0 #[.val (.ref a1), .val (.int i), .val (.int (own_n ds))] [] := by first | (simp [entryFrame, mkF, argsToLocals, Value.category]; done) | rfl
def Q_rmUa (Z : State) (a1 : Addr) (kb : ClassId) (ds : List Int32) (i : Int32) (h0 : Heap) (n0 : Nat) (v : Option Value) (h : Heap) (L : List Loc) : Prop := v = some (.int (own_ca ds i)) ∧ Fr n0 L ∧ h = h0
theorem rmUa (l : Launch) (Z : State) (a0 : Array Value) (hw : ∀ d ∈ tables_1, d.before a0 Z = true) (ws : List Jvm.Cond) (a1 : Addr) (kb : ClassId) (ds : List Int32) (i : Int32) (h0 : Heap) (n0 : Nat) (Z0 : n0 ≤ h0.size) (P0 : Arv Z h0 a1 kb .byte (own_2 ds) (own_by ds) (.int 0)) (P1 : Sta Z h0 "java/lang/StringUTF16" "$assertionsDisabled" "Z" (.int 1)) (P2 : Sta Z h0 "java/lang/StringUTF16" "HI_BYTE_SHIFT" "I" (.int 0)) (P3 : Sta Z h0 "java/lang/StringUTF16" "LO_BYTE_SHIFT" "I" (.int 8)) (hf : own_fine ds) (hi0 : ¬ (i < (0 : Int32))) (hi1 : i < (own_n ds)) (hqq : own_q ds i) :
    MetFree l yq69 (head1 (Jvm.Cond.code yq69 jdk_52_method_8_code 3 (some .int) :: ws) rq63) (fun a U => a = #[(.ref a1), (.int i), (.int (own_n ds))] ∧ Z.Warmed39 U.vm ∧ U.heap = h0) (fun _ _ _ _ _ => True) (fun _ U o U' => ∃ v L, o = .returned v ∧ Q_rmUa Z a1 kb ds i h0 n0 v U'.heap L ∧ FrameEnd U o U' L rq63.cells rq63.slots) := by
  refine MetFree.of_bodySF (plainFor_of_name pn_java_lang_StringUTF16) hisR ?_
  intro p e s m args below meth c s₁ Bd hml0 hP hK
  obtain ⟨rfl, hZ, hh⟩ := hP
  have hx := Bd.exec
  have hby := Bd.bytes
  have hml : c.maxLocals = 3 := hml0
  have hown : s.vm.findClass "java/lang/StringUTF16" = some m.cls := findClass_of_methodNamed Bd.named
  have hnm := (name_of_methodNamed Bd.named Bd.method).1
  have X0 : Stand p l e rq63 s m #[(.ref a1), (.int i), (.int (own_n ds))] below meth c s₁ [] 0 0 := Stand.of_body Bd
  have e0 : s₁.heap = h0 := by rw [← hh, Bd.state]; rfl
  have N0 := Fr.nil n0
  refine own_fw (A' := (s₁.setTop (mkF m 4 #[rv a1, iv i, iv (own_n ds)] [.int 0, .int (own_n ds), .int i, .ref a1]))) (fun t k => castTop (ef_rmUa m a1 ds i) (XS.aloadN X0.here hx rfl (hb hby d29_0) rfl rfl (XS.iloadN X0.here hx rfl (hb hby d29_1) rfl (XS.iloadN X0.here hx rfl (hb hby d29_2) rfl (XS.iconst X0.here hx rfl (hb hby d29_3) k))))) ?_
  obtain ⟨_, _, ⟨T1, L1, k1, n1⟩, -, X1, ⟨Lc1, hQ1, l1, y1, z1⟩, st1⟩ := Jvm.LawKit.callS X0 hx (y := yq68) hown (mvT hZ (own_w hw 127 rfl)) (mvT hZ (own_w hw 128 rfl)) (mvT hZ (own_w hw 35 rfl)) (mvT hZ (own_w hw 129 rfl)) (by decide) (backOf (W := 0) (rmUaz l Z a0 hw [] a1 kb ds i h0 n0 Z0 P0 P1 P2 P3 hf hi0 hi1 hqq) hZ (own_w hw 129 rfl) (own_w hw 35 rfl) (by decide) (by decide)) (g := (mkF m 4 #[rv a1, iv i, iv (own_n ds)] [.int 0, .int (own_n ds), .int i, .ref a1])) rfl (by rw [hml]; rfl) (argsL := [(.ref a1), (.int i), (.int (own_n ds)), (.int 0)]) (rest := []) (lenOf pd___BIIZ_I rfl) rfl (by show 2 * 0 + _ ≤ _; exact Nat.le_of_eq rfl) (hb hby d29_4) (fun _ _ => ⟨rfl, e0, (by decide : 0 + 0 ≤ _), (by decide : 0 + 0 ≤ _)⟩)
  dsimp only [Pt.U, Pt.locs, Pt.cells, Pt.slots] at X1 l1 y1 z1 st1 hQ1
  subst l1 y1 z1
  obtain ⟨rfl, Nq1, e1⟩ := hQ1
  have Nf1 := Fr.app N0 Nq1
  refine own_fw (A' := (T1.setTop (mkF m 7 #[rv a1, iv i, iv (own_n ds)] [.int (own_ca ds i)]))) (fun t k => st1 _ k) ?_
  obtain ⟨fs, hr, hrun, hended, hW, hsame⟩ := X1.leave (v := some (.int (own_ca ds i))) (fun h => by rw [Bd.returns] at h; cases h)
  refine ⟨_, _, ?_, hrun, hended, _, _, rfl, ?_, ⟨_, rfl⟩, hW, hsame.mono (by decide) (by decide)⟩
  · exact retOut X1 hx Bd.returns rfl (Or.inl ⟨rfl, by simp, _, rfl⟩) (hb hby d29_7) hr
  · show Q_rmUa Z a1 kb ds i h0 n0 _ T1.heap _
    rw [e1]
    exact ⟨rfl, Nf1, rfl⟩
theorem d26_0 : decode jdk_42_method_57_code 0 = .ok (.aload_n 0, 1) := by decide +kernel
theorem d26_1 : decode jdk_42_method_57_code 1 = .ok (.invokevirtual 492, 3) := by decide +kernel
theorem d26_4 : decode jdk_42_method_57_code 4 = .ok (.ifCond .eq 23, 3) := by decide +kernel
theorem d26_27 : decode jdk_42_method_57_code 27 = .ok (.aload_n 0, 1) := by decide +kernel
theorem d26_28 : decode jdk_42_method_57_code 28 = .ok (.getfield 9, 3) := by decide +kernel
theorem d26_31 : decode jdk_42_method_57_code 31 = .ok (.arraylength, 1) := by decide +kernel
theorem d26_32 : decode jdk_42_method_57_code 32 = .ok (.iconst 1, 1) := by decide +kernel
theorem d26_33 : decode jdk_42_method_57_code 33 = .ok (.ishr, 1) := by decide +kernel
theorem d26_34 : decode jdk_42_method_57_code 34 = .ok (.istore_n 2, 1) := by decide +kernel
theorem d26_35 : decode jdk_42_method_57_code 35 = .ok (.iload_n 1, 1) := by decide +kernel
theorem d26_36 : decode jdk_42_method_57_code 36 = .ok (.iload_n 2, 1) := by decide +kernel
theorem d26_37 : decode jdk_42_method_57_code 37 = .ok (.invokestatic 499, 3) := by decide +kernel
theorem pd__II_V : parseMethodDescriptor "(II)V" = some ⟨[.int, .int], none⟩ := by decide +kernel
theorem d26_40 : decode jdk_42_method_57_code 40 = .ok (.aload_n 0, 1) := by decide +kernel
theorem d26_41 : decode jdk_42_method_57_code 41 = .ok (.getfield 9, 3) := by decide +kernel
theorem d26_44 : decode jdk_42_method_57_code 44 = .ok (.iload_n 1, 1) := by decide +kernel
theorem d26_45 : decode jdk_42_method_57_code 45 = .ok (.iload_n 2, 1) := by decide +kernel
theorem d26_46 : decode jdk_42_method_57_code 46 = .ok (.invokestatic 502, 3) := by decide +kernel
theorem d26_49 : decode jdk_42_method_57_code 49 = .ok (.ireturn, 1) := by decide +kernel
theorem ef_rmCpaU (m : MethodId) (a1 : Addr) (i : Int32) : entryFrame m #[(.ref a1), (.int i)] 3 = mkF m 0 #[.val (.ref a1), .val (.int i), .unset] [] := by first | (simp [entryFrame, mkF, argsToLocals, Value.category]; done) | rfl
def Q_rmCpaU (Z : State) (a1 b1 : Addr) (kb : ClassId) (cs : Int32) (ds : List Int32) (sv : Value) (i : Int32) (h0 : Heap) (n0 : Nat) (v : Option Value) (h : Heap) (L : List Loc) : Prop := v = some (.int (own_ca ds i)) ∧ Fr n0 L ∧ h = h0
theorem rmCpaU (l : Launch) (Z : State) (a0 : Array Value) (hw : ∀ d ∈ tables_1, d.before a0 Z = true) (ws : List Jvm.Cond) (a1 b1 : Addr) (kb : ClassId) (cs : Int32) (ds : List Int32) (sv : Value) (i : Int32) (h0 : Heap) (n0 : Nat) (Z0 : n0 ≤ h0.size) (P0 : Exa Z h0 a1 "java/lang/String") (P1 : Fld Z h0 a1 "java/lang/String" "coder" "B" (.int 1)) (P2 : Fld Z h0 a1 "java/lang/String" "value" "[B" (.ref b1)) (P3 : Arv Z h0 b1 kb .byte (own_2 ds) (own_by ds) (.int 0)) (P4 : Sta Z h0 "java/lang/String" "COMPACT_STRINGS" "Z" (.int cs)) (hcs : ¬ (cs = (0 : Int32))) (P6 : Sta Z h0 "jdk/internal/util/Preconditions" "SIOOBE_FORMATTER" "Ljava/util/function/BiFunction;" sv) (hsv : sv.isRef = true) (P8 : Sta Z h0 "java/lang/StringUTF16" "$assertionsDisabled" "Z" (.int 1)) (P9 : Sta Z h0 "java/lang/StringUTF16" "HI_BYTE_SHIFT" "I" (.int 0)) (P10 : Sta Z h0 "java/lang/StringUTF16" "LO_BYTE_SHIFT" "I" (.int 8)) (hf : own_fine ds) (hi0 : ¬ (i < (0 : Int32))) (hi1 : i < (own_n ds)) (hqq : own_q ds i) :
    MetFree l yq70 (head1 (Jvm.Cond.code yq70 jdk_42_method_57_code 3 (some .int) :: ws) rq67) (fun a U => a = #[(.ref a1), (.int i)] ∧ Z.Warmed39 U.vm ∧ U.heap = h0) (fun _ _ _ _ _ => True) (fun _ U o U' => ∃ v L, o = .returned v ∧ Q_rmCpaU Z a1 b1 kb cs ds sv i h0 n0 v U'.heap L ∧ FrameEnd U o U' L rq67.cells rq67.slots) := by
  refine MetFree.of_bodySF (plainFor_of_name pn_java_lang_String) hisR ?_
  intro p e s m args below meth c s₁ Bd hml0 hP hK
  obtain ⟨rfl, hZ, hh⟩ := hP
  have hx := Bd.exec
  have hby := Bd.bytes
  have hml : c.maxLocals = 3 := hml0
  have hown : s.vm.findClass "java/lang/String" = some m.cls := findClass_of_methodNamed Bd.named
  have hnm := (name_of_methodNamed Bd.named Bd.method).1
  have X0 : Stand p l e rq67 s m #[(.ref a1), (.int i)] below meth c s₁ [] 0 0 := Stand.of_body Bd
  have e0 : s₁.heap = h0 := by rw [← hh, Bd.state]; rfl
  have N0 := Fr.nil n0
  refine own_fw (A' := (s₁.setTop (mkF m 1 #[rv a1, iv i, .unset] [.ref a1]))) (fun t k => castTop (ef_rmCpaU m a1 i) (XS.aloadN X0.here hx rfl (hb hby d26_0) rfl rfl k)) ?_
  obtain ⟨cq1, kq1, qa1, qb1, qc1⟩ := isOf hZ e0 P0
  obtain ⟨_, _, ⟨T1, L1, k1, n1⟩, -, X1, ⟨Lc1, hQ1, l1, y1, z1⟩, st1⟩ := X0.virtualBack hx (y := yq56) (z := yq56) hown (mvT hZ (own_w hw 101 rfl)) (mvT hZ (own_w hw 102 rfl)) (notFace_of_selects (args := #[]) (mvT hZ (own_w hw 104 rfl))) (mvT hZ (own_w hw 104 rfl)) (mvT hZ (own_w hw 103 rfl)) (by decide) (backOf (W := 0) (rmIslU l Z a0 hw [] a1 cs h0 n0 Z0 P1 P4 hcs) hZ (own_w hw 105 rfl) (own_w hw 21 rfl) (by decide) (by decide)) qa1 qc1 (g := (mkF m 1 #[rv a1, iv i, .unset] [.ref a1])) rfl (by rw [hml]; rfl) (Steps.refl _) (argsL := []) (rest := []) (lenOf pd___Z rfl) rfl (by show 2 * 0 + _ ≤ _; exact Nat.le_of_eq rfl) (hb hby d26_1) (fun _ _ => ⟨rfl, e0, (by decide : 0 + 0 ≤ _), (by decide : 0 + 0 ≤ _)⟩)
  dsimp only [Pt.U, Pt.locs, Pt.cells, Pt.slots] at X1 l1 y1 z1 st1 hQ1
  subst l1 y1 z1
  obtain ⟨rfl, Nq1, e1⟩ := hQ1
  have Nf1 := Fr.app N0 Nq1
  refine own_fw (A' := (T1.setTop (mkF m 28 #[rv a1, iv i, .unset] [.ref a1]))) (fun t k => st1.trans (XS.ifYes X1.here hx rfl (pc0 := 4) (pc' := 27) rfl (hb hby d26_4) rfl (XT.i0_eq_t rfl) (by decide) (by decide) (XS.aloadN X1.here hx rfl (hb hby d26_27) rfl rfl k))) ?_
  obtain ⟨T2, X2, e2, st2⟩ := getF X1 hx hZ hown (host := "") (Or.inl (own_w hw 65 rfl)) Via.refl e1 P2 (g := (mkF m 28 #[rv a1, iv i, .unset] [.ref a1])) rfl rfl (hb hby d26_28)
  refine own_fw (A' := (T2.setTop (mkF m 31 #[rv a1, iv i, .unset] [.ref b1]))) (fun t k => st2 _ k) ?_
  obtain ⟨cl3, Ar3, q3, S3, M3, H3, G3⟩ := id P3
  refine own_fw (A' := (T2.setTop (mkF m 32 #[rv a1, iv i, .unset] [.int (own_2 ds)]))) (fun t k => X2.arraylength hx (by rw [e2]; exact Ar3.1) (State.isArrayOf_alike hZ.alike Ar3.2.1) (g := (mkF m 31 #[rv a1, iv i, .unset] [.ref b1])) rfl rfl (hb hby d26_31) _ (by rw [len_of S3 M3]; exact k)) ?_
  refine own_fw (A' := (T2.setTop (mkF m 34 #[rv a1, iv i, .unset] [.int ((own_2 ds) >>> ((1 : Int32) &&& 31))]))) (fun t k => XS.iconst X2.here hx rfl (hb hby d26_32) (XS.ishr X2.here hx rfl (hb hby d26_33) rfl k)) ?_
  rw [own_half hf]
  refine own_fw (A' := (T2.setTop (mkF m 37 #[rv a1, iv i, iv (own_n ds)] [.int (own_n ds), .int i]))) (fun t k => XS.istoreN X2.here hx rfl (hb hby d26_34) rfl (l' := #[rv a1, iv i, iv (own_n ds)]) rfl (XS.iloadN X2.here hx rfl (hb hby d26_35) rfl (XS.iloadN X2.here hx rfl (hb hby d26_36) rfl k))) ?_
  obtain ⟨_, _, ⟨T4, L4, k4, n4⟩, -, X4, ⟨Lc4, hQ4, l4, y4, z4⟩, st4⟩ := Jvm.LawKit.callS X2 hx (y := yq45) hown (mvT hZ (own_w hw 117 rfl)) (mvT hZ (own_w hw 118 rfl)) (mvT hZ (own_w hw 21 rfl)) (mvT hZ (own_w hw 119 rfl)) (by decide) (backOf (W := 0) (rmCk l Z a0 hw [] i (own_n ds) sv h0 n0 Z0 P6 hsv hi0 hi1) hZ (own_w hw 119 rfl) (own_w hw 21 rfl) (by decide) (by decide)) (g := (mkF m 37 #[rv a1, iv i, iv (own_n ds)] [.int (own_n ds), .int i])) rfl (by rw [hml]; rfl) (argsL := [(.int i), (.int (own_n ds))]) (rest := []) (lenOf pd__II_V rfl) rfl (by show 2 * 0 + _ ≤ _; exact Nat.le_of_eq rfl) (hb hby d26_37) (fun _ _ => ⟨rfl, e2, (by decide : 0 + 0 ≤ _), (by decide : 0 + 0 ≤ _)⟩)
  dsimp only [Pt.U, Pt.locs, Pt.cells, Pt.slots] at X4 l4 y4 z4 st4 hQ4
  subst l4 y4 z4
  obtain ⟨rfl, Nq4, e4⟩ := hQ4
  have Nf4 := Fr.app Nf1 Nq4
  refine own_fw (A' := (T4.setTop (mkF m 41 #[rv a1, iv i, iv (own_n ds)] [.ref a1]))) (fun t k => st4 _ (XS.aloadN X4.here hx rfl (hb hby d26_40) rfl rfl k)) ?_
  obtain ⟨T5, X5, e5, st5⟩ := getF X4 hx hZ hown (host := "") (Or.inl (own_w hw 65 rfl)) Via.refl e4 P2 (g := (mkF m 41 #[rv a1, iv i, iv (own_n ds)] [.ref a1])) rfl rfl (hb hby d26_41)
  refine own_fw (A' := (T5.setTop (mkF m 46 #[rv a1, iv i, iv (own_n ds)] [.int (own_n ds), .int i, .ref b1]))) (fun t k => st5 _ (XS.iloadN X5.here hx rfl (hb hby d26_44) rfl (XS.iloadN X5.here hx rfl (hb hby d26_45) rfl k))) ?_
  obtain ⟨_, _, ⟨T6, L6, k6, n6⟩, -, X6, ⟨Lc6, hQ6, l6, y6, z6⟩, st6⟩ := Jvm.LawKit.callS X5 hx (y := yq69) hown (mvT hZ (own_w hw 124 rfl)) (mvT hZ (own_w hw 125 rfl)) (mvT hZ (own_w hw 35 rfl)) (mvT hZ (own_w hw 126 rfl)) (by decide) (backOf (W := 0) (rmUa l Z a0 hw [] b1 kb ds i h0 n0 Z0 P3 P8 P9 P10 hf hi0 hi1 hqq) hZ (own_w hw 126 rfl) (own_w hw 35 rfl) (by decide) (by decide)) (g := (mkF m 46 #[rv a1, iv i, iv (own_n ds)] [.int (own_n ds), .int i, .ref b1])) rfl (by rw [hml]; rfl) (argsL := [(.ref b1), (.int i), (.int (own_n ds))]) (rest := []) (lenOf pd___BII_I rfl) rfl (by show 2 * 0 + _ ≤ _; exact Nat.le_of_eq rfl) (hb hby d26_46) (fun _ _ => ⟨rfl, e5, (by decide : 0 + 0 ≤ _), (by decide : 0 + 0 ≤ _)⟩)
  dsimp only [Pt.U, Pt.locs, Pt.cells, Pt.slots] at X6 l6 y6 z6 st6 hQ6
  subst l6 y6 z6
  obtain ⟨rfl, Nq6, e6⟩ := hQ6
  have Nf6 := Fr.app Nf4 Nq6
  refine own_fw (A' := (T6.setTop (mkF m 49 #[rv a1, iv i, iv (own_n ds)] [.int (own_ca ds i)]))) (fun t k => st6 _ k) ?_
  obtain ⟨fs, hr, hrun, hended, hW, hsame⟩ := X6.leave (v := some (.int (own_ca ds i))) (fun h => by rw [Bd.returns] at h; cases h)
  refine ⟨_, _, ?_, hrun, hended, _, _, rfl, ?_, ⟨_, rfl⟩, hW, hsame.mono (by decide) (by decide)⟩
  · exact retOut X6 hx Bd.returns rfl (Or.inl ⟨rfl, by simp, _, rfl⟩) (hb hby d26_49) hr
  · show Q_rmCpaU Z a1 b1 kb cs ds sv i h0 n0 _ T6.heap _
    rw [e6]
    exact ⟨rfl, Nf6, rfl⟩
theorem d26_7 : decode jdk_42_method_57_code 7 = .ok (.iload_n 1, 1) := by decide +kernel
theorem d26_8 : decode jdk_42_method_57_code 8 = .ok (.aload_n 0, 1) := by decide +kernel
theorem d26_9 : decode jdk_42_method_57_code 9 = .ok (.getfield 9, 3) := by decide +kernel
theorem d26_12 : decode jdk_42_method_57_code 12 = .ok (.arraylength, 1) := by decide +kernel
theorem d26_13 : decode jdk_42_method_57_code 13 = .ok (.invokestatic 499, 3) := by decide +kernel
theorem d26_16 : decode jdk_42_method_57_code 16 = .ok (.aload_n 0, 1) := by decide +kernel
theorem d26_17 : decode jdk_42_method_57_code 17 = .ok (.getfield 9, 3) := by decide +kernel
theorem d26_20 : decode jdk_42_method_57_code 20 = .ok (.iload_n 1, 1) := by decide +kernel
theorem d26_21 : decode jdk_42_method_57_code 21 = .ok (.baload, 1) := by decide +kernel
theorem d26_22 : decode jdk_42_method_57_code 22 = .ok (.sipush 255, 3) := by decide +kernel
theorem d26_25 : decode jdk_42_method_57_code 25 = .ok (.iand, 1) := by decide +kernel
theorem d26_26 : decode jdk_42_method_57_code 26 = .ok (.ireturn, 1) := by decide +kernel
theorem ef_rmCpaL (m : MethodId) (a1 : Addr) (i : Int32) : entryFrame m #[(.ref a1), (.int i)] 3 = mkF m 0 #[.val (.ref a1), .val (.int i), .unset] [] := by first | (simp [entryFrame, mkF, argsToLocals, Value.category]; done) | rfl
def Q_rmCpaL (Z : State) (a1 b1 : Addr) (kb : ClassId) (cs : Int32) (ds : List Int32) (sv : Value) (i : Int32) (h0 : Heap) (n0 : Nat) (v : Option Value) (h : Heap) (L : List Loc) : Prop := v = some (.int (own_at ds i)) ∧ Fr n0 L ∧ h = h0
theorem rmCpaL (l : Launch) (Z : State) (a0 : Array Value) (hw : ∀ d ∈ tables_1, d.before a0 Z = true) (ws : List Jvm.Cond) (a1 b1 : Addr) (kb : ClassId) (cs : Int32) (ds : List Int32) (sv : Value) (i : Int32) (h0 : Heap) (n0 : Nat) (Z0 : n0 ≤ h0.size) (P0 : Exa Z h0 a1 "java/lang/String") (P1 : Fld Z h0 a1 "java/lang/String" "coder" "B" (.int 0)) (P2 : Fld Z h0 a1 "java/lang/String" "value" "[B" (.ref b1)) (P3 : Arv Z h0 b1 kb .byte (own_n ds) (own_ly ds) (.int 0)) (P4 : Sta Z h0 "java/lang/String" "COMPACT_STRINGS" "Z" (.int cs)) (hcs : ¬ (cs = (0 : Int32))) (P6 : Sta Z h0 "jdk/internal/util/Preconditions" "SIOOBE_FORMATTER" "Ljava/util/function/BiFunction;" sv) (hsv : sv.isRef = true) (hf : own_fine ds) (hi0 : ¬ (i < (0 : Int32))) (hi1 : i < (own_n ds)) (hla : own_la (own_at ds i)) :
    MetFree l yq70 (head1 (Jvm.Cond.code yq70 jdk_42_method_57_code 3 (some .int) :: ws) rq71) (fun a U => a = #[(.ref a1), (.int i)] ∧ Z.Warmed39 U.vm ∧ U.heap = h0) (fun _ _ _ _ _ => True) (fun _ U o U' => ∃ v L, o = .returned v ∧ Q_rmCpaL Z a1 b1 kb cs ds sv i h0 n0 v U'.heap L ∧ FrameEnd U o U' L rq71.cells rq71.slots) := by
  refine MetFree.of_bodySF (plainFor_of_name pn_java_lang_String) hisR ?_
  intro p e s m args below meth c s₁ Bd hml0 hP hK
  obtain ⟨rfl, hZ, hh⟩ := hP
  have hx := Bd.exec
  have hby := Bd.bytes
  have hml : c.maxLocals = 3 := hml0
  have hown : s.vm.findClass "java/lang/String" = some m.cls := findClass_of_methodNamed Bd.named
  have hnm := (name_of_methodNamed Bd.named Bd.method).1
  have X0 : Stand p l e rq71 s m #[(.ref a1), (.int i)] below meth c s₁ [] 0 0 := Stand.of_body Bd
  have e0 : s₁.heap = h0 := by rw [← hh, Bd.state]; rfl
  have N0 := Fr.nil n0
  refine own_fw (A' := (s₁.setTop (mkF m 1 #[rv a1, iv i, .unset] [.ref a1]))) (fun t k => castTop (ef_rmCpaL m a1 i) (XS.aloadN X0.here hx rfl (hb hby d26_0) rfl rfl k)) ?_
  obtain ⟨cq1, kq1, qa1, qb1, qc1⟩ := isOf hZ e0 P0
  obtain ⟨_, _, ⟨T1, L1, k1, n1⟩, -, X1, ⟨Lc1, hQ1, l1, y1, z1⟩, st1⟩ := X0.virtualBack hx (y := yq56) (z := yq56) hown (mvT hZ (own_w hw 101 rfl)) (mvT hZ (own_w hw 102 rfl)) (notFace_of_selects (args := #[]) (mvT hZ (own_w hw 104 rfl))) (mvT hZ (own_w hw 104 rfl)) (mvT hZ (own_w hw 103 rfl)) (by decide) (backOf (W := 0) (rmIslL l Z a0 hw [] a1 cs h0 n0 Z0 P1 P4 hcs) hZ (own_w hw 105 rfl) (own_w hw 21 rfl) (by decide) (by decide)) qa1 qc1 (g := (mkF m 1 #[rv a1, iv i, .unset] [.ref a1])) rfl (by rw [hml]; rfl) (Steps.refl _) (argsL := []) (rest := []) (lenOf pd___Z rfl) rfl (by show 2 * 0 + _ ≤ _; exact Nat.le_of_eq rfl) (hb hby d26_1) (fun _ _ => ⟨rfl, e0, (by decide : 0 + 0 ≤ _), (by decide : 0 + 0 ≤ _)⟩)
  dsimp only [Pt.U, Pt.locs, Pt.cells, Pt.slots] at X1 l1 y1 z1 st1 hQ1
  subst l1 y1 z1
  obtain ⟨rfl, Nq1, e1⟩ := hQ1
  have Nf1 := Fr.app N0 Nq1
  refine own_fw (A' := (T1.setTop (mkF m 9 #[rv a1, iv i, .unset] [.ref a1, .int i]))) (fun t k => st1.trans (XS.ifNo X1.here hx rfl (hb hby d26_4) rfl (XT.i0_eq_f (by decide)) (XS.iloadN X1.here hx rfl (hb hby d26_7) rfl (XS.aloadN X1.here hx rfl (hb hby d26_8) rfl rfl k)))) ?_
  obtain ⟨T2, X2, e2, st2⟩ := getF X1 hx hZ hown (host := "") (Or.inl (own_w hw 65 rfl)) Via.refl e1 P2 (g := (mkF m 9 #[rv a1, iv i, .unset] [.ref a1, .int i])) rfl rfl (hb hby d26_9)
  refine own_fw (A' := (T2.setTop (mkF m 12 #[rv a1, iv i, .unset] [.ref b1, .int i]))) (fun t k => st2 _ k) ?_
  obtain ⟨cl3, Ar3, q3, S3, M3, H3, G3⟩ := id P3
  refine own_fw (A' := (T2.setTop (mkF m 13 #[rv a1, iv i, .unset] [.int (own_n ds), .int i]))) (fun t k => X2.arraylength hx (by rw [e2]; exact Ar3.1) (State.isArrayOf_alike hZ.alike Ar3.2.1) (g := (mkF m 12 #[rv a1, iv i, .unset] [.ref b1, .int i])) rfl rfl (hb hby d26_12) _ (by rw [len_of S3 M3]; exact k)) ?_
  obtain ⟨_, _, ⟨T4, L4, k4, n4⟩, -, X4, ⟨Lc4, hQ4, l4, y4, z4⟩, st4⟩ := Jvm.LawKit.callS X2 hx (y := yq45) hown (mvT hZ (own_w hw 117 rfl)) (mvT hZ (own_w hw 118 rfl)) (mvT hZ (own_w hw 21 rfl)) (mvT hZ (own_w hw 119 rfl)) (by decide) (backOf (W := 0) (rmCk l Z a0 hw [] i (own_n ds) sv h0 n0 Z0 P6 hsv hi0 hi1) hZ (own_w hw 119 rfl) (own_w hw 21 rfl) (by decide) (by decide)) (g := (mkF m 13 #[rv a1, iv i, .unset] [.int (own_n ds), .int i])) rfl (by rw [hml]; rfl) (argsL := [(.int i), (.int (own_n ds))]) (rest := []) (lenOf pd__II_V rfl) rfl (by show 2 * 0 + _ ≤ _; exact Nat.le_of_eq rfl) (hb hby d26_13) (fun _ _ => ⟨rfl, e2, (by decide : 0 + 0 ≤ _), (by decide : 0 + 0 ≤ _)⟩)
  dsimp only [Pt.U, Pt.locs, Pt.cells, Pt.slots] at X4 l4 y4 z4 st4 hQ4
  subst l4 y4 z4
  obtain ⟨rfl, Nq4, e4⟩ := hQ4
  have Nf4 := Fr.app Nf1 Nq4
  refine own_fw (A' := (T4.setTop (mkF m 17 #[rv a1, iv i, .unset] [.ref a1]))) (fun t k => st4 _ (XS.aloadN X4.here hx rfl (hb hby d26_16) rfl rfl k)) ?_
  obtain ⟨T5, X5, e5, st5⟩ := getF X4 hx hZ hown (host := "") (Or.inl (own_w hw 65 rfl)) Via.refl e4 P2 (g := (mkF m 17 #[rv a1, iv i, .unset] [.ref a1])) rfl rfl (hb hby d26_17)
  refine own_fw (A' := (T5.setTop (mkF m 21 #[rv a1, iv i, .unset] [.int i, .ref b1]))) (fun t k => st5 _ (XS.iloadN X5.here hx rfl (hb hby d26_20) rfl k)) ?_
  obtain ⟨cl6, Ar6, q6, S6, M6, H6, G6⟩ := id P3
  have hin6 : ¬ (i < 0 ∨ cl6.slots.size ≤ (i).toNatClampNeg) := inb_of S6 ⟨hi0, hi1⟩
  have hat6 : cl6.slots[(i).toNatClampNeg]? = some (.int ((own_at ds i).toInt8.toInt32)) := H6.at hin6 (own_ly0 ds _)
  refine own_fw (A' := (T5.setTop (mkF m 26 #[rv a1, iv i, .unset] [.int (((own_at ds i).toInt8.toInt32) &&& (255 : Int32))]))) (fun t k => X5.baloadBytes hx (j := i) (v := (.int ((own_at ds i).toInt8.toInt32))) (by rw [e5]; exact Ar6.1) (State.isArrayOf_alike hZ.alike Ar6.2.1) Ar6.2.2 hin6 hat6 (g := (mkF m 21 #[rv a1, iv i, .unset] [.int i, .ref b1])) rfl rfl (hb hby d26_21) _ (XS.sipush X5.here hx rfl (hb hby d26_22) (XS.iand X5.here hx rfl (hb hby d26_25) rfl k))) ?_
  obtain ⟨fs, hr, hrun, hended, hW, hsame⟩ := X5.leave (v := some (.int (((own_at ds i).toInt8.toInt32) &&& (255 : Int32)))) (fun h => by rw [Bd.returns] at h; cases h)
  refine ⟨_, _, ?_, hrun, hended, _, _, rfl, ?_, ⟨_, rfl⟩, hW, hsame.mono (by decide) (by decide)⟩
  · exact retOut X5 hx Bd.returns rfl (Or.inl ⟨rfl, by simp, _, rfl⟩) (hb hby d26_26) hr
  · show Q_rmCpaL Z a1 b1 kb cs ds sv i h0 n0 _ T5.heap _
    rw [e5]
    exact ⟨(congrArg (fun z => some (Value.int z)) (own_lav hla)), Nf4, rfl⟩
theorem d17_0 : decode jdk_31_method_11_code 0 = .ok (.aload_n 0, 1) := by decide +kernel
theorem d17_1 : decode jdk_31_method_11_code 1 = .ok (.ifnonnull 12, 3) := by decide +kernel
theorem d17_13 : decode jdk_31_method_11_code 13 = .ok (.aload_n 0, 1) := by decide +kernel
theorem d17_14 : decode jdk_31_method_11_code 14 = .ok (.areturn, 1) := by decide +kernel
theorem ef_rmRnn (m : MethodId) (a1 a2 : Addr) : entryFrame m #[(.ref a1), (.ref a2)] 2 = mkF m 0 #[.val (.ref a1), .val (.ref a2)] [] := by first | (simp [entryFrame, mkF, argsToLocals, Value.category]; done) | rfl
def Q_rmRnn (Z : State) (a1 a2 : Addr) (h0 : Heap) (n0 : Nat) (v : Option Value) (h : Heap) (L : List Loc) : Prop := v = some (.ref a1) ∧ Fr n0 L ∧ h = h0
theorem rmRnn (l : Launch) (Z : State) (a0 : Array Value) (hw : ∀ d ∈ tables_1, d.before a0 Z = true) (ws : List Jvm.Cond) (a1 a2 : Addr) (h0 : Heap) (n0 : Nat) (Z0 : n0 ≤ h0.size)  :
    MetFree l yq72 (head1 (Jvm.Cond.code yq72 jdk_31_method_11_code 2 (some (.object "java/lang/Object")) :: ws) rq0) (fun a U => a = #[(.ref a1), (.ref a2)] ∧ Z.Warmed39 U.vm ∧ U.heap = h0) (fun _ _ _ _ _ => True) (fun _ U o U' => ∃ v L, o = .returned v ∧ Q_rmRnn Z a1 a2 h0 n0 v U'.heap L ∧ FrameEnd U o U' L rq0.cells rq0.slots) := by
  refine MetFree.of_bodySF (plainFor_of_name pn_java_util_Objects) hisR ?_
  intro p e s m args below meth c s₁ Bd hml0 hP hK
  obtain ⟨rfl, hZ, hh⟩ := hP
  have hx := Bd.exec
  have hby := Bd.bytes
  have hml : c.maxLocals = 2 := hml0
  have hown : s.vm.findClass "java/util/Objects" = some m.cls := findClass_of_methodNamed Bd.named
  have hnm := (name_of_methodNamed Bd.named Bd.method).1
  have X0 : Stand p l e rq0 s m #[(.ref a1), (.ref a2)] below meth c s₁ [] 0 0 := Stand.of_body Bd
  have e0 : s₁.heap = h0 := by rw [← hh, Bd.state]; rfl
  have N0 := Fr.nil n0
  refine own_fw (A' := (s₁.setTop (mkF m 14 #[rv a1, rv a2] [.ref a1]))) (fun t k => castTop (ef_rmRnn m a1 a2) (XS.aloadN X0.here hx rfl (hb hby d17_0) rfl rfl (XS.ifnonnullYes X0.here hx rfl (pc0 := 1) (pc' := 13) rfl (hb hby d17_1) rfl (by decide) (by decide) (XS.aloadN X0.here hx rfl (hb hby d17_13) rfl rfl k)))) ?_
  obtain ⟨fs, hr, hrun, hended, hW, hsame⟩ := X0.leave (v := some (.ref a1)) (fun h => by rw [Bd.returns] at h; cases h)
  refine ⟨_, _, ?_, hrun, hended, _, _, rfl, ?_, ⟨_, rfl⟩, hW, hsame.mono (by decide) (by decide)⟩
  · exact retOut X0 hx Bd.returns rfl (Or.inr (Or.inr (Or.inr (Or.inr ⟨rfl, rfl, rfl⟩)))) (hb hby d17_14) hr
  · show Q_rmRnn Z a1 a2 h0 n0 _ s₁.heap _
    rw [e0]
    exact ⟨rfl, N0, rfl⟩
theorem pn_com_example_guarded_once_guardedonce_guard_MessageKey : plainName "com/example/guarded_once/guardedonce/guard/MessageKey" = true := by first | (simp [plainName, overriddenIn]; done) | decide +kernel
theorem d33_0 : decode prog_9_method_1_code 0 = .ok (.aload_n 0, 1) := by decide +kernel
theorem d33_1 : decode prog_9_method_1_code 1 = .ok (.invokespecial 1, 3) := by decide +kernel
theorem d33_4 : decode prog_9_method_1_code 4 = .ok (.aload_n 0, 1) := by decide +kernel
theorem d33_5 : decode prog_9_method_1_code 5 = .ok (.aload_n 1, 1) := by decide +kernel
theorem d33_6 : decode prog_9_method_1_code 6 = .ok (.putfield 7, 3) := by decide +kernel
theorem d33_9 : decode prog_9_method_1_code 9 = .ok (.return_, 1) := by decide +kernel
theorem ef_rmIni (m : MethodId) (a1 a2 : Addr) : entryFrame m #[(.ref a1), (.ref a2)] 2 = mkF m 0 #[.val (.ref a1), .val (.ref a2)] [] := by first | (simp [entryFrame, mkF, argsToLocals, Value.category]; done) | rfl
def Q_rmIni (Z : State) (a1 a2 : Addr) (h0 : Heap) (n0 : Nat) (v : Option Value) (h : Heap) (L : List Loc) : Prop := v = none ∧ Fr n0 L ∧ Keep h0 h [a1] ∧ Exa Z h a1 "com/example/guarded_once/guardedonce/guard/MessageKey" ∧ Fld Z h a1 "com/example/guarded_once/guardedonce/guard/MessageKey" "value" "Ljava/lang/String;" (.ref a2)
theorem rmIni (l : Launch) (Z : State) (a0 : Array Value) (hw : ∀ d ∈ tables_1, d.before a0 Z = true) (ws : List Jvm.Cond) (a1 a2 : Addr) (h0 : Heap) (n0 : Nat) (Z0 : n0 ≤ h0.size) (P0 : Exa Z h0 a1 "com/example/guarded_once/guardedonce/guard/MessageKey") (P1 : Fld Z h0 a1 "com/example/guarded_once/guardedonce/guard/MessageKey" "value" "Ljava/lang/String;" .null) (g_a1 : n0 ≤ a1) :
    MetFree l yq73 (head1 (Jvm.Cond.code yq73 prog_9_method_1_code 2 none :: ws) rq49) (fun a U => a = #[(.ref a1), (.ref a2)] ∧ Z.Warmed39 U.vm ∧ U.heap = h0) (fun _ _ _ _ _ => True) (fun _ U o U' => ∃ v L, o = .returned v ∧ Q_rmIni Z a1 a2 h0 n0 v U'.heap L ∧ FrameEnd U o U' L rq49.cells rq49.slots) := by
  refine MetFree.of_bodySF (plainFor_of_name pn_com_example_guarded_once_guardedonce_guard_MessageKey) hisR ?_
  intro p e s m args below meth c s₁ Bd hml0 hP hK
  obtain ⟨rfl, hZ, hh⟩ := hP
  have hx := Bd.exec
  have hby := Bd.bytes
  have hml : c.maxLocals = 2 := hml0
  have hown : s.vm.findClass "com/example/guarded_once/guardedonce/guard/MessageKey" = some m.cls := findClass_of_methodNamed Bd.named
  have hnm := (name_of_methodNamed Bd.named Bd.method).1
  have X0 : Stand p l e rq49 s m #[(.ref a1), (.ref a2)] below meth c s₁ [] 0 0 := Stand.of_body Bd
  have e0 : s₁.heap = h0 := by rw [← hh, Bd.state]; rfl
  have N0 := Fr.nil n0
  refine own_fw (A' := (s₁.setTop (mkF m 1 #[rv a1, rv a2] [.ref a1]))) (fun t k => castTop (ef_rmIni m a1 a2) (XS.aloadN X0.here hx rfl (hb hby d33_0) rfl rfl k)) ?_
  obtain ⟨T1, X1, e1, st1⟩ := initO X0 hx hZ hown (own_w hw 145 rfl) (own_w hw 30 rfl) (own_w hw 31 rfl) e0 (g := (mkF m 1 #[rv a1, rv a2] [.ref a1])) rfl (by rw [hml]; rfl) rfl (hb hby d33_1) (by decide) (W := 0) (by show 2 * 0 + _ ≤ _; exact Nat.le_of_eq rfl) (by decide)
  refine own_fw (A' := (T1.setTop (mkF m 6 #[rv a1, rv a2] [.ref a2, .ref a1]))) (fun t k => st1 _ (XS.aloadN X1.here hx rfl (hb hby d33_4) rfl rfl (XS.aloadN X1.here hx rfl (hb hby d33_5) rfl rfl k))) ?_
  obtain ⟨T2, h2, X2, e2, W2, st2⟩ := putF X1 hx hZ hown (host := "") (Or.inl (own_w hw 146 rfl)) Via.refl e1 P1 P0 (Or.inr ⟨(own_w hw 147 rfl), rfl, hnm⟩) (own_w hw 141 rfl) (ty := (.object "java/lang/String")) (by decide) rfl rfl (g := (mkF m 6 #[rv a1, rv a2] [.ref a2, .ref a1])) rfl rfl (hb hby d33_6)
  have Fw2 : Fld Z h2 a1 "com/example/guarded_once/guardedonce/guard/MessageKey" "value" "Ljava/lang/String;" (.ref a2) := P1.same W2
  have Nf2 := Fr.snoc X2 N0 g_a1
  have K2 : Keep h0 h2 [a1] := (Keep.refl h0 [a1]).wr W2 (Or.inl (List.mem_of_getElem? (i := 0) rfl))
  have Z2 : n0 ≤ h2.size := Nat.le_trans Z0 (Keep.of_wr W2).1
  refine own_fw (A' := (T2.setTop (mkF m 9 #[rv a1, rv a2] []))) (fun t k => st2 _ k) ?_
  obtain ⟨fs, hr, hrun, hended, hW, hsame⟩ := X2.leave (v := none) (fun _ => rfl)
  refine ⟨_, _, ?_, hrun, hended, _, _, rfl, ?_, ⟨_, rfl⟩, hW, hsame.mono (by decide) (by decide)⟩
  · exact X2.returnOut hx Bd.returns (hb hby d33_9) hr
  · show Q_rmIni Z a1 a2 h0 n0 _ T2.heap _
    rw [e2]
    exact ⟨rfl, Nf2, K2, (P0.wr W2), Fw2⟩
theorem d34_0 : decode prog_9_method_3_code 0 = .ok (.aload_n 0, 1) := by decide +kernel
theorem d34_1 : decode prog_9_method_3_code 1 = .ok (.getfield 7, 3) := by decide +kernel
theorem d34_4 : decode prog_9_method_3_code 4 = .ok (.areturn, 1) := by decide +kernel
theorem ef_rmVal (m : MethodId) (a1 : Addr) : entryFrame m #[(.ref a1)] 1 = mkF m 0 #[.val (.ref a1)] [] := by first | (simp [entryFrame, mkF, argsToLocals, Value.category]; done) | rfl
def Q_rmVal (Z : State) (a1 a2 : Addr) (h0 : Heap) (n0 : Nat) (v : Option Value) (h : Heap) (L : List Loc) : Prop := v = some (.ref a2) ∧ Fr n0 L ∧ h = h0
theorem rmVal (l : Launch) (Z : State) (a0 : Array Value) (hw : ∀ d ∈ tables_1, d.before a0 Z = true) (ws : List Jvm.Cond) (a1 a2 : Addr) (h0 : Heap) (n0 : Nat) (Z0 : n0 ≤ h0.size) (P0 : Fld Z h0 a1 "com/example/guarded_once/guardedonce/guard/MessageKey" "value" "Ljava/lang/String;" (.ref a2)) :
    MetFree l yq74 (head1 (Jvm.Cond.code yq74 prog_9_method_3_code 1 (some (.object "java/lang/String")) :: ws) rq0) (fun a U => a = #[(.ref a1)] ∧ Z.Warmed39 U.vm ∧ U.heap = h0) (fun _ _ _ _ _ => True) (fun _ U o U' => ∃ v L, o = .returned v ∧ Q_rmVal Z a1 a2 h0 n0 v U'.heap L ∧ FrameEnd U o U' L rq0.cells rq0.slots) := by
  refine MetFree.of_bodySF (plainFor_of_name pn_com_example_guarded_once_guardedonce_guard_MessageKey) hisR ?_
  intro p e s m args below meth c s₁ Bd hml0 hP hK
  obtain ⟨rfl, hZ, hh⟩ := hP
  have hx := Bd.exec
  have hby := Bd.bytes
  have hml : c.maxLocals = 1 := hml0
  have hown : s.vm.findClass "com/example/guarded_once/guardedonce/guard/MessageKey" = some m.cls := findClass_of_methodNamed Bd.named
  have hnm := (name_of_methodNamed Bd.named Bd.method).1
  have X0 : Stand p l e rq0 s m #[(.ref a1)] below meth c s₁ [] 0 0 := Stand.of_body Bd
  have e0 : s₁.heap = h0 := by rw [← hh, Bd.state]; rfl
  have N0 := Fr.nil n0
  refine own_fw (A' := (s₁.setTop (mkF m 1 #[rv a1] [.ref a1]))) (fun t k => castTop (ef_rmVal m a1) (XS.aloadN X0.here hx rfl (hb hby d34_0) rfl rfl k)) ?_
  obtain ⟨T1, X1, e1, st1⟩ := getF X0 hx hZ hown (host := "") (Or.inl (own_w hw 146 rfl)) Via.refl e0 P0 (g := (mkF m 1 #[rv a1] [.ref a1])) rfl rfl (hb hby d34_1)
  refine own_fw (A' := (T1.setTop (mkF m 4 #[rv a1] [.ref a2]))) (fun t k => st1 _ k) ?_
  obtain ⟨fs, hr, hrun, hended, hW, hsame⟩ := X1.leave (v := some (.ref a2)) (fun h => by rw [Bd.returns] at h; cases h)
  refine ⟨_, _, ?_, hrun, hended, _, _, rfl, ?_, ⟨_, rfl⟩, hW, hsame.mono (by decide) (by decide)⟩
  · exact retOut X1 hx Bd.returns rfl (Or.inr (Or.inr (Or.inr (Or.inr ⟨rfl, rfl, rfl⟩)))) (hb hby d34_4) hr
  · show Q_rmVal Z a1 a2 h0 n0 _ T1.heap _
    rw [e1]
    exact ⟨rfl, N0, rfl⟩
theorem d35_0 : decode jdk_42_method_66_code 0 = .ok (.aload_n 0, 1) := by decide +kernel
theorem d35_1 : decode jdk_42_method_66_code 1 = .ok (.aload_n 1, 1) := by decide +kernel
theorem d35_2 : decode jdk_42_method_66_code 2 = .ok (.if_acmp .ne 5, 3) := by decide +kernel
theorem d35_5 : decode jdk_42_method_66_code 5 = .ok (.iconst 1, 1) := by decide +kernel
theorem d35_6 : decode jdk_42_method_66_code 6 = .ok (.ireturn, 1) := by decide +kernel
theorem ef_rmEq (m : MethodId) (a1 : Addr) : entryFrame m #[(.ref a1), (.ref a1)] 3 = mkF m 0 #[.val (.ref a1), .val (.ref a1), .unset] [] := by first | (simp [entryFrame, mkF, argsToLocals, Value.category]; done) | rfl
def Q_rmEq (Z : State) (a1 : Addr) (h0 : Heap) (n0 : Nat) (v : Option Value) (h : Heap) (L : List Loc) : Prop := v = some (.int 1) ∧ Fr n0 L ∧ h = h0
theorem rmEq (l : Launch) (Z : State) (a0 : Array Value) (hw : ∀ d ∈ tables_1, d.before a0 Z = true) (ws : List Jvm.Cond) (a1 : Addr) (h0 : Heap) (n0 : Nat) (Z0 : n0 ≤ h0.size)  :
    MetFree l yq75 (head1 (Jvm.Cond.code yq75 jdk_42_method_66_code 3 (some .boolean) :: ws) rq0) (fun a U => a = #[(.ref a1), (.ref a1)] ∧ Z.Warmed39 U.vm ∧ U.heap = h0) (fun _ _ _ _ _ => True) (fun _ U o U' => ∃ v L, o = .returned v ∧ Q_rmEq Z a1 h0 n0 v U'.heap L ∧ FrameEnd U o U' L rq0.cells rq0.slots) := by
  refine MetFree.of_bodySF (plainFor_of_name pn_java_lang_String) hisR ?_
  intro p e s m args below meth c s₁ Bd hml0 hP hK
  obtain ⟨rfl, hZ, hh⟩ := hP
  have hx := Bd.exec
  have hby := Bd.bytes
  have hml : c.maxLocals = 3 := hml0
  have hown : s.vm.findClass "java/lang/String" = some m.cls := findClass_of_methodNamed Bd.named
  have hnm := (name_of_methodNamed Bd.named Bd.method).1
  have X0 : Stand p l e rq0 s m #[(.ref a1), (.ref a1)] below meth c s₁ [] 0 0 := Stand.of_body Bd
  have e0 : s₁.heap = h0 := by rw [← hh, Bd.state]; rfl
  have N0 := Fr.nil n0
  refine own_fw (A' := (s₁.setTop (mkF m 6 #[rv a1, rv a1, .unset] [.int 1]))) (fun t k => castTop (ef_rmEq m a1) (XS.aloadN X0.here hx rfl (hb hby d35_0) rfl rfl (XS.aloadN X0.here hx rfl (hb hby d35_1) rfl rfl (Jvm.RoadKit.acmp (g := (mkF m 2 #[rv a1, rv a1, .unset] [.ref a1, .ref a1])) X0 hx rfl rfl rfl (pc0 := 2) (pc' := 5) (same := true) rfl (hb hby d35_2) rfl (decide_eq_true rfl) (by decide) (by decide) (XS.iconst X0.here hx rfl (hb hby d35_5) k))))) ?_
  obtain ⟨fs, hr, hrun, hended, hW, hsame⟩ := X0.leave (v := some (.int 1)) (fun h => by rw [Bd.returns] at h; cases h)
  refine ⟨_, _, ?_, hrun, hended, _, _, rfl, ?_, ⟨_, rfl⟩, hW, hsame.mono (by decide) (by decide)⟩
  · exact retOut X0 hx Bd.returns rfl (Or.inl ⟨rfl, by simp, _, rfl⟩) (hb hby d35_6) hr
  · show Q_rmEq Z a1 h0 n0 _ s₁.heap _
    rw [e0]
    exact ⟨rfl, N0, rfl⟩
theorem d16_0 : decode prog_9_method_2_code 0 = .ok (.aload_n 0, 1) := by decide +kernel
theorem d16_1 : decode prog_9_method_2_code 1 = .ok (.ldc 13, 2) := by decide +kernel
theorem d16_3 : decode prog_9_method_2_code 3 = .ok (.invokestatic 14, 3) := by decide +kernel
theorem pd__Ljava_lang_Object_Ljava_lang_String__Ljava_lang_Object_ : parseMethodDescriptor "(Ljava/lang/Object;Ljava/lang/String;)Ljava/lang/Object;" = some ⟨[(.object "java/lang/Object"), (.object "java/lang/String")], some (.object "java/lang/Object")⟩ := by decide +kernel
theorem d16_6 : decode prog_9_method_2_code 6 = .ok (.pop, 1) := by decide +kernel
theorem d16_7 : decode prog_9_method_2_code 7 = .ok (.aload_n 0, 1) := by decide +kernel
theorem d16_8 : decode prog_9_method_2_code 8 = .ok (.iconst 0, 1) := by decide +kernel
theorem d16_9 : decode prog_9_method_2_code 9 = .ok (.aload_n 0, 1) := by decide +kernel
theorem d16_10 : decode prog_9_method_2_code 10 = .ok (.invokevirtual 20, 3) := by decide +kernel
theorem d16_13 : decode prog_9_method_2_code 13 = .ok (.invokevirtual 26, 3) := by decide +kernel
theorem pd__II_I : parseMethodDescriptor "(II)I" = some ⟨[.int, .int], some .int⟩ := by decide +kernel
theorem d16_16 : decode prog_9_method_2_code 16 = .ok (.istore_n 1, 1) := by decide +kernel
theorem d16_17 : decode prog_9_method_2_code 17 = .ok (.iload_n 1, 1) := by decide +kernel
theorem d16_18 : decode prog_9_method_2_code 18 = .ok (.ifCond .eq 9, 3) := by decide +kernel
theorem d16_21 : decode prog_9_method_2_code 21 = .ok (.iload_n 1, 1) := by decide +kernel
theorem d16_22 : decode prog_9_method_2_code 22 = .ok (.bipush 100, 2) := by decide +kernel
theorem d16_24 : decode prog_9_method_2_code 24 = .ok (.if_icmp .le 35, 3) := by decide +kernel
theorem d16_59 : decode prog_9_method_2_code 59 = .ok (.iconst 0, 1) := by decide +kernel
theorem d16_60 : decode prog_9_method_2_code 60 = .ok (.istore_n 2, 1) := by decide +kernel
theorem d16_61 : decode prog_9_method_2_code 61 = .ok (.iload_n 2, 1) := by decide +kernel
theorem d16_62 : decode prog_9_method_2_code 62 = .ok (.aload_n 0, 1) := by decide +kernel
theorem d16_63 : decode prog_9_method_2_code 63 = .ok (.invokevirtual 20, 3) := by decide +kernel
theorem d16_66 : decode prog_9_method_2_code 66 = .ok (.if_icmp .ge 83, 3) := by decide +kernel
theorem d16_149 : decode prog_9_method_2_code 149 = .ok (.new 8, 3) := by decide +kernel
theorem d16_152 : decode prog_9_method_2_code 152 = .ok (.dup, 1) := by decide +kernel
theorem d16_153 : decode prog_9_method_2_code 153 = .ok (.aload_n 0, 1) := by decide +kernel
theorem d16_154 : decode prog_9_method_2_code 154 = .ok (.invokespecial 62, 3) := by decide +kernel
theorem pd__Ljava_lang_String__V : parseMethodDescriptor "(Ljava/lang/String;)V" = some ⟨[(.object "java/lang/String")], none⟩ := by decide +kernel
theorem d16_157 : decode prog_9_method_2_code 157 = .ok (.areturn, 1) := by decide +kernel
theorem d16_69 : decode prog_9_method_2_code 69 = .ok (.aload_n 0, 1) := by decide +kernel
theorem d16_70 : decode prog_9_method_2_code 70 = .ok (.iload_n 2, 1) := by decide +kernel
theorem d16_71 : decode prog_9_method_2_code 71 = .ok (.invokevirtual 47, 3) := by decide +kernel
theorem d16_74 : decode prog_9_method_2_code 74 = .ok (.istore_n 3, 1) := by decide +kernel
theorem d16_75 : decode prog_9_method_2_code 75 = .ok (.iload_n 3, 1) := by decide +kernel
theorem d16_76 : decode prog_9_method_2_code 76 = .ok (.ldc 53, 2) := by decide +kernel
theorem d16_78 : decode prog_9_method_2_code 78 = .ok (.if_icmp .lt 33, 3) := by decide +kernel
theorem d16_111 : decode prog_9_method_2_code 111 = .ok (.iload_n 3, 1) := by decide +kernel
theorem d16_112 : decode prog_9_method_2_code 112 = .ok (.ifCond .ne 27, 3) := by decide +kernel
theorem d16_139 : decode prog_9_method_2_code 139 = .ok (.iload_n 2, 1) := by decide +kernel
theorem d16_140 : decode prog_9_method_2_code 140 = .ok (.iload_n 3, 1) := by decide +kernel
theorem d16_141 : decode prog_9_method_2_code 141 = .ok (.invokestatic 59, 3) := by decide +kernel
theorem d16_144 : decode prog_9_method_2_code 144 = .ok (.iadd, 1) := by decide +kernel
theorem d16_145 : decode prog_9_method_2_code 145 = .ok (.istore_n 2, 1) := by decide +kernel
theorem d16_146 : decode prog_9_method_2_code 146 = .ok (.goto (-85), 3) := by decide +kernel
theorem ef_rmOfL (m : MethodId) (a1 : Addr) : entryFrame m #[(.ref a1)] 4 = mkF m 0 #[.val (.ref a1), .unset, .unset, .unset] [] := by first | (simp [entryFrame, mkF, argsToLocals, Value.category]; done) | rfl
def Q_rmOfL (Z : State) (a1 b1 : Addr) (kb : ClassId) (cs : Int32) (ds : List Int32) (sv : Value) (h0 : Heap) (n0 : Nat) (v : Option Value) (h : Heap) (L : List Loc) : Prop := ∃ b : Addr, v = some (.ref b) ∧ Fr n0 L ∧ Keep h0 h [] ∧ Exa Z h b "com/example/guarded_once/guardedonce/guard/MessageKey" ∧ Fld Z h b "com/example/guarded_once/guardedonce/guard/MessageKey" "value" "Ljava/lang/String;" (.ref a1) ∧ Exa Z h a1 "java/lang/String" ∧ (h0.size ≤ b)
theorem rmOfL (l : Launch) (Z : State) (a0 : Array Value) (hw : ∀ d ∈ tables_1, d.before a0 Z = true) (ws : List Jvm.Cond) (a1 b1 : Addr) (kb : ClassId) (cs : Int32) (ds : List Int32) (sv : Value) (h0 : Heap) (n0 : Nat) (Z0 : n0 ≤ h0.size) (P0 : Exa Z h0 a1 "java/lang/String") (P1 : Fld Z h0 a1 "java/lang/String" "coder" "B" (.int 0)) (P2 : Fld Z h0 a1 "java/lang/String" "value" "[B" (.ref b1)) (P3 : Arv Z h0 b1 kb .byte (own_n ds) (own_ly ds) (.int 0)) (P4 : Sta Z h0 "java/lang/String" "COMPACT_STRINGS" "Z" (.int cs)) (hcs : ¬ (cs = (0 : Int32))) (P6 : Sta Z h0 "jdk/internal/util/Preconditions" "SIOOBE_FORMATTER" "Ljava/util/function/BiFunction;" sv) (hsv : sv.isRef = true) (hf : own_fine ds) (hwl : own_lt ds) :
    MetFree l yq77 (head1 (Jvm.Cond.code yq77 prog_9_method_2_code 4 (some (.object "com/example/guarded_once/guardedonce/guard/MessageKey")) :: ws) rq76) (fun a U => a = #[(.ref a1)] ∧ Z.Warmed39 U.vm ∧ U.heap = h0) (fun _ _ _ _ _ => True) (fun _ U o U' => ∃ v L, o = .returned v ∧ Q_rmOfL Z a1 b1 kb cs ds sv h0 n0 v U'.heap L ∧ ReturnedEndW U o U' L rq76.cells rq76.slots) := by
  refine MetFree.of_bodySF (plainFor_of_name pn_com_example_guarded_once_guardedonce_guard_MessageKey) hisR ?_
  intro p e s m args below meth c s₁ Bd hml0 hP hK
  obtain ⟨rfl, hZ, hh⟩ := hP
  have hx := Bd.exec
  have hby := Bd.bytes
  have hml : c.maxLocals = 4 := hml0
  have hown : s.vm.findClass "com/example/guarded_once/guardedonce/guard/MessageKey" = some m.cls := findClass_of_methodNamed Bd.named
  have hnm := (name_of_methodNamed Bd.named Bd.method).1
  have X0 : Stand p l e rq76 (s.setVm s.vm) m #[(.ref a1)] below meth c s₁ [] 0 0 := Stand.of_body Bd
  have e0 : s₁.heap = h0 := by rw [← hh, Bd.state]; rfl
  have N0 := Fr.nil n0
  refine own_fw (A' := (s₁.setTop (mkF m 0 #[.val (.ref a1), .unset, .unset, .unset] []))) (fun t k => castTop (ef_rmOfL m a1) k) ?_
  have hS : s.Since s.vm h0.size := (State.WarmedH.refl s).since _
  have hk : h0.size ≤ h0.size := Nat.le_refl _
  refine own_fw (A' := (s₁.setTop (mkF m 1 #[rv a1, .unset, .unset, .unset] [.ref a1]))) (fun t k => XS.aloadN X0.here hx rfl (hb hby d16_0) rfl rfl k) ?_
  obtain ⟨sa1, T1, h1, k1, X1, e1, E1, hS, hk, hZ, hown, st1⟩ := ldcS X0 hx hZ hown (own_w hw 71 rfl) (own_wS hw) e0 hS hk (g := (mkF m 1 #[rv a1, .unset, .unset, .unset] [.ref a1])) rfl (hb hby d16_1) (n := 20) (by decide) (by decide) (by decide) (by decide)
  have K1 : Keep h0 h1 [] := (Keep.refl h0 []).ext E1
  have Z1 : n0 ≤ h1.size := Nat.le_trans Z0 E1.1
  refine own_fw (A' := (T1.setTop (mkF m 3 #[rv a1, .unset, .unset, .unset] [.ref sa1, .ref a1]))) (fun t k => st1 _ k) ?_
  obtain ⟨_, _, ⟨T2, L2, k2, n2⟩, -, X2, ⟨Lc2, hQ2, l2, y2, z2⟩, st2⟩ := Jvm.LawKit.callS X1 hx (y := yq72) hown (mvT hZ (own_w hw 74 rfl)) (mvT hZ (own_w hw 75 rfl)) (mvT hZ (own_w hw 76 rfl)) (mvT hZ (own_w hw 77 rfl)) (by decide) (backOf (W := 0) (rmRnn l Z a0 hw [] a1 sa1 h1 n0 Z1 ) hZ (own_w hw 77 rfl) (own_w hw 76 rfl) (by decide) (by decide)) (g := (mkF m 3 #[rv a1, .unset, .unset, .unset] [.ref sa1, .ref a1])) rfl (by rw [hml]; rfl) (argsL := [(.ref a1), (.ref sa1)]) (rest := []) (lenOf pd__Ljava_lang_Object_Ljava_lang_String__Ljava_lang_Object_ rfl) rfl (by show 2 * 0 + _ ≤ _; exact Nat.le_of_eq rfl) (hb hby d16_3) (fun _ _ => ⟨rfl, e1, (by decide : 2 + 0 ≤ _), (by decide : 24 + 0 ≤ _)⟩)
  dsimp only [Pt.U, Pt.locs, Pt.cells, Pt.slots] at X2 l2 y2 z2 st2 hQ2
  subst l2 y2 z2
  obtain ⟨rfl, Nq2, e2⟩ := hQ2
  have Nf2 := Fr.app N0 Nq2
  refine own_fw (A' := (T2.setTop (mkF m 10 #[rv a1, .unset, .unset, .unset] [.ref a1, .int 0, .ref a1]))) (fun t k => st2 _ (XS.pop X2.here hx rfl (hb hby d16_6) rfl rfl (XS.aloadN X2.here hx rfl (hb hby d16_7) rfl rfl (XS.iconst X2.here hx rfl (hb hby d16_8) (XS.aloadN X2.here hx rfl (hb hby d16_9) rfl rfl k))))) ?_
  obtain ⟨cq3, kq3, qa3, qb3, qc3⟩ := isOf hZ e2 (P0.ext E1)
  obtain ⟨_, _, ⟨T3, L3, k3, n3⟩, -, X3, ⟨Lc3, hQ3, l3, y3, z3⟩, st3⟩ := X2.virtualBack hx (y := yq58) (z := yq58) hown (mvT hZ (own_w hw 78 rfl)) (mvT hZ (own_w hw 79 rfl)) (notFace_of_selects (args := #[]) (mvT hZ (own_w hw 81 rfl))) (mvT hZ (own_w hw 81 rfl)) (mvT hZ (own_w hw 80 rfl)) (by decide) (backOf (W := 2) (rmLenL l Z a0 hw [] a1 b1 kb cs ds h1 n0 Z1 (P0.ext E1) (P1.ext E1) (P2.ext E1) (P3.ext E1) (P4.ext E1) hcs hf) hZ (own_w hw 82 rfl) (own_w hw 21 rfl) (by decide) (by decide)) qa3 qc3 (g := (mkF m 10 #[rv a1, .unset, .unset, .unset] [.ref a1, .int 0, .ref a1])) rfl (by rw [hml]; rfl) (Steps.refl _) (argsL := []) (rest := [(.int 0), (.ref a1)]) (lenOf pd___I rfl) rfl (by show 2 * 0 + _ ≤ _; exact Nat.le_of_eq rfl) (hb hby d16_10) (fun _ _ => ⟨rfl, e2, (by decide : 2 + 0 ≤ _), (by decide : 24 + 0 ≤ _)⟩)
  dsimp only [Pt.U, Pt.locs, Pt.cells, Pt.slots] at X3 l3 y3 z3 st3 hQ3
  subst l3 y3 z3
  obtain ⟨rfl, Nq3, e3⟩ := hQ3
  have Nf3 := Fr.app Nf2 Nq3
  refine own_fw (A' := (T3.setTop (mkF m 13 #[rv a1, .unset, .unset, .unset] [.int (own_n ds), .int 0, .ref a1]))) (fun t k => st3.trans k) ?_
  obtain ⟨cq4, kq4, qa4, qb4, qc4⟩ := isOf hZ e3 (P0.ext E1)
  obtain ⟨_, _, ⟨T4, L4, k4, n4⟩, -, X4, ⟨Lc4, hQ4, l4, y4, z4⟩, st4⟩ := X3.virtualBack hx (y := yq66) (z := yq66) hown (mvT hZ (own_w hw 88 rfl)) (mvT hZ (own_w hw 89 rfl)) (notFace_of_selects (args := #[]) (mvT hZ (own_w hw 91 rfl))) (mvT hZ (own_w hw 91 rfl)) (mvT hZ (own_w hw 90 rfl)) (by decide) (backOf (W := 0) (rmCouL l Z a0 hw [] a1 b1 kb cs ds h1 n0 Z1 (P0.ext E1) (P1.ext E1) (P2.ext E1) (P3.ext E1) (P4.ext E1) hcs hf) hZ (own_w hw 92 rfl) (own_w hw 21 rfl) (by decide) (by decide)) qa4 qc4 (g := (mkF m 13 #[rv a1, .unset, .unset, .unset] [.int (own_n ds), .int 0, .ref a1])) rfl (by rw [hml]; rfl) (Steps.refl _) (argsL := [(.int 0), (.int (own_n ds))]) (rest := []) (lenOf pd__II_I rfl) rfl (by show 2 * 0 + _ ≤ _; exact Nat.le_of_eq rfl) (hb hby d16_13) (fun _ _ => ⟨rfl, e3, (by decide : 2 + 0 ≤ _), (by decide : 24 + 0 ≤ _)⟩)
  dsimp only [Pt.U, Pt.locs, Pt.cells, Pt.slots] at X4 l4 y4 z4 st4 hQ4
  subst l4 y4 z4
  obtain ⟨r_4, rfl, Nq4, e4, hr0_4, hr1_4⟩ := hQ4
  have Nf4 := Fr.app Nf3 Nq4
  refine own_fw (A' := (T4.setTop (mkF m 61 #[rv a1, iv r_4, iv 0, .unset] []))) (fun t k => st4.trans (XS.istoreN X4.here hx rfl (hb hby d16_16) rfl (l' := #[rv a1, iv r_4, .unset, .unset]) rfl (XS.iloadN X4.here hx rfl (hb hby d16_17) rfl (XS.ifNo X4.here hx rfl (hb hby d16_18) rfl (XT.i0_eq_f hr0_4) (XS.iloadN X4.here hx rfl (hb hby d16_21) rfl (XS.bipush X4.here hx rfl (hb hby d16_22) (XS.icmpYes X4.here hx rfl (pc0 := 24) (pc' := 59) rfl (hb hby d16_24) rfl (XT.ii_le_t hr1_4) (by decide) (by decide) (XS.iconst X4.here hx rfl (hb hby d16_59) (XS.istoreN X4.here hx rfl (hb hby d16_60) rfl (l' := #[rv a1, iv r_4, iv 0, .unset]) rfl k))))))))) ?_
  have HL : ∀ (n : Nat) (i : Int32) (TL : State) (LL : List Loc) (sl : Slot) (hsl : sl = .unset ∨ ∃ w : Int32, sl = .val (.int w)) (_ : Stand p l e rq76 (s.setVm T1.vm) m #[(.ref a1)] below meth c TL LL 2 24) (_ : TL.heap = h1) (_ : Fr n0 LL) (_ : own_il ds n i), ∃ U o, Steps p.tables e below (TL.setTop (mkF m 61 #[rv a1, iv r_4, iv i, sl] [])) U ∧ U.status = .running ∧ Ended U below o ∧ ∃ v L, o = .returned v ∧ Q_rmOfL Z a1 b1 kb cs ds sv h0 n0 v U.heap L ∧ ReturnedEndW s o U L rq76.cells rq76.slots := by
    intro n
    induction n with
    | zero =>
      intro i TL LL sl hsl XL eL NL hinv
      refine own_fw (A' := (TL.setTop (mkF m 63 #[rv a1, iv r_4, iv i, sl] [.ref a1, .int i]))) (fun t k => XS.iloadN XL.here hx rfl (hb hby d16_61) rfl (XS.aloadN XL.here hx rfl (hb hby d16_62) rfl rfl k)) ?_
      obtain ⟨cq5, kq5, qa5, qb5, qc5⟩ := isOf hZ eL (P0.ext E1)
      obtain ⟨_, _, ⟨T5, L5, k5, n5⟩, -, X5, ⟨Lc5, hQ5, l5, y5, z5⟩, st5⟩ := XL.virtualBack hx (y := yq58) (z := yq58) hown (mvT hZ (own_w hw 78 rfl)) (mvT hZ (own_w hw 79 rfl)) (notFace_of_selects (args := #[]) (mvT hZ (own_w hw 81 rfl))) (mvT hZ (own_w hw 81 rfl)) (mvT hZ (own_w hw 80 rfl)) (by decide) (backOf (W := 1) (rmLenL l Z a0 hw [] a1 b1 kb cs ds h1 n0 Z1 (P0.ext E1) (P1.ext E1) (P2.ext E1) (P3.ext E1) (P4.ext E1) hcs hf) hZ (own_w hw 82 rfl) (own_w hw 21 rfl) (by decide) (by decide)) qa5 qc5 (g := (mkF m 63 #[rv a1, iv r_4, iv i, sl] [.ref a1, .int i])) rfl (by rw [hml]; rfl) (Steps.refl _) (argsL := []) (rest := [(.int i)]) (lenOf pd___I rfl) rfl (by show 2 * 0 + _ ≤ _; exact Nat.le_of_eq rfl) (hb hby d16_63) (fun _ _ => ⟨rfl, eL, (by decide : 2 + 0 ≤ _), (by decide : 24 + 0 ≤ _)⟩)
      dsimp only [Pt.U, Pt.locs, Pt.cells, Pt.slots] at X5 l5 y5 z5 st5 hQ5
      subst l5 y5 z5
      obtain ⟨rfl, Nq5, e5⟩ := hQ5
      have Nf5 := Fr.app NL Nq5
      refine own_fw (A' := (T5.setTop (mkF m 149 #[rv a1, iv r_4, iv i, sl] []))) (fun t k => st5.trans (XS.icmpYes X5.here hx rfl (pc0 := 66) (pc' := 149) rfl (hb hby d16_66) rfl (XT.ii_ge_t (own_ilz hf hinv)) (by decide) (by decide) k)) ?_
      obtain ⟨T6, h6, X6, e6, E6, A6, D6, -, st6⟩ := newO X5 hx hZ hown (own_w hw 140 rfl) (own_w hw 141 rfl) (own_w hw 69 rfl) e5 (g := (mkF m 149 #[rv a1, iv r_4, iv i, sl] [])) rfl (hb hby d16_149) (by decide) (by decide)
      obtain ⟨b6, gb6⟩ : ∃ z, z = h1.size := ⟨_, rfl⟩
      have g_b6 : n0 ≤ b6 := Nat.le_trans Z1 (Nat.le_of_eq gb6.symm)
      have sz_b6 : h0.size ≤ b6 := Nat.le_trans K1.1 (Nat.le_of_eq gb6.symm)
      have ne_a1_b6 : a1 ≠ b6 := Nat.ne_of_lt (Nat.lt_of_lt_of_le (P0.ext E1).lt (Nat.le_of_eq gb6.symm))
      have ne_b1_b6 : b1 ≠ b6 := Nat.ne_of_lt (Nat.lt_of_lt_of_le (P3.ext E1).lt (Nat.le_of_eq gb6.symm))
      rw [← gb6] at A6 D6 st6
      have F_value_b6 : Fld Z h6 b6 "com/example/guarded_once/guardedonce/guard/MessageKey" "value" "Ljava/lang/String;" .null := D6 (Or.inr (own_w hw 147 rfl)) (ty := (.object "java/lang/String")) (by decide)
      have K6 : Keep h0 h6 [] := K1.ext E6
      have Z6 : n0 ≤ h6.size := Nat.le_trans Z1 E6.1
      have hk := Nat.le_trans hk E6.1
      refine own_fw (A' := (T6.setTop (mkF m 154 #[rv a1, iv r_4, iv i, sl] [.ref a1, .ref b6, .ref b6]))) (fun t k => st6 _ (XS.dup X6.here hx rfl (hb hby d16_152) rfl rfl (XS.aloadN X6.here hx rfl (hb hby d16_153) rfl rfl k))) ?_
      obtain ⟨_, _, ⟨T7, L7, k7, n7⟩, -, X7, ⟨Lc7, hQ7, l7, y7, z7⟩, st7⟩ := X6.specialBack hx (y := yq73) rfl hown (mvT hZ (own_w hw 142 rfl)) (mvT hZ (own_w hw 143 rfl)) (mvT hZ (own_w hw 144 rfl)) (by decide) (backOf (W := 1) (rmIni l Z a0 hw [] b6 a1 h6 n0 Z6 A6 F_value_b6 g_b6) hZ (own_w hw 144 rfl) (own_w hw 69 rfl) (by decide) (by decide)) (g := (mkF m 154 #[rv a1, iv r_4, iv i, sl] [.ref a1, .ref b6, .ref b6])) rfl (by rw [hml]; rfl) (Steps.refl _) (a := b6) (argsL := [(.ref a1)]) (rest := [(.ref b6)]) (lenOf pd__Ljava_lang_String__V rfl) rfl (by show 2 * 0 + _ ≤ _; exact Nat.le_of_eq rfl) (hb hby d16_154) (fun _ _ => ⟨rfl, e6, (by decide : 3 + 0 ≤ _), (by decide : 25 + 0 ≤ _)⟩)
      dsimp only [Pt.U, Pt.locs, Pt.cells, Pt.slots] at X7 l7 y7 z7 st7 hQ7
      subst l7 y7 z7
      obtain ⟨rfl, Nq7, Kq7, Fq7_0, Fq7_1⟩ := hQ7
      have Nf7 := Fr.app Nf5 Nq7
      have hk := Nat.le_trans hk Kq7.1
      have K7 : Keep h0 T7.heap [] := K6.trans Kq7 (allS (Or.inr sz_b6) all0)
      have Z7 : n0 ≤ T7.heap.size := Nat.le_trans Z6 Kq7.1
      refine own_fw (A' := (T7.setTop (mkF m 157 #[rv a1, iv r_4, iv i, sl] [.ref b6]))) (fun t k => st7.trans k) ?_
      obtain ⟨fs, hr, hrun, hended, hWE⟩ := X7.leaveW hS hk (v := some (.ref b6)) (fun h => by rw [Bd.returns] at h; cases h)
      refine ⟨_, _, ?_, hrun, hended, _, _, rfl, ?_, own_widen hWE (by decide) (by decide)⟩
      · exact retOut X7 hx Bd.returns rfl (Or.inr (Or.inr (Or.inr (Or.inr ⟨rfl, rfl, rfl⟩)))) (hb hby d16_157) hr
      · show Q_rmOfL Z a1 b1 kb cs ds sv h0 n0 _ T7.heap _
        exact ⟨b6, rfl, Nf7, K7, Fq7_0, Fq7_1, (((P0.ext E1).ext E6).keep Kq7), sz_b6⟩
    | succ n ih =>
      intro i TL LL sl hsl XL eL NL hinv
      refine own_fw (A' := (TL.setTop (mkF m 63 #[rv a1, iv r_4, iv i, sl] [.ref a1, .int i]))) (fun t k => XS.iloadN XL.here hx rfl (hb hby d16_61) rfl (XS.aloadN XL.here hx rfl (hb hby d16_62) rfl rfl k)) ?_
      obtain ⟨cq8, kq8, qa8, qb8, qc8⟩ := isOf hZ eL (P0.ext E1)
      obtain ⟨_, _, ⟨T8, L8, k8, n8⟩, -, X8, ⟨Lc8, hQ8, l8, y8, z8⟩, st8⟩ := XL.virtualBack hx (y := yq58) (z := yq58) hown (mvT hZ (own_w hw 78 rfl)) (mvT hZ (own_w hw 79 rfl)) (notFace_of_selects (args := #[]) (mvT hZ (own_w hw 81 rfl))) (mvT hZ (own_w hw 81 rfl)) (mvT hZ (own_w hw 80 rfl)) (by decide) (backOf (W := 1) (rmLenL l Z a0 hw [] a1 b1 kb cs ds h1 n0 Z1 (P0.ext E1) (P1.ext E1) (P2.ext E1) (P3.ext E1) (P4.ext E1) hcs hf) hZ (own_w hw 82 rfl) (own_w hw 21 rfl) (by decide) (by decide)) qa8 qc8 (g := (mkF m 63 #[rv a1, iv r_4, iv i, sl] [.ref a1, .int i])) rfl (by rw [hml]; rfl) (Steps.refl _) (argsL := []) (rest := [(.int i)]) (lenOf pd___I rfl) rfl (by show 2 * 0 + _ ≤ _; exact Nat.le_of_eq rfl) (hb hby d16_63) (fun _ _ => ⟨rfl, eL, (by decide : 2 + 0 ≤ _), (by decide : 24 + 0 ≤ _)⟩)
      dsimp only [Pt.U, Pt.locs, Pt.cells, Pt.slots] at X8 l8 y8 z8 st8 hQ8
      subst l8 y8 z8
      obtain ⟨rfl, Nq8, e8⟩ := hQ8
      have Nf8 := Fr.app NL Nq8
      refine own_fw (A' := (T8.setTop (mkF m 66 #[rv a1, iv r_4, iv i, sl] [.int (own_n ds), .int i]))) (fun t k => st8.trans k) ?_
      by_cases hin : i < (own_n ds)
      · have hu := own_ilu hinv
        have hla := own_lb hf hwl hu hin
        refine own_fw (A' := (T8.setTop (mkF m 71 #[rv a1, iv r_4, iv i, sl] [.int i, .ref a1]))) (fun t k => XS.icmpNo X8.here hx rfl (hb hby d16_66) rfl (XT.ii_ge_f hin) (XS.aloadN X8.here hx rfl (hb hby d16_69) rfl rfl (XS.iloadN X8.here hx rfl (hb hby d16_70) rfl k))) ?_
        obtain ⟨cq9, kq9, qa9, qb9, qc9⟩ := isOf hZ e8 (P0.ext E1)
        obtain ⟨_, _, ⟨T9, L9, k9, n9⟩, -, X9, ⟨Lc9, hQ9, l9, y9, z9⟩, st9⟩ := X8.virtualBack hx (y := yq70) (z := yq70) hown (mvT hZ (own_w hw 112 rfl)) (mvT hZ (own_w hw 113 rfl)) (notFace_of_selects (args := #[]) (mvT hZ (own_w hw 115 rfl))) (mvT hZ (own_w hw 115 rfl)) (mvT hZ (own_w hw 114 rfl)) (by decide) (backOf (W := 0) (rmCpaL l Z a0 hw [] a1 b1 kb cs ds sv i h1 n0 Z1 (P0.ext E1) (P1.ext E1) (P2.ext E1) (P3.ext E1) (P4.ext E1) hcs (P6.ext E1) hsv hf hu hin hla) hZ (own_w hw 116 rfl) (own_w hw 21 rfl) (by decide) (by decide)) qa9 qc9 (g := (mkF m 71 #[rv a1, iv r_4, iv i, sl] [.int i, .ref a1])) rfl (by rw [hml]; rfl) (Steps.refl _) (argsL := [(.int i)]) (rest := []) (lenOf pd__I_I rfl) rfl (by show 2 * 0 + _ ≤ _; exact Nat.le_of_eq rfl) (hb hby d16_71) (fun _ _ => ⟨rfl, e8, (by decide : 2 + 0 ≤ _), (by decide : 24 + 0 ≤ _)⟩)
        dsimp only [Pt.U, Pt.locs, Pt.cells, Pt.slots] at X9 l9 y9 z9 st9 hQ9
        subst l9 y9 z9
        obtain ⟨rfl, Nq9, e9⟩ := hQ9
        have Nf9 := Fr.app Nf8 Nq9
        refine own_fw (A' := (T9.setTop (mkF m 141 #[rv a1, iv r_4, iv i, iv (own_at ds i)] [.int (own_at ds i), .int i]))) (fun t k => st9.trans (XS.istoreN X9.here hx rfl (hb hby d16_74) rfl (l' := #[rv a1, iv r_4, iv i, iv (own_at ds i)]) (by rcases hsl with hq | ⟨w, hq⟩ <;> rw [hq] <;> rfl) (XS.iloadN X9.here hx rfl (hb hby d16_75) rfl (X9.ldcInt hx hown (mvT hZ (own_w hw 135 rfl)) (g := (mkF m 76 #[rv a1, iv r_4, iv i, iv (own_at ds i)] [.int (own_at ds i)])) rfl (hb hby d16_76) _ (XS.icmpYes X9.here hx rfl (pc0 := 78) (pc' := 111) rfl (hb hby d16_78) rfl (XT.ii_lt_t (own_lb1 hla)) (by decide) (by decide) (XS.iloadN X9.here hx rfl (hb hby d16_111) rfl (XS.ifYes X9.here hx rfl (pc0 := 112) (pc' := 139) rfl (hb hby d16_112) rfl (XT.i0_ne_t hla.2.2) (by decide) (by decide) (XS.iloadN X9.here hx rfl (hb hby d16_139) rfl (XS.iloadN X9.here hx rfl (hb hby d16_140) rfl k))))))))) ?_
        obtain ⟨_, _, ⟨T10, L10, k10, n10⟩, -, X10, ⟨Lc10, hQ10, l10, y10, z10⟩, st10⟩ := Jvm.LawKit.callS X9 hx (y := yq54) hown (mvT hZ (own_w hw 136 rfl)) (mvT hZ (own_w hw 137 rfl)) (mvT hZ (own_w hw 132 rfl)) (mvT hZ (own_w hw 138 rfl)) (by decide) (backOf (W := 1) (rmCc l Z a0 hw [] (own_at ds i) h1 n0 Z1 ) hZ (own_w hw 138 rfl) (own_w hw 132 rfl) (by decide) (by decide)) (g := (mkF m 141 #[rv a1, iv r_4, iv i, iv (own_at ds i)] [.int (own_at ds i), .int i])) rfl (by rw [hml]; rfl) (argsL := [(.int (own_at ds i))]) (rest := [(.int i)]) (lenOf pd__I_I rfl) rfl (by show 2 * 0 + _ ≤ _; exact Nat.le_of_eq rfl) (hb hby d16_141) (fun _ _ => ⟨rfl, e9, (by decide : 2 + 0 ≤ _), (by decide : 24 + 0 ≤ _)⟩)
        dsimp only [Pt.U, Pt.locs, Pt.cells, Pt.slots] at X10 l10 y10 z10 st10 hQ10
        subst l10 y10 z10
        obtain ⟨rfl, Nq10, e10⟩ := hQ10
        have Nf10 := Fr.app Nf9 Nq10
        refine own_fw (A' := (T10.setTop (mkF m 61 #[rv a1, iv r_4, iv (i + (own_cc (own_at ds i))), iv (own_at ds i)] []))) (fun t k => st10 _ (XS.iadd X10.here hx rfl (hb hby d16_144) rfl (XS.istoreN X10.here hx rfl (hb hby d16_145) rfl (l' := #[rv a1, iv r_4, iv (i + (own_cc (own_at ds i))), iv (own_at ds i)]) rfl (XS.goto X10.here hx rfl (pc0 := 146) (pc' := 61) rfl (hb hby d16_146) (by decide) (by decide) k)))) ?_
        exact ih _ _ _ _ (Or.inr ⟨_, rfl⟩) X10 e10 Nf10 (own_iln hf hwl hinv hin)
      · refine own_fw (A' := (T8.setTop (mkF m 149 #[rv a1, iv r_4, iv i, sl] []))) (fun t k => XS.icmpYes X8.here hx rfl (pc0 := 66) (pc' := 149) rfl (hb hby d16_66) rfl (XT.ii_ge_t hin) (by decide) (by decide) k) ?_
        obtain ⟨T11, h11, X11, e11, E11, A11, D11, -, st11⟩ := newO X8 hx hZ hown (own_w hw 140 rfl) (own_w hw 141 rfl) (own_w hw 69 rfl) e8 (g := (mkF m 149 #[rv a1, iv r_4, iv i, sl] [])) rfl (hb hby d16_149) (by decide) (by decide)
        obtain ⟨b11, gb11⟩ : ∃ z, z = h1.size := ⟨_, rfl⟩
        have g_b11 : n0 ≤ b11 := Nat.le_trans Z1 (Nat.le_of_eq gb11.symm)
        have sz_b11 : h0.size ≤ b11 := Nat.le_trans K1.1 (Nat.le_of_eq gb11.symm)
        have ne_a1_b11 : a1 ≠ b11 := Nat.ne_of_lt (Nat.lt_of_lt_of_le (P0.ext E1).lt (Nat.le_of_eq gb11.symm))
        have ne_b1_b11 : b1 ≠ b11 := Nat.ne_of_lt (Nat.lt_of_lt_of_le (P3.ext E1).lt (Nat.le_of_eq gb11.symm))
        rw [← gb11] at A11 D11 st11
        have F_value_b11 : Fld Z h11 b11 "com/example/guarded_once/guardedonce/guard/MessageKey" "value" "Ljava/lang/String;" .null := D11 (Or.inr (own_w hw 147 rfl)) (ty := (.object "java/lang/String")) (by decide)
        have K11 : Keep h0 h11 [] := K1.ext E11
        have Z11 : n0 ≤ h11.size := Nat.le_trans Z1 E11.1
        have hk := Nat.le_trans hk E11.1
        refine own_fw (A' := (T11.setTop (mkF m 154 #[rv a1, iv r_4, iv i, sl] [.ref a1, .ref b11, .ref b11]))) (fun t k => st11 _ (XS.dup X11.here hx rfl (hb hby d16_152) rfl rfl (XS.aloadN X11.here hx rfl (hb hby d16_153) rfl rfl k))) ?_
        obtain ⟨_, _, ⟨T12, L12, k12, n12⟩, -, X12, ⟨Lc12, hQ12, l12, y12, z12⟩, st12⟩ := X11.specialBack hx (y := yq73) rfl hown (mvT hZ (own_w hw 142 rfl)) (mvT hZ (own_w hw 143 rfl)) (mvT hZ (own_w hw 144 rfl)) (by decide) (backOf (W := 1) (rmIni l Z a0 hw [] b11 a1 h11 n0 Z11 A11 F_value_b11 g_b11) hZ (own_w hw 144 rfl) (own_w hw 69 rfl) (by decide) (by decide)) (g := (mkF m 154 #[rv a1, iv r_4, iv i, sl] [.ref a1, .ref b11, .ref b11])) rfl (by rw [hml]; rfl) (Steps.refl _) (a := b11) (argsL := [(.ref a1)]) (rest := [(.ref b11)]) (lenOf pd__Ljava_lang_String__V rfl) rfl (by show 2 * 0 + _ ≤ _; exact Nat.le_of_eq rfl) (hb hby d16_154) (fun _ _ => ⟨rfl, e11, (by decide : 3 + 0 ≤ _), (by decide : 25 + 0 ≤ _)⟩)
        dsimp only [Pt.U, Pt.locs, Pt.cells, Pt.slots] at X12 l12 y12 z12 st12 hQ12
        subst l12 y12 z12
        obtain ⟨rfl, Nq12, Kq12, Fq12_0, Fq12_1⟩ := hQ12
        have Nf12 := Fr.app Nf8 Nq12
        have hk := Nat.le_trans hk Kq12.1
        have K12 : Keep h0 T12.heap [] := K11.trans Kq12 (allS (Or.inr sz_b11) all0)
        have Z12 : n0 ≤ T12.heap.size := Nat.le_trans Z11 Kq12.1
        refine own_fw (A' := (T12.setTop (mkF m 157 #[rv a1, iv r_4, iv i, sl] [.ref b11]))) (fun t k => st12.trans k) ?_
        obtain ⟨fs, hr, hrun, hended, hWE⟩ := X12.leaveW hS hk (v := some (.ref b11)) (fun h => by rw [Bd.returns] at h; cases h)
        refine ⟨_, _, ?_, hrun, hended, _, _, rfl, ?_, own_widen hWE (by decide) (by decide)⟩
        · exact retOut X12 hx Bd.returns rfl (Or.inr (Or.inr (Or.inr (Or.inr ⟨rfl, rfl, rfl⟩)))) (hb hby d16_157) hr
        · show Q_rmOfL Z a1 b1 kb cs ds sv h0 n0 _ T12.heap _
          exact ⟨b11, rfl, Nf12, K12, Fq12_0, Fq12_1, (((P0.ext E1).ext E11).keep Kq12), sz_b11⟩
  exact HL _ _ _ _ _ (Or.inl rfl) X4 e4 Nf4 (own_il0 hf)
theorem d16_81 : decode prog_9_method_2_code 81 = .ok (.iload_n 3, 1) := by decide +kernel
theorem d16_82 : decode prog_9_method_2_code 82 = .ok (.ldc 54, 2) := by decide +kernel
theorem d16_84 : decode prog_9_method_2_code 84 = .ok (.if_icmp .gt 27, 3) := by decide +kernel
theorem ef_rmOfU (m : MethodId) (a1 : Addr) : entryFrame m #[(.ref a1)] 4 = mkF m 0 #[.val (.ref a1), .unset, .unset, .unset] [] := by first | (simp [entryFrame, mkF, argsToLocals, Value.category]; done) | rfl
def Q_rmOfU (Z : State) (a1 b1 : Addr) (kb : ClassId) (cs : Int32) (ds : List Int32) (sv : Value) (h0 : Heap) (n0 : Nat) (v : Option Value) (h : Heap) (L : List Loc) : Prop := ∃ b : Addr, v = some (.ref b) ∧ Fr n0 L ∧ Keep h0 h [] ∧ Exa Z h b "com/example/guarded_once/guardedonce/guard/MessageKey" ∧ Fld Z h b "com/example/guarded_once/guardedonce/guard/MessageKey" "value" "Ljava/lang/String;" (.ref a1) ∧ Exa Z h a1 "java/lang/String" ∧ (h0.size ≤ b)
theorem rmOfU (l : Launch) (Z : State) (a0 : Array Value) (hw : ∀ d ∈ tables_1, d.before a0 Z = true) (ws : List Jvm.Cond) (a1 b1 : Addr) (kb : ClassId) (cs : Int32) (ds : List Int32) (sv : Value) (h0 : Heap) (n0 : Nat) (Z0 : n0 ≤ h0.size) (P0 : Exa Z h0 a1 "java/lang/String") (P1 : Fld Z h0 a1 "java/lang/String" "coder" "B" (.int 1)) (P2 : Fld Z h0 a1 "java/lang/String" "value" "[B" (.ref b1)) (P3 : Arv Z h0 b1 kb .byte (own_2 ds) (own_by ds) (.int 0)) (P4 : Sta Z h0 "java/lang/String" "COMPACT_STRINGS" "Z" (.int cs)) (hcs : ¬ (cs = (0 : Int32))) (P6 : Sta Z h0 "jdk/internal/util/Preconditions" "SIOOBE_FORMATTER" "Ljava/util/function/BiFunction;" sv) (hsv : sv.isRef = true) (hf : own_fine ds) (P9 : Sta Z h0 "java/lang/StringUTF16" "$assertionsDisabled" "Z" (.int 1)) (P10 : Sta Z h0 "java/lang/StringUTF16" "HI_BYTE_SHIFT" "I" (.int 0)) (P11 : Sta Z h0 "java/lang/StringUTF16" "LO_BYTE_SHIFT" "I" (.int 8)) (hwf : own_wf ds 4 (0 : Int32)) :
    MetFree l yq77 (head1 (Jvm.Cond.code yq77 prog_9_method_2_code 4 (some (.object "com/example/guarded_once/guardedonce/guard/MessageKey")) :: ws) rq78) (fun a U => a = #[(.ref a1)] ∧ Z.Warmed39 U.vm ∧ U.heap = h0) (fun _ _ _ _ _ => True) (fun _ U o U' => ∃ v L, o = .returned v ∧ Q_rmOfU Z a1 b1 kb cs ds sv h0 n0 v U'.heap L ∧ ReturnedEndW U o U' L rq78.cells rq78.slots) := by
  refine MetFree.of_bodySF (plainFor_of_name pn_com_example_guarded_once_guardedonce_guard_MessageKey) hisR ?_
  intro p e s m args below meth c s₁ Bd hml0 hP hK
  obtain ⟨rfl, hZ, hh⟩ := hP
  have hx := Bd.exec
  have hby := Bd.bytes
  have hml : c.maxLocals = 4 := hml0
  have hown : s.vm.findClass "com/example/guarded_once/guardedonce/guard/MessageKey" = some m.cls := findClass_of_methodNamed Bd.named
  have hnm := (name_of_methodNamed Bd.named Bd.method).1
  have X0 : Stand p l e rq78 (s.setVm s.vm) m #[(.ref a1)] below meth c s₁ [] 0 0 := Stand.of_body Bd
  have e0 : s₁.heap = h0 := by rw [← hh, Bd.state]; rfl
  have N0 := Fr.nil n0
  refine own_fw (A' := (s₁.setTop (mkF m 0 #[.val (.ref a1), .unset, .unset, .unset] []))) (fun t k => castTop (ef_rmOfU m a1) k) ?_
  have hS : s.Since s.vm h0.size := (State.WarmedH.refl s).since _
  have hk : h0.size ≤ h0.size := Nat.le_refl _
  refine own_fw (A' := (s₁.setTop (mkF m 1 #[rv a1, .unset, .unset, .unset] [.ref a1]))) (fun t k => XS.aloadN X0.here hx rfl (hb hby d16_0) rfl rfl k) ?_
  obtain ⟨sa1, T1, h1, k1, X1, e1, E1, hS, hk, hZ, hown, st1⟩ := ldcS X0 hx hZ hown (own_w hw 71 rfl) (own_wS hw) e0 hS hk (g := (mkF m 1 #[rv a1, .unset, .unset, .unset] [.ref a1])) rfl (hb hby d16_1) (n := 20) (by decide) (by decide) (by decide) (by decide)
  have K1 : Keep h0 h1 [] := (Keep.refl h0 []).ext E1
  have Z1 : n0 ≤ h1.size := Nat.le_trans Z0 E1.1
  refine own_fw (A' := (T1.setTop (mkF m 3 #[rv a1, .unset, .unset, .unset] [.ref sa1, .ref a1]))) (fun t k => st1 _ k) ?_
  obtain ⟨_, _, ⟨T2, L2, k2, n2⟩, -, X2, ⟨Lc2, hQ2, l2, y2, z2⟩, st2⟩ := Jvm.LawKit.callS X1 hx (y := yq72) hown (mvT hZ (own_w hw 74 rfl)) (mvT hZ (own_w hw 75 rfl)) (mvT hZ (own_w hw 76 rfl)) (mvT hZ (own_w hw 77 rfl)) (by decide) (backOf (W := 0) (rmRnn l Z a0 hw [] a1 sa1 h1 n0 Z1 ) hZ (own_w hw 77 rfl) (own_w hw 76 rfl) (by decide) (by decide)) (g := (mkF m 3 #[rv a1, .unset, .unset, .unset] [.ref sa1, .ref a1])) rfl (by rw [hml]; rfl) (argsL := [(.ref a1), (.ref sa1)]) (rest := []) (lenOf pd__Ljava_lang_Object_Ljava_lang_String__Ljava_lang_Object_ rfl) rfl (by show 2 * 0 + _ ≤ _; exact Nat.le_of_eq rfl) (hb hby d16_3) (fun _ _ => ⟨rfl, e1, (by decide : 2 + 0 ≤ _), (by decide : 24 + 0 ≤ _)⟩)
  dsimp only [Pt.U, Pt.locs, Pt.cells, Pt.slots] at X2 l2 y2 z2 st2 hQ2
  subst l2 y2 z2
  obtain ⟨rfl, Nq2, e2⟩ := hQ2
  have Nf2 := Fr.app N0 Nq2
  refine own_fw (A' := (T2.setTop (mkF m 10 #[rv a1, .unset, .unset, .unset] [.ref a1, .int 0, .ref a1]))) (fun t k => st2 _ (XS.pop X2.here hx rfl (hb hby d16_6) rfl rfl (XS.aloadN X2.here hx rfl (hb hby d16_7) rfl rfl (XS.iconst X2.here hx rfl (hb hby d16_8) (XS.aloadN X2.here hx rfl (hb hby d16_9) rfl rfl k))))) ?_
  obtain ⟨cq3, kq3, qa3, qb3, qc3⟩ := isOf hZ e2 (P0.ext E1)
  obtain ⟨_, _, ⟨T3, L3, k3, n3⟩, -, X3, ⟨Lc3, hQ3, l3, y3, z3⟩, st3⟩ := X2.virtualBack hx (y := yq58) (z := yq58) hown (mvT hZ (own_w hw 78 rfl)) (mvT hZ (own_w hw 79 rfl)) (notFace_of_selects (args := #[]) (mvT hZ (own_w hw 81 rfl))) (mvT hZ (own_w hw 81 rfl)) (mvT hZ (own_w hw 80 rfl)) (by decide) (backOf (W := 2) (rmLenU l Z a0 hw [] a1 b1 kb cs ds h1 n0 Z1 (P0.ext E1) (P1.ext E1) (P2.ext E1) (P3.ext E1) (P4.ext E1) hcs hf) hZ (own_w hw 82 rfl) (own_w hw 21 rfl) (by decide) (by decide)) qa3 qc3 (g := (mkF m 10 #[rv a1, .unset, .unset, .unset] [.ref a1, .int 0, .ref a1])) rfl (by rw [hml]; rfl) (Steps.refl _) (argsL := []) (rest := [(.int 0), (.ref a1)]) (lenOf pd___I rfl) rfl (by show 2 * 0 + _ ≤ _; exact Nat.le_of_eq rfl) (hb hby d16_10) (fun _ _ => ⟨rfl, e2, (by decide : 2 + 0 ≤ _), (by decide : 24 + 0 ≤ _)⟩)
  dsimp only [Pt.U, Pt.locs, Pt.cells, Pt.slots] at X3 l3 y3 z3 st3 hQ3
  subst l3 y3 z3
  obtain ⟨rfl, Nq3, e3⟩ := hQ3
  have Nf3 := Fr.app Nf2 Nq3
  refine own_fw (A' := (T3.setTop (mkF m 13 #[rv a1, .unset, .unset, .unset] [.int (own_n ds), .int 0, .ref a1]))) (fun t k => st3.trans k) ?_
  obtain ⟨cq4, kq4, qa4, qb4, qc4⟩ := isOf hZ e3 (P0.ext E1)
  obtain ⟨_, _, ⟨T4, L4, k4, n4⟩, -, X4, ⟨Lc4, hQ4, l4, y4, z4⟩, st4⟩ := X3.virtualBack hx (y := yq66) (z := yq66) hown (mvT hZ (own_w hw 88 rfl)) (mvT hZ (own_w hw 89 rfl)) (notFace_of_selects (args := #[]) (mvT hZ (own_w hw 91 rfl))) (mvT hZ (own_w hw 91 rfl)) (mvT hZ (own_w hw 90 rfl)) (by decide) (backOf (W := 0) (rmCouU l Z a0 hw [] a1 b1 kb cs ds h1 n0 Z1 (P0.ext E1) (P1.ext E1) (P2.ext E1) (P3.ext E1) (P4.ext E1) hcs hf (P9.ext E1) (P10.ext E1) (P11.ext E1)) hZ (own_w hw 92 rfl) (own_w hw 21 rfl) (by decide) (by decide)) qa4 qc4 (g := (mkF m 13 #[rv a1, .unset, .unset, .unset] [.int (own_n ds), .int 0, .ref a1])) rfl (by rw [hml]; rfl) (Steps.refl _) (argsL := [(.int 0), (.int (own_n ds))]) (rest := []) (lenOf pd__II_I rfl) rfl (by show 2 * 0 + _ ≤ _; exact Nat.le_of_eq rfl) (hb hby d16_13) (fun _ _ => ⟨rfl, e3, (by decide : 2 + 0 ≤ _), (by decide : 24 + 0 ≤ _)⟩)
  dsimp only [Pt.U, Pt.locs, Pt.cells, Pt.slots] at X4 l4 y4 z4 st4 hQ4
  subst l4 y4 z4
  obtain ⟨r_4, rfl, Nq4, e4, hr0_4, hr1_4⟩ := hQ4
  have Nf4 := Fr.app Nf3 Nq4
  refine own_fw (A' := (T4.setTop (mkF m 61 #[rv a1, iv r_4, iv 0, .unset] []))) (fun t k => st4.trans (XS.istoreN X4.here hx rfl (hb hby d16_16) rfl (l' := #[rv a1, iv r_4, .unset, .unset]) rfl (XS.iloadN X4.here hx rfl (hb hby d16_17) rfl (XS.ifNo X4.here hx rfl (hb hby d16_18) rfl (XT.i0_eq_f hr0_4) (XS.iloadN X4.here hx rfl (hb hby d16_21) rfl (XS.bipush X4.here hx rfl (hb hby d16_22) (XS.icmpYes X4.here hx rfl (pc0 := 24) (pc' := 59) rfl (hb hby d16_24) rfl (XT.ii_le_t hr1_4) (by decide) (by decide) (XS.iconst X4.here hx rfl (hb hby d16_59) (XS.istoreN X4.here hx rfl (hb hby d16_60) rfl (l' := #[rv a1, iv r_4, iv 0, .unset]) rfl k))))))))) ?_
  have HL : ∀ (n : Nat) (i : Int32) (TL : State) (LL : List Loc) (sl : Slot) (hsl : sl = .unset ∨ ∃ w : Int32, sl = .val (.int w)) (_ : Stand p l e rq78 (s.setVm T1.vm) m #[(.ref a1)] below meth c TL LL 2 24) (_ : TL.heap = h1) (_ : Fr n0 LL) (_ : own_wf ds n i), ∃ U o, Steps p.tables e below (TL.setTop (mkF m 61 #[rv a1, iv r_4, iv i, sl] [])) U ∧ U.status = .running ∧ Ended U below o ∧ ∃ v L, o = .returned v ∧ Q_rmOfU Z a1 b1 kb cs ds sv h0 n0 v U.heap L ∧ ReturnedEndW s o U L rq78.cells rq78.slots := by
    intro n
    induction n with
    | zero =>
      intro i TL LL sl hsl XL eL NL hinv
      refine own_fw (A' := (TL.setTop (mkF m 63 #[rv a1, iv r_4, iv i, sl] [.ref a1, .int i]))) (fun t k => XS.iloadN XL.here hx rfl (hb hby d16_61) rfl (XS.aloadN XL.here hx rfl (hb hby d16_62) rfl rfl k)) ?_
      obtain ⟨cq5, kq5, qa5, qb5, qc5⟩ := isOf hZ eL (P0.ext E1)
      obtain ⟨_, _, ⟨T5, L5, k5, n5⟩, -, X5, ⟨Lc5, hQ5, l5, y5, z5⟩, st5⟩ := XL.virtualBack hx (y := yq58) (z := yq58) hown (mvT hZ (own_w hw 78 rfl)) (mvT hZ (own_w hw 79 rfl)) (notFace_of_selects (args := #[]) (mvT hZ (own_w hw 81 rfl))) (mvT hZ (own_w hw 81 rfl)) (mvT hZ (own_w hw 80 rfl)) (by decide) (backOf (W := 1) (rmLenU l Z a0 hw [] a1 b1 kb cs ds h1 n0 Z1 (P0.ext E1) (P1.ext E1) (P2.ext E1) (P3.ext E1) (P4.ext E1) hcs hf) hZ (own_w hw 82 rfl) (own_w hw 21 rfl) (by decide) (by decide)) qa5 qc5 (g := (mkF m 63 #[rv a1, iv r_4, iv i, sl] [.ref a1, .int i])) rfl (by rw [hml]; rfl) (Steps.refl _) (argsL := []) (rest := [(.int i)]) (lenOf pd___I rfl) rfl (by show 2 * 0 + _ ≤ _; exact Nat.le_of_eq rfl) (hb hby d16_63) (fun _ _ => ⟨rfl, eL, (by decide : 2 + 0 ≤ _), (by decide : 24 + 0 ≤ _)⟩)
      dsimp only [Pt.U, Pt.locs, Pt.cells, Pt.slots] at X5 l5 y5 z5 st5 hQ5
      subst l5 y5 z5
      obtain ⟨rfl, Nq5, e5⟩ := hQ5
      have Nf5 := Fr.app NL Nq5
      refine own_fw (A' := (T5.setTop (mkF m 149 #[rv a1, iv r_4, iv i, sl] []))) (fun t k => st5.trans (XS.icmpYes X5.here hx rfl (pc0 := 66) (pc' := 149) rfl (hb hby d16_66) rfl (XT.ii_ge_t hinv) (by decide) (by decide) k)) ?_
      obtain ⟨T6, h6, X6, e6, E6, A6, D6, -, st6⟩ := newO X5 hx hZ hown (own_w hw 140 rfl) (own_w hw 141 rfl) (own_w hw 69 rfl) e5 (g := (mkF m 149 #[rv a1, iv r_4, iv i, sl] [])) rfl (hb hby d16_149) (by decide) (by decide)
      obtain ⟨b6, gb6⟩ : ∃ z, z = h1.size := ⟨_, rfl⟩
      have g_b6 : n0 ≤ b6 := Nat.le_trans Z1 (Nat.le_of_eq gb6.symm)
      have sz_b6 : h0.size ≤ b6 := Nat.le_trans K1.1 (Nat.le_of_eq gb6.symm)
      have ne_a1_b6 : a1 ≠ b6 := Nat.ne_of_lt (Nat.lt_of_lt_of_le (P0.ext E1).lt (Nat.le_of_eq gb6.symm))
      have ne_b1_b6 : b1 ≠ b6 := Nat.ne_of_lt (Nat.lt_of_lt_of_le (P3.ext E1).lt (Nat.le_of_eq gb6.symm))
      rw [← gb6] at A6 D6 st6
      have F_value_b6 : Fld Z h6 b6 "com/example/guarded_once/guardedonce/guard/MessageKey" "value" "Ljava/lang/String;" .null := D6 (Or.inr (own_w hw 147 rfl)) (ty := (.object "java/lang/String")) (by decide)
      have K6 : Keep h0 h6 [] := K1.ext E6
      have Z6 : n0 ≤ h6.size := Nat.le_trans Z1 E6.1
      have hk := Nat.le_trans hk E6.1
      refine own_fw (A' := (T6.setTop (mkF m 154 #[rv a1, iv r_4, iv i, sl] [.ref a1, .ref b6, .ref b6]))) (fun t k => st6 _ (XS.dup X6.here hx rfl (hb hby d16_152) rfl rfl (XS.aloadN X6.here hx rfl (hb hby d16_153) rfl rfl k))) ?_
      obtain ⟨_, _, ⟨T7, L7, k7, n7⟩, -, X7, ⟨Lc7, hQ7, l7, y7, z7⟩, st7⟩ := X6.specialBack hx (y := yq73) rfl hown (mvT hZ (own_w hw 142 rfl)) (mvT hZ (own_w hw 143 rfl)) (mvT hZ (own_w hw 144 rfl)) (by decide) (backOf (W := 1) (rmIni l Z a0 hw [] b6 a1 h6 n0 Z6 A6 F_value_b6 g_b6) hZ (own_w hw 144 rfl) (own_w hw 69 rfl) (by decide) (by decide)) (g := (mkF m 154 #[rv a1, iv r_4, iv i, sl] [.ref a1, .ref b6, .ref b6])) rfl (by rw [hml]; rfl) (Steps.refl _) (a := b6) (argsL := [(.ref a1)]) (rest := [(.ref b6)]) (lenOf pd__Ljava_lang_String__V rfl) rfl (by show 2 * 0 + _ ≤ _; exact Nat.le_of_eq rfl) (hb hby d16_154) (fun _ _ => ⟨rfl, e6, (by decide : 3 + 0 ≤ _), (by decide : 25 + 0 ≤ _)⟩)
      dsimp only [Pt.U, Pt.locs, Pt.cells, Pt.slots] at X7 l7 y7 z7 st7 hQ7
      subst l7 y7 z7
      obtain ⟨rfl, Nq7, Kq7, Fq7_0, Fq7_1⟩ := hQ7
      have Nf7 := Fr.app Nf5 Nq7
      have hk := Nat.le_trans hk Kq7.1
      have K7 : Keep h0 T7.heap [] := K6.trans Kq7 (allS (Or.inr sz_b6) all0)
      have Z7 : n0 ≤ T7.heap.size := Nat.le_trans Z6 Kq7.1
      refine own_fw (A' := (T7.setTop (mkF m 157 #[rv a1, iv r_4, iv i, sl] [.ref b6]))) (fun t k => st7.trans k) ?_
      obtain ⟨fs, hr, hrun, hended, hWE⟩ := X7.leaveW hS hk (v := some (.ref b6)) (fun h => by rw [Bd.returns] at h; cases h)
      refine ⟨_, _, ?_, hrun, hended, _, _, rfl, ?_, own_widen hWE (by decide) (by decide)⟩
      · exact retOut X7 hx Bd.returns rfl (Or.inr (Or.inr (Or.inr (Or.inr ⟨rfl, rfl, rfl⟩)))) (hb hby d16_157) hr
      · show Q_rmOfU Z a1 b1 kb cs ds sv h0 n0 _ T7.heap _
        exact ⟨b6, rfl, Nf7, K7, Fq7_0, Fq7_1, (((P0.ext E1).ext E6).keep Kq7), sz_b6⟩
    | succ n ih =>
      intro i TL LL sl hsl XL eL NL hinv
      refine own_fw (A' := (TL.setTop (mkF m 63 #[rv a1, iv r_4, iv i, sl] [.ref a1, .int i]))) (fun t k => XS.iloadN XL.here hx rfl (hb hby d16_61) rfl (XS.aloadN XL.here hx rfl (hb hby d16_62) rfl rfl k)) ?_
      obtain ⟨cq8, kq8, qa8, qb8, qc8⟩ := isOf hZ eL (P0.ext E1)
      obtain ⟨_, _, ⟨T8, L8, k8, n8⟩, -, X8, ⟨Lc8, hQ8, l8, y8, z8⟩, st8⟩ := XL.virtualBack hx (y := yq58) (z := yq58) hown (mvT hZ (own_w hw 78 rfl)) (mvT hZ (own_w hw 79 rfl)) (notFace_of_selects (args := #[]) (mvT hZ (own_w hw 81 rfl))) (mvT hZ (own_w hw 81 rfl)) (mvT hZ (own_w hw 80 rfl)) (by decide) (backOf (W := 1) (rmLenU l Z a0 hw [] a1 b1 kb cs ds h1 n0 Z1 (P0.ext E1) (P1.ext E1) (P2.ext E1) (P3.ext E1) (P4.ext E1) hcs hf) hZ (own_w hw 82 rfl) (own_w hw 21 rfl) (by decide) (by decide)) qa8 qc8 (g := (mkF m 63 #[rv a1, iv r_4, iv i, sl] [.ref a1, .int i])) rfl (by rw [hml]; rfl) (Steps.refl _) (argsL := []) (rest := [(.int i)]) (lenOf pd___I rfl) rfl (by show 2 * 0 + _ ≤ _; exact Nat.le_of_eq rfl) (hb hby d16_63) (fun _ _ => ⟨rfl, eL, (by decide : 2 + 0 ≤ _), (by decide : 24 + 0 ≤ _)⟩)
      dsimp only [Pt.U, Pt.locs, Pt.cells, Pt.slots] at X8 l8 y8 z8 st8 hQ8
      subst l8 y8 z8
      obtain ⟨rfl, Nq8, e8⟩ := hQ8
      have Nf8 := Fr.app NL Nq8
      refine own_fw (A' := (T8.setTop (mkF m 66 #[rv a1, iv r_4, iv i, sl] [.int (own_n ds), .int i]))) (fun t k => st8.trans k) ?_
      by_cases hin : i < (own_n ds)
      · obtain ⟨hu, hqq, hnx⟩ := hinv hin
        refine own_fw (A' := (T8.setTop (mkF m 71 #[rv a1, iv r_4, iv i, sl] [.int i, .ref a1]))) (fun t k => XS.icmpNo X8.here hx rfl (hb hby d16_66) rfl (XT.ii_ge_f hin) (XS.aloadN X8.here hx rfl (hb hby d16_69) rfl rfl (XS.iloadN X8.here hx rfl (hb hby d16_70) rfl k))) ?_
        obtain ⟨cq9, kq9, qa9, qb9, qc9⟩ := isOf hZ e8 (P0.ext E1)
        obtain ⟨_, _, ⟨T9, L9, k9, n9⟩, -, X9, ⟨Lc9, hQ9, l9, y9, z9⟩, st9⟩ := X8.virtualBack hx (y := yq70) (z := yq70) hown (mvT hZ (own_w hw 112 rfl)) (mvT hZ (own_w hw 113 rfl)) (notFace_of_selects (args := #[]) (mvT hZ (own_w hw 115 rfl))) (mvT hZ (own_w hw 115 rfl)) (mvT hZ (own_w hw 114 rfl)) (by decide) (backOf (W := 0) (rmCpaU l Z a0 hw [] a1 b1 kb cs ds sv i h1 n0 Z1 (P0.ext E1) (P1.ext E1) (P2.ext E1) (P3.ext E1) (P4.ext E1) hcs (P6.ext E1) hsv (P9.ext E1) (P10.ext E1) (P11.ext E1) hf hu hin hqq) hZ (own_w hw 116 rfl) (own_w hw 21 rfl) (by decide) (by decide)) qa9 qc9 (g := (mkF m 71 #[rv a1, iv r_4, iv i, sl] [.int i, .ref a1])) rfl (by rw [hml]; rfl) (Steps.refl _) (argsL := [(.int i)]) (rest := []) (lenOf pd__I_I rfl) rfl (by show 2 * 0 + _ ≤ _; exact Nat.le_of_eq rfl) (hb hby d16_71) (fun _ _ => ⟨rfl, e8, (by decide : 2 + 0 ≤ _), (by decide : 24 + 0 ≤ _)⟩)
        dsimp only [Pt.U, Pt.locs, Pt.cells, Pt.slots] at X9 l9 y9 z9 st9 hQ9
        subst l9 y9 z9
        obtain ⟨rfl, Nq9, e9⟩ := hQ9
        have Nf9 := Fr.app Nf8 Nq9
        refine own_fw (A' := (T9.setTop (mkF m 78 #[rv a1, iv r_4, iv i, iv (own_ca ds i)] [.int 55296, .int (own_ca ds i)]))) (fun t k => st9.trans (XS.istoreN X9.here hx rfl (hb hby d16_74) rfl (l' := #[rv a1, iv r_4, iv i, iv (own_ca ds i)]) (by rcases hsl with hq | ⟨w, hq⟩ <;> rw [hq] <;> rfl) (XS.iloadN X9.here hx rfl (hb hby d16_75) rfl (X9.ldcInt hx hown (mvT hZ (own_w hw 135 rfl)) (g := (mkF m 76 #[rv a1, iv r_4, iv i, iv (own_ca ds i)] [.int (own_ca ds i)])) rfl (hb hby d16_76) _ k)))) ?_
        refine own_fw (A' := (T9.setTop (mkF m 111 #[rv a1, iv r_4, iv i, iv (own_ca ds i)] []))) (fun t k => ?_) ?_
        · by_cases hj10 : (own_ca ds i) < (55296 : Int32)
          · try simp only [if_pos hj10] at k
            refine own_st (A' := (T9.setTop (mkF m 111 #[rv a1, iv r_4, iv i, iv (own_ca ds i)] []))) (fun t k => XS.icmpYes X9.here hx rfl (pc0 := 78) (pc' := 111) rfl (hb hby d16_78) rfl (XT.ii_lt_t hj10) (by decide) (by decide) k) ?_
            exact k
          · try simp only [if_neg hj10] at k
            refine own_st (A' := (T9.setTop (mkF m 111 #[rv a1, iv r_4, iv i, iv (own_ca ds i)] []))) (fun t k => XS.icmpNo X9.here hx rfl (hb hby d16_78) rfl (XT.ii_lt_f hj10) (XS.iloadN X9.here hx rfl (hb hby d16_81) rfl (X9.ldcInt hx hown (mvT hZ (own_w hw 159 rfl)) (g := (mkF m 82 #[rv a1, iv r_4, iv i, iv (own_ca ds i)] [.int (own_ca ds i)])) rfl (hb hby d16_82) _ (XS.icmpYes X9.here hx rfl (pc0 := 84) (pc' := 111) rfl (hb hby d16_84) rfl (XT.ii_gt_t (own_ca1 hqq hj10)) (by decide) (by decide) k)))) ?_
            exact k
        refine own_fw (A' := (T9.setTop (mkF m 141 #[rv a1, iv r_4, iv i, iv (own_ca ds i)] [.int (own_ca ds i), .int i]))) (fun t k => XS.iloadN X9.here hx rfl (hb hby d16_111) rfl (XS.ifYes X9.here hx rfl (pc0 := 112) (pc' := 139) rfl (hb hby d16_112) rfl (XT.i0_ne_t (own_ca2 hqq)) (by decide) (by decide) (XS.iloadN X9.here hx rfl (hb hby d16_139) rfl (XS.iloadN X9.here hx rfl (hb hby d16_140) rfl k)))) ?_
        obtain ⟨_, _, ⟨T11, L11, k11, n11⟩, -, X11, ⟨Lc11, hQ11, l11, y11, z11⟩, st11⟩ := Jvm.LawKit.callS X9 hx (y := yq54) hown (mvT hZ (own_w hw 136 rfl)) (mvT hZ (own_w hw 137 rfl)) (mvT hZ (own_w hw 132 rfl)) (mvT hZ (own_w hw 138 rfl)) (by decide) (backOf (W := 1) (rmCc l Z a0 hw [] (own_ca ds i) h1 n0 Z1 ) hZ (own_w hw 138 rfl) (own_w hw 132 rfl) (by decide) (by decide)) (g := (mkF m 141 #[rv a1, iv r_4, iv i, iv (own_ca ds i)] [.int (own_ca ds i), .int i])) rfl (by rw [hml]; rfl) (argsL := [(.int (own_ca ds i))]) (rest := [(.int i)]) (lenOf pd__I_I rfl) rfl (by show 2 * 0 + _ ≤ _; exact Nat.le_of_eq rfl) (hb hby d16_141) (fun _ _ => ⟨rfl, e9, (by decide : 2 + 0 ≤ _), (by decide : 24 + 0 ≤ _)⟩)
        dsimp only [Pt.U, Pt.locs, Pt.cells, Pt.slots] at X11 l11 y11 z11 st11 hQ11
        subst l11 y11 z11
        obtain ⟨rfl, Nq11, e11⟩ := hQ11
        have Nf11 := Fr.app Nf9 Nq11
        refine own_fw (A' := (T11.setTop (mkF m 61 #[rv a1, iv r_4, iv (i + (own_cc (own_ca ds i))), iv (own_ca ds i)] []))) (fun t k => st11 _ (XS.iadd X11.here hx rfl (hb hby d16_144) rfl (XS.istoreN X11.here hx rfl (hb hby d16_145) rfl (l' := #[rv a1, iv r_4, iv (i + (own_cc (own_ca ds i))), iv (own_ca ds i)]) rfl (XS.goto X11.here hx rfl (pc0 := 146) (pc' := 61) rfl (hb hby d16_146) (by decide) (by decide) k)))) ?_
        exact ih _ _ _ _ (Or.inr ⟨_, rfl⟩) X11 e11 Nf11 hnx
      · refine own_fw (A' := (T8.setTop (mkF m 149 #[rv a1, iv r_4, iv i, sl] []))) (fun t k => XS.icmpYes X8.here hx rfl (pc0 := 66) (pc' := 149) rfl (hb hby d16_66) rfl (XT.ii_ge_t hin) (by decide) (by decide) k) ?_
        obtain ⟨T12, h12, X12, e12, E12, A12, D12, -, st12⟩ := newO X8 hx hZ hown (own_w hw 140 rfl) (own_w hw 141 rfl) (own_w hw 69 rfl) e8 (g := (mkF m 149 #[rv a1, iv r_4, iv i, sl] [])) rfl (hb hby d16_149) (by decide) (by decide)
        obtain ⟨b12, gb12⟩ : ∃ z, z = h1.size := ⟨_, rfl⟩
        have g_b12 : n0 ≤ b12 := Nat.le_trans Z1 (Nat.le_of_eq gb12.symm)
        have sz_b12 : h0.size ≤ b12 := Nat.le_trans K1.1 (Nat.le_of_eq gb12.symm)
        have ne_a1_b12 : a1 ≠ b12 := Nat.ne_of_lt (Nat.lt_of_lt_of_le (P0.ext E1).lt (Nat.le_of_eq gb12.symm))
        have ne_b1_b12 : b1 ≠ b12 := Nat.ne_of_lt (Nat.lt_of_lt_of_le (P3.ext E1).lt (Nat.le_of_eq gb12.symm))
        rw [← gb12] at A12 D12 st12
        have F_value_b12 : Fld Z h12 b12 "com/example/guarded_once/guardedonce/guard/MessageKey" "value" "Ljava/lang/String;" .null := D12 (Or.inr (own_w hw 147 rfl)) (ty := (.object "java/lang/String")) (by decide)
        have K12 : Keep h0 h12 [] := K1.ext E12
        have Z12 : n0 ≤ h12.size := Nat.le_trans Z1 E12.1
        have hk := Nat.le_trans hk E12.1
        refine own_fw (A' := (T12.setTop (mkF m 154 #[rv a1, iv r_4, iv i, sl] [.ref a1, .ref b12, .ref b12]))) (fun t k => st12 _ (XS.dup X12.here hx rfl (hb hby d16_152) rfl rfl (XS.aloadN X12.here hx rfl (hb hby d16_153) rfl rfl k))) ?_
        obtain ⟨_, _, ⟨T13, L13, k13, n13⟩, -, X13, ⟨Lc13, hQ13, l13, y13, z13⟩, st13⟩ := X12.specialBack hx (y := yq73) rfl hown (mvT hZ (own_w hw 142 rfl)) (mvT hZ (own_w hw 143 rfl)) (mvT hZ (own_w hw 144 rfl)) (by decide) (backOf (W := 1) (rmIni l Z a0 hw [] b12 a1 h12 n0 Z12 A12 F_value_b12 g_b12) hZ (own_w hw 144 rfl) (own_w hw 69 rfl) (by decide) (by decide)) (g := (mkF m 154 #[rv a1, iv r_4, iv i, sl] [.ref a1, .ref b12, .ref b12])) rfl (by rw [hml]; rfl) (Steps.refl _) (a := b12) (argsL := [(.ref a1)]) (rest := [(.ref b12)]) (lenOf pd__Ljava_lang_String__V rfl) rfl (by show 2 * 0 + _ ≤ _; exact Nat.le_of_eq rfl) (hb hby d16_154) (fun _ _ => ⟨rfl, e12, (by decide : 3 + 0 ≤ _), (by decide : 25 + 0 ≤ _)⟩)
        dsimp only [Pt.U, Pt.locs, Pt.cells, Pt.slots] at X13 l13 y13 z13 st13 hQ13
        subst l13 y13 z13
        obtain ⟨rfl, Nq13, Kq13, Fq13_0, Fq13_1⟩ := hQ13
        have Nf13 := Fr.app Nf8 Nq13
        have hk := Nat.le_trans hk Kq13.1
        have K13 : Keep h0 T13.heap [] := K12.trans Kq13 (allS (Or.inr sz_b12) all0)
        have Z13 : n0 ≤ T13.heap.size := Nat.le_trans Z12 Kq13.1
        refine own_fw (A' := (T13.setTop (mkF m 157 #[rv a1, iv r_4, iv i, sl] [.ref b12]))) (fun t k => st13.trans k) ?_
        obtain ⟨fs, hr, hrun, hended, hWE⟩ := X13.leaveW hS hk (v := some (.ref b12)) (fun h => by rw [Bd.returns] at h; cases h)
        refine ⟨_, _, ?_, hrun, hended, _, _, rfl, ?_, own_widen hWE (by decide) (by decide)⟩
        · exact retOut X13 hx Bd.returns rfl (Or.inr (Or.inr (Or.inr (Or.inr ⟨rfl, rfl, rfl⟩)))) (hb hby d16_157) hr
        · show Q_rmOfU Z a1 b1 kb cs ds sv h0 n0 _ T13.heap _
          exact ⟨b12, rfl, Nf13, K13, Fq13_0, Fq13_1, (((P0.ext E1).ext E12).keep Kq13), sz_b12⟩
  exact HL _ _ _ _ _ (Or.inl rfl) X4 e4 Nf4 hwf
theorem pd__I_C : parseMethodDescriptor "(I)C" = some ⟨[.int], some .char⟩ := by decide +kernel
theorem pd___CII_Z : parseMethodDescriptor "([CII)Z" = some ⟨[(.array .char), .int, .int], some .boolean⟩ := by decide +kernel
theorem pd___C_V : parseMethodDescriptor "([C)V" = some ⟨[(.array .char)], none⟩ := by decide +kernel
theorem pd__Ljava_lang_String__Lcom_example_guarded_once_guardedonce_guard_MessageKey_ : parseMethodDescriptor "(Ljava/lang/String;)Lcom/example/guarded_once/guardedonce/guard/MessageKey;" = some ⟨[(.object "java/lang/String")], some (.object "com/example/guarded_once/guardedonce/guard/MessageKey")⟩ := by decide +kernel
theorem pd___Ljava_lang_String_ : parseMethodDescriptor "()Ljava/lang/String;" = some ⟨[], some (.object "java/lang/String")⟩ := by decide +kernel
theorem pd__Ljava_lang_Object__Z : parseMethodDescriptor "(Ljava/lang/Object;)Z" = some ⟨[(.object "java/lang/Object")], some .boolean⟩ := by decide +kernel
theorem ef_rm0 (m : MethodId) (p1 p2 p3 p4 p5 : Int32) : entryFrame m #[(.int p1), (.int p2), (.int p3), (.int p4), (.int p5)] maxLocals = mkF m 0 #[.val (.int p1), .val (.int p2), .val (.int p3), .val (.int p4), .val (.int p5), .unset, .unset, .unset, .unset, .unset, .unset] [] := by first | (simp [entryFrame, mkF, argsToLocals, Value.category, maxLocals]; done) | rfl
def Q_rm0 (Z : State) (p1 p2 p3 p4 p5 cs : Int32) (sv : Value) (h0 : Heap) (n0 : Nat) (v : Option Value) (h : Heap) (L : List Loc) : Prop := v = some (.int 1) ∧ Fr n0 L
theorem rm0 (l : Launch) (Z : State) (a0 : Array Value) (hw : ∀ d ∈ tables_1, d.before a0 Z = true) (ws : List Jvm.Cond) (p1 p2 p3 p4 p5 cs : Int32) (sv : Value) (h0 : Heap) (n0 : Nat) (Z0 : n0 ≤ h0.size) (P0 : Sta Z h0 "java/lang/String" "COMPACT_STRINGS" "Z" (.int cs)) (hcs : ¬ (cs = (0 : Int32))) (P2 : Sta Z h0 "java/lang/StringUTF16" "$assertionsDisabled" "Z" (.int 1)) (P3 : Sta Z h0 "java/lang/StringUTF16" "HI_BYTE_SHIFT" "I" (.int 0)) (P4 : Sta Z h0 "java/lang/StringUTF16" "LO_BYTE_SHIFT" "I" (.int 8)) (P5 : Sta Z h0 "jdk/internal/util/Preconditions" "SIOOBE_FORMATTER" "Ljava/util/function/BiFunction;" sv) (hsv : sv.isRef = true) :
    MetFree l x (head1 (Jvm.Cond.code x code maxLocals ret :: ws) room_1) (fun a U => a = #[(.int p1), (.int p2), (.int p3), (.int p4), (.int p5)] ∧ Z.Warmed39 U.vm ∧ U.heap = h0) (fun _ _ _ _ _ => True) (fun _ U o U' => ∃ v L, o = .returned v ∧ Q_rm0 Z p1 p2 p3 p4 p5 cs sv h0 n0 v U'.heap L ∧ ReturnedEndW U o U' L room_1.cells room_1.slots) := by
  refine MetFree.of_bodySF (plainFor_of_name pn_com_example_guarded_once_guardedonce_guard_MessageKeyOfPinLaw) hisR ?_
  intro p e s m args below meth c s₁ Bd hml0 hP hK
  obtain ⟨rfl, hZ, hh⟩ := hP
  have hx := Bd.exec
  have hby := Bd.bytes
  have hml : c.maxLocals = 11 := hml0
  have hown : s.vm.findClass "com/example/guarded_once/guardedonce/guard/MessageKeyOfPinLaw" = some m.cls := findClass_of_methodNamed Bd.named
  have hnm := (name_of_methodNamed Bd.named Bd.method).1
  have X0 : Stand p l e room_1 (s.setVm s.vm) m #[(.int p1), (.int p2), (.int p3), (.int p4), (.int p5)] below meth c s₁ [] 0 0 := Stand.of_body Bd
  have e0 : s₁.heap = h0 := by rw [← hh, Bd.state]; rfl
  have N0 := Fr.nil n0
  refine own_fw (A' := (s₁.setTop (mkF m 0 #[.val (.int p1), .val (.int p2), .val (.int p3), .val (.int p4), .val (.int p5), .unset, .unset, .unset, .unset, .unset, .unset] []))) (fun t k => castTop (ef_rm0 m p1 p2 p3 p4 p5) k) ?_
  have hS : s.Since s.vm h0.size := (State.WarmedH.refl s).since _
  have hk : h0.size ≤ h0.size := Nat.le_refl _
  refine own_fw (A' := (s₁.setTop (mkF m 7 #[iv p1, iv p2, iv p3, iv p4, iv p5, iv ((1 : Int32) + (p1 &&& (3 : Int32))), .unset, .unset, .unset, .unset, .unset] []))) (fun t k => XS.iconst X0.here hx rfl (hb hby at_0) (XS.iloadN X0.here hx rfl (hb hby at_1) rfl (XS.iconst X0.here hx rfl (hb hby at_2) (XS.iand X0.here hx rfl (hb hby at_3) rfl (XS.iadd X0.here hx rfl (hb hby at_4) rfl (XS.istore X0.here hx rfl (hb hby at_5) rfl (l' := #[iv p1, iv p2, iv p3, iv p4, iv p5, iv ((1 : Int32) + (p1 &&& (3 : Int32))), .unset, .unset, .unset, .unset, .unset]) rfl k)))))) ?_
  obtain ⟨nn, h_nn⟩ : ∃ z : Int32, z = ((1 : Int32) + (p1 &&& (3 : Int32))) := ⟨_, rfl⟩
  rw [← h_nn]
  refine own_fw (A' := (s₁.setTop (mkF m 8 #[iv p1, iv p2, iv p3, iv p4, iv p5, iv nn, .unset, .unset, .unset, .unset, .unset] [.int 4]))) (fun t k => XS.iconst X0.here hx rfl (hb hby at_7) k) ?_
  obtain ⟨T1, h1, k1, X1, e1, E1, A1, st1⟩ := newP X0 hx hZ (own_w hw 0 rfl) e0 (g := (mkF m 8 #[iv p1, iv p2, iv p3, iv p4, iv p5, iv nn, .unset, .unset, .unset, .unset, .unset] [.int 4])) rfl (hb hby at_8) rfl (by decide) (cap := 4) (by decide) (by decide) (by decide) (by decide)
  obtain ⟨b1, gb1⟩ : ∃ z, z = h0.size := ⟨_, rfl⟩
  have g_b1 : n0 ≤ b1 := Nat.le_trans Z0 (Nat.le_of_eq gb1.symm)
  have sz_b1 : h0.size ≤ b1 := Nat.le_trans (Keep.refl h0 []).1 (Nat.le_of_eq gb1.symm)
  rw [← gb1] at A1 st1
  have V_b1 : Arv Z h1 b1 k1 .char (4 : Int32) [(.int 0), (.int 0), (.int 0), (.int 0)] (.int 0) := (Arv.new A1 (by decide)).pad (pad_rep [] (.int 0) 4)
  have K1 : Keep h0 h1 [] := (Keep.refl h0 []).ext E1
  have Z1 : n0 ≤ h1.size := Nat.le_trans Z0 E1.1
  have hk := Nat.le_trans hk E1.1
  refine own_fw (A' := (T1.setTop (mkF m 13 #[iv p1, iv p2, iv p3, iv p4, iv p5, iv nn, .unset, .unset, .unset, .unset, .unset] [.int p2, .int 0, .ref b1, .ref b1]))) (fun t k => st1 _ (XS.dup X1.here hx rfl (hb hby at_10) rfl rfl (XS.iconst X1.here hx rfl (hb hby at_11) (XS.iloadN X1.here hx rfl (hb hby at_12) rfl k)))) ?_
  obtain ⟨_, _, ⟨T2, L2, k2, n2⟩, -, X2, ⟨Lc2, hQ2, l2, y2, z2⟩, st2⟩ := Jvm.LawKit.callS X1 hx (y := yq46) hown (mvT hZ (own_w hw 1 rfl)) (mvT hZ (own_w hw 2 rfl)) (mvT hZ (own_w hw 3 rfl)) (mvT hZ (own_w hw 4 rfl)) (by decide) (backOf (W := 3) (rmDraw l Z a0 hw [] p2 h1 n0 Z1 ) hZ (own_w hw 4 rfl) (own_w hw 3 rfl) (by decide) (by decide)) (g := (mkF m 13 #[iv p1, iv p2, iv p3, iv p4, iv p5, iv nn, .unset, .unset, .unset, .unset, .unset] [.int p2, .int 0, .ref b1, .ref b1])) rfl (by rw [hml]; rfl) (argsL := [(.int p2)]) (rest := [(.int 0), (.ref b1), (.ref b1)]) (lenOf pd__I_C rfl) rfl (by show 2 * 0 + _ ≤ _; exact Nat.le_of_eq rfl) (hb hby at_13) (fun _ _ => ⟨rfl, e1, (by decide : 1 + 0 ≤ _), (by decide : 4 + 0 ≤ _)⟩)
  dsimp only [Pt.U, Pt.locs, Pt.cells, Pt.slots] at X2 l2 y2 z2 st2 hQ2
  subst l2 y2 z2
  obtain ⟨r_2, rfl, Nq2, e2, hr_2⟩ := hQ2
  have Nf2 := Fr.app N0 Nq2
  refine own_fw (A' := (T2.setTop (mkF m 16 #[iv p1, iv p2, iv p3, iv p4, iv p5, iv nn, .unset, .unset, .unset, .unset, .unset] [.int r_2, .int 0, .ref b1, .ref b1]))) (fun t k => st2 _ k) ?_
  obtain ⟨cl3, Ar3, q3, S3, M3, H3, G3⟩ := id V_b1
  have hin3 : ¬ ((0 : Int32) < 0 ∨ cl3.slots.size ≤ ((0 : Int32)).toNatClampNeg) := inb_of S3 ⟨by decide, by decide⟩
  obtain ⟨T3, h3, X3, e3, W3, st3⟩ := stC X2 hx hZ e2 Ar3 (j := (0 : Int32)) hin3 (g := (mkF m 16 #[iv p1, iv p2, iv p3, iv p4, iv p5, iv nn, .unset, .unset, .unset, .unset, .unset] [.int r_2, .int 0, .ref b1, .ref b1])) rfl rfl (hb hby at_16)
  rw [(own_nar16 hr_2)] at W3
  have V3 : Arv Z h3 b1 k1 .char (4 : Int32) [(.int r_2), (.int 0), (.int 0), (.int 0)] (.int 0) := Arv.set Ar3 q3 S3 M3 H3 G3 (own_fit16 hr_2) W3 0 rfl (Nat.le_of_ble_eq_true rfl)
  have Nf3 := Fr.snoc X3 Nf2 g_b1
  have K3 : Keep h0 h3 [] := K1.wr W3 (Or.inr sz_b1)
  have Z3 : n0 ≤ h3.size := Nat.le_trans Z1 (Keep.of_wr W3).1
  have hk := Nat.le_trans hk (Keep.of_wr W3).1
  refine own_fw (A' := (T3.setTop (mkF m 20 #[iv p1, iv p2, iv p3, iv p4, iv p5, iv nn, .unset, .unset, .unset, .unset, .unset] [.int p3, .int 1, .ref b1, .ref b1]))) (fun t k => st3 _ (XS.dup X3.here hx rfl (hb hby at_17) rfl rfl (XS.iconst X3.here hx rfl (hb hby at_18) (XS.iloadN X3.here hx rfl (hb hby at_19) rfl k)))) ?_
  obtain ⟨_, _, ⟨T4, L4, k4, n4⟩, -, X4, ⟨Lc4, hQ4, l4, y4, z4⟩, st4⟩ := Jvm.LawKit.callS X3 hx (y := yq46) hown (mvT hZ (own_w hw 1 rfl)) (mvT hZ (own_w hw 2 rfl)) (mvT hZ (own_w hw 3 rfl)) (mvT hZ (own_w hw 4 rfl)) (by decide) (backOf (W := 3) (rmDraw l Z a0 hw [] p3 h3 n0 Z3 ) hZ (own_w hw 4 rfl) (own_w hw 3 rfl) (by decide) (by decide)) (g := (mkF m 20 #[iv p1, iv p2, iv p3, iv p4, iv p5, iv nn, .unset, .unset, .unset, .unset, .unset] [.int p3, .int 1, .ref b1, .ref b1])) rfl (by rw [hml]; rfl) (argsL := [(.int p3)]) (rest := [(.int 1), (.ref b1), (.ref b1)]) (lenOf pd__I_C rfl) rfl (by show 2 * 0 + _ ≤ _; exact Nat.le_of_eq rfl) (hb hby at_20) (fun _ _ => ⟨rfl, e3, (by decide : 1 + 0 ≤ _), (by decide : 4 + 0 ≤ _)⟩)
  dsimp only [Pt.U, Pt.locs, Pt.cells, Pt.slots] at X4 l4 y4 z4 st4 hQ4
  subst l4 y4 z4
  obtain ⟨r_4, rfl, Nq4, e4, hr_4⟩ := hQ4
  have Nf4 := Fr.app Nf3 Nq4
  refine own_fw (A' := (T4.setTop (mkF m 23 #[iv p1, iv p2, iv p3, iv p4, iv p5, iv nn, .unset, .unset, .unset, .unset, .unset] [.int r_4, .int 1, .ref b1, .ref b1]))) (fun t k => st4 _ k) ?_
  obtain ⟨cl5, Ar5, q5, S5, M5, H5, G5⟩ := id V3
  have hin5 : ¬ ((1 : Int32) < 0 ∨ cl5.slots.size ≤ ((1 : Int32)).toNatClampNeg) := inb_of S5 ⟨by decide, by decide⟩
  obtain ⟨T5, h5, X5, e5, W5, st5⟩ := stC X4 hx hZ e4 Ar5 (j := (1 : Int32)) hin5 (g := (mkF m 23 #[iv p1, iv p2, iv p3, iv p4, iv p5, iv nn, .unset, .unset, .unset, .unset, .unset] [.int r_4, .int 1, .ref b1, .ref b1])) rfl rfl (hb hby at_23)
  rw [(own_nar16 hr_4)] at W5
  have V5 : Arv Z h5 b1 k1 .char (4 : Int32) [(.int r_2), (.int r_4), (.int 0), (.int 0)] (.int 0) := Arv.set Ar5 q5 S5 M5 H5 G5 (own_fit16 hr_4) W5 1 rfl (Nat.le_of_ble_eq_true rfl)
  have Nf5 := Fr.snoc X5 Nf4 g_b1
  have K5 : Keep h0 h5 [] := K3.wr W5 (Or.inr sz_b1)
  have Z5 : n0 ≤ h5.size := Nat.le_trans Z3 (Keep.of_wr W5).1
  have hk := Nat.le_trans hk (Keep.of_wr W5).1
  refine own_fw (A' := (T5.setTop (mkF m 27 #[iv p1, iv p2, iv p3, iv p4, iv p5, iv nn, .unset, .unset, .unset, .unset, .unset] [.int p4, .int 2, .ref b1, .ref b1]))) (fun t k => st5 _ (XS.dup X5.here hx rfl (hb hby at_24) rfl rfl (XS.iconst X5.here hx rfl (hb hby at_25) (XS.iloadN X5.here hx rfl (hb hby at_26) rfl k)))) ?_
  obtain ⟨_, _, ⟨T6, L6, k6, n6⟩, -, X6, ⟨Lc6, hQ6, l6, y6, z6⟩, st6⟩ := Jvm.LawKit.callS X5 hx (y := yq46) hown (mvT hZ (own_w hw 1 rfl)) (mvT hZ (own_w hw 2 rfl)) (mvT hZ (own_w hw 3 rfl)) (mvT hZ (own_w hw 4 rfl)) (by decide) (backOf (W := 3) (rmDraw l Z a0 hw [] p4 h5 n0 Z5 ) hZ (own_w hw 4 rfl) (own_w hw 3 rfl) (by decide) (by decide)) (g := (mkF m 27 #[iv p1, iv p2, iv p3, iv p4, iv p5, iv nn, .unset, .unset, .unset, .unset, .unset] [.int p4, .int 2, .ref b1, .ref b1])) rfl (by rw [hml]; rfl) (argsL := [(.int p4)]) (rest := [(.int 2), (.ref b1), (.ref b1)]) (lenOf pd__I_C rfl) rfl (by show 2 * 0 + _ ≤ _; exact Nat.le_of_eq rfl) (hb hby at_27) (fun _ _ => ⟨rfl, e5, (by decide : 1 + 0 ≤ _), (by decide : 4 + 0 ≤ _)⟩)
  dsimp only [Pt.U, Pt.locs, Pt.cells, Pt.slots] at X6 l6 y6 z6 st6 hQ6
  subst l6 y6 z6
  obtain ⟨r_6, rfl, Nq6, e6, hr_6⟩ := hQ6
  have Nf6 := Fr.app Nf5 Nq6
  refine own_fw (A' := (T6.setTop (mkF m 30 #[iv p1, iv p2, iv p3, iv p4, iv p5, iv nn, .unset, .unset, .unset, .unset, .unset] [.int r_6, .int 2, .ref b1, .ref b1]))) (fun t k => st6 _ k) ?_
  obtain ⟨cl7, Ar7, q7, S7, M7, H7, G7⟩ := id V5
  have hin7 : ¬ ((2 : Int32) < 0 ∨ cl7.slots.size ≤ ((2 : Int32)).toNatClampNeg) := inb_of S7 ⟨by decide, by decide⟩
  obtain ⟨T7, h7, X7, e7, W7, st7⟩ := stC X6 hx hZ e6 Ar7 (j := (2 : Int32)) hin7 (g := (mkF m 30 #[iv p1, iv p2, iv p3, iv p4, iv p5, iv nn, .unset, .unset, .unset, .unset, .unset] [.int r_6, .int 2, .ref b1, .ref b1])) rfl rfl (hb hby at_30)
  rw [(own_nar16 hr_6)] at W7
  have V7 : Arv Z h7 b1 k1 .char (4 : Int32) [(.int r_2), (.int r_4), (.int r_6), (.int 0)] (.int 0) := Arv.set Ar7 q7 S7 M7 H7 G7 (own_fit16 hr_6) W7 2 rfl (Nat.le_of_ble_eq_true rfl)
  have Nf7 := Fr.snoc X7 Nf6 g_b1
  have K7 : Keep h0 h7 [] := K5.wr W7 (Or.inr sz_b1)
  have Z7 : n0 ≤ h7.size := Nat.le_trans Z5 (Keep.of_wr W7).1
  have hk := Nat.le_trans hk (Keep.of_wr W7).1
  refine own_fw (A' := (T7.setTop (mkF m 35 #[iv p1, iv p2, iv p3, iv p4, iv p5, iv nn, .unset, .unset, .unset, .unset, .unset] [.int p5, .int 3, .ref b1, .ref b1]))) (fun t k => st7 _ (XS.dup X7.here hx rfl (hb hby at_31) rfl rfl (XS.iconst X7.here hx rfl (hb hby at_32) (XS.iload X7.here hx rfl (hb hby at_33) rfl k)))) ?_
  obtain ⟨_, _, ⟨T8, L8, k8, n8⟩, -, X8, ⟨Lc8, hQ8, l8, y8, z8⟩, st8⟩ := Jvm.LawKit.callS X7 hx (y := yq46) hown (mvT hZ (own_w hw 1 rfl)) (mvT hZ (own_w hw 2 rfl)) (mvT hZ (own_w hw 3 rfl)) (mvT hZ (own_w hw 4 rfl)) (by decide) (backOf (W := 3) (rmDraw l Z a0 hw [] p5 h7 n0 Z7 ) hZ (own_w hw 4 rfl) (own_w hw 3 rfl) (by decide) (by decide)) (g := (mkF m 35 #[iv p1, iv p2, iv p3, iv p4, iv p5, iv nn, .unset, .unset, .unset, .unset, .unset] [.int p5, .int 3, .ref b1, .ref b1])) rfl (by rw [hml]; rfl) (argsL := [(.int p5)]) (rest := [(.int 3), (.ref b1), (.ref b1)]) (lenOf pd__I_C rfl) rfl (by show 2 * 0 + _ ≤ _; exact Nat.le_of_eq rfl) (hb hby at_35) (fun _ _ => ⟨rfl, e7, (by decide : 1 + 0 ≤ _), (by decide : 4 + 0 ≤ _)⟩)
  dsimp only [Pt.U, Pt.locs, Pt.cells, Pt.slots] at X8 l8 y8 z8 st8 hQ8
  subst l8 y8 z8
  obtain ⟨r_8, rfl, Nq8, e8, hr_8⟩ := hQ8
  have Nf8 := Fr.app Nf7 Nq8
  refine own_fw (A' := (T8.setTop (mkF m 38 #[iv p1, iv p2, iv p3, iv p4, iv p5, iv nn, .unset, .unset, .unset, .unset, .unset] [.int r_8, .int 3, .ref b1, .ref b1]))) (fun t k => st8 _ k) ?_
  obtain ⟨cl9, Ar9, q9, S9, M9, H9, G9⟩ := id V7
  have hin9 : ¬ ((3 : Int32) < 0 ∨ cl9.slots.size ≤ ((3 : Int32)).toNatClampNeg) := inb_of S9 ⟨by decide, by decide⟩
  obtain ⟨T9, h9, X9, e9, W9, st9⟩ := stC X8 hx hZ e8 Ar9 (j := (3 : Int32)) hin9 (g := (mkF m 38 #[iv p1, iv p2, iv p3, iv p4, iv p5, iv nn, .unset, .unset, .unset, .unset, .unset] [.int r_8, .int 3, .ref b1, .ref b1])) rfl rfl (hb hby at_38)
  rw [(own_nar16 hr_8)] at W9
  have V9 : Arv Z h9 b1 k1 .char (4 : Int32) [(.int r_2), (.int r_4), (.int r_6), (.int r_8)] (.int 0) := Arv.set Ar9 q9 S9 M9 H9 G9 (own_fit16 hr_8) W9 3 rfl (Nat.le_of_ble_eq_true rfl)
  have Nf9 := Fr.snoc X9 Nf8 g_b1
  have K9 : Keep h0 h9 [] := K7.wr W9 (Or.inr sz_b1)
  have Z9 : n0 ≤ h9.size := Nat.le_trans Z7 (Keep.of_wr W9).1
  have hk := Nat.le_trans hk (Keep.of_wr W9).1
  refine own_fw (A' := (T9.setTop (mkF m 46 #[iv p1, iv p2, iv p3, iv p4, iv p5, iv nn, rv b1, .unset, .unset, .unset, .unset] [.int 0, .int nn, .ref b1]))) (fun t k => st9 _ (XS.astore X9.here hx rfl (hb hby at_39) rfl rfl (l' := #[iv p1, iv p2, iv p3, iv p4, iv p5, iv nn, rv b1, .unset, .unset, .unset, .unset]) rfl (XS.aload X9.here hx rfl (hb hby at_41) rfl rfl (XS.iload X9.here hx rfl (hb hby at_43) rfl (XS.iconst X9.here hx rfl (hb hby at_45) k))))) ?_
  obtain ⟨_, _, ⟨T10, L10, k10, n10⟩, -, X10, ⟨Lc10, hQ10, l10, y10, z10⟩, st10⟩ := Jvm.LawKit.callS X9 hx (y := yq50) hown (mvT hZ (own_w hw 8 rfl)) (mvT hZ (own_w hw 9 rfl)) (mvT hZ (own_w hw 3 rfl)) (mvT hZ (own_w hw 10 rfl)) (by decide) (backOf (W := 0) (rmOk0 l Z a0 hw [] b1 k1 nn r_2 r_4 r_6 r_8 h9 n0 Z9 V9) hZ (own_w hw 10 rfl) (own_w hw 3 rfl) (by decide) (by decide)) (g := (mkF m 46 #[iv p1, iv p2, iv p3, iv p4, iv p5, iv nn, rv b1, .unset, .unset, .unset, .unset] [.int 0, .int nn, .ref b1])) rfl (by rw [hml]; rfl) (argsL := [(.ref b1), (.int nn), (.int 0)]) (rest := []) (lenOf pd___CII_Z rfl) rfl (by show 2 * 0 + _ ≤ _; exact Nat.le_of_eq rfl) (hb hby at_46) (fun _ _ => ⟨rfl, e9, (by decide : 1 + 0 ≤ _), (by decide : 4 + 0 ≤ _)⟩)
  dsimp only [Pt.U, Pt.locs, Pt.cells, Pt.slots] at X10 l10 y10 z10 st10 hQ10
  subst l10 y10 z10
  obtain ⟨rfl, Nq10, e10⟩ := hQ10
  have Nf10 := Fr.app Nf9 Nq10
  refine own_fw (A' := (T10.setTop (mkF m 49 #[iv p1, iv p2, iv p3, iv p4, iv p5, iv nn, rv b1, .unset, .unset, .unset, .unset] [.int (own_oka nn (0 : Int32) (1 : Int32) r_2 r_4 (0 : Int32))]))) (fun t k => st10 _ k) ?_
  by_cases hk0 : (own_oka nn (0 : Int32) (1 : Int32) r_2 r_4 (0 : Int32)) = (0 : Int32)
  · refine own_fw (A' := (T10.setTop (mkF m 98 #[iv p1, iv p2, iv p3, iv p4, iv p5, iv nn, rv b1, iv 0, .unset, .unset, .unset] [.int 1]))) (fun t k => XS.ifYes X10.here hx rfl (pc0 := 49) (pc' := 89) rfl (hb hby at_49) rfl (XT.i0_eq_t hk0) (by decide) (by decide) (XS.iconst X10.here hx rfl (hb hby at_89) (XS.istore X10.here hx rfl (hb hby at_90) rfl (l' := #[iv p1, iv p2, iv p3, iv p4, iv p5, iv nn, rv b1, iv 0, .unset, .unset, .unset]) rfl (XS.iload X10.here hx rfl (hb hby at_92) rfl (XS.ifNo X10.here hx rfl (hb hby at_94) rfl (XT.i0_ne_f rfl) (XS.iconst X10.here hx rfl (hb hby at_97) k)))))) ?_
    obtain ⟨fs, hr, hrun, hended, hWE⟩ := X10.leaveW hS (by rw [e10]; exact hk : _ ≤ T10.heap.size) (v := some (.int 1)) (fun h => by rw [Bd.returns] at h; cases h)
    refine ⟨_, _, ?_, hrun, hended, _, _, rfl, ?_, own_widen hWE (by decide) (by decide)⟩
    · exact retOut X10 hx Bd.returns rfl (Or.inl ⟨rfl, by simp, _, rfl⟩) (hb hby at_98) hr
    · show Q_rm0 Z p1 p2 p3 p4 p5 cs sv h0 n0 _ T10.heap _
      rw [e10]
      exact ⟨rfl, Nf10⟩
  · refine own_fw (A' := (T10.setTop (mkF m 57 #[iv p1, iv p2, iv p3, iv p4, iv p5, iv nn, rv b1, .unset, .unset, .unset, .unset] [.int 1, .int nn, .ref b1]))) (fun t k => XS.ifNo X10.here hx rfl (hb hby at_49) rfl (XT.i0_eq_f hk0) (XS.aload X10.here hx rfl (hb hby at_52) rfl rfl (XS.iload X10.here hx rfl (hb hby at_54) rfl (XS.iconst X10.here hx rfl (hb hby at_56) k)))) ?_
    obtain ⟨_, _, ⟨T11, L11, k11, n11⟩, -, X11, ⟨Lc11, hQ11, l11, y11, z11⟩, st11⟩ := Jvm.LawKit.callS X10 hx (y := yq50) hown (mvT hZ (own_w hw 8 rfl)) (mvT hZ (own_w hw 9 rfl)) (mvT hZ (own_w hw 3 rfl)) (mvT hZ (own_w hw 10 rfl)) (by decide) (backOf (W := 0) (rmOk1 l Z a0 hw [] b1 k1 nn r_2 r_4 r_6 r_8 h9 n0 Z9 V9) hZ (own_w hw 10 rfl) (own_w hw 3 rfl) (by decide) (by decide)) (g := (mkF m 57 #[iv p1, iv p2, iv p3, iv p4, iv p5, iv nn, rv b1, .unset, .unset, .unset, .unset] [.int 1, .int nn, .ref b1])) rfl (by rw [hml]; rfl) (argsL := [(.ref b1), (.int nn), (.int 1)]) (rest := []) (lenOf pd___CII_Z rfl) rfl (by show 2 * 0 + _ ≤ _; exact Nat.le_of_eq rfl) (hb hby at_57) (fun _ _ => ⟨rfl, e10, (by decide : 1 + 0 ≤ _), (by decide : 4 + 0 ≤ _)⟩)
    dsimp only [Pt.U, Pt.locs, Pt.cells, Pt.slots] at X11 l11 y11 z11 st11 hQ11
    subst l11 y11 z11
    obtain ⟨rfl, Nq11, e11⟩ := hQ11
    have Nf11 := Fr.app Nf10 Nq11
    refine own_fw (A' := (T11.setTop (mkF m 60 #[iv p1, iv p2, iv p3, iv p4, iv p5, iv nn, rv b1, .unset, .unset, .unset, .unset] [.int (own_oka nn (1 : Int32) (2 : Int32) r_4 r_6 (own_t (own_hi r_2)))]))) (fun t k => st11 _ k) ?_
    by_cases hk1 : (own_oka nn (1 : Int32) (2 : Int32) r_4 r_6 (own_t (own_hi r_2))) = (0 : Int32)
    · refine own_fw (A' := (T11.setTop (mkF m 98 #[iv p1, iv p2, iv p3, iv p4, iv p5, iv nn, rv b1, iv 0, .unset, .unset, .unset] [.int 1]))) (fun t k => XS.ifYes X11.here hx rfl (pc0 := 60) (pc' := 89) rfl (hb hby at_60) rfl (XT.i0_eq_t hk1) (by decide) (by decide) (XS.iconst X11.here hx rfl (hb hby at_89) (XS.istore X11.here hx rfl (hb hby at_90) rfl (l' := #[iv p1, iv p2, iv p3, iv p4, iv p5, iv nn, rv b1, iv 0, .unset, .unset, .unset]) rfl (XS.iload X11.here hx rfl (hb hby at_92) rfl (XS.ifNo X11.here hx rfl (hb hby at_94) rfl (XT.i0_ne_f rfl) (XS.iconst X11.here hx rfl (hb hby at_97) k)))))) ?_
      obtain ⟨fs, hr, hrun, hended, hWE⟩ := X11.leaveW hS (by rw [e11]; exact hk : _ ≤ T11.heap.size) (v := some (.int 1)) (fun h => by rw [Bd.returns] at h; cases h)
      refine ⟨_, _, ?_, hrun, hended, _, _, rfl, ?_, own_widen hWE (by decide) (by decide)⟩
      · exact retOut X11 hx Bd.returns rfl (Or.inl ⟨rfl, by simp, _, rfl⟩) (hb hby at_98) hr
      · show Q_rm0 Z p1 p2 p3 p4 p5 cs sv h0 n0 _ T11.heap _
        rw [e11]
        exact ⟨rfl, Nf11⟩
    · refine own_fw (A' := (T11.setTop (mkF m 68 #[iv p1, iv p2, iv p3, iv p4, iv p5, iv nn, rv b1, .unset, .unset, .unset, .unset] [.int 2, .int nn, .ref b1]))) (fun t k => XS.ifNo X11.here hx rfl (hb hby at_60) rfl (XT.i0_eq_f hk1) (XS.aload X11.here hx rfl (hb hby at_63) rfl rfl (XS.iload X11.here hx rfl (hb hby at_65) rfl (XS.iconst X11.here hx rfl (hb hby at_67) k)))) ?_
      obtain ⟨_, _, ⟨T12, L12, k12, n12⟩, -, X12, ⟨Lc12, hQ12, l12, y12, z12⟩, st12⟩ := Jvm.LawKit.callS X11 hx (y := yq50) hown (mvT hZ (own_w hw 8 rfl)) (mvT hZ (own_w hw 9 rfl)) (mvT hZ (own_w hw 3 rfl)) (mvT hZ (own_w hw 10 rfl)) (by decide) (backOf (W := 0) (rmOk2 l Z a0 hw [] b1 k1 nn r_2 r_4 r_6 r_8 h9 n0 Z9 V9) hZ (own_w hw 10 rfl) (own_w hw 3 rfl) (by decide) (by decide)) (g := (mkF m 68 #[iv p1, iv p2, iv p3, iv p4, iv p5, iv nn, rv b1, .unset, .unset, .unset, .unset] [.int 2, .int nn, .ref b1])) rfl (by rw [hml]; rfl) (argsL := [(.ref b1), (.int nn), (.int 2)]) (rest := []) (lenOf pd___CII_Z rfl) rfl (by show 2 * 0 + _ ≤ _; exact Nat.le_of_eq rfl) (hb hby at_68) (fun _ _ => ⟨rfl, e11, (by decide : 1 + 0 ≤ _), (by decide : 4 + 0 ≤ _)⟩)
      dsimp only [Pt.U, Pt.locs, Pt.cells, Pt.slots] at X12 l12 y12 z12 st12 hQ12
      subst l12 y12 z12
      obtain ⟨rfl, Nq12, e12⟩ := hQ12
      have Nf12 := Fr.app Nf11 Nq12
      refine own_fw (A' := (T12.setTop (mkF m 71 #[iv p1, iv p2, iv p3, iv p4, iv p5, iv nn, rv b1, .unset, .unset, .unset, .unset] [.int (own_oka nn (2 : Int32) (3 : Int32) r_6 r_8 (own_t (own_hi r_4)))]))) (fun t k => st12 _ k) ?_
      by_cases hk2 : (own_oka nn (2 : Int32) (3 : Int32) r_6 r_8 (own_t (own_hi r_4))) = (0 : Int32)
      · refine own_fw (A' := (T12.setTop (mkF m 98 #[iv p1, iv p2, iv p3, iv p4, iv p5, iv nn, rv b1, iv 0, .unset, .unset, .unset] [.int 1]))) (fun t k => XS.ifYes X12.here hx rfl (pc0 := 71) (pc' := 89) rfl (hb hby at_71) rfl (XT.i0_eq_t hk2) (by decide) (by decide) (XS.iconst X12.here hx rfl (hb hby at_89) (XS.istore X12.here hx rfl (hb hby at_90) rfl (l' := #[iv p1, iv p2, iv p3, iv p4, iv p5, iv nn, rv b1, iv 0, .unset, .unset, .unset]) rfl (XS.iload X12.here hx rfl (hb hby at_92) rfl (XS.ifNo X12.here hx rfl (hb hby at_94) rfl (XT.i0_ne_f rfl) (XS.iconst X12.here hx rfl (hb hby at_97) k)))))) ?_
        obtain ⟨fs, hr, hrun, hended, hWE⟩ := X12.leaveW hS (by rw [e12]; exact hk : _ ≤ T12.heap.size) (v := some (.int 1)) (fun h => by rw [Bd.returns] at h; cases h)
        refine ⟨_, _, ?_, hrun, hended, _, _, rfl, ?_, own_widen hWE (by decide) (by decide)⟩
        · exact retOut X12 hx Bd.returns rfl (Or.inl ⟨rfl, by simp, _, rfl⟩) (hb hby at_98) hr
        · show Q_rm0 Z p1 p2 p3 p4 p5 cs sv h0 n0 _ T12.heap _
          rw [e12]
          exact ⟨rfl, Nf12⟩
      · refine own_fw (A' := (T12.setTop (mkF m 79 #[iv p1, iv p2, iv p3, iv p4, iv p5, iv nn, rv b1, .unset, .unset, .unset, .unset] [.int 3, .int nn, .ref b1]))) (fun t k => XS.ifNo X12.here hx rfl (hb hby at_71) rfl (XT.i0_eq_f hk2) (XS.aload X12.here hx rfl (hb hby at_74) rfl rfl (XS.iload X12.here hx rfl (hb hby at_76) rfl (XS.iconst X12.here hx rfl (hb hby at_78) k)))) ?_
        obtain ⟨_, _, ⟨T13, L13, k13, n13⟩, -, X13, ⟨Lc13, hQ13, l13, y13, z13⟩, st13⟩ := Jvm.LawKit.callS X12 hx (y := yq50) hown (mvT hZ (own_w hw 8 rfl)) (mvT hZ (own_w hw 9 rfl)) (mvT hZ (own_w hw 3 rfl)) (mvT hZ (own_w hw 10 rfl)) (by decide) (backOf (W := 0) (rmOk3 l Z a0 hw [] b1 k1 nn r_2 r_4 r_6 r_8 h9 n0 Z9 V9 (own_nle h_nn)) hZ (own_w hw 10 rfl) (own_w hw 3 rfl) (by decide) (by decide)) (g := (mkF m 79 #[iv p1, iv p2, iv p3, iv p4, iv p5, iv nn, rv b1, .unset, .unset, .unset, .unset] [.int 3, .int nn, .ref b1])) rfl (by rw [hml]; rfl) (argsL := [(.ref b1), (.int nn), (.int 3)]) (rest := []) (lenOf pd___CII_Z rfl) rfl (by show 2 * 0 + _ ≤ _; exact Nat.le_of_eq rfl) (hb hby at_79) (fun _ _ => ⟨rfl, e12, (by decide : 1 + 0 ≤ _), (by decide : 4 + 0 ≤ _)⟩)
        dsimp only [Pt.U, Pt.locs, Pt.cells, Pt.slots] at X13 l13 y13 z13 st13 hQ13
        subst l13 y13 z13
        obtain ⟨rfl, Nq13, e13⟩ := hQ13
        have Nf13 := Fr.app Nf12 Nq13
        refine own_fw (A' := (T13.setTop (mkF m 82 #[iv p1, iv p2, iv p3, iv p4, iv p5, iv nn, rv b1, .unset, .unset, .unset, .unset] [.int (own_oka nn (3 : Int32) (4 : Int32) r_8 (0 : Int32) (own_t (own_hi r_6)))]))) (fun t k => st13 _ k) ?_
        by_cases hk3 : (own_oka nn (3 : Int32) (4 : Int32) r_8 (0 : Int32) (own_t (own_hi r_6))) = (0 : Int32)
        · refine own_fw (A' := (T13.setTop (mkF m 98 #[iv p1, iv p2, iv p3, iv p4, iv p5, iv nn, rv b1, iv 0, .unset, .unset, .unset] [.int 1]))) (fun t k => XS.ifYes X13.here hx rfl (pc0 := 82) (pc' := 89) rfl (hb hby at_82) rfl (XT.i0_eq_t hk3) (by decide) (by decide) (XS.iconst X13.here hx rfl (hb hby at_89) (XS.istore X13.here hx rfl (hb hby at_90) rfl (l' := #[iv p1, iv p2, iv p3, iv p4, iv p5, iv nn, rv b1, iv 0, .unset, .unset, .unset]) rfl (XS.iload X13.here hx rfl (hb hby at_92) rfl (XS.ifNo X13.here hx rfl (hb hby at_94) rfl (XT.i0_ne_f rfl) (XS.iconst X13.here hx rfl (hb hby at_97) k)))))) ?_
          obtain ⟨fs, hr, hrun, hended, hWE⟩ := X13.leaveW hS (by rw [e13]; exact hk : _ ≤ T13.heap.size) (v := some (.int 1)) (fun h => by rw [Bd.returns] at h; cases h)
          refine ⟨_, _, ?_, hrun, hended, _, _, rfl, ?_, own_widen hWE (by decide) (by decide)⟩
          · exact retOut X13 hx Bd.returns rfl (Or.inl ⟨rfl, by simp, _, rfl⟩) (hb hby at_98) hr
          · show Q_rm0 Z p1 p2 p3 p4 p5 cs sv h0 n0 _ T13.heap _
            rw [e13]
            exact ⟨rfl, Nf13⟩
        · refine own_fw (A' := (T13.setTop (mkF m 102 #[iv p1, iv p2, iv p3, iv p4, iv p5, iv nn, rv b1, iv 1, .unset, .unset, .unset] [.int 1, .int nn]))) (fun t k => XS.ifNo X13.here hx rfl (hb hby at_82) rfl (XT.i0_eq_f hk3) (XS.iconst X13.here hx rfl (hb hby at_85) (XS.goto X13.here hx rfl (pc0 := 86) (pc' := 90) rfl (hb hby at_86) (by decide) (by decide) (XS.istore X13.here hx rfl (hb hby at_90) rfl (l' := #[iv p1, iv p2, iv p3, iv p4, iv p5, iv nn, rv b1, iv 1, .unset, .unset, .unset]) rfl (XS.iload X13.here hx rfl (hb hby at_92) rfl (XS.ifYes X13.here hx rfl (pc0 := 94) (pc' := 99) rfl (hb hby at_94) rfl (XT.i0_ne_t (by decide)) (by decide) (by decide) (XS.iload X13.here hx rfl (hb hby at_99) rfl (XS.iconst X13.here hx rfl (hb hby at_101) k)))))))) ?_
          by_cases hn1 : nn = (1 : Int32)
          · refine own_fw (A' := (T13.setTop (mkF m 106 #[iv p1, iv p2, iv p3, iv p4, iv p5, iv nn, rv b1, iv 1, .unset, .unset, .unset] [.int 1]))) (fun t k => XS.icmpNo X13.here hx rfl (hb hby at_102) rfl (XT.ii_ne_f hn1) (XS.iconst X13.here hx rfl (hb hby at_105) k)) ?_
            obtain ⟨T14, h14, k14, X14, e14, E14, A14, st14⟩ := newP X13 hx hZ (own_w hw 0 rfl) e13 (g := (mkF m 106 #[iv p1, iv p2, iv p3, iv p4, iv p5, iv nn, rv b1, iv 1, .unset, .unset, .unset] [.int 1])) rfl (hb hby at_106) rfl (by decide) (cap := 1) (by decide) (by decide) (by decide) (by decide)
            obtain ⟨b14, gb14⟩ : ∃ z, z = h9.size := ⟨_, rfl⟩
            have g_b14 : n0 ≤ b14 := Nat.le_trans Z9 (Nat.le_of_eq gb14.symm)
            have sz_b14 : h0.size ≤ b14 := Nat.le_trans K9.1 (Nat.le_of_eq gb14.symm)
            have ne_b1_b14 : b1 ≠ b14 := Nat.ne_of_lt (Nat.lt_of_lt_of_le V9.lt (Nat.le_of_eq gb14.symm))
            rw [← gb14] at A14 st14
            have V_b14 : Arv Z h14 b14 k14 .char (1 : Int32) [(.int 0)] (.int 0) := (Arv.new A14 (by decide)).pad (pad_rep [] (.int 0) 1)
            have K14 : Keep h0 h14 [] := K9.ext E14
            have Z14 : n0 ≤ h14.size := Nat.le_trans Z9 E14.1
            have hk := Nat.le_trans hk E14.1
            refine own_fw (A' := (T14.setTop (mkF m 113 #[iv p1, iv p2, iv p3, iv p4, iv p5, iv nn, rv b1, iv 1, .unset, .unset, .unset] [.int 0, .ref b1, .int 0, .ref b14, .ref b14]))) (fun t k => st14 _ (XS.dup X14.here hx rfl (hb hby at_108) rfl rfl (XS.iconst X14.here hx rfl (hb hby at_109) (XS.aload X14.here hx rfl (hb hby at_110) rfl rfl (XS.iconst X14.here hx rfl (hb hby at_112) k))))) ?_
            obtain ⟨cl15, Ar15, q15, S15, M15, H15, G15⟩ := id (V9.ext E14)
            have hin15 : ¬ ((0 : Int32) < 0 ∨ cl15.slots.size ≤ ((0 : Int32)).toNatClampNeg) := inb_of S15 ⟨by decide, by decide⟩
            have hat15 : cl15.slots[((0 : Int32)).toNatClampNeg]? = some (.int r_2) := H15.at hin15 rfl
            refine own_fw (A' := (T14.setTop (mkF m 114 #[iv p1, iv p2, iv p3, iv p4, iv p5, iv nn, rv b1, iv 1, .unset, .unset, .unset] [.int r_2, .int 0, .ref b14, .ref b14]))) (fun t k => X14.caload hx (j := (0 : Int32)) (v := (.int r_2)) (by rw [e14]; exact Ar15.1) (State.isArrayOf_alike hZ.alike Ar15.2.1) Ar15.2.2 hin15 hat15 (g := (mkF m 113 #[iv p1, iv p2, iv p3, iv p4, iv p5, iv nn, rv b1, iv 1, .unset, .unset, .unset] [.int 0, .ref b1, .int 0, .ref b14, .ref b14])) rfl rfl (hb hby at_113) _ k) ?_
            obtain ⟨cl16, Ar16, q16, S16, M16, H16, G16⟩ := id V_b14
            have hin16 : ¬ ((0 : Int32) < 0 ∨ cl16.slots.size ≤ ((0 : Int32)).toNatClampNeg) := inb_of S16 ⟨by decide, by decide⟩
            obtain ⟨T16, h16, X16, e16, W16, st16⟩ := stC X14 hx hZ e14 Ar16 (j := (0 : Int32)) hin16 (g := (mkF m 114 #[iv p1, iv p2, iv p3, iv p4, iv p5, iv nn, rv b1, iv 1, .unset, .unset, .unset] [.int r_2, .int 0, .ref b14, .ref b14])) rfl rfl (hb hby at_114)
            rw [(own_nar16 hr_2)] at W16
            have V16 : Arv Z h16 b14 k14 .char (1 : Int32) [(.int r_2)] (.int 0) := Arv.set Ar16 q16 S16 M16 H16 G16 (own_fit16 hr_2) W16 0 rfl (Nat.le_of_ble_eq_true rfl)
            have Nf16 := Fr.snoc X16 Nf13 g_b14
            have K16 : Keep h0 h16 [] := K14.wr W16 (Or.inr sz_b14)
            have Z16 : n0 ≤ h16.size := Nat.le_trans Z14 (Keep.of_wr W16).1
            have hk := Nat.le_trans hk (Keep.of_wr W16).1
            refine own_fw (A' := (T16.setTop (mkF m 216 #[iv p1, iv p2, iv p3, iv p4, iv p5, iv nn, rv b1, iv 1, rv b14, .unset, .unset] []))) (fun t k => st16 _ (XS.astore X16.here hx rfl (hb hby at_115) rfl rfl (l' := #[iv p1, iv p2, iv p3, iv p4, iv p5, iv nn, rv b1, iv 1, rv b14, .unset, .unset]) rfl (XS.goto X16.here hx rfl (pc0 := 117) (pc' := 216) rfl (hb hby at_117) (by decide) (by decide) k))) ?_
            have hFn := own_fine1 hr_2
            have hWn := own_w1 hn1 hr_2 hk0
            obtain ⟨T17, h17, X17, e17, E17, A17, D17, -, st17⟩ := newO X16 hx hZ hown (own_w hw 19 rfl) (own_w hw 20 rfl) (own_w hw 21 rfl) e16 (g := (mkF m 216 #[iv p1, iv p2, iv p3, iv p4, iv p5, iv nn, rv b1, iv 1, rv b14, .unset, .unset] [])) rfl (hb hby at_216) (by decide) (by decide)
            obtain ⟨b17, gb17⟩ : ∃ z, z = h16.size := ⟨_, rfl⟩
            have g_b17 : n0 ≤ b17 := Nat.le_trans Z16 (Nat.le_of_eq gb17.symm)
            have sz_b17 : h0.size ≤ b17 := Nat.le_trans K16.1 (Nat.le_of_eq gb17.symm)
            have ne_b1_b17 : b1 ≠ b17 := Nat.ne_of_lt (Nat.lt_of_lt_of_le ((V9.ext E14).other W16 ne_b1_b14).lt (Nat.le_of_eq gb17.symm))
            have ne_b14_b17 : b14 ≠ b17 := Nat.ne_of_lt (Nat.lt_of_lt_of_le V16.lt (Nat.le_of_eq gb17.symm))
            rw [← gb17] at A17 D17 st17
            have F_coder_b17 : Fld Z h17 b17 "java/lang/String" "coder" "B" (.int 0) := D17 (Or.inr (own_w hw 64 rfl)) (ty := .byte) (by decide)
            have F_value_b17 : Fld Z h17 b17 "java/lang/String" "value" "[B" .null := D17 (Or.inr (own_w hw 66 rfl)) (ty := (.array .byte)) (by decide)
            have K17 : Keep h0 h17 [] := K16.ext E17
            have Z17 : n0 ≤ h17.size := Nat.le_trans Z16 E17.1
            have hk := Nat.le_trans hk E17.1
            refine own_fw (A' := (T17.setTop (mkF m 222 #[iv p1, iv p2, iv p3, iv p4, iv p5, iv nn, rv b1, iv 1, rv b14, .unset, .unset] [.ref b14, .ref b17, .ref b17]))) (fun t k => st17 _ (XS.dup X17.here hx rfl (hb hby at_219) rfl rfl (XS.aload X17.here hx rfl (hb hby at_220) rfl rfl k))) ?_
            by_cases hbg : (255 : Int32) < r_2
            · obtain ⟨_, _, ⟨T18, L18, k18, n18⟩, -, X18, ⟨Lc18, hQ18, l18, y18, z18⟩, st18⟩ := X17.specialBack hx (y := yq9) rfl hown (mvT hZ (own_w hw 22 rfl)) (mvT hZ (own_w hw 23 rfl)) (mvT hZ (own_w hw 24 rfl)) (by decide) (backOf (W := 1) (rmStrA1U l Z a0 hw [] b17 b14 k14 cs r_2 h17 n0 Z17 A17 F_coder_b17 F_value_b17 (V16.ext E17) g_b17 (Ne.symm ne_b14_b17) ((((((((P0.ext E1).wr W3).wr W5).wr W7).wr W9).ext E14).wr W16).ext E17) hcs ((((((((P2.ext E1).wr W3).wr W5).wr W7).wr W9).ext E14).wr W16).ext E17) ((((((((P3.ext E1).wr W3).wr W5).wr W7).wr W9).ext E14).wr W16).ext E17) ((((((((P4.ext E1).wr W3).wr W5).wr W7).wr W9).ext E14).wr W16).ext E17) hbg hr_2) hZ (own_w hw 24 rfl) (own_w hw 21 rfl) (by decide) (by decide)) (g := (mkF m 222 #[iv p1, iv p2, iv p3, iv p4, iv p5, iv nn, rv b1, iv 1, rv b14, .unset, .unset] [.ref b14, .ref b17, .ref b17])) rfl (by rw [hml]; rfl) (Steps.refl _) (a := b17) (argsL := [(.ref b14)]) (rest := [(.ref b17)]) (lenOf pd___C_V rfl) rfl (by show 2 * 0 + _ ≤ _; exact Nat.le_of_eq rfl) (hb hby at_222) (fun _ _ => ⟨rfl, e17, (by decide : 3 + 2 ≤ _), (by decide : 9 + 3 ≤ _)⟩)
              dsimp only [Pt.U, Pt.locs, Pt.cells, Pt.slots] at X18 l18 y18 z18 st18 hQ18
              subst l18 y18 z18
              obtain ⟨b_18, kb_18, rfl, Nq18, Kq18, Fq18_0, Fq18_1, Fq18_2, Fq18_3⟩ := hQ18
              have Nf18 := Fr.app Nf16 Nq18
              have hk := Nat.le_trans hk Kq18.1
              have K18 : Keep h0 T18.heap [] := K17.trans Kq18 (allS (Or.inr sz_b17) all0)
              have Z18 : n0 ≤ T18.heap.size := Nat.le_trans Z17 Kq18.1
              refine own_fw (A' := (T18.setTop (mkF m 229 #[iv p1, iv p2, iv p3, iv p4, iv p5, iv nn, rv b1, iv 1, rv b14, rv b17, .unset] [.ref b17]))) (fun t k => st18.trans (XS.astore X18.here hx rfl (hb hby at_225) rfl rfl (l' := #[iv p1, iv p2, iv p3, iv p4, iv p5, iv nn, rv b1, iv 1, rv b14, rv b17, .unset]) rfl (XS.aload X18.here hx rfl (hb hby at_227) rfl rfl k))) ?_
              obtain ⟨_, _, ⟨T19, L19, k19, n19⟩, -, X19, hS19, gS19, ⟨Lc19, hQ19, l19, y19, z19⟩, st19⟩ := callSS X18 hx (y := yq77) hown (mvT hZ (own_w hw 67 rfl)) (mvT hZ (own_w hw 68 rfl)) (mvT hZ (own_w hw 69 rfl)) (mvT hZ (own_w hw 70 rfl)) (by decide) (backOfS (W := 0) (rmOfU l Z a0 hw [] b17 b_18 kb_18 cs ([r_2]) sv T18.heap n0 Z18 Fq18_0 Fq18_1 Fq18_2 Fq18_3 (own_staKeep ((((((((P0.ext E1).wr W3).wr W5).wr W7).wr W9).ext E14).wr W16).ext E17) Kq18 (allS (own_plainE A17) all0)) hcs (own_staKeep ((((((((P5.ext E1).wr W3).wr W5).wr W7).wr W9).ext E14).wr W16).ext E17) Kq18 (allS (own_plainE A17) all0)) hsv hFn (own_staKeep ((((((((P2.ext E1).wr W3).wr W5).wr W7).wr W9).ext E14).wr W16).ext E17) Kq18 (allS (own_plainE A17) all0)) (own_staKeep ((((((((P3.ext E1).wr W3).wr W5).wr W7).wr W9).ext E14).wr W16).ext E17) Kq18 (allS (own_plainE A17) all0)) (own_staKeep ((((((((P4.ext E1).wr W3).wr W5).wr W7).wr W9).ext E14).wr W16).ext E17) Kq18 (allS (own_plainE A17) all0)) (own_wf0 hFn hWn)) hZ (own_w hw 70 rfl) (own_w hw 69 rfl) (by decide) (by decide)) (g := (mkF m 229 #[iv p1, iv p2, iv p3, iv p4, iv p5, iv nn, rv b1, iv 1, rv b14, rv b17, .unset] [.ref b17])) rfl (by rw [hml]; rfl) (argsL := [(.ref b17)]) (rest := []) (lenOf pd__Ljava_lang_String__Lcom_example_guarded_once_guardedonce_guard_MessageKey_ rfl) rfl (by show 2 * 0 + _ ≤ _; exact Nat.le_of_eq rfl) (hb hby at_229) (fun _ _ => ⟨rfl, rfl, (by decide : 5 + 3 ≤ _), (by decide : 12 + 25 ≤ _)⟩)
              dsimp only [Pt.U, Pt.locs, Pt.cells, Pt.slots] at X19 l19 y19 z19 st19 hQ19 hS19 gS19
              subst l19 y19 z19
              obtain ⟨X19, hS, hZ', hown⟩ := rebS hS hk X19 hS19 gS19 hZ hown
              have hk : T19.heap.size ≤ T19.heap.size := Nat.le_refl _
              have hZ := hZ'
              obtain ⟨b_19, rfl, Nq19, Kq19, Fq19_0, Fq19_1, Fq19_2, gb_19⟩ := hQ19
              have Nf19 := Fr.app Nf18 Nq19
              have K19 : Keep h0 T19.heap [] := K18.trans Kq19 all0
              have sz_b_19 : h0.size ≤ b_19 := Nat.le_trans K18.1 gb_19
              have g_b_19 : n0 ≤ b_19 := Nat.le_trans Z18 gb_19
              have ne_b1_b_19 : b1 ≠ b_19 := Nat.ne_of_lt (Nat.lt_of_lt_of_le ((((V9.ext E14).other W16 ne_b1_b14).ext E17).keep Kq18 (ninS ne_b1_b17 nin0)).lt gb_19)
              have ne_b14_b_19 : b14 ≠ b_19 := Nat.ne_of_lt (Nat.lt_of_lt_of_le ((V16.ext E17).keep Kq18 (ninS ne_b14_b17 nin0)).lt gb_19)
              have ne_b17_b_19 : b17 ≠ b_19 := Nat.ne_of_lt (Nat.lt_of_lt_of_le Fq18_0.lt gb_19)
              have ne_b_18_b_19 : b_18 ≠ b_19 := Nat.ne_of_lt (Nat.lt_of_lt_of_le Fq18_3.lt gb_19)
              have Z19 : n0 ≤ T19.heap.size := Nat.le_trans Z18 Kq19.1
              refine own_fw (A' := (T19.setTop (mkF m 236 #[iv p1, iv p2, iv p3, iv p4, iv p5, iv nn, rv b1, iv 1, rv b14, rv b17, rv b_19] [.ref b_19]))) (fun t k => st19.trans (XS.astore X19.here hx rfl (hb hby at_232) rfl rfl (l' := #[iv p1, iv p2, iv p3, iv p4, iv p5, iv nn, rv b1, iv 1, rv b14, rv b17, rv b_19]) rfl (XS.aload X19.here hx rfl (hb hby at_234) rfl rfl k))) ?_
              obtain ⟨cq20, kq20, qa20, qb20, qc20⟩ := isOf hZ rfl Fq19_0
              obtain ⟨_, _, ⟨T20, L20, k20, n20⟩, -, X20, ⟨Lc20, hQ20, l20, y20, z20⟩, st20⟩ := X19.virtualBack hx (y := yq74) (z := yq74) hown (mvT hZ (own_w hw 148 rfl)) (mvT hZ (own_w hw 149 rfl)) (notFace_of_selects (args := #[]) (mvT hZ (own_w hw 151 rfl))) (mvT hZ (own_w hw 151 rfl)) (mvT hZ (own_w hw 150 rfl)) (by decide) (backOf (W := 0) (rmVal l Z a0 hw [] b_19 b17 T19.heap n0 Z19 Fq19_1) hZ (own_w hw 152 rfl) (own_w hw 69 rfl) (by decide) (by decide)) qa20 qc20 (g := (mkF m 236 #[iv p1, iv p2, iv p3, iv p4, iv p5, iv nn, rv b1, iv 1, rv b14, rv b17, rv b_19] [.ref b_19])) rfl (by rw [hml]; rfl) (Steps.refl _) (argsL := []) (rest := []) (lenOf pd___Ljava_lang_String_ rfl) rfl (by show 2 * 0 + _ ≤ _; exact Nat.le_of_eq rfl) (hb hby at_236) (fun _ _ => ⟨rfl, rfl, (by decide : 8 + 0 ≤ _), (by decide : 37 + 0 ≤ _)⟩)
              dsimp only [Pt.U, Pt.locs, Pt.cells, Pt.slots] at X20 l20 y20 z20 st20 hQ20
              subst l20 y20 z20
              obtain ⟨rfl, Nq20, e20⟩ := hQ20
              have Nf20 := Fr.app Nf19 Nq20
              refine own_fw (A' := (T20.setTop (mkF m 241 #[iv p1, iv p2, iv p3, iv p4, iv p5, iv nn, rv b1, iv 1, rv b14, rv b17, rv b_19] [.ref b17, .ref b17]))) (fun t k => st20.trans (XS.aload X20.here hx rfl (hb hby at_239) rfl rfl k)) ?_
              obtain ⟨cq21, kq21, qa21, qb21, qc21⟩ := isOf hZ e20 Fq19_2
              obtain ⟨_, _, ⟨T21, L21, k21, n21⟩, -, X21, ⟨Lc21, hQ21, l21, y21, z21⟩, st21⟩ := X20.virtualBack hx (y := yq75) (z := yq75) hown (mvT hZ (own_w hw 153 rfl)) (mvT hZ (own_w hw 154 rfl)) (notFace_of_selects (args := #[]) (mvT hZ (own_w hw 156 rfl))) (mvT hZ (own_w hw 156 rfl)) (mvT hZ (own_w hw 155 rfl)) (by decide) (backOf (W := 0) (rmEq l Z a0 hw [] b17 T19.heap n0 Z19 ) hZ (own_w hw 157 rfl) (own_w hw 21 rfl) (by decide) (by decide)) qa21 qc21 (g := (mkF m 241 #[iv p1, iv p2, iv p3, iv p4, iv p5, iv nn, rv b1, iv 1, rv b14, rv b17, rv b_19] [.ref b17, .ref b17])) rfl (by rw [hml]; rfl) (Steps.refl _) (argsL := [(.ref b17)]) (rest := []) (lenOf pd__Ljava_lang_Object__Z rfl) rfl (by show 2 * 0 + _ ≤ _; exact Nat.le_of_eq rfl) (hb hby at_241) (fun _ _ => ⟨rfl, e20, (by decide : 8 + 0 ≤ _), (by decide : 37 + 0 ≤ _)⟩)
              dsimp only [Pt.U, Pt.locs, Pt.cells, Pt.slots] at X21 l21 y21 z21 st21 hQ21
              subst l21 y21 z21
              obtain ⟨rfl, Nq21, e21⟩ := hQ21
              have Nf21 := Fr.app Nf20 Nq21
              refine own_fw (A' := (T21.setTop (mkF m 244 #[iv p1, iv p2, iv p3, iv p4, iv p5, iv nn, rv b1, iv 1, rv b14, rv b17, rv b_19] [.int 1]))) (fun t k => st21.trans k) ?_
              obtain ⟨fs, hr, hrun, hended, hWE⟩ := X21.leaveW hS (by rw [e21]; exact hk : _ ≤ T21.heap.size) (v := some (.int 1)) (fun h => by rw [Bd.returns] at h; cases h)
              refine ⟨_, _, ?_, hrun, hended, _, _, rfl, ?_, own_widen hWE (by decide) (by decide)⟩
              · exact retOut X21 hx Bd.returns rfl (Or.inl ⟨rfl, by simp, _, rfl⟩) (hb hby at_244) hr
              · show Q_rm0 Z p1 p2 p3 p4 p5 cs sv h0 n0 _ T21.heap _
                rw [e21]
                exact ⟨rfl, Nf21⟩
            · obtain ⟨_, _, ⟨T22, L22, k22, n22⟩, -, X22, ⟨Lc22, hQ22, l22, y22, z22⟩, st22⟩ := X17.specialBack hx (y := yq9) rfl hown (mvT hZ (own_w hw 22 rfl)) (mvT hZ (own_w hw 23 rfl)) (mvT hZ (own_w hw 24 rfl)) (by decide) (backOf (W := 1) (rmStrA1 l Z a0 hw [] b17 b14 k14 cs r_2 h17 n0 Z17 A17 F_coder_b17 F_value_b17 (V16.ext E17) g_b17 (Ne.symm ne_b14_b17) ((((((((P0.ext E1).wr W3).wr W5).wr W7).wr W9).ext E14).wr W16).ext E17) hcs (fun q => hbg q)) hZ (own_w hw 24 rfl) (own_w hw 21 rfl) (by decide) (by decide)) (g := (mkF m 222 #[iv p1, iv p2, iv p3, iv p4, iv p5, iv nn, rv b1, iv 1, rv b14, .unset, .unset] [.ref b14, .ref b17, .ref b17])) rfl (by rw [hml]; rfl) (Steps.refl _) (a := b17) (argsL := [(.ref b14)]) (rest := [(.ref b17)]) (lenOf pd___C_V rfl) rfl (by show 2 * 0 + _ ≤ _; exact Nat.le_of_eq rfl) (hb hby at_222) (fun _ _ => ⟨rfl, e17, (by decide : 3 + 1 ≤ _), (by decide : 9 + 1 ≤ _)⟩)
              dsimp only [Pt.U, Pt.locs, Pt.cells, Pt.slots] at X22 l22 y22 z22 st22 hQ22
              subst l22 y22 z22
              obtain ⟨b_22, kb_22, rfl, Nq22, Kq22, Fq22_0, Fq22_1, Fq22_2, Fq22_3⟩ := hQ22
              have Nf22 := Fr.app Nf16 Nq22
              have hk := Nat.le_trans hk Kq22.1
              have K22 : Keep h0 T22.heap [] := K17.trans Kq22 (allS (Or.inr sz_b17) all0)
              have Z22 : n0 ≤ T22.heap.size := Nat.le_trans Z17 Kq22.1
              refine own_fw (A' := (T22.setTop (mkF m 229 #[iv p1, iv p2, iv p3, iv p4, iv p5, iv nn, rv b1, iv 1, rv b14, rv b17, .unset] [.ref b17]))) (fun t k => st22.trans (XS.astore X22.here hx rfl (hb hby at_225) rfl rfl (l' := #[iv p1, iv p2, iv p3, iv p4, iv p5, iv nn, rv b1, iv 1, rv b14, rv b17, .unset]) rfl (XS.aload X22.here hx rfl (hb hby at_227) rfl rfl k))) ?_
              obtain ⟨_, _, ⟨T23, L23, k23, n23⟩, -, X23, hS23, gS23, ⟨Lc23, hQ23, l23, y23, z23⟩, st23⟩ := callSS X22 hx (y := yq77) hown (mvT hZ (own_w hw 67 rfl)) (mvT hZ (own_w hw 68 rfl)) (mvT hZ (own_w hw 69 rfl)) (mvT hZ (own_w hw 70 rfl)) (by decide) (backOfS (W := 0) (rmOfL l Z a0 hw [] b17 b_22 kb_22 cs ([r_2]) sv T22.heap n0 Z22 Fq22_0 Fq22_1 Fq22_2 Fq22_3 (own_staKeep ((((((((P0.ext E1).wr W3).wr W5).wr W7).wr W9).ext E14).wr W16).ext E17) Kq22 (allS (own_plainE A17) all0)) hcs (own_staKeep ((((((((P5.ext E1).wr W3).wr W5).wr W7).wr W9).ext E14).wr W16).ext E17) Kq22 (allS (own_plainE A17) all0)) hsv hFn (own_ltW hWn (own_b1 hbg))) hZ (own_w hw 70 rfl) (own_w hw 69 rfl) (by decide) (by decide)) (g := (mkF m 229 #[iv p1, iv p2, iv p3, iv p4, iv p5, iv nn, rv b1, iv 1, rv b14, rv b17, .unset] [.ref b17])) rfl (by rw [hml]; rfl) (argsL := [(.ref b17)]) (rest := []) (lenOf pd__Ljava_lang_String__Lcom_example_guarded_once_guardedonce_guard_MessageKey_ rfl) rfl (by show 2 * 0 + _ ≤ _; exact Nat.le_of_eq rfl) (hb hby at_229) (fun _ _ => ⟨rfl, rfl, (by decide : 4 + 3 ≤ _), (by decide : 10 + 25 ≤ _)⟩)
              dsimp only [Pt.U, Pt.locs, Pt.cells, Pt.slots] at X23 l23 y23 z23 st23 hQ23 hS23 gS23
              subst l23 y23 z23
              obtain ⟨X23, hS, hZ', hown⟩ := rebS hS hk X23 hS23 gS23 hZ hown
              have hk : T23.heap.size ≤ T23.heap.size := Nat.le_refl _
              have hZ := hZ'
              obtain ⟨b_23, rfl, Nq23, Kq23, Fq23_0, Fq23_1, Fq23_2, gb_23⟩ := hQ23
              have Nf23 := Fr.app Nf22 Nq23
              have K23 : Keep h0 T23.heap [] := K22.trans Kq23 all0
              have sz_b_23 : h0.size ≤ b_23 := Nat.le_trans K22.1 gb_23
              have g_b_23 : n0 ≤ b_23 := Nat.le_trans Z22 gb_23
              have ne_b1_b_23 : b1 ≠ b_23 := Nat.ne_of_lt (Nat.lt_of_lt_of_le ((((V9.ext E14).other W16 ne_b1_b14).ext E17).keep Kq22 (ninS ne_b1_b17 nin0)).lt gb_23)
              have ne_b14_b_23 : b14 ≠ b_23 := Nat.ne_of_lt (Nat.lt_of_lt_of_le ((V16.ext E17).keep Kq22 (ninS ne_b14_b17 nin0)).lt gb_23)
              have ne_b17_b_23 : b17 ≠ b_23 := Nat.ne_of_lt (Nat.lt_of_lt_of_le Fq22_0.lt gb_23)
              have ne_b_22_b_23 : b_22 ≠ b_23 := Nat.ne_of_lt (Nat.lt_of_lt_of_le Fq22_3.lt gb_23)
              have Z23 : n0 ≤ T23.heap.size := Nat.le_trans Z22 Kq23.1
              refine own_fw (A' := (T23.setTop (mkF m 236 #[iv p1, iv p2, iv p3, iv p4, iv p5, iv nn, rv b1, iv 1, rv b14, rv b17, rv b_23] [.ref b_23]))) (fun t k => st23.trans (XS.astore X23.here hx rfl (hb hby at_232) rfl rfl (l' := #[iv p1, iv p2, iv p3, iv p4, iv p5, iv nn, rv b1, iv 1, rv b14, rv b17, rv b_23]) rfl (XS.aload X23.here hx rfl (hb hby at_234) rfl rfl k))) ?_
              obtain ⟨cq24, kq24, qa24, qb24, qc24⟩ := isOf hZ rfl Fq23_0
              obtain ⟨_, _, ⟨T24, L24, k24, n24⟩, -, X24, ⟨Lc24, hQ24, l24, y24, z24⟩, st24⟩ := X23.virtualBack hx (y := yq74) (z := yq74) hown (mvT hZ (own_w hw 148 rfl)) (mvT hZ (own_w hw 149 rfl)) (notFace_of_selects (args := #[]) (mvT hZ (own_w hw 151 rfl))) (mvT hZ (own_w hw 151 rfl)) (mvT hZ (own_w hw 150 rfl)) (by decide) (backOf (W := 0) (rmVal l Z a0 hw [] b_23 b17 T23.heap n0 Z23 Fq23_1) hZ (own_w hw 152 rfl) (own_w hw 69 rfl) (by decide) (by decide)) qa24 qc24 (g := (mkF m 236 #[iv p1, iv p2, iv p3, iv p4, iv p5, iv nn, rv b1, iv 1, rv b14, rv b17, rv b_23] [.ref b_23])) rfl (by rw [hml]; rfl) (Steps.refl _) (argsL := []) (rest := []) (lenOf pd___Ljava_lang_String_ rfl) rfl (by show 2 * 0 + _ ≤ _; exact Nat.le_of_eq rfl) (hb hby at_236) (fun _ _ => ⟨rfl, rfl, (by decide : 7 + 0 ≤ _), (by decide : 35 + 0 ≤ _)⟩)
              dsimp only [Pt.U, Pt.locs, Pt.cells, Pt.slots] at X24 l24 y24 z24 st24 hQ24
              subst l24 y24 z24
              obtain ⟨rfl, Nq24, e24⟩ := hQ24
              have Nf24 := Fr.app Nf23 Nq24
              refine own_fw (A' := (T24.setTop (mkF m 241 #[iv p1, iv p2, iv p3, iv p4, iv p5, iv nn, rv b1, iv 1, rv b14, rv b17, rv b_23] [.ref b17, .ref b17]))) (fun t k => st24.trans (XS.aload X24.here hx rfl (hb hby at_239) rfl rfl k)) ?_
              obtain ⟨cq25, kq25, qa25, qb25, qc25⟩ := isOf hZ e24 Fq23_2
              obtain ⟨_, _, ⟨T25, L25, k25, n25⟩, -, X25, ⟨Lc25, hQ25, l25, y25, z25⟩, st25⟩ := X24.virtualBack hx (y := yq75) (z := yq75) hown (mvT hZ (own_w hw 153 rfl)) (mvT hZ (own_w hw 154 rfl)) (notFace_of_selects (args := #[]) (mvT hZ (own_w hw 156 rfl))) (mvT hZ (own_w hw 156 rfl)) (mvT hZ (own_w hw 155 rfl)) (by decide) (backOf (W := 0) (rmEq l Z a0 hw [] b17 T23.heap n0 Z23 ) hZ (own_w hw 157 rfl) (own_w hw 21 rfl) (by decide) (by decide)) qa25 qc25 (g := (mkF m 241 #[iv p1, iv p2, iv p3, iv p4, iv p5, iv nn, rv b1, iv 1, rv b14, rv b17, rv b_23] [.ref b17, .ref b17])) rfl (by rw [hml]; rfl) (Steps.refl _) (argsL := [(.ref b17)]) (rest := []) (lenOf pd__Ljava_lang_Object__Z rfl) rfl (by show 2 * 0 + _ ≤ _; exact Nat.le_of_eq rfl) (hb hby at_241) (fun _ _ => ⟨rfl, e24, (by decide : 7 + 0 ≤ _), (by decide : 35 + 0 ≤ _)⟩)
              dsimp only [Pt.U, Pt.locs, Pt.cells, Pt.slots] at X25 l25 y25 z25 st25 hQ25
              subst l25 y25 z25
              obtain ⟨rfl, Nq25, e25⟩ := hQ25
              have Nf25 := Fr.app Nf24 Nq25
              refine own_fw (A' := (T25.setTop (mkF m 244 #[iv p1, iv p2, iv p3, iv p4, iv p5, iv nn, rv b1, iv 1, rv b14, rv b17, rv b_23] [.int 1]))) (fun t k => st25.trans k) ?_
              obtain ⟨fs, hr, hrun, hended, hWE⟩ := X25.leaveW hS (by rw [e25]; exact hk : _ ≤ T25.heap.size) (v := some (.int 1)) (fun h => by rw [Bd.returns] at h; cases h)
              refine ⟨_, _, ?_, hrun, hended, _, _, rfl, ?_, own_widen hWE (by decide) (by decide)⟩
              · exact retOut X25 hx Bd.returns rfl (Or.inl ⟨rfl, by simp, _, rfl⟩) (hb hby at_244) hr
              · show Q_rm0 Z p1 p2 p3 p4 p5 cs sv h0 n0 _ T25.heap _
                rw [e25]
                exact ⟨rfl, Nf25⟩
          · refine own_fw (A' := (T13.setTop (mkF m 123 #[iv p1, iv p2, iv p3, iv p4, iv p5, iv nn, rv b1, iv 1, .unset, .unset, .unset] [.int 2, .int nn]))) (fun t k => XS.icmpYes X13.here hx rfl (pc0 := 102) (pc' := 120) rfl (hb hby at_102) rfl (XT.ii_ne_t hn1) (by decide) (by decide) (XS.iload X13.here hx rfl (hb hby at_120) rfl (XS.iconst X13.here hx rfl (hb hby at_122) k))) ?_
            by_cases hn2 : nn = (2 : Int32)
            · refine own_fw (A' := (T13.setTop (mkF m 127 #[iv p1, iv p2, iv p3, iv p4, iv p5, iv nn, rv b1, iv 1, .unset, .unset, .unset] [.int 2]))) (fun t k => XS.icmpNo X13.here hx rfl (hb hby at_123) rfl (XT.ii_ne_f hn2) (XS.iconst X13.here hx rfl (hb hby at_126) k)) ?_
              obtain ⟨T26, h26, k26, X26, e26, E26, A26, st26⟩ := newP X13 hx hZ (own_w hw 0 rfl) e13 (g := (mkF m 127 #[iv p1, iv p2, iv p3, iv p4, iv p5, iv nn, rv b1, iv 1, .unset, .unset, .unset] [.int 2])) rfl (hb hby at_127) rfl (by decide) (cap := 2) (by decide) (by decide) (by decide) (by decide)
              obtain ⟨b26, gb26⟩ : ∃ z, z = h9.size := ⟨_, rfl⟩
              have g_b26 : n0 ≤ b26 := Nat.le_trans Z9 (Nat.le_of_eq gb26.symm)
              have sz_b26 : h0.size ≤ b26 := Nat.le_trans K9.1 (Nat.le_of_eq gb26.symm)
              have ne_b1_b26 : b1 ≠ b26 := Nat.ne_of_lt (Nat.lt_of_lt_of_le V9.lt (Nat.le_of_eq gb26.symm))
              rw [← gb26] at A26 st26
              have V_b26 : Arv Z h26 b26 k26 .char (2 : Int32) [(.int 0), (.int 0)] (.int 0) := (Arv.new A26 (by decide)).pad (pad_rep [] (.int 0) 2)
              have K26 : Keep h0 h26 [] := K9.ext E26
              have Z26 : n0 ≤ h26.size := Nat.le_trans Z9 E26.1
              have hk := Nat.le_trans hk E26.1
              refine own_fw (A' := (T26.setTop (mkF m 134 #[iv p1, iv p2, iv p3, iv p4, iv p5, iv nn, rv b1, iv 1, .unset, .unset, .unset] [.int 0, .ref b1, .int 0, .ref b26, .ref b26]))) (fun t k => st26 _ (XS.dup X26.here hx rfl (hb hby at_129) rfl rfl (XS.iconst X26.here hx rfl (hb hby at_130) (XS.aload X26.here hx rfl (hb hby at_131) rfl rfl (XS.iconst X26.here hx rfl (hb hby at_133) k))))) ?_
              obtain ⟨cl27, Ar27, q27, S27, M27, H27, G27⟩ := id (V9.ext E26)
              have hin27 : ¬ ((0 : Int32) < 0 ∨ cl27.slots.size ≤ ((0 : Int32)).toNatClampNeg) := inb_of S27 ⟨by decide, by decide⟩
              have hat27 : cl27.slots[((0 : Int32)).toNatClampNeg]? = some (.int r_2) := H27.at hin27 rfl
              refine own_fw (A' := (T26.setTop (mkF m 135 #[iv p1, iv p2, iv p3, iv p4, iv p5, iv nn, rv b1, iv 1, .unset, .unset, .unset] [.int r_2, .int 0, .ref b26, .ref b26]))) (fun t k => X26.caload hx (j := (0 : Int32)) (v := (.int r_2)) (by rw [e26]; exact Ar27.1) (State.isArrayOf_alike hZ.alike Ar27.2.1) Ar27.2.2 hin27 hat27 (g := (mkF m 134 #[iv p1, iv p2, iv p3, iv p4, iv p5, iv nn, rv b1, iv 1, .unset, .unset, .unset] [.int 0, .ref b1, .int 0, .ref b26, .ref b26])) rfl rfl (hb hby at_134) _ k) ?_
              obtain ⟨cl28, Ar28, q28, S28, M28, H28, G28⟩ := id V_b26
              have hin28 : ¬ ((0 : Int32) < 0 ∨ cl28.slots.size ≤ ((0 : Int32)).toNatClampNeg) := inb_of S28 ⟨by decide, by decide⟩
              obtain ⟨T28, h28, X28, e28, W28, st28⟩ := stC X26 hx hZ e26 Ar28 (j := (0 : Int32)) hin28 (g := (mkF m 135 #[iv p1, iv p2, iv p3, iv p4, iv p5, iv nn, rv b1, iv 1, .unset, .unset, .unset] [.int r_2, .int 0, .ref b26, .ref b26])) rfl rfl (hb hby at_135)
              rw [(own_nar16 hr_2)] at W28
              have V28 : Arv Z h28 b26 k26 .char (2 : Int32) [(.int r_2), (.int 0)] (.int 0) := Arv.set Ar28 q28 S28 M28 H28 G28 (own_fit16 hr_2) W28 0 rfl (Nat.le_of_ble_eq_true rfl)
              have Nf28 := Fr.snoc X28 Nf13 g_b26
              have K28 : Keep h0 h28 [] := K26.wr W28 (Or.inr sz_b26)
              have Z28 : n0 ≤ h28.size := Nat.le_trans Z26 (Keep.of_wr W28).1
              have hk := Nat.le_trans hk (Keep.of_wr W28).1
              refine own_fw (A' := (T28.setTop (mkF m 141 #[iv p1, iv p2, iv p3, iv p4, iv p5, iv nn, rv b1, iv 1, .unset, .unset, .unset] [.int 1, .ref b1, .int 1, .ref b26, .ref b26]))) (fun t k => st28 _ (XS.dup X28.here hx rfl (hb hby at_136) rfl rfl (XS.iconst X28.here hx rfl (hb hby at_137) (XS.aload X28.here hx rfl (hb hby at_138) rfl rfl (XS.iconst X28.here hx rfl (hb hby at_140) k))))) ?_
              obtain ⟨cl29, Ar29, q29, S29, M29, H29, G29⟩ := id ((V9.ext E26).other W28 ne_b1_b26)
              have hin29 : ¬ ((1 : Int32) < 0 ∨ cl29.slots.size ≤ ((1 : Int32)).toNatClampNeg) := inb_of S29 ⟨by decide, by decide⟩
              have hat29 : cl29.slots[((1 : Int32)).toNatClampNeg]? = some (.int r_4) := H29.at hin29 rfl
              refine own_fw (A' := (T28.setTop (mkF m 142 #[iv p1, iv p2, iv p3, iv p4, iv p5, iv nn, rv b1, iv 1, .unset, .unset, .unset] [.int r_4, .int 1, .ref b26, .ref b26]))) (fun t k => X28.caload hx (j := (1 : Int32)) (v := (.int r_4)) (by rw [e28]; exact Ar29.1) (State.isArrayOf_alike hZ.alike Ar29.2.1) Ar29.2.2 hin29 hat29 (g := (mkF m 141 #[iv p1, iv p2, iv p3, iv p4, iv p5, iv nn, rv b1, iv 1, .unset, .unset, .unset] [.int 1, .ref b1, .int 1, .ref b26, .ref b26])) rfl rfl (hb hby at_141) _ k) ?_
              obtain ⟨cl30, Ar30, q30, S30, M30, H30, G30⟩ := id V28
              have hin30 : ¬ ((1 : Int32) < 0 ∨ cl30.slots.size ≤ ((1 : Int32)).toNatClampNeg) := inb_of S30 ⟨by decide, by decide⟩
              obtain ⟨T30, h30, X30, e30, W30, st30⟩ := stC X28 hx hZ e28 Ar30 (j := (1 : Int32)) hin30 (g := (mkF m 142 #[iv p1, iv p2, iv p3, iv p4, iv p5, iv nn, rv b1, iv 1, .unset, .unset, .unset] [.int r_4, .int 1, .ref b26, .ref b26])) rfl rfl (hb hby at_142)
              rw [(own_nar16 hr_4)] at W30
              have V30 : Arv Z h30 b26 k26 .char (2 : Int32) [(.int r_2), (.int r_4)] (.int 0) := Arv.set Ar30 q30 S30 M30 H30 G30 (own_fit16 hr_4) W30 1 rfl (Nat.le_of_ble_eq_true rfl)
              have Nf30 := Fr.snoc X30 Nf28 g_b26
              have K30 : Keep h0 h30 [] := K28.wr W30 (Or.inr sz_b26)
              have Z30 : n0 ≤ h30.size := Nat.le_trans Z28 (Keep.of_wr W30).1
              have hk := Nat.le_trans hk (Keep.of_wr W30).1
              refine own_fw (A' := (T30.setTop (mkF m 216 #[iv p1, iv p2, iv p3, iv p4, iv p5, iv nn, rv b1, iv 1, rv b26, .unset, .unset] []))) (fun t k => st30 _ (XS.astore X30.here hx rfl (hb hby at_143) rfl rfl (l' := #[iv p1, iv p2, iv p3, iv p4, iv p5, iv nn, rv b1, iv 1, rv b26, .unset, .unset]) rfl (XS.goto X30.here hx rfl (pc0 := 145) (pc' := 216) rfl (hb hby at_145) (by decide) (by decide) k))) ?_
              have hFn := own_fine2 hr_2 hr_4
              have hWn := own_w2 hn2 hr_2 hr_4 hk0 hk1
              obtain ⟨T31, h31, X31, e31, E31, A31, D31, -, st31⟩ := newO X30 hx hZ hown (own_w hw 19 rfl) (own_w hw 20 rfl) (own_w hw 21 rfl) e30 (g := (mkF m 216 #[iv p1, iv p2, iv p3, iv p4, iv p5, iv nn, rv b1, iv 1, rv b26, .unset, .unset] [])) rfl (hb hby at_216) (by decide) (by decide)
              obtain ⟨b31, gb31⟩ : ∃ z, z = h30.size := ⟨_, rfl⟩
              have g_b31 : n0 ≤ b31 := Nat.le_trans Z30 (Nat.le_of_eq gb31.symm)
              have sz_b31 : h0.size ≤ b31 := Nat.le_trans K30.1 (Nat.le_of_eq gb31.symm)
              have ne_b1_b31 : b1 ≠ b31 := Nat.ne_of_lt (Nat.lt_of_lt_of_le (((V9.ext E26).other W28 ne_b1_b26).other W30 ne_b1_b26).lt (Nat.le_of_eq gb31.symm))
              have ne_b26_b31 : b26 ≠ b31 := Nat.ne_of_lt (Nat.lt_of_lt_of_le V30.lt (Nat.le_of_eq gb31.symm))
              rw [← gb31] at A31 D31 st31
              have F_coder_b31 : Fld Z h31 b31 "java/lang/String" "coder" "B" (.int 0) := D31 (Or.inr (own_w hw 64 rfl)) (ty := .byte) (by decide)
              have F_value_b31 : Fld Z h31 b31 "java/lang/String" "value" "[B" .null := D31 (Or.inr (own_w hw 66 rfl)) (ty := (.array .byte)) (by decide)
              have K31 : Keep h0 h31 [] := K30.ext E31
              have Z31 : n0 ≤ h31.size := Nat.le_trans Z30 E31.1
              have hk := Nat.le_trans hk E31.1
              refine own_fw (A' := (T31.setTop (mkF m 222 #[iv p1, iv p2, iv p3, iv p4, iv p5, iv nn, rv b1, iv 1, rv b26, .unset, .unset] [.ref b26, .ref b31, .ref b31]))) (fun t k => st31 _ (XS.dup X31.here hx rfl (hb hby at_219) rfl rfl (XS.aload X31.here hx rfl (hb hby at_220) rfl rfl k))) ?_
              by_cases hbg : (255 : Int32) < r_2 ∨ (255 : Int32) < r_4
              · obtain ⟨_, _, ⟨T32, L32, k32, n32⟩, -, X32, ⟨Lc32, hQ32, l32, y32, z32⟩, st32⟩ := X31.specialBack hx (y := yq9) rfl hown (mvT hZ (own_w hw 22 rfl)) (mvT hZ (own_w hw 23 rfl)) (mvT hZ (own_w hw 24 rfl)) (by decide) (backOf (W := 1) (rmStrA2U l Z a0 hw [] b31 b26 k26 cs r_2 r_4 h31 n0 Z31 A31 F_coder_b31 F_value_b31 (V30.ext E31) g_b31 (Ne.symm ne_b26_b31) (((((((((P0.ext E1).wr W3).wr W5).wr W7).wr W9).ext E26).wr W28).wr W30).ext E31) hcs (((((((((P2.ext E1).wr W3).wr W5).wr W7).wr W9).ext E26).wr W28).wr W30).ext E31) (((((((((P3.ext E1).wr W3).wr W5).wr W7).wr W9).ext E26).wr W28).wr W30).ext E31) (((((((((P4.ext E1).wr W3).wr W5).wr W7).wr W9).ext E26).wr W28).wr W30).ext E31) hbg hr_2 hr_4) hZ (own_w hw 24 rfl) (own_w hw 21 rfl) (by decide) (by decide)) (g := (mkF m 222 #[iv p1, iv p2, iv p3, iv p4, iv p5, iv nn, rv b1, iv 1, rv b26, .unset, .unset] [.ref b26, .ref b31, .ref b31])) rfl (by rw [hml]; rfl) (Steps.refl _) (a := b31) (argsL := [(.ref b26)]) (rest := [(.ref b31)]) (lenOf pd___C_V rfl) rfl (by show 2 * 0 + _ ≤ _; exact Nat.le_of_eq rfl) (hb hby at_222) (fun _ _ => ⟨rfl, e31, (by decide : 3 + 2 ≤ _), (by decide : 10 + 6 ≤ _)⟩)
                dsimp only [Pt.U, Pt.locs, Pt.cells, Pt.slots] at X32 l32 y32 z32 st32 hQ32
                subst l32 y32 z32
                obtain ⟨b_32, kb_32, rfl, Nq32, Kq32, Fq32_0, Fq32_1, Fq32_2, Fq32_3⟩ := hQ32
                have Nf32 := Fr.app Nf30 Nq32
                have hk := Nat.le_trans hk Kq32.1
                have K32 : Keep h0 T32.heap [] := K31.trans Kq32 (allS (Or.inr sz_b31) all0)
                have Z32 : n0 ≤ T32.heap.size := Nat.le_trans Z31 Kq32.1
                refine own_fw (A' := (T32.setTop (mkF m 229 #[iv p1, iv p2, iv p3, iv p4, iv p5, iv nn, rv b1, iv 1, rv b26, rv b31, .unset] [.ref b31]))) (fun t k => st32.trans (XS.astore X32.here hx rfl (hb hby at_225) rfl rfl (l' := #[iv p1, iv p2, iv p3, iv p4, iv p5, iv nn, rv b1, iv 1, rv b26, rv b31, .unset]) rfl (XS.aload X32.here hx rfl (hb hby at_227) rfl rfl k))) ?_
                obtain ⟨_, _, ⟨T33, L33, k33, n33⟩, -, X33, hS33, gS33, ⟨Lc33, hQ33, l33, y33, z33⟩, st33⟩ := callSS X32 hx (y := yq77) hown (mvT hZ (own_w hw 67 rfl)) (mvT hZ (own_w hw 68 rfl)) (mvT hZ (own_w hw 69 rfl)) (mvT hZ (own_w hw 70 rfl)) (by decide) (backOfS (W := 0) (rmOfU l Z a0 hw [] b31 b_32 kb_32 cs ([r_2, r_4]) sv T32.heap n0 Z32 Fq32_0 Fq32_1 Fq32_2 Fq32_3 (own_staKeep (((((((((P0.ext E1).wr W3).wr W5).wr W7).wr W9).ext E26).wr W28).wr W30).ext E31) Kq32 (allS (own_plainE A31) all0)) hcs (own_staKeep (((((((((P5.ext E1).wr W3).wr W5).wr W7).wr W9).ext E26).wr W28).wr W30).ext E31) Kq32 (allS (own_plainE A31) all0)) hsv hFn (own_staKeep (((((((((P2.ext E1).wr W3).wr W5).wr W7).wr W9).ext E26).wr W28).wr W30).ext E31) Kq32 (allS (own_plainE A31) all0)) (own_staKeep (((((((((P3.ext E1).wr W3).wr W5).wr W7).wr W9).ext E26).wr W28).wr W30).ext E31) Kq32 (allS (own_plainE A31) all0)) (own_staKeep (((((((((P4.ext E1).wr W3).wr W5).wr W7).wr W9).ext E26).wr W28).wr W30).ext E31) Kq32 (allS (own_plainE A31) all0)) (own_wf0 hFn hWn)) hZ (own_w hw 70 rfl) (own_w hw 69 rfl) (by decide) (by decide)) (g := (mkF m 229 #[iv p1, iv p2, iv p3, iv p4, iv p5, iv nn, rv b1, iv 1, rv b26, rv b31, .unset] [.ref b31])) rfl (by rw [hml]; rfl) (argsL := [(.ref b31)]) (rest := []) (lenOf pd__Ljava_lang_String__Lcom_example_guarded_once_guardedonce_guard_MessageKey_ rfl) rfl (by show 2 * 0 + _ ≤ _; exact Nat.le_of_eq rfl) (hb hby at_229) (fun _ _ => ⟨rfl, rfl, (by decide : 5 + 3 ≤ _), (by decide : 16 + 25 ≤ _)⟩)
                dsimp only [Pt.U, Pt.locs, Pt.cells, Pt.slots] at X33 l33 y33 z33 st33 hQ33 hS33 gS33
                subst l33 y33 z33
                obtain ⟨X33, hS, hZ', hown⟩ := rebS hS hk X33 hS33 gS33 hZ hown
                have hk : T33.heap.size ≤ T33.heap.size := Nat.le_refl _
                have hZ := hZ'
                obtain ⟨b_33, rfl, Nq33, Kq33, Fq33_0, Fq33_1, Fq33_2, gb_33⟩ := hQ33
                have Nf33 := Fr.app Nf32 Nq33
                have K33 : Keep h0 T33.heap [] := K32.trans Kq33 all0
                have sz_b_33 : h0.size ≤ b_33 := Nat.le_trans K32.1 gb_33
                have g_b_33 : n0 ≤ b_33 := Nat.le_trans Z32 gb_33
                have ne_b1_b_33 : b1 ≠ b_33 := Nat.ne_of_lt (Nat.lt_of_lt_of_le (((((V9.ext E26).other W28 ne_b1_b26).other W30 ne_b1_b26).ext E31).keep Kq32 (ninS ne_b1_b31 nin0)).lt gb_33)
                have ne_b26_b_33 : b26 ≠ b_33 := Nat.ne_of_lt (Nat.lt_of_lt_of_le ((V30.ext E31).keep Kq32 (ninS ne_b26_b31 nin0)).lt gb_33)
                have ne_b31_b_33 : b31 ≠ b_33 := Nat.ne_of_lt (Nat.lt_of_lt_of_le Fq32_0.lt gb_33)
                have ne_b_32_b_33 : b_32 ≠ b_33 := Nat.ne_of_lt (Nat.lt_of_lt_of_le Fq32_3.lt gb_33)
                have Z33 : n0 ≤ T33.heap.size := Nat.le_trans Z32 Kq33.1
                refine own_fw (A' := (T33.setTop (mkF m 236 #[iv p1, iv p2, iv p3, iv p4, iv p5, iv nn, rv b1, iv 1, rv b26, rv b31, rv b_33] [.ref b_33]))) (fun t k => st33.trans (XS.astore X33.here hx rfl (hb hby at_232) rfl rfl (l' := #[iv p1, iv p2, iv p3, iv p4, iv p5, iv nn, rv b1, iv 1, rv b26, rv b31, rv b_33]) rfl (XS.aload X33.here hx rfl (hb hby at_234) rfl rfl k))) ?_
                obtain ⟨cq34, kq34, qa34, qb34, qc34⟩ := isOf hZ rfl Fq33_0
                obtain ⟨_, _, ⟨T34, L34, k34, n34⟩, -, X34, ⟨Lc34, hQ34, l34, y34, z34⟩, st34⟩ := X33.virtualBack hx (y := yq74) (z := yq74) hown (mvT hZ (own_w hw 148 rfl)) (mvT hZ (own_w hw 149 rfl)) (notFace_of_selects (args := #[]) (mvT hZ (own_w hw 151 rfl))) (mvT hZ (own_w hw 151 rfl)) (mvT hZ (own_w hw 150 rfl)) (by decide) (backOf (W := 0) (rmVal l Z a0 hw [] b_33 b31 T33.heap n0 Z33 Fq33_1) hZ (own_w hw 152 rfl) (own_w hw 69 rfl) (by decide) (by decide)) qa34 qc34 (g := (mkF m 236 #[iv p1, iv p2, iv p3, iv p4, iv p5, iv nn, rv b1, iv 1, rv b26, rv b31, rv b_33] [.ref b_33])) rfl (by rw [hml]; rfl) (Steps.refl _) (argsL := []) (rest := []) (lenOf pd___Ljava_lang_String_ rfl) rfl (by show 2 * 0 + _ ≤ _; exact Nat.le_of_eq rfl) (hb hby at_236) (fun _ _ => ⟨rfl, rfl, (by decide : 8 + 0 ≤ _), (by decide : 41 + 0 ≤ _)⟩)
                dsimp only [Pt.U, Pt.locs, Pt.cells, Pt.slots] at X34 l34 y34 z34 st34 hQ34
                subst l34 y34 z34
                obtain ⟨rfl, Nq34, e34⟩ := hQ34
                have Nf34 := Fr.app Nf33 Nq34
                refine own_fw (A' := (T34.setTop (mkF m 241 #[iv p1, iv p2, iv p3, iv p4, iv p5, iv nn, rv b1, iv 1, rv b26, rv b31, rv b_33] [.ref b31, .ref b31]))) (fun t k => st34.trans (XS.aload X34.here hx rfl (hb hby at_239) rfl rfl k)) ?_
                obtain ⟨cq35, kq35, qa35, qb35, qc35⟩ := isOf hZ e34 Fq33_2
                obtain ⟨_, _, ⟨T35, L35, k35, n35⟩, -, X35, ⟨Lc35, hQ35, l35, y35, z35⟩, st35⟩ := X34.virtualBack hx (y := yq75) (z := yq75) hown (mvT hZ (own_w hw 153 rfl)) (mvT hZ (own_w hw 154 rfl)) (notFace_of_selects (args := #[]) (mvT hZ (own_w hw 156 rfl))) (mvT hZ (own_w hw 156 rfl)) (mvT hZ (own_w hw 155 rfl)) (by decide) (backOf (W := 0) (rmEq l Z a0 hw [] b31 T33.heap n0 Z33 ) hZ (own_w hw 157 rfl) (own_w hw 21 rfl) (by decide) (by decide)) qa35 qc35 (g := (mkF m 241 #[iv p1, iv p2, iv p3, iv p4, iv p5, iv nn, rv b1, iv 1, rv b26, rv b31, rv b_33] [.ref b31, .ref b31])) rfl (by rw [hml]; rfl) (Steps.refl _) (argsL := [(.ref b31)]) (rest := []) (lenOf pd__Ljava_lang_Object__Z rfl) rfl (by show 2 * 0 + _ ≤ _; exact Nat.le_of_eq rfl) (hb hby at_241) (fun _ _ => ⟨rfl, e34, (by decide : 8 + 0 ≤ _), (by decide : 41 + 0 ≤ _)⟩)
                dsimp only [Pt.U, Pt.locs, Pt.cells, Pt.slots] at X35 l35 y35 z35 st35 hQ35
                subst l35 y35 z35
                obtain ⟨rfl, Nq35, e35⟩ := hQ35
                have Nf35 := Fr.app Nf34 Nq35
                refine own_fw (A' := (T35.setTop (mkF m 244 #[iv p1, iv p2, iv p3, iv p4, iv p5, iv nn, rv b1, iv 1, rv b26, rv b31, rv b_33] [.int 1]))) (fun t k => st35.trans k) ?_
                obtain ⟨fs, hr, hrun, hended, hWE⟩ := X35.leaveW hS (by rw [e35]; exact hk : _ ≤ T35.heap.size) (v := some (.int 1)) (fun h => by rw [Bd.returns] at h; cases h)
                refine ⟨_, _, ?_, hrun, hended, _, _, rfl, ?_, own_widen hWE (by decide) (by decide)⟩
                · exact retOut X35 hx Bd.returns rfl (Or.inl ⟨rfl, by simp, _, rfl⟩) (hb hby at_244) hr
                · show Q_rm0 Z p1 p2 p3 p4 p5 cs sv h0 n0 _ T35.heap _
                  rw [e35]
                  exact ⟨rfl, Nf35⟩
              · obtain ⟨_, _, ⟨T36, L36, k36, n36⟩, -, X36, ⟨Lc36, hQ36, l36, y36, z36⟩, st36⟩ := X31.specialBack hx (y := yq9) rfl hown (mvT hZ (own_w hw 22 rfl)) (mvT hZ (own_w hw 23 rfl)) (mvT hZ (own_w hw 24 rfl)) (by decide) (backOf (W := 1) (rmStrA2 l Z a0 hw [] b31 b26 k26 cs r_2 r_4 h31 n0 Z31 A31 F_coder_b31 F_value_b31 (V30.ext E31) g_b31 (Ne.symm ne_b26_b31) (((((((((P0.ext E1).wr W3).wr W5).wr W7).wr W9).ext E26).wr W28).wr W30).ext E31) hcs (fun q => hbg (Or.inl q)) (fun q => hbg (Or.inr (q)))) hZ (own_w hw 24 rfl) (own_w hw 21 rfl) (by decide) (by decide)) (g := (mkF m 222 #[iv p1, iv p2, iv p3, iv p4, iv p5, iv nn, rv b1, iv 1, rv b26, .unset, .unset] [.ref b26, .ref b31, .ref b31])) rfl (by rw [hml]; rfl) (Steps.refl _) (a := b31) (argsL := [(.ref b26)]) (rest := [(.ref b31)]) (lenOf pd___C_V rfl) rfl (by show 2 * 0 + _ ≤ _; exact Nat.le_of_eq rfl) (hb hby at_222) (fun _ _ => ⟨rfl, e31, (by decide : 3 + 1 ≤ _), (by decide : 10 + 2 ≤ _)⟩)
                dsimp only [Pt.U, Pt.locs, Pt.cells, Pt.slots] at X36 l36 y36 z36 st36 hQ36
                subst l36 y36 z36
                obtain ⟨b_36, kb_36, rfl, Nq36, Kq36, Fq36_0, Fq36_1, Fq36_2, Fq36_3⟩ := hQ36
                have Nf36 := Fr.app Nf30 Nq36
                have hk := Nat.le_trans hk Kq36.1
                have K36 : Keep h0 T36.heap [] := K31.trans Kq36 (allS (Or.inr sz_b31) all0)
                have Z36 : n0 ≤ T36.heap.size := Nat.le_trans Z31 Kq36.1
                refine own_fw (A' := (T36.setTop (mkF m 229 #[iv p1, iv p2, iv p3, iv p4, iv p5, iv nn, rv b1, iv 1, rv b26, rv b31, .unset] [.ref b31]))) (fun t k => st36.trans (XS.astore X36.here hx rfl (hb hby at_225) rfl rfl (l' := #[iv p1, iv p2, iv p3, iv p4, iv p5, iv nn, rv b1, iv 1, rv b26, rv b31, .unset]) rfl (XS.aload X36.here hx rfl (hb hby at_227) rfl rfl k))) ?_
                obtain ⟨_, _, ⟨T37, L37, k37, n37⟩, -, X37, hS37, gS37, ⟨Lc37, hQ37, l37, y37, z37⟩, st37⟩ := callSS X36 hx (y := yq77) hown (mvT hZ (own_w hw 67 rfl)) (mvT hZ (own_w hw 68 rfl)) (mvT hZ (own_w hw 69 rfl)) (mvT hZ (own_w hw 70 rfl)) (by decide) (backOfS (W := 0) (rmOfL l Z a0 hw [] b31 b_36 kb_36 cs ([r_2, r_4]) sv T36.heap n0 Z36 Fq36_0 Fq36_1 Fq36_2 Fq36_3 (own_staKeep (((((((((P0.ext E1).wr W3).wr W5).wr W7).wr W9).ext E26).wr W28).wr W30).ext E31) Kq36 (allS (own_plainE A31) all0)) hcs (own_staKeep (((((((((P5.ext E1).wr W3).wr W5).wr W7).wr W9).ext E26).wr W28).wr W30).ext E31) Kq36 (allS (own_plainE A31) all0)) hsv hFn (own_ltW hWn (own_b2 hbg))) hZ (own_w hw 70 rfl) (own_w hw 69 rfl) (by decide) (by decide)) (g := (mkF m 229 #[iv p1, iv p2, iv p3, iv p4, iv p5, iv nn, rv b1, iv 1, rv b26, rv b31, .unset] [.ref b31])) rfl (by rw [hml]; rfl) (argsL := [(.ref b31)]) (rest := []) (lenOf pd__Ljava_lang_String__Lcom_example_guarded_once_guardedonce_guard_MessageKey_ rfl) rfl (by show 2 * 0 + _ ≤ _; exact Nat.le_of_eq rfl) (hb hby at_229) (fun _ _ => ⟨rfl, rfl, (by decide : 4 + 3 ≤ _), (by decide : 12 + 25 ≤ _)⟩)
                dsimp only [Pt.U, Pt.locs, Pt.cells, Pt.slots] at X37 l37 y37 z37 st37 hQ37 hS37 gS37
                subst l37 y37 z37
                obtain ⟨X37, hS, hZ', hown⟩ := rebS hS hk X37 hS37 gS37 hZ hown
                have hk : T37.heap.size ≤ T37.heap.size := Nat.le_refl _
                have hZ := hZ'
                obtain ⟨b_37, rfl, Nq37, Kq37, Fq37_0, Fq37_1, Fq37_2, gb_37⟩ := hQ37
                have Nf37 := Fr.app Nf36 Nq37
                have K37 : Keep h0 T37.heap [] := K36.trans Kq37 all0
                have sz_b_37 : h0.size ≤ b_37 := Nat.le_trans K36.1 gb_37
                have g_b_37 : n0 ≤ b_37 := Nat.le_trans Z36 gb_37
                have ne_b1_b_37 : b1 ≠ b_37 := Nat.ne_of_lt (Nat.lt_of_lt_of_le (((((V9.ext E26).other W28 ne_b1_b26).other W30 ne_b1_b26).ext E31).keep Kq36 (ninS ne_b1_b31 nin0)).lt gb_37)
                have ne_b26_b_37 : b26 ≠ b_37 := Nat.ne_of_lt (Nat.lt_of_lt_of_le ((V30.ext E31).keep Kq36 (ninS ne_b26_b31 nin0)).lt gb_37)
                have ne_b31_b_37 : b31 ≠ b_37 := Nat.ne_of_lt (Nat.lt_of_lt_of_le Fq36_0.lt gb_37)
                have ne_b_36_b_37 : b_36 ≠ b_37 := Nat.ne_of_lt (Nat.lt_of_lt_of_le Fq36_3.lt gb_37)
                have Z37 : n0 ≤ T37.heap.size := Nat.le_trans Z36 Kq37.1
                refine own_fw (A' := (T37.setTop (mkF m 236 #[iv p1, iv p2, iv p3, iv p4, iv p5, iv nn, rv b1, iv 1, rv b26, rv b31, rv b_37] [.ref b_37]))) (fun t k => st37.trans (XS.astore X37.here hx rfl (hb hby at_232) rfl rfl (l' := #[iv p1, iv p2, iv p3, iv p4, iv p5, iv nn, rv b1, iv 1, rv b26, rv b31, rv b_37]) rfl (XS.aload X37.here hx rfl (hb hby at_234) rfl rfl k))) ?_
                obtain ⟨cq38, kq38, qa38, qb38, qc38⟩ := isOf hZ rfl Fq37_0
                obtain ⟨_, _, ⟨T38, L38, k38, n38⟩, -, X38, ⟨Lc38, hQ38, l38, y38, z38⟩, st38⟩ := X37.virtualBack hx (y := yq74) (z := yq74) hown (mvT hZ (own_w hw 148 rfl)) (mvT hZ (own_w hw 149 rfl)) (notFace_of_selects (args := #[]) (mvT hZ (own_w hw 151 rfl))) (mvT hZ (own_w hw 151 rfl)) (mvT hZ (own_w hw 150 rfl)) (by decide) (backOf (W := 0) (rmVal l Z a0 hw [] b_37 b31 T37.heap n0 Z37 Fq37_1) hZ (own_w hw 152 rfl) (own_w hw 69 rfl) (by decide) (by decide)) qa38 qc38 (g := (mkF m 236 #[iv p1, iv p2, iv p3, iv p4, iv p5, iv nn, rv b1, iv 1, rv b26, rv b31, rv b_37] [.ref b_37])) rfl (by rw [hml]; rfl) (Steps.refl _) (argsL := []) (rest := []) (lenOf pd___Ljava_lang_String_ rfl) rfl (by show 2 * 0 + _ ≤ _; exact Nat.le_of_eq rfl) (hb hby at_236) (fun _ _ => ⟨rfl, rfl, (by decide : 7 + 0 ≤ _), (by decide : 37 + 0 ≤ _)⟩)
                dsimp only [Pt.U, Pt.locs, Pt.cells, Pt.slots] at X38 l38 y38 z38 st38 hQ38
                subst l38 y38 z38
                obtain ⟨rfl, Nq38, e38⟩ := hQ38
                have Nf38 := Fr.app Nf37 Nq38
                refine own_fw (A' := (T38.setTop (mkF m 241 #[iv p1, iv p2, iv p3, iv p4, iv p5, iv nn, rv b1, iv 1, rv b26, rv b31, rv b_37] [.ref b31, .ref b31]))) (fun t k => st38.trans (XS.aload X38.here hx rfl (hb hby at_239) rfl rfl k)) ?_
                obtain ⟨cq39, kq39, qa39, qb39, qc39⟩ := isOf hZ e38 Fq37_2
                obtain ⟨_, _, ⟨T39, L39, k39, n39⟩, -, X39, ⟨Lc39, hQ39, l39, y39, z39⟩, st39⟩ := X38.virtualBack hx (y := yq75) (z := yq75) hown (mvT hZ (own_w hw 153 rfl)) (mvT hZ (own_w hw 154 rfl)) (notFace_of_selects (args := #[]) (mvT hZ (own_w hw 156 rfl))) (mvT hZ (own_w hw 156 rfl)) (mvT hZ (own_w hw 155 rfl)) (by decide) (backOf (W := 0) (rmEq l Z a0 hw [] b31 T37.heap n0 Z37 ) hZ (own_w hw 157 rfl) (own_w hw 21 rfl) (by decide) (by decide)) qa39 qc39 (g := (mkF m 241 #[iv p1, iv p2, iv p3, iv p4, iv p5, iv nn, rv b1, iv 1, rv b26, rv b31, rv b_37] [.ref b31, .ref b31])) rfl (by rw [hml]; rfl) (Steps.refl _) (argsL := [(.ref b31)]) (rest := []) (lenOf pd__Ljava_lang_Object__Z rfl) rfl (by show 2 * 0 + _ ≤ _; exact Nat.le_of_eq rfl) (hb hby at_241) (fun _ _ => ⟨rfl, e38, (by decide : 7 + 0 ≤ _), (by decide : 37 + 0 ≤ _)⟩)
                dsimp only [Pt.U, Pt.locs, Pt.cells, Pt.slots] at X39 l39 y39 z39 st39 hQ39
                subst l39 y39 z39
                obtain ⟨rfl, Nq39, e39⟩ := hQ39
                have Nf39 := Fr.app Nf38 Nq39
                refine own_fw (A' := (T39.setTop (mkF m 244 #[iv p1, iv p2, iv p3, iv p4, iv p5, iv nn, rv b1, iv 1, rv b26, rv b31, rv b_37] [.int 1]))) (fun t k => st39.trans k) ?_
                obtain ⟨fs, hr, hrun, hended, hWE⟩ := X39.leaveW hS (by rw [e39]; exact hk : _ ≤ T39.heap.size) (v := some (.int 1)) (fun h => by rw [Bd.returns] at h; cases h)
                refine ⟨_, _, ?_, hrun, hended, _, _, rfl, ?_, own_widen hWE (by decide) (by decide)⟩
                · exact retOut X39 hx Bd.returns rfl (Or.inl ⟨rfl, by simp, _, rfl⟩) (hb hby at_244) hr
                · show Q_rm0 Z p1 p2 p3 p4 p5 cs sv h0 n0 _ T39.heap _
                  rw [e39]
                  exact ⟨rfl, Nf39⟩
            · refine own_fw (A' := (T13.setTop (mkF m 151 #[iv p1, iv p2, iv p3, iv p4, iv p5, iv nn, rv b1, iv 1, .unset, .unset, .unset] [.int 3, .int nn]))) (fun t k => XS.icmpYes X13.here hx rfl (pc0 := 123) (pc' := 148) rfl (hb hby at_123) rfl (XT.ii_ne_t hn2) (by decide) (by decide) (XS.iload X13.here hx rfl (hb hby at_148) rfl (XS.iconst X13.here hx rfl (hb hby at_150) k))) ?_
              by_cases hn3 : nn = (3 : Int32)
              · refine own_fw (A' := (T13.setTop (mkF m 155 #[iv p1, iv p2, iv p3, iv p4, iv p5, iv nn, rv b1, iv 1, .unset, .unset, .unset] [.int 3]))) (fun t k => XS.icmpNo X13.here hx rfl (hb hby at_151) rfl (XT.ii_ne_f hn3) (XS.iconst X13.here hx rfl (hb hby at_154) k)) ?_
                obtain ⟨T40, h40, k40, X40, e40, E40, A40, st40⟩ := newP X13 hx hZ (own_w hw 0 rfl) e13 (g := (mkF m 155 #[iv p1, iv p2, iv p3, iv p4, iv p5, iv nn, rv b1, iv 1, .unset, .unset, .unset] [.int 3])) rfl (hb hby at_155) rfl (by decide) (cap := 3) (by decide) (by decide) (by decide) (by decide)
                obtain ⟨b40, gb40⟩ : ∃ z, z = h9.size := ⟨_, rfl⟩
                have g_b40 : n0 ≤ b40 := Nat.le_trans Z9 (Nat.le_of_eq gb40.symm)
                have sz_b40 : h0.size ≤ b40 := Nat.le_trans K9.1 (Nat.le_of_eq gb40.symm)
                have ne_b1_b40 : b1 ≠ b40 := Nat.ne_of_lt (Nat.lt_of_lt_of_le V9.lt (Nat.le_of_eq gb40.symm))
                rw [← gb40] at A40 st40
                have V_b40 : Arv Z h40 b40 k40 .char (3 : Int32) [(.int 0), (.int 0), (.int 0)] (.int 0) := (Arv.new A40 (by decide)).pad (pad_rep [] (.int 0) 3)
                have K40 : Keep h0 h40 [] := K9.ext E40
                have Z40 : n0 ≤ h40.size := Nat.le_trans Z9 E40.1
                have hk := Nat.le_trans hk E40.1
                refine own_fw (A' := (T40.setTop (mkF m 162 #[iv p1, iv p2, iv p3, iv p4, iv p5, iv nn, rv b1, iv 1, .unset, .unset, .unset] [.int 0, .ref b1, .int 0, .ref b40, .ref b40]))) (fun t k => st40 _ (XS.dup X40.here hx rfl (hb hby at_157) rfl rfl (XS.iconst X40.here hx rfl (hb hby at_158) (XS.aload X40.here hx rfl (hb hby at_159) rfl rfl (XS.iconst X40.here hx rfl (hb hby at_161) k))))) ?_
                obtain ⟨cl41, Ar41, q41, S41, M41, H41, G41⟩ := id (V9.ext E40)
                have hin41 : ¬ ((0 : Int32) < 0 ∨ cl41.slots.size ≤ ((0 : Int32)).toNatClampNeg) := inb_of S41 ⟨by decide, by decide⟩
                have hat41 : cl41.slots[((0 : Int32)).toNatClampNeg]? = some (.int r_2) := H41.at hin41 rfl
                refine own_fw (A' := (T40.setTop (mkF m 163 #[iv p1, iv p2, iv p3, iv p4, iv p5, iv nn, rv b1, iv 1, .unset, .unset, .unset] [.int r_2, .int 0, .ref b40, .ref b40]))) (fun t k => X40.caload hx (j := (0 : Int32)) (v := (.int r_2)) (by rw [e40]; exact Ar41.1) (State.isArrayOf_alike hZ.alike Ar41.2.1) Ar41.2.2 hin41 hat41 (g := (mkF m 162 #[iv p1, iv p2, iv p3, iv p4, iv p5, iv nn, rv b1, iv 1, .unset, .unset, .unset] [.int 0, .ref b1, .int 0, .ref b40, .ref b40])) rfl rfl (hb hby at_162) _ k) ?_
                obtain ⟨cl42, Ar42, q42, S42, M42, H42, G42⟩ := id V_b40
                have hin42 : ¬ ((0 : Int32) < 0 ∨ cl42.slots.size ≤ ((0 : Int32)).toNatClampNeg) := inb_of S42 ⟨by decide, by decide⟩
                obtain ⟨T42, h42, X42, e42, W42, st42⟩ := stC X40 hx hZ e40 Ar42 (j := (0 : Int32)) hin42 (g := (mkF m 163 #[iv p1, iv p2, iv p3, iv p4, iv p5, iv nn, rv b1, iv 1, .unset, .unset, .unset] [.int r_2, .int 0, .ref b40, .ref b40])) rfl rfl (hb hby at_163)
                rw [(own_nar16 hr_2)] at W42
                have V42 : Arv Z h42 b40 k40 .char (3 : Int32) [(.int r_2), (.int 0), (.int 0)] (.int 0) := Arv.set Ar42 q42 S42 M42 H42 G42 (own_fit16 hr_2) W42 0 rfl (Nat.le_of_ble_eq_true rfl)
                have Nf42 := Fr.snoc X42 Nf13 g_b40
                have K42 : Keep h0 h42 [] := K40.wr W42 (Or.inr sz_b40)
                have Z42 : n0 ≤ h42.size := Nat.le_trans Z40 (Keep.of_wr W42).1
                have hk := Nat.le_trans hk (Keep.of_wr W42).1
                refine own_fw (A' := (T42.setTop (mkF m 169 #[iv p1, iv p2, iv p3, iv p4, iv p5, iv nn, rv b1, iv 1, .unset, .unset, .unset] [.int 1, .ref b1, .int 1, .ref b40, .ref b40]))) (fun t k => st42 _ (XS.dup X42.here hx rfl (hb hby at_164) rfl rfl (XS.iconst X42.here hx rfl (hb hby at_165) (XS.aload X42.here hx rfl (hb hby at_166) rfl rfl (XS.iconst X42.here hx rfl (hb hby at_168) k))))) ?_
                obtain ⟨cl43, Ar43, q43, S43, M43, H43, G43⟩ := id ((V9.ext E40).other W42 ne_b1_b40)
                have hin43 : ¬ ((1 : Int32) < 0 ∨ cl43.slots.size ≤ ((1 : Int32)).toNatClampNeg) := inb_of S43 ⟨by decide, by decide⟩
                have hat43 : cl43.slots[((1 : Int32)).toNatClampNeg]? = some (.int r_4) := H43.at hin43 rfl
                refine own_fw (A' := (T42.setTop (mkF m 170 #[iv p1, iv p2, iv p3, iv p4, iv p5, iv nn, rv b1, iv 1, .unset, .unset, .unset] [.int r_4, .int 1, .ref b40, .ref b40]))) (fun t k => X42.caload hx (j := (1 : Int32)) (v := (.int r_4)) (by rw [e42]; exact Ar43.1) (State.isArrayOf_alike hZ.alike Ar43.2.1) Ar43.2.2 hin43 hat43 (g := (mkF m 169 #[iv p1, iv p2, iv p3, iv p4, iv p5, iv nn, rv b1, iv 1, .unset, .unset, .unset] [.int 1, .ref b1, .int 1, .ref b40, .ref b40])) rfl rfl (hb hby at_169) _ k) ?_
                obtain ⟨cl44, Ar44, q44, S44, M44, H44, G44⟩ := id V42
                have hin44 : ¬ ((1 : Int32) < 0 ∨ cl44.slots.size ≤ ((1 : Int32)).toNatClampNeg) := inb_of S44 ⟨by decide, by decide⟩
                obtain ⟨T44, h44, X44, e44, W44, st44⟩ := stC X42 hx hZ e42 Ar44 (j := (1 : Int32)) hin44 (g := (mkF m 170 #[iv p1, iv p2, iv p3, iv p4, iv p5, iv nn, rv b1, iv 1, .unset, .unset, .unset] [.int r_4, .int 1, .ref b40, .ref b40])) rfl rfl (hb hby at_170)
                rw [(own_nar16 hr_4)] at W44
                have V44 : Arv Z h44 b40 k40 .char (3 : Int32) [(.int r_2), (.int r_4), (.int 0)] (.int 0) := Arv.set Ar44 q44 S44 M44 H44 G44 (own_fit16 hr_4) W44 1 rfl (Nat.le_of_ble_eq_true rfl)
                have Nf44 := Fr.snoc X44 Nf42 g_b40
                have K44 : Keep h0 h44 [] := K42.wr W44 (Or.inr sz_b40)
                have Z44 : n0 ≤ h44.size := Nat.le_trans Z42 (Keep.of_wr W44).1
                have hk := Nat.le_trans hk (Keep.of_wr W44).1
                refine own_fw (A' := (T44.setTop (mkF m 176 #[iv p1, iv p2, iv p3, iv p4, iv p5, iv nn, rv b1, iv 1, .unset, .unset, .unset] [.int 2, .ref b1, .int 2, .ref b40, .ref b40]))) (fun t k => st44 _ (XS.dup X44.here hx rfl (hb hby at_171) rfl rfl (XS.iconst X44.here hx rfl (hb hby at_172) (XS.aload X44.here hx rfl (hb hby at_173) rfl rfl (XS.iconst X44.here hx rfl (hb hby at_175) k))))) ?_
                obtain ⟨cl45, Ar45, q45, S45, M45, H45, G45⟩ := id (((V9.ext E40).other W42 ne_b1_b40).other W44 ne_b1_b40)
                have hin45 : ¬ ((2 : Int32) < 0 ∨ cl45.slots.size ≤ ((2 : Int32)).toNatClampNeg) := inb_of S45 ⟨by decide, by decide⟩
                have hat45 : cl45.slots[((2 : Int32)).toNatClampNeg]? = some (.int r_6) := H45.at hin45 rfl
                refine own_fw (A' := (T44.setTop (mkF m 177 #[iv p1, iv p2, iv p3, iv p4, iv p5, iv nn, rv b1, iv 1, .unset, .unset, .unset] [.int r_6, .int 2, .ref b40, .ref b40]))) (fun t k => X44.caload hx (j := (2 : Int32)) (v := (.int r_6)) (by rw [e44]; exact Ar45.1) (State.isArrayOf_alike hZ.alike Ar45.2.1) Ar45.2.2 hin45 hat45 (g := (mkF m 176 #[iv p1, iv p2, iv p3, iv p4, iv p5, iv nn, rv b1, iv 1, .unset, .unset, .unset] [.int 2, .ref b1, .int 2, .ref b40, .ref b40])) rfl rfl (hb hby at_176) _ k) ?_
                obtain ⟨cl46, Ar46, q46, S46, M46, H46, G46⟩ := id V44
                have hin46 : ¬ ((2 : Int32) < 0 ∨ cl46.slots.size ≤ ((2 : Int32)).toNatClampNeg) := inb_of S46 ⟨by decide, by decide⟩
                obtain ⟨T46, h46, X46, e46, W46, st46⟩ := stC X44 hx hZ e44 Ar46 (j := (2 : Int32)) hin46 (g := (mkF m 177 #[iv p1, iv p2, iv p3, iv p4, iv p5, iv nn, rv b1, iv 1, .unset, .unset, .unset] [.int r_6, .int 2, .ref b40, .ref b40])) rfl rfl (hb hby at_177)
                rw [(own_nar16 hr_6)] at W46
                have V46 : Arv Z h46 b40 k40 .char (3 : Int32) [(.int r_2), (.int r_4), (.int r_6)] (.int 0) := Arv.set Ar46 q46 S46 M46 H46 G46 (own_fit16 hr_6) W46 2 rfl (Nat.le_of_ble_eq_true rfl)
                have Nf46 := Fr.snoc X46 Nf44 g_b40
                have K46 : Keep h0 h46 [] := K44.wr W46 (Or.inr sz_b40)
                have Z46 : n0 ≤ h46.size := Nat.le_trans Z44 (Keep.of_wr W46).1
                have hk := Nat.le_trans hk (Keep.of_wr W46).1
                refine own_fw (A' := (T46.setTop (mkF m 216 #[iv p1, iv p2, iv p3, iv p4, iv p5, iv nn, rv b1, iv 1, rv b40, .unset, .unset] []))) (fun t k => st46 _ (XS.astore X46.here hx rfl (hb hby at_178) rfl rfl (l' := #[iv p1, iv p2, iv p3, iv p4, iv p5, iv nn, rv b1, iv 1, rv b40, .unset, .unset]) rfl (XS.goto X46.here hx rfl (pc0 := 180) (pc' := 216) rfl (hb hby at_180) (by decide) (by decide) k))) ?_
                have hFn := own_fine3 hr_2 hr_4 hr_6
                have hWn := own_w3 hn3 hr_2 hr_4 hr_6 hk0 hk1 hk2
                obtain ⟨T47, h47, X47, e47, E47, A47, D47, -, st47⟩ := newO X46 hx hZ hown (own_w hw 19 rfl) (own_w hw 20 rfl) (own_w hw 21 rfl) e46 (g := (mkF m 216 #[iv p1, iv p2, iv p3, iv p4, iv p5, iv nn, rv b1, iv 1, rv b40, .unset, .unset] [])) rfl (hb hby at_216) (by decide) (by decide)
                obtain ⟨b47, gb47⟩ : ∃ z, z = h46.size := ⟨_, rfl⟩
                have g_b47 : n0 ≤ b47 := Nat.le_trans Z46 (Nat.le_of_eq gb47.symm)
                have sz_b47 : h0.size ≤ b47 := Nat.le_trans K46.1 (Nat.le_of_eq gb47.symm)
                have ne_b1_b47 : b1 ≠ b47 := Nat.ne_of_lt (Nat.lt_of_lt_of_le ((((V9.ext E40).other W42 ne_b1_b40).other W44 ne_b1_b40).other W46 ne_b1_b40).lt (Nat.le_of_eq gb47.symm))
                have ne_b40_b47 : b40 ≠ b47 := Nat.ne_of_lt (Nat.lt_of_lt_of_le V46.lt (Nat.le_of_eq gb47.symm))
                rw [← gb47] at A47 D47 st47
                have F_coder_b47 : Fld Z h47 b47 "java/lang/String" "coder" "B" (.int 0) := D47 (Or.inr (own_w hw 64 rfl)) (ty := .byte) (by decide)
                have F_value_b47 : Fld Z h47 b47 "java/lang/String" "value" "[B" .null := D47 (Or.inr (own_w hw 66 rfl)) (ty := (.array .byte)) (by decide)
                have K47 : Keep h0 h47 [] := K46.ext E47
                have Z47 : n0 ≤ h47.size := Nat.le_trans Z46 E47.1
                have hk := Nat.le_trans hk E47.1
                refine own_fw (A' := (T47.setTop (mkF m 222 #[iv p1, iv p2, iv p3, iv p4, iv p5, iv nn, rv b1, iv 1, rv b40, .unset, .unset] [.ref b40, .ref b47, .ref b47]))) (fun t k => st47 _ (XS.dup X47.here hx rfl (hb hby at_219) rfl rfl (XS.aload X47.here hx rfl (hb hby at_220) rfl rfl k))) ?_
                by_cases hbg : (255 : Int32) < r_2 ∨ (255 : Int32) < r_4 ∨ (255 : Int32) < r_6
                · obtain ⟨_, _, ⟨T48, L48, k48, n48⟩, -, X48, ⟨Lc48, hQ48, l48, y48, z48⟩, st48⟩ := X47.specialBack hx (y := yq9) rfl hown (mvT hZ (own_w hw 22 rfl)) (mvT hZ (own_w hw 23 rfl)) (mvT hZ (own_w hw 24 rfl)) (by decide) (backOf (W := 1) (rmStrA3U l Z a0 hw [] b47 b40 k40 cs r_2 r_4 r_6 h47 n0 Z47 A47 F_coder_b47 F_value_b47 (V46.ext E47) g_b47 (Ne.symm ne_b40_b47) ((((((((((P0.ext E1).wr W3).wr W5).wr W7).wr W9).ext E40).wr W42).wr W44).wr W46).ext E47) hcs ((((((((((P2.ext E1).wr W3).wr W5).wr W7).wr W9).ext E40).wr W42).wr W44).wr W46).ext E47) ((((((((((P3.ext E1).wr W3).wr W5).wr W7).wr W9).ext E40).wr W42).wr W44).wr W46).ext E47) ((((((((((P4.ext E1).wr W3).wr W5).wr W7).wr W9).ext E40).wr W42).wr W44).wr W46).ext E47) hbg hr_2 hr_4 hr_6) hZ (own_w hw 24 rfl) (own_w hw 21 rfl) (by decide) (by decide)) (g := (mkF m 222 #[iv p1, iv p2, iv p3, iv p4, iv p5, iv nn, rv b1, iv 1, rv b40, .unset, .unset] [.ref b40, .ref b47, .ref b47])) rfl (by rw [hml]; rfl) (Steps.refl _) (a := b47) (argsL := [(.ref b40)]) (rest := [(.ref b47)]) (lenOf pd___C_V rfl) rfl (by show 2 * 0 + _ ≤ _; exact Nat.le_of_eq rfl) (hb hby at_222) (fun _ _ => ⟨rfl, e47, (by decide : 3 + 2 ≤ _), (by decide : 11 + 9 ≤ _)⟩)
                  dsimp only [Pt.U, Pt.locs, Pt.cells, Pt.slots] at X48 l48 y48 z48 st48 hQ48
                  subst l48 y48 z48
                  obtain ⟨b_48, kb_48, rfl, Nq48, Kq48, Fq48_0, Fq48_1, Fq48_2, Fq48_3⟩ := hQ48
                  have Nf48 := Fr.app Nf46 Nq48
                  have hk := Nat.le_trans hk Kq48.1
                  have K48 : Keep h0 T48.heap [] := K47.trans Kq48 (allS (Or.inr sz_b47) all0)
                  have Z48 : n0 ≤ T48.heap.size := Nat.le_trans Z47 Kq48.1
                  refine own_fw (A' := (T48.setTop (mkF m 229 #[iv p1, iv p2, iv p3, iv p4, iv p5, iv nn, rv b1, iv 1, rv b40, rv b47, .unset] [.ref b47]))) (fun t k => st48.trans (XS.astore X48.here hx rfl (hb hby at_225) rfl rfl (l' := #[iv p1, iv p2, iv p3, iv p4, iv p5, iv nn, rv b1, iv 1, rv b40, rv b47, .unset]) rfl (XS.aload X48.here hx rfl (hb hby at_227) rfl rfl k))) ?_
                  obtain ⟨_, _, ⟨T49, L49, k49, n49⟩, -, X49, hS49, gS49, ⟨Lc49, hQ49, l49, y49, z49⟩, st49⟩ := callSS X48 hx (y := yq77) hown (mvT hZ (own_w hw 67 rfl)) (mvT hZ (own_w hw 68 rfl)) (mvT hZ (own_w hw 69 rfl)) (mvT hZ (own_w hw 70 rfl)) (by decide) (backOfS (W := 0) (rmOfU l Z a0 hw [] b47 b_48 kb_48 cs ([r_2, r_4, r_6]) sv T48.heap n0 Z48 Fq48_0 Fq48_1 Fq48_2 Fq48_3 (own_staKeep ((((((((((P0.ext E1).wr W3).wr W5).wr W7).wr W9).ext E40).wr W42).wr W44).wr W46).ext E47) Kq48 (allS (own_plainE A47) all0)) hcs (own_staKeep ((((((((((P5.ext E1).wr W3).wr W5).wr W7).wr W9).ext E40).wr W42).wr W44).wr W46).ext E47) Kq48 (allS (own_plainE A47) all0)) hsv hFn (own_staKeep ((((((((((P2.ext E1).wr W3).wr W5).wr W7).wr W9).ext E40).wr W42).wr W44).wr W46).ext E47) Kq48 (allS (own_plainE A47) all0)) (own_staKeep ((((((((((P3.ext E1).wr W3).wr W5).wr W7).wr W9).ext E40).wr W42).wr W44).wr W46).ext E47) Kq48 (allS (own_plainE A47) all0)) (own_staKeep ((((((((((P4.ext E1).wr W3).wr W5).wr W7).wr W9).ext E40).wr W42).wr W44).wr W46).ext E47) Kq48 (allS (own_plainE A47) all0)) (own_wf0 hFn hWn)) hZ (own_w hw 70 rfl) (own_w hw 69 rfl) (by decide) (by decide)) (g := (mkF m 229 #[iv p1, iv p2, iv p3, iv p4, iv p5, iv nn, rv b1, iv 1, rv b40, rv b47, .unset] [.ref b47])) rfl (by rw [hml]; rfl) (argsL := [(.ref b47)]) (rest := []) (lenOf pd__Ljava_lang_String__Lcom_example_guarded_once_guardedonce_guard_MessageKey_ rfl) rfl (by show 2 * 0 + _ ≤ _; exact Nat.le_of_eq rfl) (hb hby at_229) (fun _ _ => ⟨rfl, rfl, (by decide : 5 + 3 ≤ _), (by decide : 20 + 25 ≤ _)⟩)
                  dsimp only [Pt.U, Pt.locs, Pt.cells, Pt.slots] at X49 l49 y49 z49 st49 hQ49 hS49 gS49
                  subst l49 y49 z49
                  obtain ⟨X49, hS, hZ', hown⟩ := rebS hS hk X49 hS49 gS49 hZ hown
                  have hk : T49.heap.size ≤ T49.heap.size := Nat.le_refl _
                  have hZ := hZ'
                  obtain ⟨b_49, rfl, Nq49, Kq49, Fq49_0, Fq49_1, Fq49_2, gb_49⟩ := hQ49
                  have Nf49 := Fr.app Nf48 Nq49
                  have K49 : Keep h0 T49.heap [] := K48.trans Kq49 all0
                  have sz_b_49 : h0.size ≤ b_49 := Nat.le_trans K48.1 gb_49
                  have g_b_49 : n0 ≤ b_49 := Nat.le_trans Z48 gb_49
                  have ne_b1_b_49 : b1 ≠ b_49 := Nat.ne_of_lt (Nat.lt_of_lt_of_le ((((((V9.ext E40).other W42 ne_b1_b40).other W44 ne_b1_b40).other W46 ne_b1_b40).ext E47).keep Kq48 (ninS ne_b1_b47 nin0)).lt gb_49)
                  have ne_b40_b_49 : b40 ≠ b_49 := Nat.ne_of_lt (Nat.lt_of_lt_of_le ((V46.ext E47).keep Kq48 (ninS ne_b40_b47 nin0)).lt gb_49)
                  have ne_b47_b_49 : b47 ≠ b_49 := Nat.ne_of_lt (Nat.lt_of_lt_of_le Fq48_0.lt gb_49)
                  have ne_b_48_b_49 : b_48 ≠ b_49 := Nat.ne_of_lt (Nat.lt_of_lt_of_le Fq48_3.lt gb_49)
                  have Z49 : n0 ≤ T49.heap.size := Nat.le_trans Z48 Kq49.1
                  refine own_fw (A' := (T49.setTop (mkF m 236 #[iv p1, iv p2, iv p3, iv p4, iv p5, iv nn, rv b1, iv 1, rv b40, rv b47, rv b_49] [.ref b_49]))) (fun t k => st49.trans (XS.astore X49.here hx rfl (hb hby at_232) rfl rfl (l' := #[iv p1, iv p2, iv p3, iv p4, iv p5, iv nn, rv b1, iv 1, rv b40, rv b47, rv b_49]) rfl (XS.aload X49.here hx rfl (hb hby at_234) rfl rfl k))) ?_
                  obtain ⟨cq50, kq50, qa50, qb50, qc50⟩ := isOf hZ rfl Fq49_0
                  obtain ⟨_, _, ⟨T50, L50, k50, n50⟩, -, X50, ⟨Lc50, hQ50, l50, y50, z50⟩, st50⟩ := X49.virtualBack hx (y := yq74) (z := yq74) hown (mvT hZ (own_w hw 148 rfl)) (mvT hZ (own_w hw 149 rfl)) (notFace_of_selects (args := #[]) (mvT hZ (own_w hw 151 rfl))) (mvT hZ (own_w hw 151 rfl)) (mvT hZ (own_w hw 150 rfl)) (by decide) (backOf (W := 0) (rmVal l Z a0 hw [] b_49 b47 T49.heap n0 Z49 Fq49_1) hZ (own_w hw 152 rfl) (own_w hw 69 rfl) (by decide) (by decide)) qa50 qc50 (g := (mkF m 236 #[iv p1, iv p2, iv p3, iv p4, iv p5, iv nn, rv b1, iv 1, rv b40, rv b47, rv b_49] [.ref b_49])) rfl (by rw [hml]; rfl) (Steps.refl _) (argsL := []) (rest := []) (lenOf pd___Ljava_lang_String_ rfl) rfl (by show 2 * 0 + _ ≤ _; exact Nat.le_of_eq rfl) (hb hby at_236) (fun _ _ => ⟨rfl, rfl, (by decide : 8 + 0 ≤ _), (by decide : 45 + 0 ≤ _)⟩)
                  dsimp only [Pt.U, Pt.locs, Pt.cells, Pt.slots] at X50 l50 y50 z50 st50 hQ50
                  subst l50 y50 z50
                  obtain ⟨rfl, Nq50, e50⟩ := hQ50
                  have Nf50 := Fr.app Nf49 Nq50
                  refine own_fw (A' := (T50.setTop (mkF m 241 #[iv p1, iv p2, iv p3, iv p4, iv p5, iv nn, rv b1, iv 1, rv b40, rv b47, rv b_49] [.ref b47, .ref b47]))) (fun t k => st50.trans (XS.aload X50.here hx rfl (hb hby at_239) rfl rfl k)) ?_
                  obtain ⟨cq51, kq51, qa51, qb51, qc51⟩ := isOf hZ e50 Fq49_2
                  obtain ⟨_, _, ⟨T51, L51, k51, n51⟩, -, X51, ⟨Lc51, hQ51, l51, y51, z51⟩, st51⟩ := X50.virtualBack hx (y := yq75) (z := yq75) hown (mvT hZ (own_w hw 153 rfl)) (mvT hZ (own_w hw 154 rfl)) (notFace_of_selects (args := #[]) (mvT hZ (own_w hw 156 rfl))) (mvT hZ (own_w hw 156 rfl)) (mvT hZ (own_w hw 155 rfl)) (by decide) (backOf (W := 0) (rmEq l Z a0 hw [] b47 T49.heap n0 Z49 ) hZ (own_w hw 157 rfl) (own_w hw 21 rfl) (by decide) (by decide)) qa51 qc51 (g := (mkF m 241 #[iv p1, iv p2, iv p3, iv p4, iv p5, iv nn, rv b1, iv 1, rv b40, rv b47, rv b_49] [.ref b47, .ref b47])) rfl (by rw [hml]; rfl) (Steps.refl _) (argsL := [(.ref b47)]) (rest := []) (lenOf pd__Ljava_lang_Object__Z rfl) rfl (by show 2 * 0 + _ ≤ _; exact Nat.le_of_eq rfl) (hb hby at_241) (fun _ _ => ⟨rfl, e50, (by decide : 8 + 0 ≤ _), (by decide : 45 + 0 ≤ _)⟩)
                  dsimp only [Pt.U, Pt.locs, Pt.cells, Pt.slots] at X51 l51 y51 z51 st51 hQ51
                  subst l51 y51 z51
                  obtain ⟨rfl, Nq51, e51⟩ := hQ51
                  have Nf51 := Fr.app Nf50 Nq51
                  refine own_fw (A' := (T51.setTop (mkF m 244 #[iv p1, iv p2, iv p3, iv p4, iv p5, iv nn, rv b1, iv 1, rv b40, rv b47, rv b_49] [.int 1]))) (fun t k => st51.trans k) ?_
                  obtain ⟨fs, hr, hrun, hended, hWE⟩ := X51.leaveW hS (by rw [e51]; exact hk : _ ≤ T51.heap.size) (v := some (.int 1)) (fun h => by rw [Bd.returns] at h; cases h)
                  refine ⟨_, _, ?_, hrun, hended, _, _, rfl, ?_, own_widen hWE (by decide) (by decide)⟩
                  · exact retOut X51 hx Bd.returns rfl (Or.inl ⟨rfl, by simp, _, rfl⟩) (hb hby at_244) hr
                  · show Q_rm0 Z p1 p2 p3 p4 p5 cs sv h0 n0 _ T51.heap _
                    rw [e51]
                    exact ⟨rfl, Nf51⟩
                · obtain ⟨_, _, ⟨T52, L52, k52, n52⟩, -, X52, ⟨Lc52, hQ52, l52, y52, z52⟩, st52⟩ := X47.specialBack hx (y := yq9) rfl hown (mvT hZ (own_w hw 22 rfl)) (mvT hZ (own_w hw 23 rfl)) (mvT hZ (own_w hw 24 rfl)) (by decide) (backOf (W := 1) (rmStrA3 l Z a0 hw [] b47 b40 k40 cs r_2 r_4 r_6 h47 n0 Z47 A47 F_coder_b47 F_value_b47 (V46.ext E47) g_b47 (Ne.symm ne_b40_b47) ((((((((((P0.ext E1).wr W3).wr W5).wr W7).wr W9).ext E40).wr W42).wr W44).wr W46).ext E47) hcs (fun q => hbg (Or.inl q)) (fun q => hbg (Or.inr (Or.inl q))) (fun q => hbg (Or.inr (Or.inr (q))))) hZ (own_w hw 24 rfl) (own_w hw 21 rfl) (by decide) (by decide)) (g := (mkF m 222 #[iv p1, iv p2, iv p3, iv p4, iv p5, iv nn, rv b1, iv 1, rv b40, .unset, .unset] [.ref b40, .ref b47, .ref b47])) rfl (by rw [hml]; rfl) (Steps.refl _) (a := b47) (argsL := [(.ref b40)]) (rest := [(.ref b47)]) (lenOf pd___C_V rfl) rfl (by show 2 * 0 + _ ≤ _; exact Nat.le_of_eq rfl) (hb hby at_222) (fun _ _ => ⟨rfl, e47, (by decide : 3 + 1 ≤ _), (by decide : 11 + 3 ≤ _)⟩)
                  dsimp only [Pt.U, Pt.locs, Pt.cells, Pt.slots] at X52 l52 y52 z52 st52 hQ52
                  subst l52 y52 z52
                  obtain ⟨b_52, kb_52, rfl, Nq52, Kq52, Fq52_0, Fq52_1, Fq52_2, Fq52_3⟩ := hQ52
                  have Nf52 := Fr.app Nf46 Nq52
                  have hk := Nat.le_trans hk Kq52.1
                  have K52 : Keep h0 T52.heap [] := K47.trans Kq52 (allS (Or.inr sz_b47) all0)
                  have Z52 : n0 ≤ T52.heap.size := Nat.le_trans Z47 Kq52.1
                  refine own_fw (A' := (T52.setTop (mkF m 229 #[iv p1, iv p2, iv p3, iv p4, iv p5, iv nn, rv b1, iv 1, rv b40, rv b47, .unset] [.ref b47]))) (fun t k => st52.trans (XS.astore X52.here hx rfl (hb hby at_225) rfl rfl (l' := #[iv p1, iv p2, iv p3, iv p4, iv p5, iv nn, rv b1, iv 1, rv b40, rv b47, .unset]) rfl (XS.aload X52.here hx rfl (hb hby at_227) rfl rfl k))) ?_
                  obtain ⟨_, _, ⟨T53, L53, k53, n53⟩, -, X53, hS53, gS53, ⟨Lc53, hQ53, l53, y53, z53⟩, st53⟩ := callSS X52 hx (y := yq77) hown (mvT hZ (own_w hw 67 rfl)) (mvT hZ (own_w hw 68 rfl)) (mvT hZ (own_w hw 69 rfl)) (mvT hZ (own_w hw 70 rfl)) (by decide) (backOfS (W := 0) (rmOfL l Z a0 hw [] b47 b_52 kb_52 cs ([r_2, r_4, r_6]) sv T52.heap n0 Z52 Fq52_0 Fq52_1 Fq52_2 Fq52_3 (own_staKeep ((((((((((P0.ext E1).wr W3).wr W5).wr W7).wr W9).ext E40).wr W42).wr W44).wr W46).ext E47) Kq52 (allS (own_plainE A47) all0)) hcs (own_staKeep ((((((((((P5.ext E1).wr W3).wr W5).wr W7).wr W9).ext E40).wr W42).wr W44).wr W46).ext E47) Kq52 (allS (own_plainE A47) all0)) hsv hFn (own_ltW hWn (own_b3 hbg))) hZ (own_w hw 70 rfl) (own_w hw 69 rfl) (by decide) (by decide)) (g := (mkF m 229 #[iv p1, iv p2, iv p3, iv p4, iv p5, iv nn, rv b1, iv 1, rv b40, rv b47, .unset] [.ref b47])) rfl (by rw [hml]; rfl) (argsL := [(.ref b47)]) (rest := []) (lenOf pd__Ljava_lang_String__Lcom_example_guarded_once_guardedonce_guard_MessageKey_ rfl) rfl (by show 2 * 0 + _ ≤ _; exact Nat.le_of_eq rfl) (hb hby at_229) (fun _ _ => ⟨rfl, rfl, (by decide : 4 + 3 ≤ _), (by decide : 14 + 25 ≤ _)⟩)
                  dsimp only [Pt.U, Pt.locs, Pt.cells, Pt.slots] at X53 l53 y53 z53 st53 hQ53 hS53 gS53
                  subst l53 y53 z53
                  obtain ⟨X53, hS, hZ', hown⟩ := rebS hS hk X53 hS53 gS53 hZ hown
                  have hk : T53.heap.size ≤ T53.heap.size := Nat.le_refl _
                  have hZ := hZ'
                  obtain ⟨b_53, rfl, Nq53, Kq53, Fq53_0, Fq53_1, Fq53_2, gb_53⟩ := hQ53
                  have Nf53 := Fr.app Nf52 Nq53
                  have K53 : Keep h0 T53.heap [] := K52.trans Kq53 all0
                  have sz_b_53 : h0.size ≤ b_53 := Nat.le_trans K52.1 gb_53
                  have g_b_53 : n0 ≤ b_53 := Nat.le_trans Z52 gb_53
                  have ne_b1_b_53 : b1 ≠ b_53 := Nat.ne_of_lt (Nat.lt_of_lt_of_le ((((((V9.ext E40).other W42 ne_b1_b40).other W44 ne_b1_b40).other W46 ne_b1_b40).ext E47).keep Kq52 (ninS ne_b1_b47 nin0)).lt gb_53)
                  have ne_b40_b_53 : b40 ≠ b_53 := Nat.ne_of_lt (Nat.lt_of_lt_of_le ((V46.ext E47).keep Kq52 (ninS ne_b40_b47 nin0)).lt gb_53)
                  have ne_b47_b_53 : b47 ≠ b_53 := Nat.ne_of_lt (Nat.lt_of_lt_of_le Fq52_0.lt gb_53)
                  have ne_b_52_b_53 : b_52 ≠ b_53 := Nat.ne_of_lt (Nat.lt_of_lt_of_le Fq52_3.lt gb_53)
                  have Z53 : n0 ≤ T53.heap.size := Nat.le_trans Z52 Kq53.1
                  refine own_fw (A' := (T53.setTop (mkF m 236 #[iv p1, iv p2, iv p3, iv p4, iv p5, iv nn, rv b1, iv 1, rv b40, rv b47, rv b_53] [.ref b_53]))) (fun t k => st53.trans (XS.astore X53.here hx rfl (hb hby at_232) rfl rfl (l' := #[iv p1, iv p2, iv p3, iv p4, iv p5, iv nn, rv b1, iv 1, rv b40, rv b47, rv b_53]) rfl (XS.aload X53.here hx rfl (hb hby at_234) rfl rfl k))) ?_
                  obtain ⟨cq54, kq54, qa54, qb54, qc54⟩ := isOf hZ rfl Fq53_0
                  obtain ⟨_, _, ⟨T54, L54, k54, n54⟩, -, X54, ⟨Lc54, hQ54, l54, y54, z54⟩, st54⟩ := X53.virtualBack hx (y := yq74) (z := yq74) hown (mvT hZ (own_w hw 148 rfl)) (mvT hZ (own_w hw 149 rfl)) (notFace_of_selects (args := #[]) (mvT hZ (own_w hw 151 rfl))) (mvT hZ (own_w hw 151 rfl)) (mvT hZ (own_w hw 150 rfl)) (by decide) (backOf (W := 0) (rmVal l Z a0 hw [] b_53 b47 T53.heap n0 Z53 Fq53_1) hZ (own_w hw 152 rfl) (own_w hw 69 rfl) (by decide) (by decide)) qa54 qc54 (g := (mkF m 236 #[iv p1, iv p2, iv p3, iv p4, iv p5, iv nn, rv b1, iv 1, rv b40, rv b47, rv b_53] [.ref b_53])) rfl (by rw [hml]; rfl) (Steps.refl _) (argsL := []) (rest := []) (lenOf pd___Ljava_lang_String_ rfl) rfl (by show 2 * 0 + _ ≤ _; exact Nat.le_of_eq rfl) (hb hby at_236) (fun _ _ => ⟨rfl, rfl, (by decide : 7 + 0 ≤ _), (by decide : 39 + 0 ≤ _)⟩)
                  dsimp only [Pt.U, Pt.locs, Pt.cells, Pt.slots] at X54 l54 y54 z54 st54 hQ54
                  subst l54 y54 z54
                  obtain ⟨rfl, Nq54, e54⟩ := hQ54
                  have Nf54 := Fr.app Nf53 Nq54
                  refine own_fw (A' := (T54.setTop (mkF m 241 #[iv p1, iv p2, iv p3, iv p4, iv p5, iv nn, rv b1, iv 1, rv b40, rv b47, rv b_53] [.ref b47, .ref b47]))) (fun t k => st54.trans (XS.aload X54.here hx rfl (hb hby at_239) rfl rfl k)) ?_
                  obtain ⟨cq55, kq55, qa55, qb55, qc55⟩ := isOf hZ e54 Fq53_2
                  obtain ⟨_, _, ⟨T55, L55, k55, n55⟩, -, X55, ⟨Lc55, hQ55, l55, y55, z55⟩, st55⟩ := X54.virtualBack hx (y := yq75) (z := yq75) hown (mvT hZ (own_w hw 153 rfl)) (mvT hZ (own_w hw 154 rfl)) (notFace_of_selects (args := #[]) (mvT hZ (own_w hw 156 rfl))) (mvT hZ (own_w hw 156 rfl)) (mvT hZ (own_w hw 155 rfl)) (by decide) (backOf (W := 0) (rmEq l Z a0 hw [] b47 T53.heap n0 Z53 ) hZ (own_w hw 157 rfl) (own_w hw 21 rfl) (by decide) (by decide)) qa55 qc55 (g := (mkF m 241 #[iv p1, iv p2, iv p3, iv p4, iv p5, iv nn, rv b1, iv 1, rv b40, rv b47, rv b_53] [.ref b47, .ref b47])) rfl (by rw [hml]; rfl) (Steps.refl _) (argsL := [(.ref b47)]) (rest := []) (lenOf pd__Ljava_lang_Object__Z rfl) rfl (by show 2 * 0 + _ ≤ _; exact Nat.le_of_eq rfl) (hb hby at_241) (fun _ _ => ⟨rfl, e54, (by decide : 7 + 0 ≤ _), (by decide : 39 + 0 ≤ _)⟩)
                  dsimp only [Pt.U, Pt.locs, Pt.cells, Pt.slots] at X55 l55 y55 z55 st55 hQ55
                  subst l55 y55 z55
                  obtain ⟨rfl, Nq55, e55⟩ := hQ55
                  have Nf55 := Fr.app Nf54 Nq55
                  refine own_fw (A' := (T55.setTop (mkF m 244 #[iv p1, iv p2, iv p3, iv p4, iv p5, iv nn, rv b1, iv 1, rv b40, rv b47, rv b_53] [.int 1]))) (fun t k => st55.trans k) ?_
                  obtain ⟨fs, hr, hrun, hended, hWE⟩ := X55.leaveW hS (by rw [e55]; exact hk : _ ≤ T55.heap.size) (v := some (.int 1)) (fun h => by rw [Bd.returns] at h; cases h)
                  refine ⟨_, _, ?_, hrun, hended, _, _, rfl, ?_, own_widen hWE (by decide) (by decide)⟩
                  · exact retOut X55 hx Bd.returns rfl (Or.inl ⟨rfl, by simp, _, rfl⟩) (hb hby at_244) hr
                  · show Q_rm0 Z p1 p2 p3 p4 p5 cs sv h0 n0 _ T55.heap _
                    rw [e55]
                    exact ⟨rfl, Nf55⟩
              · refine own_fw (A' := (T13.setTop (mkF m 184 #[iv p1, iv p2, iv p3, iv p4, iv p5, iv nn, rv b1, iv 1, .unset, .unset, .unset] [.int 4]))) (fun t k => XS.icmpYes X13.here hx rfl (pc0 := 151) (pc' := 183) rfl (hb hby at_151) rfl (XT.ii_ne_t hn3) (by decide) (by decide) (XS.iconst X13.here hx rfl (hb hby at_183) k)) ?_
                obtain ⟨T56, h56, k56, X56, e56, E56, A56, st56⟩ := newP X13 hx hZ (own_w hw 0 rfl) e13 (g := (mkF m 184 #[iv p1, iv p2, iv p3, iv p4, iv p5, iv nn, rv b1, iv 1, .unset, .unset, .unset] [.int 4])) rfl (hb hby at_184) rfl (by decide) (cap := 4) (by decide) (by decide) (by decide) (by decide)
                obtain ⟨b56, gb56⟩ : ∃ z, z = h9.size := ⟨_, rfl⟩
                have g_b56 : n0 ≤ b56 := Nat.le_trans Z9 (Nat.le_of_eq gb56.symm)
                have sz_b56 : h0.size ≤ b56 := Nat.le_trans K9.1 (Nat.le_of_eq gb56.symm)
                have ne_b1_b56 : b1 ≠ b56 := Nat.ne_of_lt (Nat.lt_of_lt_of_le V9.lt (Nat.le_of_eq gb56.symm))
                rw [← gb56] at A56 st56
                have V_b56 : Arv Z h56 b56 k56 .char (4 : Int32) [(.int 0), (.int 0), (.int 0), (.int 0)] (.int 0) := (Arv.new A56 (by decide)).pad (pad_rep [] (.int 0) 4)
                have K56 : Keep h0 h56 [] := K9.ext E56
                have Z56 : n0 ≤ h56.size := Nat.le_trans Z9 E56.1
                have hk := Nat.le_trans hk E56.1
                refine own_fw (A' := (T56.setTop (mkF m 191 #[iv p1, iv p2, iv p3, iv p4, iv p5, iv nn, rv b1, iv 1, .unset, .unset, .unset] [.int 0, .ref b1, .int 0, .ref b56, .ref b56]))) (fun t k => st56 _ (XS.dup X56.here hx rfl (hb hby at_186) rfl rfl (XS.iconst X56.here hx rfl (hb hby at_187) (XS.aload X56.here hx rfl (hb hby at_188) rfl rfl (XS.iconst X56.here hx rfl (hb hby at_190) k))))) ?_
                obtain ⟨cl57, Ar57, q57, S57, M57, H57, G57⟩ := id (V9.ext E56)
                have hin57 : ¬ ((0 : Int32) < 0 ∨ cl57.slots.size ≤ ((0 : Int32)).toNatClampNeg) := inb_of S57 ⟨by decide, by decide⟩
                have hat57 : cl57.slots[((0 : Int32)).toNatClampNeg]? = some (.int r_2) := H57.at hin57 rfl
                refine own_fw (A' := (T56.setTop (mkF m 192 #[iv p1, iv p2, iv p3, iv p4, iv p5, iv nn, rv b1, iv 1, .unset, .unset, .unset] [.int r_2, .int 0, .ref b56, .ref b56]))) (fun t k => X56.caload hx (j := (0 : Int32)) (v := (.int r_2)) (by rw [e56]; exact Ar57.1) (State.isArrayOf_alike hZ.alike Ar57.2.1) Ar57.2.2 hin57 hat57 (g := (mkF m 191 #[iv p1, iv p2, iv p3, iv p4, iv p5, iv nn, rv b1, iv 1, .unset, .unset, .unset] [.int 0, .ref b1, .int 0, .ref b56, .ref b56])) rfl rfl (hb hby at_191) _ k) ?_
                obtain ⟨cl58, Ar58, q58, S58, M58, H58, G58⟩ := id V_b56
                have hin58 : ¬ ((0 : Int32) < 0 ∨ cl58.slots.size ≤ ((0 : Int32)).toNatClampNeg) := inb_of S58 ⟨by decide, by decide⟩
                obtain ⟨T58, h58, X58, e58, W58, st58⟩ := stC X56 hx hZ e56 Ar58 (j := (0 : Int32)) hin58 (g := (mkF m 192 #[iv p1, iv p2, iv p3, iv p4, iv p5, iv nn, rv b1, iv 1, .unset, .unset, .unset] [.int r_2, .int 0, .ref b56, .ref b56])) rfl rfl (hb hby at_192)
                rw [(own_nar16 hr_2)] at W58
                have V58 : Arv Z h58 b56 k56 .char (4 : Int32) [(.int r_2), (.int 0), (.int 0), (.int 0)] (.int 0) := Arv.set Ar58 q58 S58 M58 H58 G58 (own_fit16 hr_2) W58 0 rfl (Nat.le_of_ble_eq_true rfl)
                have Nf58 := Fr.snoc X58 Nf13 g_b56
                have K58 : Keep h0 h58 [] := K56.wr W58 (Or.inr sz_b56)
                have Z58 : n0 ≤ h58.size := Nat.le_trans Z56 (Keep.of_wr W58).1
                have hk := Nat.le_trans hk (Keep.of_wr W58).1
                refine own_fw (A' := (T58.setTop (mkF m 198 #[iv p1, iv p2, iv p3, iv p4, iv p5, iv nn, rv b1, iv 1, .unset, .unset, .unset] [.int 1, .ref b1, .int 1, .ref b56, .ref b56]))) (fun t k => st58 _ (XS.dup X58.here hx rfl (hb hby at_193) rfl rfl (XS.iconst X58.here hx rfl (hb hby at_194) (XS.aload X58.here hx rfl (hb hby at_195) rfl rfl (XS.iconst X58.here hx rfl (hb hby at_197) k))))) ?_
                obtain ⟨cl59, Ar59, q59, S59, M59, H59, G59⟩ := id ((V9.ext E56).other W58 ne_b1_b56)
                have hin59 : ¬ ((1 : Int32) < 0 ∨ cl59.slots.size ≤ ((1 : Int32)).toNatClampNeg) := inb_of S59 ⟨by decide, by decide⟩
                have hat59 : cl59.slots[((1 : Int32)).toNatClampNeg]? = some (.int r_4) := H59.at hin59 rfl
                refine own_fw (A' := (T58.setTop (mkF m 199 #[iv p1, iv p2, iv p3, iv p4, iv p5, iv nn, rv b1, iv 1, .unset, .unset, .unset] [.int r_4, .int 1, .ref b56, .ref b56]))) (fun t k => X58.caload hx (j := (1 : Int32)) (v := (.int r_4)) (by rw [e58]; exact Ar59.1) (State.isArrayOf_alike hZ.alike Ar59.2.1) Ar59.2.2 hin59 hat59 (g := (mkF m 198 #[iv p1, iv p2, iv p3, iv p4, iv p5, iv nn, rv b1, iv 1, .unset, .unset, .unset] [.int 1, .ref b1, .int 1, .ref b56, .ref b56])) rfl rfl (hb hby at_198) _ k) ?_
                obtain ⟨cl60, Ar60, q60, S60, M60, H60, G60⟩ := id V58
                have hin60 : ¬ ((1 : Int32) < 0 ∨ cl60.slots.size ≤ ((1 : Int32)).toNatClampNeg) := inb_of S60 ⟨by decide, by decide⟩
                obtain ⟨T60, h60, X60, e60, W60, st60⟩ := stC X58 hx hZ e58 Ar60 (j := (1 : Int32)) hin60 (g := (mkF m 199 #[iv p1, iv p2, iv p3, iv p4, iv p5, iv nn, rv b1, iv 1, .unset, .unset, .unset] [.int r_4, .int 1, .ref b56, .ref b56])) rfl rfl (hb hby at_199)
                rw [(own_nar16 hr_4)] at W60
                have V60 : Arv Z h60 b56 k56 .char (4 : Int32) [(.int r_2), (.int r_4), (.int 0), (.int 0)] (.int 0) := Arv.set Ar60 q60 S60 M60 H60 G60 (own_fit16 hr_4) W60 1 rfl (Nat.le_of_ble_eq_true rfl)
                have Nf60 := Fr.snoc X60 Nf58 g_b56
                have K60 : Keep h0 h60 [] := K58.wr W60 (Or.inr sz_b56)
                have Z60 : n0 ≤ h60.size := Nat.le_trans Z58 (Keep.of_wr W60).1
                have hk := Nat.le_trans hk (Keep.of_wr W60).1
                refine own_fw (A' := (T60.setTop (mkF m 205 #[iv p1, iv p2, iv p3, iv p4, iv p5, iv nn, rv b1, iv 1, .unset, .unset, .unset] [.int 2, .ref b1, .int 2, .ref b56, .ref b56]))) (fun t k => st60 _ (XS.dup X60.here hx rfl (hb hby at_200) rfl rfl (XS.iconst X60.here hx rfl (hb hby at_201) (XS.aload X60.here hx rfl (hb hby at_202) rfl rfl (XS.iconst X60.here hx rfl (hb hby at_204) k))))) ?_
                obtain ⟨cl61, Ar61, q61, S61, M61, H61, G61⟩ := id (((V9.ext E56).other W58 ne_b1_b56).other W60 ne_b1_b56)
                have hin61 : ¬ ((2 : Int32) < 0 ∨ cl61.slots.size ≤ ((2 : Int32)).toNatClampNeg) := inb_of S61 ⟨by decide, by decide⟩
                have hat61 : cl61.slots[((2 : Int32)).toNatClampNeg]? = some (.int r_6) := H61.at hin61 rfl
                refine own_fw (A' := (T60.setTop (mkF m 206 #[iv p1, iv p2, iv p3, iv p4, iv p5, iv nn, rv b1, iv 1, .unset, .unset, .unset] [.int r_6, .int 2, .ref b56, .ref b56]))) (fun t k => X60.caload hx (j := (2 : Int32)) (v := (.int r_6)) (by rw [e60]; exact Ar61.1) (State.isArrayOf_alike hZ.alike Ar61.2.1) Ar61.2.2 hin61 hat61 (g := (mkF m 205 #[iv p1, iv p2, iv p3, iv p4, iv p5, iv nn, rv b1, iv 1, .unset, .unset, .unset] [.int 2, .ref b1, .int 2, .ref b56, .ref b56])) rfl rfl (hb hby at_205) _ k) ?_
                obtain ⟨cl62, Ar62, q62, S62, M62, H62, G62⟩ := id V60
                have hin62 : ¬ ((2 : Int32) < 0 ∨ cl62.slots.size ≤ ((2 : Int32)).toNatClampNeg) := inb_of S62 ⟨by decide, by decide⟩
                obtain ⟨T62, h62, X62, e62, W62, st62⟩ := stC X60 hx hZ e60 Ar62 (j := (2 : Int32)) hin62 (g := (mkF m 206 #[iv p1, iv p2, iv p3, iv p4, iv p5, iv nn, rv b1, iv 1, .unset, .unset, .unset] [.int r_6, .int 2, .ref b56, .ref b56])) rfl rfl (hb hby at_206)
                rw [(own_nar16 hr_6)] at W62
                have V62 : Arv Z h62 b56 k56 .char (4 : Int32) [(.int r_2), (.int r_4), (.int r_6), (.int 0)] (.int 0) := Arv.set Ar62 q62 S62 M62 H62 G62 (own_fit16 hr_6) W62 2 rfl (Nat.le_of_ble_eq_true rfl)
                have Nf62 := Fr.snoc X62 Nf60 g_b56
                have K62 : Keep h0 h62 [] := K60.wr W62 (Or.inr sz_b56)
                have Z62 : n0 ≤ h62.size := Nat.le_trans Z60 (Keep.of_wr W62).1
                have hk := Nat.le_trans hk (Keep.of_wr W62).1
                refine own_fw (A' := (T62.setTop (mkF m 212 #[iv p1, iv p2, iv p3, iv p4, iv p5, iv nn, rv b1, iv 1, .unset, .unset, .unset] [.int 3, .ref b1, .int 3, .ref b56, .ref b56]))) (fun t k => st62 _ (XS.dup X62.here hx rfl (hb hby at_207) rfl rfl (XS.iconst X62.here hx rfl (hb hby at_208) (XS.aload X62.here hx rfl (hb hby at_209) rfl rfl (XS.iconst X62.here hx rfl (hb hby at_211) k))))) ?_
                obtain ⟨cl63, Ar63, q63, S63, M63, H63, G63⟩ := id ((((V9.ext E56).other W58 ne_b1_b56).other W60 ne_b1_b56).other W62 ne_b1_b56)
                have hin63 : ¬ ((3 : Int32) < 0 ∨ cl63.slots.size ≤ ((3 : Int32)).toNatClampNeg) := inb_of S63 ⟨by decide, by decide⟩
                have hat63 : cl63.slots[((3 : Int32)).toNatClampNeg]? = some (.int r_8) := H63.at hin63 rfl
                refine own_fw (A' := (T62.setTop (mkF m 213 #[iv p1, iv p2, iv p3, iv p4, iv p5, iv nn, rv b1, iv 1, .unset, .unset, .unset] [.int r_8, .int 3, .ref b56, .ref b56]))) (fun t k => X62.caload hx (j := (3 : Int32)) (v := (.int r_8)) (by rw [e62]; exact Ar63.1) (State.isArrayOf_alike hZ.alike Ar63.2.1) Ar63.2.2 hin63 hat63 (g := (mkF m 212 #[iv p1, iv p2, iv p3, iv p4, iv p5, iv nn, rv b1, iv 1, .unset, .unset, .unset] [.int 3, .ref b1, .int 3, .ref b56, .ref b56])) rfl rfl (hb hby at_212) _ k) ?_
                obtain ⟨cl64, Ar64, q64, S64, M64, H64, G64⟩ := id V62
                have hin64 : ¬ ((3 : Int32) < 0 ∨ cl64.slots.size ≤ ((3 : Int32)).toNatClampNeg) := inb_of S64 ⟨by decide, by decide⟩
                obtain ⟨T64, h64, X64, e64, W64, st64⟩ := stC X62 hx hZ e62 Ar64 (j := (3 : Int32)) hin64 (g := (mkF m 213 #[iv p1, iv p2, iv p3, iv p4, iv p5, iv nn, rv b1, iv 1, .unset, .unset, .unset] [.int r_8, .int 3, .ref b56, .ref b56])) rfl rfl (hb hby at_213)
                rw [(own_nar16 hr_8)] at W64
                have V64 : Arv Z h64 b56 k56 .char (4 : Int32) [(.int r_2), (.int r_4), (.int r_6), (.int r_8)] (.int 0) := Arv.set Ar64 q64 S64 M64 H64 G64 (own_fit16 hr_8) W64 3 rfl (Nat.le_of_ble_eq_true rfl)
                have Nf64 := Fr.snoc X64 Nf62 g_b56
                have K64 : Keep h0 h64 [] := K62.wr W64 (Or.inr sz_b56)
                have Z64 : n0 ≤ h64.size := Nat.le_trans Z62 (Keep.of_wr W64).1
                have hk := Nat.le_trans hk (Keep.of_wr W64).1
                refine own_fw (A' := (T64.setTop (mkF m 216 #[iv p1, iv p2, iv p3, iv p4, iv p5, iv nn, rv b1, iv 1, rv b56, .unset, .unset] []))) (fun t k => st64 _ (XS.astore X64.here hx rfl (hb hby at_214) rfl rfl (l' := #[iv p1, iv p2, iv p3, iv p4, iv p5, iv nn, rv b1, iv 1, rv b56, .unset, .unset]) rfl k)) ?_
                have hFn := own_fine4 hr_2 hr_4 hr_6 hr_8
                have hWn := own_w4 (own_n4 h_nn hn1 hn2 hn3) hr_2 hr_4 hr_6 hr_8 hk0 hk1 hk2 hk3
                obtain ⟨T65, h65, X65, e65, E65, A65, D65, -, st65⟩ := newO X64 hx hZ hown (own_w hw 19 rfl) (own_w hw 20 rfl) (own_w hw 21 rfl) e64 (g := (mkF m 216 #[iv p1, iv p2, iv p3, iv p4, iv p5, iv nn, rv b1, iv 1, rv b56, .unset, .unset] [])) rfl (hb hby at_216) (by decide) (by decide)
                obtain ⟨b65, gb65⟩ : ∃ z, z = h64.size := ⟨_, rfl⟩
                have g_b65 : n0 ≤ b65 := Nat.le_trans Z64 (Nat.le_of_eq gb65.symm)
                have sz_b65 : h0.size ≤ b65 := Nat.le_trans K64.1 (Nat.le_of_eq gb65.symm)
                have ne_b1_b65 : b1 ≠ b65 := Nat.ne_of_lt (Nat.lt_of_lt_of_le (((((V9.ext E56).other W58 ne_b1_b56).other W60 ne_b1_b56).other W62 ne_b1_b56).other W64 ne_b1_b56).lt (Nat.le_of_eq gb65.symm))
                have ne_b56_b65 : b56 ≠ b65 := Nat.ne_of_lt (Nat.lt_of_lt_of_le V64.lt (Nat.le_of_eq gb65.symm))
                rw [← gb65] at A65 D65 st65
                have F_coder_b65 : Fld Z h65 b65 "java/lang/String" "coder" "B" (.int 0) := D65 (Or.inr (own_w hw 64 rfl)) (ty := .byte) (by decide)
                have F_value_b65 : Fld Z h65 b65 "java/lang/String" "value" "[B" .null := D65 (Or.inr (own_w hw 66 rfl)) (ty := (.array .byte)) (by decide)
                have K65 : Keep h0 h65 [] := K64.ext E65
                have Z65 : n0 ≤ h65.size := Nat.le_trans Z64 E65.1
                have hk := Nat.le_trans hk E65.1
                refine own_fw (A' := (T65.setTop (mkF m 222 #[iv p1, iv p2, iv p3, iv p4, iv p5, iv nn, rv b1, iv 1, rv b56, .unset, .unset] [.ref b56, .ref b65, .ref b65]))) (fun t k => st65 _ (XS.dup X65.here hx rfl (hb hby at_219) rfl rfl (XS.aload X65.here hx rfl (hb hby at_220) rfl rfl k))) ?_
                by_cases hbg : (255 : Int32) < r_2 ∨ (255 : Int32) < r_4 ∨ (255 : Int32) < r_6 ∨ (255 : Int32) < r_8
                · obtain ⟨_, _, ⟨T66, L66, k66, n66⟩, -, X66, ⟨Lc66, hQ66, l66, y66, z66⟩, st66⟩ := X65.specialBack hx (y := yq9) rfl hown (mvT hZ (own_w hw 22 rfl)) (mvT hZ (own_w hw 23 rfl)) (mvT hZ (own_w hw 24 rfl)) (by decide) (backOf (W := 1) (rmStrA4U l Z a0 hw [] b65 b56 k56 cs r_2 r_4 r_6 r_8 h65 n0 Z65 A65 F_coder_b65 F_value_b65 (V64.ext E65) g_b65 (Ne.symm ne_b56_b65) (((((((((((P0.ext E1).wr W3).wr W5).wr W7).wr W9).ext E56).wr W58).wr W60).wr W62).wr W64).ext E65) hcs (((((((((((P2.ext E1).wr W3).wr W5).wr W7).wr W9).ext E56).wr W58).wr W60).wr W62).wr W64).ext E65) (((((((((((P3.ext E1).wr W3).wr W5).wr W7).wr W9).ext E56).wr W58).wr W60).wr W62).wr W64).ext E65) (((((((((((P4.ext E1).wr W3).wr W5).wr W7).wr W9).ext E56).wr W58).wr W60).wr W62).wr W64).ext E65) hbg hr_2 hr_4 hr_6 hr_8) hZ (own_w hw 24 rfl) (own_w hw 21 rfl) (by decide) (by decide)) (g := (mkF m 222 #[iv p1, iv p2, iv p3, iv p4, iv p5, iv nn, rv b1, iv 1, rv b56, .unset, .unset] [.ref b56, .ref b65, .ref b65])) rfl (by rw [hml]; rfl) (Steps.refl _) (a := b65) (argsL := [(.ref b56)]) (rest := [(.ref b65)]) (lenOf pd___C_V rfl) rfl (by show 2 * 0 + _ ≤ _; exact Nat.le_of_eq rfl) (hb hby at_222) (fun _ _ => ⟨rfl, e65, (by decide : 3 + 2 ≤ _), (by decide : 12 + 12 ≤ _)⟩)
                  dsimp only [Pt.U, Pt.locs, Pt.cells, Pt.slots] at X66 l66 y66 z66 st66 hQ66
                  subst l66 y66 z66
                  obtain ⟨b_66, kb_66, rfl, Nq66, Kq66, Fq66_0, Fq66_1, Fq66_2, Fq66_3⟩ := hQ66
                  have Nf66 := Fr.app Nf64 Nq66
                  have hk := Nat.le_trans hk Kq66.1
                  have K66 : Keep h0 T66.heap [] := K65.trans Kq66 (allS (Or.inr sz_b65) all0)
                  have Z66 : n0 ≤ T66.heap.size := Nat.le_trans Z65 Kq66.1
                  refine own_fw (A' := (T66.setTop (mkF m 229 #[iv p1, iv p2, iv p3, iv p4, iv p5, iv nn, rv b1, iv 1, rv b56, rv b65, .unset] [.ref b65]))) (fun t k => st66.trans (XS.astore X66.here hx rfl (hb hby at_225) rfl rfl (l' := #[iv p1, iv p2, iv p3, iv p4, iv p5, iv nn, rv b1, iv 1, rv b56, rv b65, .unset]) rfl (XS.aload X66.here hx rfl (hb hby at_227) rfl rfl k))) ?_
                  obtain ⟨_, _, ⟨T67, L67, k67, n67⟩, -, X67, hS67, gS67, ⟨Lc67, hQ67, l67, y67, z67⟩, st67⟩ := callSS X66 hx (y := yq77) hown (mvT hZ (own_w hw 67 rfl)) (mvT hZ (own_w hw 68 rfl)) (mvT hZ (own_w hw 69 rfl)) (mvT hZ (own_w hw 70 rfl)) (by decide) (backOfS (W := 0) (rmOfU l Z a0 hw [] b65 b_66 kb_66 cs ([r_2, r_4, r_6, r_8]) sv T66.heap n0 Z66 Fq66_0 Fq66_1 Fq66_2 Fq66_3 (own_staKeep (((((((((((P0.ext E1).wr W3).wr W5).wr W7).wr W9).ext E56).wr W58).wr W60).wr W62).wr W64).ext E65) Kq66 (allS (own_plainE A65) all0)) hcs (own_staKeep (((((((((((P5.ext E1).wr W3).wr W5).wr W7).wr W9).ext E56).wr W58).wr W60).wr W62).wr W64).ext E65) Kq66 (allS (own_plainE A65) all0)) hsv hFn (own_staKeep (((((((((((P2.ext E1).wr W3).wr W5).wr W7).wr W9).ext E56).wr W58).wr W60).wr W62).wr W64).ext E65) Kq66 (allS (own_plainE A65) all0)) (own_staKeep (((((((((((P3.ext E1).wr W3).wr W5).wr W7).wr W9).ext E56).wr W58).wr W60).wr W62).wr W64).ext E65) Kq66 (allS (own_plainE A65) all0)) (own_staKeep (((((((((((P4.ext E1).wr W3).wr W5).wr W7).wr W9).ext E56).wr W58).wr W60).wr W62).wr W64).ext E65) Kq66 (allS (own_plainE A65) all0)) (own_wf0 hFn hWn)) hZ (own_w hw 70 rfl) (own_w hw 69 rfl) (by decide) (by decide)) (g := (mkF m 229 #[iv p1, iv p2, iv p3, iv p4, iv p5, iv nn, rv b1, iv 1, rv b56, rv b65, .unset] [.ref b65])) rfl (by rw [hml]; rfl) (argsL := [(.ref b65)]) (rest := []) (lenOf pd__Ljava_lang_String__Lcom_example_guarded_once_guardedonce_guard_MessageKey_ rfl) rfl (by show 2 * 0 + _ ≤ _; exact Nat.le_of_eq rfl) (hb hby at_229) (fun _ _ => ⟨rfl, rfl, (by decide : 5 + 3 ≤ _), (by decide : 24 + 25 ≤ _)⟩)
                  dsimp only [Pt.U, Pt.locs, Pt.cells, Pt.slots] at X67 l67 y67 z67 st67 hQ67 hS67 gS67
                  subst l67 y67 z67
                  obtain ⟨X67, hS, hZ', hown⟩ := rebS hS hk X67 hS67 gS67 hZ hown
                  have hk : T67.heap.size ≤ T67.heap.size := Nat.le_refl _
                  have hZ := hZ'
                  obtain ⟨b_67, rfl, Nq67, Kq67, Fq67_0, Fq67_1, Fq67_2, gb_67⟩ := hQ67
                  have Nf67 := Fr.app Nf66 Nq67
                  have K67 : Keep h0 T67.heap [] := K66.trans Kq67 all0
                  have sz_b_67 : h0.size ≤ b_67 := Nat.le_trans K66.1 gb_67
                  have g_b_67 : n0 ≤ b_67 := Nat.le_trans Z66 gb_67
                  have ne_b1_b_67 : b1 ≠ b_67 := Nat.ne_of_lt (Nat.lt_of_lt_of_le (((((((V9.ext E56).other W58 ne_b1_b56).other W60 ne_b1_b56).other W62 ne_b1_b56).other W64 ne_b1_b56).ext E65).keep Kq66 (ninS ne_b1_b65 nin0)).lt gb_67)
                  have ne_b56_b_67 : b56 ≠ b_67 := Nat.ne_of_lt (Nat.lt_of_lt_of_le ((V64.ext E65).keep Kq66 (ninS ne_b56_b65 nin0)).lt gb_67)
                  have ne_b65_b_67 : b65 ≠ b_67 := Nat.ne_of_lt (Nat.lt_of_lt_of_le Fq66_0.lt gb_67)
                  have ne_b_66_b_67 : b_66 ≠ b_67 := Nat.ne_of_lt (Nat.lt_of_lt_of_le Fq66_3.lt gb_67)
                  have Z67 : n0 ≤ T67.heap.size := Nat.le_trans Z66 Kq67.1
                  refine own_fw (A' := (T67.setTop (mkF m 236 #[iv p1, iv p2, iv p3, iv p4, iv p5, iv nn, rv b1, iv 1, rv b56, rv b65, rv b_67] [.ref b_67]))) (fun t k => st67.trans (XS.astore X67.here hx rfl (hb hby at_232) rfl rfl (l' := #[iv p1, iv p2, iv p3, iv p4, iv p5, iv nn, rv b1, iv 1, rv b56, rv b65, rv b_67]) rfl (XS.aload X67.here hx rfl (hb hby at_234) rfl rfl k))) ?_
                  obtain ⟨cq68, kq68, qa68, qb68, qc68⟩ := isOf hZ rfl Fq67_0
                  obtain ⟨_, _, ⟨T68, L68, k68, n68⟩, -, X68, ⟨Lc68, hQ68, l68, y68, z68⟩, st68⟩ := X67.virtualBack hx (y := yq74) (z := yq74) hown (mvT hZ (own_w hw 148 rfl)) (mvT hZ (own_w hw 149 rfl)) (notFace_of_selects (args := #[]) (mvT hZ (own_w hw 151 rfl))) (mvT hZ (own_w hw 151 rfl)) (mvT hZ (own_w hw 150 rfl)) (by decide) (backOf (W := 0) (rmVal l Z a0 hw [] b_67 b65 T67.heap n0 Z67 Fq67_1) hZ (own_w hw 152 rfl) (own_w hw 69 rfl) (by decide) (by decide)) qa68 qc68 (g := (mkF m 236 #[iv p1, iv p2, iv p3, iv p4, iv p5, iv nn, rv b1, iv 1, rv b56, rv b65, rv b_67] [.ref b_67])) rfl (by rw [hml]; rfl) (Steps.refl _) (argsL := []) (rest := []) (lenOf pd___Ljava_lang_String_ rfl) rfl (by show 2 * 0 + _ ≤ _; exact Nat.le_of_eq rfl) (hb hby at_236) (fun _ _ => ⟨rfl, rfl, (by decide : 8 + 0 ≤ _), (by decide : 49 + 0 ≤ _)⟩)
                  dsimp only [Pt.U, Pt.locs, Pt.cells, Pt.slots] at X68 l68 y68 z68 st68 hQ68
                  subst l68 y68 z68
                  obtain ⟨rfl, Nq68, e68⟩ := hQ68
                  have Nf68 := Fr.app Nf67 Nq68
                  refine own_fw (A' := (T68.setTop (mkF m 241 #[iv p1, iv p2, iv p3, iv p4, iv p5, iv nn, rv b1, iv 1, rv b56, rv b65, rv b_67] [.ref b65, .ref b65]))) (fun t k => st68.trans (XS.aload X68.here hx rfl (hb hby at_239) rfl rfl k)) ?_
                  obtain ⟨cq69, kq69, qa69, qb69, qc69⟩ := isOf hZ e68 Fq67_2
                  obtain ⟨_, _, ⟨T69, L69, k69, n69⟩, -, X69, ⟨Lc69, hQ69, l69, y69, z69⟩, st69⟩ := X68.virtualBack hx (y := yq75) (z := yq75) hown (mvT hZ (own_w hw 153 rfl)) (mvT hZ (own_w hw 154 rfl)) (notFace_of_selects (args := #[]) (mvT hZ (own_w hw 156 rfl))) (mvT hZ (own_w hw 156 rfl)) (mvT hZ (own_w hw 155 rfl)) (by decide) (backOf (W := 0) (rmEq l Z a0 hw [] b65 T67.heap n0 Z67 ) hZ (own_w hw 157 rfl) (own_w hw 21 rfl) (by decide) (by decide)) qa69 qc69 (g := (mkF m 241 #[iv p1, iv p2, iv p3, iv p4, iv p5, iv nn, rv b1, iv 1, rv b56, rv b65, rv b_67] [.ref b65, .ref b65])) rfl (by rw [hml]; rfl) (Steps.refl _) (argsL := [(.ref b65)]) (rest := []) (lenOf pd__Ljava_lang_Object__Z rfl) rfl (by show 2 * 0 + _ ≤ _; exact Nat.le_of_eq rfl) (hb hby at_241) (fun _ _ => ⟨rfl, e68, (by decide : 8 + 0 ≤ _), (by decide : 49 + 0 ≤ _)⟩)
                  dsimp only [Pt.U, Pt.locs, Pt.cells, Pt.slots] at X69 l69 y69 z69 st69 hQ69
                  subst l69 y69 z69
                  obtain ⟨rfl, Nq69, e69⟩ := hQ69
                  have Nf69 := Fr.app Nf68 Nq69
                  refine own_fw (A' := (T69.setTop (mkF m 244 #[iv p1, iv p2, iv p3, iv p4, iv p5, iv nn, rv b1, iv 1, rv b56, rv b65, rv b_67] [.int 1]))) (fun t k => st69.trans k) ?_
                  obtain ⟨fs, hr, hrun, hended, hWE⟩ := X69.leaveW hS (by rw [e69]; exact hk : _ ≤ T69.heap.size) (v := some (.int 1)) (fun h => by rw [Bd.returns] at h; cases h)
                  refine ⟨_, _, ?_, hrun, hended, _, _, rfl, ?_, own_widen hWE (by decide) (by decide)⟩
                  · exact retOut X69 hx Bd.returns rfl (Or.inl ⟨rfl, by simp, _, rfl⟩) (hb hby at_244) hr
                  · show Q_rm0 Z p1 p2 p3 p4 p5 cs sv h0 n0 _ T69.heap _
                    rw [e69]
                    exact ⟨rfl, Nf69⟩
                · obtain ⟨_, _, ⟨T70, L70, k70, n70⟩, -, X70, ⟨Lc70, hQ70, l70, y70, z70⟩, st70⟩ := X65.specialBack hx (y := yq9) rfl hown (mvT hZ (own_w hw 22 rfl)) (mvT hZ (own_w hw 23 rfl)) (mvT hZ (own_w hw 24 rfl)) (by decide) (backOf (W := 1) (rmStrA4 l Z a0 hw [] b65 b56 k56 cs r_2 r_4 r_6 r_8 h65 n0 Z65 A65 F_coder_b65 F_value_b65 (V64.ext E65) g_b65 (Ne.symm ne_b56_b65) (((((((((((P0.ext E1).wr W3).wr W5).wr W7).wr W9).ext E56).wr W58).wr W60).wr W62).wr W64).ext E65) hcs (fun q => hbg (Or.inl q)) (fun q => hbg (Or.inr (Or.inl q))) (fun q => hbg (Or.inr (Or.inr (Or.inl q)))) (fun q => hbg (Or.inr (Or.inr (Or.inr (q)))))) hZ (own_w hw 24 rfl) (own_w hw 21 rfl) (by decide) (by decide)) (g := (mkF m 222 #[iv p1, iv p2, iv p3, iv p4, iv p5, iv nn, rv b1, iv 1, rv b56, .unset, .unset] [.ref b56, .ref b65, .ref b65])) rfl (by rw [hml]; rfl) (Steps.refl _) (a := b65) (argsL := [(.ref b56)]) (rest := [(.ref b65)]) (lenOf pd___C_V rfl) rfl (by show 2 * 0 + _ ≤ _; exact Nat.le_of_eq rfl) (hb hby at_222) (fun _ _ => ⟨rfl, e65, (by decide : 3 + 1 ≤ _), (by decide : 12 + 4 ≤ _)⟩)
                  dsimp only [Pt.U, Pt.locs, Pt.cells, Pt.slots] at X70 l70 y70 z70 st70 hQ70
                  subst l70 y70 z70
                  obtain ⟨b_70, kb_70, rfl, Nq70, Kq70, Fq70_0, Fq70_1, Fq70_2, Fq70_3⟩ := hQ70
                  have Nf70 := Fr.app Nf64 Nq70
                  have hk := Nat.le_trans hk Kq70.1
                  have K70 : Keep h0 T70.heap [] := K65.trans Kq70 (allS (Or.inr sz_b65) all0)
                  have Z70 : n0 ≤ T70.heap.size := Nat.le_trans Z65 Kq70.1
                  refine own_fw (A' := (T70.setTop (mkF m 229 #[iv p1, iv p2, iv p3, iv p4, iv p5, iv nn, rv b1, iv 1, rv b56, rv b65, .unset] [.ref b65]))) (fun t k => st70.trans (XS.astore X70.here hx rfl (hb hby at_225) rfl rfl (l' := #[iv p1, iv p2, iv p3, iv p4, iv p5, iv nn, rv b1, iv 1, rv b56, rv b65, .unset]) rfl (XS.aload X70.here hx rfl (hb hby at_227) rfl rfl k))) ?_
                  obtain ⟨_, _, ⟨T71, L71, k71, n71⟩, -, X71, hS71, gS71, ⟨Lc71, hQ71, l71, y71, z71⟩, st71⟩ := callSS X70 hx (y := yq77) hown (mvT hZ (own_w hw 67 rfl)) (mvT hZ (own_w hw 68 rfl)) (mvT hZ (own_w hw 69 rfl)) (mvT hZ (own_w hw 70 rfl)) (by decide) (backOfS (W := 0) (rmOfL l Z a0 hw [] b65 b_70 kb_70 cs ([r_2, r_4, r_6, r_8]) sv T70.heap n0 Z70 Fq70_0 Fq70_1 Fq70_2 Fq70_3 (own_staKeep (((((((((((P0.ext E1).wr W3).wr W5).wr W7).wr W9).ext E56).wr W58).wr W60).wr W62).wr W64).ext E65) Kq70 (allS (own_plainE A65) all0)) hcs (own_staKeep (((((((((((P5.ext E1).wr W3).wr W5).wr W7).wr W9).ext E56).wr W58).wr W60).wr W62).wr W64).ext E65) Kq70 (allS (own_plainE A65) all0)) hsv hFn (own_ltW hWn (own_b4 hbg))) hZ (own_w hw 70 rfl) (own_w hw 69 rfl) (by decide) (by decide)) (g := (mkF m 229 #[iv p1, iv p2, iv p3, iv p4, iv p5, iv nn, rv b1, iv 1, rv b56, rv b65, .unset] [.ref b65])) rfl (by rw [hml]; rfl) (argsL := [(.ref b65)]) (rest := []) (lenOf pd__Ljava_lang_String__Lcom_example_guarded_once_guardedonce_guard_MessageKey_ rfl) rfl (by show 2 * 0 + _ ≤ _; exact Nat.le_of_eq rfl) (hb hby at_229) (fun _ _ => ⟨rfl, rfl, (by decide : 4 + 3 ≤ _), (by decide : 16 + 25 ≤ _)⟩)
                  dsimp only [Pt.U, Pt.locs, Pt.cells, Pt.slots] at X71 l71 y71 z71 st71 hQ71 hS71 gS71
                  subst l71 y71 z71
                  obtain ⟨X71, hS, hZ', hown⟩ := rebS hS hk X71 hS71 gS71 hZ hown
                  have hk : T71.heap.size ≤ T71.heap.size := Nat.le_refl _
                  have hZ := hZ'
                  obtain ⟨b_71, rfl, Nq71, Kq71, Fq71_0, Fq71_1, Fq71_2, gb_71⟩ := hQ71
                  have Nf71 := Fr.app Nf70 Nq71
                  have K71 : Keep h0 T71.heap [] := K70.trans Kq71 all0
                  have sz_b_71 : h0.size ≤ b_71 := Nat.le_trans K70.1 gb_71
                  have g_b_71 : n0 ≤ b_71 := Nat.le_trans Z70 gb_71
                  have ne_b1_b_71 : b1 ≠ b_71 := Nat.ne_of_lt (Nat.lt_of_lt_of_le (((((((V9.ext E56).other W58 ne_b1_b56).other W60 ne_b1_b56).other W62 ne_b1_b56).other W64 ne_b1_b56).ext E65).keep Kq70 (ninS ne_b1_b65 nin0)).lt gb_71)
                  have ne_b56_b_71 : b56 ≠ b_71 := Nat.ne_of_lt (Nat.lt_of_lt_of_le ((V64.ext E65).keep Kq70 (ninS ne_b56_b65 nin0)).lt gb_71)
                  have ne_b65_b_71 : b65 ≠ b_71 := Nat.ne_of_lt (Nat.lt_of_lt_of_le Fq70_0.lt gb_71)
                  have ne_b_70_b_71 : b_70 ≠ b_71 := Nat.ne_of_lt (Nat.lt_of_lt_of_le Fq70_3.lt gb_71)
                  have Z71 : n0 ≤ T71.heap.size := Nat.le_trans Z70 Kq71.1
                  refine own_fw (A' := (T71.setTop (mkF m 236 #[iv p1, iv p2, iv p3, iv p4, iv p5, iv nn, rv b1, iv 1, rv b56, rv b65, rv b_71] [.ref b_71]))) (fun t k => st71.trans (XS.astore X71.here hx rfl (hb hby at_232) rfl rfl (l' := #[iv p1, iv p2, iv p3, iv p4, iv p5, iv nn, rv b1, iv 1, rv b56, rv b65, rv b_71]) rfl (XS.aload X71.here hx rfl (hb hby at_234) rfl rfl k))) ?_
                  obtain ⟨cq72, kq72, qa72, qb72, qc72⟩ := isOf hZ rfl Fq71_0
                  obtain ⟨_, _, ⟨T72, L72, k72, n72⟩, -, X72, ⟨Lc72, hQ72, l72, y72, z72⟩, st72⟩ := X71.virtualBack hx (y := yq74) (z := yq74) hown (mvT hZ (own_w hw 148 rfl)) (mvT hZ (own_w hw 149 rfl)) (notFace_of_selects (args := #[]) (mvT hZ (own_w hw 151 rfl))) (mvT hZ (own_w hw 151 rfl)) (mvT hZ (own_w hw 150 rfl)) (by decide) (backOf (W := 0) (rmVal l Z a0 hw [] b_71 b65 T71.heap n0 Z71 Fq71_1) hZ (own_w hw 152 rfl) (own_w hw 69 rfl) (by decide) (by decide)) qa72 qc72 (g := (mkF m 236 #[iv p1, iv p2, iv p3, iv p4, iv p5, iv nn, rv b1, iv 1, rv b56, rv b65, rv b_71] [.ref b_71])) rfl (by rw [hml]; rfl) (Steps.refl _) (argsL := []) (rest := []) (lenOf pd___Ljava_lang_String_ rfl) rfl (by show 2 * 0 + _ ≤ _; exact Nat.le_of_eq rfl) (hb hby at_236) (fun _ _ => ⟨rfl, rfl, (by decide : 7 + 0 ≤ _), (by decide : 41 + 0 ≤ _)⟩)
                  dsimp only [Pt.U, Pt.locs, Pt.cells, Pt.slots] at X72 l72 y72 z72 st72 hQ72
                  subst l72 y72 z72
                  obtain ⟨rfl, Nq72, e72⟩ := hQ72
                  have Nf72 := Fr.app Nf71 Nq72
                  refine own_fw (A' := (T72.setTop (mkF m 241 #[iv p1, iv p2, iv p3, iv p4, iv p5, iv nn, rv b1, iv 1, rv b56, rv b65, rv b_71] [.ref b65, .ref b65]))) (fun t k => st72.trans (XS.aload X72.here hx rfl (hb hby at_239) rfl rfl k)) ?_
                  obtain ⟨cq73, kq73, qa73, qb73, qc73⟩ := isOf hZ e72 Fq71_2
                  obtain ⟨_, _, ⟨T73, L73, k73, n73⟩, -, X73, ⟨Lc73, hQ73, l73, y73, z73⟩, st73⟩ := X72.virtualBack hx (y := yq75) (z := yq75) hown (mvT hZ (own_w hw 153 rfl)) (mvT hZ (own_w hw 154 rfl)) (notFace_of_selects (args := #[]) (mvT hZ (own_w hw 156 rfl))) (mvT hZ (own_w hw 156 rfl)) (mvT hZ (own_w hw 155 rfl)) (by decide) (backOf (W := 0) (rmEq l Z a0 hw [] b65 T71.heap n0 Z71 ) hZ (own_w hw 157 rfl) (own_w hw 21 rfl) (by decide) (by decide)) qa73 qc73 (g := (mkF m 241 #[iv p1, iv p2, iv p3, iv p4, iv p5, iv nn, rv b1, iv 1, rv b56, rv b65, rv b_71] [.ref b65, .ref b65])) rfl (by rw [hml]; rfl) (Steps.refl _) (argsL := [(.ref b65)]) (rest := []) (lenOf pd__Ljava_lang_Object__Z rfl) rfl (by show 2 * 0 + _ ≤ _; exact Nat.le_of_eq rfl) (hb hby at_241) (fun _ _ => ⟨rfl, e72, (by decide : 7 + 0 ≤ _), (by decide : 41 + 0 ≤ _)⟩)
                  dsimp only [Pt.U, Pt.locs, Pt.cells, Pt.slots] at X73 l73 y73 z73 st73 hQ73
                  subst l73 y73 z73
                  obtain ⟨rfl, Nq73, e73⟩ := hQ73
                  have Nf73 := Fr.app Nf72 Nq73
                  refine own_fw (A' := (T73.setTop (mkF m 244 #[iv p1, iv p2, iv p3, iv p4, iv p5, iv nn, rv b1, iv 1, rv b56, rv b65, rv b_71] [.int 1]))) (fun t k => st73.trans k) ?_
                  obtain ⟨fs, hr, hrun, hended, hWE⟩ := X73.leaveW hS (by rw [e73]; exact hk : _ ≤ T73.heap.size) (v := some (.int 1)) (fun h => by rw [Bd.returns] at h; cases h)
                  refine ⟨_, _, ?_, hrun, hended, _, _, rfl, ?_, own_widen hWE (by decide) (by decide)⟩
                  · exact retOut X73 hx Bd.returns rfl (Or.inl ⟨rfl, by simp, _, rfl⟩) (hb hby at_244) hr
                  · show Q_rm0 Z p1 p2 p3 p4 p5 cs sv h0 n0 _ T73.heap _
                    rw [e73]
                    exact ⟨rfl, Nf73⟩
theorem comes_1 {Post : Tables → Env → Array Value → State → Outcome → State → Prop} (hpost : ∀ tb e args s v u, (limb_1_1.after args s (.returned v) u = true ∧ limb_1_2.after args s (.returned v) u = true ∧ True) → ReturnedEndW s (.returned v) u (Jvm.fieldLocs frame_1_writes args s ++ Jvm.arrayLocs frame_1_arrays args s ++ Jvm.staticLocs frame_1_statics s) 24 1152 → Post tb e args s (.returned v) u) :
    ArmFor flags0 classFile x code maxLocals ret World_1 tables_1 room_1 Calls_1 rest_1 Pre_1 Post := by
  intro l hfl _ _ p e ha hc hk s m args below hf hA hF happ hP
  obtain ⟨hcalls, hrest, hpre⟩ := hP
  obtain ⟨-, -, -, hnamed, -, -, -, hat⟩ := (Spec.applies_iff hf).mp happ
  obtain ⟨hg, hn⟩ := and_e (Cond.before_iff.mp (show (Jvm.Cond.and given_1 narrow_1).before args s = true from hpre))
  obtain ⟨hcount, hg0⟩ := and_e hg
  obtain ⟨hv0, hg1⟩ := and_e hg0
  obtain ⟨hv1, hg2⟩ := and_e hg1
  obtain ⟨hv2, hg3⟩ := and_e hg2
  obtain ⟨hv3, hg4⟩ := and_e hg3
  have hv4 := hg4
  obtain ⟨w0, w1, w2, w3, w4, rfl⟩ : ∃ w0 w1 w2 w3 w4 : Value, args = #[w0, w1, w2, w3, w4] := by
    have hs : args.size = 5 := by simpa [Cond.value, given_1] using hcount
    obtain ⟨L⟩ := args
    match L, hs with
    | [w0, w1, w2, w3, w4], _ => exact ⟨w0, w1, w2, w3, w4, rfl⟩
  have hw := fun d (hd : d ∈ tables_1) => atoms_spec (ws := Jvm.Cond.code x code maxLocals ret :: tables_1) hat d (List.mem_cons_of_mem _ hd)
  have hfit : Fit s := fun {y c} hc i hi => by
    obtain ⟨ha, rfl⟩ := Array.getElem?_eq_some_iff.mp hc
    have q := List.all_eq_true.mp ((Array.all_eq_true_iff_forall_mem.mp hF) _ (Array.getElem_mem ha)) i (List.mem_range.mpr hi)
    simpa [Array.getElem?_eq_getElem hi] using q
  obtain ⟨hsets, hown0⟩ := atoms_of _ (rest_1_c_eq ▸ (show rest_1_c.before _ s = true from hrest))
  obtain ⟨i0, ei0⟩ := is_v hv0
  obtain rfl : w0 = (.int i0) := Option.some.inj ei0
  obtain ⟨i1, ei1⟩ := is_v hv1
  obtain rfl : w1 = (.int i1) := Option.some.inj ei1
  obtain ⟨i2, ei2⟩ := is_v hv2
  obtain rfl : w2 = (.int i2) := Option.some.inj ei2
  obtain ⟨i3, ei3⟩ := is_v hv3
  obtain rfl : w3 = (.int i3) := Option.some.inj ei3
  obtain ⟨i4, ei4⟩ := is_v hv4
  obtain rfl : w4 = (.int i4) := Option.some.inj ei4
  obtain ⟨cs, ev_cs⟩ := is_v (Cond.before_iff.mp (hsets _ (List.mem_of_getElem? (i := 1) rfl)))
  have S_cs := Sta.start ev_cs (Or.inl (hsets _ (List.mem_of_getElem? (i := 0) rfl)))
  have h_cs := own_nz ev_cs (Cond.before_iff.mp (hsets _ (List.mem_of_getElem? (i := 2) rfl)))
  have S_ad := Sta.start (own_evI (Cond.before_iff.mp (hsets _ (List.mem_of_getElem? (i := 12) rfl)))) (Or.inl (hsets _ (List.mem_of_getElem? (i := 11) rfl)))
  have S_hi := Sta.start (own_evI (Cond.before_iff.mp (hsets _ (List.mem_of_getElem? (i := 15) rfl)))) (Or.inl (hsets _ (List.mem_of_getElem? (i := 14) rfl)))
  have S_lo := Sta.start (own_evI (Cond.before_iff.mp (hsets _ (List.mem_of_getElem? (i := 18) rfl)))) (Or.inl (hsets _ (List.mem_of_getElem? (i := 17) rfl)))
  obtain ⟨sv, ev_sv, h_sv⟩ := isR_v (Cond.before_iff.mp (hsets _ (List.mem_of_getElem? (i := 8) rfl)))
  have S_sv := Sta.start ev_sv (Or.inl (hsets _ (List.mem_of_getElem? (i := 7) rfl)))
  obtain ⟨n, o, h1, h2, h3, _, L, rfl, ⟨rfl, N⟩, hq⟩ := rm0 l s _ hw tables_1 i0 i1 i2 i3 i4 cs sv s.heap s.heap.size (Nat.le_refl _) S_cs h_cs S_ad S_hi S_lo S_sv h_sv p e ha hc hk s m _ below hf ((Spec.applies_iff_loose hf).mp happ).1 ⟨rfl, State.Warmed39.refl s, rfl⟩ trivial
  refine ⟨n, _, h1, h2, h3, hpost _ _ _ _ _ _ ⟨Cond.after_iff.mpr rfl, Cond.after_iff.mpr (eq_i res_at (Term.int_eval (1)) rfl), trivial⟩ ⟨hq.1, hq.2.1, hq.2.2.1, (hq.2.2.2.sift fun y hy => Or.inr (N y hy)).mono (by decide) (by decide)⟩⟩
theorem main_1_1 : Claimed_1_1 := comes_1 fun _ _ _ _ _ _ h hF => ⟨h.1, hF⟩
theorem main_1_2 : Claimed_1_2 := comes_1 fun _ _ _ _ _ _ h hF => ⟨h.2.1, hF⟩
end Jvm.Pilot.@@N@@
namespace Jvm.Pilot.@@N@@
open Jvm Jvm.ClassFile Sem Op Lib Jvm.Free Jvm.Stand Jvm.Pilot.@@N@@.Jvm.D
/-! MADE BY PROGRAM (witnessworld.py) out of the Statement's table words and the real class files: 22 classes; the members and pool entries that the words name. The judged class is class 1, her method 5. -/
namespace start1
open Jvm.ClassFile
def u (s : String) : CpInfo := .utf8 (stringToUtf16 s)
/-- a pool by its gaps: so many unusable entries, then the entry; so many at the end -/
def gap : Nat → List CpInfo → List CpInfo
  | 0, r => r
  | n + 1, r => .unusable :: gap n r
def poolList (es : List (Nat × CpInfo)) (last : Nat) : List CpInfo := es.foldr (fun e r => gap e.1 (e.2 :: r)) (gap last [])
def pool (es : List (Nat × CpInfo)) (last : Nat) : Array CpInfo := ⟨poolList es last⟩
def fileOf (pool : Array CpInfo) (this : Nat) (attrs : Array Attribute := #[]) (ms : Array MethodInfo := #[]) (fl : Nat := 33) (sup : Nat := 0) (ifs : Array Nat := #[]) (fds : Array FieldInfo := #[]) : ClassFile where
  minorVersion := 0
  majorVersion := 65
  constantPool := pool
  accessFlags := fl
  thisClass := this
  superClass := sup
  interfaces := ifs
  fields := fds
  methods := ms
  attributes := attrs
def plain (name : String) (sup : Option ClassId) : Class where
  name := name
  kind := .ordinary
  loader := none
  accessFlags := 33
  super := sup
  interfaces := #[]
  cf := none
  fields := #[]
  methods := #[]
  instanceTypes := #[]
  staticTypes := #[]
  resolved := #[]
  callSites := []
  init := .initialized
  statics := none
  mirror := none

def pool0 : Array CpInfo := pool [(5, u "<init>"), (0, u "()V"), (1, .class_ 10), (1, u "java/lang/Object")] 113

def k0c0 : Code := { maxStack := 0, maxLocals := 1, code := object_method_1_code, exceptionTable := #[], attributes := #[] }
def k0m0 : Method := { name := "<init>", desc := "()V", sig := { parameters := [], returnType := none }, accessFlags := 1, code := some k0c0 }
/-- java/lang/Object -/
def k0 : Class := { plain "java/lang/Object" none with
  accessFlags := 33
  interfaces := #[]
  cf := some (fileOf pool0 8 #[] #[{ accessFlags := 1, nameIndex := 5, descriptorIndex := 6, attributes := #[] }] 33 0 #[] #[])
  fields := #[]
  methods := #[k0m0]
  instanceTypes := #[]
  staticTypes := #[]
  resolved := Array.replicate 124 none
  statics := none }

def pool1 : Array CpInfo := pool [(2, .class_ 4), (1, u "java/lang/Object"), (0, u "<init>"), (0, u "()V"), (0, .integer 55296), (0, .integer 56320), (0, .integer 65535), (0, .integer 56319), (0, .integer 57343), (0, .methodref 13 14), (0, .class_ 15), (0, .nameAndType 16 17), (0, u "com/example/guarded_once/guardedonce/guard/MessageKeyOfPinLaw"), (0, u "isHigh"), (0, u "(C)Z"), (0, .methodref 13 19), (0, .nameAndType 20 17), (0, u "isLow"), (0, .methodref 13 22), (0, .nameAndType 23 24), (0, u "draw"), (0, u "(I)C"), (0, .methodref 13 26), (0, .nameAndType 27 28), (0, u "okAt"), (0, u "([CII)Z"), (0, .class_ 30), (0, u "java/lang/String"), (0, .methodref 29 32), (0, .nameAndType 5 33), (0, u "([C)V"), (0, .methodref 35 36), (0, .class_ 37), (0, .nameAndType 38 39), (0, u "com/example/guarded_once/guardedonce/guard/MessageKey"), (0, u "of"), (0, u "(Ljava/lang/String;)Lcom/example/guarded_once/guardedonce/guard/MessageKey;"), (0, .methodref 35 41), (0, .nameAndType 42 43), (0, u "value"), (0, u "()Ljava/lang/String;"), (0, .methodref 29 45), (0, .nameAndType 46 47), (0, u "equals"), (0, u "(Ljava/lang/Object;)Z"), (3, u "law"), (0, u "(IIIII)Z")] 4

def k1m0 : Method := { name := "<init>", desc := "()V", sig := { parameters := [], returnType := none }, accessFlags := 1, code := none }
def k1c1 : Code := { maxStack := 3, maxLocals := 3, code := method_2_code, exceptionTable := #[], attributes := #[] }
def k1m1 : Method := { name := "draw", desc := "(I)C", sig := { parameters := [.int], returnType := some .char }, accessFlags := 10, code := some k1c1 }
def k1c2 : Code := { maxStack := 2, maxLocals := 1, code := method_3_code, exceptionTable := #[], attributes := #[] }
def k1m2 : Method := { name := "isHigh", desc := "(C)Z", sig := { parameters := [.char], returnType := some .boolean }, accessFlags := 10, code := some k1c2 }
def k1c3 : Code := { maxStack := 2, maxLocals := 1, code := method_4_code, exceptionTable := #[], attributes := #[] }
def k1m3 : Method := { name := "isLow", desc := "(C)Z", sig := { parameters := [.char], returnType := some .boolean }, accessFlags := 10, code := some k1c3 }
def k1c4 : Code := { maxStack := 3, maxLocals := 4, code := method_5_code, exceptionTable := #[], attributes := #[] }
def k1m4 : Method := { name := "okAt", desc := "([CII)Z", sig := { parameters := [(.array .char), .int, .int], returnType := some .boolean }, accessFlags := 10, code := some k1c4 }
def k1c5 : Code := { maxStack := 5, maxLocals := 11, code := code, exceptionTable := #[], attributes := #[] }
def k1m5 : Method := { name := "law", desc := "(IIIII)Z", sig := { parameters := [.int, .int, .int, .int, .int], returnType := some .boolean }, accessFlags := 9, code := some k1c5 }
/-- com/example/guarded_once/guardedonce/guard/MessageKeyOfPinLaw -/
def k1 : Class := { plain "com/example/guarded_once/guardedonce/guard/MessageKeyOfPinLaw" (some 0) with
  accessFlags := 49
  interfaces := #[]
  cf := some (fileOf pool1 13 #[] #[{ accessFlags := 1, nameIndex := 5, descriptorIndex := 6, attributes := #[] }, { accessFlags := 10, nameIndex := 23, descriptorIndex := 24, attributes := #[] }, { accessFlags := 10, nameIndex := 16, descriptorIndex := 17, attributes := #[] }, { accessFlags := 10, nameIndex := 20, descriptorIndex := 17, attributes := #[] }, { accessFlags := 10, nameIndex := 27, descriptorIndex := 28, attributes := #[] }, { accessFlags := 9, nameIndex := 51, descriptorIndex := 52, attributes := #[] }] 49 2 #[] #[])
  fields := #[]
  methods := #[k1m0, k1m1, k1m2, k1m3, k1m4, k1m5]
  instanceTypes := #[]
  staticTypes := #[]
  resolved := Array.replicate 57 none
  statics := none }

def pool2 : Array CpInfo := pool [(1, .class_ 2), (0, u "java/io/Serializable"), (0, .class_ 4), (0, u "java/lang/Object")] 2

/-- java/io/Serializable -/
def k2 : Class := { plain "java/io/Serializable" (some 0) with
  accessFlags := 1537
  interfaces := #[]
  cf := some (fileOf pool2 1 #[] #[] 1537 3 #[] #[])
  fields := #[]
  methods := #[]
  instanceTypes := #[]
  staticTypes := #[]
  resolved := Array.replicate 7 none
  statics := none }

def pool3 : Array CpInfo := pool [(1, .class_ 2), (0, u "java/lang/Comparable"), (0, .class_ 4), (0, u "java/lang/Object")] 7

/-- java/lang/Comparable -/
def k3 : Class := { plain "java/lang/Comparable" (some 0) with
  accessFlags := 1537
  interfaces := #[]
  cf := some (fileOf pool3 1 #[] #[] 1537 3 #[] #[])
  fields := #[]
  methods := #[]
  instanceTypes := #[]
  staticTypes := #[]
  resolved := Array.replicate 12 none
  statics := none }

def pool4 : Array CpInfo := pool [(2, .class_ 4), (1, u "java/lang/CharSequence"), (42, .class_ 48), (0, u "java/lang/CharSequence$1CodePointIterator"), (10, .class_ 60), (0, u "java/lang/CharSequence$1CharIterator"), (5, .class_ 67), (0, u "java/lang/Object")] 63

/-- java/lang/CharSequence -/
def k4 : Class := { plain "java/lang/CharSequence" (some 0) with
  accessFlags := 1537
  interfaces := #[]
  cf := some (fileOf pool4 2 #[.nestMembers #[47, 59]] #[] 1537 66 #[] #[])
  fields := #[]
  methods := #[]
  instanceTypes := #[]
  staticTypes := #[]
  resolved := Array.replicate 131 none
  statics := none }

def pool5 : Array CpInfo := pool [(1, .class_ 2), (0, u "java/lang/constant/Constable"), (0, .class_ 4), (0, u "java/lang/Object")] 6

/-- java/lang/constant/Constable -/
def k5 : Class := { plain "java/lang/constant/Constable" (some 0) with
  accessFlags := 1537
  interfaces := #[]
  cf := some (fileOf pool5 1 #[] #[] 1537 3 #[] #[])
  fields := #[]
  methods := #[]
  instanceTypes := #[]
  staticTypes := #[]
  resolved := Array.replicate 11 none
  statics := none }

def pool6 : Array CpInfo := pool [(1, .class_ 2), (0, u "java/lang/constant/ConstantDesc"), (0, .class_ 4), (0, u "java/lang/Object")] 32

/-- java/lang/constant/ConstantDesc -/
def k6 : Class := { plain "java/lang/constant/ConstantDesc" (some 0) with
  accessFlags := 1537
  interfaces := #[]
  cf := some (fileOf pool6 1 #[] #[] 1537 3 #[] #[])
  fields := #[]
  methods := #[]
  instanceTypes := #[]
  staticTypes := #[]
  resolved := Array.replicate 37 none
  statics := none }

def pool7 : Array CpInfo := pool [(1, .methodref 2 3), (0, .class_ 4), (0, .nameAndType 5 6), (0, u "java/lang/Object"), (0, u "<init>"), (0, u "()V"), (2, .fieldref 10 11), (0, .class_ 12), (0, .nameAndType 13 14), (0, u "java/lang/String"), (0, u "value"), (0, u "[B"), (0, .fieldref 10 16), (0, .nameAndType 17 18), (0, u "coder"), (0, u "B"), (2, u "hash"), (0, u "I"), (2, u "hashIsZero"), (0, u "Z"), (0, .methodref 10 28), (0, .nameAndType 5 29), (0, u "([CIILjava/lang/Void;)V"), (7, u "(III)I"), (0, .fieldref 10 39), (0, .nameAndType 40 26), (0, u "COMPACT_STRINGS"), (1, .class_ 44), (1, u "java/lang/StringUTF16"), (0, u "compress"), (1, .methodref 42 48), (0, .nameAndType 49 50), (0, u "coderFromArrayLen"), (0, u "([BI)B"), (28, .class_ 81), (1, u "java/util/Objects"), (15, u "([BII)I"), (44, u "()Z"), (34, .methodref 42 178), (0, .nameAndType 45 179), (0, u "([CII)[B"), (154, u "()I"), (0, .methodref 10 336), (0, .nameAndType 17 337), (0, u "()B"), (53, u "(II)V"), (100, .methodref 10 493), (0, .nameAndType 494 142), (0, u "isLatin1"), (4, .methodref 10 500), (0, .nameAndType 501 391), (0, u "checkIndex"), (0, .methodref 42 503), (0, .nameAndType 504 97), (0, u "codePointAt"), (0, .methodref 10 506), (0, .nameAndType 507 334), (0, u "length"), (3, .methodref 79 512), (0, .nameAndType 513 37), (0, u "checkFromToIndex"), (0, .methodref 42 515), (0, .nameAndType 516 97), (0, u "codePointCount"), (26, u "equals"), (29, u "(Ljava/lang/Object;)Z"), (1, .class_ 576), (0, u "java/lang/CharSequence"), (22, u "CASE_INSENSITIVE_ORDER"), (0, u "Ljava/util/Comparator;"), (35, u "(II)I"), (128, u "(I)I"), (244, u "([C)V"), (42, .fieldref 1054 1055), (0, .class_ 1056), (0, .nameAndType 1057 1058), (0, u "jdk/internal/util/Preconditions"), (0, u "SIOOBE_FORMATTER"), (0, u "Ljava/util/function/BiFunction;"), (0, .methodref 1054 1060), (0, .nameAndType 501 1061), (0, u "(IILjava/util/function/BiFunction;)I"), (39, u "serialPersistentFields"), (0, u "[Ljava/io/ObjectStreamField;"), (0, .class_ 1104), (0, u "java/lang/String$CaseInsensitiveComparator"), (1, .class_ 1107), (0, u "java/io/Serializable"), (0, .class_ 1109), (0, u "java/lang/Comparable"), (0, .class_ 1111), (0, u "java/lang/constant/Constable"), (0, .class_ 1113), (0, u "java/lang/constant/ConstantDesc"), (2, u "serialVersionUID"), (0, u "J"), (3, u "REPL"), (0, u "C"), (2, u "LATIN1"), (1, u "UTF16")] 323

def k7m0 : Method := { name := "<init>", desc := "()V", sig := { parameters := [], returnType := none }, accessFlags := 1, code := none }
def k7c1 : Code := { maxStack := 5, maxLocals := 2, code := jdk_42_method_3_code, exceptionTable := #[], attributes := #[] }
def k7m1 : Method := { name := "<init>", desc := "([C)V", sig := { parameters := [(.array .char)], returnType := none }, accessFlags := 1, code := some k7c1 }
def k7c2 : Code := { maxStack := 2, maxLocals := 1, code := jdk_42_method_54_code, exceptionTable := #[], attributes := #[] }
def k7m2 : Method := { name := "length", desc := "()I", sig := { parameters := [], returnType := some .int }, accessFlags := 1, code := some k7c2 }
def k7c3 : Code := { maxStack := 3, maxLocals := 3, code := jdk_42_method_57_code, exceptionTable := #[], attributes := #[] }
def k7m3 : Method := { name := "codePointAt", desc := "(I)I", sig := { parameters := [.int], returnType := some .int }, accessFlags := 1, code := some k7c3 }
def k7c4 : Code := { maxStack := 3, maxLocals := 3, code := jdk_42_method_59_code, exceptionTable := #[], attributes := #[] }
def k7m4 : Method := { name := "codePointCount", desc := "(II)I", sig := { parameters := [.int, .int], returnType := some .int }, accessFlags := 1, code := some k7c4 }
def k7c5 : Code := { maxStack := 2, maxLocals := 3, code := jdk_42_method_66_code, exceptionTable := #[], attributes := #[] }
def k7m5 : Method := { name := "equals", desc := "(Ljava/lang/Object;)Z", sig := { parameters := [(.object "java/lang/Object")], returnType := some .boolean }, accessFlags := 1, code := some k7c5 }
def k7c6 : Code := { maxStack := 4, maxLocals := 6, code := jdk_42_method_149_code, exceptionTable := #[], attributes := #[] }
def k7m6 : Method := { name := "<init>", desc := "([CIILjava/lang/Void;)V", sig := { parameters := [(.array .char), .int, .int, (.object "java/lang/Void")], returnType := none }, accessFlags := 2, code := some k7c6 }
def k7c7 : Code := { maxStack := 1, maxLocals := 1, code := jdk_42_method_152_code, exceptionTable := #[], attributes := #[] }
def k7m7 : Method := { name := "coder", desc := "()B", sig := { parameters := [], returnType := some .byte }, accessFlags := 0, code := some k7c7 }
def k7c8 : Code := { maxStack := 1, maxLocals := 1, code := jdk_42_method_154_code, exceptionTable := #[], attributes := #[] }
def k7m8 : Method := { name := "isLatin1", desc := "()Z", sig := { parameters := [], returnType := some .boolean }, accessFlags := 0, code := some k7c8 }
def k7c9 : Code := { maxStack := 3, maxLocals := 2, code := jdk_42_method_155_code, exceptionTable := #[], attributes := #[] }
def k7m9 : Method := { name := "checkIndex", desc := "(II)V", sig := { parameters := [.int, .int], returnType := none }, accessFlags := 8, code := some k7c9 }
/-- java/lang/String -/
def k7 : Class := { plain "java/lang/String" (some 0) with
  accessFlags := 49
  interfaces := #[2, 3, 4, 5, 6]
  cf := some (fileOf pool7 10 #[.nestMembers #[1103]] #[{ accessFlags := 1, nameIndex := 5, descriptorIndex := 6, attributes := #[] }, { accessFlags := 1, nameIndex := 5, descriptorIndex := 1010, attributes := #[] }, { accessFlags := 1, nameIndex := 507, descriptorIndex := 334, attributes := #[] }, { accessFlags := 1, nameIndex := 504, descriptorIndex := 765, attributes := #[] }, { accessFlags := 1, nameIndex := 516, descriptorIndex := 636, attributes := #[] }, { accessFlags := 1, nameIndex := 543, descriptorIndex := 573, attributes := #[] }, { accessFlags := 2, nameIndex := 5, descriptorIndex := 29, attributes := #[] }, { accessFlags := 0, nameIndex := 17, descriptorIndex := 337, attributes := #[] }, { accessFlags := 0, nameIndex := 494, descriptorIndex := 142, attributes := #[] }, { accessFlags := 8, nameIndex := 501, descriptorIndex := 391, attributes := #[] }] 49 2 #[1106, 1108, 575, 1110, 1112] #[{ accessFlags := 18, nameIndex := 13, descriptorIndex := 14, attributes := #[] }, { accessFlags := 18, nameIndex := 17, descriptorIndex := 18, attributes := #[] }, { accessFlags := 2, nameIndex := 21, descriptorIndex := 22, attributes := #[] }, { accessFlags := 2, nameIndex := 25, descriptorIndex := 26, attributes := #[] }, { accessFlags := 26, nameIndex := 1116, descriptorIndex := 1117, attributes := #[] }, { accessFlags := 24, nameIndex := 40, descriptorIndex := 26, attributes := #[] }, { accessFlags := 26, nameIndex := 1101, descriptorIndex := 1102, attributes := #[] }, { accessFlags := 26, nameIndex := 1121, descriptorIndex := 1122, attributes := #[] }, { accessFlags := 25, nameIndex := 599, descriptorIndex := 600, attributes := #[] }, { accessFlags := 24, nameIndex := 1125, descriptorIndex := 18, attributes := #[] }, { accessFlags := 24, nameIndex := 1127, descriptorIndex := 18, attributes := #[] }])
  fields := #[{ name := "value", type := (.array .byte), accessFlags := 18, slot := 0, constantValue := 0 }, { name := "coder", type := .byte, accessFlags := 18, slot := 1, constantValue := 0 }, { name := "hash", type := .int, accessFlags := 2, slot := 2, constantValue := 0 }, { name := "hashIsZero", type := .boolean, accessFlags := 2, slot := 3, constantValue := 0 }, { name := "serialVersionUID", type := .long, accessFlags := 26, slot := 0, constantValue := 0 }, { name := "COMPACT_STRINGS", type := .boolean, accessFlags := 24, slot := 1, constantValue := 0 }, { name := "serialPersistentFields", type := (.array (.object "java/io/ObjectStreamField")), accessFlags := 26, slot := 2, constantValue := 0 }, { name := "REPL", type := .char, accessFlags := 26, slot := 3, constantValue := 0 }, { name := "CASE_INSENSITIVE_ORDER", type := (.object "java/util/Comparator"), accessFlags := 25, slot := 4, constantValue := 0 }, { name := "LATIN1", type := .byte, accessFlags := 24, slot := 5, constantValue := 0 }, { name := "UTF16", type := .byte, accessFlags := 24, slot := 6, constantValue := 0 }]
  methods := #[k7m0, k7m1, k7m2, k7m3, k7m4, k7m5, k7m6, k7m7, k7m8, k7m9]
  instanceTypes := #[(.array .byte), .byte, .int, .boolean]
  staticTypes := #[.long, .boolean, (.array (.object "java/io/ObjectStreamField")), .char, (.object "java/util/Comparator"), .byte, .byte]
  resolved := Array.replicate 1451 none
  statics := some 0 }

def pool8 : Array CpInfo := pool [(6, .class_ 8), (1, u "java/lang/Object"), (0, u "<init>"), (0, u "()V"), (0, .methodref 12 13), (0, .class_ 14), (0, .nameAndType 15 16), (0, u "java/lang/StringUTF16"), (0, u "newBytesLength"), (0, u "(I)I"), (3, .integer 1073741823), (23, .fieldref 12 45), (0, .nameAndType 46 47), (0, u "$assertionsDisabled"), (0, u "Z"), (11, .fieldref 12 60), (0, .nameAndType 61 62), (0, u "HI_BYTE_SHIFT"), (0, u "I"), (0, .fieldref 12 64), (0, .nameAndType 65 62), (0, u "LO_BYTE_SHIFT"), (5, .methodref 12 72), (0, .nameAndType 73 74), (0, u "getChar"), (0, u "([BI)C"), (0, .methodref 76 77), (0, .class_ 78), (0, .nameAndType 79 80), (0, u "java/lang/Character"), (0, u "isHighSurrogate"), (0, u "(C)Z"), (0, .methodref 76 82), (0, .nameAndType 83 80), (0, u "isLowSurrogate"), (0, .methodref 76 85), (0, .nameAndType 86 87), (0, u "toCodePoint"), (0, u "(CC)I"), (0, .methodref 12 89), (0, .nameAndType 90 91), (0, u "codePointAt"), (0, u "([BIIZ)I"), (8, .methodref 12 101), (0, .nameAndType 102 91), (0, u "codePointCount"), (4, .methodref 12 108), (0, .nameAndType 109 110), (0, u "newBytesFor"), (0, u "(I)[B"), (0, .methodref 12 112), (0, .nameAndType 113 114), (0, u "putChar"), (0, u "([BII)V"), (0, .methodref 12 116), (0, .nameAndType 117 118), (0, u "compress"), (0, u "([CI[BII)I"), (0, .methodref 12 120), (0, .nameAndType 121 122), (0, u "toBytes"), (0, u "([CII)[B"), (127, u "([BII)I"), (10, u "coderFromArrayLen"), (0, u "([BI)B"), (106, .class_ 371), (1, u "java/lang/StringUTF16$LinesSpliterator"), (58, u "MAX_LENGTH"), (196, .class_ 628), (0, u "java/lang/StringUTF16$CodePointsSpliterator"), (0, .class_ 630), (0, u "java/lang/StringUTF16$CharsSpliterator")] 4

def k8m0 : Method := { name := "<init>", desc := "()V", sig := { parameters := [], returnType := none }, accessFlags := 0, code := none }
def k8c1 : Code := { maxStack := 1, maxLocals := 1, code := jdk_52_method_2_code, exceptionTable := #[], attributes := #[] }
def k8m1 : Method := { name := "newBytesFor", desc := "(I)[B", sig := { parameters := [.int], returnType := some (.array .byte) }, accessFlags := 9, code := some k8c1 }
def k8c2 : Code := { maxStack := 4, maxLocals := 1, code := jdk_52_method_3_code, exceptionTable := #[], attributes := #[] }
def k8m2 : Method := { name := "newBytesLength", desc := "(I)I", sig := { parameters := [.int], returnType := some .int }, accessFlags := 9, code := some k8c2 }
def k8c3 : Code := { maxStack := 4, maxLocals := 3, code := jdk_52_method_4_code, exceptionTable := #[], attributes := #[] }
def k8m3 : Method := { name := "putChar", desc := "([BII)V", sig := { parameters := [(.array .byte), .int, .int], returnType := none }, accessFlags := 8, code := some k8c3 }
def k8c4 : Code := { maxStack := 3, maxLocals := 2, code := jdk_52_method_5_code, exceptionTable := #[], attributes := #[] }
def k8m4 : Method := { name := "getChar", desc := "([BI)C", sig := { parameters := [(.array .byte), .int], returnType := some .char }, accessFlags := 8, code := some k8c4 }
def k8c5 : Code := { maxStack := 2, maxLocals := 6, code := jdk_52_method_7_code, exceptionTable := #[], attributes := #[] }
def k8m5 : Method := { name := "codePointAt", desc := "([BIIZ)I", sig := { parameters := [(.array .byte), .int, .int, .boolean], returnType := some .int }, accessFlags := 10, code := some k8c5 }
def k8c6 : Code := { maxStack := 4, maxLocals := 3, code := jdk_52_method_8_code, exceptionTable := #[], attributes := #[] }
def k8m6 : Method := { name := "codePointAt", desc := "([BII)I", sig := { parameters := [(.array .byte), .int, .int], returnType := some .int }, accessFlags := 9, code := some k8c6 }
def k8c7 : Code := { maxStack := 3, maxLocals := 6, code := jdk_52_method_11_code, exceptionTable := #[], attributes := #[] }
def k8m7 : Method := { name := "codePointCount", desc := "([BIIZ)I", sig := { parameters := [(.array .byte), .int, .int, .boolean], returnType := some .int }, accessFlags := 10, code := some k8c7 }
def k8c8 : Code := { maxStack := 4, maxLocals := 3, code := jdk_52_method_12_code, exceptionTable := #[], attributes := #[] }
def k8m8 : Method := { name := "codePointCount", desc := "([BII)I", sig := { parameters := [(.array .byte), .int, .int], returnType := some .int }, accessFlags := 9, code := some k8c8 }
def k8c9 : Code := { maxStack := 4, maxLocals := 5, code := jdk_52_method_14_code, exceptionTable := #[], attributes := #[] }
def k8m9 : Method := { name := "toBytes", desc := "([CII)[B", sig := { parameters := [(.array .char), .int, .int], returnType := some (.array .byte) }, accessFlags := 9, code := some k8c9 }
def k8c10 : Code := { maxStack := 2, maxLocals := 2, code := jdk_52_method_15_code, exceptionTable := #[], attributes := #[] }
def k8m10 : Method := { name := "coderFromArrayLen", desc := "([BI)B", sig := { parameters := [(.array .byte), .int], returnType := some .byte }, accessFlags := 8, code := some k8c10 }
def k8c11 : Code := { maxStack := 5, maxLocals := 6, code := jdk_52_method_16_code, exceptionTable := #[], attributes := #[] }
def k8m11 : Method := { name := "compress", desc := "([CII)[B", sig := { parameters := [(.array .char), .int, .int], returnType := some (.array .byte) }, accessFlags := 9, code := some k8c11 }
def k8c12 : Code := { maxStack := 3, maxLocals := 7, code := jdk_52_method_21_code, exceptionTable := #[], attributes := #[] }
def k8m12 : Method := { name := "compress", desc := "([CI[BII)I", sig := { parameters := [(.array .char), .int, (.array .byte), .int, .int], returnType := some .int }, accessFlags := 9, code := some k8c12 }
/-- java/lang/StringUTF16 -/
def k8 : Class := { plain "java/lang/StringUTF16" (some 0) with
  accessFlags := 48
  interfaces := #[]
  cf := some (fileOf pool8 12 #[.nestMembers #[627, 629, 369]] #[{ accessFlags := 0, nameIndex := 9, descriptorIndex := 10, attributes := #[] }, { accessFlags := 9, nameIndex := 109, descriptorIndex := 110, attributes := #[] }, { accessFlags := 9, nameIndex := 15, descriptorIndex := 16, attributes := #[] }, { accessFlags := 8, nameIndex := 113, descriptorIndex := 114, attributes := #[] }, { accessFlags := 8, nameIndex := 73, descriptorIndex := 74, attributes := #[] }, { accessFlags := 10, nameIndex := 90, descriptorIndex := 91, attributes := #[] }, { accessFlags := 9, nameIndex := 90, descriptorIndex := 250, attributes := #[] }, { accessFlags := 10, nameIndex := 102, descriptorIndex := 91, attributes := #[] }, { accessFlags := 9, nameIndex := 102, descriptorIndex := 250, attributes := #[] }, { accessFlags := 9, nameIndex := 121, descriptorIndex := 122, attributes := #[] }, { accessFlags := 8, nameIndex := 261, descriptorIndex := 262, attributes := #[] }, { accessFlags := 9, nameIndex := 117, descriptorIndex := 122, attributes := #[] }, { accessFlags := 9, nameIndex := 117, descriptorIndex := 118, attributes := #[] }] 48 6 #[] #[{ accessFlags := 26, nameIndex := 61, descriptorIndex := 62, attributes := #[] }, { accessFlags := 26, nameIndex := 65, descriptorIndex := 62, attributes := #[] }, { accessFlags := 24, nameIndex := 430, descriptorIndex := 62, attributes := #[] }, { accessFlags := 4120, nameIndex := 46, descriptorIndex := 47, attributes := #[] }])
  fields := #[{ name := "HI_BYTE_SHIFT", type := .int, accessFlags := 26, slot := 0, constantValue := 0 }, { name := "LO_BYTE_SHIFT", type := .int, accessFlags := 26, slot := 1, constantValue := 0 }, { name := "MAX_LENGTH", type := .int, accessFlags := 24, slot := 2, constantValue := 0 }, { name := "$assertionsDisabled", type := .boolean, accessFlags := 4120, slot := 3, constantValue := 0 }]
  methods := #[k8m0, k8m1, k8m2, k8m3, k8m4, k8m5, k8m6, k8m7, k8m8, k8m9, k8m10, k8m11, k8m12]
  instanceTypes := #[]
  staticTypes := #[.int, .int, .int, .boolean]
  resolved := Array.replicate 635 none
  statics := some 1 }

def pool9 : Array CpInfo := pool [(1, .methodref 2 3), (0, .class_ 4), (0, .nameAndType 5 6), (0, u "java/lang/Object"), (0, u "<init>"), (0, u "()V"), (0, .fieldref 8 9), (0, .class_ 10), (0, .nameAndType 11 12), (0, u "com/example/guarded_once/guardedonce/guard/MessageKey"), (0, u "value"), (0, u "Ljava/lang/String;"), (0, .string 11), (0, .methodref 15 16), (0, .class_ 17), (0, .nameAndType 18 19), (0, u "java/util/Objects"), (0, u "requireNonNull"), (0, u "(Ljava/lang/Object;Ljava/lang/String;)Ljava/lang/Object;"), (0, .methodref 21 22), (0, .class_ 23), (0, .nameAndType 24 25), (0, u "java/lang/String"), (0, u "length"), (0, u "()I"), (0, .methodref 21 27), (0, .nameAndType 28 29), (0, u "codePointCount"), (0, u "(II)I"), (15, .nameAndType 5 46), (0, u "(Ljava/lang/String;)V"), (0, .methodref 21 48), (0, .nameAndType 49 50), (0, u "codePointAt"), (0, u "(I)I"), (0, .class_ 52), (0, u "java/lang/Character"), (0, .integer 55296), (0, .integer 57343), (4, .methodref 51 60), (0, .nameAndType 61 50), (0, u "charCount"), (0, .methodref 8 45), (7, u "MAX_LENGTH"), (0, u "I"), (4, u "of"), (0, u "(Ljava/lang/String;)Lcom/example/guarded_once/guardedonce/guard/MessageKey;"), (1, u "()Ljava/lang/String;")] 3

def k9c0 : Code := { maxStack := 2, maxLocals := 2, code := prog_9_method_1_code, exceptionTable := #[], attributes := #[] }
def k9m0 : Method := { name := "<init>", desc := "(Ljava/lang/String;)V", sig := { parameters := [(.object "java/lang/String")], returnType := none }, accessFlags := 2, code := some k9c0 }
def k9c1 : Code := { maxStack := 7, maxLocals := 4, code := prog_9_method_2_code, exceptionTable := #[], attributes := #[] }
def k9m1 : Method := { name := "of", desc := "(Ljava/lang/String;)Lcom/example/guarded_once/guardedonce/guard/MessageKey;", sig := { parameters := [(.object "java/lang/String")], returnType := some (.object "com/example/guarded_once/guardedonce/guard/MessageKey") }, accessFlags := 9, code := some k9c1 }
def k9c2 : Code := { maxStack := 1, maxLocals := 1, code := prog_9_method_3_code, exceptionTable := #[], attributes := #[] }
def k9m2 : Method := { name := "value", desc := "()Ljava/lang/String;", sig := { parameters := [], returnType := some (.object "java/lang/String") }, accessFlags := 1, code := some k9c2 }
/-- com/example/guarded_once/guardedonce/guard/MessageKey -/
def k9 : Class := { plain "com/example/guarded_once/guardedonce/guard/MessageKey" (some 0) with
  accessFlags := 49
  interfaces := #[]
  cf := some (fileOf pool9 8 #[] #[{ accessFlags := 2, nameIndex := 5, descriptorIndex := 46, attributes := #[] }, { accessFlags := 9, nameIndex := 76, descriptorIndex := 77, attributes := #[] }, { accessFlags := 1, nameIndex := 11, descriptorIndex := 79, attributes := #[] }] 49 2 #[] #[{ accessFlags := 25, nameIndex := 70, descriptorIndex := 71, attributes := #[] }, { accessFlags := 18, nameIndex := 11, descriptorIndex := 12, attributes := #[] }])
  fields := #[{ name := "MAX_LENGTH", type := .int, accessFlags := 25, slot := 0, constantValue := 0 }, { name := "value", type := (.object "java/lang/String"), accessFlags := 18, slot := 0, constantValue := 0 }]
  methods := #[k9m0, k9m1, k9m2]
  instanceTypes := #[(.object "java/lang/String")]
  staticTypes := #[.int]
  resolved := Array.replicate 83 none
  statics := none }

def pool10 : Array CpInfo := pool [(2, .class_ 4), (1, u "java/lang/Object"), (0, u "<init>"), (0, u "()V"), (35, .class_ 44), (1, u "java/util/Objects"), (0, u "requireNonNull"), (48, u "(Ljava/lang/Object;Ljava/lang/String;)Ljava/lang/Object;"), (11, .class_ 108), (1, u "jdk/internal/util/Preconditions"), (2, .methodref 106 112), (0, .nameAndType 113 114), (0, u "checkFromToIndex"), (0, u "(IIILjava/util/function/BiFunction;)I"), (60, u "(III)I")] 8

def k10m0 : Method := { name := "<init>", desc := "()V", sig := { parameters := [], returnType := none }, accessFlags := 2, code := none }
def k10c1 : Code := { maxStack := 3, maxLocals := 2, code := jdk_31_method_11_code, exceptionTable := #[], attributes := #[] }
def k10m1 : Method := { name := "requireNonNull", desc := "(Ljava/lang/Object;Ljava/lang/String;)Ljava/lang/Object;", sig := { parameters := [(.object "java/lang/Object"), (.object "java/lang/String")], returnType := some (.object "java/lang/Object") }, accessFlags := 9, code := some k10c1 }
def k10c2 : Code := { maxStack := 4, maxLocals := 3, code := jdk_31_method_18_code, exceptionTable := #[], attributes := #[] }
def k10m2 : Method := { name := "checkFromToIndex", desc := "(III)I", sig := { parameters := [.int, .int, .int], returnType := some .int }, accessFlags := 9, code := some k10c2 }
/-- java/util/Objects -/
def k10 : Class := { plain "java/util/Objects" (some 0) with
  accessFlags := 49
  interfaces := #[]
  cf := some (fileOf pool10 42 #[] #[{ accessFlags := 2, nameIndex := 5, descriptorIndex := 6, attributes := #[] }, { accessFlags := 9, nameIndex := 45, descriptorIndex := 94, attributes := #[] }, { accessFlags := 9, nameIndex := 113, descriptorIndex := 175, attributes := #[] }] 49 2 #[] #[])
  fields := #[]
  methods := #[k10m0, k10m1, k10m2]
  instanceTypes := #[]
  staticTypes := #[]
  resolved := Array.replicate 184 none
  statics := none }

def pool11 : Array CpInfo := pool [(2, .class_ 4), (1, u "java/lang/Object"), (0, u "<init>"), (0, u "()V"), (17, .class_ 26), (1, u "jdk/internal/util/Preconditions"), (6, u "checkIndex"), (13, u "checkFromToIndex"), (7, .class_ 56), (0, u "jdk/internal/util/Preconditions$4"), (57, .class_ 115), (0, u "jdk/internal/util/Preconditions$1"), (7, u "SIOOBE_FORMATTER"), (0, u "Ljava/util/function/BiFunction;"), (0, .class_ 126), (0, u "jdk/internal/util/Preconditions$2"), (3, u "AIOOBE_FORMATTER"), (0, .class_ 132), (0, u "jdk/internal/util/Preconditions$3"), (3, u "IOOBE_FORMATTER"), (41, u "(IILjava/util/function/BiFunction;)I"), (4, u "(IIILjava/util/function/BiFunction;)I")] 10

def k11m0 : Method := { name := "<init>", desc := "()V", sig := { parameters := [], returnType := none }, accessFlags := 1, code := none }
def k11c1 : Code := { maxStack := 3, maxLocals := 3, code := jdk_41_method_11_code, exceptionTable := #[], attributes := #[] }
def k11m1 : Method := { name := "checkIndex", desc := "(IILjava/util/function/BiFunction;)I", sig := { parameters := [.int, .int, (.object "java/util/function/BiFunction")], returnType := some .int }, accessFlags := 9, code := some k11c1 }
def k11c2 : Code := { maxStack := 4, maxLocals := 4, code := jdk_41_method_12_code, exceptionTable := #[], attributes := #[] }
def k11m2 : Method := { name := "checkFromToIndex", desc := "(IIILjava/util/function/BiFunction;)I", sig := { parameters := [.int, .int, .int, (.object "java/util/function/BiFunction")], returnType := some .int }, accessFlags := 9, code := some k11c2 }
/-- jdk/internal/util/Preconditions -/
def k11 : Class := { plain "jdk/internal/util/Preconditions" (some 0) with
  accessFlags := 33
  interfaces := #[]
  cf := some (fileOf pool11 24 #[.nestMembers #[55, 131, 125, 114]] #[{ accessFlags := 1, nameIndex := 5, descriptorIndex := 6, attributes := #[] }, { accessFlags := 9, nameIndex := 33, descriptorIndex := 178, attributes := #[] }, { accessFlags := 9, nameIndex := 47, descriptorIndex := 183, attributes := #[] }] 33 2 #[] #[{ accessFlags := 25, nameIndex := 123, descriptorIndex := 124, attributes := #[] }, { accessFlags := 25, nameIndex := 130, descriptorIndex := 124, attributes := #[] }, { accessFlags := 25, nameIndex := 136, descriptorIndex := 124, attributes := #[] }])
  fields := #[{ name := "SIOOBE_FORMATTER", type := (.object "java/util/function/BiFunction"), accessFlags := 25, slot := 0, constantValue := 0 }, { name := "AIOOBE_FORMATTER", type := (.object "java/util/function/BiFunction"), accessFlags := 25, slot := 1, constantValue := 0 }, { name := "IOOBE_FORMATTER", type := (.object "java/util/function/BiFunction"), accessFlags := 25, slot := 2, constantValue := 0 }]
  methods := #[k11m0, k11m1, k11m2]
  instanceTypes := #[]
  staticTypes := #[(.object "java/util/function/BiFunction"), (.object "java/util/function/BiFunction"), (.object "java/util/function/BiFunction")]
  resolved := Array.replicate 194 none
  statics := some 2 }

def pool12 : Array CpInfo := pool [(1, .class_ 2), (0, u "java/lang/Character"), (18, u "value"), (0, u "C"), (19, .class_ 44), (1, u "java/lang/Object"), (3, .class_ 50), (1, u "java/lang/Character$CharacterCache"), (22, .integer 65536), (1, .integer 55296), (0, .integer 56320), (0, .integer 57344), (2, u "isHighSurrogate"), (0, u "(C)Z"), (2, u "isLowSurrogate"), (0, .integer 4238353408), (12, u "toCodePoint"), (0, u "(CC)I"), (74, u "(I)I"), (109, u "$assertionsDisabled"), (0, u "Z"), (21, .class_ 309), (1, u "java/lang/Character$UnicodeBlock"), (73, u "TYPE"), (0, u "Ljava/lang/Class;"), (0, .class_ 386), (0, u "java/io/Serializable"), (0, .class_ 388), (0, u "java/lang/Comparable"), (0, .class_ 390), (0, u "java/lang/constant/Constable"), (0, u "MIN_RADIX"), (0, u "I"), (2, u "MAX_RADIX"), (1, u "MIN_VALUE"), (1, u "MAX_VALUE"), (3, u "UNASSIGNED"), (0, u "B"), (0, u "UPPERCASE_LETTER"), (1, u "LOWERCASE_LETTER"), (0, u "TITLECASE_LETTER"), (1, u "MODIFIER_LETTER"), (1, u "OTHER_LETTER"), (1, u "NON_SPACING_MARK"), (1, u "ENCLOSING_MARK"), (1, u "COMBINING_SPACING_MARK"), (1, u "DECIMAL_DIGIT_NUMBER"), (1, u "LETTER_NUMBER"), (1, u "OTHER_NUMBER"), (1, u "SPACE_SEPARATOR"), (1, u "LINE_SEPARATOR"), (1, u "PARAGRAPH_SEPARATOR"), (1, u "CONTROL"), (1, u "FORMAT"), (1, u "PRIVATE_USE"), (1, u "SURROGATE"), (1, u "DASH_PUNCTUATION"), (1, u "START_PUNCTUATION"), (1, u "END_PUNCTUATION"), (1, u "CONNECTOR_PUNCTUATION"), (1, u "OTHER_PUNCTUATION"), (1, u "MATH_SYMBOL"), (1, u "CURRENCY_SYMBOL"), (1, u "MODIFIER_SYMBOL"), (1, u "OTHER_SYMBOL"), (1, u "INITIAL_QUOTE_PUNCTUATION"), (1, u "FINAL_QUOTE_PUNCTUATION"), (1, u "ERROR"), (1, u "DIRECTIONALITY_UNDEFINED"), (0, u "DIRECTIONALITY_LEFT_TO_RIGHT"), (0, u "DIRECTIONALITY_RIGHT_TO_LEFT"), (0, u "DIRECTIONALITY_RIGHT_TO_LEFT_ARABIC"), (0, u "DIRECTIONALITY_EUROPEAN_NUMBER"), (0, u "DIRECTIONALITY_EUROPEAN_NUMBER_SEPARATOR"), (0, u "DIRECTIONALITY_EUROPEAN_NUMBER_TERMINATOR"), (0, u "DIRECTIONALITY_ARABIC_NUMBER"), (0, u "DIRECTIONALITY_COMMON_NUMBER_SEPARATOR"), (0, u "DIRECTIONALITY_NONSPACING_MARK"), (0, u "DIRECTIONALITY_BOUNDARY_NEUTRAL"), (0, u "DIRECTIONALITY_PARAGRAPH_SEPARATOR"), (0, u "DIRECTIONALITY_SEGMENT_SEPARATOR"), (0, u "DIRECTIONALITY_WHITESPACE"), (0, u "DIRECTIONALITY_OTHER_NEUTRALS"), (0, u "DIRECTIONALITY_LEFT_TO_RIGHT_EMBEDDING"), (0, u "DIRECTIONALITY_LEFT_TO_RIGHT_OVERRIDE"), (0, u "DIRECTIONALITY_RIGHT_TO_LEFT_EMBEDDING"), (0, u "DIRECTIONALITY_RIGHT_TO_LEFT_OVERRIDE"), (1, u "DIRECTIONALITY_POP_DIRECTIONAL_FORMAT"), (0, u "DIRECTIONALITY_LEFT_TO_RIGHT_ISOLATE"), (0, u "DIRECTIONALITY_RIGHT_TO_LEFT_ISOLATE"), (0, u "DIRECTIONALITY_FIRST_STRONG_ISOLATE"), (0, u "DIRECTIONALITY_POP_DIRECTIONAL_ISOLATE"), (0, u "MIN_HIGH_SURROGATE"), (0, u "MAX_HIGH_SURROGATE"), (1, u "MIN_LOW_SURROGATE"), (0, u "MAX_LOW_SURROGATE"), (1, u "MIN_SURROGATE"), (0, u "MAX_SURROGATE"), (0, u "MIN_SUPPLEMENTARY_CODE_POINT"), (0, u "MIN_CODE_POINT"), (0, u "MAX_CODE_POINT"), (1, u "serialVersionUID"), (0, u "J"), (2, u "SIZE"), (0, u "BYTES"), (29, u "charCount"), (58, .class_ 596), (0, u "java/lang/Character$UnicodeScript"), (0, .class_ 598), (0, u "java/lang/Character$Subset")] 5

def k12c0 : Code := { maxStack := 2, maxLocals := 1, code := jdk_89_method_14_code, exceptionTable := #[], attributes := #[] }
def k12m0 : Method := { name := "isHighSurrogate", desc := "(C)Z", sig := { parameters := [.char], returnType := some .boolean }, accessFlags := 9, code := some k12c0 }
def k12c1 : Code := { maxStack := 2, maxLocals := 1, code := jdk_89_method_15_code, exceptionTable := #[], attributes := #[] }
def k12m1 : Method := { name := "isLowSurrogate", desc := "(C)Z", sig := { parameters := [.char], returnType := some .boolean }, accessFlags := 9, code := some k12c1 }
def k12c2 : Code := { maxStack := 2, maxLocals := 1, code := jdk_89_method_18_code, exceptionTable := #[], attributes := #[] }
def k12m2 : Method := { name := "charCount", desc := "(I)I", sig := { parameters := [.int], returnType := some .int }, accessFlags := 9, code := some k12c2 }
def k12c3 : Code := { maxStack := 2, maxLocals := 2, code := jdk_89_method_19_code, exceptionTable := #[], attributes := #[] }
def k12m3 : Method := { name := "toCodePoint", desc := "(CC)I", sig := { parameters := [.char, .char], returnType := some .int }, accessFlags := 9, code := some k12c3 }
/-- java/lang/Character -/
def k12 : Class := { plain "java/lang/Character" (some 0) with
  accessFlags := 49
  interfaces := #[2, 3, 5]
  cf := some (fileOf pool12 1 #[.nestMembers #[48, 595, 307, 597]] #[{ accessFlags := 9, nameIndex := 80, descriptorIndex := 81, attributes := #[] }, { accessFlags := 9, nameIndex := 84, descriptorIndex := 81, attributes := #[] }, { accessFlags := 9, nameIndex := 536, descriptorIndex := 174, attributes := #[] }, { accessFlags := 9, nameIndex := 98, descriptorIndex := 99, attributes := #[] }] 49 42 #[385, 387, 389] #[{ accessFlags := 25, nameIndex := 391, descriptorIndex := 392, attributes := #[] }, { accessFlags := 25, nameIndex := 395, descriptorIndex := 392, attributes := #[] }, { accessFlags := 25, nameIndex := 397, descriptorIndex := 22, attributes := #[] }, { accessFlags := 25, nameIndex := 399, descriptorIndex := 22, attributes := #[] }, { accessFlags := 25, nameIndex := 383, descriptorIndex := 384, attributes := #[] }, { accessFlags := 25, nameIndex := 403, descriptorIndex := 404, attributes := #[] }, { accessFlags := 25, nameIndex := 405, descriptorIndex := 404, attributes := #[] }, { accessFlags := 25, nameIndex := 407, descriptorIndex := 404, attributes := #[] }, { accessFlags := 25, nameIndex := 408, descriptorIndex := 404, attributes := #[] }, { accessFlags := 25, nameIndex := 410, descriptorIndex := 404, attributes := #[] }, { accessFlags := 25, nameIndex := 412, descriptorIndex := 404, attributes := #[] }, { accessFlags := 25, nameIndex := 414, descriptorIndex := 404, attributes := #[] }, { accessFlags := 25, nameIndex := 416, descriptorIndex := 404, attributes := #[] }, { accessFlags := 25, nameIndex := 418, descriptorIndex := 404, attributes := #[] }, { accessFlags := 25, nameIndex := 420, descriptorIndex := 404, attributes := #[] }, { accessFlags := 25, nameIndex := 422, descriptorIndex := 404, attributes := #[] }, { accessFlags := 25, nameIndex := 424, descriptorIndex := 404, attributes := #[] }, { accessFlags := 25, nameIndex := 426, descriptorIndex := 404, attributes := #[] }, { accessFlags := 25, nameIndex := 428, descriptorIndex := 404, attributes := #[] }, { accessFlags := 25, nameIndex := 430, descriptorIndex := 404, attributes := #[] }, { accessFlags := 25, nameIndex := 432, descriptorIndex := 404, attributes := #[] }, { accessFlags := 25, nameIndex := 434, descriptorIndex := 404, attributes := #[] }, { accessFlags := 25, nameIndex := 436, descriptorIndex := 404, attributes := #[] }, { accessFlags := 25, nameIndex := 438, descriptorIndex := 404, attributes := #[] }, { accessFlags := 25, nameIndex := 440, descriptorIndex := 404, attributes := #[] }, { accessFlags := 25, nameIndex := 442, descriptorIndex := 404, attributes := #[] }, { accessFlags := 25, nameIndex := 444, descriptorIndex := 404, attributes := #[] }, { accessFlags := 25, nameIndex := 446, descriptorIndex := 404, attributes := #[] }, { accessFlags := 25, nameIndex := 448, descriptorIndex := 404, attributes := #[] }, { accessFlags := 25, nameIndex := 450, descriptorIndex := 404, attributes := #[] }, { accessFlags := 25, nameIndex := 452, descriptorIndex := 404, attributes := #[] }, { accessFlags := 25, nameIndex := 454, descriptorIndex := 404, attributes := #[] }, { accessFlags := 25, nameIndex := 456, descriptorIndex := 404, attributes := #[] }, { accessFlags := 25, nameIndex := 458, descriptorIndex := 404, attributes := #[] }, { accessFlags := 25, nameIndex := 460, descriptorIndex := 404, attributes := #[] }, { accessFlags := 24, nameIndex := 462, descriptorIndex := 392, attributes := #[] }, { accessFlags := 25, nameIndex := 464, descriptorIndex := 404, attributes := #[] }, { accessFlags := 25, nameIndex := 465, descriptorIndex := 404, attributes := #[] }, { accessFlags := 25, nameIndex := 466, descriptorIndex := 404, attributes := #[] }, { accessFlags := 25, nameIndex := 467, descriptorIndex := 404, attributes := #[] }, { accessFlags := 25, nameIndex := 468, descriptorIndex := 404, attributes := #[] }, { accessFlags := 25, nameIndex := 469, descriptorIndex := 404, attributes := #[] }, { accessFlags := 25, nameIndex := 470, descriptorIndex := 404, attributes := #[] }, { accessFlags := 25, nameIndex := 471, descriptorIndex := 404, attributes := #[] }, { accessFlags := 25, nameIndex := 472, descriptorIndex := 404, attributes := #[] }, { accessFlags := 25, nameIndex := 473, descriptorIndex := 404, attributes := #[] }, { accessFlags := 25, nameIndex := 474, descriptorIndex := 404, attributes := #[] }, { accessFlags := 25, nameIndex := 475, descriptorIndex := 404, attributes := #[] }, { accessFlags := 25, nameIndex := 476, descriptorIndex := 404, attributes := #[] }, { accessFlags := 25, nameIndex := 477, descriptorIndex := 404, attributes := #[] }, { accessFlags := 25, nameIndex := 478, descriptorIndex := 404, attributes := #[] }, { accessFlags := 25, nameIndex := 479, descriptorIndex := 404, attributes := #[] }, { accessFlags := 25, nameIndex := 480, descriptorIndex := 404, attributes := #[] }, { accessFlags := 25, nameIndex := 481, descriptorIndex := 404, attributes := #[] }, { accessFlags := 25, nameIndex := 482, descriptorIndex := 404, attributes := #[] }, { accessFlags := 25, nameIndex := 484, descriptorIndex := 404, attributes := #[] }, { accessFlags := 25, nameIndex := 485, descriptorIndex := 404, attributes := #[] }, { accessFlags := 25, nameIndex := 486, descriptorIndex := 404, attributes := #[] }, { accessFlags := 25, nameIndex := 487, descriptorIndex := 404, attributes := #[] }, { accessFlags := 25, nameIndex := 488, descriptorIndex := 404, attributes := #[] }, { accessFlags := 25, nameIndex := 489, descriptorIndex := 22, attributes := #[] }, { accessFlags := 25, nameIndex := 490, descriptorIndex := 22, attributes := #[] }, { accessFlags := 25, nameIndex := 492, descriptorIndex := 22, attributes := #[] }, { accessFlags := 25, nameIndex := 493, descriptorIndex := 22, attributes := #[] }, { accessFlags := 25, nameIndex := 495, descriptorIndex := 22, attributes := #[] }, { accessFlags := 25, nameIndex := 496, descriptorIndex := 22, attributes := #[] }, { accessFlags := 25, nameIndex := 497, descriptorIndex := 392, attributes := #[] }, { accessFlags := 25, nameIndex := 498, descriptorIndex := 392, attributes := #[] }, { accessFlags := 25, nameIndex := 499, descriptorIndex := 392, attributes := #[] }, { accessFlags := 18, nameIndex := 21, descriptorIndex := 22, attributes := #[] }, { accessFlags := 26, nameIndex := 501, descriptorIndex := 502, attributes := #[] }, { accessFlags := 25, nameIndex := 505, descriptorIndex := 392, attributes := #[] }, { accessFlags := 25, nameIndex := 506, descriptorIndex := 392, attributes := #[] }, { accessFlags := 4120, nameIndex := 284, descriptorIndex := 285, attributes := #[] }])
  fields := #[{ name := "MIN_RADIX", type := .int, accessFlags := 25, slot := 0, constantValue := 0 }, { name := "MAX_RADIX", type := .int, accessFlags := 25, slot := 1, constantValue := 0 }, { name := "MIN_VALUE", type := .char, accessFlags := 25, slot := 2, constantValue := 0 }, { name := "MAX_VALUE", type := .char, accessFlags := 25, slot := 3, constantValue := 0 }, { name := "TYPE", type := (.object "java/lang/Class"), accessFlags := 25, slot := 4, constantValue := 0 }, { name := "UNASSIGNED", type := .byte, accessFlags := 25, slot := 5, constantValue := 0 }, { name := "UPPERCASE_LETTER", type := .byte, accessFlags := 25, slot := 6, constantValue := 0 }, { name := "LOWERCASE_LETTER", type := .byte, accessFlags := 25, slot := 7, constantValue := 0 }, { name := "TITLECASE_LETTER", type := .byte, accessFlags := 25, slot := 8, constantValue := 0 }, { name := "MODIFIER_LETTER", type := .byte, accessFlags := 25, slot := 9, constantValue := 0 }, { name := "OTHER_LETTER", type := .byte, accessFlags := 25, slot := 10, constantValue := 0 }, { name := "NON_SPACING_MARK", type := .byte, accessFlags := 25, slot := 11, constantValue := 0 }, { name := "ENCLOSING_MARK", type := .byte, accessFlags := 25, slot := 12, constantValue := 0 }, { name := "COMBINING_SPACING_MARK", type := .byte, accessFlags := 25, slot := 13, constantValue := 0 }, { name := "DECIMAL_DIGIT_NUMBER", type := .byte, accessFlags := 25, slot := 14, constantValue := 0 }, { name := "LETTER_NUMBER", type := .byte, accessFlags := 25, slot := 15, constantValue := 0 }, { name := "OTHER_NUMBER", type := .byte, accessFlags := 25, slot := 16, constantValue := 0 }, { name := "SPACE_SEPARATOR", type := .byte, accessFlags := 25, slot := 17, constantValue := 0 }, { name := "LINE_SEPARATOR", type := .byte, accessFlags := 25, slot := 18, constantValue := 0 }, { name := "PARAGRAPH_SEPARATOR", type := .byte, accessFlags := 25, slot := 19, constantValue := 0 }, { name := "CONTROL", type := .byte, accessFlags := 25, slot := 20, constantValue := 0 }, { name := "FORMAT", type := .byte, accessFlags := 25, slot := 21, constantValue := 0 }, { name := "PRIVATE_USE", type := .byte, accessFlags := 25, slot := 22, constantValue := 0 }, { name := "SURROGATE", type := .byte, accessFlags := 25, slot := 23, constantValue := 0 }, { name := "DASH_PUNCTUATION", type := .byte, accessFlags := 25, slot := 24, constantValue := 0 }, { name := "START_PUNCTUATION", type := .byte, accessFlags := 25, slot := 25, constantValue := 0 }, { name := "END_PUNCTUATION", type := .byte, accessFlags := 25, slot := 26, constantValue := 0 }, { name := "CONNECTOR_PUNCTUATION", type := .byte, accessFlags := 25, slot := 27, constantValue := 0 }, { name := "OTHER_PUNCTUATION", type := .byte, accessFlags := 25, slot := 28, constantValue := 0 }, { name := "MATH_SYMBOL", type := .byte, accessFlags := 25, slot := 29, constantValue := 0 }, { name := "CURRENCY_SYMBOL", type := .byte, accessFlags := 25, slot := 30, constantValue := 0 }, { name := "MODIFIER_SYMBOL", type := .byte, accessFlags := 25, slot := 31, constantValue := 0 }, { name := "OTHER_SYMBOL", type := .byte, accessFlags := 25, slot := 32, constantValue := 0 }, { name := "INITIAL_QUOTE_PUNCTUATION", type := .byte, accessFlags := 25, slot := 33, constantValue := 0 }, { name := "FINAL_QUOTE_PUNCTUATION", type := .byte, accessFlags := 25, slot := 34, constantValue := 0 }, { name := "ERROR", type := .int, accessFlags := 24, slot := 35, constantValue := 0 }, { name := "DIRECTIONALITY_UNDEFINED", type := .byte, accessFlags := 25, slot := 36, constantValue := 0 }, { name := "DIRECTIONALITY_LEFT_TO_RIGHT", type := .byte, accessFlags := 25, slot := 37, constantValue := 0 }, { name := "DIRECTIONALITY_RIGHT_TO_LEFT", type := .byte, accessFlags := 25, slot := 38, constantValue := 0 }, { name := "DIRECTIONALITY_RIGHT_TO_LEFT_ARABIC", type := .byte, accessFlags := 25, slot := 39, constantValue := 0 }, { name := "DIRECTIONALITY_EUROPEAN_NUMBER", type := .byte, accessFlags := 25, slot := 40, constantValue := 0 }, { name := "DIRECTIONALITY_EUROPEAN_NUMBER_SEPARATOR", type := .byte, accessFlags := 25, slot := 41, constantValue := 0 }, { name := "DIRECTIONALITY_EUROPEAN_NUMBER_TERMINATOR", type := .byte, accessFlags := 25, slot := 42, constantValue := 0 }, { name := "DIRECTIONALITY_ARABIC_NUMBER", type := .byte, accessFlags := 25, slot := 43, constantValue := 0 }, { name := "DIRECTIONALITY_COMMON_NUMBER_SEPARATOR", type := .byte, accessFlags := 25, slot := 44, constantValue := 0 }, { name := "DIRECTIONALITY_NONSPACING_MARK", type := .byte, accessFlags := 25, slot := 45, constantValue := 0 }, { name := "DIRECTIONALITY_BOUNDARY_NEUTRAL", type := .byte, accessFlags := 25, slot := 46, constantValue := 0 }, { name := "DIRECTIONALITY_PARAGRAPH_SEPARATOR", type := .byte, accessFlags := 25, slot := 47, constantValue := 0 }, { name := "DIRECTIONALITY_SEGMENT_SEPARATOR", type := .byte, accessFlags := 25, slot := 48, constantValue := 0 }, { name := "DIRECTIONALITY_WHITESPACE", type := .byte, accessFlags := 25, slot := 49, constantValue := 0 }, { name := "DIRECTIONALITY_OTHER_NEUTRALS", type := .byte, accessFlags := 25, slot := 50, constantValue := 0 }, { name := "DIRECTIONALITY_LEFT_TO_RIGHT_EMBEDDING", type := .byte, accessFlags := 25, slot := 51, constantValue := 0 }, { name := "DIRECTIONALITY_LEFT_TO_RIGHT_OVERRIDE", type := .byte, accessFlags := 25, slot := 52, constantValue := 0 }, { name := "DIRECTIONALITY_RIGHT_TO_LEFT_EMBEDDING", type := .byte, accessFlags := 25, slot := 53, constantValue := 0 }, { name := "DIRECTIONALITY_RIGHT_TO_LEFT_OVERRIDE", type := .byte, accessFlags := 25, slot := 54, constantValue := 0 }, { name := "DIRECTIONALITY_POP_DIRECTIONAL_FORMAT", type := .byte, accessFlags := 25, slot := 55, constantValue := 0 }, { name := "DIRECTIONALITY_LEFT_TO_RIGHT_ISOLATE", type := .byte, accessFlags := 25, slot := 56, constantValue := 0 }, { name := "DIRECTIONALITY_RIGHT_TO_LEFT_ISOLATE", type := .byte, accessFlags := 25, slot := 57, constantValue := 0 }, { name := "DIRECTIONALITY_FIRST_STRONG_ISOLATE", type := .byte, accessFlags := 25, slot := 58, constantValue := 0 }, { name := "DIRECTIONALITY_POP_DIRECTIONAL_ISOLATE", type := .byte, accessFlags := 25, slot := 59, constantValue := 0 }, { name := "MIN_HIGH_SURROGATE", type := .char, accessFlags := 25, slot := 60, constantValue := 0 }, { name := "MAX_HIGH_SURROGATE", type := .char, accessFlags := 25, slot := 61, constantValue := 0 }, { name := "MIN_LOW_SURROGATE", type := .char, accessFlags := 25, slot := 62, constantValue := 0 }, { name := "MAX_LOW_SURROGATE", type := .char, accessFlags := 25, slot := 63, constantValue := 0 }, { name := "MIN_SURROGATE", type := .char, accessFlags := 25, slot := 64, constantValue := 0 }, { name := "MAX_SURROGATE", type := .char, accessFlags := 25, slot := 65, constantValue := 0 }, { name := "MIN_SUPPLEMENTARY_CODE_POINT", type := .int, accessFlags := 25, slot := 66, constantValue := 0 }, { name := "MIN_CODE_POINT", type := .int, accessFlags := 25, slot := 67, constantValue := 0 }, { name := "MAX_CODE_POINT", type := .int, accessFlags := 25, slot := 68, constantValue := 0 }, { name := "value", type := .char, accessFlags := 18, slot := 0, constantValue := 0 }, { name := "serialVersionUID", type := .long, accessFlags := 26, slot := 69, constantValue := 0 }, { name := "SIZE", type := .int, accessFlags := 25, slot := 70, constantValue := 0 }, { name := "BYTES", type := .int, accessFlags := 25, slot := 71, constantValue := 0 }, { name := "$assertionsDisabled", type := .boolean, accessFlags := 4120, slot := 72, constantValue := 0 }]
  methods := #[k12m0, k12m1, k12m2, k12m3]
  instanceTypes := #[.char]
  staticTypes := #[.int, .int, .char, .char, (.object "java/lang/Class"), .byte, .byte, .byte, .byte, .byte, .byte, .byte, .byte, .byte, .byte, .byte, .byte, .byte, .byte, .byte, .byte, .byte, .byte, .byte, .byte, .byte, .byte, .byte, .byte, .byte, .byte, .byte, .byte, .byte, .byte, .int, .byte, .byte, .byte, .byte, .byte, .byte, .byte, .byte, .byte, .byte, .byte, .byte, .byte, .byte, .byte, .byte, .byte, .byte, .byte, .byte, .byte, .byte, .byte, .byte, .char, .char, .char, .char, .char, .char, .int, .int, .int, .long, .int, .int, .boolean]
  resolved := Array.replicate 604 none
  statics := none }

def pool13 : Array CpInfo := pool [(4, .class_ 6), (1, u "java/lang/Object"), (0, u "<init>"), (0, u "()V"), (5, .class_ 16), (1, u "java/lang/StringLatin1"), (104, u "$assertionsDisabled"), (0, u "Z"), (98, .class_ 223), (1, u "java/lang/StringLatin1$LinesSpliterator"), (166, .class_ 391), (0, u "java/lang/StringLatin1$CharsSpliterator")] 3

def k13m0 : Method := { name := "<init>", desc := "()V", sig := { parameters := [], returnType := none }, accessFlags := 0, code := none }
/-- java/lang/StringLatin1 -/
def k13 : Class := { plain "java/lang/StringLatin1" (some 0) with
  accessFlags := 48
  interfaces := #[]
  cf := some (fileOf pool13 14 #[.nestMembers #[390, 221]] #[{ accessFlags := 0, nameIndex := 7, descriptorIndex := 8, attributes := #[] }] 48 4 #[] #[{ accessFlags := 4120, nameIndex := 121, descriptorIndex := 122, attributes := #[] }])
  fields := #[{ name := "$assertionsDisabled", type := .boolean, accessFlags := 4120, slot := 0, constantValue := 0 }]
  methods := #[k13m0]
  instanceTypes := #[]
  staticTypes := #[.boolean]
  resolved := Array.replicate 395 none
  statics := none }

def pool14 : Array CpInfo := pool [(9, u "<init>"), (6, .class_ 18), (1, u "java/lang/Object"), (0, u "()V"), (1, .class_ 23), (1, u "jdk/internal/util/ArraysSupport"), (0, u "LOG2_ARRAY_LONG_INDEX_SCALE"), (0, u "I"), (2, u "U"), (0, u "Ljdk/internal/misc/Unsafe;"), (8, u "BIG_ENDIAN"), (0, u "Z"), (8, u "LOG2_BYTE_BIT_SIZE"), (4, u "LOG2_ARRAY_INT_INDEX_SCALE"), (54, u "JLA"), (0, u "Ljdk/internal/access/JavaLangAccess;"), (11, u "LOG2_ARRAY_BOOLEAN_INDEX_SCALE"), (9, u "LOG2_ARRAY_BYTE_INDEX_SCALE"), (5, u "LOG2_ARRAY_CHAR_INDEX_SCALE"), (5, u "LOG2_ARRAY_SHORT_INDEX_SCALE"), (18, u "LOG2_ARRAY_FLOAT_INDEX_SCALE"), (24, u "LOG2_ARRAY_DOUBLE_INDEX_SCALE"), (89, u "T_BOOLEAN"), (2, u "T_CHAR"), (1, u "T_FLOAT"), (1, u "T_DOUBLE"), (1, u "T_BYTE"), (1, u "T_SHORT"), (1, u "T_INT"), (1, u "T_LONG"), (1, u "SOFT_MAX_ARRAY_LENGTH")] 83

def k14m0 : Method := { name := "<init>", desc := "()V", sig := { parameters := [], returnType := none }, accessFlags := 2, code := none }
/-- jdk/internal/util/ArraysSupport -/
def k14 : Class := { plain "jdk/internal/util/ArraysSupport" (some 0) with
  accessFlags := 33
  interfaces := #[]
  cf := some (fileOf pool14 21 #[] #[{ accessFlags := 2, nameIndex := 9, descriptorIndex := 19, attributes := #[] }] 33 16 #[] #[{ accessFlags := 24, nameIndex := 28, descriptorIndex := 29, attributes := #[] }, { accessFlags := 26, nameIndex := 38, descriptorIndex := 39, attributes := #[] }, { accessFlags := 25, nameIndex := 121, descriptorIndex := 25, attributes := #[] }, { accessFlags := 25, nameIndex := 131, descriptorIndex := 25, attributes := #[] }, { accessFlags := 25, nameIndex := 137, descriptorIndex := 25, attributes := #[] }, { accessFlags := 25, nameIndex := 143, descriptorIndex := 25, attributes := #[] }, { accessFlags := 25, nameIndex := 53, descriptorIndex := 25, attributes := #[] }, { accessFlags := 25, nameIndex := 24, descriptorIndex := 25, attributes := #[] }, { accessFlags := 25, nameIndex := 162, descriptorIndex := 25, attributes := #[] }, { accessFlags := 25, nameIndex := 187, descriptorIndex := 25, attributes := #[] }, { accessFlags := 26, nameIndex := 48, descriptorIndex := 25, attributes := #[] }, { accessFlags := 25, nameIndex := 277, descriptorIndex := 25, attributes := #[] }, { accessFlags := 25, nameIndex := 280, descriptorIndex := 25, attributes := #[] }, { accessFlags := 25, nameIndex := 282, descriptorIndex := 25, attributes := #[] }, { accessFlags := 25, nameIndex := 284, descriptorIndex := 25, attributes := #[] }, { accessFlags := 25, nameIndex := 286, descriptorIndex := 25, attributes := #[] }, { accessFlags := 25, nameIndex := 288, descriptorIndex := 25, attributes := #[] }, { accessFlags := 25, nameIndex := 290, descriptorIndex := 25, attributes := #[] }, { accessFlags := 25, nameIndex := 292, descriptorIndex := 25, attributes := #[] }, { accessFlags := 26, nameIndex := 108, descriptorIndex := 109, attributes := #[] }, { accessFlags := 25, nameIndex := 294, descriptorIndex := 25, attributes := #[] }])
  fields := #[{ name := "U", type := (.object "jdk/internal/misc/Unsafe"), accessFlags := 24, slot := 0, constantValue := 0 }, { name := "BIG_ENDIAN", type := .boolean, accessFlags := 26, slot := 1, constantValue := 0 }, { name := "LOG2_ARRAY_BOOLEAN_INDEX_SCALE", type := .int, accessFlags := 25, slot := 2, constantValue := 0 }, { name := "LOG2_ARRAY_BYTE_INDEX_SCALE", type := .int, accessFlags := 25, slot := 3, constantValue := 0 }, { name := "LOG2_ARRAY_CHAR_INDEX_SCALE", type := .int, accessFlags := 25, slot := 4, constantValue := 0 }, { name := "LOG2_ARRAY_SHORT_INDEX_SCALE", type := .int, accessFlags := 25, slot := 5, constantValue := 0 }, { name := "LOG2_ARRAY_INT_INDEX_SCALE", type := .int, accessFlags := 25, slot := 6, constantValue := 0 }, { name := "LOG2_ARRAY_LONG_INDEX_SCALE", type := .int, accessFlags := 25, slot := 7, constantValue := 0 }, { name := "LOG2_ARRAY_FLOAT_INDEX_SCALE", type := .int, accessFlags := 25, slot := 8, constantValue := 0 }, { name := "LOG2_ARRAY_DOUBLE_INDEX_SCALE", type := .int, accessFlags := 25, slot := 9, constantValue := 0 }, { name := "LOG2_BYTE_BIT_SIZE", type := .int, accessFlags := 26, slot := 10, constantValue := 0 }, { name := "T_BOOLEAN", type := .int, accessFlags := 25, slot := 11, constantValue := 0 }, { name := "T_CHAR", type := .int, accessFlags := 25, slot := 12, constantValue := 0 }, { name := "T_FLOAT", type := .int, accessFlags := 25, slot := 13, constantValue := 0 }, { name := "T_DOUBLE", type := .int, accessFlags := 25, slot := 14, constantValue := 0 }, { name := "T_BYTE", type := .int, accessFlags := 25, slot := 15, constantValue := 0 }, { name := "T_SHORT", type := .int, accessFlags := 25, slot := 16, constantValue := 0 }, { name := "T_INT", type := .int, accessFlags := 25, slot := 17, constantValue := 0 }, { name := "T_LONG", type := .int, accessFlags := 25, slot := 18, constantValue := 0 }, { name := "JLA", type := (.object "jdk/internal/access/JavaLangAccess"), accessFlags := 26, slot := 19, constantValue := 0 }, { name := "SOFT_MAX_ARRAY_LENGTH", type := .int, accessFlags := 25, slot := 20, constantValue := 0 }]
  methods := #[k14m0]
  instanceTypes := #[]
  staticTypes := #[(.object "jdk/internal/misc/Unsafe"), .boolean, .int, .int, .int, .int, .int, .int, .int, .int, .int, .int, .int, .int, .int, .int, .int, .int, .int, (.object "jdk/internal/access/JavaLangAccess"), .int]
  resolved := Array.replicate 378 none
  statics := none }

def pool15 : Array CpInfo := pool [(1, u "java/lang/Cloneable"), (0, .class_ 1), (0, u "java/lang/Object"), (0, .class_ 3)] 3

/-- java/lang/Cloneable -/
def k15 : Class := { plain "java/lang/Cloneable" (some 0) with
  accessFlags := 1537
  interfaces := #[]
  cf := some (fileOf pool15 2 #[] #[] 1537 4 #[] #[])
  fields := #[]
  methods := #[]
  instanceTypes := #[]
  staticTypes := #[]
  resolved := Array.replicate 8 none
  statics := none }

/-- the primitive byte -/
def k16 : Class := { plain "byte" none with kind := .primitive 'B', accessFlags := 0x411 }
/-- [B -/
def k17 : Class := { plain "[B" (some 0) with kind := .array 16 .byte, interfaces := #[15, 2], accessFlags := 1041 }

/-- the primitive char -/
def k18 : Class := { plain "char" none with kind := .primitive 'C', accessFlags := 0x411 }
/-- [C -/
def k19 : Class := { plain "[C" (some 0) with kind := .array 18 .char, interfaces := #[15, 2], accessFlags := 1041 }

/-- the primitive int -/
def k20 : Class := { plain "int" none with kind := .primitive 'I', accessFlags := 0x411 }
/-- [I -/
def k21 : Class := { plain "[I" (some 0) with kind := .array 20 .int, interfaces := #[15, 2], accessFlags := 1041 }

def heap : Heap := #[{ cls := 7, slots := #[.long 0, .int 1, .null, .int 0, .null, .int 0, .int 0], vm := .statics 7 },
  { cls := 8, slots := #[.int 0, .int 8, .int 0, .int 1], vm := .statics 8 },
  { cls := 11, slots := #[.null, .null, .null], vm := .statics 11 }]
def classes : Array Class := #[k0, k1, k2, k3, k4, k5, k6, k7, k8, k9, k10, k11, k12, k13, k14, k15, k16, k17, k18, k19, k20, k21]
def interned : List (Array UInt16 × Addr) := []
def slotsUsed : Nat := 14
def theMethod : MethodId := ⟨1, 5⟩
def args0 : Array Value := #[.int 5, .int 3, .int 2, .int 1, .int 4]
def aboutOver (below : List Frame) : State where
  vm := { classes := classes, interned := interned.toArray }
  heap := heap
  slotsUsed := slotsUsed
  threads := #[{ frames := .invoking theMethod args0 :: below }]
def below0 : List Frame := [.native { method := ⟨0, 0⟩, args := #[] }]
def about1 : State := aboutOver below0
def p0 : Program := .bare "" "" ""
def e0 : Env := launch0.env 0 0 0
theorem w_frames : about1.frames = Frame.invoking theMethod args0 :: below0 := rfl
set_option maxRecDepth 65536 in
theorem w_args : argsFit about1.vm theMethod args0 = true := by decide +kernel
set_option maxRecDepth 65536 in
theorem w_heap : heapFits about1 = true := by decide +kernel
set_option maxRecDepth 65536 in
theorem w_runnable : about1.curStatus? = some .runnable := by decide +kernel
set_option maxRecDepth 65536 in
theorem w_alone : about1.alone = true := by decide +kernel
set_option maxRecDepth 65536 in
theorem w_named : about1.methodNamed? x = some theMethod := by decide +kernel
set_option maxRecDepth 65536 in
theorem w_hears : about1.hears theMethod below0 = true := by decide +kernel
set_option maxRecDepth 65536 in
theorem w_ripe : about1.ripe theMethod args0 below0 = true := by decide +kernel
theorem w_running : about1.status = .running := rfl
set_option maxRecDepth 65536 in
theorem w_room : about1.hasRoom e0.platform room_1 = true :=
  launch0.hasRoom_least _ room_1 (by decide +kernel) (by decide +kernel) (by decide +kernel) (by decide +kernel) (by decide +kernel) (by decide +kernel)
theorem allAtoms_all (ts : List Jvm.Cond) (a : Array Jvm.Value) (st : Jvm.State) : (allAtoms ts).before a st = ts.all (fun c => c.before a st) := by
  induction ts with
  | nil => rfl
  | cons c t ih =>
    show (Jvm.Cond.and c (allAtoms t)).before a st = _
    rw [Jvm.Cond.before_and, ih, List.all_cons]
def words1 : List Jvm.Cond := Jvm.Cond.code x code maxLocals ret :: tables_1
/-- a 'code' word, met by the world's own term for the bytes: nothing is compared byte by byte -/
theorem code_word {y : MethodName} {bytes : ByteArray} {mx : Nat} {rt : Option FieldType} {a : Array Value} {s : State} {m : MethodId} {meth : Method} {c : Code} (h1 : s.methodNamed? y = some m) (h2 : s.vm.method? m = some meth) (h3 : meth.code = some c) (h4 : c.code = bytes)
    (h5 : (c.maxLocals == mx && c.exceptionTable.isEmpty && decide (c.maxStack ≤ mostOperands) && decide (meth.sig.returnType = rt) && !meth.locks && decide (parseMethodDescriptor y.desc = some meth.sig)) = true) : (Jvm.Cond.code y bytes mx rt).before a s = true := by
  simp only [Bool.and_eq_true, beq_iff_eq, Bool.not_eq_true', decide_eq_true_eq] at h5
  obtain ⟨⟨⟨⟨⟨g1, g2⟩, g3⟩, g4⟩, g5⟩, g6⟩ := h5
  simp [Cond.before, Cond.holds, Cond.value, h1, h2, h3, h4, g1, g2, g3, g4, g5, g6]
def isCode : Jvm.Cond → Bool
  | .code _ _ _ _ => true
  | _ => false
theorem all_split {L : List Jvm.Cond} {P : Jvm.Cond → Bool} (h1 : L.all (fun c => isCode c || P c) = true) (h2 : ∀ c ∈ L.filter isCode, P c = true) : L.all P = true := by
  refine List.all_eq_true.mpr fun c hc => ?_
  have h := List.all_eq_true.mp h1 c hc
  rcases Bool.eq_false_or_eq_true (isCode c) with hi | hi
  · exact h2 c (List.mem_filter.mpr ⟨hc, hi⟩)
  · simpa [hi] using h
set_option maxRecDepth 65536 in
theorem w_c0 : (Jvm.Cond.code x code maxLocals ret).before args0 about1 = true := code_word (m := ⟨1, 5⟩) (meth := k1m5) (c := k1c5) (by decide +kernel) rfl rfl rfl (by decide +kernel)
set_option maxRecDepth 65536 in
theorem w_c1 : (Jvm.Cond.code ({ cls := "com/example/guarded_once/guardedonce/guard/MessageKeyOfPinLaw", name := "draw", desc := "(I)C" } : Jvm.MethodName) method_2_code (3 : Nat) (Option.some Jvm.ClassFile.FieldType.char)).before args0 about1 = true := code_word (m := ⟨1, 1⟩) (meth := k1m1) (c := k1c1) (by decide +kernel) rfl rfl rfl (by decide +kernel)
set_option maxRecDepth 65536 in
theorem w_c2 : (Jvm.Cond.code ({ cls := "com/example/guarded_once/guardedonce/guard/MessageKeyOfPinLaw", name := "okAt", desc := "([CII)Z" } : Jvm.MethodName) method_5_code (4 : Nat) (Option.some Jvm.ClassFile.FieldType.boolean)).before args0 about1 = true := code_word (m := ⟨1, 4⟩) (meth := k1m4) (c := k1c4) (by decide +kernel) rfl rfl rfl (by decide +kernel)
set_option maxRecDepth 65536 in
theorem w_c3 : (Jvm.Cond.code ({ cls := "com/example/guarded_once/guardedonce/guard/MessageKeyOfPinLaw", name := "isHigh", desc := "(C)Z" } : Jvm.MethodName) method_3_code (1 : Nat) (Option.some Jvm.ClassFile.FieldType.boolean)).before args0 about1 = true := code_word (m := ⟨1, 2⟩) (meth := k1m2) (c := k1c2) (by decide +kernel) rfl rfl rfl (by decide +kernel)
set_option maxRecDepth 65536 in
theorem w_c4 : (Jvm.Cond.code ({ cls := "com/example/guarded_once/guardedonce/guard/MessageKeyOfPinLaw", name := "isLow", desc := "(C)Z" } : Jvm.MethodName) method_4_code (1 : Nat) (Option.some Jvm.ClassFile.FieldType.boolean)).before args0 about1 = true := code_word (m := ⟨1, 3⟩) (meth := k1m3) (c := k1c3) (by decide +kernel) rfl rfl rfl (by decide +kernel)
set_option maxRecDepth 65536 in
theorem w_c5 : (Jvm.Cond.code ({ cls := "java/lang/String", name := "<init>", desc := "([C)V" } : Jvm.MethodName) jdk_42_method_3_code (2 : Nat) (Option.none : Option Jvm.ClassFile.FieldType)).before args0 about1 = true := code_word (m := ⟨7, 1⟩) (meth := k7m1) (c := k7c1) (by decide +kernel) rfl rfl rfl (by decide +kernel)
set_option maxRecDepth 65536 in
theorem w_c6 : (Jvm.Cond.code ({ cls := "java/lang/String", name := "<init>", desc := "([CIILjava/lang/Void;)V" } : Jvm.MethodName) jdk_42_method_149_code (6 : Nat) (Option.none : Option Jvm.ClassFile.FieldType)).before args0 about1 = true := code_word (m := ⟨7, 6⟩) (meth := k7m6) (c := k7c6) (by decide +kernel) rfl rfl rfl (by decide +kernel)
set_option maxRecDepth 65536 in
theorem w_c7 : (Jvm.Cond.code ({ cls := "java/lang/Object", name := "<init>", desc := "()V" } : Jvm.MethodName) object_method_1_code (1 : Nat) (Option.none : Option Jvm.ClassFile.FieldType)).before args0 about1 = true := code_word (m := ⟨0, 0⟩) (meth := k0m0) (c := k0c0) (by decide +kernel) rfl rfl rfl (by decide +kernel)
set_option maxRecDepth 65536 in
theorem w_c8 : (Jvm.Cond.code ({ cls := "java/lang/StringUTF16", name := "compress", desc := "([CII)[B" } : Jvm.MethodName) jdk_52_method_16_code (6 : Nat) (Option.some (Jvm.ClassFile.FieldType.array Jvm.ClassFile.FieldType.byte))).before args0 about1 = true := code_word (m := ⟨8, 11⟩) (meth := k8m11) (c := k8c11) (by decide +kernel) rfl rfl rfl (by decide +kernel)
set_option maxRecDepth 65536 in
theorem w_c9 : (Jvm.Cond.code ({ cls := "java/lang/StringUTF16", name := "compress", desc := "([CI[BII)I" } : Jvm.MethodName) jdk_52_method_21_code (7 : Nat) (Option.some Jvm.ClassFile.FieldType.int)).before args0 about1 = true := code_word (m := ⟨8, 12⟩) (meth := k8m12) (c := k8c12) (by decide +kernel) rfl rfl rfl (by decide +kernel)
set_option maxRecDepth 65536 in
theorem w_c10 : (Jvm.Cond.code ({ cls := "java/lang/StringUTF16", name := "toBytes", desc := "([CII)[B" } : Jvm.MethodName) jdk_52_method_14_code (5 : Nat) (Option.some (Jvm.ClassFile.FieldType.array Jvm.ClassFile.FieldType.byte))).before args0 about1 = true := code_word (m := ⟨8, 9⟩) (meth := k8m9) (c := k8c9) (by decide +kernel) rfl rfl rfl (by decide +kernel)
set_option maxRecDepth 65536 in
theorem w_c11 : (Jvm.Cond.code ({ cls := "java/lang/StringUTF16", name := "newBytesFor", desc := "(I)[B" } : Jvm.MethodName) jdk_52_method_2_code (1 : Nat) (Option.some (Jvm.ClassFile.FieldType.array Jvm.ClassFile.FieldType.byte))).before args0 about1 = true := code_word (m := ⟨8, 1⟩) (meth := k8m1) (c := k8c1) (by decide +kernel) rfl rfl rfl (by decide +kernel)
set_option maxRecDepth 65536 in
theorem w_c12 : (Jvm.Cond.code ({ cls := "java/lang/StringUTF16", name := "newBytesLength", desc := "(I)I" } : Jvm.MethodName) jdk_52_method_3_code (1 : Nat) (Option.some Jvm.ClassFile.FieldType.int)).before args0 about1 = true := code_word (m := ⟨8, 2⟩) (meth := k8m2) (c := k8c2) (by decide +kernel) rfl rfl rfl (by decide +kernel)
set_option maxRecDepth 65536 in
theorem w_c13 : (Jvm.Cond.code ({ cls := "java/lang/StringUTF16", name := "putChar", desc := "([BII)V" } : Jvm.MethodName) jdk_52_method_4_code (3 : Nat) (Option.none : Option Jvm.ClassFile.FieldType)).before args0 about1 = true := code_word (m := ⟨8, 3⟩) (meth := k8m3) (c := k8c3) (by decide +kernel) rfl rfl rfl (by decide +kernel)
set_option maxRecDepth 65536 in
theorem w_c14 : (Jvm.Cond.code ({ cls := "java/lang/StringUTF16", name := "getChar", desc := "([BI)C" } : Jvm.MethodName) jdk_52_method_5_code (2 : Nat) (Option.some Jvm.ClassFile.FieldType.char)).before args0 about1 = true := code_word (m := ⟨8, 4⟩) (meth := k8m4) (c := k8c4) (by decide +kernel) rfl rfl rfl (by decide +kernel)
set_option maxRecDepth 65536 in
theorem w_c15 : (Jvm.Cond.code ({ cls := "java/lang/StringUTF16", name := "coderFromArrayLen", desc := "([BI)B" } : Jvm.MethodName) jdk_52_method_15_code (2 : Nat) (Option.some Jvm.ClassFile.FieldType.byte)).before args0 about1 = true := code_word (m := ⟨8, 10⟩) (meth := k8m10) (c := k8c10) (by decide +kernel) rfl rfl rfl (by decide +kernel)
set_option maxRecDepth 65536 in
theorem w_c16 : (Jvm.Cond.code ({ cls := "com/example/guarded_once/guardedonce/guard/MessageKey", name := "of", desc := "(Ljava/lang/String;)Lcom/example/guarded_once/guardedonce/guard/MessageKey;" } : Jvm.MethodName) prog_9_method_2_code (4 : Nat) (Option.some (Jvm.ClassFile.FieldType.object "com/example/guarded_once/guardedonce/guard/MessageKey"))).before args0 about1 = true := code_word (m := ⟨9, 1⟩) (meth := k9m1) (c := k9c1) (by decide +kernel) rfl rfl rfl (by decide +kernel)
set_option maxRecDepth 65536 in
theorem w_c17 : (Jvm.Cond.code ({ cls := "java/util/Objects", name := "requireNonNull", desc := "(Ljava/lang/Object;Ljava/lang/String;)Ljava/lang/Object;" } : Jvm.MethodName) jdk_31_method_11_code (2 : Nat) (Option.some (Jvm.ClassFile.FieldType.object "java/lang/Object"))).before args0 about1 = true := code_word (m := ⟨10, 1⟩) (meth := k10m1) (c := k10c1) (by decide +kernel) rfl rfl rfl (by decide +kernel)
set_option maxRecDepth 65536 in
theorem w_c18 : (Jvm.Cond.code ({ cls := "java/lang/String", name := "length", desc := "()I" } : Jvm.MethodName) jdk_42_method_54_code (1 : Nat) (Option.some Jvm.ClassFile.FieldType.int)).before args0 about1 = true := code_word (m := ⟨7, 2⟩) (meth := k7m2) (c := k7c2) (by decide +kernel) rfl rfl rfl (by decide +kernel)
set_option maxRecDepth 65536 in
theorem w_c19 : (Jvm.Cond.code ({ cls := "java/lang/String", name := "coder", desc := "()B" } : Jvm.MethodName) jdk_42_method_152_code (1 : Nat) (Option.some Jvm.ClassFile.FieldType.byte)).before args0 about1 = true := code_word (m := ⟨7, 7⟩) (meth := k7m7) (c := k7c7) (by decide +kernel) rfl rfl rfl (by decide +kernel)
set_option maxRecDepth 65536 in
theorem w_c20 : (Jvm.Cond.code ({ cls := "java/lang/String", name := "codePointCount", desc := "(II)I" } : Jvm.MethodName) jdk_42_method_59_code (3 : Nat) (Option.some Jvm.ClassFile.FieldType.int)).before args0 about1 = true := code_word (m := ⟨7, 4⟩) (meth := k7m4) (c := k7c4) (by decide +kernel) rfl rfl rfl (by decide +kernel)
set_option maxRecDepth 65536 in
theorem w_c21 : (Jvm.Cond.code ({ cls := "java/util/Objects", name := "checkFromToIndex", desc := "(III)I" } : Jvm.MethodName) jdk_31_method_18_code (3 : Nat) (Option.some Jvm.ClassFile.FieldType.int)).before args0 about1 = true := code_word (m := ⟨10, 2⟩) (meth := k10m2) (c := k10c2) (by decide +kernel) rfl rfl rfl (by decide +kernel)
set_option maxRecDepth 65536 in
theorem w_c22 : (Jvm.Cond.code ({ cls := "jdk/internal/util/Preconditions", name := "checkFromToIndex", desc := "(IIILjava/util/function/BiFunction;)I" } : Jvm.MethodName) jdk_41_method_12_code (4 : Nat) (Option.some Jvm.ClassFile.FieldType.int)).before args0 about1 = true := code_word (m := ⟨11, 2⟩) (meth := k11m2) (c := k11c2) (by decide +kernel) rfl rfl rfl (by decide +kernel)
set_option maxRecDepth 65536 in
theorem w_c23 : (Jvm.Cond.code ({ cls := "java/lang/String", name := "isLatin1", desc := "()Z" } : Jvm.MethodName) jdk_42_method_154_code (1 : Nat) (Option.some Jvm.ClassFile.FieldType.boolean)).before args0 about1 = true := code_word (m := ⟨7, 8⟩) (meth := k7m8) (c := k7c8) (by decide +kernel) rfl rfl rfl (by decide +kernel)
set_option maxRecDepth 65536 in
theorem w_c24 : (Jvm.Cond.code ({ cls := "java/lang/StringUTF16", name := "codePointCount", desc := "([BII)I" } : Jvm.MethodName) jdk_52_method_12_code (3 : Nat) (Option.some Jvm.ClassFile.FieldType.int)).before args0 about1 = true := code_word (m := ⟨8, 8⟩) (meth := k8m8) (c := k8c8) (by decide +kernel) rfl rfl rfl (by decide +kernel)
set_option maxRecDepth 65536 in
theorem w_c25 : (Jvm.Cond.code ({ cls := "java/lang/StringUTF16", name := "codePointCount", desc := "([BIIZ)I" } : Jvm.MethodName) jdk_52_method_11_code (6 : Nat) (Option.some Jvm.ClassFile.FieldType.int)).before args0 about1 = true := code_word (m := ⟨8, 7⟩) (meth := k8m7) (c := k8c7) (by decide +kernel) rfl rfl rfl (by decide +kernel)
set_option maxRecDepth 65536 in
theorem w_c26 : (Jvm.Cond.code ({ cls := "java/lang/String", name := "codePointAt", desc := "(I)I" } : Jvm.MethodName) jdk_42_method_57_code (3 : Nat) (Option.some Jvm.ClassFile.FieldType.int)).before args0 about1 = true := code_word (m := ⟨7, 3⟩) (meth := k7m3) (c := k7c3) (by decide +kernel) rfl rfl rfl (by decide +kernel)
set_option maxRecDepth 65536 in
theorem w_c27 : (Jvm.Cond.code ({ cls := "java/lang/String", name := "checkIndex", desc := "(II)V" } : Jvm.MethodName) jdk_42_method_155_code (2 : Nat) (Option.none : Option Jvm.ClassFile.FieldType)).before args0 about1 = true := code_word (m := ⟨7, 9⟩) (meth := k7m9) (c := k7c9) (by decide +kernel) rfl rfl rfl (by decide +kernel)
set_option maxRecDepth 65536 in
theorem w_c28 : (Jvm.Cond.code ({ cls := "jdk/internal/util/Preconditions", name := "checkIndex", desc := "(IILjava/util/function/BiFunction;)I" } : Jvm.MethodName) jdk_41_method_11_code (3 : Nat) (Option.some Jvm.ClassFile.FieldType.int)).before args0 about1 = true := code_word (m := ⟨11, 1⟩) (meth := k11m1) (c := k11c1) (by decide +kernel) rfl rfl rfl (by decide +kernel)
set_option maxRecDepth 65536 in
theorem w_c29 : (Jvm.Cond.code ({ cls := "java/lang/StringUTF16", name := "codePointAt", desc := "([BII)I" } : Jvm.MethodName) jdk_52_method_8_code (3 : Nat) (Option.some Jvm.ClassFile.FieldType.int)).before args0 about1 = true := code_word (m := ⟨8, 6⟩) (meth := k8m6) (c := k8c6) (by decide +kernel) rfl rfl rfl (by decide +kernel)
set_option maxRecDepth 65536 in
theorem w_c30 : (Jvm.Cond.code ({ cls := "java/lang/StringUTF16", name := "codePointAt", desc := "([BIIZ)I" } : Jvm.MethodName) jdk_52_method_7_code (6 : Nat) (Option.some Jvm.ClassFile.FieldType.int)).before args0 about1 = true := code_word (m := ⟨8, 5⟩) (meth := k8m5) (c := k8c5) (by decide +kernel) rfl rfl rfl (by decide +kernel)
set_option maxRecDepth 65536 in
theorem w_c31 : (Jvm.Cond.code ({ cls := "java/lang/Character", name := "isHighSurrogate", desc := "(C)Z" } : Jvm.MethodName) jdk_89_method_14_code (1 : Nat) (Option.some Jvm.ClassFile.FieldType.boolean)).before args0 about1 = true := code_word (m := ⟨12, 0⟩) (meth := k12m0) (c := k12c0) (by decide +kernel) rfl rfl rfl (by decide +kernel)
set_option maxRecDepth 65536 in
theorem w_c32 : (Jvm.Cond.code ({ cls := "java/lang/Character", name := "charCount", desc := "(I)I" } : Jvm.MethodName) jdk_89_method_18_code (1 : Nat) (Option.some Jvm.ClassFile.FieldType.int)).before args0 about1 = true := code_word (m := ⟨12, 2⟩) (meth := k12m2) (c := k12c2) (by decide +kernel) rfl rfl rfl (by decide +kernel)
set_option maxRecDepth 65536 in
theorem w_c33 : (Jvm.Cond.code ({ cls := "com/example/guarded_once/guardedonce/guard/MessageKey", name := "<init>", desc := "(Ljava/lang/String;)V" } : Jvm.MethodName) prog_9_method_1_code (2 : Nat) (Option.none : Option Jvm.ClassFile.FieldType)).before args0 about1 = true := code_word (m := ⟨9, 0⟩) (meth := k9m0) (c := k9c0) (by decide +kernel) rfl rfl rfl (by decide +kernel)
set_option maxRecDepth 65536 in
theorem w_c34 : (Jvm.Cond.code ({ cls := "com/example/guarded_once/guardedonce/guard/MessageKey", name := "value", desc := "()Ljava/lang/String;" } : Jvm.MethodName) prog_9_method_3_code (1 : Nat) (Option.some (Jvm.ClassFile.FieldType.object "java/lang/String"))).before args0 about1 = true := code_word (m := ⟨9, 2⟩) (meth := k9m2) (c := k9c2) (by decide +kernel) rfl rfl rfl (by decide +kernel)
set_option maxRecDepth 65536 in
theorem w_c35 : (Jvm.Cond.code ({ cls := "java/lang/String", name := "equals", desc := "(Ljava/lang/Object;)Z" } : Jvm.MethodName) jdk_42_method_66_code (3 : Nat) (Option.some Jvm.ClassFile.FieldType.boolean)).before args0 about1 = true := code_word (m := ⟨7, 5⟩) (meth := k7m5) (c := k7c5) (by decide +kernel) rfl rfl rfl (by decide +kernel)
set_option maxRecDepth 65536 in
theorem w_c36 : (Jvm.Cond.code ({ cls := "java/lang/Character", name := "isLowSurrogate", desc := "(C)Z" } : Jvm.MethodName) jdk_89_method_15_code (1 : Nat) (Option.some Jvm.ClassFile.FieldType.boolean)).before args0 about1 = true := code_word (m := ⟨12, 1⟩) (meth := k12m1) (c := k12c1) (by decide +kernel) rfl rfl rfl (by decide +kernel)
set_option maxRecDepth 65536 in
theorem w_c37 : (Jvm.Cond.code ({ cls := "java/lang/Character", name := "toCodePoint", desc := "(CC)I" } : Jvm.MethodName) jdk_89_method_19_code (2 : Nat) (Option.some Jvm.ClassFile.FieldType.int)).before args0 about1 = true := code_word (m := ⟨12, 3⟩) (meth := k12m3) (c := k12c3) (by decide +kernel) rfl rfl rfl (by decide +kernel)
def codes1 : List Jvm.Cond := [Jvm.Cond.code x code maxLocals ret, Jvm.Cond.code ({ cls := "com/example/guarded_once/guardedonce/guard/MessageKeyOfPinLaw", name := "draw", desc := "(I)C" } : Jvm.MethodName) method_2_code (3 : Nat) (Option.some Jvm.ClassFile.FieldType.char), Jvm.Cond.code ({ cls := "com/example/guarded_once/guardedonce/guard/MessageKeyOfPinLaw", name := "okAt", desc := "([CII)Z" } : Jvm.MethodName) method_5_code (4 : Nat) (Option.some Jvm.ClassFile.FieldType.boolean), Jvm.Cond.code ({ cls := "com/example/guarded_once/guardedonce/guard/MessageKeyOfPinLaw", name := "isHigh", desc := "(C)Z" } : Jvm.MethodName) method_3_code (1 : Nat) (Option.some Jvm.ClassFile.FieldType.boolean), Jvm.Cond.code ({ cls := "com/example/guarded_once/guardedonce/guard/MessageKeyOfPinLaw", name := "isLow", desc := "(C)Z" } : Jvm.MethodName) method_4_code (1 : Nat) (Option.some Jvm.ClassFile.FieldType.boolean), Jvm.Cond.code ({ cls := "java/lang/String", name := "<init>", desc := "([C)V" } : Jvm.MethodName) jdk_42_method_3_code (2 : Nat) (Option.none : Option Jvm.ClassFile.FieldType), Jvm.Cond.code ({ cls := "java/lang/String", name := "<init>", desc := "([CIILjava/lang/Void;)V" } : Jvm.MethodName) jdk_42_method_149_code (6 : Nat) (Option.none : Option Jvm.ClassFile.FieldType), Jvm.Cond.code ({ cls := "java/lang/Object", name := "<init>", desc := "()V" } : Jvm.MethodName) object_method_1_code (1 : Nat) (Option.none : Option Jvm.ClassFile.FieldType), Jvm.Cond.code ({ cls := "java/lang/StringUTF16", name := "compress", desc := "([CII)[B" } : Jvm.MethodName) jdk_52_method_16_code (6 : Nat) (Option.some (Jvm.ClassFile.FieldType.array Jvm.ClassFile.FieldType.byte)), Jvm.Cond.code ({ cls := "java/lang/StringUTF16", name := "compress", desc := "([CI[BII)I" } : Jvm.MethodName) jdk_52_method_21_code (7 : Nat) (Option.some Jvm.ClassFile.FieldType.int), Jvm.Cond.code ({ cls := "java/lang/StringUTF16", name := "toBytes", desc := "([CII)[B" } : Jvm.MethodName) jdk_52_method_14_code (5 : Nat) (Option.some (Jvm.ClassFile.FieldType.array Jvm.ClassFile.FieldType.byte)), Jvm.Cond.code ({ cls := "java/lang/StringUTF16", name := "newBytesFor", desc := "(I)[B" } : Jvm.MethodName) jdk_52_method_2_code (1 : Nat) (Option.some (Jvm.ClassFile.FieldType.array Jvm.ClassFile.FieldType.byte)), Jvm.Cond.code ({ cls := "java/lang/StringUTF16", name := "newBytesLength", desc := "(I)I" } : Jvm.MethodName) jdk_52_method_3_code (1 : Nat) (Option.some Jvm.ClassFile.FieldType.int), Jvm.Cond.code ({ cls := "java/lang/StringUTF16", name := "putChar", desc := "([BII)V" } : Jvm.MethodName) jdk_52_method_4_code (3 : Nat) (Option.none : Option Jvm.ClassFile.FieldType), Jvm.Cond.code ({ cls := "java/lang/StringUTF16", name := "getChar", desc := "([BI)C" } : Jvm.MethodName) jdk_52_method_5_code (2 : Nat) (Option.some Jvm.ClassFile.FieldType.char), Jvm.Cond.code ({ cls := "java/lang/StringUTF16", name := "coderFromArrayLen", desc := "([BI)B" } : Jvm.MethodName) jdk_52_method_15_code (2 : Nat) (Option.some Jvm.ClassFile.FieldType.byte), Jvm.Cond.code ({ cls := "com/example/guarded_once/guardedonce/guard/MessageKey", name := "of", desc := "(Ljava/lang/String;)Lcom/example/guarded_once/guardedonce/guard/MessageKey;" } : Jvm.MethodName) prog_9_method_2_code (4 : Nat) (Option.some (Jvm.ClassFile.FieldType.object "com/example/guarded_once/guardedonce/guard/MessageKey")), Jvm.Cond.code ({ cls := "java/util/Objects", name := "requireNonNull", desc := "(Ljava/lang/Object;Ljava/lang/String;)Ljava/lang/Object;" } : Jvm.MethodName) jdk_31_method_11_code (2 : Nat) (Option.some (Jvm.ClassFile.FieldType.object "java/lang/Object")), Jvm.Cond.code ({ cls := "java/lang/String", name := "length", desc := "()I" } : Jvm.MethodName) jdk_42_method_54_code (1 : Nat) (Option.some Jvm.ClassFile.FieldType.int), Jvm.Cond.code ({ cls := "java/lang/String", name := "coder", desc := "()B" } : Jvm.MethodName) jdk_42_method_152_code (1 : Nat) (Option.some Jvm.ClassFile.FieldType.byte), Jvm.Cond.code ({ cls := "java/lang/String", name := "codePointCount", desc := "(II)I" } : Jvm.MethodName) jdk_42_method_59_code (3 : Nat) (Option.some Jvm.ClassFile.FieldType.int), Jvm.Cond.code ({ cls := "java/util/Objects", name := "checkFromToIndex", desc := "(III)I" } : Jvm.MethodName) jdk_31_method_18_code (3 : Nat) (Option.some Jvm.ClassFile.FieldType.int), Jvm.Cond.code ({ cls := "jdk/internal/util/Preconditions", name := "checkFromToIndex", desc := "(IIILjava/util/function/BiFunction;)I" } : Jvm.MethodName) jdk_41_method_12_code (4 : Nat) (Option.some Jvm.ClassFile.FieldType.int), Jvm.Cond.code ({ cls := "java/lang/String", name := "isLatin1", desc := "()Z" } : Jvm.MethodName) jdk_42_method_154_code (1 : Nat) (Option.some Jvm.ClassFile.FieldType.boolean), Jvm.Cond.code ({ cls := "java/lang/StringUTF16", name := "codePointCount", desc := "([BII)I" } : Jvm.MethodName) jdk_52_method_12_code (3 : Nat) (Option.some Jvm.ClassFile.FieldType.int), Jvm.Cond.code ({ cls := "java/lang/StringUTF16", name := "codePointCount", desc := "([BIIZ)I" } : Jvm.MethodName) jdk_52_method_11_code (6 : Nat) (Option.some Jvm.ClassFile.FieldType.int), Jvm.Cond.code ({ cls := "java/lang/String", name := "codePointAt", desc := "(I)I" } : Jvm.MethodName) jdk_42_method_57_code (3 : Nat) (Option.some Jvm.ClassFile.FieldType.int), Jvm.Cond.code ({ cls := "java/lang/String", name := "checkIndex", desc := "(II)V" } : Jvm.MethodName) jdk_42_method_155_code (2 : Nat) (Option.none : Option Jvm.ClassFile.FieldType), Jvm.Cond.code ({ cls := "jdk/internal/util/Preconditions", name := "checkIndex", desc := "(IILjava/util/function/BiFunction;)I" } : Jvm.MethodName) jdk_41_method_11_code (3 : Nat) (Option.some Jvm.ClassFile.FieldType.int), Jvm.Cond.code ({ cls := "java/lang/StringUTF16", name := "codePointAt", desc := "([BII)I" } : Jvm.MethodName) jdk_52_method_8_code (3 : Nat) (Option.some Jvm.ClassFile.FieldType.int), Jvm.Cond.code ({ cls := "java/lang/StringUTF16", name := "codePointAt", desc := "([BIIZ)I" } : Jvm.MethodName) jdk_52_method_7_code (6 : Nat) (Option.some Jvm.ClassFile.FieldType.int), Jvm.Cond.code ({ cls := "java/lang/Character", name := "isHighSurrogate", desc := "(C)Z" } : Jvm.MethodName) jdk_89_method_14_code (1 : Nat) (Option.some Jvm.ClassFile.FieldType.boolean), Jvm.Cond.code ({ cls := "java/lang/Character", name := "charCount", desc := "(I)I" } : Jvm.MethodName) jdk_89_method_18_code (1 : Nat) (Option.some Jvm.ClassFile.FieldType.int), Jvm.Cond.code ({ cls := "com/example/guarded_once/guardedonce/guard/MessageKey", name := "<init>", desc := "(Ljava/lang/String;)V" } : Jvm.MethodName) prog_9_method_1_code (2 : Nat) (Option.none : Option Jvm.ClassFile.FieldType), Jvm.Cond.code ({ cls := "com/example/guarded_once/guardedonce/guard/MessageKey", name := "value", desc := "()Ljava/lang/String;" } : Jvm.MethodName) prog_9_method_3_code (1 : Nat) (Option.some (Jvm.ClassFile.FieldType.object "java/lang/String")), Jvm.Cond.code ({ cls := "java/lang/String", name := "equals", desc := "(Ljava/lang/Object;)Z" } : Jvm.MethodName) jdk_42_method_66_code (3 : Nat) (Option.some Jvm.ClassFile.FieldType.boolean), Jvm.Cond.code ({ cls := "java/lang/Character", name := "isLowSurrogate", desc := "(C)Z" } : Jvm.MethodName) jdk_89_method_15_code (1 : Nat) (Option.some Jvm.ClassFile.FieldType.boolean), Jvm.Cond.code ({ cls := "java/lang/Character", name := "toCodePoint", desc := "(CC)I" } : Jvm.MethodName) jdk_89_method_19_code (2 : Nat) (Option.some Jvm.ClassFile.FieldType.int)]
set_option maxRecDepth 65536 in
theorem codes_eq : words1.filter isCode = codes1 := rfl
theorem w_codes : ∀ c ∈ words1.filter isCode, c.before args0 about1 = true := by
  rw [codes_eq]
  intro c hc
  simp only [codes1, List.mem_cons, List.not_mem_nil, or_false] at hc
  rcases hc with rfl | rfl | rfl | rfl | rfl | rfl | rfl | rfl | rfl | rfl | rfl | rfl | rfl | rfl | rfl | rfl | rfl | rfl | rfl | rfl | rfl | rfl | rfl | rfl | rfl | rfl | rfl | rfl | rfl | rfl | rfl | rfl | rfl | rfl | rfl | rfl | rfl | rfl
  · exact w_c0
  · exact w_c1
  · exact w_c2
  · exact w_c3
  · exact w_c4
  · exact w_c5
  · exact w_c6
  · exact w_c7
  · exact w_c8
  · exact w_c9
  · exact w_c10
  · exact w_c11
  · exact w_c12
  · exact w_c13
  · exact w_c14
  · exact w_c15
  · exact w_c16
  · exact w_c17
  · exact w_c18
  · exact w_c19
  · exact w_c20
  · exact w_c21
  · exact w_c22
  · exact w_c23
  · exact w_c24
  · exact w_c25
  · exact w_c26
  · exact w_c27
  · exact w_c28
  · exact w_c29
  · exact w_c30
  · exact w_c31
  · exact w_c32
  · exact w_c33
  · exact w_c34
  · exact w_c35
  · exact w_c36
  · exact w_c37
set_option maxRecDepth 65536 in
theorem w_t1 : (words1.take 24).all (fun c => isCode c || c.before args0 about1) = true := by decide +kernel
set_option maxRecDepth 65536 in
theorem w_t2 : ((words1.drop 24).take 24).all (fun c => isCode c || c.before args0 about1) = true := by decide +kernel
set_option maxRecDepth 65536 in
theorem w_t3 : (((words1.drop 24).drop 24).take 24).all (fun c => isCode c || c.before args0 about1) = true := by decide +kernel
set_option maxRecDepth 65536 in
theorem w_t4 : ((((words1.drop 24).drop 24).drop 24).take 24).all (fun c => isCode c || c.before args0 about1) = true := by decide +kernel
set_option maxRecDepth 65536 in
theorem w_t5 : (((((words1.drop 24).drop 24).drop 24).drop 24).take 24).all (fun c => isCode c || c.before args0 about1) = true := by decide +kernel
set_option maxRecDepth 65536 in
theorem w_t6 : ((((((words1.drop 24).drop 24).drop 24).drop 24).drop 24).take 24).all (fun c => isCode c || c.before args0 about1) = true := by decide +kernel
set_option maxRecDepth 65536 in
theorem w_t7 : (((((((words1.drop 24).drop 24).drop 24).drop 24).drop 24).drop 24).take 24).all (fun c => isCode c || c.before args0 about1) = true := by decide +kernel
set_option maxRecDepth 65536 in
theorem w_t8 : (((((((words1.drop 24).drop 24).drop 24).drop 24).drop 24).drop 24).drop 24).all (fun c => isCode c || c.before args0 about1) = true := by decide +kernel
theorem w_tables : (allAtoms (Jvm.Cond.code x code maxLocals ret :: tables_1)).before args0 about1 = true := by
  rw [allAtoms_all]
  show words1.all (fun c => c.before args0 about1) = true
  refine all_split ?_ w_codes
  rw [← List.take_append_drop 24 words1, List.all_append, w_t1, ← List.take_append_drop 24 (words1.drop 24), List.all_append, w_t2, ← List.take_append_drop 24 ((words1.drop 24).drop 24), List.all_append, w_t3, ← List.take_append_drop 24 (((words1.drop 24).drop 24).drop 24), List.all_append, w_t4, ← List.take_append_drop 24 ((((words1.drop 24).drop 24).drop 24).drop 24), List.all_append, w_t5, ← List.take_append_drop 24 (((((words1.drop 24).drop 24).drop 24).drop 24).drop 24), List.all_append, w_t6, ← List.take_append_drop 24 ((((((words1.drop 24).drop 24).drop 24).drop 24).drop 24).drop 24), List.all_append, w_t7, w_t8]
  rfl
set_option maxRecDepth 65536 in
theorem w_rest : rest_1_c.before args0 about1 = true := by decide +kernel
set_option maxRecDepth 65536 in
theorem w_case : (Jvm.Cond.and given_1 narrow_1).before args0 about1 = true := by decide +kernel
theorem w_applies : (headSpec (Jvm.Cond.code x code maxLocals ret :: tables_1) room_1).applies x e0.platform about1 = true :=
  (Spec.applies_iff w_frames).mpr ⟨w_running, w_runnable, w_alone, w_named, w_hears, w_ripe, w_room, w_tables⟩
theorem atStart : AtStart classFile x code maxLocals ret World_1 tables_1 room_1 Calls_1 rest_1 Pre_1 launch0 p0 e0 about1 theMethod args0 below0 :=
  ⟨lists_1, trivial, launch0.admits_env _ _ _, launch0.least_env, fairChoices_fair.cas, fairChoices_fair.clock, w_frames, w_args, w_heap, w_applies, trivial, w_rest, w_case⟩
end start1
theorem witness_1 : WitnessClaimed_1 := ⟨start1.p0, start1.e0, start1.about1, start1.theMethod, start1.args0, start1.below0, start1.atStart⟩
end Jvm.Pilot.@@N@@
