import JvmDerived
import JvmDerived.Pilot.@@N@@Statement
import JvmDerived.Pilot.@@N@@Code
set_option linter.unusedVariables false
set_option linter.unusedSimpArgs false
namespace Jvm.Pilot.@@N@@
open Jvm Jvm.ClassFile Sem Op Lib Jvm.Free Jvm.Stand Jvm.LawKit Jvm.RoadKit Bundle Jvm.Pilot.@@N@@.Jvm.D
/-! steps, taken forward -/
theorem own_fw {tb : Tables} {e : Env} {below : List Frame} {A A' : State} {P : State → Outcome → Prop} (h : ∀ t, Steps tb e below A' t → Steps tb e below A t) (g : ∃ U o, Steps tb e below A' U ∧ P U o) : ∃ U o, Steps tb e below A U ∧ P U o := by
  obtain ⟨U, o, s, r⟩ := g
  exact ⟨U, o, h U s, r⟩
theorem own_st {tb : Tables} {e : Env} {below : List Frame} {A A' t : State} (h : ∀ t, Steps tb e below A' t → Steps tb e below A t) (g : Steps tb e below A' t) : Steps tb e below A t := h t g
theorem own_plainE {Z : State} {h : Heap} {a : Addr} {C : String} (F : Exa Z h a C) : ∀ cell : Cell, h[a]? = some cell → cell.vm.isStatics = false := fun cell hc => by
  obtain ⟨c1, k1, h1, -, -, h4, -⟩ := F
  cases h1.symm.trans hc
  exact h4
theorem own_plainV {Z : State} {h : Heap} {a : Addr} {k : ClassId} {ty : FieldType} {z : Int32} {vs : List Value} {dv : Value} (F : Arv Z h a k ty z vs dv) : ∀ cell : Cell, h[a]? = some cell → cell.vm.isStatics = false := fun cell hc => by
  obtain ⟨c1, A, -⟩ := F
  cases A.1.symm.trans hc
  exact A.plain
theorem own_staKeep {Z : State} {h h' : Heap} {C n d : String} {v : Value} {ws : List Addr} (F : Sta Z h C n d v) (K : Keep h h' ws) (q : ∀ x ∈ ws, ∀ cell : Cell, h[x]? = some cell → cell.vm.isStatics = false) : Sta Z h' C n d v := by
  obtain ⟨cf, i, k, f, st, cell, h1, h2, h3, h4, h5, h6, h7⟩ := F
  exact ⟨cf, i, k, f, st, cell, h1, h2, h3, h4, K.2.1 st cell h5 (fun m => by rw [q st m cell h5] at h6; cases h6), h6, h7⟩
theorem own_insLt {Z : State} {h : Heap} {a : Addr} {C : String} {bo : Bool} (F : Ins Z h a C bo) : a < h.size := by
  obtain ⟨cell, cT, h1, -⟩ := F
  exact (Array.getElem?_eq_some_iff.mp h1).1
theorem own_insKeep {Z : State} {h h' : Heap} {a : Addr} {C : String} {bo : Bool} {ws : List Addr} (F : Ins Z h a C bo) (K : Keep h h' ws) : Ins Z h' a C bo := by
  obtain ⟨cell, cT, h1, h2, h3⟩ := F
  obtain ⟨c', e1, e2, e3, -⟩ := K.2.2 a cell h1
  exact ⟨c', cT, e1, h2, by rw [e2, e3]; exact h3⟩


theorem own_w {a0 : Array Value} {Z : State} (hw : ∀ d ∈ tables_1, d.before a0 Z = true) (i : Nat) {d : Jvm.Cond} (h : tables_1[i]? = some d) : d.before a0 Z = true := hw d (List.mem_of_getElem? h)


theorem own_widen {s t : State} {o : Outcome} {L : List Loc} {k n k' n' : Nat} (h : ReturnedEndW s o t L k n) (hk : k ≤ k') (hn : n ≤ n') : ReturnedEndW s o t L k' n' := ⟨h.1, h.2.1, h.2.2.1, h.2.2.2.mono hk hn⟩
theorem own_wS {a0 : Array Value} {Z : State} (hw : ∀ d ∈ tables_1, d.before a0 Z = true) : ∀ a ∈ Bundle.stringAtoms, a.before a0 Z = true := by
  intro a ha
  simp only [Bundle.stringAtoms, List.mem_cons, List.not_mem_nil, or_false] at ha
  rcases ha with rfl | rfl | rfl | rfl | rfl | rfl | rfl
  · exact (hw _ (List.mem_of_getElem? (i := 5) rfl))
  · exact (hw _ (List.mem_of_getElem? (i := 6) rfl))
  · exact (hw _ (List.mem_of_getElem? (i := 7) rfl))
  · exact (hw _ (List.mem_of_getElem? (i := 8) rfl))
  · exact (hw _ (List.mem_of_getElem? (i := 9) rfl))
  · exact (hw _ (List.mem_of_getElem? (i := 10) rfl))
  · exact (hw _ (List.mem_of_getElem? (i := 11) rfl))


def own_EL : List (String × Nat) := [("com/example/log_to_isles/logtoisles/model/NodeNameFollowsPinLaw", 7)]
theorem own_EW {a0 : Array Value} {Z : State} (hw : ∀ d ∈ tables_1, d.before a0 Z = true) : EW Z a0 own_EL := (EW.cons (hw _ (List.mem_of_getElem? (i := 4) rfl)) (by decide) EW.nil)


theorem own_nz {args : Array Value} {s : State} {t : Term} {x : Int32} (ev : t.eval args s none [] s = some (.int x)) (h : (Jvm.Cond.not (.eq t (.int 0))).value args s none s [] = some true) : ¬ (x = (0 : Int32)) := fun q => by
  subst q
  have e := eq_i ev (rfl : (Term.int 0).eval args s none [] s = some (.int 0)) rfl
  rw [not_v h] at e
  simp at e


theorem own_evI {args : Array Value} {s : State} {t : Term} {z : Int32} (h : (Jvm.Cond.eq t (.int z)).value args s none s [] = some true) : t.eval args s none [] s = some (.int z) := by
  obtain ⟨x, y, ex, ey, k1, k2⟩ := cmp_v (Or.inl h)
  have hy : y = .int z := by simpa [Term.eval] using ey.symm
  subst hy
  obtain ⟨w, rfl⟩ : ∃ w, x = .int w := k2
  have e : w = z := by simpa [Cond.value, ex, ey] using h
  subst e
  exact ex

def own_tx : List Int32 := [97, 98, 99, 100, 101, 102, 103, 104, 105, 106, 107, 108, 109, 110, 111, 112, 113, 114, 115, 116, 117, 118, 119, 120, 121, 122, 48, 49, 50, 51, 52, 53, 54, 55, 56, 57, 45]
def own_el (j : Int32) : Int32 := own_tx.getD j.toNatClampNeg 0
def own_cl (x : Int32) : Int32 := ((x &&& (255 : Int32)).toUInt32.toUInt16.toUInt32.toInt32)
theorem own_mapD (L : List Int32) (n : Nat) : (L.map Value.int).getD n (.int 0) = .int (L.getD n 0) := by
  induction L generalizing n with
  | nil => rfl
  | cons a L ih => cases n with
    | zero => rfl
    | succ n => exact ih n
def own_b8 (x : Int32) : Prop := -128 ≤ x.toInt ∧ x.toInt ≤ 127
theorem own_b8i (x : Int32) : own_b8 (x.toInt8.toInt32) := by
  have a := c_i2b x
  unfold own_b8
  omega
theorem own_nar8 {x : Int32} (h : own_b8 x) : nar .byte x = x := by
  have a := c_i2b x
  have b := h
  unfold own_b8 at b
  show x.toInt8.toInt32 = x
  apply Int32.toInt_inj.mp
  omega
theorem own_fit8 {x : Int32} (h : own_b8 x) : fits .byte (.int x) = true := by
  have q := fits_nar_byte x
  have e : x.toInt8.toInt32 = x := own_nar8 h
  rw [e] at q
  exact q
theorem own_narr8 {x : Int32} (h : own_b8 x) : narrow .byte (.int x) = .int x := by
  show Value.int (nar .byte x) = .int x
  rw [own_nar8 h]
theorem own_ix (x : Int32) : ¬ (((x &&& (255 : Int32)) % (37 : Int32)) < (0 : Int32)) ∧ ((x &&& (255 : Int32)) % (37 : Int32)) < (37 : Int32) := by
  have m := c_mask x 255 8 (by decide) (by decide)
  have r := (c_irem (x &&& (255 : Int32)) 37 37 (by decide)).1 (by omega)
  have e0 : (0 : Int32).toInt = 0 := by decide
  have e7 : (37 : Int32).toInt = 37 := by decide
  rw [Int32.lt_iff_toInt_lt, Int32.lt_iff_toInt_lt, e0, e7]
  omega
def own_dash (c : Int32) : Int32 := if c = 45 then 1 else 0
def own_dig (c : Int32) : Int32 := if c < 48 then own_dash c else if 57 < c then own_dash c else 1
def own_valid (c : Int32) : Int32 := if c < 97 then own_dig c else if 122 < c then own_dig c else 1
def own_ldig (c : Int32) : Int32 := if c < 48 then 0 else if 57 < c then 0 else 1
def own_low (c : Int32) : Int32 := if c < 97 then own_ldig c else if 122 < c then own_ldig c else 1
def own_ok (i off len x : Int32) : Int32 := if i < off then 1 else if i < off + len then (if own_valid x = 0 then 0 else 1) else 1
def own_loop (L : List Int32) : Nat → Nat → Int32
  | 0, _ => 1
  | n + 1, j => if own_valid (L.getD j 0) = 0 then 0 else own_loop L n (j + 1)
def own_fol (L : List Int32) (off len : Int32) : Int32 := if len < 1 then 0 else if 32 < len then 0 else if L.getD off.toNatClampNeg 0 = 45 then 0 else own_loop L len.toNatClampNeg off.toNatClampNeg
def own_buf (b0 b1 b2 b3 b4 b5 b6 b7 fb : Int32) : List Int32 := [b0, b1, b2, b3, b4, b5, b6, b7, fb, fb, fb, fb, fb, fb, fb, fb, fb, fb, fb, fb, fb, fb, fb, fb, fb, fb, fb, fb, fb, fb, fb, fb, fb, fb, fb, fb, fb, fb, fb, fb]
def own_o (x : Int32) : Prop := 0 ≤ x.toInt ∧ x.toInt ≤ 7
theorem own_oM (x : Int32) : own_o (x &&& (7 : Int32)) := by
  have m := c_mask x 7 3 (by decide) (by decide)
  unfold own_o
  omega
theorem own_vd {c : Int32} (h : own_valid c = 0) : own_low c = 0 ∧ ¬ c = 45 := by
  by_cases h1 : c < 97 <;> by_cases h2 : 122 < c <;> by_cases h3 : c < 48 <;> by_cases h4 : 57 < c <;> by_cases h5 : c = 45 <;> simp_all [own_valid, own_low, own_dig, own_ldig, own_dash]
theorem own_v1 {c : Int32} (h : ¬ own_low c = 0) : ¬ own_valid c = 0 := fun z => h (own_vd z).1
theorem own_v2 {c : Int32} (h : c = 45) : ¬ own_valid c = 0 := fun z => (own_vd z).2 h
theorem own_v3 {c : Int32} (h : own_low c = 0) (h2 : ¬ c = 45) : own_valid c = 0 := by
  by_cases h1 : c < 97 <;> by_cases h2 : 122 < c <;> by_cases h3 : c < 48 <;> by_cases h4 : 57 < c <;> simp_all [own_valid, own_low, own_dig, own_ldig, own_dash]
theorem own_nat (x : Int32) : x.toNatClampNeg = x.toInt.toNat := rfl
/-- a turn's invariant: n turns are left -/
def own_inv (L : List Int32) (off len : Int32) (n : Nat) (i : Int32) : Prop := own_o off ∧ 1 ≤ len.toInt ∧ len.toInt ≤ 32 ∧ off.toInt ≤ i.toInt ∧ i.toInt + n = off.toInt + len.toInt ∧ own_fol L off len = own_loop L n i.toNatClampNeg
theorem own_first {L : List Int32} {off len : Int32} (ho : own_o off) (h1 : ¬ (len < (1 : Int32))) (h2 : ¬ ((32 : Int32) < len)) (h3 : ¬ (L.getD off.toNatClampNeg 0 = 45)) : own_inv L off len len.toNatClampNeg off := by
  have e1 : (1 : Int32).toInt = 1 := by decide
  have e2 : (32 : Int32).toInt = 32 := by decide
  have g1 := h1
  have g2 := h2
  rw [Int32.lt_iff_toInt_lt, e1] at g1
  rw [Int32.lt_iff_toInt_lt, e2] at g2
  have q := own_nat len
  refine ⟨ho, by omega, by omega, by omega, by omega, ?_⟩
  unfold own_fol
  rw [if_neg h1, if_neg h2, if_neg h3]
theorem own_sum {L : List Int32} {off len i : Int32} {n : Nat} (h : own_inv L off len n i) : (off + len).toInt = off.toInt + len.toInt := by
  obtain ⟨⟨a, b⟩, c, d, -⟩ := h
  have s := c_iadd off len
  have r := rng32 (off + len)
  omega
theorem own_z {L : List Int32} {off len i : Int32} (h : own_inv L off len 0 i) : ¬ (i < off + len) := by
  have s := own_sum h
  obtain ⟨⟨a, b⟩, c, d, e, f, -⟩ := h
  rw [Int32.lt_iff_toInt_lt]
  omega
theorem own_zv {L : List Int32} {off len i : Int32} (h : own_inv L off len 0 i) : own_fol L off len = 1 := h.2.2.2.2.2
theorem own_s {L : List Int32} {off len i : Int32} {n : Nat} (h : own_inv L off len (n + 1) i) : i < off + len := by
  have s := own_sum h
  obtain ⟨⟨a, b⟩, c, d, e, f, -⟩ := h
  rw [Int32.lt_iff_toInt_lt]
  omega
theorem own_sb {L : List Int32} {off len i : Int32} {n : Nat} (h : own_inv L off len (n + 1) i) : ¬ (i < (0 : Int32)) ∧ i < (40 : Int32) := by
  obtain ⟨⟨a, b⟩, c, d, e, f, -⟩ := h
  have e0 : (0 : Int32).toInt = 0 := by decide
  have e7 : (40 : Int32).toInt = 40 := by decide
  rw [Int32.lt_iff_toInt_lt, Int32.lt_iff_toInt_lt, e0, e7]
  omega
theorem own_ob {off : Int32} (h : own_o off) : ¬ (off < (0 : Int32)) ∧ off < (40 : Int32) := by
  obtain ⟨a, b⟩ := h
  have e0 : (0 : Int32).toInt = 0 := by decide
  have e7 : (40 : Int32).toInt = 40 := by decide
  rw [Int32.lt_iff_toInt_lt, Int32.lt_iff_toInt_lt, e0, e7]
  omega
theorem own_sv {L : List Int32} {off len i : Int32} {n : Nat} (h : own_inv L off len (n + 1) i) (q : own_valid (L.getD i.toNatClampNeg 0) = 0) : own_fol L off len = 0 := by
  rw [h.2.2.2.2.2]
  show (if own_valid (L.getD i.toNatClampNeg 0) = 0 then (0 : Int32) else own_loop L n (i.toNatClampNeg + 1)) = 0
  rw [if_pos q]
theorem own_next {L : List Int32} {off len i : Int32} {n : Nat} (h : own_inv L off len (n + 1) i) (q : ¬ own_valid (L.getD i.toNatClampNeg 0) = 0) : own_inv L off len n (i + (1 : Int32)) := by
  obtain ⟨⟨a, b⟩, c, d, e, f, g⟩ := h
  have s := c_iadd i (1 : Int32)
  have e1 : (1 : Int32).toInt = 1 := by decide
  have r := rng32 (i + (1 : Int32))
  have r2 := rng32 i
  have q1 := own_nat i
  have q2 := own_nat (i + (1 : Int32))
  have q3 : (i + (1 : Int32)).toNatClampNeg = i.toNatClampNeg + 1 := by omega
  refine ⟨⟨a, b⟩, c, d, by omega, by omega, ?_⟩
  rw [g, q3]
  show (if own_valid (L.getD i.toNatClampNeg 0) = 0 then (0 : Int32) else own_loop L n (i.toNatClampNeg + 1)) = _
  rw [if_neg q]
theorem own_l0 (L : List Int32) (n : Nat) : ∀ (k j : Nat), k < n → own_valid (L.getD (j + k) 0) = 0 → own_loop L n j = 0 := by
  induction n with
  | zero => intro k j h; omega
  | succ n ih =>
    intro k j h q
    show (if own_valid (L.getD j 0) = 0 then (0 : Int32) else own_loop L n (j + 1)) = 0
    by_cases z : own_valid (L.getD j 0) = 0
    · rw [if_pos z]
    · rw [if_neg z]
      cases k with
      | zero => exact absurd q z
      | succ k => exact ih k (j + 1) (by omega) (by rw [show j + 1 + k = j + (k + 1) by omega]; exact q)
theorem own_l1 (L : List Int32) (n : Nat) : ∀ (j : Nat), (∀ k, k < n → ¬ own_valid (L.getD (j + k) 0) = 0) → own_loop L n j = 1 := by
  induction n with
  | zero => intro j _; rfl
  | succ n ih =>
    intro j h
    show (if own_valid (L.getD j 0) = 0 then (0 : Int32) else own_loop L n (j + 1)) = 1
    rw [if_neg (show ¬ own_valid (L.getD j 0) = 0 from h 0 (by omega))]
    exact ih (j + 1) (fun k hk => by rw [show j + 1 + k = j + (k + 1) by omega]; exact h (k + 1) (by omega))
theorem own_fa {L : List Int32} {off len : Int32} (h : len < (1 : Int32)) : own_fol L off len = 0 := by
  unfold own_fol
  rw [if_pos h]
theorem own_fb {L : List Int32} {off len : Int32} (h : ¬ len < (1 : Int32)) (h2 : (32 : Int32) < len) : own_fol L off len = 0 := by
  unfold own_fol
  rw [if_neg h, if_pos h2]
theorem own_fc {L : List Int32} {off len : Int32} (h : ¬ len < (1 : Int32)) (h2 : ¬ (32 : Int32) < len) (h3 : L.getD off.toNatClampNeg 0 = 45) : own_fol L off len = 0 := by
  unfold own_fol
  rw [if_neg h, if_neg h2, if_pos h3]
theorem own_okd {j off len x : Int32} (h : own_ok j off len x = 0) : ¬ (j < off) ∧ j < off + len ∧ own_valid x = 0 := by
  unfold own_ok at h
  by_cases a : j < off
  · rw [if_pos a] at h; exact absurd h (by decide)
  · rw [if_neg a] at h
    by_cases b : j < off + len
    · rw [if_pos b] at h
      by_cases c : own_valid x = 0
      · exact ⟨a, b, c⟩
      · rw [if_neg c] at h; exact absurd h (by decide)
    · rw [if_neg b] at h; exact absurd h (by decide)
theorem own_okn {j off len x : Int32} (h : ¬ own_ok j off len x = 0) (a : ¬ (j < off)) (b : j < off + len) : ¬ own_valid x = 0 := by
  intro c
  apply h
  unfold own_ok
  rw [if_neg a, if_pos b, if_pos c]
theorem own_bad {L : List Int32} {off len : Int32} (ho : own_o off) (h1 : ¬ (len < (1 : Int32))) (h2 : ¬ ((32 : Int32) < len)) (h3 : ¬ (L.getD off.toNatClampNeg 0 = 45)) (j : Int32) {x : Int32} (hj : 0 ≤ j.toInt) (hx : L.getD j.toNatClampNeg 0 = x) (hok : own_ok j off len x = 0) : own_fol L off len = 0 := by
  have I := own_first ho h1 h2 h3
  have s := own_sum I
  obtain ⟨a, b, v⟩ := own_okd hok
  rw [Int32.lt_iff_toInt_lt] at a b
  obtain ⟨⟨o1, o2⟩, l1, l2, -, -, f⟩ := I
  rw [f]
  have n1 := own_nat off
  have n2 := own_nat len
  have n3 := own_nat j
  refine own_l0 L _ (j.toNatClampNeg - off.toNatClampNeg) _ (by omega) ?_
  rw [show off.toNatClampNeg + (j.toNatClampNeg - off.toNatClampNeg) = j.toNatClampNeg by omega, hx]
  exact v
theorem own_badF {b0 b1 b2 b3 b4 b5 b6 b7 fb off len : Int32} (ho : own_o off) (h1 : ¬ (len < (1 : Int32))) (h2 : ¬ ((32 : Int32) < len)) (h3 : ¬ ((own_buf b0 b1 b2 b3 b4 b5 b6 b7 fb).getD off.toNatClampNeg 0 = 45)) (h4 : (8 : Int32) < off + len) (hv : own_valid fb = 0) : own_fol (own_buf b0 b1 b2 b3 b4 b5 b6 b7 fb) off len = 0 := by
  refine own_bad ho h1 h2 h3 (8 : Int32) (x := fb) (by decide) rfl ?_
  have e7 : (8 : Int32).toInt = 8 := by decide
  have a : ¬ ((8 : Int32) < off) := by
    rw [Int32.lt_iff_toInt_lt, e7]
    have := ho.2
    omega
  unfold own_ok
  rw [if_neg a, if_pos h4, if_pos hv]
theorem own_hi (b0 b1 b2 b3 b4 b5 b6 b7 fb : Int32) (k : Nat) (h : k < 32) : (own_buf b0 b1 b2 b3 b4 b5 b6 b7 fb).getD (8 + k) 0 = fb := by
  have q : ∀ (n k : Nat), k < n → (List.replicate n fb).getD k 0 = fb := by
    intro n
    induction n with
    | zero => intro k h; omega
    | succ n ih =>
      intro k h
      cases k with
      | zero => rfl
      | succ k => exact ih k (by omega)
  rw [show 8 + k = k + 1 + 1 + 1 + 1 + 1 + 1 + 1 + 1 by omega]
  exact q 32 k h
theorem own_fine {b0 b1 b2 b3 b4 b5 b6 b7 fb off len : Int32} (ho : own_o off) (h1 : ¬ (len < (1 : Int32))) (h2 : ¬ ((32 : Int32) < len)) (h3 : ¬ ((own_buf b0 b1 b2 b3 b4 b5 b6 b7 fb).getD off.toNatClampNeg 0 = 45))
    (k0 : ¬ own_ok 0 off len b0 = 0) (k1 : ¬ own_ok 1 off len b1 = 0) (k2 : ¬ own_ok 2 off len b2 = 0) (k3 : ¬ own_ok 3 off len b3 = 0) (k4 : ¬ own_ok 4 off len b4 = 0) (k5 : ¬ own_ok 5 off len b5 = 0) (k6 : ¬ own_ok 6 off len b6 = 0) (k7 : ¬ own_ok 7 off len b7 = 0)
    (hv : ¬ ((8 : Int32) < off + len) ∨ ¬ own_valid fb = 0) : own_fol (own_buf b0 b1 b2 b3 b4 b5 b6 b7 fb) off len = 1 := by
  have I := own_first ho h1 h2 h3
  have s := own_sum I
  obtain ⟨⟨o1, o2⟩, l1, l2, -, -, f⟩ := I
  rw [f]
  have n1 := own_nat off
  have n2 := own_nat len
  have e8 : (8 : Int32).toInt = 8 := by decide
  refine own_l1 _ _ _ (fun k hk => ?_)
  have key : ∀ (j : Int32) (x : Int32), ¬ own_ok j off len x = 0 → j.toInt = off.toInt + k → ¬ own_valid x = 0 := by
    intro j x z hj
    refine own_okn z ?_ ?_
    · rw [Int32.lt_iff_toInt_lt]; omega
    · rw [Int32.lt_iff_toInt_lt]; omega
  generalize hj : off.toNatClampNeg + k = j
  by_cases hlt : j < 8
  · rcases (by omega : j = 0 ∨ j = 1 ∨ j = 2 ∨ j = 3 ∨ j = 4 ∨ j = 5 ∨ j = 6 ∨ j = 7) with z | z | z | z | z | z | z | z <;> subst z
    · exact key 0 b0 k0 (by rw [show (0 : Int32).toInt = 0 by decide]; omega)
    · exact key 1 b1 k1 (by rw [show (1 : Int32).toInt = 1 by decide]; omega)
    · exact key 2 b2 k2 (by rw [show (2 : Int32).toInt = 2 by decide]; omega)
    · exact key 3 b3 k3 (by rw [show (3 : Int32).toInt = 3 by decide]; omega)
    · exact key 4 b4 k4 (by rw [show (4 : Int32).toInt = 4 by decide]; omega)
    · exact key 5 b5 k5 (by rw [show (5 : Int32).toInt = 5 by decide]; omega)
    · exact key 6 b6 k6 (by rw [show (6 : Int32).toInt = 6 by decide]; omega)
    · exact key 7 b7 k7 (by rw [show (7 : Int32).toInt = 7 by decide]; omega)
  · rcases hv with hv | hv
    · rw [Int32.lt_iff_toInt_lt, e8] at hv
      exfalso
      omega
    · rw [show j = 8 + (j - 8) by omega, own_hi _ _ _ _ _ _ _ _ _ (j - 8) (by omega)]
      exact hv

def own_res (vm : Vm) : Prop := ∃ a : Addr, ∀ s : State, Lit (s.setVm vm) "com/example/log_to_isles/logtoisles/model/NodeNameFollowsPinLaw" 7 a
theorem own_resOf {s : State} {vm : Vm} {a : Addr} (h : Lit (s.setVm vm) "com/example/log_to_isles/logtoisles/model/NodeNameFollowsPinLaw" 7 a) : own_res vm := ⟨a, fun _ => h⟩
theorem own_resGo {s : State} {vm vm' : Vm} (h : own_res vm) (w : (s.setVm vm).Warmed39 vm') : own_res vm' := by
  obtain ⟨a, q⟩ := h
  exact own_resOf (s := s) (Lit.stays (q s) w)
def own_grew (v v' : Vm) (k n : Nat) : Prop := (k = 0 ∧ n = 0) ∨ (¬ own_res v ∧ own_res v' ∧ k = 2 ∧ n = 152)
def own_J (v : Vm) (k n : Nat) : Prop := (k = 0 ∧ n = 0) ∨ (k = 2 ∧ n = 152 ∧ own_res v)
theorem own_Jc {v : Vm} {k n : Nat} (h : own_J v k n) : k + 2 ≤ 16 := by
  rcases h with ⟨rfl, rfl⟩ | ⟨rfl, rfl, -⟩ <;> decide
theorem own_Jn {v : Vm} {k n : Nat} (h : own_J v k n) : n + 152 ≤ 1216 := by
  rcases h with ⟨rfl, rfl⟩ | ⟨rfl, rfl, -⟩ <;> decide
theorem own_Jk {v : Vm} {k n : Nat} (h : own_J v k n) : k ≤ 2 := by
  rcases h with ⟨rfl, rfl⟩ | ⟨rfl, rfl, -⟩ <;> decide
theorem own_Jm {v : Vm} {k n : Nat} (h : own_J v k n) : n ≤ 152 := by
  rcases h with ⟨rfl, rfl⟩ | ⟨rfl, rfl, -⟩ <;> decide
theorem own_Jstep {s : State} {v0 v1 v2 : Vm} {k n k' n' : Nat} (hJ : own_J v0 k n) (h1 : (s.setVm v0).WarmedH v1) (h2 : (s.setVm v0).Warmed39 v2) (g : (k' = k ∧ n' = n) ∨ (¬ own_res v1 ∧ own_res v2 ∧ k' = k + 2 ∧ n' = n + 152)) : own_J v2 k' n' := by
  rcases g with ⟨rfl, rfl⟩ | ⟨g1, g2, rfl, rfl⟩
  · rcases hJ with h | ⟨a, b, r⟩
    · exact Or.inl h
    · exact Or.inr ⟨a, b, own_resGo r h2⟩
  · rcases hJ with ⟨rfl, rfl⟩ | ⟨a, b, r⟩
    · exact Or.inr ⟨rfl, rfl, g2⟩
    · exact absurd (own_resGo r h1.wide) g1
theorem own_backJ {p : Program} {l : Launch} {e : Env} {R : Room} {s : State} {args : Array Value} {below : List Frame} {Z : State} {a0 : Array Value} {EL : List (String × Nat)} {h : Heap} {vm0 : Vm} {y : MethodName} {bytes : ByteArray} {maxL : Nat} {ret : Option FieldType} {rm : Room} {len W : Nat} {as' : Array Value} {Q : Option Value → Heap → List Loc → Prop}
    (hM : MetFree l y (head1 [Jvm.Cond.code y bytes maxL ret] rm) (fun a U => a = as' ∧ Z.Warmed39 U.vm ∧ U.heap = h ∧ CHv Z EL U.vm h) (fun _ _ _ _ _ => True) (fun _ U o U' => ∃ v L, o = .returned v ∧ Q v U'.heap L ∧ CHr Z EL U.vm U.heap U'.vm U'.heap ∧ ∃ kk nn, ReturnedEndW U o U' L kk nn ∧ own_grew U.vm U'.vm kk nn))
    (hZ : Z.Warmed39 vm0) (wc : (Jvm.Cond.code y bytes maxL ret).before a0 Z = true) (wz : (Jvm.Cond.initialized y.cls).before a0 Z = true) (hf : rm.frames + 1 ≤ R.frames) (hl : W + (maxL + 11) + rm.locals ≤ R.locals) (hEL : EW Z a0 EL) (H : CHv Z EL vm0 h) :
    BackS l R p e below (s.setVm vm0) args y len W (fun A a => a = as' ∧ A.U.heap = h ∧ A.cells + rm.cells ≤ R.cells ∧ A.slots + rm.slots ≤ R.slots)
      (fun A _ v B => ∃ L, Q v B.U.heap L ∧ B.locs = A.locs ++ L ∧ ((B.cells = A.cells ∧ B.slots = A.slots) ∨ (¬ own_res A.U.vm ∧ own_res B.U.vm ∧ B.cells = A.cells + 2 ∧ B.slots = A.slots + 152)) ∧ CHr Z EL vm0 h B.U.vm B.U.heap) :=
  BackS.of_freeW (bytes := bytes) (maxL := maxL) (ret := ret) (E := fun _ first o t L k n => own_grew first.vm t.vm k n ∧ (∃ v, o = .returned v ∧ Q v t.heap L) ∧ CHr Z EL first.vm first.heap t.vm t.heap) hM hf hl
    (fun m meth c A a Y hp => have hU : Z.Warmed39 A.U.vm := wtrans (s := s.setVm vm0) hZ Y.warmed
      ⟨by show (Jvm.Cond.and _ .tt).before a A.U = true; rw [Cond.before_and, mv hU wc]; rfl, mv hU wc, mv hU wz, hp.2.2.1, hp.2.2.2⟩)
    (fun m meth c A a g mk Y hp => ⟨hp.1, wtrans (s := s.setVm vm0) hZ Y.warmed, hp.2.1, (CHv.at Y hZ hEL H).1⟩) (fun _ _ _ _ _ _ _ _ _ => trivial)
    (fun _ _ _ _ ⟨v, L, h1, h2, h3, k, n, h4, h5⟩ => ⟨L, _, _, h4, h5, ⟨v, h1, h2⟩, h3⟩)
    (fun m meth c A a g mk v t L k n Y hp _ _ ⟨e1, ⟨v', e3, e4⟩, e5⟩ => by
      cases e3
      refine ⟨L, e4, rfl, ?_, (CHv.at Y hZ hEL H).trans ?_⟩
      · rcases e1 with ⟨rfl, rfl⟩ | ⟨q1, q2, rfl, rfl⟩
        · exact Or.inl ⟨rfl, rfl⟩
        · exact Or.inr ⟨q1, q2, rfl, rfl⟩
      · rw [← hp.2.1]; exact e5)
theorem own_ldcR {p : Program} {l : Launch} {e : Env} {R : Room} {s : State} {m : MethodId} {args : Array Value} {below : List Frame} {meth : Method} {c : Code} {T : State} {locs : List Loc} {cells slots : Nat} {Z : State} {a0 : Array Value} {EL : List (String × Nat)} {h : Heap} {vm0 : Vm} {own text : String} {index : Nat} {a : Addr}
    (X : Stand p l e R (s.setVm vm0) m args below meth c T locs cells slots) (hx : p.tables.exec = Jvm.exec) (hZ : Z.Warmed39 vm0) (hown : vm0.findClass own = some m.cls) (w : (Jvm.Cond.stringLink own index text).before a0 Z = true) (hEL : EW Z a0 EL) (hmem : (own, index) ∈ EL) (H : CHv Z EL vm0 h) (L : Lit (s.setVm vm0) own index a)
    {vs : List Value} {z : Int32} (ht : (∀ c ∈ text.toList, c.toNat < 256) ∧ text.toList.map (fun c => Value.int (Jvm.Lit.byteI c.toNat.toUInt16)) = vs) (hz : ¬ z < 0) (hl : z.toNatClampNeg = vs.length)
    {g : JFrame} (hg : g.method = m) (hd : decode c.code g.pc = .ok (.ldc index, 2)) :
    ∃ (b : Addr) (k : ClassId), Exa Z h a "java/lang/String" ∧ Fld Z h a "java/lang/String" "coder" "B" (.int 0) ∧ Fld Z h a "java/lang/String" "value" "[B" (.ref b) ∧ Arv Z h b k .byte z vs (.int 0) ∧
      ∀ target, Steps p.tables e below (T.setTop { g with pc := g.pc + 2, stack := .ref a :: g.stack }) target → Steps p.tables e below (T.setTop g) target := by
  have st := ldcAgain X hx hZ hown w L hg hd
  have hal : Z.vm.Alike vm0 := hZ.alike
  have w2 : (Jvm.Cond.stringLink own index text).before a0 (Wst Z vm0 h) = true := mvS (s := { Z with heap := h }) hZ w
  obtain ⟨k0', cf, i, units, hkx, hcf, hp, hu, -, htext, -⟩ := Cond.stringLink_spec (s := Wst Z vm0 h) hown w2
  have hres : k0'.resolved[index]? = some (some (.string a)) := by
    have q : (s.setVm vm0).resolvedAt? own index = some (.string a) := L
    have hk' : vm0.classes[m.cls]? = some k0' := hkx
    simp [State.resolvedAt?, hown, hk'] at q
    cases hr : k0'.resolved[index]? with
    | none => rw [hr] at q; cases q
    | some o => rw [hr] at q; cases o with
      | none => cases q
      | some r => simpa using q
  have hB0 : Booksv vm0 own index units a := ⟨m.cls, k0', cf, i, hown, hkx, hcf, hp, hu, Or.inl hres⟩
  have hlat := Jvm.ClassFile.lat_of_text htext ht.1
  obtain ⟨q, hqa, F⟩ := SlB.of (H _ hmem units a hB0)
  obtain ⟨cS, ⟨⟨s1, s2, s3, ⟨cv, kv, iv, s4, s4'⟩, ⟨cc, kc, ic, s5, s5'⟩, s6, s7, s8, s9, s10, s11, s12, s13, s14, s15, s16⟩, hfS, hcS⟩, ⟨kS, k1, k2, k3⟩, hB, hbyt⟩ := F
  subst hqa
  have hfS : vm0.findClass "java/lang/String" = some cS := hfS
  have hB : vm0.findClass "[B" = some q.SA.cls := hB
  have k1 : vm0.classes[cS]? = some kS := k1
  obtain ⟨kv', z4⟩ := ff_back (U := Wst Z vm0 h) hal s4
  obtain ⟨kc', z5⟩ := ff_back (U := Wst Z vm0 h) hal s5
  have hfZ : Z.vm.findClass "java/lang/String" = some q.sC.cls := by rw [← hal.findClass, hcS]; exact hfS
  obtain ⟨kz, hkz, -⟩ := Vm.findClass_spec hfZ
  obtain ⟨kz', hkz', ekz⟩ := hal.2.2 _ _ hkz
  have ekS : kz' = kS := Option.some.inj (hkz'.symm.trans (hcS ▸ k1))
  have hBZ : Z.vm.findClass "[B" = some q.SA.cls := by rw [← hal.findClass]; exact hB
  obtain ⟨kb, hkb, -⟩ := Vm.findClass_spec hBZ
  obtain ⟨kb', hkb', ekb⟩ := hal.2.2 _ _ hkb
  obtain ⟨hst, k9, hk9, comp, hkind9⟩ := s11
  have hk9 : vm0.classes[q.SA.cls]? = some k9 := hk9
  have ek9 : k9 = kb' := Option.some.inj (hk9.symm.trans hkb')
  have hAZ : Z.isArrayOf q.SA .byte := ⟨hst, kb, hkb, comp, by rw [ek9, ekb] at hkind9; exact hkind9⟩
  have eu : vs = units.toList.map fun u => Value.int (Jvm.Lit.byteI u) := by rw [← ht.2, Jvm.ClassFile.units_of_text htext ht.1, List.map_map]; rfl
  have el : vs.length = units.size := by rw [eu]; simp
  have hsl : q.SA.slots = units.map fun u => Value.int (Jvm.Lit.byteI u) := by rw [hbyt, Jvm.Free.SBG.stringBytes_lat hlat]; rfl
  have hsz : q.SA.slots.size = units.size := by rw [hsl, Array.size_map]
  have H2 : Has q.SA vs (.int 0) := fun j hj => by
    have hj' : j < units.size := by omega
    rw [hsl, eu]; simp [hj']
  refine ⟨q.sd, q.SA.cls, ⟨q.sC, kz, s1, hfZ, hkz, s3, fun ho => by rw [k3, ← ekS, ekz]⟩, ⟨q.sC, cc, kc', ic, q.fSC, s1, z5, s7, s2, s3, by rw [← hal.assignable]; exact s5', s9⟩, ⟨q.sC, cv, kv', iv, q.fSV, s1, z4, s6, s2, s3, by rw [← hal.assignable]; exact s4', s8⟩,
    ⟨q.SA, ⟨s10, hAZ, s12⟩, rfl, by rw [hsz, hl, el], hz, H2, fun j hj => ?_⟩, st⟩
  have e1 := s16 j hj
  have e2 := H2 j hj
  rw [Jvm.Free.SBG.getD_of e2] at e1
  exact e1
theorem own_hide {p : Program} {l : Launch} {e : Env} {R : Room} {s : State} {m : MethodId} {args : Array Value} {below : List Frame} {meth : Method} {c : Code} {T : State} {locs : List Loc} {cells slots n0 : Nat} (X : Stand p l e R s m args below meth c T locs cells slots) (N : Fr n0 locs) : ∃ z, Stand p l e R s m args below meth c T z cells slots ∧ Fr n0 z := ⟨_, X, N⟩

theorem pn_jdk_internal_util_Preconditions : plainName "jdk/internal/util/Preconditions" = true := by first | (simp [plainName, overriddenIn]; done) | decide +kernel
theorem d_jdk_41_method_11_code_0 : decode jdk_41_method_11_code 0 = .ok (.iload_n 0, 1) := by decide +kernel
theorem d_jdk_41_method_11_code_1 : decode jdk_41_method_11_code 1 = .ok (.ifCond .lt 8, 3) := by decide +kernel
theorem d_jdk_41_method_11_code_4 : decode jdk_41_method_11_code 4 = .ok (.iload_n 0, 1) := by decide +kernel
theorem d_jdk_41_method_11_code_5 : decode jdk_41_method_11_code 5 = .ok (.iload_n 1, 1) := by decide +kernel
theorem d_jdk_41_method_11_code_6 : decode jdk_41_method_11_code 6 = .ok (.if_icmp .lt 10, 3) := by decide +kernel
theorem d_jdk_41_method_11_code_16 : decode jdk_41_method_11_code 16 = .ok (.iload_n 0, 1) := by decide +kernel
theorem d_jdk_41_method_11_code_17 : decode jdk_41_method_11_code 17 = .ok (.ireturn, 1) := by decide +kernel
theorem ef_rmPreN (m : MethodId) (p1 : Int32) (p2 : Int32) : entryFrame m #[(.int p1), (.int p2), .null] 3 = mkF m 0 #[.val (.int p1), .val (.int p2), .val .null] [] := by first | (simp [entryFrame, mkF, argsToLocals, Value.category]; done) | rfl
def Q_rmPreN (Z : State) (p1 : Int32) (p2 : Int32) (h0 : Heap) (n0 : Nat) (v : Option Value) (h : Heap) (L : List Loc) : Prop := v = some (.int p1) ∧ Fr n0 L ∧ h = h0
set_option maxRecDepth 65536 in
set_option maxHeartbeats 40000000 in
theorem rmPreN (l : Launch) (Z : State) (a0 : Array Value) (hw : ∀ d ∈ tables_1, d.before a0 Z = true) (ws : List Jvm.Cond) (p1 : Int32) (p2 : Int32) (h0 : Heap) (n0 : Nat) (Z0 : n0 ≤ h0.size) (u0 : ¬ (p1 < (0 : Int32))) (u1 : p1 < p2) :
    MetFree l (⟨"jdk/internal/util/Preconditions", "checkIndex", "(IILjava/util/function/BiFunction;)I"⟩ : MethodName) (head1 (Jvm.Cond.code (⟨"jdk/internal/util/Preconditions", "checkIndex", "(IILjava/util/function/BiFunction;)I"⟩ : MethodName) jdk_41_method_11_code 3 (some .int) :: ws) ({ frames := 0, cells := 0, slots := 0, locals := 0 } : Room)) (fun a U => a = #[(.int p1), (.int p2), .null] ∧ Z.Warmed39 U.vm ∧ U.heap = h0) (fun _ _ _ _ _ => True) (fun _ U o U' => ∃ v L, o = .returned v ∧ Q_rmPreN Z p1 p2 h0 n0 v U'.heap L ∧ FrameEnd U o U' L ({ frames := 0, cells := 0, slots := 0, locals := 0 } : Room).cells ({ frames := 0, cells := 0, slots := 0, locals := 0 } : Room).slots) := by
  refine MetFree.of_bodySF (plainFor_of_name pn_jdk_internal_util_Preconditions) hisR ?_
  intro p e s m args below meth c s₁ Bd hml0 hP hK
  obtain ⟨rfl, hZ, hh⟩ := hP
  have hx := Bd.exec
  have hby := Bd.bytes
  have hml : c.maxLocals = 3 := hml0
  have hown : s.vm.findClass "jdk/internal/util/Preconditions" = some m.cls := findClass_of_methodNamed Bd.named
  have hnm := (name_of_methodNamed Bd.named Bd.method).1
  have X0 : Stand p l e ({ frames := 0, cells := 0, slots := 0, locals := 0 } : Room) s m #[(.int p1), (.int p2), .null] below meth c s₁ [] 0 0 := Stand.of_body Bd
  have e0 : s₁.heap = h0 := by rw [← hh, Bd.state]; rfl
  have N0 := Fr.nil n0
  refine own_fw (A' := (s₁.setTop (mkF m 0 #[.val (.int p1), .val (.int p2), .val .null] []))) (fun t k => castTop (ef_rmPreN m p1 p2) k) ?_
  refine own_fw (A' := (s₁.setTop (mkF m 1 #[.val (.int p1), .val (.int p2), .val .null] [(.int p1)]))) (fun t k => XS.iloadN X0.here hx rfl (hb hby d_jdk_41_method_11_code_0) rfl k) ?_
  refine own_fw (A' := (s₁.setTop (mkF m 4 #[.val (.int p1), .val (.int p2), .val .null] []))) (fun t k => XS.ifNo X0.here hx rfl (hb hby d_jdk_41_method_11_code_1) rfl (XT.i0_lt_f u0) k) ?_
  refine own_fw (A' := (s₁.setTop (mkF m 5 #[.val (.int p1), .val (.int p2), .val .null] [(.int p1)]))) (fun t k => XS.iloadN X0.here hx rfl (hb hby d_jdk_41_method_11_code_4) rfl k) ?_
  refine own_fw (A' := (s₁.setTop (mkF m 6 #[.val (.int p1), .val (.int p2), .val .null] [(.int p2), (.int p1)]))) (fun t k => XS.iloadN X0.here hx rfl (hb hby d_jdk_41_method_11_code_5) rfl k) ?_
  refine own_fw (A' := (s₁.setTop (mkF m 16 #[.val (.int p1), .val (.int p2), .val .null] []))) (fun t k => XS.icmpYes X0.here hx rfl (pc0 := 6) (pc' := 16) rfl (hb hby d_jdk_41_method_11_code_6) rfl (XT.ii_lt_t u1) (by decide) (by decide) k) ?_
  refine own_fw (A' := (s₁.setTop (mkF m 17 #[.val (.int p1), .val (.int p2), .val .null] [(.int p1)]))) (fun t k => XS.iloadN X0.here hx rfl (hb hby d_jdk_41_method_11_code_16) rfl k) ?_
  obtain ⟨fs, hr, hrun, hended, hW, hsame⟩ := X0.leave (v := some (.int p1)) (fun h => by rw [Bd.returns] at h; cases h)
  refine ⟨_, _, ?_, hrun, hended, _, _, rfl, ?_, ⟨_, rfl⟩, hW, hsame.mono (by decide) (by decide)⟩
  · exact retOut X0 hx Bd.returns rfl (Or.inl ⟨rfl, by simp, _, rfl⟩) (hb hby d_jdk_41_method_11_code_17) hr
  · show Q_rmPreN Z p1 p2 h0 n0 _ s₁.heap _
    rw [e0]
    exact ⟨rfl, N0, rfl⟩
theorem pn_java_lang_String : plainName "java/lang/String" = true := by first | (simp [plainName, overriddenIn]; done) | decide +kernel
theorem d_jdk_42_method_155_code_0 : decode jdk_42_method_155_code 0 = .ok (.iload_n 0, 1) := by decide +kernel
theorem d_jdk_42_method_155_code_1 : decode jdk_42_method_155_code 1 = .ok (.iload_n 1, 1) := by decide +kernel
theorem d_jdk_42_method_155_code_2 : decode jdk_42_method_155_code 2 = .ok (.getstatic 1053, 3) := by decide +kernel
theorem d_jdk_42_method_155_code_5 : decode jdk_42_method_155_code 5 = .ok (.invokestatic 1059, 3) := by decide +kernel
theorem pd__IILjava_util_function_BiFunction__I : parseMethodDescriptor "(IILjava/util/function/BiFunction;)I" = some ⟨[.int, .int, (.object "java/util/function/BiFunction")], some .int⟩ := by decide +kernel
theorem d_jdk_42_method_155_code_8 : decode jdk_42_method_155_code 8 = .ok (.pop, 1) := by decide +kernel
theorem d_jdk_42_method_155_code_9 : decode jdk_42_method_155_code 9 = .ok (.return_, 1) := by decide +kernel
theorem ef_rmCkN (m : MethodId) (p1 : Int32) (p2 : Int32) : entryFrame m #[(.int p1), (.int p2)] 2 = mkF m 0 #[.val (.int p1), .val (.int p2)] [] := by first | (simp [entryFrame, mkF, argsToLocals, Value.category]; done) | rfl
def Q_rmCkN (Z : State) (p1 : Int32) (p2 : Int32) (h0 : Heap) (n0 : Nat) (v : Option Value) (h : Heap) (L : List Loc) : Prop := v = none ∧ Fr n0 L ∧ h = h0
set_option maxRecDepth 65536 in
set_option maxHeartbeats 40000000 in
theorem rmCkN (l : Launch) (Z : State) (a0 : Array Value) (hw : ∀ d ∈ tables_1, d.before a0 Z = true) (ws : List Jvm.Cond) (p1 : Int32) (p2 : Int32) (h0 : Heap) (n0 : Nat) (Z0 : n0 ≤ h0.size) (P0 : Sta Z h0 "jdk/internal/util/Preconditions" "SIOOBE_FORMATTER" "Ljava/util/function/BiFunction;" .null) (u0 : ¬ (p1 < (0 : Int32))) (u1 : p1 < p2) :
    MetFree l (⟨"java/lang/String", "checkIndex", "(II)V"⟩ : MethodName) (head1 (Jvm.Cond.code (⟨"java/lang/String", "checkIndex", "(II)V"⟩ : MethodName) jdk_42_method_155_code 2 none :: ws) ({ frames := 1, cells := 0, slots := 0, locals := 14 } : Room)) (fun a U => a = #[(.int p1), (.int p2)] ∧ Z.Warmed39 U.vm ∧ U.heap = h0) (fun _ _ _ _ _ => True) (fun _ U o U' => ∃ v L, o = .returned v ∧ Q_rmCkN Z p1 p2 h0 n0 v U'.heap L ∧ FrameEnd U o U' L ({ frames := 1, cells := 0, slots := 0, locals := 14 } : Room).cells ({ frames := 1, cells := 0, slots := 0, locals := 14 } : Room).slots) := by
  refine MetFree.of_bodySF (plainFor_of_name pn_java_lang_String) hisR ?_
  intro p e s m args below meth c s₁ Bd hml0 hP hK
  obtain ⟨rfl, hZ, hh⟩ := hP
  have hx := Bd.exec
  have hby := Bd.bytes
  have hml : c.maxLocals = 2 := hml0
  have hown : s.vm.findClass "java/lang/String" = some m.cls := findClass_of_methodNamed Bd.named
  have hnm := (name_of_methodNamed Bd.named Bd.method).1
  have X0 : Stand p l e ({ frames := 1, cells := 0, slots := 0, locals := 14 } : Room) s m #[(.int p1), (.int p2)] below meth c s₁ [] 0 0 := Stand.of_body Bd
  have e0 : s₁.heap = h0 := by rw [← hh, Bd.state]; rfl
  have N0 := Fr.nil n0
  refine own_fw (A' := (s₁.setTop (mkF m 0 #[.val (.int p1), .val (.int p2)] []))) (fun t k => castTop (ef_rmCkN m p1 p2) k) ?_
  refine own_fw (A' := (s₁.setTop (mkF m 1 #[.val (.int p1), .val (.int p2)] [(.int p1)]))) (fun t k => XS.iloadN X0.here hx rfl (hb hby d_jdk_42_method_155_code_0) rfl k) ?_
  refine own_fw (A' := (s₁.setTop (mkF m 2 #[.val (.int p1), .val (.int p2)] [(.int p2), (.int p1)]))) (fun t k => XS.iloadN X0.here hx rfl (hb hby d_jdk_42_method_155_code_1) rfl k) ?_
  obtain ⟨T1, X1, e1, st1⟩ := getS2 X0 hx hZ hown (host := "") (Or.inl (hw _ (List.mem_of_getElem? (i := 32) rfl))) Via.refl e0 P0 (g := (mkF m 2 #[.val (.int p1), .val (.int p2)] [(.int p2), (.int p1)])) rfl (hb hby d_jdk_42_method_155_code_2)
  refine own_fw (A' := (T1.setTop (mkF m 5 #[.val (.int p1), .val (.int p2)] [.null, (.int p2), (.int p1)]))) (fun t k => st1 _ k) ?_
  obtain ⟨_, _, ⟨T2, L2, k2, n2⟩, -, X2, ⟨Lc2, hQ2, l2, y2, z2⟩, st2⟩ := Jvm.LawKit.callS X1 hx (y := (⟨"jdk/internal/util/Preconditions", "checkIndex", "(IILjava/util/function/BiFunction;)I"⟩ : MethodName)) hown (mvT hZ (hw _ (List.mem_of_getElem? (i := 34) rfl))) (mvT hZ (hw _ (List.mem_of_getElem? (i := 35) rfl))) (mvT hZ (hw _ (List.mem_of_getElem? (i := 33) rfl))) (mvT hZ (hw _ (List.mem_of_getElem? (i := 36) rfl))) (by decide) (backOf (W := 0) (rmPreN l Z a0 hw [] p1 p2 h0 n0 Z0 u0 u1) hZ (hw _ (List.mem_of_getElem? (i := 36) rfl)) (hw _ (List.mem_of_getElem? (i := 33) rfl)) (by decide) (by decide)) (g := (mkF m 5 #[.val (.int p1), .val (.int p2)] [.null, (.int p2), (.int p1)])) rfl (by rw [hml]; rfl) (argsL := [(.int p1), (.int p2), .null]) (rest := []) (lenOf pd__IILjava_util_function_BiFunction__I rfl) rfl (by show 2 * 0 + _ ≤ _; exact Nat.le_of_eq rfl) (hb hby d_jdk_42_method_155_code_5) (fun _ _ => ⟨rfl, e1, (by decide : 0 + 0 ≤ _), (by decide : 0 + 0 ≤ _)⟩)
  dsimp only [Pt.U, Pt.locs, Pt.cells, Pt.slots] at X2 l2 y2 z2 st2 hQ2
  subst l2 y2 z2
  obtain ⟨rfl, Nq2, e2⟩ := hQ2
  have Nf2 := Fr.app N0 Nq2
  refine own_fw (A' := (T2.setTop (mkF m 8 #[.val (.int p1), .val (.int p2)] [(.int p1)]))) (fun t k => st2 _ k) ?_
  refine own_fw (A' := (T2.setTop (mkF m 9 #[.val (.int p1), .val (.int p2)] []))) (fun t k => XS.pop X2.here hx rfl (hb hby d_jdk_42_method_155_code_8) rfl rfl k) ?_
  obtain ⟨fs, hr, hrun, hended, hW, hsame⟩ := X2.leave (v := none) (fun _ => rfl)
  refine ⟨_, _, ?_, hrun, hended, _, _, rfl, ?_, ⟨_, rfl⟩, hW, hsame.mono (by decide) (by decide)⟩
  · exact X2.returnOut hx Bd.returns (hb hby d_jdk_42_method_155_code_9) hr
  · show Q_rmCkN Z p1 p2 h0 n0 _ T2.heap _
    rw [e2]
    exact ⟨rfl, Nf2, rfl⟩
theorem ef_rmPreR (m : MethodId) (p1 : Int32) (p2 : Int32) (sf : Addr) : entryFrame m #[(.int p1), (.int p2), (.ref sf)] 3 = mkF m 0 #[.val (.int p1), .val (.int p2), .val (.ref sf)] [] := by first | (simp [entryFrame, mkF, argsToLocals, Value.category]; done) | rfl
def Q_rmPreR (Z : State) (p1 : Int32) (p2 : Int32) (sf : Addr) (h0 : Heap) (n0 : Nat) (v : Option Value) (h : Heap) (L : List Loc) : Prop := v = some (.int p1) ∧ Fr n0 L ∧ h = h0
set_option maxRecDepth 65536 in
set_option maxHeartbeats 40000000 in
theorem rmPreR (l : Launch) (Z : State) (a0 : Array Value) (hw : ∀ d ∈ tables_1, d.before a0 Z = true) (ws : List Jvm.Cond) (p1 : Int32) (p2 : Int32) (sf : Addr) (h0 : Heap) (n0 : Nat) (Z0 : n0 ≤ h0.size) (u0 : ¬ (p1 < (0 : Int32))) (u1 : p1 < p2) :
    MetFree l (⟨"jdk/internal/util/Preconditions", "checkIndex", "(IILjava/util/function/BiFunction;)I"⟩ : MethodName) (head1 (Jvm.Cond.code (⟨"jdk/internal/util/Preconditions", "checkIndex", "(IILjava/util/function/BiFunction;)I"⟩ : MethodName) jdk_41_method_11_code 3 (some .int) :: ws) ({ frames := 0, cells := 0, slots := 0, locals := 0 } : Room)) (fun a U => a = #[(.int p1), (.int p2), (.ref sf)] ∧ Z.Warmed39 U.vm ∧ U.heap = h0) (fun _ _ _ _ _ => True) (fun _ U o U' => ∃ v L, o = .returned v ∧ Q_rmPreR Z p1 p2 sf h0 n0 v U'.heap L ∧ FrameEnd U o U' L ({ frames := 0, cells := 0, slots := 0, locals := 0 } : Room).cells ({ frames := 0, cells := 0, slots := 0, locals := 0 } : Room).slots) := by
  refine MetFree.of_bodySF (plainFor_of_name pn_jdk_internal_util_Preconditions) hisR ?_
  intro p e s m args below meth c s₁ Bd hml0 hP hK
  obtain ⟨rfl, hZ, hh⟩ := hP
  have hx := Bd.exec
  have hby := Bd.bytes
  have hml : c.maxLocals = 3 := hml0
  have hown : s.vm.findClass "jdk/internal/util/Preconditions" = some m.cls := findClass_of_methodNamed Bd.named
  have hnm := (name_of_methodNamed Bd.named Bd.method).1
  have X0 : Stand p l e ({ frames := 0, cells := 0, slots := 0, locals := 0 } : Room) s m #[(.int p1), (.int p2), (.ref sf)] below meth c s₁ [] 0 0 := Stand.of_body Bd
  have e0 : s₁.heap = h0 := by rw [← hh, Bd.state]; rfl
  have N0 := Fr.nil n0
  refine own_fw (A' := (s₁.setTop (mkF m 0 #[.val (.int p1), .val (.int p2), .val (.ref sf)] []))) (fun t k => castTop (ef_rmPreR m p1 p2 sf) k) ?_
  refine own_fw (A' := (s₁.setTop (mkF m 1 #[.val (.int p1), .val (.int p2), .val (.ref sf)] [(.int p1)]))) (fun t k => XS.iloadN X0.here hx rfl (hb hby d_jdk_41_method_11_code_0) rfl k) ?_
  refine own_fw (A' := (s₁.setTop (mkF m 4 #[.val (.int p1), .val (.int p2), .val (.ref sf)] []))) (fun t k => XS.ifNo X0.here hx rfl (hb hby d_jdk_41_method_11_code_1) rfl (XT.i0_lt_f u0) k) ?_
  refine own_fw (A' := (s₁.setTop (mkF m 5 #[.val (.int p1), .val (.int p2), .val (.ref sf)] [(.int p1)]))) (fun t k => XS.iloadN X0.here hx rfl (hb hby d_jdk_41_method_11_code_4) rfl k) ?_
  refine own_fw (A' := (s₁.setTop (mkF m 6 #[.val (.int p1), .val (.int p2), .val (.ref sf)] [(.int p2), (.int p1)]))) (fun t k => XS.iloadN X0.here hx rfl (hb hby d_jdk_41_method_11_code_5) rfl k) ?_
  refine own_fw (A' := (s₁.setTop (mkF m 16 #[.val (.int p1), .val (.int p2), .val (.ref sf)] []))) (fun t k => XS.icmpYes X0.here hx rfl (pc0 := 6) (pc' := 16) rfl (hb hby d_jdk_41_method_11_code_6) rfl (XT.ii_lt_t u1) (by decide) (by decide) k) ?_
  refine own_fw (A' := (s₁.setTop (mkF m 17 #[.val (.int p1), .val (.int p2), .val (.ref sf)] [(.int p1)]))) (fun t k => XS.iloadN X0.here hx rfl (hb hby d_jdk_41_method_11_code_16) rfl k) ?_
  obtain ⟨fs, hr, hrun, hended, hW, hsame⟩ := X0.leave (v := some (.int p1)) (fun h => by rw [Bd.returns] at h; cases h)
  refine ⟨_, _, ?_, hrun, hended, _, _, rfl, ?_, ⟨_, rfl⟩, hW, hsame.mono (by decide) (by decide)⟩
  · exact retOut X0 hx Bd.returns rfl (Or.inl ⟨rfl, by simp, _, rfl⟩) (hb hby d_jdk_41_method_11_code_17) hr
  · show Q_rmPreR Z p1 p2 sf h0 n0 _ s₁.heap _
    rw [e0]
    exact ⟨rfl, N0, rfl⟩
theorem ef_rmCkR (m : MethodId) (p1 : Int32) (p2 : Int32) : entryFrame m #[(.int p1), (.int p2)] 2 = mkF m 0 #[.val (.int p1), .val (.int p2)] [] := by first | (simp [entryFrame, mkF, argsToLocals, Value.category]; done) | rfl
def Q_rmCkR (Z : State) (p1 : Int32) (p2 : Int32) (sf : Addr) (h0 : Heap) (n0 : Nat) (v : Option Value) (h : Heap) (L : List Loc) : Prop := v = none ∧ Fr n0 L ∧ h = h0
set_option maxRecDepth 65536 in
set_option maxHeartbeats 40000000 in
theorem rmCkR (l : Launch) (Z : State) (a0 : Array Value) (hw : ∀ d ∈ tables_1, d.before a0 Z = true) (ws : List Jvm.Cond) (p1 : Int32) (p2 : Int32) (sf : Addr) (h0 : Heap) (n0 : Nat) (Z0 : n0 ≤ h0.size) (P0 : Sta Z h0 "jdk/internal/util/Preconditions" "SIOOBE_FORMATTER" "Ljava/util/function/BiFunction;" (.ref sf)) (u0 : ¬ (p1 < (0 : Int32))) (u1 : p1 < p2) :
    MetFree l (⟨"java/lang/String", "checkIndex", "(II)V"⟩ : MethodName) (head1 (Jvm.Cond.code (⟨"java/lang/String", "checkIndex", "(II)V"⟩ : MethodName) jdk_42_method_155_code 2 none :: ws) ({ frames := 1, cells := 0, slots := 0, locals := 14 } : Room)) (fun a U => a = #[(.int p1), (.int p2)] ∧ Z.Warmed39 U.vm ∧ U.heap = h0) (fun _ _ _ _ _ => True) (fun _ U o U' => ∃ v L, o = .returned v ∧ Q_rmCkR Z p1 p2 sf h0 n0 v U'.heap L ∧ FrameEnd U o U' L ({ frames := 1, cells := 0, slots := 0, locals := 14 } : Room).cells ({ frames := 1, cells := 0, slots := 0, locals := 14 } : Room).slots) := by
  refine MetFree.of_bodySF (plainFor_of_name pn_java_lang_String) hisR ?_
  intro p e s m args below meth c s₁ Bd hml0 hP hK
  obtain ⟨rfl, hZ, hh⟩ := hP
  have hx := Bd.exec
  have hby := Bd.bytes
  have hml : c.maxLocals = 2 := hml0
  have hown : s.vm.findClass "java/lang/String" = some m.cls := findClass_of_methodNamed Bd.named
  have hnm := (name_of_methodNamed Bd.named Bd.method).1
  have X0 : Stand p l e ({ frames := 1, cells := 0, slots := 0, locals := 14 } : Room) s m #[(.int p1), (.int p2)] below meth c s₁ [] 0 0 := Stand.of_body Bd
  have e0 : s₁.heap = h0 := by rw [← hh, Bd.state]; rfl
  have N0 := Fr.nil n0
  refine own_fw (A' := (s₁.setTop (mkF m 0 #[.val (.int p1), .val (.int p2)] []))) (fun t k => castTop (ef_rmCkR m p1 p2) k) ?_
  refine own_fw (A' := (s₁.setTop (mkF m 1 #[.val (.int p1), .val (.int p2)] [(.int p1)]))) (fun t k => XS.iloadN X0.here hx rfl (hb hby d_jdk_42_method_155_code_0) rfl k) ?_
  refine own_fw (A' := (s₁.setTop (mkF m 2 #[.val (.int p1), .val (.int p2)] [(.int p2), (.int p1)]))) (fun t k => XS.iloadN X0.here hx rfl (hb hby d_jdk_42_method_155_code_1) rfl k) ?_
  obtain ⟨T1, X1, e1, st1⟩ := getS2 X0 hx hZ hown (host := "") (Or.inl (hw _ (List.mem_of_getElem? (i := 32) rfl))) Via.refl e0 P0 (g := (mkF m 2 #[.val (.int p1), .val (.int p2)] [(.int p2), (.int p1)])) rfl (hb hby d_jdk_42_method_155_code_2)
  refine own_fw (A' := (T1.setTop (mkF m 5 #[.val (.int p1), .val (.int p2)] [(.ref sf), (.int p2), (.int p1)]))) (fun t k => st1 _ k) ?_
  obtain ⟨_, _, ⟨T2, L2, k2, n2⟩, -, X2, ⟨Lc2, hQ2, l2, y2, z2⟩, st2⟩ := Jvm.LawKit.callS X1 hx (y := (⟨"jdk/internal/util/Preconditions", "checkIndex", "(IILjava/util/function/BiFunction;)I"⟩ : MethodName)) hown (mvT hZ (hw _ (List.mem_of_getElem? (i := 34) rfl))) (mvT hZ (hw _ (List.mem_of_getElem? (i := 35) rfl))) (mvT hZ (hw _ (List.mem_of_getElem? (i := 33) rfl))) (mvT hZ (hw _ (List.mem_of_getElem? (i := 36) rfl))) (by decide) (backOf (W := 0) (rmPreR l Z a0 hw [] p1 p2 sf h0 n0 Z0 u0 u1) hZ (hw _ (List.mem_of_getElem? (i := 36) rfl)) (hw _ (List.mem_of_getElem? (i := 33) rfl)) (by decide) (by decide)) (g := (mkF m 5 #[.val (.int p1), .val (.int p2)] [(.ref sf), (.int p2), (.int p1)])) rfl (by rw [hml]; rfl) (argsL := [(.int p1), (.int p2), (.ref sf)]) (rest := []) (lenOf pd__IILjava_util_function_BiFunction__I rfl) rfl (by show 2 * 0 + _ ≤ _; exact Nat.le_of_eq rfl) (hb hby d_jdk_42_method_155_code_5) (fun _ _ => ⟨rfl, e1, (by decide : 0 + 0 ≤ _), (by decide : 0 + 0 ≤ _)⟩)
  dsimp only [Pt.U, Pt.locs, Pt.cells, Pt.slots] at X2 l2 y2 z2 st2 hQ2
  subst l2 y2 z2
  obtain ⟨rfl, Nq2, e2⟩ := hQ2
  have Nf2 := Fr.app N0 Nq2
  refine own_fw (A' := (T2.setTop (mkF m 8 #[.val (.int p1), .val (.int p2)] [(.int p1)]))) (fun t k => st2 _ k) ?_
  refine own_fw (A' := (T2.setTop (mkF m 9 #[.val (.int p1), .val (.int p2)] []))) (fun t k => XS.pop X2.here hx rfl (hb hby d_jdk_42_method_155_code_8) rfl rfl k) ?_
  obtain ⟨fs, hr, hrun, hended, hW, hsame⟩ := X2.leave (v := none) (fun _ => rfl)
  refine ⟨_, _, ?_, hrun, hended, _, _, rfl, ?_, ⟨_, rfl⟩, hW, hsame.mono (by decide) (by decide)⟩
  · exact X2.returnOut hx Bd.returns (hb hby d_jdk_42_method_155_code_9) hr
  · show Q_rmCkR Z p1 p2 sf h0 n0 _ T2.heap _
    rw [e2]
    exact ⟨rfl, Nf2, rfl⟩
def Q_rmCk (Z : State) (p1 p2 : Int32) (sv : Value) (h0 : Heap) (n0 : Nat) (v : Option Value) (h : Heap) (L : List Loc) : Prop := v = none ∧ Fr n0 L ∧ h = h0
theorem rmCk (l : Launch) (Z : State) (a0 : Array Value) (hw : ∀ d ∈ tables_1, d.before a0 Z = true) (ws : List Jvm.Cond) (p1 p2 : Int32) (sv : Value) (h0 : Heap) (n0 : Nat) (Z0 : n0 ≤ h0.size) (P0 : Sta Z h0 "jdk/internal/util/Preconditions" "SIOOBE_FORMATTER" "Ljava/util/function/BiFunction;" sv) (hsv : sv.isRef = true) (u0 : ¬ (p1 < (0 : Int32))) (u1 : p1 < p2) :
    MetFree l (⟨"java/lang/String", "checkIndex", "(II)V"⟩ : MethodName) (head1 (Jvm.Cond.code (⟨"java/lang/String", "checkIndex", "(II)V"⟩ : MethodName) jdk_42_method_155_code 2 none :: ws) ({ frames := 1, cells := 0, slots := 0, locals := 14 } : Room)) (fun a U => a = #[(.int p1), (.int p2)] ∧ Z.Warmed39 U.vm ∧ U.heap = h0) (fun _ _ _ _ _ => True) (fun _ U o U' => ∃ v L, o = .returned v ∧ Q_rmCk Z p1 p2 sv h0 n0 v U'.heap L ∧ FrameEnd U o U' L ({ frames := 1, cells := 0, slots := 0, locals := 14 } : Room).cells ({ frames := 1, cells := 0, slots := 0, locals := 14 } : Room).slots) := by
  rcases ref_cases hsv with rfl | ⟨sf, rfl⟩
  · exact rmCkN l Z a0 hw ws p1 p2 h0 n0 Z0 P0 u0 u1
  · exact rmCkR l Z a0 hw ws p1 p2 sf h0 n0 Z0 P0 u0 u1
theorem d_jdk_42_method_154_code_0 : decode jdk_42_method_154_code 0 = .ok (.getstatic 38, 3) := by decide +kernel
theorem d_jdk_42_method_154_code_3 : decode jdk_42_method_154_code 3 = .ok (.ifCond .eq 14, 3) := by decide +kernel
theorem d_jdk_42_method_154_code_6 : decode jdk_42_method_154_code 6 = .ok (.aload_n 0, 1) := by decide +kernel
theorem d_jdk_42_method_154_code_7 : decode jdk_42_method_154_code 7 = .ok (.getfield 15, 3) := by decide +kernel
theorem d_jdk_42_method_154_code_10 : decode jdk_42_method_154_code 10 = .ok (.ifCond .ne 7, 3) := by decide +kernel
theorem d_jdk_42_method_154_code_13 : decode jdk_42_method_154_code 13 = .ok (.iconst 1, 1) := by decide +kernel
theorem d_jdk_42_method_154_code_14 : decode jdk_42_method_154_code 14 = .ok (.goto 4, 3) := by decide +kernel
theorem d_jdk_42_method_154_code_18 : decode jdk_42_method_154_code 18 = .ok (.ireturn, 1) := by decide +kernel
theorem ef_rmLat (m : MethodId) (a1 : Addr) : entryFrame m #[(.ref a1)] 1 = mkF m 0 #[.val (.ref a1)] [] := by first | (simp [entryFrame, mkF, argsToLocals, Value.category]; done) | rfl
def Q_rmLat (Z : State) (a1 : Addr) (cs : Int32) (h0 : Heap) (n0 : Nat) (v : Option Value) (h : Heap) (L : List Loc) : Prop := v = some (.int (1 : Int32)) ∧ Fr n0 L ∧ h = h0
set_option maxRecDepth 65536 in
set_option maxHeartbeats 40000000 in
theorem rmLat (l : Launch) (Z : State) (a0 : Array Value) (hw : ∀ d ∈ tables_1, d.before a0 Z = true) (ws : List Jvm.Cond) (a1 : Addr) (cs : Int32) (h0 : Heap) (n0 : Nat) (Z0 : n0 ≤ h0.size) (P0 : Fld Z h0 a1 "java/lang/String" "coder" "B" (.int (0 : Int32))) (P1 : Sta Z h0 "java/lang/String" "COMPACT_STRINGS" "Z" (.int cs)) (hcs : ¬ (cs = (0 : Int32))) :
    MetFree l (⟨"java/lang/String", "isLatin1", "()Z"⟩ : MethodName) (head1 (Jvm.Cond.code (⟨"java/lang/String", "isLatin1", "()Z"⟩ : MethodName) jdk_42_method_154_code 1 (some .boolean) :: ws) ({ frames := 0, cells := 0, slots := 0, locals := 0 } : Room)) (fun a U => a = #[(.ref a1)] ∧ Z.Warmed39 U.vm ∧ U.heap = h0) (fun _ _ _ _ _ => True) (fun _ U o U' => ∃ v L, o = .returned v ∧ Q_rmLat Z a1 cs h0 n0 v U'.heap L ∧ FrameEnd U o U' L ({ frames := 0, cells := 0, slots := 0, locals := 0 } : Room).cells ({ frames := 0, cells := 0, slots := 0, locals := 0 } : Room).slots) := by
  refine MetFree.of_bodySF (plainFor_of_name pn_java_lang_String) hisR ?_
  intro p e s m args below meth c s₁ Bd hml0 hP hK
  obtain ⟨rfl, hZ, hh⟩ := hP
  have hx := Bd.exec
  have hby := Bd.bytes
  have hml : c.maxLocals = 1 := hml0
  have hown : s.vm.findClass "java/lang/String" = some m.cls := findClass_of_methodNamed Bd.named
  have hnm := (name_of_methodNamed Bd.named Bd.method).1
  have X0 : Stand p l e ({ frames := 0, cells := 0, slots := 0, locals := 0 } : Room) s m #[(.ref a1)] below meth c s₁ [] 0 0 := Stand.of_body Bd
  have e0 : s₁.heap = h0 := by rw [← hh, Bd.state]; rfl
  have N0 := Fr.nil n0
  refine own_fw (A' := (s₁.setTop (mkF m 0 #[.val (.ref a1)] []))) (fun t k => castTop (ef_rmLat m a1) k) ?_
  obtain ⟨T1, X1, e1, st1⟩ := getS2 X0 hx hZ hown (host := "") (Or.inl (hw _ (List.mem_of_getElem? (i := 22) rfl))) Via.refl e0 P1 (g := (mkF m 0 #[.val (.ref a1)] [])) rfl (hb hby d_jdk_42_method_154_code_0)
  refine own_fw (A' := (T1.setTop (mkF m 3 #[.val (.ref a1)] [(.int cs)]))) (fun t k => st1 _ k) ?_
  refine own_fw (A' := (T1.setTop (mkF m 6 #[.val (.ref a1)] []))) (fun t k => XS.ifNo X1.here hx rfl (hb hby d_jdk_42_method_154_code_3) rfl (XT.i0_eq_f hcs) k) ?_
  refine own_fw (A' := (T1.setTop (mkF m 7 #[.val (.ref a1)] [(.ref a1)]))) (fun t k => XS.aloadN X1.here hx rfl (hb hby d_jdk_42_method_154_code_6) rfl rfl k) ?_
  obtain ⟨T2, X2, e2, st2⟩ := getF X1 hx hZ hown (host := "") (Or.inl (hw _ (List.mem_of_getElem? (i := 23) rfl))) Via.refl e1 P0 (g := (mkF m 7 #[.val (.ref a1)] [(.ref a1)])) rfl rfl (hb hby d_jdk_42_method_154_code_7)
  refine own_fw (A' := (T2.setTop (mkF m 10 #[.val (.ref a1)] [(.int (0 : Int32))]))) (fun t k => st2 _ k) ?_
  refine own_fw (A' := (T2.setTop (mkF m 13 #[.val (.ref a1)] []))) (fun t k => XS.ifNo X2.here hx rfl (hb hby d_jdk_42_method_154_code_10) rfl (XT.i0_ne_f rfl) k) ?_
  refine own_fw (A' := (T2.setTop (mkF m 14 #[.val (.ref a1)] [(.int (1 : Int32))]))) (fun t k => XS.iconst X2.here hx rfl (hb hby d_jdk_42_method_154_code_13) k) ?_
  refine own_fw (A' := (T2.setTop (mkF m 18 #[.val (.ref a1)] [(.int (1 : Int32))]))) (fun t k => XS.goto X2.here hx rfl (pc0 := 14) (pc' := 18) rfl (hb hby d_jdk_42_method_154_code_14) (by decide) (by decide) k) ?_
  obtain ⟨fs, hr, hrun, hended, hW, hsame⟩ := X2.leave (v := some (.int (1 : Int32))) (fun h => by rw [Bd.returns] at h; cases h)
  refine ⟨_, _, ?_, hrun, hended, _, _, rfl, ?_, ⟨_, rfl⟩, hW, hsame.mono (by decide) (by decide)⟩
  · exact retOut X2 hx Bd.returns rfl (Or.inl ⟨rfl, by simp, _, rfl⟩) (hb hby d_jdk_42_method_154_code_18) hr
  · show Q_rmLat Z a1 cs h0 n0 _ T2.heap _
    rw [e2]
    exact ⟨rfl, N0, rfl⟩
theorem pn_java_lang_StringLatin1 : plainName "java/lang/StringLatin1" = true := by first | (simp [plainName, overriddenIn]; done) | decide +kernel
theorem d_jdk_43_method_2_code_0 : decode jdk_43_method_2_code 0 = .ok (.iload_n 1, 1) := by decide +kernel
theorem d_jdk_43_method_2_code_1 : decode jdk_43_method_2_code 1 = .ok (.aload_n 0, 1) := by decide +kernel
theorem d_jdk_43_method_2_code_2 : decode jdk_43_method_2_code 2 = .ok (.arraylength, 1) := by decide +kernel
theorem d_jdk_43_method_2_code_3 : decode jdk_43_method_2_code 3 = .ok (.invokestatic 9, 3) := by decide +kernel
theorem pd__II_V : parseMethodDescriptor "(II)V" = some ⟨[.int, .int], none⟩ := by decide +kernel
theorem d_jdk_43_method_2_code_6 : decode jdk_43_method_2_code 6 = .ok (.aload_n 0, 1) := by decide +kernel
theorem d_jdk_43_method_2_code_7 : decode jdk_43_method_2_code 7 = .ok (.iload_n 1, 1) := by decide +kernel
theorem d_jdk_43_method_2_code_8 : decode jdk_43_method_2_code 8 = .ok (.baload, 1) := by decide +kernel
theorem d_jdk_43_method_2_code_9 : decode jdk_43_method_2_code 9 = .ok (.sipush 255, 3) := by decide +kernel
theorem d_jdk_43_method_2_code_12 : decode jdk_43_method_2_code 12 = .ok (.iand, 1) := by decide +kernel
theorem d_jdk_43_method_2_code_13 : decode jdk_43_method_2_code 13 = .ok (.i2c, 1) := by decide +kernel
theorem d_jdk_43_method_2_code_14 : decode jdk_43_method_2_code 14 = .ok (.ireturn, 1) := by decide +kernel
theorem ef_rmLch (m : MethodId) (b1 : Addr) (p1 : Int32) : entryFrame m #[(.ref b1), (.int p1)] 2 = mkF m 0 #[.val (.ref b1), .val (.int p1)] [] := by first | (simp [entryFrame, mkF, argsToLocals, Value.category]; done) | rfl
def Q_rmLch (Z : State) (b1 : Addr) (k1 : ClassId) (p1 : Int32) (sv : Value) (h0 : Heap) (n0 : Nat) (v : Option Value) (h : Heap) (L : List Loc) : Prop := v = some (.int (own_cl (own_el p1))) ∧ Fr n0 L ∧ h = h0
set_option maxRecDepth 65536 in
set_option maxHeartbeats 40000000 in
theorem rmLch (l : Launch) (Z : State) (a0 : Array Value) (hw : ∀ d ∈ tables_1, d.before a0 Z = true) (ws : List Jvm.Cond) (b1 : Addr) (k1 : ClassId) (p1 : Int32) (sv : Value) (h0 : Heap) (n0 : Nat) (Z0 : n0 ≤ h0.size) (P0 : Arv Z h0 b1 k1 .byte (37 : Int32) [(.int (97 : Int32)), (.int (98 : Int32)), (.int (99 : Int32)), (.int (100 : Int32)), (.int (101 : Int32)), (.int (102 : Int32)), (.int (103 : Int32)), (.int (104 : Int32)), (.int (105 : Int32)), (.int (106 : Int32)), (.int (107 : Int32)), (.int (108 : Int32)), (.int (109 : Int32)), (.int (110 : Int32)), (.int (111 : Int32)), (.int (112 : Int32)), (.int (113 : Int32)), (.int (114 : Int32)), (.int (115 : Int32)), (.int (116 : Int32)), (.int (117 : Int32)), (.int (118 : Int32)), (.int (119 : Int32)), (.int (120 : Int32)), (.int (121 : Int32)), (.int (122 : Int32)), (.int (48 : Int32)), (.int (49 : Int32)), (.int (50 : Int32)), (.int (51 : Int32)), (.int (52 : Int32)), (.int (53 : Int32)), (.int (54 : Int32)), (.int (55 : Int32)), (.int (56 : Int32)), (.int (57 : Int32)), (.int (45 : Int32))] (.int (0 : Int32))) (P1 : Sta Z h0 "jdk/internal/util/Preconditions" "SIOOBE_FORMATTER" "Ljava/util/function/BiFunction;" sv) (hsv : sv.isRef = true) (u0 : ¬ (p1 < (0 : Int32))) (u1 : p1 < (37 : Int32)) :
    MetFree l (⟨"java/lang/StringLatin1", "charAt", "([BI)C"⟩ : MethodName) (head1 (Jvm.Cond.code (⟨"java/lang/StringLatin1", "charAt", "([BI)C"⟩ : MethodName) jdk_43_method_2_code 2 (some .char) :: ws) ({ frames := 2, cells := 0, slots := 0, locals := 27 } : Room)) (fun a U => a = #[(.ref b1), (.int p1)] ∧ Z.Warmed39 U.vm ∧ U.heap = h0) (fun _ _ _ _ _ => True) (fun _ U o U' => ∃ v L, o = .returned v ∧ Q_rmLch Z b1 k1 p1 sv h0 n0 v U'.heap L ∧ FrameEnd U o U' L ({ frames := 2, cells := 0, slots := 0, locals := 27 } : Room).cells ({ frames := 2, cells := 0, slots := 0, locals := 27 } : Room).slots) := by
  refine MetFree.of_bodySF (plainFor_of_name pn_java_lang_StringLatin1) hisR ?_
  intro p e s m args below meth c s₁ Bd hml0 hP hK
  obtain ⟨rfl, hZ, hh⟩ := hP
  have hx := Bd.exec
  have hby := Bd.bytes
  have hml : c.maxLocals = 2 := hml0
  have hown : s.vm.findClass "java/lang/StringLatin1" = some m.cls := findClass_of_methodNamed Bd.named
  have hnm := (name_of_methodNamed Bd.named Bd.method).1
  have X0 : Stand p l e ({ frames := 2, cells := 0, slots := 0, locals := 27 } : Room) s m #[(.ref b1), (.int p1)] below meth c s₁ [] 0 0 := Stand.of_body Bd
  have e0 : s₁.heap = h0 := by rw [← hh, Bd.state]; rfl
  have N0 := Fr.nil n0
  refine own_fw (A' := (s₁.setTop (mkF m 0 #[.val (.ref b1), .val (.int p1)] []))) (fun t k => castTop (ef_rmLch m b1 p1) k) ?_
  refine own_fw (A' := (s₁.setTop (mkF m 1 #[.val (.ref b1), .val (.int p1)] [(.int p1)]))) (fun t k => XS.iloadN X0.here hx rfl (hb hby d_jdk_43_method_2_code_0) rfl k) ?_
  refine own_fw (A' := (s₁.setTop (mkF m 2 #[.val (.ref b1), .val (.int p1)] [(.ref b1), (.int p1)]))) (fun t k => XS.aloadN X0.here hx rfl (hb hby d_jdk_43_method_2_code_1) rfl rfl k) ?_
  obtain ⟨cl1, Ar1, q1, S1, M1, H1, G1⟩ := id P0
  refine own_fw (A' := (s₁.setTop (mkF m 3 #[.val (.ref b1), .val (.int p1)] [(.int (37 : Int32)), (.int p1)]))) (fun t k => X0.arraylength hx (by rw [e0]; exact Ar1.1) (State.isArrayOf_alike hZ.alike Ar1.2.1) (g := (mkF m 2 #[.val (.ref b1), .val (.int p1)] [(.ref b1), (.int p1)])) rfl rfl (hb hby d_jdk_43_method_2_code_2) _ (by rw [len_of S1 M1]; exact k)) ?_
  obtain ⟨_, _, ⟨T2, L2, k2, n2⟩, -, X2, ⟨Lc2, hQ2, l2, y2, z2⟩, st2⟩ := Jvm.LawKit.callS X0 hx (y := (⟨"java/lang/String", "checkIndex", "(II)V"⟩ : MethodName)) hown (mvT hZ (hw _ (List.mem_of_getElem? (i := 29) rfl))) (mvT hZ (hw _ (List.mem_of_getElem? (i := 30) rfl))) (mvT hZ (hw _ (List.mem_of_getElem? (i := 5) rfl))) (mvT hZ (hw _ (List.mem_of_getElem? (i := 31) rfl))) (by decide) (backOf (W := 0) (rmCk l Z a0 hw [] p1 (37 : Int32) sv h0 n0 Z0 P1 hsv u0 u1) hZ (hw _ (List.mem_of_getElem? (i := 31) rfl)) (hw _ (List.mem_of_getElem? (i := 5) rfl)) (by decide) (by decide)) (g := (mkF m 3 #[.val (.ref b1), .val (.int p1)] [(.int (37 : Int32)), (.int p1)])) rfl (by rw [hml]; rfl) (argsL := [(.int p1), (.int (37 : Int32))]) (rest := []) (lenOf pd__II_V rfl) rfl (by show 2 * 0 + _ ≤ _; exact Nat.le_of_eq rfl) (hb hby d_jdk_43_method_2_code_3) (fun _ _ => ⟨rfl, e0, (by decide : 0 + 0 ≤ _), (by decide : 0 + 0 ≤ _)⟩)
  dsimp only [Pt.U, Pt.locs, Pt.cells, Pt.slots] at X2 l2 y2 z2 st2 hQ2
  subst l2 y2 z2
  obtain ⟨rfl, Nq2, e2⟩ := hQ2
  have Nf2 := Fr.app N0 Nq2
  refine own_fw (A' := (T2.setTop (mkF m 6 #[.val (.ref b1), .val (.int p1)] []))) (fun t k => st2 _ k) ?_
  refine own_fw (A' := (T2.setTop (mkF m 7 #[.val (.ref b1), .val (.int p1)] [(.ref b1)]))) (fun t k => XS.aloadN X2.here hx rfl (hb hby d_jdk_43_method_2_code_6) rfl rfl k) ?_
  refine own_fw (A' := (T2.setTop (mkF m 8 #[.val (.ref b1), .val (.int p1)] [(.int p1), (.ref b1)]))) (fun t k => XS.iloadN X2.here hx rfl (hb hby d_jdk_43_method_2_code_7) rfl k) ?_
  obtain ⟨cl3, Ar3, q3, S3, M3, H3, G3⟩ := id P0
  have hin3 : ¬ (p1 < 0 ∨ cl3.slots.size ≤ (p1).toNatClampNeg) := inb_of S3 ⟨u0, u1⟩
  have hat3 : cl3.slots[(p1).toNatClampNeg]? = some (.int (own_el p1)) := H3.at hin3 (own_mapD own_tx _)
  refine own_fw (A' := (T2.setTop (mkF m 9 #[.val (.ref b1), .val (.int p1)] [(.int (own_el p1))]))) (fun t k => X2.baloadBytes hx (j := p1) (v := (.int (own_el p1))) (by rw [e2]; exact Ar3.1) (State.isArrayOf_alike hZ.alike Ar3.2.1) Ar3.2.2 hin3 hat3 (g := (mkF m 8 #[.val (.ref b1), .val (.int p1)] [(.int p1), (.ref b1)])) rfl rfl (hb hby d_jdk_43_method_2_code_8) _ k) ?_
  refine own_fw (A' := (T2.setTop (mkF m 12 #[.val (.ref b1), .val (.int p1)] [(.int (255 : Int32)), (.int (own_el p1))]))) (fun t k => XS.sipush X2.here hx rfl (hb hby d_jdk_43_method_2_code_9) k) ?_
  refine own_fw (A' := (T2.setTop (mkF m 13 #[.val (.ref b1), .val (.int p1)] [(.int ((own_el p1) &&& (255 : Int32)))]))) (fun t k => XS.iand X2.here hx rfl (hb hby d_jdk_43_method_2_code_12) rfl k) ?_
  refine own_fw (A' := (T2.setTop (mkF m 14 #[.val (.ref b1), .val (.int p1)] [(.int (((own_el p1) &&& (255 : Int32)).toUInt32.toUInt16.toUInt32.toInt32))]))) (fun t k => XS.i2c X2.here hx rfl (hb hby d_jdk_43_method_2_code_13) rfl k) ?_
  obtain ⟨fs, hr, hrun, hended, hW, hsame⟩ := X2.leave (v := some (.int (((own_el p1) &&& (255 : Int32)).toUInt32.toUInt16.toUInt32.toInt32))) (fun h => by rw [Bd.returns] at h; cases h)
  refine ⟨_, _, ?_, hrun, hended, _, _, rfl, ?_, ⟨_, rfl⟩, hW, hsame.mono (by decide) (by decide)⟩
  · exact retOut X2 hx Bd.returns (XT.narrow_c _) (Or.inl ⟨rfl, by simp, _, rfl⟩) (hb hby d_jdk_43_method_2_code_14) hr
  · show Q_rmLch Z b1 k1 p1 sv h0 n0 _ T2.heap _
    rw [e2]
    exact ⟨rfl, Nf2, rfl⟩
theorem d_jdk_42_method_56_code_0 : decode jdk_42_method_56_code 0 = .ok (.aload_n 0, 1) := by decide +kernel
theorem d_jdk_42_method_56_code_1 : decode jdk_42_method_56_code 1 = .ok (.invokevirtual 492, 3) := by decide +kernel
theorem pd___Z : parseMethodDescriptor "()Z" = some ⟨[], some .boolean⟩ := by decide +kernel
theorem d_jdk_42_method_56_code_4 : decode jdk_42_method_56_code 4 = .ok (.ifCond .eq 12, 3) := by decide +kernel
theorem d_jdk_42_method_56_code_7 : decode jdk_42_method_56_code 7 = .ok (.aload_n 0, 1) := by decide +kernel
theorem d_jdk_42_method_56_code_8 : decode jdk_42_method_56_code 8 = .ok (.getfield 9, 3) := by decide +kernel
theorem d_jdk_42_method_56_code_11 : decode jdk_42_method_56_code 11 = .ok (.iload_n 1, 1) := by decide +kernel
theorem d_jdk_42_method_56_code_12 : decode jdk_42_method_56_code 12 = .ok (.invokestatic 495, 3) := by decide +kernel
theorem pd___BI_C : parseMethodDescriptor "([BI)C" = some ⟨[(.array .byte), .int], some .char⟩ := by decide +kernel
theorem d_jdk_42_method_56_code_15 : decode jdk_42_method_56_code 15 = .ok (.ireturn, 1) := by decide +kernel
theorem ef_rmSch (m : MethodId) (a1 : Addr) (p1 : Int32) : entryFrame m #[(.ref a1), (.int p1)] 2 = mkF m 0 #[.val (.ref a1), .val (.int p1)] [] := by first | (simp [entryFrame, mkF, argsToLocals, Value.category]; done) | rfl
def Q_rmSch (Z : State) (a1 : Addr) (b1 : Addr) (k1 : ClassId) (p1 : Int32) (cs : Int32) (sv : Value) (h0 : Heap) (n0 : Nat) (v : Option Value) (h : Heap) (L : List Loc) : Prop := v = some (.int (own_cl (own_el p1))) ∧ Fr n0 L ∧ h = h0
set_option maxRecDepth 65536 in
set_option maxHeartbeats 40000000 in
theorem rmSch (l : Launch) (Z : State) (a0 : Array Value) (hw : ∀ d ∈ tables_1, d.before a0 Z = true) (ws : List Jvm.Cond) (a1 : Addr) (b1 : Addr) (k1 : ClassId) (p1 : Int32) (cs : Int32) (sv : Value) (h0 : Heap) (n0 : Nat) (Z0 : n0 ≤ h0.size) (P0 : Exa Z h0 a1 "java/lang/String") (P1 : Fld Z h0 a1 "java/lang/String" "coder" "B" (.int (0 : Int32))) (P2 : Fld Z h0 a1 "java/lang/String" "value" "[B" (.ref b1)) (P3 : Arv Z h0 b1 k1 .byte (37 : Int32) [(.int (97 : Int32)), (.int (98 : Int32)), (.int (99 : Int32)), (.int (100 : Int32)), (.int (101 : Int32)), (.int (102 : Int32)), (.int (103 : Int32)), (.int (104 : Int32)), (.int (105 : Int32)), (.int (106 : Int32)), (.int (107 : Int32)), (.int (108 : Int32)), (.int (109 : Int32)), (.int (110 : Int32)), (.int (111 : Int32)), (.int (112 : Int32)), (.int (113 : Int32)), (.int (114 : Int32)), (.int (115 : Int32)), (.int (116 : Int32)), (.int (117 : Int32)), (.int (118 : Int32)), (.int (119 : Int32)), (.int (120 : Int32)), (.int (121 : Int32)), (.int (122 : Int32)), (.int (48 : Int32)), (.int (49 : Int32)), (.int (50 : Int32)), (.int (51 : Int32)), (.int (52 : Int32)), (.int (53 : Int32)), (.int (54 : Int32)), (.int (55 : Int32)), (.int (56 : Int32)), (.int (57 : Int32)), (.int (45 : Int32))] (.int (0 : Int32))) (P4 : Sta Z h0 "java/lang/String" "COMPACT_STRINGS" "Z" (.int cs)) (hcs : ¬ (cs = (0 : Int32))) (P6 : Sta Z h0 "jdk/internal/util/Preconditions" "SIOOBE_FORMATTER" "Ljava/util/function/BiFunction;" sv) (hsv : sv.isRef = true) (u0 : ¬ (p1 < (0 : Int32))) (u1 : p1 < (37 : Int32)) :
    MetFree l (⟨"java/lang/String", "charAt", "(I)C"⟩ : MethodName) (head1 (Jvm.Cond.code (⟨"java/lang/String", "charAt", "(I)C"⟩ : MethodName) jdk_42_method_56_code 2 (some .char) :: ws) ({ frames := 3, cells := 0, slots := 0, locals := 40 } : Room)) (fun a U => a = #[(.ref a1), (.int p1)] ∧ Z.Warmed39 U.vm ∧ U.heap = h0) (fun _ _ _ _ _ => True) (fun _ U o U' => ∃ v L, o = .returned v ∧ Q_rmSch Z a1 b1 k1 p1 cs sv h0 n0 v U'.heap L ∧ FrameEnd U o U' L ({ frames := 3, cells := 0, slots := 0, locals := 40 } : Room).cells ({ frames := 3, cells := 0, slots := 0, locals := 40 } : Room).slots) := by
  refine MetFree.of_bodySF (plainFor_of_name pn_java_lang_String) hisR ?_
  intro p e s m args below meth c s₁ Bd hml0 hP hK
  obtain ⟨rfl, hZ, hh⟩ := hP
  have hx := Bd.exec
  have hby := Bd.bytes
  have hml : c.maxLocals = 2 := hml0
  have hown : s.vm.findClass "java/lang/String" = some m.cls := findClass_of_methodNamed Bd.named
  have hnm := (name_of_methodNamed Bd.named Bd.method).1
  have X0 : Stand p l e ({ frames := 3, cells := 0, slots := 0, locals := 40 } : Room) s m #[(.ref a1), (.int p1)] below meth c s₁ [] 0 0 := Stand.of_body Bd
  have e0 : s₁.heap = h0 := by rw [← hh, Bd.state]; rfl
  have N0 := Fr.nil n0
  refine own_fw (A' := (s₁.setTop (mkF m 0 #[.val (.ref a1), .val (.int p1)] []))) (fun t k => castTop (ef_rmSch m a1 p1) k) ?_
  refine own_fw (A' := (s₁.setTop (mkF m 1 #[.val (.ref a1), .val (.int p1)] [(.ref a1)]))) (fun t k => XS.aloadN X0.here hx rfl (hb hby d_jdk_42_method_56_code_0) rfl rfl k) ?_
  obtain ⟨cq1, kq1, qa1, qb1, qc1⟩ := isOf hZ e0 P0
  obtain ⟨_, _, ⟨T1, L1, k1, n1⟩, -, X1, ⟨Lc1, hQ1, l1, y1, z1⟩, st1⟩ := X0.virtualBack hx (y := (⟨"java/lang/String", "isLatin1", "()Z"⟩ : MethodName)) (z := (⟨"java/lang/String", "isLatin1", "()Z"⟩ : MethodName)) hown (mvT hZ (hw _ (List.mem_of_getElem? (i := 17) rfl))) (mvT hZ (hw _ (List.mem_of_getElem? (i := 18) rfl))) (notFace_of_selects (args := #[]) (mvT hZ (hw _ (List.mem_of_getElem? (i := 20) rfl)))) (mvT hZ (hw _ (List.mem_of_getElem? (i := 20) rfl))) (mvT hZ (hw _ (List.mem_of_getElem? (i := 19) rfl))) (by decide) (backOf (W := 0) (rmLat l Z a0 hw [] a1 cs h0 n0 Z0 P1 P4 hcs) hZ (hw _ (List.mem_of_getElem? (i := 21) rfl)) (hw _ (List.mem_of_getElem? (i := 5) rfl)) (by decide) (by decide)) qa1 qc1 (g := (mkF m 1 #[.val (.ref a1), .val (.int p1)] [(.ref a1)])) rfl (by rw [hml]; rfl) (Steps.refl _) (argsL := []) (rest := []) (lenOf pd___Z rfl) rfl (by show 2 * 0 + _ ≤ _; exact Nat.le_of_eq rfl) (hb hby d_jdk_42_method_56_code_1) (fun _ _ => ⟨rfl, e0, (by decide : 0 + 0 ≤ _), (by decide : 0 + 0 ≤ _)⟩)
  dsimp only [Pt.U, Pt.locs, Pt.cells, Pt.slots] at X1 l1 y1 z1 st1 hQ1
  subst l1 y1 z1
  obtain ⟨rfl, Nq1, e1⟩ := hQ1
  have Nf1 := Fr.app N0 Nq1
  refine own_fw (A' := (T1.setTop (mkF m 4 #[.val (.ref a1), .val (.int p1)] [(.int (1 : Int32))]))) (fun t k => st1.trans k) ?_
  refine own_fw (A' := (T1.setTop (mkF m 7 #[.val (.ref a1), .val (.int p1)] []))) (fun t k => XS.ifNo X1.here hx rfl (hb hby d_jdk_42_method_56_code_4) rfl (XT.i0_eq_f (by decide)) k) ?_
  refine own_fw (A' := (T1.setTop (mkF m 8 #[.val (.ref a1), .val (.int p1)] [(.ref a1)]))) (fun t k => XS.aloadN X1.here hx rfl (hb hby d_jdk_42_method_56_code_7) rfl rfl k) ?_
  obtain ⟨T2, X2, e2, st2⟩ := getF X1 hx hZ hown (host := "") (Or.inl (hw _ (List.mem_of_getElem? (i := 24) rfl))) Via.refl e1 P2 (g := (mkF m 8 #[.val (.ref a1), .val (.int p1)] [(.ref a1)])) rfl rfl (hb hby d_jdk_42_method_56_code_8)
  refine own_fw (A' := (T2.setTop (mkF m 11 #[.val (.ref a1), .val (.int p1)] [(.ref b1)]))) (fun t k => st2 _ k) ?_
  refine own_fw (A' := (T2.setTop (mkF m 12 #[.val (.ref a1), .val (.int p1)] [(.int p1), (.ref b1)]))) (fun t k => XS.iloadN X2.here hx rfl (hb hby d_jdk_42_method_56_code_11) rfl k) ?_
  obtain ⟨_, _, ⟨T3, L3, k3, n3⟩, -, X3, ⟨Lc3, hQ3, l3, y3, z3⟩, st3⟩ := Jvm.LawKit.callS X2 hx (y := (⟨"java/lang/StringLatin1", "charAt", "([BI)C"⟩ : MethodName)) hown (mvT hZ (hw _ (List.mem_of_getElem? (i := 25) rfl))) (mvT hZ (hw _ (List.mem_of_getElem? (i := 26) rfl))) (mvT hZ (hw _ (List.mem_of_getElem? (i := 27) rfl))) (mvT hZ (hw _ (List.mem_of_getElem? (i := 28) rfl))) (by decide) (backOf (W := 0) (rmLch l Z a0 hw [] b1 k1 p1 sv h0 n0 Z0 P3 P6 hsv u0 u1) hZ (hw _ (List.mem_of_getElem? (i := 28) rfl)) (hw _ (List.mem_of_getElem? (i := 27) rfl)) (by decide) (by decide)) (g := (mkF m 12 #[.val (.ref a1), .val (.int p1)] [(.int p1), (.ref b1)])) rfl (by rw [hml]; rfl) (argsL := [(.ref b1), (.int p1)]) (rest := []) (lenOf pd___BI_C rfl) rfl (by show 2 * 0 + _ ≤ _; exact Nat.le_of_eq rfl) (hb hby d_jdk_42_method_56_code_12) (fun _ _ => ⟨rfl, e2, (by decide : 0 + 0 ≤ _), (by decide : 0 + 0 ≤ _)⟩)
  dsimp only [Pt.U, Pt.locs, Pt.cells, Pt.slots] at X3 l3 y3 z3 st3 hQ3
  subst l3 y3 z3
  obtain ⟨rfl, Nq3, e3⟩ := hQ3
  have Nf3 := Fr.app Nf1 Nq3
  refine own_fw (A' := (T3.setTop (mkF m 15 #[.val (.ref a1), .val (.int p1)] [(.int (own_cl (own_el p1)))]))) (fun t k => st3 _ k) ?_
  obtain ⟨fs, hr, hrun, hended, hW, hsame⟩ := X3.leave (v := some (.int (own_cl (own_el p1)))) (fun h => by rw [Bd.returns] at h; cases h)
  refine ⟨_, _, ?_, hrun, hended, _, _, rfl, ?_, ⟨_, rfl⟩, hW, hsame.mono (by decide) (by decide)⟩
  · exact retOut X3 hx Bd.returns (XT.narrow_c _) (Or.inl ⟨rfl, by simp, _, rfl⟩) (hb hby d_jdk_42_method_56_code_15) hr
  · show Q_rmSch Z a1 b1 k1 p1 cs sv h0 n0 _ T3.heap _
    rw [e3]
    exact ⟨rfl, Nf3, rfl⟩
theorem pn_com_example_log_to_isles_logtoisles_model_NodeNameFollowsPinLaw : plainName "com/example/log_to_isles/logtoisles/model/NodeNameFollowsPinLaw" = true := by first | (simp [plainName, overriddenIn]; done) | decide +kernel
theorem d_method_2_code_0 : decode method_2_code 0 = .ok (.iload_n 0, 1) := by decide +kernel
theorem d_method_2_code_1 : decode method_2_code 1 = .ok (.sipush 255, 3) := by decide +kernel
theorem d_method_2_code_4 : decode method_2_code 4 = .ok (.iand, 1) := by decide +kernel
theorem d_method_2_code_5 : decode method_2_code 5 = .ok (.istore_n 2, 1) := by decide +kernel
theorem d_method_2_code_6 : decode method_2_code 6 = .ok (.iload_n 1, 1) := by decide +kernel
theorem d_method_2_code_7 : decode method_2_code 7 = .ok (.ifCond .eq 6, 3) := by decide +kernel
theorem d_method_2_code_13 : decode method_2_code 13 = .ok (.ldc 7, 2) := by decide +kernel
theorem d_method_2_code_15 : decode method_2_code 15 = .ok (.iload_n 2, 1) := by decide +kernel
theorem d_method_2_code_16 : decode method_2_code 16 = .ok (.bipush 37, 2) := by decide +kernel
theorem d_method_2_code_18 : decode method_2_code 18 = .ok (.irem, 1) := by decide +kernel
theorem d_method_2_code_19 : decode method_2_code 19 = .ok (.invokevirtual 9, 3) := by decide +kernel
theorem pd__I_C : parseMethodDescriptor "(I)C" = some ⟨[.int], some .char⟩ := by decide +kernel
theorem d_method_2_code_22 : decode method_2_code 22 = .ok (.i2b, 1) := by decide +kernel
theorem d_method_2_code_23 : decode method_2_code 23 = .ok (.ireturn, 1) := by decide +kernel
theorem d_method_2_code_10 : decode method_2_code 10 = .ok (.iload_n 2, 1) := by decide +kernel
theorem d_method_2_code_11 : decode method_2_code 11 = .ok (.i2b, 1) := by decide +kernel
theorem d_method_2_code_12 : decode method_2_code 12 = .ok (.ireturn, 1) := by decide +kernel
theorem ef_rmPick (m : MethodId) (p1 : Int32) (p2 : Int32) : entryFrame m #[(.int p1), (.int p2)] 3 = mkF m 0 #[.val (.int p1), .val (.int p2), .unset] [] := by first | (simp [entryFrame, mkF, argsToLocals, Value.category]; done) | rfl
def Q_rmPick (Z : State) (p1 : Int32) (p2 : Int32) (cs : Int32) (sv : Value) (h0 : Heap) (n0 : Nat) (v : Option Value) (h : Heap) (L : List Loc) : Prop := ∃ r : Int32, v = some (.int r) ∧ Fr n0 L ∧ Keep h0 h [] ∧ (own_b8 r)
set_option maxRecDepth 65536 in
set_option maxHeartbeats 40000000 in
theorem rmPick (l : Launch) (Z : State) (a0 : Array Value) (hw : ∀ d ∈ tables_1, d.before a0 Z = true) (ws : List Jvm.Cond) (p1 : Int32) (p2 : Int32) (cs : Int32) (sv : Value) (h0 : Heap) (n0 : Nat) (Z0 : n0 ≤ h0.size) (P0 : Sta Z h0 "java/lang/String" "COMPACT_STRINGS" "Z" (.int cs)) (hcs : ¬ (cs = (0 : Int32))) (P2 : Sta Z h0 "jdk/internal/util/Preconditions" "SIOOBE_FORMATTER" "Ljava/util/function/BiFunction;" sv) (hsv : sv.isRef = true) :
    MetFree l (⟨"com/example/log_to_isles/logtoisles/model/NodeNameFollowsPinLaw", "pick", "(IZ)B"⟩ : MethodName) (head1 (Jvm.Cond.code (⟨"com/example/log_to_isles/logtoisles/model/NodeNameFollowsPinLaw", "pick", "(IZ)B"⟩ : MethodName) method_2_code 3 (some .byte) :: ws) ({ frames := 4, cells := 2, slots := 152, locals := 53 } : Room)) (fun a U => a = #[(.int p1), (.int p2)] ∧ Z.Warmed39 U.vm ∧ U.heap = h0 ∧ CHv Z own_EL U.vm h0) (fun _ _ _ _ _ => True) (fun _ U o U' => ∃ v L, o = .returned v ∧ Q_rmPick Z p1 p2 cs sv h0 n0 v U'.heap L ∧ CHr Z own_EL U.vm U.heap U'.vm U'.heap ∧ ∃ kk nn, ReturnedEndW U o U' L kk nn ∧ own_grew U.vm U'.vm kk nn) := by
  refine MetFree.of_bodySF (plainFor_of_name pn_com_example_log_to_isles_logtoisles_model_NodeNameFollowsPinLaw) hisR ?_
  intro p e s m args below meth c s₁ Bd hml0 hP hK
  obtain ⟨rfl, hZ, hh, hH⟩ := hP
  have hx := Bd.exec
  have hby := Bd.bytes
  have hml : c.maxLocals = 3 := hml0
  have hown : s.vm.findClass "com/example/log_to_isles/logtoisles/model/NodeNameFollowsPinLaw" = some m.cls := findClass_of_methodNamed Bd.named
  have hnm := (name_of_methodNamed Bd.named Bd.method).1
  have X0 : Stand p l e ({ frames := 4, cells := 2, slots := 152, locals := 53 } : Room) (s.setVm s.vm) m #[(.int p1), (.int p2)] below meth c s₁ [] 0 0 := Stand.of_body Bd
  have e0 : s₁.heap = h0 := by rw [← hh, Bd.state]; rfl
  have N0 := Fr.nil n0
  refine own_fw (A' := (s₁.setTop (mkF m 0 #[.val (.int p1), .val (.int p2), .unset] []))) (fun t k => castTop (ef_rmPick m p1 p2) k) ?_
  have hS : s.Since s.vm h0.size := (State.WarmedH.refl s).since _
  have hk : h0.size ≤ h0.size := Nat.le_refl _
  have hC : CHr Z own_EL s.vm h0 s.vm h0 := CHr.refl hH
  refine own_fw (A' := (s₁.setTop (mkF m 1 #[.val (.int p1), .val (.int p2), .unset] [(.int p1)]))) (fun t k => XS.iloadN X0.here hx rfl (hb hby d_method_2_code_0) rfl k) ?_
  refine own_fw (A' := (s₁.setTop (mkF m 4 #[.val (.int p1), .val (.int p2), .unset] [(.int (255 : Int32)), (.int p1)]))) (fun t k => XS.sipush X0.here hx rfl (hb hby d_method_2_code_1) k) ?_
  refine own_fw (A' := (s₁.setTop (mkF m 5 #[.val (.int p1), .val (.int p2), .unset] [(.int (p1 &&& (255 : Int32)))]))) (fun t k => XS.iand X0.here hx rfl (hb hby d_method_2_code_4) rfl k) ?_
  refine own_fw (A' := (s₁.setTop (mkF m 6 #[.val (.int p1), .val (.int p2), .val (.int (p1 &&& (255 : Int32)))] []))) (fun t k => XS.istoreN X0.here hx rfl (hb hby d_method_2_code_5) rfl (l' := #[.val (.int p1), .val (.int p2), .val (.int (p1 &&& (255 : Int32)))]) rfl k) ?_
  refine own_fw (A' := (s₁.setTop (mkF m 7 #[.val (.int p1), .val (.int p2), .val (.int (p1 &&& (255 : Int32)))] [(.int p2)]))) (fun t k => XS.iloadN X0.here hx rfl (hb hby d_method_2_code_6) rfl k) ?_
  by_cases hc1 : p2 = (0 : Int32)
  · refine own_fw (A' := (s₁.setTop (mkF m 13 #[.val (.int p1), .val (.int p2), .val (.int (p1 &&& (255 : Int32)))] []))) (fun t k => XS.ifYes X0.here hx rfl (pc0 := 7) (pc' := 13) rfl (hb hby d_method_2_code_7) rfl (XT.i0_eq_t hc1) (by decide) (by decide) k) ?_
    by_cases hc2 : own_res s.vm
    · obtain ⟨sa3, Lt3⟩ := hc2
      obtain ⟨sb3, kk3, SE3, SC3, SV3, SA3, st3⟩ := own_ldcR X0 hx hZ hown (hw _ (List.mem_of_getElem? (i := 4) rfl)) (own_EW hw) (List.mem_of_getElem? (i := 0) rfl) hH (Lt3 s) (vs := [(.int (97 : Int32)), (.int (98 : Int32)), (.int (99 : Int32)), (.int (100 : Int32)), (.int (101 : Int32)), (.int (102 : Int32)), (.int (103 : Int32)), (.int (104 : Int32)), (.int (105 : Int32)), (.int (106 : Int32)), (.int (107 : Int32)), (.int (108 : Int32)), (.int (109 : Int32)), (.int (110 : Int32)), (.int (111 : Int32)), (.int (112 : Int32)), (.int (113 : Int32)), (.int (114 : Int32)), (.int (115 : Int32)), (.int (116 : Int32)), (.int (117 : Int32)), (.int (118 : Int32)), (.int (119 : Int32)), (.int (120 : Int32)), (.int (121 : Int32)), (.int (122 : Int32)), (.int (48 : Int32)), (.int (49 : Int32)), (.int (50 : Int32)), (.int (51 : Int32)), (.int (52 : Int32)), (.int (53 : Int32)), (.int (54 : Int32)), (.int (55 : Int32)), (.int (56 : Int32)), (.int (57 : Int32)), (.int (45 : Int32))]) (z := (37 : Int32)) ⟨by decide, rfl⟩ (by decide) (by decide) (g := (mkF m 13 #[.val (.int p1), .val (.int p2), .val (.int (p1 &&& (255 : Int32)))] [])) rfl (hb hby d_method_2_code_13)
      refine own_fw (A' := (s₁.setTop (mkF m 15 #[.val (.int p1), .val (.int p2), .val (.int (p1 &&& (255 : Int32)))] [(.ref sa3)]))) (fun t k => st3 _ k) ?_
      refine own_fw (A' := (s₁.setTop (mkF m 16 #[.val (.int p1), .val (.int p2), .val (.int (p1 &&& (255 : Int32)))] [(.int (p1 &&& (255 : Int32))), (.ref sa3)]))) (fun t k => XS.iloadN X0.here hx rfl (hb hby d_method_2_code_15) rfl k) ?_
      refine own_fw (A' := (s₁.setTop (mkF m 18 #[.val (.int p1), .val (.int p2), .val (.int (p1 &&& (255 : Int32)))] [(.int (37 : Int32)), (.int (p1 &&& (255 : Int32))), (.ref sa3)]))) (fun t k => XS.bipush X0.here hx rfl (hb hby d_method_2_code_16) k) ?_
      refine own_fw (A' := (s₁.setTop (mkF m 19 #[.val (.int p1), .val (.int p2), .val (.int (p1 &&& (255 : Int32)))] [(.int ((p1 &&& (255 : Int32)) % (37 : Int32))), (.ref sa3)]))) (fun t k => iremM X0 hx rfl (hb hby d_method_2_code_18) rfl (by decide) k) ?_
      obtain ⟨cq4, kq4, qa4, qb4, qc4⟩ := isOf hZ e0 SE3
      obtain ⟨_, _, ⟨T4, L4, k4, n4⟩, -, X4, ⟨Lc4, hQ4, l4, y4, z4⟩, st4⟩ := X0.virtualBack hx (y := (⟨"java/lang/String", "charAt", "(I)C"⟩ : MethodName)) (z := (⟨"java/lang/String", "charAt", "(I)C"⟩ : MethodName)) hown (mvT hZ (hw _ (List.mem_of_getElem? (i := 12) rfl))) (mvT hZ (hw _ (List.mem_of_getElem? (i := 13) rfl))) (notFace_of_selects (args := #[]) (mvT hZ (hw _ (List.mem_of_getElem? (i := 15) rfl)))) (mvT hZ (hw _ (List.mem_of_getElem? (i := 15) rfl))) (mvT hZ (hw _ (List.mem_of_getElem? (i := 14) rfl))) (by decide) (backOf (W := 0) (rmSch l Z a0 hw [] sa3 sb3 kk3 ((p1 &&& (255 : Int32)) % (37 : Int32)) cs sv h0 n0 Z0 SE3 SC3 SV3 SA3 P0 hcs P2 hsv (own_ix p1).1 (own_ix p1).2) hZ (hw _ (List.mem_of_getElem? (i := 16) rfl)) (hw _ (List.mem_of_getElem? (i := 5) rfl)) (by decide) (by decide)) qa4 qc4 (g := (mkF m 19 #[.val (.int p1), .val (.int p2), .val (.int (p1 &&& (255 : Int32)))] [(.int ((p1 &&& (255 : Int32)) % (37 : Int32))), (.ref sa3)])) rfl (by rw [hml]; rfl) (Steps.refl _) (argsL := [(.int ((p1 &&& (255 : Int32)) % (37 : Int32)))]) (rest := []) (lenOf pd__I_C rfl) rfl (by show 2 * 0 + _ ≤ _; exact Nat.le_of_eq rfl) (hb hby d_method_2_code_19) (fun _ _ => ⟨rfl, e0, (by decide : 0 + 0 ≤ _), (by decide : 0 + 0 ≤ _)⟩)
      dsimp only [Pt.U, Pt.locs, Pt.cells, Pt.slots] at X4 l4 y4 z4 st4 hQ4
      subst l4 y4 z4
      obtain ⟨rfl, Nq4, e4⟩ := hQ4
      have Nf4 := Fr.app N0 Nq4
      refine own_fw (A' := (T4.setTop (mkF m 22 #[.val (.int p1), .val (.int p2), .val (.int (p1 &&& (255 : Int32)))] [(.int (own_cl (own_el ((p1 &&& (255 : Int32)) % (37 : Int32)))))]))) (fun t k => st4.trans k) ?_
      refine own_fw (A' := (T4.setTop (mkF m 23 #[.val (.int p1), .val (.int p2), .val (.int (p1 &&& (255 : Int32)))] [(.int ((own_cl (own_el ((p1 &&& (255 : Int32)) % (37 : Int32)))).toInt8.toInt32))]))) (fun t k => XS.i2b X4.here hx rfl (hb hby d_method_2_code_22) rfl k) ?_
      obtain ⟨fs, hr, hrun, hended, hWE⟩ := X4.leaveW hS (by rw [e4]; exact hk : _ ≤ T4.heap.size) (v := some (.int ((own_cl (own_el ((p1 &&& (255 : Int32)) % (37 : Int32)))).toInt8.toInt32))) (fun h => by rw [Bd.returns] at h; cases h)
      have hCE : CHr Z own_EL s.vm s.heap (T4.setFrames fs).vm (T4.setFrames fs).heap := by rw [hh]; show CHr Z own_EL s.vm h0 T4.vm T4.heap; rw [e4]; exact hC.trans (CHv.at X4 hZ (own_EW hw) hH)
      refine ⟨_, _, ?_, hrun, hended, _, _, rfl, ?_, hCE, _, _, hWE, Or.inl ⟨rfl, rfl⟩⟩
      · exact retOut X4 hx Bd.returns (own_narr8 (own_b8i _)) (Or.inl ⟨rfl, by simp, _, rfl⟩) (hb hby d_method_2_code_23) hr
      · show Q_rmPick Z p1 p2 cs sv h0 n0 _ T4.heap _
        rw [e4]
        exact ⟨((own_cl (own_el ((p1 &&& (255 : Int32)) % (37 : Int32)))).toInt8.toInt32), rfl, Nf4, (Keep.refl h0 []), (own_b8i _)⟩
    · obtain ⟨sa5, T5, h5, k5, sb5, kk5, X5, e5, E5, hS, hk, hZ', hown, SE5, SC5, SV5, SA5, -, -, r5, Lt5, sn5, st5⟩ := ldcCH X0 hx hZ hown (hw _ (List.mem_of_getElem? (i := 4) rfl)) (own_wS hw) e0 hS hk (own_EW hw) (List.mem_of_getElem? (i := 0) rfl) hH (vs := [(.int (97 : Int32)), (.int (98 : Int32)), (.int (99 : Int32)), (.int (100 : Int32)), (.int (101 : Int32)), (.int (102 : Int32)), (.int (103 : Int32)), (.int (104 : Int32)), (.int (105 : Int32)), (.int (106 : Int32)), (.int (107 : Int32)), (.int (108 : Int32)), (.int (109 : Int32)), (.int (110 : Int32)), (.int (111 : Int32)), (.int (112 : Int32)), (.int (113 : Int32)), (.int (114 : Int32)), (.int (115 : Int32)), (.int (116 : Int32)), (.int (117 : Int32)), (.int (118 : Int32)), (.int (119 : Int32)), (.int (120 : Int32)), (.int (121 : Int32)), (.int (122 : Int32)), (.int (48 : Int32)), (.int (49 : Int32)), (.int (50 : Int32)), (.int (51 : Int32)), (.int (52 : Int32)), (.int (53 : Int32)), (.int (54 : Int32)), (.int (55 : Int32)), (.int (56 : Int32)), (.int (57 : Int32)), (.int (45 : Int32))]) (z := (37 : Int32)) ⟨by decide, rfl⟩ (by decide) (by decide) (g := (mkF m 13 #[.val (.int p1), .val (.int p2), .val (.int (p1 &&& (255 : Int32)))] [])) rfl (hb hby d_method_2_code_13) (n := 148) (by decide) (by decide) (by decide) (by decide)
      have hC := hC.trans r5
      have hH := hC.1
      have hZ := hZ'
      have K5 : Keep h0 h5 [] := (Keep.refl h0 []).ext E5
      have Z5 : n0 ≤ h5.size := Nat.le_trans Z0 E5.1
      refine own_fw (A' := (T5.setTop (mkF m 15 #[.val (.int p1), .val (.int p2), .val (.int (p1 &&& (255 : Int32)))] [(.ref sa5)]))) (fun t k => st5 _ k) ?_
      refine own_fw (A' := (T5.setTop (mkF m 16 #[.val (.int p1), .val (.int p2), .val (.int (p1 &&& (255 : Int32)))] [(.int (p1 &&& (255 : Int32))), (.ref sa5)]))) (fun t k => XS.iloadN X5.here hx rfl (hb hby d_method_2_code_15) rfl k) ?_
      refine own_fw (A' := (T5.setTop (mkF m 18 #[.val (.int p1), .val (.int p2), .val (.int (p1 &&& (255 : Int32)))] [(.int (37 : Int32)), (.int (p1 &&& (255 : Int32))), (.ref sa5)]))) (fun t k => XS.bipush X5.here hx rfl (hb hby d_method_2_code_16) k) ?_
      refine own_fw (A' := (T5.setTop (mkF m 19 #[.val (.int p1), .val (.int p2), .val (.int (p1 &&& (255 : Int32)))] [(.int ((p1 &&& (255 : Int32)) % (37 : Int32))), (.ref sa5)]))) (fun t k => iremM X5 hx rfl (hb hby d_method_2_code_18) rfl (by decide) k) ?_
      obtain ⟨cq6, kq6, qa6, qb6, qc6⟩ := isOf hZ e5 SE5
      obtain ⟨_, _, ⟨T6, L6, k6, n6⟩, -, X6, ⟨Lc6, hQ6, l6, y6, z6⟩, st6⟩ := X5.virtualBack hx (y := (⟨"java/lang/String", "charAt", "(I)C"⟩ : MethodName)) (z := (⟨"java/lang/String", "charAt", "(I)C"⟩ : MethodName)) hown (mvT hZ (hw _ (List.mem_of_getElem? (i := 12) rfl))) (mvT hZ (hw _ (List.mem_of_getElem? (i := 13) rfl))) (notFace_of_selects (args := #[]) (mvT hZ (hw _ (List.mem_of_getElem? (i := 15) rfl)))) (mvT hZ (hw _ (List.mem_of_getElem? (i := 15) rfl))) (mvT hZ (hw _ (List.mem_of_getElem? (i := 14) rfl))) (by decide) (backOf (W := 0) (rmSch l Z a0 hw [] sa5 sb5 kk5 ((p1 &&& (255 : Int32)) % (37 : Int32)) cs sv h5 n0 Z5 SE5 SC5 SV5 SA5 (P0.ext E5) hcs (P2.ext E5) hsv (own_ix p1).1 (own_ix p1).2) hZ (hw _ (List.mem_of_getElem? (i := 16) rfl)) (hw _ (List.mem_of_getElem? (i := 5) rfl)) (by decide) (by decide)) qa6 qc6 (g := (mkF m 19 #[.val (.int p1), .val (.int p2), .val (.int (p1 &&& (255 : Int32)))] [(.int ((p1 &&& (255 : Int32)) % (37 : Int32))), (.ref sa5)])) rfl (by rw [hml]; rfl) (Steps.refl _) (argsL := [(.int ((p1 &&& (255 : Int32)) % (37 : Int32)))]) (rest := []) (lenOf pd__I_C rfl) rfl (by show 2 * 0 + _ ≤ _; exact Nat.le_of_eq rfl) (hb hby d_method_2_code_19) (fun _ _ => ⟨rfl, e5, (by decide : 2 + 0 ≤ _), (by decide : 152 + 0 ≤ _)⟩)
      dsimp only [Pt.U, Pt.locs, Pt.cells, Pt.slots] at X6 l6 y6 z6 st6 hQ6
      subst l6 y6 z6
      obtain ⟨rfl, Nq6, e6⟩ := hQ6
      have Nf6 := Fr.app N0 Nq6
      refine own_fw (A' := (T6.setTop (mkF m 22 #[.val (.int p1), .val (.int p2), .val (.int (p1 &&& (255 : Int32)))] [(.int (own_cl (own_el ((p1 &&& (255 : Int32)) % (37 : Int32)))))]))) (fun t k => st6.trans k) ?_
      refine own_fw (A' := (T6.setTop (mkF m 23 #[.val (.int p1), .val (.int p2), .val (.int (p1 &&& (255 : Int32)))] [(.int ((own_cl (own_el ((p1 &&& (255 : Int32)) % (37 : Int32)))).toInt8.toInt32))]))) (fun t k => XS.i2b X6.here hx rfl (hb hby d_method_2_code_22) rfl k) ?_
      obtain ⟨fs, hr, hrun, hended, hWE⟩ := X6.leaveW hS (by rw [e6]; exact hk : _ ≤ T6.heap.size) (v := some (.int ((own_cl (own_el ((p1 &&& (255 : Int32)) % (37 : Int32)))).toInt8.toInt32))) (fun h => by rw [Bd.returns] at h; cases h)
      have hCE : CHr Z own_EL s.vm s.heap (T6.setFrames fs).vm (T6.setFrames fs).heap := by rw [hh]; show CHr Z own_EL s.vm h0 T6.vm T6.heap; rw [e6]; exact hC.trans (CHv.at X6 hZ (own_EW hw) hH)
      refine ⟨_, _, ?_, hrun, hended, _, _, rfl, ?_, hCE, _, _, hWE, Or.inr ⟨hc2, own_resOf (Lit.stays (s := s) Lt5 X6.warmed.wide), rfl, rfl⟩⟩
      · exact retOut X6 hx Bd.returns (own_narr8 (own_b8i _)) (Or.inl ⟨rfl, by simp, _, rfl⟩) (hb hby d_method_2_code_23) hr
      · show Q_rmPick Z p1 p2 cs sv h0 n0 _ T6.heap _
        rw [e6]
        exact ⟨((own_cl (own_el ((p1 &&& (255 : Int32)) % (37 : Int32)))).toInt8.toInt32), rfl, Nf6, K5, (own_b8i _)⟩
  · refine own_fw (A' := (s₁.setTop (mkF m 10 #[.val (.int p1), .val (.int p2), .val (.int (p1 &&& (255 : Int32)))] []))) (fun t k => XS.ifNo X0.here hx rfl (hb hby d_method_2_code_7) rfl (XT.i0_eq_f hc1) k) ?_
    refine own_fw (A' := (s₁.setTop (mkF m 11 #[.val (.int p1), .val (.int p2), .val (.int (p1 &&& (255 : Int32)))] [(.int (p1 &&& (255 : Int32)))]))) (fun t k => XS.iloadN X0.here hx rfl (hb hby d_method_2_code_10) rfl k) ?_
    refine own_fw (A' := (s₁.setTop (mkF m 12 #[.val (.int p1), .val (.int p2), .val (.int (p1 &&& (255 : Int32)))] [(.int ((p1 &&& (255 : Int32)).toInt8.toInt32))]))) (fun t k => XS.i2b X0.here hx rfl (hb hby d_method_2_code_11) rfl k) ?_
    obtain ⟨fs, hr, hrun, hended, hWE⟩ := X0.leaveW hS (by rw [e0]; exact hk : _ ≤ s₁.heap.size) (v := some (.int ((p1 &&& (255 : Int32)).toInt8.toInt32))) (fun h => by rw [Bd.returns] at h; cases h)
    have hCE : CHr Z own_EL s.vm s.heap (s₁.setFrames fs).vm (s₁.setFrames fs).heap := by rw [hh]; show CHr Z own_EL s.vm h0 s₁.vm s₁.heap; rw [e0]; exact hC.trans (CHv.at X0 hZ (own_EW hw) hH)
    refine ⟨_, _, ?_, hrun, hended, _, _, rfl, ?_, hCE, _, _, hWE, Or.inl ⟨rfl, rfl⟩⟩
    · exact retOut X0 hx Bd.returns (own_narr8 (own_b8i _)) (Or.inl ⟨rfl, by simp, _, rfl⟩) (hb hby d_method_2_code_12) hr
    · show Q_rmPick Z p1 p2 cs sv h0 n0 _ s₁.heap _
      rw [e0]
      exact ⟨((p1 &&& (255 : Int32)).toInt8.toInt32), rfl, N0, (Keep.refl h0 []), (own_b8i _)⟩
theorem d_method_3_code_0 : decode method_3_code 0 = .ok (.iload_n 0, 1) := by decide +kernel
theorem d_method_3_code_1 : decode method_3_code 1 = .ok (.istore_n 1, 1) := by decide +kernel
theorem d_method_3_code_2 : decode method_3_code 2 = .ok (.iload_n 1, 1) := by decide +kernel
theorem d_method_3_code_3 : decode method_3_code 3 = .ok (.bipush 97, 2) := by decide +kernel
theorem d_method_3_code_5 : decode method_3_code 5 = .ok (.if_icmp .lt 9, 3) := by decide +kernel
theorem d_method_3_code_14 : decode method_3_code 14 = .ok (.iload_n 1, 1) := by decide +kernel
theorem d_method_3_code_15 : decode method_3_code 15 = .ok (.bipush 48, 2) := by decide +kernel
theorem d_method_3_code_17 : decode method_3_code 17 = .ok (.if_icmp .lt 9, 3) := by decide +kernel
theorem d_method_3_code_26 : decode method_3_code 26 = .ok (.iload_n 1, 1) := by decide +kernel
theorem d_method_3_code_27 : decode method_3_code 27 = .ok (.bipush 45, 2) := by decide +kernel
theorem d_method_3_code_29 : decode method_3_code 29 = .ok (.if_icmp .ne 7, 3) := by decide +kernel
theorem d_method_3_code_32 : decode method_3_code 32 = .ok (.iconst 1, 1) := by decide +kernel
theorem d_method_3_code_33 : decode method_3_code 33 = .ok (.goto 4, 3) := by decide +kernel
theorem d_method_3_code_37 : decode method_3_code 37 = .ok (.ireturn, 1) := by decide +kernel
theorem d_method_3_code_36 : decode method_3_code 36 = .ok (.iconst 0, 1) := by decide +kernel
theorem d_method_3_code_20 : decode method_3_code 20 = .ok (.iload_n 1, 1) := by decide +kernel
theorem d_method_3_code_21 : decode method_3_code 21 = .ok (.bipush 57, 2) := by decide +kernel
theorem d_method_3_code_23 : decode method_3_code 23 = .ok (.if_icmp .le 9, 3) := by decide +kernel
theorem d_method_3_code_8 : decode method_3_code 8 = .ok (.iload_n 1, 1) := by decide +kernel
theorem d_method_3_code_9 : decode method_3_code 9 = .ok (.bipush 122, 2) := by decide +kernel
theorem d_method_3_code_11 : decode method_3_code 11 = .ok (.if_icmp .le 21, 3) := by decide +kernel
theorem ef_rmVal (m : MethodId) (p1 : Int32) : entryFrame m #[(.int p1)] 2 = mkF m 0 #[.val (.int p1), .unset] [] := by first | (simp [entryFrame, mkF, argsToLocals, Value.category]; done) | rfl
def Q_rmVal (Z : State) (p1 : Int32) (h0 : Heap) (n0 : Nat) (v : Option Value) (h : Heap) (L : List Loc) : Prop := v = some (.int (own_valid p1)) ∧ Fr n0 L ∧ h = h0
set_option maxRecDepth 65536 in
set_option maxHeartbeats 40000000 in
theorem rmVal (l : Launch) (Z : State) (a0 : Array Value) (hw : ∀ d ∈ tables_1, d.before a0 Z = true) (ws : List Jvm.Cond) (p1 : Int32) (h0 : Heap) (n0 : Nat) (Z0 : n0 ≤ h0.size)  :
    MetFree l (⟨"com/example/log_to_isles/logtoisles/model/NodeNameFollowsPinLaw", "valid", "(B)Z"⟩ : MethodName) (head1 (Jvm.Cond.code (⟨"com/example/log_to_isles/logtoisles/model/NodeNameFollowsPinLaw", "valid", "(B)Z"⟩ : MethodName) method_3_code 2 (some .boolean) :: ws) ({ frames := 0, cells := 0, slots := 0, locals := 0 } : Room)) (fun a U => a = #[(.int p1)] ∧ Z.Warmed39 U.vm ∧ U.heap = h0) (fun _ _ _ _ _ => True) (fun _ U o U' => ∃ v L, o = .returned v ∧ Q_rmVal Z p1 h0 n0 v U'.heap L ∧ FrameEnd U o U' L ({ frames := 0, cells := 0, slots := 0, locals := 0 } : Room).cells ({ frames := 0, cells := 0, slots := 0, locals := 0 } : Room).slots) := by
  refine MetFree.of_bodySF (plainFor_of_name pn_com_example_log_to_isles_logtoisles_model_NodeNameFollowsPinLaw) hisR ?_
  intro p e s m args below meth c s₁ Bd hml0 hP hK
  obtain ⟨rfl, hZ, hh⟩ := hP
  have hx := Bd.exec
  have hby := Bd.bytes
  have hml : c.maxLocals = 2 := hml0
  have hown : s.vm.findClass "com/example/log_to_isles/logtoisles/model/NodeNameFollowsPinLaw" = some m.cls := findClass_of_methodNamed Bd.named
  have hnm := (name_of_methodNamed Bd.named Bd.method).1
  have X0 : Stand p l e ({ frames := 0, cells := 0, slots := 0, locals := 0 } : Room) s m #[(.int p1)] below meth c s₁ [] 0 0 := Stand.of_body Bd
  have e0 : s₁.heap = h0 := by rw [← hh, Bd.state]; rfl
  have N0 := Fr.nil n0
  refine own_fw (A' := (s₁.setTop (mkF m 0 #[.val (.int p1), .unset] []))) (fun t k => castTop (ef_rmVal m p1) k) ?_
  refine own_fw (A' := (s₁.setTop (mkF m 1 #[.val (.int p1), .unset] [(.int p1)]))) (fun t k => XS.iloadN X0.here hx rfl (hb hby d_method_3_code_0) rfl k) ?_
  refine own_fw (A' := (s₁.setTop (mkF m 2 #[.val (.int p1), .val (.int p1)] []))) (fun t k => XS.istoreN X0.here hx rfl (hb hby d_method_3_code_1) rfl (l' := #[.val (.int p1), .val (.int p1)]) rfl k) ?_
  refine own_fw (A' := (s₁.setTop (mkF m 3 #[.val (.int p1), .val (.int p1)] [(.int p1)]))) (fun t k => XS.iloadN X0.here hx rfl (hb hby d_method_3_code_2) rfl k) ?_
  refine own_fw (A' := (s₁.setTop (mkF m 5 #[.val (.int p1), .val (.int p1)] [(.int (97 : Int32)), (.int p1)]))) (fun t k => XS.bipush X0.here hx rfl (hb hby d_method_3_code_3) k) ?_
  by_cases hc1 : p1 < (97 : Int32)
  · refine own_fw (A' := (s₁.setTop (mkF m 14 #[.val (.int p1), .val (.int p1)] []))) (fun t k => XS.icmpYes X0.here hx rfl (pc0 := 5) (pc' := 14) rfl (hb hby d_method_3_code_5) rfl (XT.ii_lt_t hc1) (by decide) (by decide) k) ?_
    refine own_fw (A' := (s₁.setTop (mkF m 15 #[.val (.int p1), .val (.int p1)] [(.int p1)]))) (fun t k => XS.iloadN X0.here hx rfl (hb hby d_method_3_code_14) rfl k) ?_
    refine own_fw (A' := (s₁.setTop (mkF m 17 #[.val (.int p1), .val (.int p1)] [(.int (48 : Int32)), (.int p1)]))) (fun t k => XS.bipush X0.here hx rfl (hb hby d_method_3_code_15) k) ?_
    by_cases hc2 : p1 < (48 : Int32)
    · refine own_fw (A' := (s₁.setTop (mkF m 26 #[.val (.int p1), .val (.int p1)] []))) (fun t k => XS.icmpYes X0.here hx rfl (pc0 := 17) (pc' := 26) rfl (hb hby d_method_3_code_17) rfl (XT.ii_lt_t hc2) (by decide) (by decide) k) ?_
      refine own_fw (A' := (s₁.setTop (mkF m 27 #[.val (.int p1), .val (.int p1)] [(.int p1)]))) (fun t k => XS.iloadN X0.here hx rfl (hb hby d_method_3_code_26) rfl k) ?_
      refine own_fw (A' := (s₁.setTop (mkF m 29 #[.val (.int p1), .val (.int p1)] [(.int (45 : Int32)), (.int p1)]))) (fun t k => XS.bipush X0.here hx rfl (hb hby d_method_3_code_27) k) ?_
      by_cases hc3 : p1 = (45 : Int32)
      · refine own_fw (A' := (s₁.setTop (mkF m 32 #[.val (.int p1), .val (.int p1)] []))) (fun t k => XS.icmpNo X0.here hx rfl (hb hby d_method_3_code_29) rfl (XT.ii_ne_f hc3) k) ?_
        refine own_fw (A' := (s₁.setTop (mkF m 33 #[.val (.int p1), .val (.int p1)] [(.int (1 : Int32))]))) (fun t k => XS.iconst X0.here hx rfl (hb hby d_method_3_code_32) k) ?_
        refine own_fw (A' := (s₁.setTop (mkF m 37 #[.val (.int p1), .val (.int p1)] [(.int (1 : Int32))]))) (fun t k => XS.goto X0.here hx rfl (pc0 := 33) (pc' := 37) rfl (hb hby d_method_3_code_33) (by decide) (by decide) k) ?_
        obtain ⟨fs, hr, hrun, hended, hW, hsame⟩ := X0.leave (v := some (.int (1 : Int32))) (fun h => by rw [Bd.returns] at h; cases h)
        refine ⟨_, _, ?_, hrun, hended, _, _, rfl, ?_, ⟨_, rfl⟩, hW, hsame.mono (by decide) (by decide)⟩
        · exact retOut X0 hx Bd.returns rfl (Or.inl ⟨rfl, by simp, _, rfl⟩) (hb hby d_method_3_code_37) hr
        · show Q_rmVal Z p1 h0 n0 _ s₁.heap _
          rw [e0]
          exact ⟨(by simp only [own_valid, own_dig, own_dash, if_pos hc1, if_pos hc2, if_pos hc3]), N0, rfl⟩
      · refine own_fw (A' := (s₁.setTop (mkF m 36 #[.val (.int p1), .val (.int p1)] []))) (fun t k => XS.icmpYes X0.here hx rfl (pc0 := 29) (pc' := 36) rfl (hb hby d_method_3_code_29) rfl (XT.ii_ne_t hc3) (by decide) (by decide) k) ?_
        refine own_fw (A' := (s₁.setTop (mkF m 37 #[.val (.int p1), .val (.int p1)] [(.int (0 : Int32))]))) (fun t k => XS.iconst X0.here hx rfl (hb hby d_method_3_code_36) k) ?_
        obtain ⟨fs, hr, hrun, hended, hW, hsame⟩ := X0.leave (v := some (.int (0 : Int32))) (fun h => by rw [Bd.returns] at h; cases h)
        refine ⟨_, _, ?_, hrun, hended, _, _, rfl, ?_, ⟨_, rfl⟩, hW, hsame.mono (by decide) (by decide)⟩
        · exact retOut X0 hx Bd.returns rfl (Or.inl ⟨rfl, by simp, _, rfl⟩) (hb hby d_method_3_code_37) hr
        · show Q_rmVal Z p1 h0 n0 _ s₁.heap _
          rw [e0]
          exact ⟨(by simp only [own_valid, own_dig, own_dash, if_pos hc1, if_pos hc2, if_neg hc3]), N0, rfl⟩
    · refine own_fw (A' := (s₁.setTop (mkF m 20 #[.val (.int p1), .val (.int p1)] []))) (fun t k => XS.icmpNo X0.here hx rfl (hb hby d_method_3_code_17) rfl (XT.ii_lt_f hc2) k) ?_
      refine own_fw (A' := (s₁.setTop (mkF m 21 #[.val (.int p1), .val (.int p1)] [(.int p1)]))) (fun t k => XS.iloadN X0.here hx rfl (hb hby d_method_3_code_20) rfl k) ?_
      refine own_fw (A' := (s₁.setTop (mkF m 23 #[.val (.int p1), .val (.int p1)] [(.int (57 : Int32)), (.int p1)]))) (fun t k => XS.bipush X0.here hx rfl (hb hby d_method_3_code_21) k) ?_
      by_cases hc4 : (57 : Int32) < p1
      · refine own_fw (A' := (s₁.setTop (mkF m 26 #[.val (.int p1), .val (.int p1)] []))) (fun t k => XS.icmpNo X0.here hx rfl (hb hby d_method_3_code_23) rfl (XT.ii_le_f hc4) k) ?_
        refine own_fw (A' := (s₁.setTop (mkF m 27 #[.val (.int p1), .val (.int p1)] [(.int p1)]))) (fun t k => XS.iloadN X0.here hx rfl (hb hby d_method_3_code_26) rfl k) ?_
        refine own_fw (A' := (s₁.setTop (mkF m 29 #[.val (.int p1), .val (.int p1)] [(.int (45 : Int32)), (.int p1)]))) (fun t k => XS.bipush X0.here hx rfl (hb hby d_method_3_code_27) k) ?_
        by_cases hc5 : p1 = (45 : Int32)
        · refine own_fw (A' := (s₁.setTop (mkF m 32 #[.val (.int p1), .val (.int p1)] []))) (fun t k => XS.icmpNo X0.here hx rfl (hb hby d_method_3_code_29) rfl (XT.ii_ne_f hc5) k) ?_
          refine own_fw (A' := (s₁.setTop (mkF m 33 #[.val (.int p1), .val (.int p1)] [(.int (1 : Int32))]))) (fun t k => XS.iconst X0.here hx rfl (hb hby d_method_3_code_32) k) ?_
          refine own_fw (A' := (s₁.setTop (mkF m 37 #[.val (.int p1), .val (.int p1)] [(.int (1 : Int32))]))) (fun t k => XS.goto X0.here hx rfl (pc0 := 33) (pc' := 37) rfl (hb hby d_method_3_code_33) (by decide) (by decide) k) ?_
          obtain ⟨fs, hr, hrun, hended, hW, hsame⟩ := X0.leave (v := some (.int (1 : Int32))) (fun h => by rw [Bd.returns] at h; cases h)
          refine ⟨_, _, ?_, hrun, hended, _, _, rfl, ?_, ⟨_, rfl⟩, hW, hsame.mono (by decide) (by decide)⟩
          · exact retOut X0 hx Bd.returns rfl (Or.inl ⟨rfl, by simp, _, rfl⟩) (hb hby d_method_3_code_37) hr
          · show Q_rmVal Z p1 h0 n0 _ s₁.heap _
            rw [e0]
            exact ⟨(by simp only [own_valid, own_dig, own_dash, if_pos hc1, if_neg hc2, if_pos hc4, if_pos hc5]), N0, rfl⟩
        · refine own_fw (A' := (s₁.setTop (mkF m 36 #[.val (.int p1), .val (.int p1)] []))) (fun t k => XS.icmpYes X0.here hx rfl (pc0 := 29) (pc' := 36) rfl (hb hby d_method_3_code_29) rfl (XT.ii_ne_t hc5) (by decide) (by decide) k) ?_
          refine own_fw (A' := (s₁.setTop (mkF m 37 #[.val (.int p1), .val (.int p1)] [(.int (0 : Int32))]))) (fun t k => XS.iconst X0.here hx rfl (hb hby d_method_3_code_36) k) ?_
          obtain ⟨fs, hr, hrun, hended, hW, hsame⟩ := X0.leave (v := some (.int (0 : Int32))) (fun h => by rw [Bd.returns] at h; cases h)
          refine ⟨_, _, ?_, hrun, hended, _, _, rfl, ?_, ⟨_, rfl⟩, hW, hsame.mono (by decide) (by decide)⟩
          · exact retOut X0 hx Bd.returns rfl (Or.inl ⟨rfl, by simp, _, rfl⟩) (hb hby d_method_3_code_37) hr
          · show Q_rmVal Z p1 h0 n0 _ s₁.heap _
            rw [e0]
            exact ⟨(by simp only [own_valid, own_dig, own_dash, if_pos hc1, if_neg hc2, if_pos hc4, if_neg hc5]), N0, rfl⟩
      · refine own_fw (A' := (s₁.setTop (mkF m 32 #[.val (.int p1), .val (.int p1)] []))) (fun t k => XS.icmpYes X0.here hx rfl (pc0 := 23) (pc' := 32) rfl (hb hby d_method_3_code_23) rfl (XT.ii_le_t hc4) (by decide) (by decide) k) ?_
        refine own_fw (A' := (s₁.setTop (mkF m 33 #[.val (.int p1), .val (.int p1)] [(.int (1 : Int32))]))) (fun t k => XS.iconst X0.here hx rfl (hb hby d_method_3_code_32) k) ?_
        refine own_fw (A' := (s₁.setTop (mkF m 37 #[.val (.int p1), .val (.int p1)] [(.int (1 : Int32))]))) (fun t k => XS.goto X0.here hx rfl (pc0 := 33) (pc' := 37) rfl (hb hby d_method_3_code_33) (by decide) (by decide) k) ?_
        obtain ⟨fs, hr, hrun, hended, hW, hsame⟩ := X0.leave (v := some (.int (1 : Int32))) (fun h => by rw [Bd.returns] at h; cases h)
        refine ⟨_, _, ?_, hrun, hended, _, _, rfl, ?_, ⟨_, rfl⟩, hW, hsame.mono (by decide) (by decide)⟩
        · exact retOut X0 hx Bd.returns rfl (Or.inl ⟨rfl, by simp, _, rfl⟩) (hb hby d_method_3_code_37) hr
        · show Q_rmVal Z p1 h0 n0 _ s₁.heap _
          rw [e0]
          exact ⟨(by simp only [own_valid, own_dig, own_dash, if_pos hc1, if_neg hc2, if_neg hc4]), N0, rfl⟩
  · refine own_fw (A' := (s₁.setTop (mkF m 8 #[.val (.int p1), .val (.int p1)] []))) (fun t k => XS.icmpNo X0.here hx rfl (hb hby d_method_3_code_5) rfl (XT.ii_lt_f hc1) k) ?_
    refine own_fw (A' := (s₁.setTop (mkF m 9 #[.val (.int p1), .val (.int p1)] [(.int p1)]))) (fun t k => XS.iloadN X0.here hx rfl (hb hby d_method_3_code_8) rfl k) ?_
    refine own_fw (A' := (s₁.setTop (mkF m 11 #[.val (.int p1), .val (.int p1)] [(.int (122 : Int32)), (.int p1)]))) (fun t k => XS.bipush X0.here hx rfl (hb hby d_method_3_code_9) k) ?_
    by_cases hc6 : (122 : Int32) < p1
    · refine own_fw (A' := (s₁.setTop (mkF m 14 #[.val (.int p1), .val (.int p1)] []))) (fun t k => XS.icmpNo X0.here hx rfl (hb hby d_method_3_code_11) rfl (XT.ii_le_f hc6) k) ?_
      refine own_fw (A' := (s₁.setTop (mkF m 15 #[.val (.int p1), .val (.int p1)] [(.int p1)]))) (fun t k => XS.iloadN X0.here hx rfl (hb hby d_method_3_code_14) rfl k) ?_
      refine own_fw (A' := (s₁.setTop (mkF m 17 #[.val (.int p1), .val (.int p1)] [(.int (48 : Int32)), (.int p1)]))) (fun t k => XS.bipush X0.here hx rfl (hb hby d_method_3_code_15) k) ?_
      by_cases hc7 : p1 < (48 : Int32)
      · refine own_fw (A' := (s₁.setTop (mkF m 26 #[.val (.int p1), .val (.int p1)] []))) (fun t k => XS.icmpYes X0.here hx rfl (pc0 := 17) (pc' := 26) rfl (hb hby d_method_3_code_17) rfl (XT.ii_lt_t hc7) (by decide) (by decide) k) ?_
        refine own_fw (A' := (s₁.setTop (mkF m 27 #[.val (.int p1), .val (.int p1)] [(.int p1)]))) (fun t k => XS.iloadN X0.here hx rfl (hb hby d_method_3_code_26) rfl k) ?_
        refine own_fw (A' := (s₁.setTop (mkF m 29 #[.val (.int p1), .val (.int p1)] [(.int (45 : Int32)), (.int p1)]))) (fun t k => XS.bipush X0.here hx rfl (hb hby d_method_3_code_27) k) ?_
        by_cases hc8 : p1 = (45 : Int32)
        · refine own_fw (A' := (s₁.setTop (mkF m 32 #[.val (.int p1), .val (.int p1)] []))) (fun t k => XS.icmpNo X0.here hx rfl (hb hby d_method_3_code_29) rfl (XT.ii_ne_f hc8) k) ?_
          refine own_fw (A' := (s₁.setTop (mkF m 33 #[.val (.int p1), .val (.int p1)] [(.int (1 : Int32))]))) (fun t k => XS.iconst X0.here hx rfl (hb hby d_method_3_code_32) k) ?_
          refine own_fw (A' := (s₁.setTop (mkF m 37 #[.val (.int p1), .val (.int p1)] [(.int (1 : Int32))]))) (fun t k => XS.goto X0.here hx rfl (pc0 := 33) (pc' := 37) rfl (hb hby d_method_3_code_33) (by decide) (by decide) k) ?_
          obtain ⟨fs, hr, hrun, hended, hW, hsame⟩ := X0.leave (v := some (.int (1 : Int32))) (fun h => by rw [Bd.returns] at h; cases h)
          refine ⟨_, _, ?_, hrun, hended, _, _, rfl, ?_, ⟨_, rfl⟩, hW, hsame.mono (by decide) (by decide)⟩
          · exact retOut X0 hx Bd.returns rfl (Or.inl ⟨rfl, by simp, _, rfl⟩) (hb hby d_method_3_code_37) hr
          · show Q_rmVal Z p1 h0 n0 _ s₁.heap _
            rw [e0]
            exact ⟨(by simp only [own_valid, own_dig, own_dash, if_neg hc1, if_pos hc6, if_pos hc7, if_pos hc8]), N0, rfl⟩
        · refine own_fw (A' := (s₁.setTop (mkF m 36 #[.val (.int p1), .val (.int p1)] []))) (fun t k => XS.icmpYes X0.here hx rfl (pc0 := 29) (pc' := 36) rfl (hb hby d_method_3_code_29) rfl (XT.ii_ne_t hc8) (by decide) (by decide) k) ?_
          refine own_fw (A' := (s₁.setTop (mkF m 37 #[.val (.int p1), .val (.int p1)] [(.int (0 : Int32))]))) (fun t k => XS.iconst X0.here hx rfl (hb hby d_method_3_code_36) k) ?_
          obtain ⟨fs, hr, hrun, hended, hW, hsame⟩ := X0.leave (v := some (.int (0 : Int32))) (fun h => by rw [Bd.returns] at h; cases h)
          refine ⟨_, _, ?_, hrun, hended, _, _, rfl, ?_, ⟨_, rfl⟩, hW, hsame.mono (by decide) (by decide)⟩
          · exact retOut X0 hx Bd.returns rfl (Or.inl ⟨rfl, by simp, _, rfl⟩) (hb hby d_method_3_code_37) hr
          · show Q_rmVal Z p1 h0 n0 _ s₁.heap _
            rw [e0]
            exact ⟨(by simp only [own_valid, own_dig, own_dash, if_neg hc1, if_pos hc6, if_pos hc7, if_neg hc8]), N0, rfl⟩
      · refine own_fw (A' := (s₁.setTop (mkF m 20 #[.val (.int p1), .val (.int p1)] []))) (fun t k => XS.icmpNo X0.here hx rfl (hb hby d_method_3_code_17) rfl (XT.ii_lt_f hc7) k) ?_
        refine own_fw (A' := (s₁.setTop (mkF m 21 #[.val (.int p1), .val (.int p1)] [(.int p1)]))) (fun t k => XS.iloadN X0.here hx rfl (hb hby d_method_3_code_20) rfl k) ?_
        refine own_fw (A' := (s₁.setTop (mkF m 23 #[.val (.int p1), .val (.int p1)] [(.int (57 : Int32)), (.int p1)]))) (fun t k => XS.bipush X0.here hx rfl (hb hby d_method_3_code_21) k) ?_
        by_cases hc9 : (57 : Int32) < p1
        · refine own_fw (A' := (s₁.setTop (mkF m 26 #[.val (.int p1), .val (.int p1)] []))) (fun t k => XS.icmpNo X0.here hx rfl (hb hby d_method_3_code_23) rfl (XT.ii_le_f hc9) k) ?_
          refine own_fw (A' := (s₁.setTop (mkF m 27 #[.val (.int p1), .val (.int p1)] [(.int p1)]))) (fun t k => XS.iloadN X0.here hx rfl (hb hby d_method_3_code_26) rfl k) ?_
          refine own_fw (A' := (s₁.setTop (mkF m 29 #[.val (.int p1), .val (.int p1)] [(.int (45 : Int32)), (.int p1)]))) (fun t k => XS.bipush X0.here hx rfl (hb hby d_method_3_code_27) k) ?_
          by_cases hc10 : p1 = (45 : Int32)
          · refine own_fw (A' := (s₁.setTop (mkF m 32 #[.val (.int p1), .val (.int p1)] []))) (fun t k => XS.icmpNo X0.here hx rfl (hb hby d_method_3_code_29) rfl (XT.ii_ne_f hc10) k) ?_
            refine own_fw (A' := (s₁.setTop (mkF m 33 #[.val (.int p1), .val (.int p1)] [(.int (1 : Int32))]))) (fun t k => XS.iconst X0.here hx rfl (hb hby d_method_3_code_32) k) ?_
            refine own_fw (A' := (s₁.setTop (mkF m 37 #[.val (.int p1), .val (.int p1)] [(.int (1 : Int32))]))) (fun t k => XS.goto X0.here hx rfl (pc0 := 33) (pc' := 37) rfl (hb hby d_method_3_code_33) (by decide) (by decide) k) ?_
            obtain ⟨fs, hr, hrun, hended, hW, hsame⟩ := X0.leave (v := some (.int (1 : Int32))) (fun h => by rw [Bd.returns] at h; cases h)
            refine ⟨_, _, ?_, hrun, hended, _, _, rfl, ?_, ⟨_, rfl⟩, hW, hsame.mono (by decide) (by decide)⟩
            · exact retOut X0 hx Bd.returns rfl (Or.inl ⟨rfl, by simp, _, rfl⟩) (hb hby d_method_3_code_37) hr
            · show Q_rmVal Z p1 h0 n0 _ s₁.heap _
              rw [e0]
              exact ⟨(by simp only [own_valid, own_dig, own_dash, if_neg hc1, if_pos hc6, if_neg hc7, if_pos hc9, if_pos hc10]), N0, rfl⟩
          · refine own_fw (A' := (s₁.setTop (mkF m 36 #[.val (.int p1), .val (.int p1)] []))) (fun t k => XS.icmpYes X0.here hx rfl (pc0 := 29) (pc' := 36) rfl (hb hby d_method_3_code_29) rfl (XT.ii_ne_t hc10) (by decide) (by decide) k) ?_
            refine own_fw (A' := (s₁.setTop (mkF m 37 #[.val (.int p1), .val (.int p1)] [(.int (0 : Int32))]))) (fun t k => XS.iconst X0.here hx rfl (hb hby d_method_3_code_36) k) ?_
            obtain ⟨fs, hr, hrun, hended, hW, hsame⟩ := X0.leave (v := some (.int (0 : Int32))) (fun h => by rw [Bd.returns] at h; cases h)
            refine ⟨_, _, ?_, hrun, hended, _, _, rfl, ?_, ⟨_, rfl⟩, hW, hsame.mono (by decide) (by decide)⟩
            · exact retOut X0 hx Bd.returns rfl (Or.inl ⟨rfl, by simp, _, rfl⟩) (hb hby d_method_3_code_37) hr
            · show Q_rmVal Z p1 h0 n0 _ s₁.heap _
              rw [e0]
              exact ⟨(by simp only [own_valid, own_dig, own_dash, if_neg hc1, if_pos hc6, if_neg hc7, if_pos hc9, if_neg hc10]), N0, rfl⟩
        · refine own_fw (A' := (s₁.setTop (mkF m 32 #[.val (.int p1), .val (.int p1)] []))) (fun t k => XS.icmpYes X0.here hx rfl (pc0 := 23) (pc' := 32) rfl (hb hby d_method_3_code_23) rfl (XT.ii_le_t hc9) (by decide) (by decide) k) ?_
          refine own_fw (A' := (s₁.setTop (mkF m 33 #[.val (.int p1), .val (.int p1)] [(.int (1 : Int32))]))) (fun t k => XS.iconst X0.here hx rfl (hb hby d_method_3_code_32) k) ?_
          refine own_fw (A' := (s₁.setTop (mkF m 37 #[.val (.int p1), .val (.int p1)] [(.int (1 : Int32))]))) (fun t k => XS.goto X0.here hx rfl (pc0 := 33) (pc' := 37) rfl (hb hby d_method_3_code_33) (by decide) (by decide) k) ?_
          obtain ⟨fs, hr, hrun, hended, hW, hsame⟩ := X0.leave (v := some (.int (1 : Int32))) (fun h => by rw [Bd.returns] at h; cases h)
          refine ⟨_, _, ?_, hrun, hended, _, _, rfl, ?_, ⟨_, rfl⟩, hW, hsame.mono (by decide) (by decide)⟩
          · exact retOut X0 hx Bd.returns rfl (Or.inl ⟨rfl, by simp, _, rfl⟩) (hb hby d_method_3_code_37) hr
          · show Q_rmVal Z p1 h0 n0 _ s₁.heap _
            rw [e0]
            exact ⟨(by simp only [own_valid, own_dig, own_dash, if_neg hc1, if_pos hc6, if_neg hc7, if_neg hc9]), N0, rfl⟩
    · refine own_fw (A' := (s₁.setTop (mkF m 32 #[.val (.int p1), .val (.int p1)] []))) (fun t k => XS.icmpYes X0.here hx rfl (pc0 := 11) (pc' := 32) rfl (hb hby d_method_3_code_11) rfl (XT.ii_le_t hc6) (by decide) (by decide) k) ?_
      refine own_fw (A' := (s₁.setTop (mkF m 33 #[.val (.int p1), .val (.int p1)] [(.int (1 : Int32))]))) (fun t k => XS.iconst X0.here hx rfl (hb hby d_method_3_code_32) k) ?_
      refine own_fw (A' := (s₁.setTop (mkF m 37 #[.val (.int p1), .val (.int p1)] [(.int (1 : Int32))]))) (fun t k => XS.goto X0.here hx rfl (pc0 := 33) (pc' := 37) rfl (hb hby d_method_3_code_33) (by decide) (by decide) k) ?_
      obtain ⟨fs, hr, hrun, hended, hW, hsame⟩ := X0.leave (v := some (.int (1 : Int32))) (fun h => by rw [Bd.returns] at h; cases h)
      refine ⟨_, _, ?_, hrun, hended, _, _, rfl, ?_, ⟨_, rfl⟩, hW, hsame.mono (by decide) (by decide)⟩
      · exact retOut X0 hx Bd.returns rfl (Or.inl ⟨rfl, by simp, _, rfl⟩) (hb hby d_method_3_code_37) hr
      · show Q_rmVal Z p1 h0 n0 _ s₁.heap _
        rw [e0]
        exact ⟨(by simp only [own_valid, own_dig, own_dash, if_neg hc1, if_neg hc6]), N0, rfl⟩
theorem pn_com_example_log_to_isles_logtoisles_model_NodeName : plainName "com/example/log_to_isles/logtoisles/model/NodeName" = true := by first | (simp [plainName, overriddenIn]; done) | decide +kernel
theorem d_prog_11_method_3_code_0 : decode prog_11_method_3_code 0 = .ok (.iload_n 0, 1) := by decide +kernel
theorem d_prog_11_method_3_code_1 : decode prog_11_method_3_code 1 = .ok (.bipush 97, 2) := by decide +kernel
theorem d_prog_11_method_3_code_3 : decode prog_11_method_3_code 3 = .ok (.if_icmp .lt 9, 3) := by decide +kernel
theorem d_prog_11_method_3_code_12 : decode prog_11_method_3_code 12 = .ok (.iload_n 0, 1) := by decide +kernel
theorem d_prog_11_method_3_code_13 : decode prog_11_method_3_code 13 = .ok (.bipush 48, 2) := by decide +kernel
theorem d_prog_11_method_3_code_15 : decode prog_11_method_3_code 15 = .ok (.if_icmp .lt 13, 3) := by decide +kernel
theorem d_prog_11_method_3_code_28 : decode prog_11_method_3_code 28 = .ok (.iconst 0, 1) := by decide +kernel
theorem d_prog_11_method_3_code_29 : decode prog_11_method_3_code 29 = .ok (.ireturn, 1) := by decide +kernel
theorem d_prog_11_method_3_code_18 : decode prog_11_method_3_code 18 = .ok (.iload_n 0, 1) := by decide +kernel
theorem d_prog_11_method_3_code_19 : decode prog_11_method_3_code 19 = .ok (.bipush 57, 2) := by decide +kernel
theorem d_prog_11_method_3_code_21 : decode prog_11_method_3_code 21 = .ok (.if_icmp .gt 7, 3) := by decide +kernel
theorem d_prog_11_method_3_code_24 : decode prog_11_method_3_code 24 = .ok (.iconst 1, 1) := by decide +kernel
theorem d_prog_11_method_3_code_25 : decode prog_11_method_3_code 25 = .ok (.goto 4, 3) := by decide +kernel
theorem d_prog_11_method_3_code_6 : decode prog_11_method_3_code 6 = .ok (.iload_n 0, 1) := by decide +kernel
theorem d_prog_11_method_3_code_7 : decode prog_11_method_3_code 7 = .ok (.bipush 122, 2) := by decide +kernel
theorem d_prog_11_method_3_code_9 : decode prog_11_method_3_code 9 = .ok (.if_icmp .le 15, 3) := by decide +kernel
theorem ef_rmLow (m : MethodId) (p1 : Int32) : entryFrame m #[(.int p1)] 1 = mkF m 0 #[.val (.int p1)] [] := by first | (simp [entryFrame, mkF, argsToLocals, Value.category]; done) | rfl
def Q_rmLow (Z : State) (p1 : Int32) (h0 : Heap) (n0 : Nat) (v : Option Value) (h : Heap) (L : List Loc) : Prop := v = some (.int (own_low p1)) ∧ Fr n0 L ∧ h = h0
set_option maxRecDepth 65536 in
set_option maxHeartbeats 40000000 in
theorem rmLow (l : Launch) (Z : State) (a0 : Array Value) (hw : ∀ d ∈ tables_1, d.before a0 Z = true) (ws : List Jvm.Cond) (p1 : Int32) (h0 : Heap) (n0 : Nat) (Z0 : n0 ≤ h0.size)  :
    MetFree l (⟨"com/example/log_to_isles/logtoisles/model/NodeName", "isLowerAsciiLetterOrDigit", "(I)Z"⟩ : MethodName) (head1 (Jvm.Cond.code (⟨"com/example/log_to_isles/logtoisles/model/NodeName", "isLowerAsciiLetterOrDigit", "(I)Z"⟩ : MethodName) prog_11_method_3_code 1 (some .boolean) :: ws) ({ frames := 0, cells := 0, slots := 0, locals := 0 } : Room)) (fun a U => a = #[(.int p1)] ∧ Z.Warmed39 U.vm ∧ U.heap = h0) (fun _ _ _ _ _ => True) (fun _ U o U' => ∃ v L, o = .returned v ∧ Q_rmLow Z p1 h0 n0 v U'.heap L ∧ FrameEnd U o U' L ({ frames := 0, cells := 0, slots := 0, locals := 0 } : Room).cells ({ frames := 0, cells := 0, slots := 0, locals := 0 } : Room).slots) := by
  refine MetFree.of_bodySF (plainFor_of_name pn_com_example_log_to_isles_logtoisles_model_NodeName) hisR ?_
  intro p e s m args below meth c s₁ Bd hml0 hP hK
  obtain ⟨rfl, hZ, hh⟩ := hP
  have hx := Bd.exec
  have hby := Bd.bytes
  have hml : c.maxLocals = 1 := hml0
  have hown : s.vm.findClass "com/example/log_to_isles/logtoisles/model/NodeName" = some m.cls := findClass_of_methodNamed Bd.named
  have hnm := (name_of_methodNamed Bd.named Bd.method).1
  have X0 : Stand p l e ({ frames := 0, cells := 0, slots := 0, locals := 0 } : Room) s m #[(.int p1)] below meth c s₁ [] 0 0 := Stand.of_body Bd
  have e0 : s₁.heap = h0 := by rw [← hh, Bd.state]; rfl
  have N0 := Fr.nil n0
  refine own_fw (A' := (s₁.setTop (mkF m 0 #[.val (.int p1)] []))) (fun t k => castTop (ef_rmLow m p1) k) ?_
  refine own_fw (A' := (s₁.setTop (mkF m 1 #[.val (.int p1)] [(.int p1)]))) (fun t k => XS.iloadN X0.here hx rfl (hb hby d_prog_11_method_3_code_0) rfl k) ?_
  refine own_fw (A' := (s₁.setTop (mkF m 3 #[.val (.int p1)] [(.int (97 : Int32)), (.int p1)]))) (fun t k => XS.bipush X0.here hx rfl (hb hby d_prog_11_method_3_code_1) k) ?_
  by_cases hc1 : p1 < (97 : Int32)
  · refine own_fw (A' := (s₁.setTop (mkF m 12 #[.val (.int p1)] []))) (fun t k => XS.icmpYes X0.here hx rfl (pc0 := 3) (pc' := 12) rfl (hb hby d_prog_11_method_3_code_3) rfl (XT.ii_lt_t hc1) (by decide) (by decide) k) ?_
    refine own_fw (A' := (s₁.setTop (mkF m 13 #[.val (.int p1)] [(.int p1)]))) (fun t k => XS.iloadN X0.here hx rfl (hb hby d_prog_11_method_3_code_12) rfl k) ?_
    refine own_fw (A' := (s₁.setTop (mkF m 15 #[.val (.int p1)] [(.int (48 : Int32)), (.int p1)]))) (fun t k => XS.bipush X0.here hx rfl (hb hby d_prog_11_method_3_code_13) k) ?_
    by_cases hc2 : p1 < (48 : Int32)
    · refine own_fw (A' := (s₁.setTop (mkF m 28 #[.val (.int p1)] []))) (fun t k => XS.icmpYes X0.here hx rfl (pc0 := 15) (pc' := 28) rfl (hb hby d_prog_11_method_3_code_15) rfl (XT.ii_lt_t hc2) (by decide) (by decide) k) ?_
      refine own_fw (A' := (s₁.setTop (mkF m 29 #[.val (.int p1)] [(.int (0 : Int32))]))) (fun t k => XS.iconst X0.here hx rfl (hb hby d_prog_11_method_3_code_28) k) ?_
      obtain ⟨fs, hr, hrun, hended, hW, hsame⟩ := X0.leave (v := some (.int (0 : Int32))) (fun h => by rw [Bd.returns] at h; cases h)
      refine ⟨_, _, ?_, hrun, hended, _, _, rfl, ?_, ⟨_, rfl⟩, hW, hsame.mono (by decide) (by decide)⟩
      · exact retOut X0 hx Bd.returns rfl (Or.inl ⟨rfl, by simp, _, rfl⟩) (hb hby d_prog_11_method_3_code_29) hr
      · show Q_rmLow Z p1 h0 n0 _ s₁.heap _
        rw [e0]
        exact ⟨(by simp only [own_low, own_ldig, if_pos hc1, if_pos hc2]), N0, rfl⟩
    · refine own_fw (A' := (s₁.setTop (mkF m 18 #[.val (.int p1)] []))) (fun t k => XS.icmpNo X0.here hx rfl (hb hby d_prog_11_method_3_code_15) rfl (XT.ii_lt_f hc2) k) ?_
      refine own_fw (A' := (s₁.setTop (mkF m 19 #[.val (.int p1)] [(.int p1)]))) (fun t k => XS.iloadN X0.here hx rfl (hb hby d_prog_11_method_3_code_18) rfl k) ?_
      refine own_fw (A' := (s₁.setTop (mkF m 21 #[.val (.int p1)] [(.int (57 : Int32)), (.int p1)]))) (fun t k => XS.bipush X0.here hx rfl (hb hby d_prog_11_method_3_code_19) k) ?_
      by_cases hc3 : (57 : Int32) < p1
      · refine own_fw (A' := (s₁.setTop (mkF m 28 #[.val (.int p1)] []))) (fun t k => XS.icmpYes X0.here hx rfl (pc0 := 21) (pc' := 28) rfl (hb hby d_prog_11_method_3_code_21) rfl (XT.ii_gt_t hc3) (by decide) (by decide) k) ?_
        refine own_fw (A' := (s₁.setTop (mkF m 29 #[.val (.int p1)] [(.int (0 : Int32))]))) (fun t k => XS.iconst X0.here hx rfl (hb hby d_prog_11_method_3_code_28) k) ?_
        obtain ⟨fs, hr, hrun, hended, hW, hsame⟩ := X0.leave (v := some (.int (0 : Int32))) (fun h => by rw [Bd.returns] at h; cases h)
        refine ⟨_, _, ?_, hrun, hended, _, _, rfl, ?_, ⟨_, rfl⟩, hW, hsame.mono (by decide) (by decide)⟩
        · exact retOut X0 hx Bd.returns rfl (Or.inl ⟨rfl, by simp, _, rfl⟩) (hb hby d_prog_11_method_3_code_29) hr
        · show Q_rmLow Z p1 h0 n0 _ s₁.heap _
          rw [e0]
          exact ⟨(by simp only [own_low, own_ldig, if_pos hc1, if_neg hc2, if_pos hc3]), N0, rfl⟩
      · refine own_fw (A' := (s₁.setTop (mkF m 24 #[.val (.int p1)] []))) (fun t k => XS.icmpNo X0.here hx rfl (hb hby d_prog_11_method_3_code_21) rfl (XT.ii_gt_f hc3) k) ?_
        refine own_fw (A' := (s₁.setTop (mkF m 25 #[.val (.int p1)] [(.int (1 : Int32))]))) (fun t k => XS.iconst X0.here hx rfl (hb hby d_prog_11_method_3_code_24) k) ?_
        refine own_fw (A' := (s₁.setTop (mkF m 29 #[.val (.int p1)] [(.int (1 : Int32))]))) (fun t k => XS.goto X0.here hx rfl (pc0 := 25) (pc' := 29) rfl (hb hby d_prog_11_method_3_code_25) (by decide) (by decide) k) ?_
        obtain ⟨fs, hr, hrun, hended, hW, hsame⟩ := X0.leave (v := some (.int (1 : Int32))) (fun h => by rw [Bd.returns] at h; cases h)
        refine ⟨_, _, ?_, hrun, hended, _, _, rfl, ?_, ⟨_, rfl⟩, hW, hsame.mono (by decide) (by decide)⟩
        · exact retOut X0 hx Bd.returns rfl (Or.inl ⟨rfl, by simp, _, rfl⟩) (hb hby d_prog_11_method_3_code_29) hr
        · show Q_rmLow Z p1 h0 n0 _ s₁.heap _
          rw [e0]
          exact ⟨(by simp only [own_low, own_ldig, if_pos hc1, if_neg hc2, if_neg hc3]), N0, rfl⟩
  · refine own_fw (A' := (s₁.setTop (mkF m 6 #[.val (.int p1)] []))) (fun t k => XS.icmpNo X0.here hx rfl (hb hby d_prog_11_method_3_code_3) rfl (XT.ii_lt_f hc1) k) ?_
    refine own_fw (A' := (s₁.setTop (mkF m 7 #[.val (.int p1)] [(.int p1)]))) (fun t k => XS.iloadN X0.here hx rfl (hb hby d_prog_11_method_3_code_6) rfl k) ?_
    refine own_fw (A' := (s₁.setTop (mkF m 9 #[.val (.int p1)] [(.int (122 : Int32)), (.int p1)]))) (fun t k => XS.bipush X0.here hx rfl (hb hby d_prog_11_method_3_code_7) k) ?_
    by_cases hc4 : (122 : Int32) < p1
    · refine own_fw (A' := (s₁.setTop (mkF m 12 #[.val (.int p1)] []))) (fun t k => XS.icmpNo X0.here hx rfl (hb hby d_prog_11_method_3_code_9) rfl (XT.ii_le_f hc4) k) ?_
      refine own_fw (A' := (s₁.setTop (mkF m 13 #[.val (.int p1)] [(.int p1)]))) (fun t k => XS.iloadN X0.here hx rfl (hb hby d_prog_11_method_3_code_12) rfl k) ?_
      refine own_fw (A' := (s₁.setTop (mkF m 15 #[.val (.int p1)] [(.int (48 : Int32)), (.int p1)]))) (fun t k => XS.bipush X0.here hx rfl (hb hby d_prog_11_method_3_code_13) k) ?_
      by_cases hc5 : p1 < (48 : Int32)
      · refine own_fw (A' := (s₁.setTop (mkF m 28 #[.val (.int p1)] []))) (fun t k => XS.icmpYes X0.here hx rfl (pc0 := 15) (pc' := 28) rfl (hb hby d_prog_11_method_3_code_15) rfl (XT.ii_lt_t hc5) (by decide) (by decide) k) ?_
        refine own_fw (A' := (s₁.setTop (mkF m 29 #[.val (.int p1)] [(.int (0 : Int32))]))) (fun t k => XS.iconst X0.here hx rfl (hb hby d_prog_11_method_3_code_28) k) ?_
        obtain ⟨fs, hr, hrun, hended, hW, hsame⟩ := X0.leave (v := some (.int (0 : Int32))) (fun h => by rw [Bd.returns] at h; cases h)
        refine ⟨_, _, ?_, hrun, hended, _, _, rfl, ?_, ⟨_, rfl⟩, hW, hsame.mono (by decide) (by decide)⟩
        · exact retOut X0 hx Bd.returns rfl (Or.inl ⟨rfl, by simp, _, rfl⟩) (hb hby d_prog_11_method_3_code_29) hr
        · show Q_rmLow Z p1 h0 n0 _ s₁.heap _
          rw [e0]
          exact ⟨(by simp only [own_low, own_ldig, if_neg hc1, if_pos hc4, if_pos hc5]), N0, rfl⟩
      · refine own_fw (A' := (s₁.setTop (mkF m 18 #[.val (.int p1)] []))) (fun t k => XS.icmpNo X0.here hx rfl (hb hby d_prog_11_method_3_code_15) rfl (XT.ii_lt_f hc5) k) ?_
        refine own_fw (A' := (s₁.setTop (mkF m 19 #[.val (.int p1)] [(.int p1)]))) (fun t k => XS.iloadN X0.here hx rfl (hb hby d_prog_11_method_3_code_18) rfl k) ?_
        refine own_fw (A' := (s₁.setTop (mkF m 21 #[.val (.int p1)] [(.int (57 : Int32)), (.int p1)]))) (fun t k => XS.bipush X0.here hx rfl (hb hby d_prog_11_method_3_code_19) k) ?_
        by_cases hc6 : (57 : Int32) < p1
        · refine own_fw (A' := (s₁.setTop (mkF m 28 #[.val (.int p1)] []))) (fun t k => XS.icmpYes X0.here hx rfl (pc0 := 21) (pc' := 28) rfl (hb hby d_prog_11_method_3_code_21) rfl (XT.ii_gt_t hc6) (by decide) (by decide) k) ?_
          refine own_fw (A' := (s₁.setTop (mkF m 29 #[.val (.int p1)] [(.int (0 : Int32))]))) (fun t k => XS.iconst X0.here hx rfl (hb hby d_prog_11_method_3_code_28) k) ?_
          obtain ⟨fs, hr, hrun, hended, hW, hsame⟩ := X0.leave (v := some (.int (0 : Int32))) (fun h => by rw [Bd.returns] at h; cases h)
          refine ⟨_, _, ?_, hrun, hended, _, _, rfl, ?_, ⟨_, rfl⟩, hW, hsame.mono (by decide) (by decide)⟩
          · exact retOut X0 hx Bd.returns rfl (Or.inl ⟨rfl, by simp, _, rfl⟩) (hb hby d_prog_11_method_3_code_29) hr
          · show Q_rmLow Z p1 h0 n0 _ s₁.heap _
            rw [e0]
            exact ⟨(by simp only [own_low, own_ldig, if_neg hc1, if_pos hc4, if_neg hc5, if_pos hc6]), N0, rfl⟩
        · refine own_fw (A' := (s₁.setTop (mkF m 24 #[.val (.int p1)] []))) (fun t k => XS.icmpNo X0.here hx rfl (hb hby d_prog_11_method_3_code_21) rfl (XT.ii_gt_f hc6) k) ?_
          refine own_fw (A' := (s₁.setTop (mkF m 25 #[.val (.int p1)] [(.int (1 : Int32))]))) (fun t k => XS.iconst X0.here hx rfl (hb hby d_prog_11_method_3_code_24) k) ?_
          refine own_fw (A' := (s₁.setTop (mkF m 29 #[.val (.int p1)] [(.int (1 : Int32))]))) (fun t k => XS.goto X0.here hx rfl (pc0 := 25) (pc' := 29) rfl (hb hby d_prog_11_method_3_code_25) (by decide) (by decide) k) ?_
          obtain ⟨fs, hr, hrun, hended, hW, hsame⟩ := X0.leave (v := some (.int (1 : Int32))) (fun h => by rw [Bd.returns] at h; cases h)
          refine ⟨_, _, ?_, hrun, hended, _, _, rfl, ?_, ⟨_, rfl⟩, hW, hsame.mono (by decide) (by decide)⟩
          · exact retOut X0 hx Bd.returns rfl (Or.inl ⟨rfl, by simp, _, rfl⟩) (hb hby d_prog_11_method_3_code_29) hr
          · show Q_rmLow Z p1 h0 n0 _ s₁.heap _
            rw [e0]
            exact ⟨(by simp only [own_low, own_ldig, if_neg hc1, if_pos hc4, if_neg hc5, if_neg hc6]), N0, rfl⟩
    · refine own_fw (A' := (s₁.setTop (mkF m 24 #[.val (.int p1)] []))) (fun t k => XS.icmpYes X0.here hx rfl (pc0 := 9) (pc' := 24) rfl (hb hby d_prog_11_method_3_code_9) rfl (XT.ii_le_t hc4) (by decide) (by decide) k) ?_
      refine own_fw (A' := (s₁.setTop (mkF m 25 #[.val (.int p1)] [(.int (1 : Int32))]))) (fun t k => XS.iconst X0.here hx rfl (hb hby d_prog_11_method_3_code_24) k) ?_
      refine own_fw (A' := (s₁.setTop (mkF m 29 #[.val (.int p1)] [(.int (1 : Int32))]))) (fun t k => XS.goto X0.here hx rfl (pc0 := 25) (pc' := 29) rfl (hb hby d_prog_11_method_3_code_25) (by decide) (by decide) k) ?_
      obtain ⟨fs, hr, hrun, hended, hW, hsame⟩ := X0.leave (v := some (.int (1 : Int32))) (fun h => by rw [Bd.returns] at h; cases h)
      refine ⟨_, _, ?_, hrun, hended, _, _, rfl, ?_, ⟨_, rfl⟩, hW, hsame.mono (by decide) (by decide)⟩
      · exact retOut X0 hx Bd.returns rfl (Or.inl ⟨rfl, by simp, _, rfl⟩) (hb hby d_prog_11_method_3_code_29) hr
      · show Q_rmLow Z p1 h0 n0 _ s₁.heap _
        rw [e0]
        exact ⟨(by simp only [own_low, own_ldig, if_neg hc1, if_neg hc4]), N0, rfl⟩
theorem d_method_4_code_0 : decode method_4_code 0 = .ok (.iload_n 1, 1) := by decide +kernel
theorem d_method_4_code_1 : decode method_4_code 1 = .ok (.iload_n 2, 1) := by decide +kernel
theorem d_method_4_code_2 : decode method_4_code 2 = .ok (.if_icmp .lt 19, 3) := by decide +kernel
theorem d_method_4_code_21 : decode method_4_code 21 = .ok (.iconst 1, 1) := by decide +kernel
theorem d_method_4_code_22 : decode method_4_code 22 = .ok (.goto 4, 3) := by decide +kernel
theorem d_method_4_code_26 : decode method_4_code 26 = .ok (.ireturn, 1) := by decide +kernel
theorem d_method_4_code_5 : decode method_4_code 5 = .ok (.iload_n 1, 1) := by decide +kernel
theorem d_method_4_code_6 : decode method_4_code 6 = .ok (.iload_n 2, 1) := by decide +kernel
theorem d_method_4_code_7 : decode method_4_code 7 = .ok (.iload_n 3, 1) := by decide +kernel
theorem d_method_4_code_8 : decode method_4_code 8 = .ok (.iadd, 1) := by decide +kernel
theorem d_method_4_code_9 : decode method_4_code 9 = .ok (.if_icmp .ge 12, 3) := by decide +kernel
theorem d_method_4_code_12 : decode method_4_code 12 = .ok (.aload_n 0, 1) := by decide +kernel
theorem d_method_4_code_13 : decode method_4_code 13 = .ok (.iload_n 1, 1) := by decide +kernel
theorem d_method_4_code_14 : decode method_4_code 14 = .ok (.baload, 1) := by decide +kernel
theorem d_method_4_code_15 : decode method_4_code 15 = .ok (.invokestatic 15, 3) := by decide +kernel
theorem pd__B_Z : parseMethodDescriptor "(B)Z" = some ⟨[.byte], some .boolean⟩ := by decide +kernel
theorem d_method_4_code_18 : decode method_4_code 18 = .ok (.ifCond .eq 7, 3) := by decide +kernel
theorem d_method_4_code_25 : decode method_4_code 25 = .ok (.iconst 0, 1) := by decide +kernel
theorem ef_rmOk0 (m : MethodId) (a1 : Addr) (p3 : Int32) (p4 : Int32) : entryFrame m #[(.ref a1), (.int (0 : Int32)), (.int p3), (.int p4)] 4 = mkF m 0 #[.val (.ref a1), .val (.int (0 : Int32)), .val (.int p3), .val (.int p4)] [] := by first | (simp [entryFrame, mkF, argsToLocals, Value.category]; done) | rfl
def Q_rmOk0 (Z : State) (a1 : Addr) (k1 : ClassId) (b0 : Int32) (b1 : Int32) (b2 : Int32) (b3 : Int32) (b4 : Int32) (b5 : Int32) (b6 : Int32) (b7 : Int32) (fb : Int32) (p3 : Int32) (p4 : Int32) (h0 : Heap) (n0 : Nat) (v : Option Value) (h : Heap) (L : List Loc) : Prop := v = some (.int (own_ok (0 : Int32) p3 p4 b0)) ∧ Fr n0 L ∧ h = h0
set_option maxRecDepth 65536 in
set_option maxHeartbeats 40000000 in
theorem rmOk0 (l : Launch) (Z : State) (a0 : Array Value) (hw : ∀ d ∈ tables_1, d.before a0 Z = true) (ws : List Jvm.Cond) (a1 : Addr) (k1 : ClassId) (b0 : Int32) (b1 : Int32) (b2 : Int32) (b3 : Int32) (b4 : Int32) (b5 : Int32) (b6 : Int32) (b7 : Int32) (fb : Int32) (p3 : Int32) (p4 : Int32) (h0 : Heap) (n0 : Nat) (Z0 : n0 ≤ h0.size) (P0 : Arv Z h0 a1 k1 .byte (40 : Int32) [(.int b0), (.int b1), (.int b2), (.int b3), (.int b4), (.int b5), (.int b6), (.int b7), (.int fb), (.int fb), (.int fb), (.int fb), (.int fb), (.int fb), (.int fb), (.int fb), (.int fb), (.int fb), (.int fb), (.int fb), (.int fb), (.int fb), (.int fb), (.int fb), (.int fb), (.int fb), (.int fb), (.int fb), (.int fb), (.int fb), (.int fb), (.int fb), (.int fb), (.int fb), (.int fb), (.int fb), (.int fb), (.int fb), (.int fb), (.int fb)] (.int (0 : Int32))) :
    MetFree l (⟨"com/example/log_to_isles/logtoisles/model/NodeNameFollowsPinLaw", "okAt", "([BIII)Z"⟩ : MethodName) (head1 (Jvm.Cond.code (⟨"com/example/log_to_isles/logtoisles/model/NodeNameFollowsPinLaw", "okAt", "([BIII)Z"⟩ : MethodName) method_4_code 4 (some .boolean) :: ws) ({ frames := 1, cells := 0, slots := 0, locals := 13 } : Room)) (fun a U => a = #[(.ref a1), (.int (0 : Int32)), (.int p3), (.int p4)] ∧ Z.Warmed39 U.vm ∧ U.heap = h0) (fun _ _ _ _ _ => True) (fun _ U o U' => ∃ v L, o = .returned v ∧ Q_rmOk0 Z a1 k1 b0 b1 b2 b3 b4 b5 b6 b7 fb p3 p4 h0 n0 v U'.heap L ∧ FrameEnd U o U' L ({ frames := 1, cells := 0, slots := 0, locals := 13 } : Room).cells ({ frames := 1, cells := 0, slots := 0, locals := 13 } : Room).slots) := by
  refine MetFree.of_bodySF (plainFor_of_name pn_com_example_log_to_isles_logtoisles_model_NodeNameFollowsPinLaw) hisR ?_
  intro p e s m args below meth c s₁ Bd hml0 hP hK
  obtain ⟨rfl, hZ, hh⟩ := hP
  have hx := Bd.exec
  have hby := Bd.bytes
  have hml : c.maxLocals = 4 := hml0
  have hown : s.vm.findClass "com/example/log_to_isles/logtoisles/model/NodeNameFollowsPinLaw" = some m.cls := findClass_of_methodNamed Bd.named
  have hnm := (name_of_methodNamed Bd.named Bd.method).1
  have X0 : Stand p l e ({ frames := 1, cells := 0, slots := 0, locals := 13 } : Room) s m #[(.ref a1), (.int (0 : Int32)), (.int p3), (.int p4)] below meth c s₁ [] 0 0 := Stand.of_body Bd
  have e0 : s₁.heap = h0 := by rw [← hh, Bd.state]; rfl
  have N0 := Fr.nil n0
  refine own_fw (A' := (s₁.setTop (mkF m 0 #[.val (.ref a1), .val (.int (0 : Int32)), .val (.int p3), .val (.int p4)] []))) (fun t k => castTop (ef_rmOk0 m a1 p3 p4) k) ?_
  refine own_fw (A' := (s₁.setTop (mkF m 1 #[.val (.ref a1), .val (.int (0 : Int32)), .val (.int p3), .val (.int p4)] [(.int (0 : Int32))]))) (fun t k => XS.iloadN X0.here hx rfl (hb hby d_method_4_code_0) rfl k) ?_
  refine own_fw (A' := (s₁.setTop (mkF m 2 #[.val (.ref a1), .val (.int (0 : Int32)), .val (.int p3), .val (.int p4)] [(.int p3), (.int (0 : Int32))]))) (fun t k => XS.iloadN X0.here hx rfl (hb hby d_method_4_code_1) rfl k) ?_
  by_cases hc1 : (0 : Int32) < p3
  · refine own_fw (A' := (s₁.setTop (mkF m 21 #[.val (.ref a1), .val (.int (0 : Int32)), .val (.int p3), .val (.int p4)] []))) (fun t k => XS.icmpYes X0.here hx rfl (pc0 := 2) (pc' := 21) rfl (hb hby d_method_4_code_2) rfl (XT.ii_lt_t hc1) (by decide) (by decide) k) ?_
    refine own_fw (A' := (s₁.setTop (mkF m 22 #[.val (.ref a1), .val (.int (0 : Int32)), .val (.int p3), .val (.int p4)] [(.int (1 : Int32))]))) (fun t k => XS.iconst X0.here hx rfl (hb hby d_method_4_code_21) k) ?_
    refine own_fw (A' := (s₁.setTop (mkF m 26 #[.val (.ref a1), .val (.int (0 : Int32)), .val (.int p3), .val (.int p4)] [(.int (1 : Int32))]))) (fun t k => XS.goto X0.here hx rfl (pc0 := 22) (pc' := 26) rfl (hb hby d_method_4_code_22) (by decide) (by decide) k) ?_
    obtain ⟨fs, hr, hrun, hended, hW, hsame⟩ := X0.leave (v := some (.int (1 : Int32))) (fun h => by rw [Bd.returns] at h; cases h)
    refine ⟨_, _, ?_, hrun, hended, _, _, rfl, ?_, ⟨_, rfl⟩, hW, hsame.mono (by decide) (by decide)⟩
    · exact retOut X0 hx Bd.returns rfl (Or.inl ⟨rfl, by simp, _, rfl⟩) (hb hby d_method_4_code_26) hr
    · show Q_rmOk0 Z a1 k1 b0 b1 b2 b3 b4 b5 b6 b7 fb p3 p4 h0 n0 _ s₁.heap _
      rw [e0]
      exact ⟨(by simp only [own_ok, if_pos hc1]), N0, rfl⟩
  · refine own_fw (A' := (s₁.setTop (mkF m 5 #[.val (.ref a1), .val (.int (0 : Int32)), .val (.int p3), .val (.int p4)] []))) (fun t k => XS.icmpNo X0.here hx rfl (hb hby d_method_4_code_2) rfl (XT.ii_lt_f hc1) k) ?_
    refine own_fw (A' := (s₁.setTop (mkF m 6 #[.val (.ref a1), .val (.int (0 : Int32)), .val (.int p3), .val (.int p4)] [(.int (0 : Int32))]))) (fun t k => XS.iloadN X0.here hx rfl (hb hby d_method_4_code_5) rfl k) ?_
    refine own_fw (A' := (s₁.setTop (mkF m 7 #[.val (.ref a1), .val (.int (0 : Int32)), .val (.int p3), .val (.int p4)] [(.int p3), (.int (0 : Int32))]))) (fun t k => XS.iloadN X0.here hx rfl (hb hby d_method_4_code_6) rfl k) ?_
    refine own_fw (A' := (s₁.setTop (mkF m 8 #[.val (.ref a1), .val (.int (0 : Int32)), .val (.int p3), .val (.int p4)] [(.int p4), (.int p3), (.int (0 : Int32))]))) (fun t k => XS.iloadN X0.here hx rfl (hb hby d_method_4_code_7) rfl k) ?_
    refine own_fw (A' := (s₁.setTop (mkF m 9 #[.val (.ref a1), .val (.int (0 : Int32)), .val (.int p3), .val (.int p4)] [(.int (p3 + p4)), (.int (0 : Int32))]))) (fun t k => XS.iadd X0.here hx rfl (hb hby d_method_4_code_8) rfl k) ?_
    by_cases hc2 : (0 : Int32) < (p3 + p4)
    · refine own_fw (A' := (s₁.setTop (mkF m 12 #[.val (.ref a1), .val (.int (0 : Int32)), .val (.int p3), .val (.int p4)] []))) (fun t k => XS.icmpNo X0.here hx rfl (hb hby d_method_4_code_9) rfl (XT.ii_ge_f hc2) k) ?_
      refine own_fw (A' := (s₁.setTop (mkF m 13 #[.val (.ref a1), .val (.int (0 : Int32)), .val (.int p3), .val (.int p4)] [(.ref a1)]))) (fun t k => XS.aloadN X0.here hx rfl (hb hby d_method_4_code_12) rfl rfl k) ?_
      refine own_fw (A' := (s₁.setTop (mkF m 14 #[.val (.ref a1), .val (.int (0 : Int32)), .val (.int p3), .val (.int p4)] [(.int (0 : Int32)), (.ref a1)]))) (fun t k => XS.iloadN X0.here hx rfl (hb hby d_method_4_code_13) rfl k) ?_
      obtain ⟨cl3, Ar3, q3, S3, M3, H3, G3⟩ := id P0
      have hin3 : ¬ ((0 : Int32) < 0 ∨ cl3.slots.size ≤ ((0 : Int32)).toNatClampNeg) := inb_of S3 ⟨by decide, by decide⟩
      have hat3 : cl3.slots[((0 : Int32)).toNatClampNeg]? = some (.int b0) := H3.at hin3 rfl
      refine own_fw (A' := (s₁.setTop (mkF m 15 #[.val (.ref a1), .val (.int (0 : Int32)), .val (.int p3), .val (.int p4)] [(.int b0)]))) (fun t k => X0.baloadBytes hx (j := (0 : Int32)) (v := (.int b0)) (by rw [e0]; exact Ar3.1) (State.isArrayOf_alike hZ.alike Ar3.2.1) Ar3.2.2 hin3 hat3 (g := (mkF m 14 #[.val (.ref a1), .val (.int (0 : Int32)), .val (.int p3), .val (.int p4)] [(.int (0 : Int32)), (.ref a1)])) rfl rfl (hb hby d_method_4_code_14) _ k) ?_
      obtain ⟨_, _, ⟨T4, L4, k4, n4⟩, -, X4, ⟨Lc4, hQ4, l4, y4, z4⟩, st4⟩ := Jvm.LawKit.callS X0 hx (y := (⟨"com/example/log_to_isles/logtoisles/model/NodeNameFollowsPinLaw", "valid", "(B)Z"⟩ : MethodName)) hown (mvT hZ (hw _ (List.mem_of_getElem? (i := 41) rfl))) (mvT hZ (hw _ (List.mem_of_getElem? (i := 42) rfl))) (mvT hZ (hw _ (List.mem_of_getElem? (i := 2) rfl))) (mvT hZ (hw _ (List.mem_of_getElem? (i := 43) rfl))) (by decide) (backOf (W := 0) (rmVal l Z a0 hw [] b0 h0 n0 Z0 ) hZ (hw _ (List.mem_of_getElem? (i := 43) rfl)) (hw _ (List.mem_of_getElem? (i := 2) rfl)) (by decide) (by decide)) (g := (mkF m 15 #[.val (.ref a1), .val (.int (0 : Int32)), .val (.int p3), .val (.int p4)] [(.int b0)])) rfl (by rw [hml]; rfl) (argsL := [(.int b0)]) (rest := []) (lenOf pd__B_Z rfl) rfl (by show 2 * 0 + _ ≤ _; exact Nat.le_of_eq rfl) (hb hby d_method_4_code_15) (fun _ _ => ⟨rfl, e0, (by decide : 0 + 0 ≤ _), (by decide : 0 + 0 ≤ _)⟩)
      dsimp only [Pt.U, Pt.locs, Pt.cells, Pt.slots] at X4 l4 y4 z4 st4 hQ4
      subst l4 y4 z4
      obtain ⟨rfl, Nq4, e4⟩ := hQ4
      have Nf4 := Fr.app N0 Nq4
      refine own_fw (A' := (T4.setTop (mkF m 18 #[.val (.ref a1), .val (.int (0 : Int32)), .val (.int p3), .val (.int p4)] [(.int (own_valid b0))]))) (fun t k => st4 _ k) ?_
      by_cases hc5 : (own_valid b0) = (0 : Int32)
      · refine own_fw (A' := (T4.setTop (mkF m 25 #[.val (.ref a1), .val (.int (0 : Int32)), .val (.int p3), .val (.int p4)] []))) (fun t k => XS.ifYes X4.here hx rfl (pc0 := 18) (pc' := 25) rfl (hb hby d_method_4_code_18) rfl (XT.i0_eq_t hc5) (by decide) (by decide) k) ?_
        refine own_fw (A' := (T4.setTop (mkF m 26 #[.val (.ref a1), .val (.int (0 : Int32)), .val (.int p3), .val (.int p4)] [(.int (0 : Int32))]))) (fun t k => XS.iconst X4.here hx rfl (hb hby d_method_4_code_25) k) ?_
        obtain ⟨fs, hr, hrun, hended, hW, hsame⟩ := X4.leave (v := some (.int (0 : Int32))) (fun h => by rw [Bd.returns] at h; cases h)
        refine ⟨_, _, ?_, hrun, hended, _, _, rfl, ?_, ⟨_, rfl⟩, hW, hsame.mono (by decide) (by decide)⟩
        · exact retOut X4 hx Bd.returns rfl (Or.inl ⟨rfl, by simp, _, rfl⟩) (hb hby d_method_4_code_26) hr
        · show Q_rmOk0 Z a1 k1 b0 b1 b2 b3 b4 b5 b6 b7 fb p3 p4 h0 n0 _ T4.heap _
          rw [e4]
          exact ⟨(by simp only [own_ok, if_neg hc1, if_pos hc2, if_pos hc5]), Nf4, rfl⟩
      · refine own_fw (A' := (T4.setTop (mkF m 21 #[.val (.ref a1), .val (.int (0 : Int32)), .val (.int p3), .val (.int p4)] []))) (fun t k => XS.ifNo X4.here hx rfl (hb hby d_method_4_code_18) rfl (XT.i0_eq_f hc5) k) ?_
        refine own_fw (A' := (T4.setTop (mkF m 22 #[.val (.ref a1), .val (.int (0 : Int32)), .val (.int p3), .val (.int p4)] [(.int (1 : Int32))]))) (fun t k => XS.iconst X4.here hx rfl (hb hby d_method_4_code_21) k) ?_
        refine own_fw (A' := (T4.setTop (mkF m 26 #[.val (.ref a1), .val (.int (0 : Int32)), .val (.int p3), .val (.int p4)] [(.int (1 : Int32))]))) (fun t k => XS.goto X4.here hx rfl (pc0 := 22) (pc' := 26) rfl (hb hby d_method_4_code_22) (by decide) (by decide) k) ?_
        obtain ⟨fs, hr, hrun, hended, hW, hsame⟩ := X4.leave (v := some (.int (1 : Int32))) (fun h => by rw [Bd.returns] at h; cases h)
        refine ⟨_, _, ?_, hrun, hended, _, _, rfl, ?_, ⟨_, rfl⟩, hW, hsame.mono (by decide) (by decide)⟩
        · exact retOut X4 hx Bd.returns rfl (Or.inl ⟨rfl, by simp, _, rfl⟩) (hb hby d_method_4_code_26) hr
        · show Q_rmOk0 Z a1 k1 b0 b1 b2 b3 b4 b5 b6 b7 fb p3 p4 h0 n0 _ T4.heap _
          rw [e4]
          exact ⟨(by simp only [own_ok, if_neg hc1, if_pos hc2, if_neg hc5]), Nf4, rfl⟩
    · refine own_fw (A' := (s₁.setTop (mkF m 21 #[.val (.ref a1), .val (.int (0 : Int32)), .val (.int p3), .val (.int p4)] []))) (fun t k => XS.icmpYes X0.here hx rfl (pc0 := 9) (pc' := 21) rfl (hb hby d_method_4_code_9) rfl (XT.ii_ge_t hc2) (by decide) (by decide) k) ?_
      refine own_fw (A' := (s₁.setTop (mkF m 22 #[.val (.ref a1), .val (.int (0 : Int32)), .val (.int p3), .val (.int p4)] [(.int (1 : Int32))]))) (fun t k => XS.iconst X0.here hx rfl (hb hby d_method_4_code_21) k) ?_
      refine own_fw (A' := (s₁.setTop (mkF m 26 #[.val (.ref a1), .val (.int (0 : Int32)), .val (.int p3), .val (.int p4)] [(.int (1 : Int32))]))) (fun t k => XS.goto X0.here hx rfl (pc0 := 22) (pc' := 26) rfl (hb hby d_method_4_code_22) (by decide) (by decide) k) ?_
      obtain ⟨fs, hr, hrun, hended, hW, hsame⟩ := X0.leave (v := some (.int (1 : Int32))) (fun h => by rw [Bd.returns] at h; cases h)
      refine ⟨_, _, ?_, hrun, hended, _, _, rfl, ?_, ⟨_, rfl⟩, hW, hsame.mono (by decide) (by decide)⟩
      · exact retOut X0 hx Bd.returns rfl (Or.inl ⟨rfl, by simp, _, rfl⟩) (hb hby d_method_4_code_26) hr
      · show Q_rmOk0 Z a1 k1 b0 b1 b2 b3 b4 b5 b6 b7 fb p3 p4 h0 n0 _ s₁.heap _
        rw [e0]
        exact ⟨(by simp only [own_ok, if_neg hc1, if_neg hc2]), N0, rfl⟩
theorem ef_rmOk1 (m : MethodId) (a1 : Addr) (p3 : Int32) (p4 : Int32) : entryFrame m #[(.ref a1), (.int (1 : Int32)), (.int p3), (.int p4)] 4 = mkF m 0 #[.val (.ref a1), .val (.int (1 : Int32)), .val (.int p3), .val (.int p4)] [] := by first | (simp [entryFrame, mkF, argsToLocals, Value.category]; done) | rfl
def Q_rmOk1 (Z : State) (a1 : Addr) (k1 : ClassId) (b0 : Int32) (b1 : Int32) (b2 : Int32) (b3 : Int32) (b4 : Int32) (b5 : Int32) (b6 : Int32) (b7 : Int32) (fb : Int32) (p3 : Int32) (p4 : Int32) (h0 : Heap) (n0 : Nat) (v : Option Value) (h : Heap) (L : List Loc) : Prop := v = some (.int (own_ok (1 : Int32) p3 p4 b1)) ∧ Fr n0 L ∧ h = h0
set_option maxRecDepth 65536 in
set_option maxHeartbeats 40000000 in
theorem rmOk1 (l : Launch) (Z : State) (a0 : Array Value) (hw : ∀ d ∈ tables_1, d.before a0 Z = true) (ws : List Jvm.Cond) (a1 : Addr) (k1 : ClassId) (b0 : Int32) (b1 : Int32) (b2 : Int32) (b3 : Int32) (b4 : Int32) (b5 : Int32) (b6 : Int32) (b7 : Int32) (fb : Int32) (p3 : Int32) (p4 : Int32) (h0 : Heap) (n0 : Nat) (Z0 : n0 ≤ h0.size) (P0 : Arv Z h0 a1 k1 .byte (40 : Int32) [(.int b0), (.int b1), (.int b2), (.int b3), (.int b4), (.int b5), (.int b6), (.int b7), (.int fb), (.int fb), (.int fb), (.int fb), (.int fb), (.int fb), (.int fb), (.int fb), (.int fb), (.int fb), (.int fb), (.int fb), (.int fb), (.int fb), (.int fb), (.int fb), (.int fb), (.int fb), (.int fb), (.int fb), (.int fb), (.int fb), (.int fb), (.int fb), (.int fb), (.int fb), (.int fb), (.int fb), (.int fb), (.int fb), (.int fb), (.int fb)] (.int (0 : Int32))) :
    MetFree l (⟨"com/example/log_to_isles/logtoisles/model/NodeNameFollowsPinLaw", "okAt", "([BIII)Z"⟩ : MethodName) (head1 (Jvm.Cond.code (⟨"com/example/log_to_isles/logtoisles/model/NodeNameFollowsPinLaw", "okAt", "([BIII)Z"⟩ : MethodName) method_4_code 4 (some .boolean) :: ws) ({ frames := 1, cells := 0, slots := 0, locals := 13 } : Room)) (fun a U => a = #[(.ref a1), (.int (1 : Int32)), (.int p3), (.int p4)] ∧ Z.Warmed39 U.vm ∧ U.heap = h0) (fun _ _ _ _ _ => True) (fun _ U o U' => ∃ v L, o = .returned v ∧ Q_rmOk1 Z a1 k1 b0 b1 b2 b3 b4 b5 b6 b7 fb p3 p4 h0 n0 v U'.heap L ∧ FrameEnd U o U' L ({ frames := 1, cells := 0, slots := 0, locals := 13 } : Room).cells ({ frames := 1, cells := 0, slots := 0, locals := 13 } : Room).slots) := by
  refine MetFree.of_bodySF (plainFor_of_name pn_com_example_log_to_isles_logtoisles_model_NodeNameFollowsPinLaw) hisR ?_
  intro p e s m args below meth c s₁ Bd hml0 hP hK
  obtain ⟨rfl, hZ, hh⟩ := hP
  have hx := Bd.exec
  have hby := Bd.bytes
  have hml : c.maxLocals = 4 := hml0
  have hown : s.vm.findClass "com/example/log_to_isles/logtoisles/model/NodeNameFollowsPinLaw" = some m.cls := findClass_of_methodNamed Bd.named
  have hnm := (name_of_methodNamed Bd.named Bd.method).1
  have X0 : Stand p l e ({ frames := 1, cells := 0, slots := 0, locals := 13 } : Room) s m #[(.ref a1), (.int (1 : Int32)), (.int p3), (.int p4)] below meth c s₁ [] 0 0 := Stand.of_body Bd
  have e0 : s₁.heap = h0 := by rw [← hh, Bd.state]; rfl
  have N0 := Fr.nil n0
  refine own_fw (A' := (s₁.setTop (mkF m 0 #[.val (.ref a1), .val (.int (1 : Int32)), .val (.int p3), .val (.int p4)] []))) (fun t k => castTop (ef_rmOk1 m a1 p3 p4) k) ?_
  refine own_fw (A' := (s₁.setTop (mkF m 1 #[.val (.ref a1), .val (.int (1 : Int32)), .val (.int p3), .val (.int p4)] [(.int (1 : Int32))]))) (fun t k => XS.iloadN X0.here hx rfl (hb hby d_method_4_code_0) rfl k) ?_
  refine own_fw (A' := (s₁.setTop (mkF m 2 #[.val (.ref a1), .val (.int (1 : Int32)), .val (.int p3), .val (.int p4)] [(.int p3), (.int (1 : Int32))]))) (fun t k => XS.iloadN X0.here hx rfl (hb hby d_method_4_code_1) rfl k) ?_
  by_cases hc1 : (1 : Int32) < p3
  · refine own_fw (A' := (s₁.setTop (mkF m 21 #[.val (.ref a1), .val (.int (1 : Int32)), .val (.int p3), .val (.int p4)] []))) (fun t k => XS.icmpYes X0.here hx rfl (pc0 := 2) (pc' := 21) rfl (hb hby d_method_4_code_2) rfl (XT.ii_lt_t hc1) (by decide) (by decide) k) ?_
    refine own_fw (A' := (s₁.setTop (mkF m 22 #[.val (.ref a1), .val (.int (1 : Int32)), .val (.int p3), .val (.int p4)] [(.int (1 : Int32))]))) (fun t k => XS.iconst X0.here hx rfl (hb hby d_method_4_code_21) k) ?_
    refine own_fw (A' := (s₁.setTop (mkF m 26 #[.val (.ref a1), .val (.int (1 : Int32)), .val (.int p3), .val (.int p4)] [(.int (1 : Int32))]))) (fun t k => XS.goto X0.here hx rfl (pc0 := 22) (pc' := 26) rfl (hb hby d_method_4_code_22) (by decide) (by decide) k) ?_
    obtain ⟨fs, hr, hrun, hended, hW, hsame⟩ := X0.leave (v := some (.int (1 : Int32))) (fun h => by rw [Bd.returns] at h; cases h)
    refine ⟨_, _, ?_, hrun, hended, _, _, rfl, ?_, ⟨_, rfl⟩, hW, hsame.mono (by decide) (by decide)⟩
    · exact retOut X0 hx Bd.returns rfl (Or.inl ⟨rfl, by simp, _, rfl⟩) (hb hby d_method_4_code_26) hr
    · show Q_rmOk1 Z a1 k1 b0 b1 b2 b3 b4 b5 b6 b7 fb p3 p4 h0 n0 _ s₁.heap _
      rw [e0]
      exact ⟨(by simp only [own_ok, if_pos hc1]), N0, rfl⟩
  · refine own_fw (A' := (s₁.setTop (mkF m 5 #[.val (.ref a1), .val (.int (1 : Int32)), .val (.int p3), .val (.int p4)] []))) (fun t k => XS.icmpNo X0.here hx rfl (hb hby d_method_4_code_2) rfl (XT.ii_lt_f hc1) k) ?_
    refine own_fw (A' := (s₁.setTop (mkF m 6 #[.val (.ref a1), .val (.int (1 : Int32)), .val (.int p3), .val (.int p4)] [(.int (1 : Int32))]))) (fun t k => XS.iloadN X0.here hx rfl (hb hby d_method_4_code_5) rfl k) ?_
    refine own_fw (A' := (s₁.setTop (mkF m 7 #[.val (.ref a1), .val (.int (1 : Int32)), .val (.int p3), .val (.int p4)] [(.int p3), (.int (1 : Int32))]))) (fun t k => XS.iloadN X0.here hx rfl (hb hby d_method_4_code_6) rfl k) ?_
    refine own_fw (A' := (s₁.setTop (mkF m 8 #[.val (.ref a1), .val (.int (1 : Int32)), .val (.int p3), .val (.int p4)] [(.int p4), (.int p3), (.int (1 : Int32))]))) (fun t k => XS.iloadN X0.here hx rfl (hb hby d_method_4_code_7) rfl k) ?_
    refine own_fw (A' := (s₁.setTop (mkF m 9 #[.val (.ref a1), .val (.int (1 : Int32)), .val (.int p3), .val (.int p4)] [(.int (p3 + p4)), (.int (1 : Int32))]))) (fun t k => XS.iadd X0.here hx rfl (hb hby d_method_4_code_8) rfl k) ?_
    by_cases hc2 : (1 : Int32) < (p3 + p4)
    · refine own_fw (A' := (s₁.setTop (mkF m 12 #[.val (.ref a1), .val (.int (1 : Int32)), .val (.int p3), .val (.int p4)] []))) (fun t k => XS.icmpNo X0.here hx rfl (hb hby d_method_4_code_9) rfl (XT.ii_ge_f hc2) k) ?_
      refine own_fw (A' := (s₁.setTop (mkF m 13 #[.val (.ref a1), .val (.int (1 : Int32)), .val (.int p3), .val (.int p4)] [(.ref a1)]))) (fun t k => XS.aloadN X0.here hx rfl (hb hby d_method_4_code_12) rfl rfl k) ?_
      refine own_fw (A' := (s₁.setTop (mkF m 14 #[.val (.ref a1), .val (.int (1 : Int32)), .val (.int p3), .val (.int p4)] [(.int (1 : Int32)), (.ref a1)]))) (fun t k => XS.iloadN X0.here hx rfl (hb hby d_method_4_code_13) rfl k) ?_
      obtain ⟨cl3, Ar3, q3, S3, M3, H3, G3⟩ := id P0
      have hin3 : ¬ ((1 : Int32) < 0 ∨ cl3.slots.size ≤ ((1 : Int32)).toNatClampNeg) := inb_of S3 ⟨by decide, by decide⟩
      have hat3 : cl3.slots[((1 : Int32)).toNatClampNeg]? = some (.int b1) := H3.at hin3 rfl
      refine own_fw (A' := (s₁.setTop (mkF m 15 #[.val (.ref a1), .val (.int (1 : Int32)), .val (.int p3), .val (.int p4)] [(.int b1)]))) (fun t k => X0.baloadBytes hx (j := (1 : Int32)) (v := (.int b1)) (by rw [e0]; exact Ar3.1) (State.isArrayOf_alike hZ.alike Ar3.2.1) Ar3.2.2 hin3 hat3 (g := (mkF m 14 #[.val (.ref a1), .val (.int (1 : Int32)), .val (.int p3), .val (.int p4)] [(.int (1 : Int32)), (.ref a1)])) rfl rfl (hb hby d_method_4_code_14) _ k) ?_
      obtain ⟨_, _, ⟨T4, L4, k4, n4⟩, -, X4, ⟨Lc4, hQ4, l4, y4, z4⟩, st4⟩ := Jvm.LawKit.callS X0 hx (y := (⟨"com/example/log_to_isles/logtoisles/model/NodeNameFollowsPinLaw", "valid", "(B)Z"⟩ : MethodName)) hown (mvT hZ (hw _ (List.mem_of_getElem? (i := 41) rfl))) (mvT hZ (hw _ (List.mem_of_getElem? (i := 42) rfl))) (mvT hZ (hw _ (List.mem_of_getElem? (i := 2) rfl))) (mvT hZ (hw _ (List.mem_of_getElem? (i := 43) rfl))) (by decide) (backOf (W := 0) (rmVal l Z a0 hw [] b1 h0 n0 Z0 ) hZ (hw _ (List.mem_of_getElem? (i := 43) rfl)) (hw _ (List.mem_of_getElem? (i := 2) rfl)) (by decide) (by decide)) (g := (mkF m 15 #[.val (.ref a1), .val (.int (1 : Int32)), .val (.int p3), .val (.int p4)] [(.int b1)])) rfl (by rw [hml]; rfl) (argsL := [(.int b1)]) (rest := []) (lenOf pd__B_Z rfl) rfl (by show 2 * 0 + _ ≤ _; exact Nat.le_of_eq rfl) (hb hby d_method_4_code_15) (fun _ _ => ⟨rfl, e0, (by decide : 0 + 0 ≤ _), (by decide : 0 + 0 ≤ _)⟩)
      dsimp only [Pt.U, Pt.locs, Pt.cells, Pt.slots] at X4 l4 y4 z4 st4 hQ4
      subst l4 y4 z4
      obtain ⟨rfl, Nq4, e4⟩ := hQ4
      have Nf4 := Fr.app N0 Nq4
      refine own_fw (A' := (T4.setTop (mkF m 18 #[.val (.ref a1), .val (.int (1 : Int32)), .val (.int p3), .val (.int p4)] [(.int (own_valid b1))]))) (fun t k => st4 _ k) ?_
      by_cases hc5 : (own_valid b1) = (0 : Int32)
      · refine own_fw (A' := (T4.setTop (mkF m 25 #[.val (.ref a1), .val (.int (1 : Int32)), .val (.int p3), .val (.int p4)] []))) (fun t k => XS.ifYes X4.here hx rfl (pc0 := 18) (pc' := 25) rfl (hb hby d_method_4_code_18) rfl (XT.i0_eq_t hc5) (by decide) (by decide) k) ?_
        refine own_fw (A' := (T4.setTop (mkF m 26 #[.val (.ref a1), .val (.int (1 : Int32)), .val (.int p3), .val (.int p4)] [(.int (0 : Int32))]))) (fun t k => XS.iconst X4.here hx rfl (hb hby d_method_4_code_25) k) ?_
        obtain ⟨fs, hr, hrun, hended, hW, hsame⟩ := X4.leave (v := some (.int (0 : Int32))) (fun h => by rw [Bd.returns] at h; cases h)
        refine ⟨_, _, ?_, hrun, hended, _, _, rfl, ?_, ⟨_, rfl⟩, hW, hsame.mono (by decide) (by decide)⟩
        · exact retOut X4 hx Bd.returns rfl (Or.inl ⟨rfl, by simp, _, rfl⟩) (hb hby d_method_4_code_26) hr
        · show Q_rmOk1 Z a1 k1 b0 b1 b2 b3 b4 b5 b6 b7 fb p3 p4 h0 n0 _ T4.heap _
          rw [e4]
          exact ⟨(by simp only [own_ok, if_neg hc1, if_pos hc2, if_pos hc5]), Nf4, rfl⟩
      · refine own_fw (A' := (T4.setTop (mkF m 21 #[.val (.ref a1), .val (.int (1 : Int32)), .val (.int p3), .val (.int p4)] []))) (fun t k => XS.ifNo X4.here hx rfl (hb hby d_method_4_code_18) rfl (XT.i0_eq_f hc5) k) ?_
        refine own_fw (A' := (T4.setTop (mkF m 22 #[.val (.ref a1), .val (.int (1 : Int32)), .val (.int p3), .val (.int p4)] [(.int (1 : Int32))]))) (fun t k => XS.iconst X4.here hx rfl (hb hby d_method_4_code_21) k) ?_
        refine own_fw (A' := (T4.setTop (mkF m 26 #[.val (.ref a1), .val (.int (1 : Int32)), .val (.int p3), .val (.int p4)] [(.int (1 : Int32))]))) (fun t k => XS.goto X4.here hx rfl (pc0 := 22) (pc' := 26) rfl (hb hby d_method_4_code_22) (by decide) (by decide) k) ?_
        obtain ⟨fs, hr, hrun, hended, hW, hsame⟩ := X4.leave (v := some (.int (1 : Int32))) (fun h => by rw [Bd.returns] at h; cases h)
        refine ⟨_, _, ?_, hrun, hended, _, _, rfl, ?_, ⟨_, rfl⟩, hW, hsame.mono (by decide) (by decide)⟩
        · exact retOut X4 hx Bd.returns rfl (Or.inl ⟨rfl, by simp, _, rfl⟩) (hb hby d_method_4_code_26) hr
        · show Q_rmOk1 Z a1 k1 b0 b1 b2 b3 b4 b5 b6 b7 fb p3 p4 h0 n0 _ T4.heap _
          rw [e4]
          exact ⟨(by simp only [own_ok, if_neg hc1, if_pos hc2, if_neg hc5]), Nf4, rfl⟩
    · refine own_fw (A' := (s₁.setTop (mkF m 21 #[.val (.ref a1), .val (.int (1 : Int32)), .val (.int p3), .val (.int p4)] []))) (fun t k => XS.icmpYes X0.here hx rfl (pc0 := 9) (pc' := 21) rfl (hb hby d_method_4_code_9) rfl (XT.ii_ge_t hc2) (by decide) (by decide) k) ?_
      refine own_fw (A' := (s₁.setTop (mkF m 22 #[.val (.ref a1), .val (.int (1 : Int32)), .val (.int p3), .val (.int p4)] [(.int (1 : Int32))]))) (fun t k => XS.iconst X0.here hx rfl (hb hby d_method_4_code_21) k) ?_
      refine own_fw (A' := (s₁.setTop (mkF m 26 #[.val (.ref a1), .val (.int (1 : Int32)), .val (.int p3), .val (.int p4)] [(.int (1 : Int32))]))) (fun t k => XS.goto X0.here hx rfl (pc0 := 22) (pc' := 26) rfl (hb hby d_method_4_code_22) (by decide) (by decide) k) ?_
      obtain ⟨fs, hr, hrun, hended, hW, hsame⟩ := X0.leave (v := some (.int (1 : Int32))) (fun h => by rw [Bd.returns] at h; cases h)
      refine ⟨_, _, ?_, hrun, hended, _, _, rfl, ?_, ⟨_, rfl⟩, hW, hsame.mono (by decide) (by decide)⟩
      · exact retOut X0 hx Bd.returns rfl (Or.inl ⟨rfl, by simp, _, rfl⟩) (hb hby d_method_4_code_26) hr
      · show Q_rmOk1 Z a1 k1 b0 b1 b2 b3 b4 b5 b6 b7 fb p3 p4 h0 n0 _ s₁.heap _
        rw [e0]
        exact ⟨(by simp only [own_ok, if_neg hc1, if_neg hc2]), N0, rfl⟩
theorem ef_rmOk2 (m : MethodId) (a1 : Addr) (p3 : Int32) (p4 : Int32) : entryFrame m #[(.ref a1), (.int (2 : Int32)), (.int p3), (.int p4)] 4 = mkF m 0 #[.val (.ref a1), .val (.int (2 : Int32)), .val (.int p3), .val (.int p4)] [] := by first | (simp [entryFrame, mkF, argsToLocals, Value.category]; done) | rfl
def Q_rmOk2 (Z : State) (a1 : Addr) (k1 : ClassId) (b0 : Int32) (b1 : Int32) (b2 : Int32) (b3 : Int32) (b4 : Int32) (b5 : Int32) (b6 : Int32) (b7 : Int32) (fb : Int32) (p3 : Int32) (p4 : Int32) (h0 : Heap) (n0 : Nat) (v : Option Value) (h : Heap) (L : List Loc) : Prop := v = some (.int (own_ok (2 : Int32) p3 p4 b2)) ∧ Fr n0 L ∧ h = h0
set_option maxRecDepth 65536 in
set_option maxHeartbeats 40000000 in
theorem rmOk2 (l : Launch) (Z : State) (a0 : Array Value) (hw : ∀ d ∈ tables_1, d.before a0 Z = true) (ws : List Jvm.Cond) (a1 : Addr) (k1 : ClassId) (b0 : Int32) (b1 : Int32) (b2 : Int32) (b3 : Int32) (b4 : Int32) (b5 : Int32) (b6 : Int32) (b7 : Int32) (fb : Int32) (p3 : Int32) (p4 : Int32) (h0 : Heap) (n0 : Nat) (Z0 : n0 ≤ h0.size) (P0 : Arv Z h0 a1 k1 .byte (40 : Int32) [(.int b0), (.int b1), (.int b2), (.int b3), (.int b4), (.int b5), (.int b6), (.int b7), (.int fb), (.int fb), (.int fb), (.int fb), (.int fb), (.int fb), (.int fb), (.int fb), (.int fb), (.int fb), (.int fb), (.int fb), (.int fb), (.int fb), (.int fb), (.int fb), (.int fb), (.int fb), (.int fb), (.int fb), (.int fb), (.int fb), (.int fb), (.int fb), (.int fb), (.int fb), (.int fb), (.int fb), (.int fb), (.int fb), (.int fb), (.int fb)] (.int (0 : Int32))) :
    MetFree l (⟨"com/example/log_to_isles/logtoisles/model/NodeNameFollowsPinLaw", "okAt", "([BIII)Z"⟩ : MethodName) (head1 (Jvm.Cond.code (⟨"com/example/log_to_isles/logtoisles/model/NodeNameFollowsPinLaw", "okAt", "([BIII)Z"⟩ : MethodName) method_4_code 4 (some .boolean) :: ws) ({ frames := 1, cells := 0, slots := 0, locals := 13 } : Room)) (fun a U => a = #[(.ref a1), (.int (2 : Int32)), (.int p3), (.int p4)] ∧ Z.Warmed39 U.vm ∧ U.heap = h0) (fun _ _ _ _ _ => True) (fun _ U o U' => ∃ v L, o = .returned v ∧ Q_rmOk2 Z a1 k1 b0 b1 b2 b3 b4 b5 b6 b7 fb p3 p4 h0 n0 v U'.heap L ∧ FrameEnd U o U' L ({ frames := 1, cells := 0, slots := 0, locals := 13 } : Room).cells ({ frames := 1, cells := 0, slots := 0, locals := 13 } : Room).slots) := by
  refine MetFree.of_bodySF (plainFor_of_name pn_com_example_log_to_isles_logtoisles_model_NodeNameFollowsPinLaw) hisR ?_
  intro p e s m args below meth c s₁ Bd hml0 hP hK
  obtain ⟨rfl, hZ, hh⟩ := hP
  have hx := Bd.exec
  have hby := Bd.bytes
  have hml : c.maxLocals = 4 := hml0
  have hown : s.vm.findClass "com/example/log_to_isles/logtoisles/model/NodeNameFollowsPinLaw" = some m.cls := findClass_of_methodNamed Bd.named
  have hnm := (name_of_methodNamed Bd.named Bd.method).1
  have X0 : Stand p l e ({ frames := 1, cells := 0, slots := 0, locals := 13 } : Room) s m #[(.ref a1), (.int (2 : Int32)), (.int p3), (.int p4)] below meth c s₁ [] 0 0 := Stand.of_body Bd
  have e0 : s₁.heap = h0 := by rw [← hh, Bd.state]; rfl
  have N0 := Fr.nil n0
  refine own_fw (A' := (s₁.setTop (mkF m 0 #[.val (.ref a1), .val (.int (2 : Int32)), .val (.int p3), .val (.int p4)] []))) (fun t k => castTop (ef_rmOk2 m a1 p3 p4) k) ?_
  refine own_fw (A' := (s₁.setTop (mkF m 1 #[.val (.ref a1), .val (.int (2 : Int32)), .val (.int p3), .val (.int p4)] [(.int (2 : Int32))]))) (fun t k => XS.iloadN X0.here hx rfl (hb hby d_method_4_code_0) rfl k) ?_
  refine own_fw (A' := (s₁.setTop (mkF m 2 #[.val (.ref a1), .val (.int (2 : Int32)), .val (.int p3), .val (.int p4)] [(.int p3), (.int (2 : Int32))]))) (fun t k => XS.iloadN X0.here hx rfl (hb hby d_method_4_code_1) rfl k) ?_
  by_cases hc1 : (2 : Int32) < p3
  · refine own_fw (A' := (s₁.setTop (mkF m 21 #[.val (.ref a1), .val (.int (2 : Int32)), .val (.int p3), .val (.int p4)] []))) (fun t k => XS.icmpYes X0.here hx rfl (pc0 := 2) (pc' := 21) rfl (hb hby d_method_4_code_2) rfl (XT.ii_lt_t hc1) (by decide) (by decide) k) ?_
    refine own_fw (A' := (s₁.setTop (mkF m 22 #[.val (.ref a1), .val (.int (2 : Int32)), .val (.int p3), .val (.int p4)] [(.int (1 : Int32))]))) (fun t k => XS.iconst X0.here hx rfl (hb hby d_method_4_code_21) k) ?_
    refine own_fw (A' := (s₁.setTop (mkF m 26 #[.val (.ref a1), .val (.int (2 : Int32)), .val (.int p3), .val (.int p4)] [(.int (1 : Int32))]))) (fun t k => XS.goto X0.here hx rfl (pc0 := 22) (pc' := 26) rfl (hb hby d_method_4_code_22) (by decide) (by decide) k) ?_
    obtain ⟨fs, hr, hrun, hended, hW, hsame⟩ := X0.leave (v := some (.int (1 : Int32))) (fun h => by rw [Bd.returns] at h; cases h)
    refine ⟨_, _, ?_, hrun, hended, _, _, rfl, ?_, ⟨_, rfl⟩, hW, hsame.mono (by decide) (by decide)⟩
    · exact retOut X0 hx Bd.returns rfl (Or.inl ⟨rfl, by simp, _, rfl⟩) (hb hby d_method_4_code_26) hr
    · show Q_rmOk2 Z a1 k1 b0 b1 b2 b3 b4 b5 b6 b7 fb p3 p4 h0 n0 _ s₁.heap _
      rw [e0]
      exact ⟨(by simp only [own_ok, if_pos hc1]), N0, rfl⟩
  · refine own_fw (A' := (s₁.setTop (mkF m 5 #[.val (.ref a1), .val (.int (2 : Int32)), .val (.int p3), .val (.int p4)] []))) (fun t k => XS.icmpNo X0.here hx rfl (hb hby d_method_4_code_2) rfl (XT.ii_lt_f hc1) k) ?_
    refine own_fw (A' := (s₁.setTop (mkF m 6 #[.val (.ref a1), .val (.int (2 : Int32)), .val (.int p3), .val (.int p4)] [(.int (2 : Int32))]))) (fun t k => XS.iloadN X0.here hx rfl (hb hby d_method_4_code_5) rfl k) ?_
    refine own_fw (A' := (s₁.setTop (mkF m 7 #[.val (.ref a1), .val (.int (2 : Int32)), .val (.int p3), .val (.int p4)] [(.int p3), (.int (2 : Int32))]))) (fun t k => XS.iloadN X0.here hx rfl (hb hby d_method_4_code_6) rfl k) ?_
    refine own_fw (A' := (s₁.setTop (mkF m 8 #[.val (.ref a1), .val (.int (2 : Int32)), .val (.int p3), .val (.int p4)] [(.int p4), (.int p3), (.int (2 : Int32))]))) (fun t k => XS.iloadN X0.here hx rfl (hb hby d_method_4_code_7) rfl k) ?_
    refine own_fw (A' := (s₁.setTop (mkF m 9 #[.val (.ref a1), .val (.int (2 : Int32)), .val (.int p3), .val (.int p4)] [(.int (p3 + p4)), (.int (2 : Int32))]))) (fun t k => XS.iadd X0.here hx rfl (hb hby d_method_4_code_8) rfl k) ?_
    by_cases hc2 : (2 : Int32) < (p3 + p4)
    · refine own_fw (A' := (s₁.setTop (mkF m 12 #[.val (.ref a1), .val (.int (2 : Int32)), .val (.int p3), .val (.int p4)] []))) (fun t k => XS.icmpNo X0.here hx rfl (hb hby d_method_4_code_9) rfl (XT.ii_ge_f hc2) k) ?_
      refine own_fw (A' := (s₁.setTop (mkF m 13 #[.val (.ref a1), .val (.int (2 : Int32)), .val (.int p3), .val (.int p4)] [(.ref a1)]))) (fun t k => XS.aloadN X0.here hx rfl (hb hby d_method_4_code_12) rfl rfl k) ?_
      refine own_fw (A' := (s₁.setTop (mkF m 14 #[.val (.ref a1), .val (.int (2 : Int32)), .val (.int p3), .val (.int p4)] [(.int (2 : Int32)), (.ref a1)]))) (fun t k => XS.iloadN X0.here hx rfl (hb hby d_method_4_code_13) rfl k) ?_
      obtain ⟨cl3, Ar3, q3, S3, M3, H3, G3⟩ := id P0
      have hin3 : ¬ ((2 : Int32) < 0 ∨ cl3.slots.size ≤ ((2 : Int32)).toNatClampNeg) := inb_of S3 ⟨by decide, by decide⟩
      have hat3 : cl3.slots[((2 : Int32)).toNatClampNeg]? = some (.int b2) := H3.at hin3 rfl
      refine own_fw (A' := (s₁.setTop (mkF m 15 #[.val (.ref a1), .val (.int (2 : Int32)), .val (.int p3), .val (.int p4)] [(.int b2)]))) (fun t k => X0.baloadBytes hx (j := (2 : Int32)) (v := (.int b2)) (by rw [e0]; exact Ar3.1) (State.isArrayOf_alike hZ.alike Ar3.2.1) Ar3.2.2 hin3 hat3 (g := (mkF m 14 #[.val (.ref a1), .val (.int (2 : Int32)), .val (.int p3), .val (.int p4)] [(.int (2 : Int32)), (.ref a1)])) rfl rfl (hb hby d_method_4_code_14) _ k) ?_
      obtain ⟨_, _, ⟨T4, L4, k4, n4⟩, -, X4, ⟨Lc4, hQ4, l4, y4, z4⟩, st4⟩ := Jvm.LawKit.callS X0 hx (y := (⟨"com/example/log_to_isles/logtoisles/model/NodeNameFollowsPinLaw", "valid", "(B)Z"⟩ : MethodName)) hown (mvT hZ (hw _ (List.mem_of_getElem? (i := 41) rfl))) (mvT hZ (hw _ (List.mem_of_getElem? (i := 42) rfl))) (mvT hZ (hw _ (List.mem_of_getElem? (i := 2) rfl))) (mvT hZ (hw _ (List.mem_of_getElem? (i := 43) rfl))) (by decide) (backOf (W := 0) (rmVal l Z a0 hw [] b2 h0 n0 Z0 ) hZ (hw _ (List.mem_of_getElem? (i := 43) rfl)) (hw _ (List.mem_of_getElem? (i := 2) rfl)) (by decide) (by decide)) (g := (mkF m 15 #[.val (.ref a1), .val (.int (2 : Int32)), .val (.int p3), .val (.int p4)] [(.int b2)])) rfl (by rw [hml]; rfl) (argsL := [(.int b2)]) (rest := []) (lenOf pd__B_Z rfl) rfl (by show 2 * 0 + _ ≤ _; exact Nat.le_of_eq rfl) (hb hby d_method_4_code_15) (fun _ _ => ⟨rfl, e0, (by decide : 0 + 0 ≤ _), (by decide : 0 + 0 ≤ _)⟩)
      dsimp only [Pt.U, Pt.locs, Pt.cells, Pt.slots] at X4 l4 y4 z4 st4 hQ4
      subst l4 y4 z4
      obtain ⟨rfl, Nq4, e4⟩ := hQ4
      have Nf4 := Fr.app N0 Nq4
      refine own_fw (A' := (T4.setTop (mkF m 18 #[.val (.ref a1), .val (.int (2 : Int32)), .val (.int p3), .val (.int p4)] [(.int (own_valid b2))]))) (fun t k => st4 _ k) ?_
      by_cases hc5 : (own_valid b2) = (0 : Int32)
      · refine own_fw (A' := (T4.setTop (mkF m 25 #[.val (.ref a1), .val (.int (2 : Int32)), .val (.int p3), .val (.int p4)] []))) (fun t k => XS.ifYes X4.here hx rfl (pc0 := 18) (pc' := 25) rfl (hb hby d_method_4_code_18) rfl (XT.i0_eq_t hc5) (by decide) (by decide) k) ?_
        refine own_fw (A' := (T4.setTop (mkF m 26 #[.val (.ref a1), .val (.int (2 : Int32)), .val (.int p3), .val (.int p4)] [(.int (0 : Int32))]))) (fun t k => XS.iconst X4.here hx rfl (hb hby d_method_4_code_25) k) ?_
        obtain ⟨fs, hr, hrun, hended, hW, hsame⟩ := X4.leave (v := some (.int (0 : Int32))) (fun h => by rw [Bd.returns] at h; cases h)
        refine ⟨_, _, ?_, hrun, hended, _, _, rfl, ?_, ⟨_, rfl⟩, hW, hsame.mono (by decide) (by decide)⟩
        · exact retOut X4 hx Bd.returns rfl (Or.inl ⟨rfl, by simp, _, rfl⟩) (hb hby d_method_4_code_26) hr
        · show Q_rmOk2 Z a1 k1 b0 b1 b2 b3 b4 b5 b6 b7 fb p3 p4 h0 n0 _ T4.heap _
          rw [e4]
          exact ⟨(by simp only [own_ok, if_neg hc1, if_pos hc2, if_pos hc5]), Nf4, rfl⟩
      · refine own_fw (A' := (T4.setTop (mkF m 21 #[.val (.ref a1), .val (.int (2 : Int32)), .val (.int p3), .val (.int p4)] []))) (fun t k => XS.ifNo X4.here hx rfl (hb hby d_method_4_code_18) rfl (XT.i0_eq_f hc5) k) ?_
        refine own_fw (A' := (T4.setTop (mkF m 22 #[.val (.ref a1), .val (.int (2 : Int32)), .val (.int p3), .val (.int p4)] [(.int (1 : Int32))]))) (fun t k => XS.iconst X4.here hx rfl (hb hby d_method_4_code_21) k) ?_
        refine own_fw (A' := (T4.setTop (mkF m 26 #[.val (.ref a1), .val (.int (2 : Int32)), .val (.int p3), .val (.int p4)] [(.int (1 : Int32))]))) (fun t k => XS.goto X4.here hx rfl (pc0 := 22) (pc' := 26) rfl (hb hby d_method_4_code_22) (by decide) (by decide) k) ?_
        obtain ⟨fs, hr, hrun, hended, hW, hsame⟩ := X4.leave (v := some (.int (1 : Int32))) (fun h => by rw [Bd.returns] at h; cases h)
        refine ⟨_, _, ?_, hrun, hended, _, _, rfl, ?_, ⟨_, rfl⟩, hW, hsame.mono (by decide) (by decide)⟩
        · exact retOut X4 hx Bd.returns rfl (Or.inl ⟨rfl, by simp, _, rfl⟩) (hb hby d_method_4_code_26) hr
        · show Q_rmOk2 Z a1 k1 b0 b1 b2 b3 b4 b5 b6 b7 fb p3 p4 h0 n0 _ T4.heap _
          rw [e4]
          exact ⟨(by simp only [own_ok, if_neg hc1, if_pos hc2, if_neg hc5]), Nf4, rfl⟩
    · refine own_fw (A' := (s₁.setTop (mkF m 21 #[.val (.ref a1), .val (.int (2 : Int32)), .val (.int p3), .val (.int p4)] []))) (fun t k => XS.icmpYes X0.here hx rfl (pc0 := 9) (pc' := 21) rfl (hb hby d_method_4_code_9) rfl (XT.ii_ge_t hc2) (by decide) (by decide) k) ?_
      refine own_fw (A' := (s₁.setTop (mkF m 22 #[.val (.ref a1), .val (.int (2 : Int32)), .val (.int p3), .val (.int p4)] [(.int (1 : Int32))]))) (fun t k => XS.iconst X0.here hx rfl (hb hby d_method_4_code_21) k) ?_
      refine own_fw (A' := (s₁.setTop (mkF m 26 #[.val (.ref a1), .val (.int (2 : Int32)), .val (.int p3), .val (.int p4)] [(.int (1 : Int32))]))) (fun t k => XS.goto X0.here hx rfl (pc0 := 22) (pc' := 26) rfl (hb hby d_method_4_code_22) (by decide) (by decide) k) ?_
      obtain ⟨fs, hr, hrun, hended, hW, hsame⟩ := X0.leave (v := some (.int (1 : Int32))) (fun h => by rw [Bd.returns] at h; cases h)
      refine ⟨_, _, ?_, hrun, hended, _, _, rfl, ?_, ⟨_, rfl⟩, hW, hsame.mono (by decide) (by decide)⟩
      · exact retOut X0 hx Bd.returns rfl (Or.inl ⟨rfl, by simp, _, rfl⟩) (hb hby d_method_4_code_26) hr
      · show Q_rmOk2 Z a1 k1 b0 b1 b2 b3 b4 b5 b6 b7 fb p3 p4 h0 n0 _ s₁.heap _
        rw [e0]
        exact ⟨(by simp only [own_ok, if_neg hc1, if_neg hc2]), N0, rfl⟩
theorem ef_rmOk3 (m : MethodId) (a1 : Addr) (p3 : Int32) (p4 : Int32) : entryFrame m #[(.ref a1), (.int (3 : Int32)), (.int p3), (.int p4)] 4 = mkF m 0 #[.val (.ref a1), .val (.int (3 : Int32)), .val (.int p3), .val (.int p4)] [] := by first | (simp [entryFrame, mkF, argsToLocals, Value.category]; done) | rfl
def Q_rmOk3 (Z : State) (a1 : Addr) (k1 : ClassId) (b0 : Int32) (b1 : Int32) (b2 : Int32) (b3 : Int32) (b4 : Int32) (b5 : Int32) (b6 : Int32) (b7 : Int32) (fb : Int32) (p3 : Int32) (p4 : Int32) (h0 : Heap) (n0 : Nat) (v : Option Value) (h : Heap) (L : List Loc) : Prop := v = some (.int (own_ok (3 : Int32) p3 p4 b3)) ∧ Fr n0 L ∧ h = h0
set_option maxRecDepth 65536 in
set_option maxHeartbeats 40000000 in
theorem rmOk3 (l : Launch) (Z : State) (a0 : Array Value) (hw : ∀ d ∈ tables_1, d.before a0 Z = true) (ws : List Jvm.Cond) (a1 : Addr) (k1 : ClassId) (b0 : Int32) (b1 : Int32) (b2 : Int32) (b3 : Int32) (b4 : Int32) (b5 : Int32) (b6 : Int32) (b7 : Int32) (fb : Int32) (p3 : Int32) (p4 : Int32) (h0 : Heap) (n0 : Nat) (Z0 : n0 ≤ h0.size) (P0 : Arv Z h0 a1 k1 .byte (40 : Int32) [(.int b0), (.int b1), (.int b2), (.int b3), (.int b4), (.int b5), (.int b6), (.int b7), (.int fb), (.int fb), (.int fb), (.int fb), (.int fb), (.int fb), (.int fb), (.int fb), (.int fb), (.int fb), (.int fb), (.int fb), (.int fb), (.int fb), (.int fb), (.int fb), (.int fb), (.int fb), (.int fb), (.int fb), (.int fb), (.int fb), (.int fb), (.int fb), (.int fb), (.int fb), (.int fb), (.int fb), (.int fb), (.int fb), (.int fb), (.int fb)] (.int (0 : Int32))) :
    MetFree l (⟨"com/example/log_to_isles/logtoisles/model/NodeNameFollowsPinLaw", "okAt", "([BIII)Z"⟩ : MethodName) (head1 (Jvm.Cond.code (⟨"com/example/log_to_isles/logtoisles/model/NodeNameFollowsPinLaw", "okAt", "([BIII)Z"⟩ : MethodName) method_4_code 4 (some .boolean) :: ws) ({ frames := 1, cells := 0, slots := 0, locals := 13 } : Room)) (fun a U => a = #[(.ref a1), (.int (3 : Int32)), (.int p3), (.int p4)] ∧ Z.Warmed39 U.vm ∧ U.heap = h0) (fun _ _ _ _ _ => True) (fun _ U o U' => ∃ v L, o = .returned v ∧ Q_rmOk3 Z a1 k1 b0 b1 b2 b3 b4 b5 b6 b7 fb p3 p4 h0 n0 v U'.heap L ∧ FrameEnd U o U' L ({ frames := 1, cells := 0, slots := 0, locals := 13 } : Room).cells ({ frames := 1, cells := 0, slots := 0, locals := 13 } : Room).slots) := by
  refine MetFree.of_bodySF (plainFor_of_name pn_com_example_log_to_isles_logtoisles_model_NodeNameFollowsPinLaw) hisR ?_
  intro p e s m args below meth c s₁ Bd hml0 hP hK
  obtain ⟨rfl, hZ, hh⟩ := hP
  have hx := Bd.exec
  have hby := Bd.bytes
  have hml : c.maxLocals = 4 := hml0
  have hown : s.vm.findClass "com/example/log_to_isles/logtoisles/model/NodeNameFollowsPinLaw" = some m.cls := findClass_of_methodNamed Bd.named
  have hnm := (name_of_methodNamed Bd.named Bd.method).1
  have X0 : Stand p l e ({ frames := 1, cells := 0, slots := 0, locals := 13 } : Room) s m #[(.ref a1), (.int (3 : Int32)), (.int p3), (.int p4)] below meth c s₁ [] 0 0 := Stand.of_body Bd
  have e0 : s₁.heap = h0 := by rw [← hh, Bd.state]; rfl
  have N0 := Fr.nil n0
  refine own_fw (A' := (s₁.setTop (mkF m 0 #[.val (.ref a1), .val (.int (3 : Int32)), .val (.int p3), .val (.int p4)] []))) (fun t k => castTop (ef_rmOk3 m a1 p3 p4) k) ?_
  refine own_fw (A' := (s₁.setTop (mkF m 1 #[.val (.ref a1), .val (.int (3 : Int32)), .val (.int p3), .val (.int p4)] [(.int (3 : Int32))]))) (fun t k => XS.iloadN X0.here hx rfl (hb hby d_method_4_code_0) rfl k) ?_
  refine own_fw (A' := (s₁.setTop (mkF m 2 #[.val (.ref a1), .val (.int (3 : Int32)), .val (.int p3), .val (.int p4)] [(.int p3), (.int (3 : Int32))]))) (fun t k => XS.iloadN X0.here hx rfl (hb hby d_method_4_code_1) rfl k) ?_
  by_cases hc1 : (3 : Int32) < p3
  · refine own_fw (A' := (s₁.setTop (mkF m 21 #[.val (.ref a1), .val (.int (3 : Int32)), .val (.int p3), .val (.int p4)] []))) (fun t k => XS.icmpYes X0.here hx rfl (pc0 := 2) (pc' := 21) rfl (hb hby d_method_4_code_2) rfl (XT.ii_lt_t hc1) (by decide) (by decide) k) ?_
    refine own_fw (A' := (s₁.setTop (mkF m 22 #[.val (.ref a1), .val (.int (3 : Int32)), .val (.int p3), .val (.int p4)] [(.int (1 : Int32))]))) (fun t k => XS.iconst X0.here hx rfl (hb hby d_method_4_code_21) k) ?_
    refine own_fw (A' := (s₁.setTop (mkF m 26 #[.val (.ref a1), .val (.int (3 : Int32)), .val (.int p3), .val (.int p4)] [(.int (1 : Int32))]))) (fun t k => XS.goto X0.here hx rfl (pc0 := 22) (pc' := 26) rfl (hb hby d_method_4_code_22) (by decide) (by decide) k) ?_
    obtain ⟨fs, hr, hrun, hended, hW, hsame⟩ := X0.leave (v := some (.int (1 : Int32))) (fun h => by rw [Bd.returns] at h; cases h)
    refine ⟨_, _, ?_, hrun, hended, _, _, rfl, ?_, ⟨_, rfl⟩, hW, hsame.mono (by decide) (by decide)⟩
    · exact retOut X0 hx Bd.returns rfl (Or.inl ⟨rfl, by simp, _, rfl⟩) (hb hby d_method_4_code_26) hr
    · show Q_rmOk3 Z a1 k1 b0 b1 b2 b3 b4 b5 b6 b7 fb p3 p4 h0 n0 _ s₁.heap _
      rw [e0]
      exact ⟨(by simp only [own_ok, if_pos hc1]), N0, rfl⟩
  · refine own_fw (A' := (s₁.setTop (mkF m 5 #[.val (.ref a1), .val (.int (3 : Int32)), .val (.int p3), .val (.int p4)] []))) (fun t k => XS.icmpNo X0.here hx rfl (hb hby d_method_4_code_2) rfl (XT.ii_lt_f hc1) k) ?_
    refine own_fw (A' := (s₁.setTop (mkF m 6 #[.val (.ref a1), .val (.int (3 : Int32)), .val (.int p3), .val (.int p4)] [(.int (3 : Int32))]))) (fun t k => XS.iloadN X0.here hx rfl (hb hby d_method_4_code_5) rfl k) ?_
    refine own_fw (A' := (s₁.setTop (mkF m 7 #[.val (.ref a1), .val (.int (3 : Int32)), .val (.int p3), .val (.int p4)] [(.int p3), (.int (3 : Int32))]))) (fun t k => XS.iloadN X0.here hx rfl (hb hby d_method_4_code_6) rfl k) ?_
    refine own_fw (A' := (s₁.setTop (mkF m 8 #[.val (.ref a1), .val (.int (3 : Int32)), .val (.int p3), .val (.int p4)] [(.int p4), (.int p3), (.int (3 : Int32))]))) (fun t k => XS.iloadN X0.here hx rfl (hb hby d_method_4_code_7) rfl k) ?_
    refine own_fw (A' := (s₁.setTop (mkF m 9 #[.val (.ref a1), .val (.int (3 : Int32)), .val (.int p3), .val (.int p4)] [(.int (p3 + p4)), (.int (3 : Int32))]))) (fun t k => XS.iadd X0.here hx rfl (hb hby d_method_4_code_8) rfl k) ?_
    by_cases hc2 : (3 : Int32) < (p3 + p4)
    · refine own_fw (A' := (s₁.setTop (mkF m 12 #[.val (.ref a1), .val (.int (3 : Int32)), .val (.int p3), .val (.int p4)] []))) (fun t k => XS.icmpNo X0.here hx rfl (hb hby d_method_4_code_9) rfl (XT.ii_ge_f hc2) k) ?_
      refine own_fw (A' := (s₁.setTop (mkF m 13 #[.val (.ref a1), .val (.int (3 : Int32)), .val (.int p3), .val (.int p4)] [(.ref a1)]))) (fun t k => XS.aloadN X0.here hx rfl (hb hby d_method_4_code_12) rfl rfl k) ?_
      refine own_fw (A' := (s₁.setTop (mkF m 14 #[.val (.ref a1), .val (.int (3 : Int32)), .val (.int p3), .val (.int p4)] [(.int (3 : Int32)), (.ref a1)]))) (fun t k => XS.iloadN X0.here hx rfl (hb hby d_method_4_code_13) rfl k) ?_
      obtain ⟨cl3, Ar3, q3, S3, M3, H3, G3⟩ := id P0
      have hin3 : ¬ ((3 : Int32) < 0 ∨ cl3.slots.size ≤ ((3 : Int32)).toNatClampNeg) := inb_of S3 ⟨by decide, by decide⟩
      have hat3 : cl3.slots[((3 : Int32)).toNatClampNeg]? = some (.int b3) := H3.at hin3 rfl
      refine own_fw (A' := (s₁.setTop (mkF m 15 #[.val (.ref a1), .val (.int (3 : Int32)), .val (.int p3), .val (.int p4)] [(.int b3)]))) (fun t k => X0.baloadBytes hx (j := (3 : Int32)) (v := (.int b3)) (by rw [e0]; exact Ar3.1) (State.isArrayOf_alike hZ.alike Ar3.2.1) Ar3.2.2 hin3 hat3 (g := (mkF m 14 #[.val (.ref a1), .val (.int (3 : Int32)), .val (.int p3), .val (.int p4)] [(.int (3 : Int32)), (.ref a1)])) rfl rfl (hb hby d_method_4_code_14) _ k) ?_
      obtain ⟨_, _, ⟨T4, L4, k4, n4⟩, -, X4, ⟨Lc4, hQ4, l4, y4, z4⟩, st4⟩ := Jvm.LawKit.callS X0 hx (y := (⟨"com/example/log_to_isles/logtoisles/model/NodeNameFollowsPinLaw", "valid", "(B)Z"⟩ : MethodName)) hown (mvT hZ (hw _ (List.mem_of_getElem? (i := 41) rfl))) (mvT hZ (hw _ (List.mem_of_getElem? (i := 42) rfl))) (mvT hZ (hw _ (List.mem_of_getElem? (i := 2) rfl))) (mvT hZ (hw _ (List.mem_of_getElem? (i := 43) rfl))) (by decide) (backOf (W := 0) (rmVal l Z a0 hw [] b3 h0 n0 Z0 ) hZ (hw _ (List.mem_of_getElem? (i := 43) rfl)) (hw _ (List.mem_of_getElem? (i := 2) rfl)) (by decide) (by decide)) (g := (mkF m 15 #[.val (.ref a1), .val (.int (3 : Int32)), .val (.int p3), .val (.int p4)] [(.int b3)])) rfl (by rw [hml]; rfl) (argsL := [(.int b3)]) (rest := []) (lenOf pd__B_Z rfl) rfl (by show 2 * 0 + _ ≤ _; exact Nat.le_of_eq rfl) (hb hby d_method_4_code_15) (fun _ _ => ⟨rfl, e0, (by decide : 0 + 0 ≤ _), (by decide : 0 + 0 ≤ _)⟩)
      dsimp only [Pt.U, Pt.locs, Pt.cells, Pt.slots] at X4 l4 y4 z4 st4 hQ4
      subst l4 y4 z4
      obtain ⟨rfl, Nq4, e4⟩ := hQ4
      have Nf4 := Fr.app N0 Nq4
      refine own_fw (A' := (T4.setTop (mkF m 18 #[.val (.ref a1), .val (.int (3 : Int32)), .val (.int p3), .val (.int p4)] [(.int (own_valid b3))]))) (fun t k => st4 _ k) ?_
      by_cases hc5 : (own_valid b3) = (0 : Int32)
      · refine own_fw (A' := (T4.setTop (mkF m 25 #[.val (.ref a1), .val (.int (3 : Int32)), .val (.int p3), .val (.int p4)] []))) (fun t k => XS.ifYes X4.here hx rfl (pc0 := 18) (pc' := 25) rfl (hb hby d_method_4_code_18) rfl (XT.i0_eq_t hc5) (by decide) (by decide) k) ?_
        refine own_fw (A' := (T4.setTop (mkF m 26 #[.val (.ref a1), .val (.int (3 : Int32)), .val (.int p3), .val (.int p4)] [(.int (0 : Int32))]))) (fun t k => XS.iconst X4.here hx rfl (hb hby d_method_4_code_25) k) ?_
        obtain ⟨fs, hr, hrun, hended, hW, hsame⟩ := X4.leave (v := some (.int (0 : Int32))) (fun h => by rw [Bd.returns] at h; cases h)
        refine ⟨_, _, ?_, hrun, hended, _, _, rfl, ?_, ⟨_, rfl⟩, hW, hsame.mono (by decide) (by decide)⟩
        · exact retOut X4 hx Bd.returns rfl (Or.inl ⟨rfl, by simp, _, rfl⟩) (hb hby d_method_4_code_26) hr
        · show Q_rmOk3 Z a1 k1 b0 b1 b2 b3 b4 b5 b6 b7 fb p3 p4 h0 n0 _ T4.heap _
          rw [e4]
          exact ⟨(by simp only [own_ok, if_neg hc1, if_pos hc2, if_pos hc5]), Nf4, rfl⟩
      · refine own_fw (A' := (T4.setTop (mkF m 21 #[.val (.ref a1), .val (.int (3 : Int32)), .val (.int p3), .val (.int p4)] []))) (fun t k => XS.ifNo X4.here hx rfl (hb hby d_method_4_code_18) rfl (XT.i0_eq_f hc5) k) ?_
        refine own_fw (A' := (T4.setTop (mkF m 22 #[.val (.ref a1), .val (.int (3 : Int32)), .val (.int p3), .val (.int p4)] [(.int (1 : Int32))]))) (fun t k => XS.iconst X4.here hx rfl (hb hby d_method_4_code_21) k) ?_
        refine own_fw (A' := (T4.setTop (mkF m 26 #[.val (.ref a1), .val (.int (3 : Int32)), .val (.int p3), .val (.int p4)] [(.int (1 : Int32))]))) (fun t k => XS.goto X4.here hx rfl (pc0 := 22) (pc' := 26) rfl (hb hby d_method_4_code_22) (by decide) (by decide) k) ?_
        obtain ⟨fs, hr, hrun, hended, hW, hsame⟩ := X4.leave (v := some (.int (1 : Int32))) (fun h => by rw [Bd.returns] at h; cases h)
        refine ⟨_, _, ?_, hrun, hended, _, _, rfl, ?_, ⟨_, rfl⟩, hW, hsame.mono (by decide) (by decide)⟩
        · exact retOut X4 hx Bd.returns rfl (Or.inl ⟨rfl, by simp, _, rfl⟩) (hb hby d_method_4_code_26) hr
        · show Q_rmOk3 Z a1 k1 b0 b1 b2 b3 b4 b5 b6 b7 fb p3 p4 h0 n0 _ T4.heap _
          rw [e4]
          exact ⟨(by simp only [own_ok, if_neg hc1, if_pos hc2, if_neg hc5]), Nf4, rfl⟩
    · refine own_fw (A' := (s₁.setTop (mkF m 21 #[.val (.ref a1), .val (.int (3 : Int32)), .val (.int p3), .val (.int p4)] []))) (fun t k => XS.icmpYes X0.here hx rfl (pc0 := 9) (pc' := 21) rfl (hb hby d_method_4_code_9) rfl (XT.ii_ge_t hc2) (by decide) (by decide) k) ?_
      refine own_fw (A' := (s₁.setTop (mkF m 22 #[.val (.ref a1), .val (.int (3 : Int32)), .val (.int p3), .val (.int p4)] [(.int (1 : Int32))]))) (fun t k => XS.iconst X0.here hx rfl (hb hby d_method_4_code_21) k) ?_
      refine own_fw (A' := (s₁.setTop (mkF m 26 #[.val (.ref a1), .val (.int (3 : Int32)), .val (.int p3), .val (.int p4)] [(.int (1 : Int32))]))) (fun t k => XS.goto X0.here hx rfl (pc0 := 22) (pc' := 26) rfl (hb hby d_method_4_code_22) (by decide) (by decide) k) ?_
      obtain ⟨fs, hr, hrun, hended, hW, hsame⟩ := X0.leave (v := some (.int (1 : Int32))) (fun h => by rw [Bd.returns] at h; cases h)
      refine ⟨_, _, ?_, hrun, hended, _, _, rfl, ?_, ⟨_, rfl⟩, hW, hsame.mono (by decide) (by decide)⟩
      · exact retOut X0 hx Bd.returns rfl (Or.inl ⟨rfl, by simp, _, rfl⟩) (hb hby d_method_4_code_26) hr
      · show Q_rmOk3 Z a1 k1 b0 b1 b2 b3 b4 b5 b6 b7 fb p3 p4 h0 n0 _ s₁.heap _
        rw [e0]
        exact ⟨(by simp only [own_ok, if_neg hc1, if_neg hc2]), N0, rfl⟩
theorem ef_rmOk4 (m : MethodId) (a1 : Addr) (p3 : Int32) (p4 : Int32) : entryFrame m #[(.ref a1), (.int (4 : Int32)), (.int p3), (.int p4)] 4 = mkF m 0 #[.val (.ref a1), .val (.int (4 : Int32)), .val (.int p3), .val (.int p4)] [] := by first | (simp [entryFrame, mkF, argsToLocals, Value.category]; done) | rfl
def Q_rmOk4 (Z : State) (a1 : Addr) (k1 : ClassId) (b0 : Int32) (b1 : Int32) (b2 : Int32) (b3 : Int32) (b4 : Int32) (b5 : Int32) (b6 : Int32) (b7 : Int32) (fb : Int32) (p3 : Int32) (p4 : Int32) (h0 : Heap) (n0 : Nat) (v : Option Value) (h : Heap) (L : List Loc) : Prop := v = some (.int (own_ok (4 : Int32) p3 p4 b4)) ∧ Fr n0 L ∧ h = h0
set_option maxRecDepth 65536 in
set_option maxHeartbeats 40000000 in
theorem rmOk4 (l : Launch) (Z : State) (a0 : Array Value) (hw : ∀ d ∈ tables_1, d.before a0 Z = true) (ws : List Jvm.Cond) (a1 : Addr) (k1 : ClassId) (b0 : Int32) (b1 : Int32) (b2 : Int32) (b3 : Int32) (b4 : Int32) (b5 : Int32) (b6 : Int32) (b7 : Int32) (fb : Int32) (p3 : Int32) (p4 : Int32) (h0 : Heap) (n0 : Nat) (Z0 : n0 ≤ h0.size) (P0 : Arv Z h0 a1 k1 .byte (40 : Int32) [(.int b0), (.int b1), (.int b2), (.int b3), (.int b4), (.int b5), (.int b6), (.int b7), (.int fb), (.int fb), (.int fb), (.int fb), (.int fb), (.int fb), (.int fb), (.int fb), (.int fb), (.int fb), (.int fb), (.int fb), (.int fb), (.int fb), (.int fb), (.int fb), (.int fb), (.int fb), (.int fb), (.int fb), (.int fb), (.int fb), (.int fb), (.int fb), (.int fb), (.int fb), (.int fb), (.int fb), (.int fb), (.int fb), (.int fb), (.int fb)] (.int (0 : Int32))) :
    MetFree l (⟨"com/example/log_to_isles/logtoisles/model/NodeNameFollowsPinLaw", "okAt", "([BIII)Z"⟩ : MethodName) (head1 (Jvm.Cond.code (⟨"com/example/log_to_isles/logtoisles/model/NodeNameFollowsPinLaw", "okAt", "([BIII)Z"⟩ : MethodName) method_4_code 4 (some .boolean) :: ws) ({ frames := 1, cells := 0, slots := 0, locals := 13 } : Room)) (fun a U => a = #[(.ref a1), (.int (4 : Int32)), (.int p3), (.int p4)] ∧ Z.Warmed39 U.vm ∧ U.heap = h0) (fun _ _ _ _ _ => True) (fun _ U o U' => ∃ v L, o = .returned v ∧ Q_rmOk4 Z a1 k1 b0 b1 b2 b3 b4 b5 b6 b7 fb p3 p4 h0 n0 v U'.heap L ∧ FrameEnd U o U' L ({ frames := 1, cells := 0, slots := 0, locals := 13 } : Room).cells ({ frames := 1, cells := 0, slots := 0, locals := 13 } : Room).slots) := by
  refine MetFree.of_bodySF (plainFor_of_name pn_com_example_log_to_isles_logtoisles_model_NodeNameFollowsPinLaw) hisR ?_
  intro p e s m args below meth c s₁ Bd hml0 hP hK
  obtain ⟨rfl, hZ, hh⟩ := hP
  have hx := Bd.exec
  have hby := Bd.bytes
  have hml : c.maxLocals = 4 := hml0
  have hown : s.vm.findClass "com/example/log_to_isles/logtoisles/model/NodeNameFollowsPinLaw" = some m.cls := findClass_of_methodNamed Bd.named
  have hnm := (name_of_methodNamed Bd.named Bd.method).1
  have X0 : Stand p l e ({ frames := 1, cells := 0, slots := 0, locals := 13 } : Room) s m #[(.ref a1), (.int (4 : Int32)), (.int p3), (.int p4)] below meth c s₁ [] 0 0 := Stand.of_body Bd
  have e0 : s₁.heap = h0 := by rw [← hh, Bd.state]; rfl
  have N0 := Fr.nil n0
  refine own_fw (A' := (s₁.setTop (mkF m 0 #[.val (.ref a1), .val (.int (4 : Int32)), .val (.int p3), .val (.int p4)] []))) (fun t k => castTop (ef_rmOk4 m a1 p3 p4) k) ?_
  refine own_fw (A' := (s₁.setTop (mkF m 1 #[.val (.ref a1), .val (.int (4 : Int32)), .val (.int p3), .val (.int p4)] [(.int (4 : Int32))]))) (fun t k => XS.iloadN X0.here hx rfl (hb hby d_method_4_code_0) rfl k) ?_
  refine own_fw (A' := (s₁.setTop (mkF m 2 #[.val (.ref a1), .val (.int (4 : Int32)), .val (.int p3), .val (.int p4)] [(.int p3), (.int (4 : Int32))]))) (fun t k => XS.iloadN X0.here hx rfl (hb hby d_method_4_code_1) rfl k) ?_
  by_cases hc1 : (4 : Int32) < p3
  · refine own_fw (A' := (s₁.setTop (mkF m 21 #[.val (.ref a1), .val (.int (4 : Int32)), .val (.int p3), .val (.int p4)] []))) (fun t k => XS.icmpYes X0.here hx rfl (pc0 := 2) (pc' := 21) rfl (hb hby d_method_4_code_2) rfl (XT.ii_lt_t hc1) (by decide) (by decide) k) ?_
    refine own_fw (A' := (s₁.setTop (mkF m 22 #[.val (.ref a1), .val (.int (4 : Int32)), .val (.int p3), .val (.int p4)] [(.int (1 : Int32))]))) (fun t k => XS.iconst X0.here hx rfl (hb hby d_method_4_code_21) k) ?_
    refine own_fw (A' := (s₁.setTop (mkF m 26 #[.val (.ref a1), .val (.int (4 : Int32)), .val (.int p3), .val (.int p4)] [(.int (1 : Int32))]))) (fun t k => XS.goto X0.here hx rfl (pc0 := 22) (pc' := 26) rfl (hb hby d_method_4_code_22) (by decide) (by decide) k) ?_
    obtain ⟨fs, hr, hrun, hended, hW, hsame⟩ := X0.leave (v := some (.int (1 : Int32))) (fun h => by rw [Bd.returns] at h; cases h)
    refine ⟨_, _, ?_, hrun, hended, _, _, rfl, ?_, ⟨_, rfl⟩, hW, hsame.mono (by decide) (by decide)⟩
    · exact retOut X0 hx Bd.returns rfl (Or.inl ⟨rfl, by simp, _, rfl⟩) (hb hby d_method_4_code_26) hr
    · show Q_rmOk4 Z a1 k1 b0 b1 b2 b3 b4 b5 b6 b7 fb p3 p4 h0 n0 _ s₁.heap _
      rw [e0]
      exact ⟨(by simp only [own_ok, if_pos hc1]), N0, rfl⟩
  · refine own_fw (A' := (s₁.setTop (mkF m 5 #[.val (.ref a1), .val (.int (4 : Int32)), .val (.int p3), .val (.int p4)] []))) (fun t k => XS.icmpNo X0.here hx rfl (hb hby d_method_4_code_2) rfl (XT.ii_lt_f hc1) k) ?_
    refine own_fw (A' := (s₁.setTop (mkF m 6 #[.val (.ref a1), .val (.int (4 : Int32)), .val (.int p3), .val (.int p4)] [(.int (4 : Int32))]))) (fun t k => XS.iloadN X0.here hx rfl (hb hby d_method_4_code_5) rfl k) ?_
    refine own_fw (A' := (s₁.setTop (mkF m 7 #[.val (.ref a1), .val (.int (4 : Int32)), .val (.int p3), .val (.int p4)] [(.int p3), (.int (4 : Int32))]))) (fun t k => XS.iloadN X0.here hx rfl (hb hby d_method_4_code_6) rfl k) ?_
    refine own_fw (A' := (s₁.setTop (mkF m 8 #[.val (.ref a1), .val (.int (4 : Int32)), .val (.int p3), .val (.int p4)] [(.int p4), (.int p3), (.int (4 : Int32))]))) (fun t k => XS.iloadN X0.here hx rfl (hb hby d_method_4_code_7) rfl k) ?_
    refine own_fw (A' := (s₁.setTop (mkF m 9 #[.val (.ref a1), .val (.int (4 : Int32)), .val (.int p3), .val (.int p4)] [(.int (p3 + p4)), (.int (4 : Int32))]))) (fun t k => XS.iadd X0.here hx rfl (hb hby d_method_4_code_8) rfl k) ?_
    by_cases hc2 : (4 : Int32) < (p3 + p4)
    · refine own_fw (A' := (s₁.setTop (mkF m 12 #[.val (.ref a1), .val (.int (4 : Int32)), .val (.int p3), .val (.int p4)] []))) (fun t k => XS.icmpNo X0.here hx rfl (hb hby d_method_4_code_9) rfl (XT.ii_ge_f hc2) k) ?_
      refine own_fw (A' := (s₁.setTop (mkF m 13 #[.val (.ref a1), .val (.int (4 : Int32)), .val (.int p3), .val (.int p4)] [(.ref a1)]))) (fun t k => XS.aloadN X0.here hx rfl (hb hby d_method_4_code_12) rfl rfl k) ?_
      refine own_fw (A' := (s₁.setTop (mkF m 14 #[.val (.ref a1), .val (.int (4 : Int32)), .val (.int p3), .val (.int p4)] [(.int (4 : Int32)), (.ref a1)]))) (fun t k => XS.iloadN X0.here hx rfl (hb hby d_method_4_code_13) rfl k) ?_
      obtain ⟨cl3, Ar3, q3, S3, M3, H3, G3⟩ := id P0
      have hin3 : ¬ ((4 : Int32) < 0 ∨ cl3.slots.size ≤ ((4 : Int32)).toNatClampNeg) := inb_of S3 ⟨by decide, by decide⟩
      have hat3 : cl3.slots[((4 : Int32)).toNatClampNeg]? = some (.int b4) := H3.at hin3 rfl
      refine own_fw (A' := (s₁.setTop (mkF m 15 #[.val (.ref a1), .val (.int (4 : Int32)), .val (.int p3), .val (.int p4)] [(.int b4)]))) (fun t k => X0.baloadBytes hx (j := (4 : Int32)) (v := (.int b4)) (by rw [e0]; exact Ar3.1) (State.isArrayOf_alike hZ.alike Ar3.2.1) Ar3.2.2 hin3 hat3 (g := (mkF m 14 #[.val (.ref a1), .val (.int (4 : Int32)), .val (.int p3), .val (.int p4)] [(.int (4 : Int32)), (.ref a1)])) rfl rfl (hb hby d_method_4_code_14) _ k) ?_
      obtain ⟨_, _, ⟨T4, L4, k4, n4⟩, -, X4, ⟨Lc4, hQ4, l4, y4, z4⟩, st4⟩ := Jvm.LawKit.callS X0 hx (y := (⟨"com/example/log_to_isles/logtoisles/model/NodeNameFollowsPinLaw", "valid", "(B)Z"⟩ : MethodName)) hown (mvT hZ (hw _ (List.mem_of_getElem? (i := 41) rfl))) (mvT hZ (hw _ (List.mem_of_getElem? (i := 42) rfl))) (mvT hZ (hw _ (List.mem_of_getElem? (i := 2) rfl))) (mvT hZ (hw _ (List.mem_of_getElem? (i := 43) rfl))) (by decide) (backOf (W := 0) (rmVal l Z a0 hw [] b4 h0 n0 Z0 ) hZ (hw _ (List.mem_of_getElem? (i := 43) rfl)) (hw _ (List.mem_of_getElem? (i := 2) rfl)) (by decide) (by decide)) (g := (mkF m 15 #[.val (.ref a1), .val (.int (4 : Int32)), .val (.int p3), .val (.int p4)] [(.int b4)])) rfl (by rw [hml]; rfl) (argsL := [(.int b4)]) (rest := []) (lenOf pd__B_Z rfl) rfl (by show 2 * 0 + _ ≤ _; exact Nat.le_of_eq rfl) (hb hby d_method_4_code_15) (fun _ _ => ⟨rfl, e0, (by decide : 0 + 0 ≤ _), (by decide : 0 + 0 ≤ _)⟩)
      dsimp only [Pt.U, Pt.locs, Pt.cells, Pt.slots] at X4 l4 y4 z4 st4 hQ4
      subst l4 y4 z4
      obtain ⟨rfl, Nq4, e4⟩ := hQ4
      have Nf4 := Fr.app N0 Nq4
      refine own_fw (A' := (T4.setTop (mkF m 18 #[.val (.ref a1), .val (.int (4 : Int32)), .val (.int p3), .val (.int p4)] [(.int (own_valid b4))]))) (fun t k => st4 _ k) ?_
      by_cases hc5 : (own_valid b4) = (0 : Int32)
      · refine own_fw (A' := (T4.setTop (mkF m 25 #[.val (.ref a1), .val (.int (4 : Int32)), .val (.int p3), .val (.int p4)] []))) (fun t k => XS.ifYes X4.here hx rfl (pc0 := 18) (pc' := 25) rfl (hb hby d_method_4_code_18) rfl (XT.i0_eq_t hc5) (by decide) (by decide) k) ?_
        refine own_fw (A' := (T4.setTop (mkF m 26 #[.val (.ref a1), .val (.int (4 : Int32)), .val (.int p3), .val (.int p4)] [(.int (0 : Int32))]))) (fun t k => XS.iconst X4.here hx rfl (hb hby d_method_4_code_25) k) ?_
        obtain ⟨fs, hr, hrun, hended, hW, hsame⟩ := X4.leave (v := some (.int (0 : Int32))) (fun h => by rw [Bd.returns] at h; cases h)
        refine ⟨_, _, ?_, hrun, hended, _, _, rfl, ?_, ⟨_, rfl⟩, hW, hsame.mono (by decide) (by decide)⟩
        · exact retOut X4 hx Bd.returns rfl (Or.inl ⟨rfl, by simp, _, rfl⟩) (hb hby d_method_4_code_26) hr
        · show Q_rmOk4 Z a1 k1 b0 b1 b2 b3 b4 b5 b6 b7 fb p3 p4 h0 n0 _ T4.heap _
          rw [e4]
          exact ⟨(by simp only [own_ok, if_neg hc1, if_pos hc2, if_pos hc5]), Nf4, rfl⟩
      · refine own_fw (A' := (T4.setTop (mkF m 21 #[.val (.ref a1), .val (.int (4 : Int32)), .val (.int p3), .val (.int p4)] []))) (fun t k => XS.ifNo X4.here hx rfl (hb hby d_method_4_code_18) rfl (XT.i0_eq_f hc5) k) ?_
        refine own_fw (A' := (T4.setTop (mkF m 22 #[.val (.ref a1), .val (.int (4 : Int32)), .val (.int p3), .val (.int p4)] [(.int (1 : Int32))]))) (fun t k => XS.iconst X4.here hx rfl (hb hby d_method_4_code_21) k) ?_
        refine own_fw (A' := (T4.setTop (mkF m 26 #[.val (.ref a1), .val (.int (4 : Int32)), .val (.int p3), .val (.int p4)] [(.int (1 : Int32))]))) (fun t k => XS.goto X4.here hx rfl (pc0 := 22) (pc' := 26) rfl (hb hby d_method_4_code_22) (by decide) (by decide) k) ?_
        obtain ⟨fs, hr, hrun, hended, hW, hsame⟩ := X4.leave (v := some (.int (1 : Int32))) (fun h => by rw [Bd.returns] at h; cases h)
        refine ⟨_, _, ?_, hrun, hended, _, _, rfl, ?_, ⟨_, rfl⟩, hW, hsame.mono (by decide) (by decide)⟩
        · exact retOut X4 hx Bd.returns rfl (Or.inl ⟨rfl, by simp, _, rfl⟩) (hb hby d_method_4_code_26) hr
        · show Q_rmOk4 Z a1 k1 b0 b1 b2 b3 b4 b5 b6 b7 fb p3 p4 h0 n0 _ T4.heap _
          rw [e4]
          exact ⟨(by simp only [own_ok, if_neg hc1, if_pos hc2, if_neg hc5]), Nf4, rfl⟩
    · refine own_fw (A' := (s₁.setTop (mkF m 21 #[.val (.ref a1), .val (.int (4 : Int32)), .val (.int p3), .val (.int p4)] []))) (fun t k => XS.icmpYes X0.here hx rfl (pc0 := 9) (pc' := 21) rfl (hb hby d_method_4_code_9) rfl (XT.ii_ge_t hc2) (by decide) (by decide) k) ?_
      refine own_fw (A' := (s₁.setTop (mkF m 22 #[.val (.ref a1), .val (.int (4 : Int32)), .val (.int p3), .val (.int p4)] [(.int (1 : Int32))]))) (fun t k => XS.iconst X0.here hx rfl (hb hby d_method_4_code_21) k) ?_
      refine own_fw (A' := (s₁.setTop (mkF m 26 #[.val (.ref a1), .val (.int (4 : Int32)), .val (.int p3), .val (.int p4)] [(.int (1 : Int32))]))) (fun t k => XS.goto X0.here hx rfl (pc0 := 22) (pc' := 26) rfl (hb hby d_method_4_code_22) (by decide) (by decide) k) ?_
      obtain ⟨fs, hr, hrun, hended, hW, hsame⟩ := X0.leave (v := some (.int (1 : Int32))) (fun h => by rw [Bd.returns] at h; cases h)
      refine ⟨_, _, ?_, hrun, hended, _, _, rfl, ?_, ⟨_, rfl⟩, hW, hsame.mono (by decide) (by decide)⟩
      · exact retOut X0 hx Bd.returns rfl (Or.inl ⟨rfl, by simp, _, rfl⟩) (hb hby d_method_4_code_26) hr
      · show Q_rmOk4 Z a1 k1 b0 b1 b2 b3 b4 b5 b6 b7 fb p3 p4 h0 n0 _ s₁.heap _
        rw [e0]
        exact ⟨(by simp only [own_ok, if_neg hc1, if_neg hc2]), N0, rfl⟩
theorem ef_rmOk5 (m : MethodId) (a1 : Addr) (p3 : Int32) (p4 : Int32) : entryFrame m #[(.ref a1), (.int (5 : Int32)), (.int p3), (.int p4)] 4 = mkF m 0 #[.val (.ref a1), .val (.int (5 : Int32)), .val (.int p3), .val (.int p4)] [] := by first | (simp [entryFrame, mkF, argsToLocals, Value.category]; done) | rfl
def Q_rmOk5 (Z : State) (a1 : Addr) (k1 : ClassId) (b0 : Int32) (b1 : Int32) (b2 : Int32) (b3 : Int32) (b4 : Int32) (b5 : Int32) (b6 : Int32) (b7 : Int32) (fb : Int32) (p3 : Int32) (p4 : Int32) (h0 : Heap) (n0 : Nat) (v : Option Value) (h : Heap) (L : List Loc) : Prop := v = some (.int (own_ok (5 : Int32) p3 p4 b5)) ∧ Fr n0 L ∧ h = h0
set_option maxRecDepth 65536 in
set_option maxHeartbeats 40000000 in
theorem rmOk5 (l : Launch) (Z : State) (a0 : Array Value) (hw : ∀ d ∈ tables_1, d.before a0 Z = true) (ws : List Jvm.Cond) (a1 : Addr) (k1 : ClassId) (b0 : Int32) (b1 : Int32) (b2 : Int32) (b3 : Int32) (b4 : Int32) (b5 : Int32) (b6 : Int32) (b7 : Int32) (fb : Int32) (p3 : Int32) (p4 : Int32) (h0 : Heap) (n0 : Nat) (Z0 : n0 ≤ h0.size) (P0 : Arv Z h0 a1 k1 .byte (40 : Int32) [(.int b0), (.int b1), (.int b2), (.int b3), (.int b4), (.int b5), (.int b6), (.int b7), (.int fb), (.int fb), (.int fb), (.int fb), (.int fb), (.int fb), (.int fb), (.int fb), (.int fb), (.int fb), (.int fb), (.int fb), (.int fb), (.int fb), (.int fb), (.int fb), (.int fb), (.int fb), (.int fb), (.int fb), (.int fb), (.int fb), (.int fb), (.int fb), (.int fb), (.int fb), (.int fb), (.int fb), (.int fb), (.int fb), (.int fb), (.int fb)] (.int (0 : Int32))) :
    MetFree l (⟨"com/example/log_to_isles/logtoisles/model/NodeNameFollowsPinLaw", "okAt", "([BIII)Z"⟩ : MethodName) (head1 (Jvm.Cond.code (⟨"com/example/log_to_isles/logtoisles/model/NodeNameFollowsPinLaw", "okAt", "([BIII)Z"⟩ : MethodName) method_4_code 4 (some .boolean) :: ws) ({ frames := 1, cells := 0, slots := 0, locals := 13 } : Room)) (fun a U => a = #[(.ref a1), (.int (5 : Int32)), (.int p3), (.int p4)] ∧ Z.Warmed39 U.vm ∧ U.heap = h0) (fun _ _ _ _ _ => True) (fun _ U o U' => ∃ v L, o = .returned v ∧ Q_rmOk5 Z a1 k1 b0 b1 b2 b3 b4 b5 b6 b7 fb p3 p4 h0 n0 v U'.heap L ∧ FrameEnd U o U' L ({ frames := 1, cells := 0, slots := 0, locals := 13 } : Room).cells ({ frames := 1, cells := 0, slots := 0, locals := 13 } : Room).slots) := by
  refine MetFree.of_bodySF (plainFor_of_name pn_com_example_log_to_isles_logtoisles_model_NodeNameFollowsPinLaw) hisR ?_
  intro p e s m args below meth c s₁ Bd hml0 hP hK
  obtain ⟨rfl, hZ, hh⟩ := hP
  have hx := Bd.exec
  have hby := Bd.bytes
  have hml : c.maxLocals = 4 := hml0
  have hown : s.vm.findClass "com/example/log_to_isles/logtoisles/model/NodeNameFollowsPinLaw" = some m.cls := findClass_of_methodNamed Bd.named
  have hnm := (name_of_methodNamed Bd.named Bd.method).1
  have X0 : Stand p l e ({ frames := 1, cells := 0, slots := 0, locals := 13 } : Room) s m #[(.ref a1), (.int (5 : Int32)), (.int p3), (.int p4)] below meth c s₁ [] 0 0 := Stand.of_body Bd
  have e0 : s₁.heap = h0 := by rw [← hh, Bd.state]; rfl
  have N0 := Fr.nil n0
  refine own_fw (A' := (s₁.setTop (mkF m 0 #[.val (.ref a1), .val (.int (5 : Int32)), .val (.int p3), .val (.int p4)] []))) (fun t k => castTop (ef_rmOk5 m a1 p3 p4) k) ?_
  refine own_fw (A' := (s₁.setTop (mkF m 1 #[.val (.ref a1), .val (.int (5 : Int32)), .val (.int p3), .val (.int p4)] [(.int (5 : Int32))]))) (fun t k => XS.iloadN X0.here hx rfl (hb hby d_method_4_code_0) rfl k) ?_
  refine own_fw (A' := (s₁.setTop (mkF m 2 #[.val (.ref a1), .val (.int (5 : Int32)), .val (.int p3), .val (.int p4)] [(.int p3), (.int (5 : Int32))]))) (fun t k => XS.iloadN X0.here hx rfl (hb hby d_method_4_code_1) rfl k) ?_
  by_cases hc1 : (5 : Int32) < p3
  · refine own_fw (A' := (s₁.setTop (mkF m 21 #[.val (.ref a1), .val (.int (5 : Int32)), .val (.int p3), .val (.int p4)] []))) (fun t k => XS.icmpYes X0.here hx rfl (pc0 := 2) (pc' := 21) rfl (hb hby d_method_4_code_2) rfl (XT.ii_lt_t hc1) (by decide) (by decide) k) ?_
    refine own_fw (A' := (s₁.setTop (mkF m 22 #[.val (.ref a1), .val (.int (5 : Int32)), .val (.int p3), .val (.int p4)] [(.int (1 : Int32))]))) (fun t k => XS.iconst X0.here hx rfl (hb hby d_method_4_code_21) k) ?_
    refine own_fw (A' := (s₁.setTop (mkF m 26 #[.val (.ref a1), .val (.int (5 : Int32)), .val (.int p3), .val (.int p4)] [(.int (1 : Int32))]))) (fun t k => XS.goto X0.here hx rfl (pc0 := 22) (pc' := 26) rfl (hb hby d_method_4_code_22) (by decide) (by decide) k) ?_
    obtain ⟨fs, hr, hrun, hended, hW, hsame⟩ := X0.leave (v := some (.int (1 : Int32))) (fun h => by rw [Bd.returns] at h; cases h)
    refine ⟨_, _, ?_, hrun, hended, _, _, rfl, ?_, ⟨_, rfl⟩, hW, hsame.mono (by decide) (by decide)⟩
    · exact retOut X0 hx Bd.returns rfl (Or.inl ⟨rfl, by simp, _, rfl⟩) (hb hby d_method_4_code_26) hr
    · show Q_rmOk5 Z a1 k1 b0 b1 b2 b3 b4 b5 b6 b7 fb p3 p4 h0 n0 _ s₁.heap _
      rw [e0]
      exact ⟨(by simp only [own_ok, if_pos hc1]), N0, rfl⟩
  · refine own_fw (A' := (s₁.setTop (mkF m 5 #[.val (.ref a1), .val (.int (5 : Int32)), .val (.int p3), .val (.int p4)] []))) (fun t k => XS.icmpNo X0.here hx rfl (hb hby d_method_4_code_2) rfl (XT.ii_lt_f hc1) k) ?_
    refine own_fw (A' := (s₁.setTop (mkF m 6 #[.val (.ref a1), .val (.int (5 : Int32)), .val (.int p3), .val (.int p4)] [(.int (5 : Int32))]))) (fun t k => XS.iloadN X0.here hx rfl (hb hby d_method_4_code_5) rfl k) ?_
    refine own_fw (A' := (s₁.setTop (mkF m 7 #[.val (.ref a1), .val (.int (5 : Int32)), .val (.int p3), .val (.int p4)] [(.int p3), (.int (5 : Int32))]))) (fun t k => XS.iloadN X0.here hx rfl (hb hby d_method_4_code_6) rfl k) ?_
    refine own_fw (A' := (s₁.setTop (mkF m 8 #[.val (.ref a1), .val (.int (5 : Int32)), .val (.int p3), .val (.int p4)] [(.int p4), (.int p3), (.int (5 : Int32))]))) (fun t k => XS.iloadN X0.here hx rfl (hb hby d_method_4_code_7) rfl k) ?_
    refine own_fw (A' := (s₁.setTop (mkF m 9 #[.val (.ref a1), .val (.int (5 : Int32)), .val (.int p3), .val (.int p4)] [(.int (p3 + p4)), (.int (5 : Int32))]))) (fun t k => XS.iadd X0.here hx rfl (hb hby d_method_4_code_8) rfl k) ?_
    by_cases hc2 : (5 : Int32) < (p3 + p4)
    · refine own_fw (A' := (s₁.setTop (mkF m 12 #[.val (.ref a1), .val (.int (5 : Int32)), .val (.int p3), .val (.int p4)] []))) (fun t k => XS.icmpNo X0.here hx rfl (hb hby d_method_4_code_9) rfl (XT.ii_ge_f hc2) k) ?_
      refine own_fw (A' := (s₁.setTop (mkF m 13 #[.val (.ref a1), .val (.int (5 : Int32)), .val (.int p3), .val (.int p4)] [(.ref a1)]))) (fun t k => XS.aloadN X0.here hx rfl (hb hby d_method_4_code_12) rfl rfl k) ?_
      refine own_fw (A' := (s₁.setTop (mkF m 14 #[.val (.ref a1), .val (.int (5 : Int32)), .val (.int p3), .val (.int p4)] [(.int (5 : Int32)), (.ref a1)]))) (fun t k => XS.iloadN X0.here hx rfl (hb hby d_method_4_code_13) rfl k) ?_
      obtain ⟨cl3, Ar3, q3, S3, M3, H3, G3⟩ := id P0
      have hin3 : ¬ ((5 : Int32) < 0 ∨ cl3.slots.size ≤ ((5 : Int32)).toNatClampNeg) := inb_of S3 ⟨by decide, by decide⟩
      have hat3 : cl3.slots[((5 : Int32)).toNatClampNeg]? = some (.int b5) := H3.at hin3 rfl
      refine own_fw (A' := (s₁.setTop (mkF m 15 #[.val (.ref a1), .val (.int (5 : Int32)), .val (.int p3), .val (.int p4)] [(.int b5)]))) (fun t k => X0.baloadBytes hx (j := (5 : Int32)) (v := (.int b5)) (by rw [e0]; exact Ar3.1) (State.isArrayOf_alike hZ.alike Ar3.2.1) Ar3.2.2 hin3 hat3 (g := (mkF m 14 #[.val (.ref a1), .val (.int (5 : Int32)), .val (.int p3), .val (.int p4)] [(.int (5 : Int32)), (.ref a1)])) rfl rfl (hb hby d_method_4_code_14) _ k) ?_
      obtain ⟨_, _, ⟨T4, L4, k4, n4⟩, -, X4, ⟨Lc4, hQ4, l4, y4, z4⟩, st4⟩ := Jvm.LawKit.callS X0 hx (y := (⟨"com/example/log_to_isles/logtoisles/model/NodeNameFollowsPinLaw", "valid", "(B)Z"⟩ : MethodName)) hown (mvT hZ (hw _ (List.mem_of_getElem? (i := 41) rfl))) (mvT hZ (hw _ (List.mem_of_getElem? (i := 42) rfl))) (mvT hZ (hw _ (List.mem_of_getElem? (i := 2) rfl))) (mvT hZ (hw _ (List.mem_of_getElem? (i := 43) rfl))) (by decide) (backOf (W := 0) (rmVal l Z a0 hw [] b5 h0 n0 Z0 ) hZ (hw _ (List.mem_of_getElem? (i := 43) rfl)) (hw _ (List.mem_of_getElem? (i := 2) rfl)) (by decide) (by decide)) (g := (mkF m 15 #[.val (.ref a1), .val (.int (5 : Int32)), .val (.int p3), .val (.int p4)] [(.int b5)])) rfl (by rw [hml]; rfl) (argsL := [(.int b5)]) (rest := []) (lenOf pd__B_Z rfl) rfl (by show 2 * 0 + _ ≤ _; exact Nat.le_of_eq rfl) (hb hby d_method_4_code_15) (fun _ _ => ⟨rfl, e0, (by decide : 0 + 0 ≤ _), (by decide : 0 + 0 ≤ _)⟩)
      dsimp only [Pt.U, Pt.locs, Pt.cells, Pt.slots] at X4 l4 y4 z4 st4 hQ4
      subst l4 y4 z4
      obtain ⟨rfl, Nq4, e4⟩ := hQ4
      have Nf4 := Fr.app N0 Nq4
      refine own_fw (A' := (T4.setTop (mkF m 18 #[.val (.ref a1), .val (.int (5 : Int32)), .val (.int p3), .val (.int p4)] [(.int (own_valid b5))]))) (fun t k => st4 _ k) ?_
      by_cases hc5 : (own_valid b5) = (0 : Int32)
      · refine own_fw (A' := (T4.setTop (mkF m 25 #[.val (.ref a1), .val (.int (5 : Int32)), .val (.int p3), .val (.int p4)] []))) (fun t k => XS.ifYes X4.here hx rfl (pc0 := 18) (pc' := 25) rfl (hb hby d_method_4_code_18) rfl (XT.i0_eq_t hc5) (by decide) (by decide) k) ?_
        refine own_fw (A' := (T4.setTop (mkF m 26 #[.val (.ref a1), .val (.int (5 : Int32)), .val (.int p3), .val (.int p4)] [(.int (0 : Int32))]))) (fun t k => XS.iconst X4.here hx rfl (hb hby d_method_4_code_25) k) ?_
        obtain ⟨fs, hr, hrun, hended, hW, hsame⟩ := X4.leave (v := some (.int (0 : Int32))) (fun h => by rw [Bd.returns] at h; cases h)
        refine ⟨_, _, ?_, hrun, hended, _, _, rfl, ?_, ⟨_, rfl⟩, hW, hsame.mono (by decide) (by decide)⟩
        · exact retOut X4 hx Bd.returns rfl (Or.inl ⟨rfl, by simp, _, rfl⟩) (hb hby d_method_4_code_26) hr
        · show Q_rmOk5 Z a1 k1 b0 b1 b2 b3 b4 b5 b6 b7 fb p3 p4 h0 n0 _ T4.heap _
          rw [e4]
          exact ⟨(by simp only [own_ok, if_neg hc1, if_pos hc2, if_pos hc5]), Nf4, rfl⟩
      · refine own_fw (A' := (T4.setTop (mkF m 21 #[.val (.ref a1), .val (.int (5 : Int32)), .val (.int p3), .val (.int p4)] []))) (fun t k => XS.ifNo X4.here hx rfl (hb hby d_method_4_code_18) rfl (XT.i0_eq_f hc5) k) ?_
        refine own_fw (A' := (T4.setTop (mkF m 22 #[.val (.ref a1), .val (.int (5 : Int32)), .val (.int p3), .val (.int p4)] [(.int (1 : Int32))]))) (fun t k => XS.iconst X4.here hx rfl (hb hby d_method_4_code_21) k) ?_
        refine own_fw (A' := (T4.setTop (mkF m 26 #[.val (.ref a1), .val (.int (5 : Int32)), .val (.int p3), .val (.int p4)] [(.int (1 : Int32))]))) (fun t k => XS.goto X4.here hx rfl (pc0 := 22) (pc' := 26) rfl (hb hby d_method_4_code_22) (by decide) (by decide) k) ?_
        obtain ⟨fs, hr, hrun, hended, hW, hsame⟩ := X4.leave (v := some (.int (1 : Int32))) (fun h => by rw [Bd.returns] at h; cases h)
        refine ⟨_, _, ?_, hrun, hended, _, _, rfl, ?_, ⟨_, rfl⟩, hW, hsame.mono (by decide) (by decide)⟩
        · exact retOut X4 hx Bd.returns rfl (Or.inl ⟨rfl, by simp, _, rfl⟩) (hb hby d_method_4_code_26) hr
        · show Q_rmOk5 Z a1 k1 b0 b1 b2 b3 b4 b5 b6 b7 fb p3 p4 h0 n0 _ T4.heap _
          rw [e4]
          exact ⟨(by simp only [own_ok, if_neg hc1, if_pos hc2, if_neg hc5]), Nf4, rfl⟩
    · refine own_fw (A' := (s₁.setTop (mkF m 21 #[.val (.ref a1), .val (.int (5 : Int32)), .val (.int p3), .val (.int p4)] []))) (fun t k => XS.icmpYes X0.here hx rfl (pc0 := 9) (pc' := 21) rfl (hb hby d_method_4_code_9) rfl (XT.ii_ge_t hc2) (by decide) (by decide) k) ?_
      refine own_fw (A' := (s₁.setTop (mkF m 22 #[.val (.ref a1), .val (.int (5 : Int32)), .val (.int p3), .val (.int p4)] [(.int (1 : Int32))]))) (fun t k => XS.iconst X0.here hx rfl (hb hby d_method_4_code_21) k) ?_
      refine own_fw (A' := (s₁.setTop (mkF m 26 #[.val (.ref a1), .val (.int (5 : Int32)), .val (.int p3), .val (.int p4)] [(.int (1 : Int32))]))) (fun t k => XS.goto X0.here hx rfl (pc0 := 22) (pc' := 26) rfl (hb hby d_method_4_code_22) (by decide) (by decide) k) ?_
      obtain ⟨fs, hr, hrun, hended, hW, hsame⟩ := X0.leave (v := some (.int (1 : Int32))) (fun h => by rw [Bd.returns] at h; cases h)
      refine ⟨_, _, ?_, hrun, hended, _, _, rfl, ?_, ⟨_, rfl⟩, hW, hsame.mono (by decide) (by decide)⟩
      · exact retOut X0 hx Bd.returns rfl (Or.inl ⟨rfl, by simp, _, rfl⟩) (hb hby d_method_4_code_26) hr
      · show Q_rmOk5 Z a1 k1 b0 b1 b2 b3 b4 b5 b6 b7 fb p3 p4 h0 n0 _ s₁.heap _
        rw [e0]
        exact ⟨(by simp only [own_ok, if_neg hc1, if_neg hc2]), N0, rfl⟩
theorem ef_rmOk6 (m : MethodId) (a1 : Addr) (p3 : Int32) (p4 : Int32) : entryFrame m #[(.ref a1), (.int (6 : Int32)), (.int p3), (.int p4)] 4 = mkF m 0 #[.val (.ref a1), .val (.int (6 : Int32)), .val (.int p3), .val (.int p4)] [] := by first | (simp [entryFrame, mkF, argsToLocals, Value.category]; done) | rfl
def Q_rmOk6 (Z : State) (a1 : Addr) (k1 : ClassId) (b0 : Int32) (b1 : Int32) (b2 : Int32) (b3 : Int32) (b4 : Int32) (b5 : Int32) (b6 : Int32) (b7 : Int32) (fb : Int32) (p3 : Int32) (p4 : Int32) (h0 : Heap) (n0 : Nat) (v : Option Value) (h : Heap) (L : List Loc) : Prop := v = some (.int (own_ok (6 : Int32) p3 p4 b6)) ∧ Fr n0 L ∧ h = h0
set_option maxRecDepth 65536 in
set_option maxHeartbeats 40000000 in
theorem rmOk6 (l : Launch) (Z : State) (a0 : Array Value) (hw : ∀ d ∈ tables_1, d.before a0 Z = true) (ws : List Jvm.Cond) (a1 : Addr) (k1 : ClassId) (b0 : Int32) (b1 : Int32) (b2 : Int32) (b3 : Int32) (b4 : Int32) (b5 : Int32) (b6 : Int32) (b7 : Int32) (fb : Int32) (p3 : Int32) (p4 : Int32) (h0 : Heap) (n0 : Nat) (Z0 : n0 ≤ h0.size) (P0 : Arv Z h0 a1 k1 .byte (40 : Int32) [(.int b0), (.int b1), (.int b2), (.int b3), (.int b4), (.int b5), (.int b6), (.int b7), (.int fb), (.int fb), (.int fb), (.int fb), (.int fb), (.int fb), (.int fb), (.int fb), (.int fb), (.int fb), (.int fb), (.int fb), (.int fb), (.int fb), (.int fb), (.int fb), (.int fb), (.int fb), (.int fb), (.int fb), (.int fb), (.int fb), (.int fb), (.int fb), (.int fb), (.int fb), (.int fb), (.int fb), (.int fb), (.int fb), (.int fb), (.int fb)] (.int (0 : Int32))) :
    MetFree l (⟨"com/example/log_to_isles/logtoisles/model/NodeNameFollowsPinLaw", "okAt", "([BIII)Z"⟩ : MethodName) (head1 (Jvm.Cond.code (⟨"com/example/log_to_isles/logtoisles/model/NodeNameFollowsPinLaw", "okAt", "([BIII)Z"⟩ : MethodName) method_4_code 4 (some .boolean) :: ws) ({ frames := 1, cells := 0, slots := 0, locals := 13 } : Room)) (fun a U => a = #[(.ref a1), (.int (6 : Int32)), (.int p3), (.int p4)] ∧ Z.Warmed39 U.vm ∧ U.heap = h0) (fun _ _ _ _ _ => True) (fun _ U o U' => ∃ v L, o = .returned v ∧ Q_rmOk6 Z a1 k1 b0 b1 b2 b3 b4 b5 b6 b7 fb p3 p4 h0 n0 v U'.heap L ∧ FrameEnd U o U' L ({ frames := 1, cells := 0, slots := 0, locals := 13 } : Room).cells ({ frames := 1, cells := 0, slots := 0, locals := 13 } : Room).slots) := by
  refine MetFree.of_bodySF (plainFor_of_name pn_com_example_log_to_isles_logtoisles_model_NodeNameFollowsPinLaw) hisR ?_
  intro p e s m args below meth c s₁ Bd hml0 hP hK
  obtain ⟨rfl, hZ, hh⟩ := hP
  have hx := Bd.exec
  have hby := Bd.bytes
  have hml : c.maxLocals = 4 := hml0
  have hown : s.vm.findClass "com/example/log_to_isles/logtoisles/model/NodeNameFollowsPinLaw" = some m.cls := findClass_of_methodNamed Bd.named
  have hnm := (name_of_methodNamed Bd.named Bd.method).1
  have X0 : Stand p l e ({ frames := 1, cells := 0, slots := 0, locals := 13 } : Room) s m #[(.ref a1), (.int (6 : Int32)), (.int p3), (.int p4)] below meth c s₁ [] 0 0 := Stand.of_body Bd
  have e0 : s₁.heap = h0 := by rw [← hh, Bd.state]; rfl
  have N0 := Fr.nil n0
  refine own_fw (A' := (s₁.setTop (mkF m 0 #[.val (.ref a1), .val (.int (6 : Int32)), .val (.int p3), .val (.int p4)] []))) (fun t k => castTop (ef_rmOk6 m a1 p3 p4) k) ?_
  refine own_fw (A' := (s₁.setTop (mkF m 1 #[.val (.ref a1), .val (.int (6 : Int32)), .val (.int p3), .val (.int p4)] [(.int (6 : Int32))]))) (fun t k => XS.iloadN X0.here hx rfl (hb hby d_method_4_code_0) rfl k) ?_
  refine own_fw (A' := (s₁.setTop (mkF m 2 #[.val (.ref a1), .val (.int (6 : Int32)), .val (.int p3), .val (.int p4)] [(.int p3), (.int (6 : Int32))]))) (fun t k => XS.iloadN X0.here hx rfl (hb hby d_method_4_code_1) rfl k) ?_
  by_cases hc1 : (6 : Int32) < p3
  · refine own_fw (A' := (s₁.setTop (mkF m 21 #[.val (.ref a1), .val (.int (6 : Int32)), .val (.int p3), .val (.int p4)] []))) (fun t k => XS.icmpYes X0.here hx rfl (pc0 := 2) (pc' := 21) rfl (hb hby d_method_4_code_2) rfl (XT.ii_lt_t hc1) (by decide) (by decide) k) ?_
    refine own_fw (A' := (s₁.setTop (mkF m 22 #[.val (.ref a1), .val (.int (6 : Int32)), .val (.int p3), .val (.int p4)] [(.int (1 : Int32))]))) (fun t k => XS.iconst X0.here hx rfl (hb hby d_method_4_code_21) k) ?_
    refine own_fw (A' := (s₁.setTop (mkF m 26 #[.val (.ref a1), .val (.int (6 : Int32)), .val (.int p3), .val (.int p4)] [(.int (1 : Int32))]))) (fun t k => XS.goto X0.here hx rfl (pc0 := 22) (pc' := 26) rfl (hb hby d_method_4_code_22) (by decide) (by decide) k) ?_
    obtain ⟨fs, hr, hrun, hended, hW, hsame⟩ := X0.leave (v := some (.int (1 : Int32))) (fun h => by rw [Bd.returns] at h; cases h)
    refine ⟨_, _, ?_, hrun, hended, _, _, rfl, ?_, ⟨_, rfl⟩, hW, hsame.mono (by decide) (by decide)⟩
    · exact retOut X0 hx Bd.returns rfl (Or.inl ⟨rfl, by simp, _, rfl⟩) (hb hby d_method_4_code_26) hr
    · show Q_rmOk6 Z a1 k1 b0 b1 b2 b3 b4 b5 b6 b7 fb p3 p4 h0 n0 _ s₁.heap _
      rw [e0]
      exact ⟨(by simp only [own_ok, if_pos hc1]), N0, rfl⟩
  · refine own_fw (A' := (s₁.setTop (mkF m 5 #[.val (.ref a1), .val (.int (6 : Int32)), .val (.int p3), .val (.int p4)] []))) (fun t k => XS.icmpNo X0.here hx rfl (hb hby d_method_4_code_2) rfl (XT.ii_lt_f hc1) k) ?_
    refine own_fw (A' := (s₁.setTop (mkF m 6 #[.val (.ref a1), .val (.int (6 : Int32)), .val (.int p3), .val (.int p4)] [(.int (6 : Int32))]))) (fun t k => XS.iloadN X0.here hx rfl (hb hby d_method_4_code_5) rfl k) ?_
    refine own_fw (A' := (s₁.setTop (mkF m 7 #[.val (.ref a1), .val (.int (6 : Int32)), .val (.int p3), .val (.int p4)] [(.int p3), (.int (6 : Int32))]))) (fun t k => XS.iloadN X0.here hx rfl (hb hby d_method_4_code_6) rfl k) ?_
    refine own_fw (A' := (s₁.setTop (mkF m 8 #[.val (.ref a1), .val (.int (6 : Int32)), .val (.int p3), .val (.int p4)] [(.int p4), (.int p3), (.int (6 : Int32))]))) (fun t k => XS.iloadN X0.here hx rfl (hb hby d_method_4_code_7) rfl k) ?_
    refine own_fw (A' := (s₁.setTop (mkF m 9 #[.val (.ref a1), .val (.int (6 : Int32)), .val (.int p3), .val (.int p4)] [(.int (p3 + p4)), (.int (6 : Int32))]))) (fun t k => XS.iadd X0.here hx rfl (hb hby d_method_4_code_8) rfl k) ?_
    by_cases hc2 : (6 : Int32) < (p3 + p4)
    · refine own_fw (A' := (s₁.setTop (mkF m 12 #[.val (.ref a1), .val (.int (6 : Int32)), .val (.int p3), .val (.int p4)] []))) (fun t k => XS.icmpNo X0.here hx rfl (hb hby d_method_4_code_9) rfl (XT.ii_ge_f hc2) k) ?_
      refine own_fw (A' := (s₁.setTop (mkF m 13 #[.val (.ref a1), .val (.int (6 : Int32)), .val (.int p3), .val (.int p4)] [(.ref a1)]))) (fun t k => XS.aloadN X0.here hx rfl (hb hby d_method_4_code_12) rfl rfl k) ?_
      refine own_fw (A' := (s₁.setTop (mkF m 14 #[.val (.ref a1), .val (.int (6 : Int32)), .val (.int p3), .val (.int p4)] [(.int (6 : Int32)), (.ref a1)]))) (fun t k => XS.iloadN X0.here hx rfl (hb hby d_method_4_code_13) rfl k) ?_
      obtain ⟨cl3, Ar3, q3, S3, M3, H3, G3⟩ := id P0
      have hin3 : ¬ ((6 : Int32) < 0 ∨ cl3.slots.size ≤ ((6 : Int32)).toNatClampNeg) := inb_of S3 ⟨by decide, by decide⟩
      have hat3 : cl3.slots[((6 : Int32)).toNatClampNeg]? = some (.int b6) := H3.at hin3 rfl
      refine own_fw (A' := (s₁.setTop (mkF m 15 #[.val (.ref a1), .val (.int (6 : Int32)), .val (.int p3), .val (.int p4)] [(.int b6)]))) (fun t k => X0.baloadBytes hx (j := (6 : Int32)) (v := (.int b6)) (by rw [e0]; exact Ar3.1) (State.isArrayOf_alike hZ.alike Ar3.2.1) Ar3.2.2 hin3 hat3 (g := (mkF m 14 #[.val (.ref a1), .val (.int (6 : Int32)), .val (.int p3), .val (.int p4)] [(.int (6 : Int32)), (.ref a1)])) rfl rfl (hb hby d_method_4_code_14) _ k) ?_
      obtain ⟨_, _, ⟨T4, L4, k4, n4⟩, -, X4, ⟨Lc4, hQ4, l4, y4, z4⟩, st4⟩ := Jvm.LawKit.callS X0 hx (y := (⟨"com/example/log_to_isles/logtoisles/model/NodeNameFollowsPinLaw", "valid", "(B)Z"⟩ : MethodName)) hown (mvT hZ (hw _ (List.mem_of_getElem? (i := 41) rfl))) (mvT hZ (hw _ (List.mem_of_getElem? (i := 42) rfl))) (mvT hZ (hw _ (List.mem_of_getElem? (i := 2) rfl))) (mvT hZ (hw _ (List.mem_of_getElem? (i := 43) rfl))) (by decide) (backOf (W := 0) (rmVal l Z a0 hw [] b6 h0 n0 Z0 ) hZ (hw _ (List.mem_of_getElem? (i := 43) rfl)) (hw _ (List.mem_of_getElem? (i := 2) rfl)) (by decide) (by decide)) (g := (mkF m 15 #[.val (.ref a1), .val (.int (6 : Int32)), .val (.int p3), .val (.int p4)] [(.int b6)])) rfl (by rw [hml]; rfl) (argsL := [(.int b6)]) (rest := []) (lenOf pd__B_Z rfl) rfl (by show 2 * 0 + _ ≤ _; exact Nat.le_of_eq rfl) (hb hby d_method_4_code_15) (fun _ _ => ⟨rfl, e0, (by decide : 0 + 0 ≤ _), (by decide : 0 + 0 ≤ _)⟩)
      dsimp only [Pt.U, Pt.locs, Pt.cells, Pt.slots] at X4 l4 y4 z4 st4 hQ4
      subst l4 y4 z4
      obtain ⟨rfl, Nq4, e4⟩ := hQ4
      have Nf4 := Fr.app N0 Nq4
      refine own_fw (A' := (T4.setTop (mkF m 18 #[.val (.ref a1), .val (.int (6 : Int32)), .val (.int p3), .val (.int p4)] [(.int (own_valid b6))]))) (fun t k => st4 _ k) ?_
      by_cases hc5 : (own_valid b6) = (0 : Int32)
      · refine own_fw (A' := (T4.setTop (mkF m 25 #[.val (.ref a1), .val (.int (6 : Int32)), .val (.int p3), .val (.int p4)] []))) (fun t k => XS.ifYes X4.here hx rfl (pc0 := 18) (pc' := 25) rfl (hb hby d_method_4_code_18) rfl (XT.i0_eq_t hc5) (by decide) (by decide) k) ?_
        refine own_fw (A' := (T4.setTop (mkF m 26 #[.val (.ref a1), .val (.int (6 : Int32)), .val (.int p3), .val (.int p4)] [(.int (0 : Int32))]))) (fun t k => XS.iconst X4.here hx rfl (hb hby d_method_4_code_25) k) ?_
        obtain ⟨fs, hr, hrun, hended, hW, hsame⟩ := X4.leave (v := some (.int (0 : Int32))) (fun h => by rw [Bd.returns] at h; cases h)
        refine ⟨_, _, ?_, hrun, hended, _, _, rfl, ?_, ⟨_, rfl⟩, hW, hsame.mono (by decide) (by decide)⟩
        · exact retOut X4 hx Bd.returns rfl (Or.inl ⟨rfl, by simp, _, rfl⟩) (hb hby d_method_4_code_26) hr
        · show Q_rmOk6 Z a1 k1 b0 b1 b2 b3 b4 b5 b6 b7 fb p3 p4 h0 n0 _ T4.heap _
          rw [e4]
          exact ⟨(by simp only [own_ok, if_neg hc1, if_pos hc2, if_pos hc5]), Nf4, rfl⟩
      · refine own_fw (A' := (T4.setTop (mkF m 21 #[.val (.ref a1), .val (.int (6 : Int32)), .val (.int p3), .val (.int p4)] []))) (fun t k => XS.ifNo X4.here hx rfl (hb hby d_method_4_code_18) rfl (XT.i0_eq_f hc5) k) ?_
        refine own_fw (A' := (T4.setTop (mkF m 22 #[.val (.ref a1), .val (.int (6 : Int32)), .val (.int p3), .val (.int p4)] [(.int (1 : Int32))]))) (fun t k => XS.iconst X4.here hx rfl (hb hby d_method_4_code_21) k) ?_
        refine own_fw (A' := (T4.setTop (mkF m 26 #[.val (.ref a1), .val (.int (6 : Int32)), .val (.int p3), .val (.int p4)] [(.int (1 : Int32))]))) (fun t k => XS.goto X4.here hx rfl (pc0 := 22) (pc' := 26) rfl (hb hby d_method_4_code_22) (by decide) (by decide) k) ?_
        obtain ⟨fs, hr, hrun, hended, hW, hsame⟩ := X4.leave (v := some (.int (1 : Int32))) (fun h => by rw [Bd.returns] at h; cases h)
        refine ⟨_, _, ?_, hrun, hended, _, _, rfl, ?_, ⟨_, rfl⟩, hW, hsame.mono (by decide) (by decide)⟩
        · exact retOut X4 hx Bd.returns rfl (Or.inl ⟨rfl, by simp, _, rfl⟩) (hb hby d_method_4_code_26) hr
        · show Q_rmOk6 Z a1 k1 b0 b1 b2 b3 b4 b5 b6 b7 fb p3 p4 h0 n0 _ T4.heap _
          rw [e4]
          exact ⟨(by simp only [own_ok, if_neg hc1, if_pos hc2, if_neg hc5]), Nf4, rfl⟩
    · refine own_fw (A' := (s₁.setTop (mkF m 21 #[.val (.ref a1), .val (.int (6 : Int32)), .val (.int p3), .val (.int p4)] []))) (fun t k => XS.icmpYes X0.here hx rfl (pc0 := 9) (pc' := 21) rfl (hb hby d_method_4_code_9) rfl (XT.ii_ge_t hc2) (by decide) (by decide) k) ?_
      refine own_fw (A' := (s₁.setTop (mkF m 22 #[.val (.ref a1), .val (.int (6 : Int32)), .val (.int p3), .val (.int p4)] [(.int (1 : Int32))]))) (fun t k => XS.iconst X0.here hx rfl (hb hby d_method_4_code_21) k) ?_
      refine own_fw (A' := (s₁.setTop (mkF m 26 #[.val (.ref a1), .val (.int (6 : Int32)), .val (.int p3), .val (.int p4)] [(.int (1 : Int32))]))) (fun t k => XS.goto X0.here hx rfl (pc0 := 22) (pc' := 26) rfl (hb hby d_method_4_code_22) (by decide) (by decide) k) ?_
      obtain ⟨fs, hr, hrun, hended, hW, hsame⟩ := X0.leave (v := some (.int (1 : Int32))) (fun h => by rw [Bd.returns] at h; cases h)
      refine ⟨_, _, ?_, hrun, hended, _, _, rfl, ?_, ⟨_, rfl⟩, hW, hsame.mono (by decide) (by decide)⟩
      · exact retOut X0 hx Bd.returns rfl (Or.inl ⟨rfl, by simp, _, rfl⟩) (hb hby d_method_4_code_26) hr
      · show Q_rmOk6 Z a1 k1 b0 b1 b2 b3 b4 b5 b6 b7 fb p3 p4 h0 n0 _ s₁.heap _
        rw [e0]
        exact ⟨(by simp only [own_ok, if_neg hc1, if_neg hc2]), N0, rfl⟩
theorem ef_rmOk7 (m : MethodId) (a1 : Addr) (p3 : Int32) (p4 : Int32) : entryFrame m #[(.ref a1), (.int (7 : Int32)), (.int p3), (.int p4)] 4 = mkF m 0 #[.val (.ref a1), .val (.int (7 : Int32)), .val (.int p3), .val (.int p4)] [] := by first | (simp [entryFrame, mkF, argsToLocals, Value.category]; done) | rfl
def Q_rmOk7 (Z : State) (a1 : Addr) (k1 : ClassId) (b0 : Int32) (b1 : Int32) (b2 : Int32) (b3 : Int32) (b4 : Int32) (b5 : Int32) (b6 : Int32) (b7 : Int32) (fb : Int32) (p3 : Int32) (p4 : Int32) (h0 : Heap) (n0 : Nat) (v : Option Value) (h : Heap) (L : List Loc) : Prop := v = some (.int (own_ok (7 : Int32) p3 p4 b7)) ∧ Fr n0 L ∧ h = h0
set_option maxRecDepth 65536 in
set_option maxHeartbeats 40000000 in
theorem rmOk7 (l : Launch) (Z : State) (a0 : Array Value) (hw : ∀ d ∈ tables_1, d.before a0 Z = true) (ws : List Jvm.Cond) (a1 : Addr) (k1 : ClassId) (b0 : Int32) (b1 : Int32) (b2 : Int32) (b3 : Int32) (b4 : Int32) (b5 : Int32) (b6 : Int32) (b7 : Int32) (fb : Int32) (p3 : Int32) (p4 : Int32) (h0 : Heap) (n0 : Nat) (Z0 : n0 ≤ h0.size) (P0 : Arv Z h0 a1 k1 .byte (40 : Int32) [(.int b0), (.int b1), (.int b2), (.int b3), (.int b4), (.int b5), (.int b6), (.int b7), (.int fb), (.int fb), (.int fb), (.int fb), (.int fb), (.int fb), (.int fb), (.int fb), (.int fb), (.int fb), (.int fb), (.int fb), (.int fb), (.int fb), (.int fb), (.int fb), (.int fb), (.int fb), (.int fb), (.int fb), (.int fb), (.int fb), (.int fb), (.int fb), (.int fb), (.int fb), (.int fb), (.int fb), (.int fb), (.int fb), (.int fb), (.int fb)] (.int (0 : Int32))) :
    MetFree l (⟨"com/example/log_to_isles/logtoisles/model/NodeNameFollowsPinLaw", "okAt", "([BIII)Z"⟩ : MethodName) (head1 (Jvm.Cond.code (⟨"com/example/log_to_isles/logtoisles/model/NodeNameFollowsPinLaw", "okAt", "([BIII)Z"⟩ : MethodName) method_4_code 4 (some .boolean) :: ws) ({ frames := 1, cells := 0, slots := 0, locals := 13 } : Room)) (fun a U => a = #[(.ref a1), (.int (7 : Int32)), (.int p3), (.int p4)] ∧ Z.Warmed39 U.vm ∧ U.heap = h0) (fun _ _ _ _ _ => True) (fun _ U o U' => ∃ v L, o = .returned v ∧ Q_rmOk7 Z a1 k1 b0 b1 b2 b3 b4 b5 b6 b7 fb p3 p4 h0 n0 v U'.heap L ∧ FrameEnd U o U' L ({ frames := 1, cells := 0, slots := 0, locals := 13 } : Room).cells ({ frames := 1, cells := 0, slots := 0, locals := 13 } : Room).slots) := by
  refine MetFree.of_bodySF (plainFor_of_name pn_com_example_log_to_isles_logtoisles_model_NodeNameFollowsPinLaw) hisR ?_
  intro p e s m args below meth c s₁ Bd hml0 hP hK
  obtain ⟨rfl, hZ, hh⟩ := hP
  have hx := Bd.exec
  have hby := Bd.bytes
  have hml : c.maxLocals = 4 := hml0
  have hown : s.vm.findClass "com/example/log_to_isles/logtoisles/model/NodeNameFollowsPinLaw" = some m.cls := findClass_of_methodNamed Bd.named
  have hnm := (name_of_methodNamed Bd.named Bd.method).1
  have X0 : Stand p l e ({ frames := 1, cells := 0, slots := 0, locals := 13 } : Room) s m #[(.ref a1), (.int (7 : Int32)), (.int p3), (.int p4)] below meth c s₁ [] 0 0 := Stand.of_body Bd
  have e0 : s₁.heap = h0 := by rw [← hh, Bd.state]; rfl
  have N0 := Fr.nil n0
  refine own_fw (A' := (s₁.setTop (mkF m 0 #[.val (.ref a1), .val (.int (7 : Int32)), .val (.int p3), .val (.int p4)] []))) (fun t k => castTop (ef_rmOk7 m a1 p3 p4) k) ?_
  refine own_fw (A' := (s₁.setTop (mkF m 1 #[.val (.ref a1), .val (.int (7 : Int32)), .val (.int p3), .val (.int p4)] [(.int (7 : Int32))]))) (fun t k => XS.iloadN X0.here hx rfl (hb hby d_method_4_code_0) rfl k) ?_
  refine own_fw (A' := (s₁.setTop (mkF m 2 #[.val (.ref a1), .val (.int (7 : Int32)), .val (.int p3), .val (.int p4)] [(.int p3), (.int (7 : Int32))]))) (fun t k => XS.iloadN X0.here hx rfl (hb hby d_method_4_code_1) rfl k) ?_
  by_cases hc1 : (7 : Int32) < p3
  · refine own_fw (A' := (s₁.setTop (mkF m 21 #[.val (.ref a1), .val (.int (7 : Int32)), .val (.int p3), .val (.int p4)] []))) (fun t k => XS.icmpYes X0.here hx rfl (pc0 := 2) (pc' := 21) rfl (hb hby d_method_4_code_2) rfl (XT.ii_lt_t hc1) (by decide) (by decide) k) ?_
    refine own_fw (A' := (s₁.setTop (mkF m 22 #[.val (.ref a1), .val (.int (7 : Int32)), .val (.int p3), .val (.int p4)] [(.int (1 : Int32))]))) (fun t k => XS.iconst X0.here hx rfl (hb hby d_method_4_code_21) k) ?_
    refine own_fw (A' := (s₁.setTop (mkF m 26 #[.val (.ref a1), .val (.int (7 : Int32)), .val (.int p3), .val (.int p4)] [(.int (1 : Int32))]))) (fun t k => XS.goto X0.here hx rfl (pc0 := 22) (pc' := 26) rfl (hb hby d_method_4_code_22) (by decide) (by decide) k) ?_
    obtain ⟨fs, hr, hrun, hended, hW, hsame⟩ := X0.leave (v := some (.int (1 : Int32))) (fun h => by rw [Bd.returns] at h; cases h)
    refine ⟨_, _, ?_, hrun, hended, _, _, rfl, ?_, ⟨_, rfl⟩, hW, hsame.mono (by decide) (by decide)⟩
    · exact retOut X0 hx Bd.returns rfl (Or.inl ⟨rfl, by simp, _, rfl⟩) (hb hby d_method_4_code_26) hr
    · show Q_rmOk7 Z a1 k1 b0 b1 b2 b3 b4 b5 b6 b7 fb p3 p4 h0 n0 _ s₁.heap _
      rw [e0]
      exact ⟨(by simp only [own_ok, if_pos hc1]), N0, rfl⟩
  · refine own_fw (A' := (s₁.setTop (mkF m 5 #[.val (.ref a1), .val (.int (7 : Int32)), .val (.int p3), .val (.int p4)] []))) (fun t k => XS.icmpNo X0.here hx rfl (hb hby d_method_4_code_2) rfl (XT.ii_lt_f hc1) k) ?_
    refine own_fw (A' := (s₁.setTop (mkF m 6 #[.val (.ref a1), .val (.int (7 : Int32)), .val (.int p3), .val (.int p4)] [(.int (7 : Int32))]))) (fun t k => XS.iloadN X0.here hx rfl (hb hby d_method_4_code_5) rfl k) ?_
    refine own_fw (A' := (s₁.setTop (mkF m 7 #[.val (.ref a1), .val (.int (7 : Int32)), .val (.int p3), .val (.int p4)] [(.int p3), (.int (7 : Int32))]))) (fun t k => XS.iloadN X0.here hx rfl (hb hby d_method_4_code_6) rfl k) ?_
    refine own_fw (A' := (s₁.setTop (mkF m 8 #[.val (.ref a1), .val (.int (7 : Int32)), .val (.int p3), .val (.int p4)] [(.int p4), (.int p3), (.int (7 : Int32))]))) (fun t k => XS.iloadN X0.here hx rfl (hb hby d_method_4_code_7) rfl k) ?_
    refine own_fw (A' := (s₁.setTop (mkF m 9 #[.val (.ref a1), .val (.int (7 : Int32)), .val (.int p3), .val (.int p4)] [(.int (p3 + p4)), (.int (7 : Int32))]))) (fun t k => XS.iadd X0.here hx rfl (hb hby d_method_4_code_8) rfl k) ?_
    by_cases hc2 : (7 : Int32) < (p3 + p4)
    · refine own_fw (A' := (s₁.setTop (mkF m 12 #[.val (.ref a1), .val (.int (7 : Int32)), .val (.int p3), .val (.int p4)] []))) (fun t k => XS.icmpNo X0.here hx rfl (hb hby d_method_4_code_9) rfl (XT.ii_ge_f hc2) k) ?_
      refine own_fw (A' := (s₁.setTop (mkF m 13 #[.val (.ref a1), .val (.int (7 : Int32)), .val (.int p3), .val (.int p4)] [(.ref a1)]))) (fun t k => XS.aloadN X0.here hx rfl (hb hby d_method_4_code_12) rfl rfl k) ?_
      refine own_fw (A' := (s₁.setTop (mkF m 14 #[.val (.ref a1), .val (.int (7 : Int32)), .val (.int p3), .val (.int p4)] [(.int (7 : Int32)), (.ref a1)]))) (fun t k => XS.iloadN X0.here hx rfl (hb hby d_method_4_code_13) rfl k) ?_
      obtain ⟨cl3, Ar3, q3, S3, M3, H3, G3⟩ := id P0
      have hin3 : ¬ ((7 : Int32) < 0 ∨ cl3.slots.size ≤ ((7 : Int32)).toNatClampNeg) := inb_of S3 ⟨by decide, by decide⟩
      have hat3 : cl3.slots[((7 : Int32)).toNatClampNeg]? = some (.int b7) := H3.at hin3 rfl
      refine own_fw (A' := (s₁.setTop (mkF m 15 #[.val (.ref a1), .val (.int (7 : Int32)), .val (.int p3), .val (.int p4)] [(.int b7)]))) (fun t k => X0.baloadBytes hx (j := (7 : Int32)) (v := (.int b7)) (by rw [e0]; exact Ar3.1) (State.isArrayOf_alike hZ.alike Ar3.2.1) Ar3.2.2 hin3 hat3 (g := (mkF m 14 #[.val (.ref a1), .val (.int (7 : Int32)), .val (.int p3), .val (.int p4)] [(.int (7 : Int32)), (.ref a1)])) rfl rfl (hb hby d_method_4_code_14) _ k) ?_
      obtain ⟨_, _, ⟨T4, L4, k4, n4⟩, -, X4, ⟨Lc4, hQ4, l4, y4, z4⟩, st4⟩ := Jvm.LawKit.callS X0 hx (y := (⟨"com/example/log_to_isles/logtoisles/model/NodeNameFollowsPinLaw", "valid", "(B)Z"⟩ : MethodName)) hown (mvT hZ (hw _ (List.mem_of_getElem? (i := 41) rfl))) (mvT hZ (hw _ (List.mem_of_getElem? (i := 42) rfl))) (mvT hZ (hw _ (List.mem_of_getElem? (i := 2) rfl))) (mvT hZ (hw _ (List.mem_of_getElem? (i := 43) rfl))) (by decide) (backOf (W := 0) (rmVal l Z a0 hw [] b7 h0 n0 Z0 ) hZ (hw _ (List.mem_of_getElem? (i := 43) rfl)) (hw _ (List.mem_of_getElem? (i := 2) rfl)) (by decide) (by decide)) (g := (mkF m 15 #[.val (.ref a1), .val (.int (7 : Int32)), .val (.int p3), .val (.int p4)] [(.int b7)])) rfl (by rw [hml]; rfl) (argsL := [(.int b7)]) (rest := []) (lenOf pd__B_Z rfl) rfl (by show 2 * 0 + _ ≤ _; exact Nat.le_of_eq rfl) (hb hby d_method_4_code_15) (fun _ _ => ⟨rfl, e0, (by decide : 0 + 0 ≤ _), (by decide : 0 + 0 ≤ _)⟩)
      dsimp only [Pt.U, Pt.locs, Pt.cells, Pt.slots] at X4 l4 y4 z4 st4 hQ4
      subst l4 y4 z4
      obtain ⟨rfl, Nq4, e4⟩ := hQ4
      have Nf4 := Fr.app N0 Nq4
      refine own_fw (A' := (T4.setTop (mkF m 18 #[.val (.ref a1), .val (.int (7 : Int32)), .val (.int p3), .val (.int p4)] [(.int (own_valid b7))]))) (fun t k => st4 _ k) ?_
      by_cases hc5 : (own_valid b7) = (0 : Int32)
      · refine own_fw (A' := (T4.setTop (mkF m 25 #[.val (.ref a1), .val (.int (7 : Int32)), .val (.int p3), .val (.int p4)] []))) (fun t k => XS.ifYes X4.here hx rfl (pc0 := 18) (pc' := 25) rfl (hb hby d_method_4_code_18) rfl (XT.i0_eq_t hc5) (by decide) (by decide) k) ?_
        refine own_fw (A' := (T4.setTop (mkF m 26 #[.val (.ref a1), .val (.int (7 : Int32)), .val (.int p3), .val (.int p4)] [(.int (0 : Int32))]))) (fun t k => XS.iconst X4.here hx rfl (hb hby d_method_4_code_25) k) ?_
        obtain ⟨fs, hr, hrun, hended, hW, hsame⟩ := X4.leave (v := some (.int (0 : Int32))) (fun h => by rw [Bd.returns] at h; cases h)
        refine ⟨_, _, ?_, hrun, hended, _, _, rfl, ?_, ⟨_, rfl⟩, hW, hsame.mono (by decide) (by decide)⟩
        · exact retOut X4 hx Bd.returns rfl (Or.inl ⟨rfl, by simp, _, rfl⟩) (hb hby d_method_4_code_26) hr
        · show Q_rmOk7 Z a1 k1 b0 b1 b2 b3 b4 b5 b6 b7 fb p3 p4 h0 n0 _ T4.heap _
          rw [e4]
          exact ⟨(by simp only [own_ok, if_neg hc1, if_pos hc2, if_pos hc5]), Nf4, rfl⟩
      · refine own_fw (A' := (T4.setTop (mkF m 21 #[.val (.ref a1), .val (.int (7 : Int32)), .val (.int p3), .val (.int p4)] []))) (fun t k => XS.ifNo X4.here hx rfl (hb hby d_method_4_code_18) rfl (XT.i0_eq_f hc5) k) ?_
        refine own_fw (A' := (T4.setTop (mkF m 22 #[.val (.ref a1), .val (.int (7 : Int32)), .val (.int p3), .val (.int p4)] [(.int (1 : Int32))]))) (fun t k => XS.iconst X4.here hx rfl (hb hby d_method_4_code_21) k) ?_
        refine own_fw (A' := (T4.setTop (mkF m 26 #[.val (.ref a1), .val (.int (7 : Int32)), .val (.int p3), .val (.int p4)] [(.int (1 : Int32))]))) (fun t k => XS.goto X4.here hx rfl (pc0 := 22) (pc' := 26) rfl (hb hby d_method_4_code_22) (by decide) (by decide) k) ?_
        obtain ⟨fs, hr, hrun, hended, hW, hsame⟩ := X4.leave (v := some (.int (1 : Int32))) (fun h => by rw [Bd.returns] at h; cases h)
        refine ⟨_, _, ?_, hrun, hended, _, _, rfl, ?_, ⟨_, rfl⟩, hW, hsame.mono (by decide) (by decide)⟩
        · exact retOut X4 hx Bd.returns rfl (Or.inl ⟨rfl, by simp, _, rfl⟩) (hb hby d_method_4_code_26) hr
        · show Q_rmOk7 Z a1 k1 b0 b1 b2 b3 b4 b5 b6 b7 fb p3 p4 h0 n0 _ T4.heap _
          rw [e4]
          exact ⟨(by simp only [own_ok, if_neg hc1, if_pos hc2, if_neg hc5]), Nf4, rfl⟩
    · refine own_fw (A' := (s₁.setTop (mkF m 21 #[.val (.ref a1), .val (.int (7 : Int32)), .val (.int p3), .val (.int p4)] []))) (fun t k => XS.icmpYes X0.here hx rfl (pc0 := 9) (pc' := 21) rfl (hb hby d_method_4_code_9) rfl (XT.ii_ge_t hc2) (by decide) (by decide) k) ?_
      refine own_fw (A' := (s₁.setTop (mkF m 22 #[.val (.ref a1), .val (.int (7 : Int32)), .val (.int p3), .val (.int p4)] [(.int (1 : Int32))]))) (fun t k => XS.iconst X0.here hx rfl (hb hby d_method_4_code_21) k) ?_
      refine own_fw (A' := (s₁.setTop (mkF m 26 #[.val (.ref a1), .val (.int (7 : Int32)), .val (.int p3), .val (.int p4)] [(.int (1 : Int32))]))) (fun t k => XS.goto X0.here hx rfl (pc0 := 22) (pc' := 26) rfl (hb hby d_method_4_code_22) (by decide) (by decide) k) ?_
      obtain ⟨fs, hr, hrun, hended, hW, hsame⟩ := X0.leave (v := some (.int (1 : Int32))) (fun h => by rw [Bd.returns] at h; cases h)
      refine ⟨_, _, ?_, hrun, hended, _, _, rfl, ?_, ⟨_, rfl⟩, hW, hsame.mono (by decide) (by decide)⟩
      · exact retOut X0 hx Bd.returns rfl (Or.inl ⟨rfl, by simp, _, rfl⟩) (hb hby d_method_4_code_26) hr
      · show Q_rmOk7 Z a1 k1 b0 b1 b2 b3 b4 b5 b6 b7 fb p3 p4 h0 n0 _ s₁.heap _
        rw [e0]
        exact ⟨(by simp only [own_ok, if_neg hc1, if_neg hc2]), N0, rfl⟩
theorem d_prog_11_method_4_code_0 : decode prog_11_method_4_code 0 = .ok (.iload_n 2, 1) := by decide +kernel
theorem d_prog_11_method_4_code_1 : decode prog_11_method_4_code 1 = .ok (.iconst 1, 1) := by decide +kernel
theorem d_prog_11_method_4_code_2 : decode prog_11_method_4_code 2 = .ok (.if_icmp .lt 17, 3) := by decide +kernel
theorem d_prog_11_method_4_code_19 : decode prog_11_method_4_code 19 = .ok (.iconst 0, 1) := by decide +kernel
theorem d_prog_11_method_4_code_20 : decode prog_11_method_4_code 20 = .ok (.ireturn, 1) := by decide +kernel
theorem d_prog_11_method_4_code_5 : decode prog_11_method_4_code 5 = .ok (.iload_n 2, 1) := by decide +kernel
theorem d_prog_11_method_4_code_6 : decode prog_11_method_4_code 6 = .ok (.bipush 32, 2) := by decide +kernel
theorem d_prog_11_method_4_code_8 : decode prog_11_method_4_code 8 = .ok (.if_icmp .gt 11, 3) := by decide +kernel
theorem d_prog_11_method_4_code_11 : decode prog_11_method_4_code 11 = .ok (.aload_n 0, 1) := by decide +kernel
theorem d_prog_11_method_4_code_12 : decode prog_11_method_4_code 12 = .ok (.iload_n 1, 1) := by decide +kernel
theorem d_prog_11_method_4_code_13 : decode prog_11_method_4_code 13 = .ok (.baload, 1) := by decide +kernel
theorem d_prog_11_method_4_code_14 : decode prog_11_method_4_code 14 = .ok (.bipush 45, 2) := by decide +kernel
theorem d_prog_11_method_4_code_16 : decode prog_11_method_4_code 16 = .ok (.if_icmp .ne 5, 3) := by decide +kernel
theorem d_prog_11_method_4_code_21 : decode prog_11_method_4_code 21 = .ok (.iload_n 1, 1) := by decide +kernel
theorem d_prog_11_method_4_code_22 : decode prog_11_method_4_code 22 = .ok (.istore_n 3, 1) := by decide +kernel
theorem d_prog_11_method_4_code_23 : decode prog_11_method_4_code 23 = .ok (.iload_n 3, 1) := by decide +kernel
theorem d_prog_11_method_4_code_24 : decode prog_11_method_4_code 24 = .ok (.iload_n 1, 1) := by decide +kernel
theorem d_prog_11_method_4_code_25 : decode prog_11_method_4_code 25 = .ok (.iload_n 2, 1) := by decide +kernel
theorem d_prog_11_method_4_code_26 : decode prog_11_method_4_code 26 = .ok (.iadd, 1) := by decide +kernel
theorem d_prog_11_method_4_code_27 : decode prog_11_method_4_code 27 = .ok (.if_icmp .ge 28, 3) := by decide +kernel
theorem d_prog_11_method_4_code_55 : decode prog_11_method_4_code 55 = .ok (.iconst 1, 1) := by decide +kernel
theorem d_prog_11_method_4_code_56 : decode prog_11_method_4_code 56 = .ok (.ireturn, 1) := by decide +kernel
theorem d_prog_11_method_4_code_30 : decode prog_11_method_4_code 30 = .ok (.aload_n 0, 1) := by decide +kernel
theorem d_prog_11_method_4_code_31 : decode prog_11_method_4_code 31 = .ok (.iload_n 3, 1) := by decide +kernel
theorem d_prog_11_method_4_code_32 : decode prog_11_method_4_code 32 = .ok (.baload, 1) := by decide +kernel
theorem d_prog_11_method_4_code_33 : decode prog_11_method_4_code 33 = .ok (.invokestatic 55, 3) := by decide +kernel
theorem pd__I_Z : parseMethodDescriptor "(I)Z" = some ⟨[.int], some .boolean⟩ := by decide +kernel
theorem d_prog_11_method_4_code_36 : decode prog_11_method_4_code 36 = .ok (.ifCond .ne 13, 3) := by decide +kernel
theorem d_prog_11_method_4_code_39 : decode prog_11_method_4_code 39 = .ok (.aload_n 0, 1) := by decide +kernel
theorem d_prog_11_method_4_code_40 : decode prog_11_method_4_code 40 = .ok (.iload_n 3, 1) := by decide +kernel
theorem d_prog_11_method_4_code_41 : decode prog_11_method_4_code 41 = .ok (.baload, 1) := by decide +kernel
theorem d_prog_11_method_4_code_42 : decode prog_11_method_4_code 42 = .ok (.bipush 45, 2) := by decide +kernel
theorem d_prog_11_method_4_code_44 : decode prog_11_method_4_code 44 = .ok (.if_icmp .eq 5, 3) := by decide +kernel
theorem d_prog_11_method_4_code_49 : decode prog_11_method_4_code 49 = .ok (.iinc 3 1, 3) := by decide +kernel
theorem d_prog_11_method_4_code_52 : decode prog_11_method_4_code 52 = .ok (.goto (-29), 3) := by decide +kernel
theorem d_prog_11_method_4_code_47 : decode prog_11_method_4_code 47 = .ok (.iconst 0, 1) := by decide +kernel
theorem d_prog_11_method_4_code_48 : decode prog_11_method_4_code 48 = .ok (.ireturn, 1) := by decide +kernel
theorem ef_rmFol (m : MethodId) (a1 : Addr) (p2 : Int32) (p3 : Int32) : entryFrame m #[(.ref a1), (.int p2), (.int p3)] 4 = mkF m 0 #[.val (.ref a1), .val (.int p2), .val (.int p3), .unset] [] := by first | (simp [entryFrame, mkF, argsToLocals, Value.category]; done) | rfl
def Q_rmFol (Z : State) (a1 : Addr) (k1 : ClassId) (b0 : Int32) (b1 : Int32) (b2 : Int32) (b3 : Int32) (b4 : Int32) (b5 : Int32) (b6 : Int32) (b7 : Int32) (fb : Int32) (p2 : Int32) (p3 : Int32) (h0 : Heap) (n0 : Nat) (v : Option Value) (h : Heap) (L : List Loc) : Prop := v = some (.int (own_fol (own_buf b0 b1 b2 b3 b4 b5 b6 b7 fb) p2 p3)) ∧ Fr n0 L ∧ h = h0
set_option maxRecDepth 65536 in
set_option maxHeartbeats 40000000 in
theorem rmFol (l : Launch) (Z : State) (a0 : Array Value) (hw : ∀ d ∈ tables_1, d.before a0 Z = true) (ws : List Jvm.Cond) (a1 : Addr) (k1 : ClassId) (b0 : Int32) (b1 : Int32) (b2 : Int32) (b3 : Int32) (b4 : Int32) (b5 : Int32) (b6 : Int32) (b7 : Int32) (fb : Int32) (p2 : Int32) (p3 : Int32) (h0 : Heap) (n0 : Nat) (Z0 : n0 ≤ h0.size) (P0 : Arv Z h0 a1 k1 .byte (40 : Int32) [(.int b0), (.int b1), (.int b2), (.int b3), (.int b4), (.int b5), (.int b6), (.int b7), (.int fb), (.int fb), (.int fb), (.int fb), (.int fb), (.int fb), (.int fb), (.int fb), (.int fb), (.int fb), (.int fb), (.int fb), (.int fb), (.int fb), (.int fb), (.int fb), (.int fb), (.int fb), (.int fb), (.int fb), (.int fb), (.int fb), (.int fb), (.int fb), (.int fb), (.int fb), (.int fb), (.int fb), (.int fb), (.int fb), (.int fb), (.int fb)] (.int (0 : Int32))) (ho : own_o p2) :
    MetFree l (⟨"com/example/log_to_isles/logtoisles/model/NodeName", "follows", "([BII)Z"⟩ : MethodName) (head1 (Jvm.Cond.code (⟨"com/example/log_to_isles/logtoisles/model/NodeName", "follows", "([BII)Z"⟩ : MethodName) prog_11_method_4_code 4 (some .boolean) :: ws) ({ frames := 1, cells := 0, slots := 0, locals := 12 } : Room)) (fun a U => a = #[(.ref a1), (.int p2), (.int p3)] ∧ Z.Warmed39 U.vm ∧ U.heap = h0) (fun _ _ _ _ _ => True) (fun _ U o U' => ∃ v L, o = .returned v ∧ Q_rmFol Z a1 k1 b0 b1 b2 b3 b4 b5 b6 b7 fb p2 p3 h0 n0 v U'.heap L ∧ FrameEnd U o U' L ({ frames := 1, cells := 0, slots := 0, locals := 12 } : Room).cells ({ frames := 1, cells := 0, slots := 0, locals := 12 } : Room).slots) := by
  refine MetFree.of_bodySF (plainFor_of_name pn_com_example_log_to_isles_logtoisles_model_NodeName) hisR ?_
  intro p e s m args below meth c s₁ Bd hml0 hP hK
  obtain ⟨rfl, hZ, hh⟩ := hP
  have hx := Bd.exec
  have hby := Bd.bytes
  have hml : c.maxLocals = 4 := hml0
  have hown : s.vm.findClass "com/example/log_to_isles/logtoisles/model/NodeName" = some m.cls := findClass_of_methodNamed Bd.named
  have hnm := (name_of_methodNamed Bd.named Bd.method).1
  have X0 : Stand p l e ({ frames := 1, cells := 0, slots := 0, locals := 12 } : Room) s m #[(.ref a1), (.int p2), (.int p3)] below meth c s₁ [] 0 0 := Stand.of_body Bd
  have e0 : s₁.heap = h0 := by rw [← hh, Bd.state]; rfl
  have N0 := Fr.nil n0
  refine own_fw (A' := (s₁.setTop (mkF m 0 #[.val (.ref a1), .val (.int p2), .val (.int p3), .unset] []))) (fun t k => castTop (ef_rmFol m a1 p2 p3) k) ?_
  refine own_fw (A' := (s₁.setTop (mkF m 1 #[.val (.ref a1), .val (.int p2), .val (.int p3), .unset] [(.int p3)]))) (fun t k => XS.iloadN X0.here hx rfl (hb hby d_prog_11_method_4_code_0) rfl k) ?_
  refine own_fw (A' := (s₁.setTop (mkF m 2 #[.val (.ref a1), .val (.int p2), .val (.int p3), .unset] [(.int (1 : Int32)), (.int p3)]))) (fun t k => XS.iconst X0.here hx rfl (hb hby d_prog_11_method_4_code_1) k) ?_
  by_cases g1 : p3 < (1 : Int32)
  · refine own_fw (A' := (s₁.setTop (mkF m 19 #[.val (.ref a1), .val (.int p2), .val (.int p3), .unset] []))) (fun t k => XS.icmpYes X0.here hx rfl (pc0 := 2) (pc' := 19) rfl (hb hby d_prog_11_method_4_code_2) rfl (XT.ii_lt_t g1) (by decide) (by decide) k) ?_
    refine own_fw (A' := (s₁.setTop (mkF m 20 #[.val (.ref a1), .val (.int p2), .val (.int p3), .unset] [(.int (0 : Int32))]))) (fun t k => XS.iconst X0.here hx rfl (hb hby d_prog_11_method_4_code_19) k) ?_
    obtain ⟨fs, hr, hrun, hended, hW, hsame⟩ := X0.leave (v := some (.int (0 : Int32))) (fun h => by rw [Bd.returns] at h; cases h)
    refine ⟨_, _, ?_, hrun, hended, _, _, rfl, ?_, ⟨_, rfl⟩, hW, hsame.mono (by decide) (by decide)⟩
    · exact retOut X0 hx Bd.returns rfl (Or.inl ⟨rfl, by simp, _, rfl⟩) (hb hby d_prog_11_method_4_code_20) hr
    · show Q_rmFol Z a1 k1 b0 b1 b2 b3 b4 b5 b6 b7 fb p2 p3 h0 n0 _ s₁.heap _
      rw [e0]
      exact ⟨(by simp only [own_fol, if_pos ho, if_pos g1]), N0, rfl⟩
  · refine own_fw (A' := (s₁.setTop (mkF m 5 #[.val (.ref a1), .val (.int p2), .val (.int p3), .unset] []))) (fun t k => XS.icmpNo X0.here hx rfl (hb hby d_prog_11_method_4_code_2) rfl (XT.ii_lt_f g1) k) ?_
    refine own_fw (A' := (s₁.setTop (mkF m 6 #[.val (.ref a1), .val (.int p2), .val (.int p3), .unset] [(.int p3)]))) (fun t k => XS.iloadN X0.here hx rfl (hb hby d_prog_11_method_4_code_5) rfl k) ?_
    refine own_fw (A' := (s₁.setTop (mkF m 8 #[.val (.ref a1), .val (.int p2), .val (.int p3), .unset] [(.int (32 : Int32)), (.int p3)]))) (fun t k => XS.bipush X0.here hx rfl (hb hby d_prog_11_method_4_code_6) k) ?_
    by_cases g2 : (32 : Int32) < p3
    · refine own_fw (A' := (s₁.setTop (mkF m 19 #[.val (.ref a1), .val (.int p2), .val (.int p3), .unset] []))) (fun t k => XS.icmpYes X0.here hx rfl (pc0 := 8) (pc' := 19) rfl (hb hby d_prog_11_method_4_code_8) rfl (XT.ii_gt_t g2) (by decide) (by decide) k) ?_
      refine own_fw (A' := (s₁.setTop (mkF m 20 #[.val (.ref a1), .val (.int p2), .val (.int p3), .unset] [(.int (0 : Int32))]))) (fun t k => XS.iconst X0.here hx rfl (hb hby d_prog_11_method_4_code_19) k) ?_
      obtain ⟨fs, hr, hrun, hended, hW, hsame⟩ := X0.leave (v := some (.int (0 : Int32))) (fun h => by rw [Bd.returns] at h; cases h)
      refine ⟨_, _, ?_, hrun, hended, _, _, rfl, ?_, ⟨_, rfl⟩, hW, hsame.mono (by decide) (by decide)⟩
      · exact retOut X0 hx Bd.returns rfl (Or.inl ⟨rfl, by simp, _, rfl⟩) (hb hby d_prog_11_method_4_code_20) hr
      · show Q_rmFol Z a1 k1 b0 b1 b2 b3 b4 b5 b6 b7 fb p2 p3 h0 n0 _ s₁.heap _
        rw [e0]
        exact ⟨(by simp only [own_fol, if_pos ho, if_neg g1, if_pos g2]), N0, rfl⟩
    · refine own_fw (A' := (s₁.setTop (mkF m 11 #[.val (.ref a1), .val (.int p2), .val (.int p3), .unset] []))) (fun t k => XS.icmpNo X0.here hx rfl (hb hby d_prog_11_method_4_code_8) rfl (XT.ii_gt_f g2) k) ?_
      refine own_fw (A' := (s₁.setTop (mkF m 12 #[.val (.ref a1), .val (.int p2), .val (.int p3), .unset] [(.ref a1)]))) (fun t k => XS.aloadN X0.here hx rfl (hb hby d_prog_11_method_4_code_11) rfl rfl k) ?_
      refine own_fw (A' := (s₁.setTop (mkF m 13 #[.val (.ref a1), .val (.int p2), .val (.int p3), .unset] [(.int p2), (.ref a1)]))) (fun t k => XS.iloadN X0.here hx rfl (hb hby d_prog_11_method_4_code_12) rfl k) ?_
      obtain ⟨cl1, Ar1, q1, S1, M1, H1, G1⟩ := id P0
      have hin1 : ¬ (p2 < 0 ∨ cl1.slots.size ≤ (p2).toNatClampNeg) := inb_of S1 (own_ob ho)
      have hat1 : cl1.slots[(p2).toNatClampNeg]? = some (.int ((own_buf b0 b1 b2 b3 b4 b5 b6 b7 fb).getD (p2).toNatClampNeg 0)) := H1.at hin1 (own_mapD (own_buf b0 b1 b2 b3 b4 b5 b6 b7 fb) _)
      refine own_fw (A' := (s₁.setTop (mkF m 14 #[.val (.ref a1), .val (.int p2), .val (.int p3), .unset] [(.int ((own_buf b0 b1 b2 b3 b4 b5 b6 b7 fb).getD (p2).toNatClampNeg 0))]))) (fun t k => X0.baloadBytes hx (j := p2) (v := (.int ((own_buf b0 b1 b2 b3 b4 b5 b6 b7 fb).getD (p2).toNatClampNeg 0))) (by rw [e0]; exact Ar1.1) (State.isArrayOf_alike hZ.alike Ar1.2.1) Ar1.2.2 hin1 hat1 (g := (mkF m 13 #[.val (.ref a1), .val (.int p2), .val (.int p3), .unset] [(.int p2), (.ref a1)])) rfl rfl (hb hby d_prog_11_method_4_code_13) _ k) ?_
      refine own_fw (A' := (s₁.setTop (mkF m 16 #[.val (.ref a1), .val (.int p2), .val (.int p3), .unset] [(.int (45 : Int32)), (.int ((own_buf b0 b1 b2 b3 b4 b5 b6 b7 fb).getD (p2).toNatClampNeg 0))]))) (fun t k => XS.bipush X0.here hx rfl (hb hby d_prog_11_method_4_code_14) k) ?_
      by_cases g3 : ((own_buf b0 b1 b2 b3 b4 b5 b6 b7 fb).getD (p2).toNatClampNeg 0) = (45 : Int32)
      · refine own_fw (A' := (s₁.setTop (mkF m 19 #[.val (.ref a1), .val (.int p2), .val (.int p3), .unset] []))) (fun t k => XS.icmpNo X0.here hx rfl (hb hby d_prog_11_method_4_code_16) rfl (XT.ii_ne_f g3) k) ?_
        refine own_fw (A' := (s₁.setTop (mkF m 20 #[.val (.ref a1), .val (.int p2), .val (.int p3), .unset] [(.int (0 : Int32))]))) (fun t k => XS.iconst X0.here hx rfl (hb hby d_prog_11_method_4_code_19) k) ?_
        obtain ⟨fs, hr, hrun, hended, hW, hsame⟩ := X0.leave (v := some (.int (0 : Int32))) (fun h => by rw [Bd.returns] at h; cases h)
        refine ⟨_, _, ?_, hrun, hended, _, _, rfl, ?_, ⟨_, rfl⟩, hW, hsame.mono (by decide) (by decide)⟩
        · exact retOut X0 hx Bd.returns rfl (Or.inl ⟨rfl, by simp, _, rfl⟩) (hb hby d_prog_11_method_4_code_20) hr
        · show Q_rmFol Z a1 k1 b0 b1 b2 b3 b4 b5 b6 b7 fb p2 p3 h0 n0 _ s₁.heap _
          rw [e0]
          exact ⟨(by simp only [own_fol, if_pos ho, if_neg g1, if_neg g2, if_pos g3]), N0, rfl⟩
      · refine own_fw (A' := (s₁.setTop (mkF m 21 #[.val (.ref a1), .val (.int p2), .val (.int p3), .unset] []))) (fun t k => XS.icmpYes X0.here hx rfl (pc0 := 16) (pc' := 21) rfl (hb hby d_prog_11_method_4_code_16) rfl (XT.ii_ne_t g3) (by decide) (by decide) k) ?_
        refine own_fw (A' := (s₁.setTop (mkF m 22 #[.val (.ref a1), .val (.int p2), .val (.int p3), .unset] [(.int p2)]))) (fun t k => XS.iloadN X0.here hx rfl (hb hby d_prog_11_method_4_code_21) rfl k) ?_
        refine own_fw (A' := (s₁.setTop (mkF m 23 #[.val (.ref a1), .val (.int p2), .val (.int p3), .val (.int p2)] []))) (fun t k => XS.istoreN X0.here hx rfl (hb hby d_prog_11_method_4_code_22) rfl (l' := #[.val (.ref a1), .val (.int p2), .val (.int p3), .val (.int p2)]) rfl k) ?_
        have HL : ∀ (n : Nat) (i : Int32) (TL : State) (LL : List Loc) (_ : Stand p l e ({ frames := 1, cells := 0, slots := 0, locals := 12 } : Room) s m #[(.ref a1), (.int p2), (.int p3)] below meth c TL LL 0 0) (_ : TL.heap = h0) (_ : Fr n0 LL) (_ : own_inv (own_buf b0 b1 b2 b3 b4 b5 b6 b7 fb) p2 p3 n i), ∃ U o, Steps p.tables e below (TL.setTop (mkF m 23 #[.val (.ref a1), .val (.int p2), .val (.int p3), .val (.int i)] [])) U ∧ U.status = .running ∧ Ended U below o ∧ ∃ v L, o = .returned v ∧ Q_rmFol Z a1 k1 b0 b1 b2 b3 b4 b5 b6 b7 fb p2 p3 h0 n0 v U.heap L ∧ FrameEnd s o U L ({ frames := 1, cells := 0, slots := 0, locals := 12 } : Room).cells ({ frames := 1, cells := 0, slots := 0, locals := 12 } : Room).slots := by
          intro n
          induction n with
          | zero =>
            intro i TL LL XL eL NL hinv
            refine own_fw (A' := (TL.setTop (mkF m 24 #[.val (.ref a1), .val (.int p2), .val (.int p3), .val (.int i)] [(.int i)]))) (fun t k => XS.iloadN XL.here hx rfl (hb hby d_prog_11_method_4_code_23) rfl k) ?_
            refine own_fw (A' := (TL.setTop (mkF m 25 #[.val (.ref a1), .val (.int p2), .val (.int p3), .val (.int i)] [(.int p2), (.int i)]))) (fun t k => XS.iloadN XL.here hx rfl (hb hby d_prog_11_method_4_code_24) rfl k) ?_
            refine own_fw (A' := (TL.setTop (mkF m 26 #[.val (.ref a1), .val (.int p2), .val (.int p3), .val (.int i)] [(.int p3), (.int p2), (.int i)]))) (fun t k => XS.iloadN XL.here hx rfl (hb hby d_prog_11_method_4_code_25) rfl k) ?_
            refine own_fw (A' := (TL.setTop (mkF m 27 #[.val (.ref a1), .val (.int p2), .val (.int p3), .val (.int i)] [(.int (p2 + p3)), (.int i)]))) (fun t k => XS.iadd XL.here hx rfl (hb hby d_prog_11_method_4_code_26) rfl k) ?_
            refine own_fw (A' := (TL.setTop (mkF m 55 #[.val (.ref a1), .val (.int p2), .val (.int p3), .val (.int i)] []))) (fun t k => XS.icmpYes XL.here hx rfl (pc0 := 27) (pc' := 55) rfl (hb hby d_prog_11_method_4_code_27) rfl (XT.ii_ge_t (own_z hinv)) (by decide) (by decide) k) ?_
            refine own_fw (A' := (TL.setTop (mkF m 56 #[.val (.ref a1), .val (.int p2), .val (.int p3), .val (.int i)] [(.int (1 : Int32))]))) (fun t k => XS.iconst XL.here hx rfl (hb hby d_prog_11_method_4_code_55) k) ?_
            obtain ⟨fs, hr, hrun, hended, hW, hsame⟩ := XL.leave (v := some (.int (1 : Int32))) (fun h => by rw [Bd.returns] at h; cases h)
            refine ⟨_, _, ?_, hrun, hended, _, _, rfl, ?_, ⟨_, rfl⟩, hW, hsame.mono (by decide) (by decide)⟩
            · exact retOut XL hx Bd.returns rfl (Or.inl ⟨rfl, by simp, _, rfl⟩) (hb hby d_prog_11_method_4_code_56) hr
            · show Q_rmFol Z a1 k1 b0 b1 b2 b3 b4 b5 b6 b7 fb p2 p3 h0 n0 _ TL.heap _
              rw [eL]
              exact ⟨(by rw [own_zv hinv]), NL, rfl⟩
          | succ n ih =>
            intro i TL LL XL eL NL hinv
            refine own_fw (A' := (TL.setTop (mkF m 24 #[.val (.ref a1), .val (.int p2), .val (.int p3), .val (.int i)] [(.int i)]))) (fun t k => XS.iloadN XL.here hx rfl (hb hby d_prog_11_method_4_code_23) rfl k) ?_
            refine own_fw (A' := (TL.setTop (mkF m 25 #[.val (.ref a1), .val (.int p2), .val (.int p3), .val (.int i)] [(.int p2), (.int i)]))) (fun t k => XS.iloadN XL.here hx rfl (hb hby d_prog_11_method_4_code_24) rfl k) ?_
            refine own_fw (A' := (TL.setTop (mkF m 26 #[.val (.ref a1), .val (.int p2), .val (.int p3), .val (.int i)] [(.int p3), (.int p2), (.int i)]))) (fun t k => XS.iloadN XL.here hx rfl (hb hby d_prog_11_method_4_code_25) rfl k) ?_
            refine own_fw (A' := (TL.setTop (mkF m 27 #[.val (.ref a1), .val (.int p2), .val (.int p3), .val (.int i)] [(.int (p2 + p3)), (.int i)]))) (fun t k => XS.iadd XL.here hx rfl (hb hby d_prog_11_method_4_code_26) rfl k) ?_
            refine own_fw (A' := (TL.setTop (mkF m 30 #[.val (.ref a1), .val (.int p2), .val (.int p3), .val (.int i)] []))) (fun t k => XS.icmpNo XL.here hx rfl (hb hby d_prog_11_method_4_code_27) rfl (XT.ii_ge_f (own_s hinv)) k) ?_
            refine own_fw (A' := (TL.setTop (mkF m 31 #[.val (.ref a1), .val (.int p2), .val (.int p3), .val (.int i)] [(.ref a1)]))) (fun t k => XS.aloadN XL.here hx rfl (hb hby d_prog_11_method_4_code_30) rfl rfl k) ?_
            refine own_fw (A' := (TL.setTop (mkF m 32 #[.val (.ref a1), .val (.int p2), .val (.int p3), .val (.int i)] [(.int i), (.ref a1)]))) (fun t k => XS.iloadN XL.here hx rfl (hb hby d_prog_11_method_4_code_31) rfl k) ?_
            obtain ⟨cl2, Ar2, q2, S2, M2, H2, G2⟩ := id P0
            have hin2 : ¬ (i < 0 ∨ cl2.slots.size ≤ (i).toNatClampNeg) := inb_of S2 (own_sb hinv)
            have hat2 : cl2.slots[(i).toNatClampNeg]? = some (.int ((own_buf b0 b1 b2 b3 b4 b5 b6 b7 fb).getD (i).toNatClampNeg 0)) := H2.at hin2 (own_mapD (own_buf b0 b1 b2 b3 b4 b5 b6 b7 fb) _)
            refine own_fw (A' := (TL.setTop (mkF m 33 #[.val (.ref a1), .val (.int p2), .val (.int p3), .val (.int i)] [(.int ((own_buf b0 b1 b2 b3 b4 b5 b6 b7 fb).getD (i).toNatClampNeg 0))]))) (fun t k => XL.baloadBytes hx (j := i) (v := (.int ((own_buf b0 b1 b2 b3 b4 b5 b6 b7 fb).getD (i).toNatClampNeg 0))) (by rw [eL]; exact Ar2.1) (State.isArrayOf_alike hZ.alike Ar2.2.1) Ar2.2.2 hin2 hat2 (g := (mkF m 32 #[.val (.ref a1), .val (.int p2), .val (.int p3), .val (.int i)] [(.int i), (.ref a1)])) rfl rfl (hb hby d_prog_11_method_4_code_32) _ k) ?_
            obtain ⟨_, _, ⟨T3, L3, k3, n3⟩, -, X3, ⟨Lc3, hQ3, l3, y3, z3⟩, st3⟩ := Jvm.LawKit.callS XL hx (y := (⟨"com/example/log_to_isles/logtoisles/model/NodeName", "isLowerAsciiLetterOrDigit", "(I)Z"⟩ : MethodName)) hown (mvT hZ (hw _ (List.mem_of_getElem? (i := 48) rfl))) (mvT hZ (hw _ (List.mem_of_getElem? (i := 49) rfl))) (mvT hZ (hw _ (List.mem_of_getElem? (i := 46) rfl))) (mvT hZ (hw _ (List.mem_of_getElem? (i := 50) rfl))) (by decide) (backOf (W := 0) (rmLow l Z a0 hw [] ((own_buf b0 b1 b2 b3 b4 b5 b6 b7 fb).getD (i).toNatClampNeg 0) h0 n0 Z0 ) hZ (hw _ (List.mem_of_getElem? (i := 50) rfl)) (hw _ (List.mem_of_getElem? (i := 46) rfl)) (by decide) (by decide)) (g := (mkF m 33 #[.val (.ref a1), .val (.int p2), .val (.int p3), .val (.int i)] [(.int ((own_buf b0 b1 b2 b3 b4 b5 b6 b7 fb).getD (i).toNatClampNeg 0))])) rfl (by rw [hml]; rfl) (argsL := [(.int ((own_buf b0 b1 b2 b3 b4 b5 b6 b7 fb).getD (i).toNatClampNeg 0))]) (rest := []) (lenOf pd__I_Z rfl) rfl (by show 2 * 0 + _ ≤ _; exact Nat.le_of_eq rfl) (hb hby d_prog_11_method_4_code_33) (fun _ _ => ⟨rfl, eL, (by decide : 0 + 0 ≤ _), (by decide : 0 + 0 ≤ _)⟩)
            dsimp only [Pt.U, Pt.locs, Pt.cells, Pt.slots] at X3 l3 y3 z3 st3 hQ3
            subst l3 y3 z3
            obtain ⟨rfl, Nq3, e3⟩ := hQ3
            have Nf3 := Fr.app NL Nq3
            refine own_fw (A' := (T3.setTop (mkF m 36 #[.val (.ref a1), .val (.int p2), .val (.int p3), .val (.int i)] [(.int (own_low ((own_buf b0 b1 b2 b3 b4 b5 b6 b7 fb).getD (i).toNatClampNeg 0)))]))) (fun t k => st3 _ k) ?_
            by_cases hc4 : (own_low ((own_buf b0 b1 b2 b3 b4 b5 b6 b7 fb).getD (i).toNatClampNeg 0)) = (0 : Int32)
            · refine own_fw (A' := (T3.setTop (mkF m 39 #[.val (.ref a1), .val (.int p2), .val (.int p3), .val (.int i)] []))) (fun t k => XS.ifNo X3.here hx rfl (hb hby d_prog_11_method_4_code_36) rfl (XT.i0_ne_f hc4) k) ?_
              refine own_fw (A' := (T3.setTop (mkF m 40 #[.val (.ref a1), .val (.int p2), .val (.int p3), .val (.int i)] [(.ref a1)]))) (fun t k => XS.aloadN X3.here hx rfl (hb hby d_prog_11_method_4_code_39) rfl rfl k) ?_
              refine own_fw (A' := (T3.setTop (mkF m 41 #[.val (.ref a1), .val (.int p2), .val (.int p3), .val (.int i)] [(.int i), (.ref a1)]))) (fun t k => XS.iloadN X3.here hx rfl (hb hby d_prog_11_method_4_code_40) rfl k) ?_
              obtain ⟨cl5, Ar5, q5, S5, M5, H5, G5⟩ := id P0
              have hin5 : ¬ (i < 0 ∨ cl5.slots.size ≤ (i).toNatClampNeg) := inb_of S5 (own_sb hinv)
              have hat5 : cl5.slots[(i).toNatClampNeg]? = some (.int ((own_buf b0 b1 b2 b3 b4 b5 b6 b7 fb).getD (i).toNatClampNeg 0)) := H5.at hin5 (own_mapD (own_buf b0 b1 b2 b3 b4 b5 b6 b7 fb) _)
              refine own_fw (A' := (T3.setTop (mkF m 42 #[.val (.ref a1), .val (.int p2), .val (.int p3), .val (.int i)] [(.int ((own_buf b0 b1 b2 b3 b4 b5 b6 b7 fb).getD (i).toNatClampNeg 0))]))) (fun t k => X3.baloadBytes hx (j := i) (v := (.int ((own_buf b0 b1 b2 b3 b4 b5 b6 b7 fb).getD (i).toNatClampNeg 0))) (by rw [e3]; exact Ar5.1) (State.isArrayOf_alike hZ.alike Ar5.2.1) Ar5.2.2 hin5 hat5 (g := (mkF m 41 #[.val (.ref a1), .val (.int p2), .val (.int p3), .val (.int i)] [(.int i), (.ref a1)])) rfl rfl (hb hby d_prog_11_method_4_code_41) _ k) ?_
              refine own_fw (A' := (T3.setTop (mkF m 44 #[.val (.ref a1), .val (.int p2), .val (.int p3), .val (.int i)] [(.int (45 : Int32)), (.int ((own_buf b0 b1 b2 b3 b4 b5 b6 b7 fb).getD (i).toNatClampNeg 0))]))) (fun t k => XS.bipush X3.here hx rfl (hb hby d_prog_11_method_4_code_42) k) ?_
              by_cases hc6 : ((own_buf b0 b1 b2 b3 b4 b5 b6 b7 fb).getD (i).toNatClampNeg 0) = (45 : Int32)
              · refine own_fw (A' := (T3.setTop (mkF m 49 #[.val (.ref a1), .val (.int p2), .val (.int p3), .val (.int i)] []))) (fun t k => XS.icmpYes X3.here hx rfl (pc0 := 44) (pc' := 49) rfl (hb hby d_prog_11_method_4_code_44) rfl (XT.ii_eq_t hc6) (by decide) (by decide) k) ?_
                refine own_fw (A' := (T3.setTop (mkF m 52 #[.val (.ref a1), .val (.int p2), .val (.int p3), .val (.int (i + (1 : Int32)))] []))) (fun t k => XS.iinc X3.here hx rfl (hb hby d_prog_11_method_4_code_49) rfl (l' := #[.val (.ref a1), .val (.int p2), .val (.int p3), .val (.int (i + (1 : Int32)))]) rfl k) ?_
                refine own_fw (A' := (T3.setTop (mkF m 23 #[.val (.ref a1), .val (.int p2), .val (.int p3), .val (.int (i + (1 : Int32)))] []))) (fun t k => XS.goto X3.here hx rfl (pc0 := 52) (pc' := 23) rfl (hb hby d_prog_11_method_4_code_52) (by decide) (by decide) k) ?_
                exact ih _ _ _ X3 e3 Nf3 (own_next hinv (own_v2 hc6))
              · refine own_fw (A' := (T3.setTop (mkF m 47 #[.val (.ref a1), .val (.int p2), .val (.int p3), .val (.int i)] []))) (fun t k => XS.icmpNo X3.here hx rfl (hb hby d_prog_11_method_4_code_44) rfl (XT.ii_eq_f hc6) k) ?_
                refine own_fw (A' := (T3.setTop (mkF m 48 #[.val (.ref a1), .val (.int p2), .val (.int p3), .val (.int i)] [(.int (0 : Int32))]))) (fun t k => XS.iconst X3.here hx rfl (hb hby d_prog_11_method_4_code_47) k) ?_
                obtain ⟨fs, hr, hrun, hended, hW, hsame⟩ := X3.leave (v := some (.int (0 : Int32))) (fun h => by rw [Bd.returns] at h; cases h)
                refine ⟨_, _, ?_, hrun, hended, _, _, rfl, ?_, ⟨_, rfl⟩, hW, hsame.mono (by decide) (by decide)⟩
                · exact retOut X3 hx Bd.returns rfl (Or.inl ⟨rfl, by simp, _, rfl⟩) (hb hby d_prog_11_method_4_code_48) hr
                · show Q_rmFol Z a1 k1 b0 b1 b2 b3 b4 b5 b6 b7 fb p2 p3 h0 n0 _ T3.heap _
                  rw [e3]
                  exact ⟨(by rw [own_sv hinv (own_v3 hc4 hc6)]), Nf3, rfl⟩
            · refine own_fw (A' := (T3.setTop (mkF m 49 #[.val (.ref a1), .val (.int p2), .val (.int p3), .val (.int i)] []))) (fun t k => XS.ifYes X3.here hx rfl (pc0 := 36) (pc' := 49) rfl (hb hby d_prog_11_method_4_code_36) rfl (XT.i0_ne_t hc4) (by decide) (by decide) k) ?_
              refine own_fw (A' := (T3.setTop (mkF m 52 #[.val (.ref a1), .val (.int p2), .val (.int p3), .val (.int (i + (1 : Int32)))] []))) (fun t k => XS.iinc X3.here hx rfl (hb hby d_prog_11_method_4_code_49) rfl (l' := #[.val (.ref a1), .val (.int p2), .val (.int p3), .val (.int (i + (1 : Int32)))]) rfl k) ?_
              refine own_fw (A' := (T3.setTop (mkF m 23 #[.val (.ref a1), .val (.int p2), .val (.int p3), .val (.int (i + (1 : Int32)))] []))) (fun t k => XS.goto X3.here hx rfl (pc0 := 52) (pc' := 23) rfl (hb hby d_prog_11_method_4_code_52) (by decide) (by decide) k) ?_
              exact ih _ _ _ X3 e3 Nf3 (own_next hinv (own_v1 hc4))
        exact HL _ _ _ _ X0 e0 N0 (own_first ho g1 g2 g3)
theorem pd__IZ_B : parseMethodDescriptor "(IZ)B" = some ⟨[.int, .boolean], some .byte⟩ := by decide +kernel
theorem pd___BII_Z : parseMethodDescriptor "([BII)Z" = some ⟨[(.array .byte), .int, .int], some .boolean⟩ := by decide +kernel
theorem pd___BIII_Z : parseMethodDescriptor "([BIII)Z" = some ⟨[(.array .byte), .int, .int, .int], some .boolean⟩ := by decide +kernel
theorem ef_rm0 (m : MethodId) (p1 : Int64) (p2 : Int32) (p3 : Int32) (p4 : Int32) (p5 : Int32) : entryFrame m #[(.long p1), (.int p2), (.int p3), (.int p4), (.int p5)] maxLocals = mkF m 0 #[.val (.long p1), .second, .val (.int p2), .val (.int p3), .val (.int p4), .val (.int p5), .unset, .unset, .unset, .unset, .unset, .unset, .unset, .unset, .unset, .unset, .unset, .unset, .unset] [] := by first | (simp [entryFrame, mkF, argsToLocals, Value.category, maxLocals]; done) | rfl
def Q_rm0 (Z : State) (p1 : Int64) (p2 : Int32) (p3 : Int32) (p4 : Int32) (p5 : Int32) (cs : Int32) (sv : Value) (h0 : Heap) (n0 : Nat) (v : Option Value) (h : Heap) (L : List Loc) : Prop := v = some (.int (1 : Int32)) ∧ Fr n0 L
set_option maxRecDepth 65536 in
set_option maxHeartbeats 40000000 in
theorem rm0 (l : Launch) (Z : State) (a0 : Array Value) (hw : ∀ d ∈ tables_1, d.before a0 Z = true) (ws : List Jvm.Cond) (p1 : Int64) (p2 : Int32) (p3 : Int32) (p4 : Int32) (p5 : Int32) (cs : Int32) (sv : Value) (h0 : Heap) (n0 : Nat) (Z0 : n0 ≤ h0.size) (P0 : Sta Z h0 "java/lang/String" "COMPACT_STRINGS" "Z" (.int cs)) (hcs : ¬ (cs = (0 : Int32))) (P2 : Sta Z h0 "jdk/internal/util/Preconditions" "SIOOBE_FORMATTER" "Ljava/util/function/BiFunction;" sv) (hsv : sv.isRef = true) :
    MetFree l x (head1 (Jvm.Cond.code x code maxLocals ret :: ws) room_1) (fun a U => a = #[(.long p1), (.int p2), (.int p3), (.int p4), (.int p5)] ∧ Z.Warmed39 U.vm ∧ U.heap = h0 ∧ CHv Z own_EL U.vm h0) (fun _ _ _ _ _ => True) (fun _ U o U' => ∃ v L, o = .returned v ∧ Q_rm0 Z p1 p2 p3 p4 p5 cs sv h0 n0 v U'.heap L ∧ ReturnedEndW U o U' L room_1.cells room_1.slots) := by
  refine MetFree.of_bodySF (plainFor_of_name pn_com_example_log_to_isles_logtoisles_model_NodeNameFollowsPinLaw) hisR ?_
  intro p e s m args below meth c s₁ Bd hml0 hP hK
  obtain ⟨rfl, hZ, hh, hH⟩ := hP
  have hx := Bd.exec
  have hby := Bd.bytes
  have hml : c.maxLocals = 19 := hml0
  have hown : s.vm.findClass "com/example/log_to_isles/logtoisles/model/NodeNameFollowsPinLaw" = some m.cls := findClass_of_methodNamed Bd.named
  have hnm := (name_of_methodNamed Bd.named Bd.method).1
  have X0 : Stand p l e room_1 (s.setVm s.vm) m #[(.long p1), (.int p2), (.int p3), (.int p4), (.int p5)] below meth c s₁ [] 0 0 := Stand.of_body Bd
  have e0 : s₁.heap = h0 := by rw [← hh, Bd.state]; rfl
  have N0 := Fr.nil n0
  refine own_fw (A' := (s₁.setTop (mkF m 0 #[.val (.long p1), .second, .val (.int p2), .val (.int p3), .val (.int p4), .val (.int p5), .unset, .unset, .unset, .unset, .unset, .unset, .unset, .unset, .unset, .unset, .unset, .unset, .unset] []))) (fun t k => castTop (ef_rm0 m p1 p2 p3 p4 p5) k) ?_
  have hS : s.Since s.vm h0.size := (State.WarmedH.refl s).since _
  have hk : h0.size ≤ h0.size := Nat.le_refl _
  have hC : CHr Z own_EL s.vm h0 s.vm h0 := CHr.refl hH
  have hJ : own_J s.vm 0 0 := Or.inl ⟨rfl, rfl⟩
  refine own_fw (A' := (s₁.setTop (mkF m 1 #[.val (.long p1), .second, .val (.int p2), .val (.int p3), .val (.int p4), .val (.int p5), .unset, .unset, .unset, .unset, .unset, .unset, .unset, .unset, .unset, .unset, .unset, .unset, .unset] [(.long p1)]))) (fun t k => XS.lloadN X0.here hx rfl (hb hby at_0) rfl k) ?_
  refine own_fw (A' := (s₁.setTop (mkF m 2 #[.val (.long p1), .second, .val (.int p2), .val (.int p3), .val (.int p4), .val (.int p5), .unset, .unset, .unset, .unset, .unset, .unset, .unset, .unset, .unset, .unset, .unset, .unset, .unset] [(.int (p1.toInt32))]))) (fun t k => XS.l2i X0.here hx rfl (hb hby at_1) rfl k) ?_
  refine own_fw (A' := (s₁.setTop (mkF m 3 #[.val (.long p1), .second, .val (.int p2), .val (.int p3), .val (.int p4), .val (.int p5), .unset, .unset, .unset, .unset, .unset, .unset, .unset, .unset, .unset, .unset, .unset, .unset, .unset] [(.int p2), (.int (p1.toInt32))]))) (fun t k => XS.iloadN X0.here hx rfl (hb hby at_2) rfl k) ?_
  refine own_fw (A' := (s₁.setTop (mkF m 4 #[.val (.long p1), .second, .val (.int p2), .val (.int p3), .val (.int p4), .val (.int p5), .unset, .unset, .unset, .unset, .unset, .unset, .unset, .unset, .unset, .unset, .unset, .unset, .unset] [(.int (1 : Int32)), (.int p2), (.int (p1.toInt32))]))) (fun t k => XS.iconst X0.here hx rfl (hb hby at_3) k) ?_
  refine own_fw (A' := (s₁.setTop (mkF m 5 #[.val (.long p1), .second, .val (.int p2), .val (.int p3), .val (.int p4), .val (.int p5), .unset, .unset, .unset, .unset, .unset, .unset, .unset, .unset, .unset, .unset, .unset, .unset, .unset] [(.int (p2 &&& (1 : Int32))), (.int (p1.toInt32))]))) (fun t k => XS.iand X0.here hx rfl (hb hby at_4) rfl k) ?_
  refine own_fw (A' := (s₁.setTop (mkF m 13 #[.val (.long p1), .second, .val (.int p2), .val (.int p3), .val (.int p4), .val (.int p5), .unset, .unset, .unset, .unset, .unset, .unset, .unset, .unset, .unset, .unset, .unset, .unset, .unset] [(.int (if (p2 &&& (1 : Int32)) = (0 : Int32) then (0 : Int32) else (1 : Int32))), (.int (p1.toInt32))]))) (fun t k => ?_) ?_
  · by_cases hj1 : (p2 &&& (1 : Int32)) = (0 : Int32)
    · try simp only [if_pos hj1] at k
      refine own_st (A' := (s₁.setTop (mkF m 12 #[.val (.long p1), .second, .val (.int p2), .val (.int p3), .val (.int p4), .val (.int p5), .unset, .unset, .unset, .unset, .unset, .unset, .unset, .unset, .unset, .unset, .unset, .unset, .unset] [(.int (p1.toInt32))]))) (fun t k => XS.ifYes X0.here hx rfl (pc0 := 5) (pc' := 12) rfl (hb hby at_5) rfl (XT.i0_eq_t hj1) (by decide) (by decide) k) ?_
      refine own_st (A' := (s₁.setTop (mkF m 13 #[.val (.long p1), .second, .val (.int p2), .val (.int p3), .val (.int p4), .val (.int p5), .unset, .unset, .unset, .unset, .unset, .unset, .unset, .unset, .unset, .unset, .unset, .unset, .unset] [(.int (0 : Int32)), (.int (p1.toInt32))]))) (fun t k => XS.iconst X0.here hx rfl (hb hby at_12) k) ?_
      exact k
    · try simp only [if_neg hj1] at k
      refine own_st (A' := (s₁.setTop (mkF m 8 #[.val (.long p1), .second, .val (.int p2), .val (.int p3), .val (.int p4), .val (.int p5), .unset, .unset, .unset, .unset, .unset, .unset, .unset, .unset, .unset, .unset, .unset, .unset, .unset] [(.int (p1.toInt32))]))) (fun t k => XS.ifNo X0.here hx rfl (hb hby at_5) rfl (XT.i0_eq_f hj1) k) ?_
      refine own_st (A' := (s₁.setTop (mkF m 9 #[.val (.long p1), .second, .val (.int p2), .val (.int p3), .val (.int p4), .val (.int p5), .unset, .unset, .unset, .unset, .unset, .unset, .unset, .unset, .unset, .unset, .unset, .unset, .unset] [(.int (1 : Int32)), (.int (p1.toInt32))]))) (fun t k => XS.iconst X0.here hx rfl (hb hby at_8) k) ?_
      refine own_st (A' := (s₁.setTop (mkF m 13 #[.val (.long p1), .second, .val (.int p2), .val (.int p3), .val (.int p4), .val (.int p5), .unset, .unset, .unset, .unset, .unset, .unset, .unset, .unset, .unset, .unset, .unset, .unset, .unset] [(.int (1 : Int32)), (.int (p1.toInt32))]))) (fun t k => XS.goto X0.here hx rfl (pc0 := 9) (pc' := 13) rfl (hb hby at_9) (by decide) (by decide) k) ?_
      exact k
  obtain ⟨f0, h_f0⟩ : ∃ z : Int32, z = (if (p2 &&& (1 : Int32)) = (0 : Int32) then (0 : Int32) else (1 : Int32)) := ⟨_, rfl⟩
  rw [← h_f0]
  obtain ⟨_, vq2, ⟨T2, L2, k2, n2⟩, wq2, X2, hS2, gS2, ⟨Lc2, hQ2, l2, gq2, r2⟩, st2⟩ := callSS X0 hx (y := (⟨"com/example/log_to_isles/logtoisles/model/NodeNameFollowsPinLaw", "pick", "(IZ)B"⟩ : MethodName)) hown (mvT hZ (hw _ (List.mem_of_getElem? (i := 0) rfl))) (mvT hZ (hw _ (List.mem_of_getElem? (i := 1) rfl))) (mvT hZ (hw _ (List.mem_of_getElem? (i := 2) rfl))) (mvT hZ (hw _ (List.mem_of_getElem? (i := 3) rfl))) (by decide) (own_backJ (W := 0) (rmPick l Z a0 hw [] (p1.toInt32) f0 cs sv h0 n0 Z0 P0 hcs P2 hsv) hZ (hw _ (List.mem_of_getElem? (i := 3) rfl)) (hw _ (List.mem_of_getElem? (i := 2) rfl)) (by decide) (by decide) (own_EW hw) hH) (g := (mkF m 13 #[.val (.long p1), .second, .val (.int p2), .val (.int p3), .val (.int p4), .val (.int p5), .unset, .unset, .unset, .unset, .unset, .unset, .unset, .unset, .unset, .unset, .unset, .unset, .unset] [(.int f0), (.int (p1.toInt32))])) rfl (by rw [hml]; rfl) (argsL := [(.int (p1.toInt32)), (.int f0)]) (rest := []) (lenOf pd__IZ_B rfl) rfl (by show 2 * 0 + _ ≤ _; exact Nat.le_of_eq rfl) (hb hby at_13) (fun _ _ => ⟨rfl, e0, own_Jc hJ, own_Jn hJ⟩)
  dsimp only [Pt.U, Pt.locs, Pt.cells, Pt.slots] at X2 l2 gq2 st2 hQ2 hS2 gS2 r2
  subst l2
  have hJ := own_Jstep hJ wq2 hS2.1 gq2
  obtain ⟨X2, hS, hZ', hown⟩ := rebS hS (by rw [e0]; exact hk : _ ≤ s₁.heap.size) X2 hS2 gS2 hZ hown
  have hk : T2.heap.size ≤ T2.heap.size := Nat.le_refl _
  obtain ⟨r_2, rfl, Nq2, Kq2, hr_2⟩ := hQ2
  have Nf2 := Fr.app N0 Nq2
  have hC := hC.trans r2
  have hH := hC.1
  have hZ := hZ'
  have K2 : Keep h0 T2.heap [] := (Keep.refl h0 []).trans Kq2 all0
  have Z2 : n0 ≤ T2.heap.size := Nat.le_trans Z0 Kq2.1
  refine own_fw (A' := (T2.setTop (mkF m 16 #[.val (.long p1), .second, .val (.int p2), .val (.int p3), .val (.int p4), .val (.int p5), .unset, .unset, .unset, .unset, .unset, .unset, .unset, .unset, .unset, .unset, .unset, .unset, .unset] [(.int r_2)]))) (fun t k => st2.trans k) ?_
  refine own_fw (A' := (T2.setTop (mkF m 18 #[.val (.long p1), .second, .val (.int p2), .val (.int p3), .val (.int p4), .val (.int p5), .val (.int r_2), .unset, .unset, .unset, .unset, .unset, .unset, .unset, .unset, .unset, .unset, .unset, .unset] []))) (fun t k => XS.istore X2.here hx rfl (hb hby at_16) rfl (l' := #[.val (.long p1), .second, .val (.int p2), .val (.int p3), .val (.int p4), .val (.int p5), .val (.int r_2), .unset, .unset, .unset, .unset, .unset, .unset, .unset, .unset, .unset, .unset, .unset, .unset]) rfl k) ?_
  refine own_fw (A' := (T2.setTop (mkF m 19 #[.val (.long p1), .second, .val (.int p2), .val (.int p3), .val (.int p4), .val (.int p5), .val (.int r_2), .unset, .unset, .unset, .unset, .unset, .unset, .unset, .unset, .unset, .unset, .unset, .unset] [(.long p1)]))) (fun t k => XS.lloadN X2.here hx rfl (hb hby at_18) rfl k) ?_
  refine own_fw (A' := (T2.setTop (mkF m 21 #[.val (.long p1), .second, .val (.int p2), .val (.int p3), .val (.int p4), .val (.int p5), .val (.int r_2), .unset, .unset, .unset, .unset, .unset, .unset, .unset, .unset, .unset, .unset, .unset, .unset] [(.int (8 : Int32)), (.long p1)]))) (fun t k => XS.bipush X2.here hx rfl (hb hby at_19) k) ?_
  refine own_fw (A' := (T2.setTop (mkF m 22 #[.val (.long p1), .second, .val (.int p2), .val (.int p3), .val (.int p4), .val (.int p5), .val (.int r_2), .unset, .unset, .unset, .unset, .unset, .unset, .unset, .unset, .unset, .unset, .unset, .unset] [(.long ((p1.toUInt64 >>> ((8 : Int32) &&& 0x3f).toInt64.toUInt64).toInt64))]))) (fun t k => XS.lushr X2.here hx rfl (hb hby at_21) rfl k) ?_
  refine own_fw (A' := (T2.setTop (mkF m 23 #[.val (.long p1), .second, .val (.int p2), .val (.int p3), .val (.int p4), .val (.int p5), .val (.int r_2), .unset, .unset, .unset, .unset, .unset, .unset, .unset, .unset, .unset, .unset, .unset, .unset] [(.int (((p1.toUInt64 >>> ((8 : Int32) &&& 0x3f).toInt64.toUInt64).toInt64).toInt32))]))) (fun t k => XS.l2i X2.here hx rfl (hb hby at_22) rfl k) ?_
  refine own_fw (A' := (T2.setTop (mkF m 24 #[.val (.long p1), .second, .val (.int p2), .val (.int p3), .val (.int p4), .val (.int p5), .val (.int r_2), .unset, .unset, .unset, .unset, .unset, .unset, .unset, .unset, .unset, .unset, .unset, .unset] [(.int p2), (.int (((p1.toUInt64 >>> ((8 : Int32) &&& 0x3f).toInt64.toUInt64).toInt64).toInt32))]))) (fun t k => XS.iloadN X2.here hx rfl (hb hby at_23) rfl k) ?_
  refine own_fw (A' := (T2.setTop (mkF m 25 #[.val (.long p1), .second, .val (.int p2), .val (.int p3), .val (.int p4), .val (.int p5), .val (.int r_2), .unset, .unset, .unset, .unset, .unset, .unset, .unset, .unset, .unset, .unset, .unset, .unset] [(.int (1 : Int32)), (.int p2), (.int (((p1.toUInt64 >>> ((8 : Int32) &&& 0x3f).toInt64.toUInt64).toInt64).toInt32))]))) (fun t k => XS.iconst X2.here hx rfl (hb hby at_24) k) ?_
  refine own_fw (A' := (T2.setTop (mkF m 26 #[.val (.long p1), .second, .val (.int p2), .val (.int p3), .val (.int p4), .val (.int p5), .val (.int r_2), .unset, .unset, .unset, .unset, .unset, .unset, .unset, .unset, .unset, .unset, .unset, .unset] [(.int ((p2.toUInt32 >>> ((1 : Int32) &&& 31).toUInt32).toInt32)), (.int (((p1.toUInt64 >>> ((8 : Int32) &&& 0x3f).toInt64.toUInt64).toInt64).toInt32))]))) (fun t k => XS.iushr X2.here hx rfl (hb hby at_25) rfl k) ?_
  refine own_fw (A' := (T2.setTop (mkF m 27 #[.val (.long p1), .second, .val (.int p2), .val (.int p3), .val (.int p4), .val (.int p5), .val (.int r_2), .unset, .unset, .unset, .unset, .unset, .unset, .unset, .unset, .unset, .unset, .unset, .unset] [(.int (1 : Int32)), (.int ((p2.toUInt32 >>> ((1 : Int32) &&& 31).toUInt32).toInt32)), (.int (((p1.toUInt64 >>> ((8 : Int32) &&& 0x3f).toInt64.toUInt64).toInt64).toInt32))]))) (fun t k => XS.iconst X2.here hx rfl (hb hby at_26) k) ?_
  refine own_fw (A' := (T2.setTop (mkF m 28 #[.val (.long p1), .second, .val (.int p2), .val (.int p3), .val (.int p4), .val (.int p5), .val (.int r_2), .unset, .unset, .unset, .unset, .unset, .unset, .unset, .unset, .unset, .unset, .unset, .unset] [(.int (((p2.toUInt32 >>> ((1 : Int32) &&& 31).toUInt32).toInt32) &&& (1 : Int32))), (.int (((p1.toUInt64 >>> ((8 : Int32) &&& 0x3f).toInt64.toUInt64).toInt64).toInt32))]))) (fun t k => XS.iand X2.here hx rfl (hb hby at_27) rfl k) ?_
  refine own_fw (A' := (T2.setTop (mkF m 36 #[.val (.long p1), .second, .val (.int p2), .val (.int p3), .val (.int p4), .val (.int p5), .val (.int r_2), .unset, .unset, .unset, .unset, .unset, .unset, .unset, .unset, .unset, .unset, .unset, .unset] [(.int (if (((p2.toUInt32 >>> ((1 : Int32) &&& 31).toUInt32).toInt32) &&& (1 : Int32)) = (0 : Int32) then (0 : Int32) else (1 : Int32))), (.int (((p1.toUInt64 >>> ((8 : Int32) &&& 0x3f).toInt64.toUInt64).toInt64).toInt32))]))) (fun t k => ?_) ?_
  · by_cases hj3 : (((p2.toUInt32 >>> ((1 : Int32) &&& 31).toUInt32).toInt32) &&& (1 : Int32)) = (0 : Int32)
    · try simp only [if_pos hj3] at k
      refine own_st (A' := (T2.setTop (mkF m 35 #[.val (.long p1), .second, .val (.int p2), .val (.int p3), .val (.int p4), .val (.int p5), .val (.int r_2), .unset, .unset, .unset, .unset, .unset, .unset, .unset, .unset, .unset, .unset, .unset, .unset] [(.int (((p1.toUInt64 >>> ((8 : Int32) &&& 0x3f).toInt64.toUInt64).toInt64).toInt32))]))) (fun t k => XS.ifYes X2.here hx rfl (pc0 := 28) (pc' := 35) rfl (hb hby at_28) rfl (XT.i0_eq_t hj3) (by decide) (by decide) k) ?_
      refine own_st (A' := (T2.setTop (mkF m 36 #[.val (.long p1), .second, .val (.int p2), .val (.int p3), .val (.int p4), .val (.int p5), .val (.int r_2), .unset, .unset, .unset, .unset, .unset, .unset, .unset, .unset, .unset, .unset, .unset, .unset] [(.int (0 : Int32)), (.int (((p1.toUInt64 >>> ((8 : Int32) &&& 0x3f).toInt64.toUInt64).toInt64).toInt32))]))) (fun t k => XS.iconst X2.here hx rfl (hb hby at_35) k) ?_
      exact k
    · try simp only [if_neg hj3] at k
      refine own_st (A' := (T2.setTop (mkF m 31 #[.val (.long p1), .second, .val (.int p2), .val (.int p3), .val (.int p4), .val (.int p5), .val (.int r_2), .unset, .unset, .unset, .unset, .unset, .unset, .unset, .unset, .unset, .unset, .unset, .unset] [(.int (((p1.toUInt64 >>> ((8 : Int32) &&& 0x3f).toInt64.toUInt64).toInt64).toInt32))]))) (fun t k => XS.ifNo X2.here hx rfl (hb hby at_28) rfl (XT.i0_eq_f hj3) k) ?_
      refine own_st (A' := (T2.setTop (mkF m 32 #[.val (.long p1), .second, .val (.int p2), .val (.int p3), .val (.int p4), .val (.int p5), .val (.int r_2), .unset, .unset, .unset, .unset, .unset, .unset, .unset, .unset, .unset, .unset, .unset, .unset] [(.int (1 : Int32)), (.int (((p1.toUInt64 >>> ((8 : Int32) &&& 0x3f).toInt64.toUInt64).toInt64).toInt32))]))) (fun t k => XS.iconst X2.here hx rfl (hb hby at_31) k) ?_
      refine own_st (A' := (T2.setTop (mkF m 36 #[.val (.long p1), .second, .val (.int p2), .val (.int p3), .val (.int p4), .val (.int p5), .val (.int r_2), .unset, .unset, .unset, .unset, .unset, .unset, .unset, .unset, .unset, .unset, .unset, .unset] [(.int (1 : Int32)), (.int (((p1.toUInt64 >>> ((8 : Int32) &&& 0x3f).toInt64.toUInt64).toInt64).toInt32))]))) (fun t k => XS.goto X2.here hx rfl (pc0 := 32) (pc' := 36) rfl (hb hby at_32) (by decide) (by decide) k) ?_
      exact k
  obtain ⟨f1, h_f1⟩ : ∃ z : Int32, z = (if (((p2.toUInt32 >>> ((1 : Int32) &&& 31).toUInt32).toInt32) &&& (1 : Int32)) = (0 : Int32) then (0 : Int32) else (1 : Int32)) := ⟨_, rfl⟩
  rw [← h_f1]
  obtain ⟨_, vq4, ⟨T4, L4, k4, n4⟩, wq4, X4, hS4, gS4, ⟨Lc4, hQ4, l4, gq4, r4⟩, st4⟩ := callSS X2 hx (y := (⟨"com/example/log_to_isles/logtoisles/model/NodeNameFollowsPinLaw", "pick", "(IZ)B"⟩ : MethodName)) hown (mvT hZ (hw _ (List.mem_of_getElem? (i := 0) rfl))) (mvT hZ (hw _ (List.mem_of_getElem? (i := 1) rfl))) (mvT hZ (hw _ (List.mem_of_getElem? (i := 2) rfl))) (mvT hZ (hw _ (List.mem_of_getElem? (i := 3) rfl))) (by decide) (own_backJ (W := 0) (rmPick l Z a0 hw [] (((p1.toUInt64 >>> ((8 : Int32) &&& 0x3f).toInt64.toUInt64).toInt64).toInt32) f1 cs sv T2.heap n0 Z2 (own_staKeep P0 Kq2 all0) hcs (own_staKeep P2 Kq2 all0) hsv) hZ (hw _ (List.mem_of_getElem? (i := 3) rfl)) (hw _ (List.mem_of_getElem? (i := 2) rfl)) (by decide) (by decide) (own_EW hw) hH) (g := (mkF m 36 #[.val (.long p1), .second, .val (.int p2), .val (.int p3), .val (.int p4), .val (.int p5), .val (.int r_2), .unset, .unset, .unset, .unset, .unset, .unset, .unset, .unset, .unset, .unset, .unset, .unset] [(.int f1), (.int (((p1.toUInt64 >>> ((8 : Int32) &&& 0x3f).toInt64.toUInt64).toInt64).toInt32))])) rfl (by rw [hml]; rfl) (argsL := [(.int (((p1.toUInt64 >>> ((8 : Int32) &&& 0x3f).toInt64.toUInt64).toInt64).toInt32)), (.int f1)]) (rest := []) (lenOf pd__IZ_B rfl) rfl (by show 2 * 0 + _ ≤ _; exact Nat.le_of_eq rfl) (hb hby at_36) (fun _ _ => ⟨rfl, rfl, own_Jc hJ, own_Jn hJ⟩)
  dsimp only [Pt.U, Pt.locs, Pt.cells, Pt.slots] at X4 l4 gq4 st4 hQ4 hS4 gS4 r4
  subst l4
  have hJ := own_Jstep hJ wq4 hS4.1 gq4
  obtain ⟨X4, hS, hZ', hown⟩ := rebS hS hk X4 hS4 gS4 hZ hown
  have hk : T4.heap.size ≤ T4.heap.size := Nat.le_refl _
  obtain ⟨r_4, rfl, Nq4, Kq4, hr_4⟩ := hQ4
  have Nf4 := Fr.app Nf2 Nq4
  have hC := hC.trans r4
  have hH := hC.1
  have hZ := hZ'
  have K4 : Keep h0 T4.heap [] := K2.trans Kq4 all0
  have Z4 : n0 ≤ T4.heap.size := Nat.le_trans Z2 Kq4.1
  refine own_fw (A' := (T4.setTop (mkF m 39 #[.val (.long p1), .second, .val (.int p2), .val (.int p3), .val (.int p4), .val (.int p5), .val (.int r_2), .unset, .unset, .unset, .unset, .unset, .unset, .unset, .unset, .unset, .unset, .unset, .unset] [(.int r_4)]))) (fun t k => st4.trans k) ?_
  refine own_fw (A' := (T4.setTop (mkF m 41 #[.val (.long p1), .second, .val (.int p2), .val (.int p3), .val (.int p4), .val (.int p5), .val (.int r_2), .val (.int r_4), .unset, .unset, .unset, .unset, .unset, .unset, .unset, .unset, .unset, .unset, .unset] []))) (fun t k => XS.istore X4.here hx rfl (hb hby at_39) rfl (l' := #[.val (.long p1), .second, .val (.int p2), .val (.int p3), .val (.int p4), .val (.int p5), .val (.int r_2), .val (.int r_4), .unset, .unset, .unset, .unset, .unset, .unset, .unset, .unset, .unset, .unset, .unset]) rfl k) ?_
  refine own_fw (A' := (T4.setTop (mkF m 42 #[.val (.long p1), .second, .val (.int p2), .val (.int p3), .val (.int p4), .val (.int p5), .val (.int r_2), .val (.int r_4), .unset, .unset, .unset, .unset, .unset, .unset, .unset, .unset, .unset, .unset, .unset] [(.long p1)]))) (fun t k => XS.lloadN X4.here hx rfl (hb hby at_41) rfl k) ?_
  refine own_fw (A' := (T4.setTop (mkF m 44 #[.val (.long p1), .second, .val (.int p2), .val (.int p3), .val (.int p4), .val (.int p5), .val (.int r_2), .val (.int r_4), .unset, .unset, .unset, .unset, .unset, .unset, .unset, .unset, .unset, .unset, .unset] [(.int (16 : Int32)), (.long p1)]))) (fun t k => XS.bipush X4.here hx rfl (hb hby at_42) k) ?_
  refine own_fw (A' := (T4.setTop (mkF m 45 #[.val (.long p1), .second, .val (.int p2), .val (.int p3), .val (.int p4), .val (.int p5), .val (.int r_2), .val (.int r_4), .unset, .unset, .unset, .unset, .unset, .unset, .unset, .unset, .unset, .unset, .unset] [(.long ((p1.toUInt64 >>> ((16 : Int32) &&& 0x3f).toInt64.toUInt64).toInt64))]))) (fun t k => XS.lushr X4.here hx rfl (hb hby at_44) rfl k) ?_
  refine own_fw (A' := (T4.setTop (mkF m 46 #[.val (.long p1), .second, .val (.int p2), .val (.int p3), .val (.int p4), .val (.int p5), .val (.int r_2), .val (.int r_4), .unset, .unset, .unset, .unset, .unset, .unset, .unset, .unset, .unset, .unset, .unset] [(.int (((p1.toUInt64 >>> ((16 : Int32) &&& 0x3f).toInt64.toUInt64).toInt64).toInt32))]))) (fun t k => XS.l2i X4.here hx rfl (hb hby at_45) rfl k) ?_
  refine own_fw (A' := (T4.setTop (mkF m 47 #[.val (.long p1), .second, .val (.int p2), .val (.int p3), .val (.int p4), .val (.int p5), .val (.int r_2), .val (.int r_4), .unset, .unset, .unset, .unset, .unset, .unset, .unset, .unset, .unset, .unset, .unset] [(.int p2), (.int (((p1.toUInt64 >>> ((16 : Int32) &&& 0x3f).toInt64.toUInt64).toInt64).toInt32))]))) (fun t k => XS.iloadN X4.here hx rfl (hb hby at_46) rfl k) ?_
  refine own_fw (A' := (T4.setTop (mkF m 48 #[.val (.long p1), .second, .val (.int p2), .val (.int p3), .val (.int p4), .val (.int p5), .val (.int r_2), .val (.int r_4), .unset, .unset, .unset, .unset, .unset, .unset, .unset, .unset, .unset, .unset, .unset] [(.int (2 : Int32)), (.int p2), (.int (((p1.toUInt64 >>> ((16 : Int32) &&& 0x3f).toInt64.toUInt64).toInt64).toInt32))]))) (fun t k => XS.iconst X4.here hx rfl (hb hby at_47) k) ?_
  refine own_fw (A' := (T4.setTop (mkF m 49 #[.val (.long p1), .second, .val (.int p2), .val (.int p3), .val (.int p4), .val (.int p5), .val (.int r_2), .val (.int r_4), .unset, .unset, .unset, .unset, .unset, .unset, .unset, .unset, .unset, .unset, .unset] [(.int ((p2.toUInt32 >>> ((2 : Int32) &&& 31).toUInt32).toInt32)), (.int (((p1.toUInt64 >>> ((16 : Int32) &&& 0x3f).toInt64.toUInt64).toInt64).toInt32))]))) (fun t k => XS.iushr X4.here hx rfl (hb hby at_48) rfl k) ?_
  refine own_fw (A' := (T4.setTop (mkF m 50 #[.val (.long p1), .second, .val (.int p2), .val (.int p3), .val (.int p4), .val (.int p5), .val (.int r_2), .val (.int r_4), .unset, .unset, .unset, .unset, .unset, .unset, .unset, .unset, .unset, .unset, .unset] [(.int (1 : Int32)), (.int ((p2.toUInt32 >>> ((2 : Int32) &&& 31).toUInt32).toInt32)), (.int (((p1.toUInt64 >>> ((16 : Int32) &&& 0x3f).toInt64.toUInt64).toInt64).toInt32))]))) (fun t k => XS.iconst X4.here hx rfl (hb hby at_49) k) ?_
  refine own_fw (A' := (T4.setTop (mkF m 51 #[.val (.long p1), .second, .val (.int p2), .val (.int p3), .val (.int p4), .val (.int p5), .val (.int r_2), .val (.int r_4), .unset, .unset, .unset, .unset, .unset, .unset, .unset, .unset, .unset, .unset, .unset] [(.int (((p2.toUInt32 >>> ((2 : Int32) &&& 31).toUInt32).toInt32) &&& (1 : Int32))), (.int (((p1.toUInt64 >>> ((16 : Int32) &&& 0x3f).toInt64.toUInt64).toInt64).toInt32))]))) (fun t k => XS.iand X4.here hx rfl (hb hby at_50) rfl k) ?_
  refine own_fw (A' := (T4.setTop (mkF m 59 #[.val (.long p1), .second, .val (.int p2), .val (.int p3), .val (.int p4), .val (.int p5), .val (.int r_2), .val (.int r_4), .unset, .unset, .unset, .unset, .unset, .unset, .unset, .unset, .unset, .unset, .unset] [(.int (if (((p2.toUInt32 >>> ((2 : Int32) &&& 31).toUInt32).toInt32) &&& (1 : Int32)) = (0 : Int32) then (0 : Int32) else (1 : Int32))), (.int (((p1.toUInt64 >>> ((16 : Int32) &&& 0x3f).toInt64.toUInt64).toInt64).toInt32))]))) (fun t k => ?_) ?_
  · by_cases hj5 : (((p2.toUInt32 >>> ((2 : Int32) &&& 31).toUInt32).toInt32) &&& (1 : Int32)) = (0 : Int32)
    · try simp only [if_pos hj5] at k
      refine own_st (A' := (T4.setTop (mkF m 58 #[.val (.long p1), .second, .val (.int p2), .val (.int p3), .val (.int p4), .val (.int p5), .val (.int r_2), .val (.int r_4), .unset, .unset, .unset, .unset, .unset, .unset, .unset, .unset, .unset, .unset, .unset] [(.int (((p1.toUInt64 >>> ((16 : Int32) &&& 0x3f).toInt64.toUInt64).toInt64).toInt32))]))) (fun t k => XS.ifYes X4.here hx rfl (pc0 := 51) (pc' := 58) rfl (hb hby at_51) rfl (XT.i0_eq_t hj5) (by decide) (by decide) k) ?_
      refine own_st (A' := (T4.setTop (mkF m 59 #[.val (.long p1), .second, .val (.int p2), .val (.int p3), .val (.int p4), .val (.int p5), .val (.int r_2), .val (.int r_4), .unset, .unset, .unset, .unset, .unset, .unset, .unset, .unset, .unset, .unset, .unset] [(.int (0 : Int32)), (.int (((p1.toUInt64 >>> ((16 : Int32) &&& 0x3f).toInt64.toUInt64).toInt64).toInt32))]))) (fun t k => XS.iconst X4.here hx rfl (hb hby at_58) k) ?_
      exact k
    · try simp only [if_neg hj5] at k
      refine own_st (A' := (T4.setTop (mkF m 54 #[.val (.long p1), .second, .val (.int p2), .val (.int p3), .val (.int p4), .val (.int p5), .val (.int r_2), .val (.int r_4), .unset, .unset, .unset, .unset, .unset, .unset, .unset, .unset, .unset, .unset, .unset] [(.int (((p1.toUInt64 >>> ((16 : Int32) &&& 0x3f).toInt64.toUInt64).toInt64).toInt32))]))) (fun t k => XS.ifNo X4.here hx rfl (hb hby at_51) rfl (XT.i0_eq_f hj5) k) ?_
      refine own_st (A' := (T4.setTop (mkF m 55 #[.val (.long p1), .second, .val (.int p2), .val (.int p3), .val (.int p4), .val (.int p5), .val (.int r_2), .val (.int r_4), .unset, .unset, .unset, .unset, .unset, .unset, .unset, .unset, .unset, .unset, .unset] [(.int (1 : Int32)), (.int (((p1.toUInt64 >>> ((16 : Int32) &&& 0x3f).toInt64.toUInt64).toInt64).toInt32))]))) (fun t k => XS.iconst X4.here hx rfl (hb hby at_54) k) ?_
      refine own_st (A' := (T4.setTop (mkF m 59 #[.val (.long p1), .second, .val (.int p2), .val (.int p3), .val (.int p4), .val (.int p5), .val (.int r_2), .val (.int r_4), .unset, .unset, .unset, .unset, .unset, .unset, .unset, .unset, .unset, .unset, .unset] [(.int (1 : Int32)), (.int (((p1.toUInt64 >>> ((16 : Int32) &&& 0x3f).toInt64.toUInt64).toInt64).toInt32))]))) (fun t k => XS.goto X4.here hx rfl (pc0 := 55) (pc' := 59) rfl (hb hby at_55) (by decide) (by decide) k) ?_
      exact k
  obtain ⟨f2, h_f2⟩ : ∃ z : Int32, z = (if (((p2.toUInt32 >>> ((2 : Int32) &&& 31).toUInt32).toInt32) &&& (1 : Int32)) = (0 : Int32) then (0 : Int32) else (1 : Int32)) := ⟨_, rfl⟩
  rw [← h_f2]
  obtain ⟨_, vq6, ⟨T6, L6, k6, n6⟩, wq6, X6, hS6, gS6, ⟨Lc6, hQ6, l6, gq6, r6⟩, st6⟩ := callSS X4 hx (y := (⟨"com/example/log_to_isles/logtoisles/model/NodeNameFollowsPinLaw", "pick", "(IZ)B"⟩ : MethodName)) hown (mvT hZ (hw _ (List.mem_of_getElem? (i := 0) rfl))) (mvT hZ (hw _ (List.mem_of_getElem? (i := 1) rfl))) (mvT hZ (hw _ (List.mem_of_getElem? (i := 2) rfl))) (mvT hZ (hw _ (List.mem_of_getElem? (i := 3) rfl))) (by decide) (own_backJ (W := 0) (rmPick l Z a0 hw [] (((p1.toUInt64 >>> ((16 : Int32) &&& 0x3f).toInt64.toUInt64).toInt64).toInt32) f2 cs sv T4.heap n0 Z4 (own_staKeep (own_staKeep P0 Kq2 all0) Kq4 all0) hcs (own_staKeep (own_staKeep P2 Kq2 all0) Kq4 all0) hsv) hZ (hw _ (List.mem_of_getElem? (i := 3) rfl)) (hw _ (List.mem_of_getElem? (i := 2) rfl)) (by decide) (by decide) (own_EW hw) hH) (g := (mkF m 59 #[.val (.long p1), .second, .val (.int p2), .val (.int p3), .val (.int p4), .val (.int p5), .val (.int r_2), .val (.int r_4), .unset, .unset, .unset, .unset, .unset, .unset, .unset, .unset, .unset, .unset, .unset] [(.int f2), (.int (((p1.toUInt64 >>> ((16 : Int32) &&& 0x3f).toInt64.toUInt64).toInt64).toInt32))])) rfl (by rw [hml]; rfl) (argsL := [(.int (((p1.toUInt64 >>> ((16 : Int32) &&& 0x3f).toInt64.toUInt64).toInt64).toInt32)), (.int f2)]) (rest := []) (lenOf pd__IZ_B rfl) rfl (by show 2 * 0 + _ ≤ _; exact Nat.le_of_eq rfl) (hb hby at_59) (fun _ _ => ⟨rfl, rfl, own_Jc hJ, own_Jn hJ⟩)
  dsimp only [Pt.U, Pt.locs, Pt.cells, Pt.slots] at X6 l6 gq6 st6 hQ6 hS6 gS6 r6
  subst l6
  have hJ := own_Jstep hJ wq6 hS6.1 gq6
  obtain ⟨X6, hS, hZ', hown⟩ := rebS hS hk X6 hS6 gS6 hZ hown
  have hk : T6.heap.size ≤ T6.heap.size := Nat.le_refl _
  obtain ⟨r_6, rfl, Nq6, Kq6, hr_6⟩ := hQ6
  have Nf6 := Fr.app Nf4 Nq6
  have hC := hC.trans r6
  have hH := hC.1
  have hZ := hZ'
  have K6 : Keep h0 T6.heap [] := K4.trans Kq6 all0
  have Z6 : n0 ≤ T6.heap.size := Nat.le_trans Z4 Kq6.1
  refine own_fw (A' := (T6.setTop (mkF m 62 #[.val (.long p1), .second, .val (.int p2), .val (.int p3), .val (.int p4), .val (.int p5), .val (.int r_2), .val (.int r_4), .unset, .unset, .unset, .unset, .unset, .unset, .unset, .unset, .unset, .unset, .unset] [(.int r_6)]))) (fun t k => st6.trans k) ?_
  refine own_fw (A' := (T6.setTop (mkF m 64 #[.val (.long p1), .second, .val (.int p2), .val (.int p3), .val (.int p4), .val (.int p5), .val (.int r_2), .val (.int r_4), .val (.int r_6), .unset, .unset, .unset, .unset, .unset, .unset, .unset, .unset, .unset, .unset] []))) (fun t k => XS.istore X6.here hx rfl (hb hby at_62) rfl (l' := #[.val (.long p1), .second, .val (.int p2), .val (.int p3), .val (.int p4), .val (.int p5), .val (.int r_2), .val (.int r_4), .val (.int r_6), .unset, .unset, .unset, .unset, .unset, .unset, .unset, .unset, .unset, .unset]) rfl k) ?_
  refine own_fw (A' := (T6.setTop (mkF m 65 #[.val (.long p1), .second, .val (.int p2), .val (.int p3), .val (.int p4), .val (.int p5), .val (.int r_2), .val (.int r_4), .val (.int r_6), .unset, .unset, .unset, .unset, .unset, .unset, .unset, .unset, .unset, .unset] [(.long p1)]))) (fun t k => XS.lloadN X6.here hx rfl (hb hby at_64) rfl k) ?_
  refine own_fw (A' := (T6.setTop (mkF m 67 #[.val (.long p1), .second, .val (.int p2), .val (.int p3), .val (.int p4), .val (.int p5), .val (.int r_2), .val (.int r_4), .val (.int r_6), .unset, .unset, .unset, .unset, .unset, .unset, .unset, .unset, .unset, .unset] [(.int (24 : Int32)), (.long p1)]))) (fun t k => XS.bipush X6.here hx rfl (hb hby at_65) k) ?_
  refine own_fw (A' := (T6.setTop (mkF m 68 #[.val (.long p1), .second, .val (.int p2), .val (.int p3), .val (.int p4), .val (.int p5), .val (.int r_2), .val (.int r_4), .val (.int r_6), .unset, .unset, .unset, .unset, .unset, .unset, .unset, .unset, .unset, .unset] [(.long ((p1.toUInt64 >>> ((24 : Int32) &&& 0x3f).toInt64.toUInt64).toInt64))]))) (fun t k => XS.lushr X6.here hx rfl (hb hby at_67) rfl k) ?_
  refine own_fw (A' := (T6.setTop (mkF m 69 #[.val (.long p1), .second, .val (.int p2), .val (.int p3), .val (.int p4), .val (.int p5), .val (.int r_2), .val (.int r_4), .val (.int r_6), .unset, .unset, .unset, .unset, .unset, .unset, .unset, .unset, .unset, .unset] [(.int (((p1.toUInt64 >>> ((24 : Int32) &&& 0x3f).toInt64.toUInt64).toInt64).toInt32))]))) (fun t k => XS.l2i X6.here hx rfl (hb hby at_68) rfl k) ?_
  refine own_fw (A' := (T6.setTop (mkF m 70 #[.val (.long p1), .second, .val (.int p2), .val (.int p3), .val (.int p4), .val (.int p5), .val (.int r_2), .val (.int r_4), .val (.int r_6), .unset, .unset, .unset, .unset, .unset, .unset, .unset, .unset, .unset, .unset] [(.int p2), (.int (((p1.toUInt64 >>> ((24 : Int32) &&& 0x3f).toInt64.toUInt64).toInt64).toInt32))]))) (fun t k => XS.iloadN X6.here hx rfl (hb hby at_69) rfl k) ?_
  refine own_fw (A' := (T6.setTop (mkF m 71 #[.val (.long p1), .second, .val (.int p2), .val (.int p3), .val (.int p4), .val (.int p5), .val (.int r_2), .val (.int r_4), .val (.int r_6), .unset, .unset, .unset, .unset, .unset, .unset, .unset, .unset, .unset, .unset] [(.int (3 : Int32)), (.int p2), (.int (((p1.toUInt64 >>> ((24 : Int32) &&& 0x3f).toInt64.toUInt64).toInt64).toInt32))]))) (fun t k => XS.iconst X6.here hx rfl (hb hby at_70) k) ?_
  refine own_fw (A' := (T6.setTop (mkF m 72 #[.val (.long p1), .second, .val (.int p2), .val (.int p3), .val (.int p4), .val (.int p5), .val (.int r_2), .val (.int r_4), .val (.int r_6), .unset, .unset, .unset, .unset, .unset, .unset, .unset, .unset, .unset, .unset] [(.int ((p2.toUInt32 >>> ((3 : Int32) &&& 31).toUInt32).toInt32)), (.int (((p1.toUInt64 >>> ((24 : Int32) &&& 0x3f).toInt64.toUInt64).toInt64).toInt32))]))) (fun t k => XS.iushr X6.here hx rfl (hb hby at_71) rfl k) ?_
  refine own_fw (A' := (T6.setTop (mkF m 73 #[.val (.long p1), .second, .val (.int p2), .val (.int p3), .val (.int p4), .val (.int p5), .val (.int r_2), .val (.int r_4), .val (.int r_6), .unset, .unset, .unset, .unset, .unset, .unset, .unset, .unset, .unset, .unset] [(.int (1 : Int32)), (.int ((p2.toUInt32 >>> ((3 : Int32) &&& 31).toUInt32).toInt32)), (.int (((p1.toUInt64 >>> ((24 : Int32) &&& 0x3f).toInt64.toUInt64).toInt64).toInt32))]))) (fun t k => XS.iconst X6.here hx rfl (hb hby at_72) k) ?_
  refine own_fw (A' := (T6.setTop (mkF m 74 #[.val (.long p1), .second, .val (.int p2), .val (.int p3), .val (.int p4), .val (.int p5), .val (.int r_2), .val (.int r_4), .val (.int r_6), .unset, .unset, .unset, .unset, .unset, .unset, .unset, .unset, .unset, .unset] [(.int (((p2.toUInt32 >>> ((3 : Int32) &&& 31).toUInt32).toInt32) &&& (1 : Int32))), (.int (((p1.toUInt64 >>> ((24 : Int32) &&& 0x3f).toInt64.toUInt64).toInt64).toInt32))]))) (fun t k => XS.iand X6.here hx rfl (hb hby at_73) rfl k) ?_
  refine own_fw (A' := (T6.setTop (mkF m 82 #[.val (.long p1), .second, .val (.int p2), .val (.int p3), .val (.int p4), .val (.int p5), .val (.int r_2), .val (.int r_4), .val (.int r_6), .unset, .unset, .unset, .unset, .unset, .unset, .unset, .unset, .unset, .unset] [(.int (if (((p2.toUInt32 >>> ((3 : Int32) &&& 31).toUInt32).toInt32) &&& (1 : Int32)) = (0 : Int32) then (0 : Int32) else (1 : Int32))), (.int (((p1.toUInt64 >>> ((24 : Int32) &&& 0x3f).toInt64.toUInt64).toInt64).toInt32))]))) (fun t k => ?_) ?_
  · by_cases hj7 : (((p2.toUInt32 >>> ((3 : Int32) &&& 31).toUInt32).toInt32) &&& (1 : Int32)) = (0 : Int32)
    · try simp only [if_pos hj7] at k
      refine own_st (A' := (T6.setTop (mkF m 81 #[.val (.long p1), .second, .val (.int p2), .val (.int p3), .val (.int p4), .val (.int p5), .val (.int r_2), .val (.int r_4), .val (.int r_6), .unset, .unset, .unset, .unset, .unset, .unset, .unset, .unset, .unset, .unset] [(.int (((p1.toUInt64 >>> ((24 : Int32) &&& 0x3f).toInt64.toUInt64).toInt64).toInt32))]))) (fun t k => XS.ifYes X6.here hx rfl (pc0 := 74) (pc' := 81) rfl (hb hby at_74) rfl (XT.i0_eq_t hj7) (by decide) (by decide) k) ?_
      refine own_st (A' := (T6.setTop (mkF m 82 #[.val (.long p1), .second, .val (.int p2), .val (.int p3), .val (.int p4), .val (.int p5), .val (.int r_2), .val (.int r_4), .val (.int r_6), .unset, .unset, .unset, .unset, .unset, .unset, .unset, .unset, .unset, .unset] [(.int (0 : Int32)), (.int (((p1.toUInt64 >>> ((24 : Int32) &&& 0x3f).toInt64.toUInt64).toInt64).toInt32))]))) (fun t k => XS.iconst X6.here hx rfl (hb hby at_81) k) ?_
      exact k
    · try simp only [if_neg hj7] at k
      refine own_st (A' := (T6.setTop (mkF m 77 #[.val (.long p1), .second, .val (.int p2), .val (.int p3), .val (.int p4), .val (.int p5), .val (.int r_2), .val (.int r_4), .val (.int r_6), .unset, .unset, .unset, .unset, .unset, .unset, .unset, .unset, .unset, .unset] [(.int (((p1.toUInt64 >>> ((24 : Int32) &&& 0x3f).toInt64.toUInt64).toInt64).toInt32))]))) (fun t k => XS.ifNo X6.here hx rfl (hb hby at_74) rfl (XT.i0_eq_f hj7) k) ?_
      refine own_st (A' := (T6.setTop (mkF m 78 #[.val (.long p1), .second, .val (.int p2), .val (.int p3), .val (.int p4), .val (.int p5), .val (.int r_2), .val (.int r_4), .val (.int r_6), .unset, .unset, .unset, .unset, .unset, .unset, .unset, .unset, .unset, .unset] [(.int (1 : Int32)), (.int (((p1.toUInt64 >>> ((24 : Int32) &&& 0x3f).toInt64.toUInt64).toInt64).toInt32))]))) (fun t k => XS.iconst X6.here hx rfl (hb hby at_77) k) ?_
      refine own_st (A' := (T6.setTop (mkF m 82 #[.val (.long p1), .second, .val (.int p2), .val (.int p3), .val (.int p4), .val (.int p5), .val (.int r_2), .val (.int r_4), .val (.int r_6), .unset, .unset, .unset, .unset, .unset, .unset, .unset, .unset, .unset, .unset] [(.int (1 : Int32)), (.int (((p1.toUInt64 >>> ((24 : Int32) &&& 0x3f).toInt64.toUInt64).toInt64).toInt32))]))) (fun t k => XS.goto X6.here hx rfl (pc0 := 78) (pc' := 82) rfl (hb hby at_78) (by decide) (by decide) k) ?_
      exact k
  obtain ⟨f3, h_f3⟩ : ∃ z : Int32, z = (if (((p2.toUInt32 >>> ((3 : Int32) &&& 31).toUInt32).toInt32) &&& (1 : Int32)) = (0 : Int32) then (0 : Int32) else (1 : Int32)) := ⟨_, rfl⟩
  rw [← h_f3]
  obtain ⟨_, vq8, ⟨T8, L8, k8, n8⟩, wq8, X8, hS8, gS8, ⟨Lc8, hQ8, l8, gq8, r8⟩, st8⟩ := callSS X6 hx (y := (⟨"com/example/log_to_isles/logtoisles/model/NodeNameFollowsPinLaw", "pick", "(IZ)B"⟩ : MethodName)) hown (mvT hZ (hw _ (List.mem_of_getElem? (i := 0) rfl))) (mvT hZ (hw _ (List.mem_of_getElem? (i := 1) rfl))) (mvT hZ (hw _ (List.mem_of_getElem? (i := 2) rfl))) (mvT hZ (hw _ (List.mem_of_getElem? (i := 3) rfl))) (by decide) (own_backJ (W := 0) (rmPick l Z a0 hw [] (((p1.toUInt64 >>> ((24 : Int32) &&& 0x3f).toInt64.toUInt64).toInt64).toInt32) f3 cs sv T6.heap n0 Z6 (own_staKeep (own_staKeep (own_staKeep P0 Kq2 all0) Kq4 all0) Kq6 all0) hcs (own_staKeep (own_staKeep (own_staKeep P2 Kq2 all0) Kq4 all0) Kq6 all0) hsv) hZ (hw _ (List.mem_of_getElem? (i := 3) rfl)) (hw _ (List.mem_of_getElem? (i := 2) rfl)) (by decide) (by decide) (own_EW hw) hH) (g := (mkF m 82 #[.val (.long p1), .second, .val (.int p2), .val (.int p3), .val (.int p4), .val (.int p5), .val (.int r_2), .val (.int r_4), .val (.int r_6), .unset, .unset, .unset, .unset, .unset, .unset, .unset, .unset, .unset, .unset] [(.int f3), (.int (((p1.toUInt64 >>> ((24 : Int32) &&& 0x3f).toInt64.toUInt64).toInt64).toInt32))])) rfl (by rw [hml]; rfl) (argsL := [(.int (((p1.toUInt64 >>> ((24 : Int32) &&& 0x3f).toInt64.toUInt64).toInt64).toInt32)), (.int f3)]) (rest := []) (lenOf pd__IZ_B rfl) rfl (by show 2 * 0 + _ ≤ _; exact Nat.le_of_eq rfl) (hb hby at_82) (fun _ _ => ⟨rfl, rfl, own_Jc hJ, own_Jn hJ⟩)
  dsimp only [Pt.U, Pt.locs, Pt.cells, Pt.slots] at X8 l8 gq8 st8 hQ8 hS8 gS8 r8
  subst l8
  have hJ := own_Jstep hJ wq8 hS8.1 gq8
  obtain ⟨X8, hS, hZ', hown⟩ := rebS hS hk X8 hS8 gS8 hZ hown
  have hk : T8.heap.size ≤ T8.heap.size := Nat.le_refl _
  obtain ⟨r_8, rfl, Nq8, Kq8, hr_8⟩ := hQ8
  have Nf8 := Fr.app Nf6 Nq8
  have hC := hC.trans r8
  have hH := hC.1
  have hZ := hZ'
  have K8 : Keep h0 T8.heap [] := K6.trans Kq8 all0
  have Z8 : n0 ≤ T8.heap.size := Nat.le_trans Z6 Kq8.1
  refine own_fw (A' := (T8.setTop (mkF m 85 #[.val (.long p1), .second, .val (.int p2), .val (.int p3), .val (.int p4), .val (.int p5), .val (.int r_2), .val (.int r_4), .val (.int r_6), .unset, .unset, .unset, .unset, .unset, .unset, .unset, .unset, .unset, .unset] [(.int r_8)]))) (fun t k => st8.trans k) ?_
  refine own_fw (A' := (T8.setTop (mkF m 87 #[.val (.long p1), .second, .val (.int p2), .val (.int p3), .val (.int p4), .val (.int p5), .val (.int r_2), .val (.int r_4), .val (.int r_6), .val (.int r_8), .unset, .unset, .unset, .unset, .unset, .unset, .unset, .unset, .unset] []))) (fun t k => XS.istore X8.here hx rfl (hb hby at_85) rfl (l' := #[.val (.long p1), .second, .val (.int p2), .val (.int p3), .val (.int p4), .val (.int p5), .val (.int r_2), .val (.int r_4), .val (.int r_6), .val (.int r_8), .unset, .unset, .unset, .unset, .unset, .unset, .unset, .unset, .unset]) rfl k) ?_
  refine own_fw (A' := (T8.setTop (mkF m 88 #[.val (.long p1), .second, .val (.int p2), .val (.int p3), .val (.int p4), .val (.int p5), .val (.int r_2), .val (.int r_4), .val (.int r_6), .val (.int r_8), .unset, .unset, .unset, .unset, .unset, .unset, .unset, .unset, .unset] [(.long p1)]))) (fun t k => XS.lloadN X8.here hx rfl (hb hby at_87) rfl k) ?_
  refine own_fw (A' := (T8.setTop (mkF m 90 #[.val (.long p1), .second, .val (.int p2), .val (.int p3), .val (.int p4), .val (.int p5), .val (.int r_2), .val (.int r_4), .val (.int r_6), .val (.int r_8), .unset, .unset, .unset, .unset, .unset, .unset, .unset, .unset, .unset] [(.int (32 : Int32)), (.long p1)]))) (fun t k => XS.bipush X8.here hx rfl (hb hby at_88) k) ?_
  refine own_fw (A' := (T8.setTop (mkF m 91 #[.val (.long p1), .second, .val (.int p2), .val (.int p3), .val (.int p4), .val (.int p5), .val (.int r_2), .val (.int r_4), .val (.int r_6), .val (.int r_8), .unset, .unset, .unset, .unset, .unset, .unset, .unset, .unset, .unset] [(.long ((p1.toUInt64 >>> ((32 : Int32) &&& 0x3f).toInt64.toUInt64).toInt64))]))) (fun t k => XS.lushr X8.here hx rfl (hb hby at_90) rfl k) ?_
  refine own_fw (A' := (T8.setTop (mkF m 92 #[.val (.long p1), .second, .val (.int p2), .val (.int p3), .val (.int p4), .val (.int p5), .val (.int r_2), .val (.int r_4), .val (.int r_6), .val (.int r_8), .unset, .unset, .unset, .unset, .unset, .unset, .unset, .unset, .unset] [(.int (((p1.toUInt64 >>> ((32 : Int32) &&& 0x3f).toInt64.toUInt64).toInt64).toInt32))]))) (fun t k => XS.l2i X8.here hx rfl (hb hby at_91) rfl k) ?_
  refine own_fw (A' := (T8.setTop (mkF m 93 #[.val (.long p1), .second, .val (.int p2), .val (.int p3), .val (.int p4), .val (.int p5), .val (.int r_2), .val (.int r_4), .val (.int r_6), .val (.int r_8), .unset, .unset, .unset, .unset, .unset, .unset, .unset, .unset, .unset] [(.int p2), (.int (((p1.toUInt64 >>> ((32 : Int32) &&& 0x3f).toInt64.toUInt64).toInt64).toInt32))]))) (fun t k => XS.iloadN X8.here hx rfl (hb hby at_92) rfl k) ?_
  refine own_fw (A' := (T8.setTop (mkF m 94 #[.val (.long p1), .second, .val (.int p2), .val (.int p3), .val (.int p4), .val (.int p5), .val (.int r_2), .val (.int r_4), .val (.int r_6), .val (.int r_8), .unset, .unset, .unset, .unset, .unset, .unset, .unset, .unset, .unset] [(.int (4 : Int32)), (.int p2), (.int (((p1.toUInt64 >>> ((32 : Int32) &&& 0x3f).toInt64.toUInt64).toInt64).toInt32))]))) (fun t k => XS.iconst X8.here hx rfl (hb hby at_93) k) ?_
  refine own_fw (A' := (T8.setTop (mkF m 95 #[.val (.long p1), .second, .val (.int p2), .val (.int p3), .val (.int p4), .val (.int p5), .val (.int r_2), .val (.int r_4), .val (.int r_6), .val (.int r_8), .unset, .unset, .unset, .unset, .unset, .unset, .unset, .unset, .unset] [(.int ((p2.toUInt32 >>> ((4 : Int32) &&& 31).toUInt32).toInt32)), (.int (((p1.toUInt64 >>> ((32 : Int32) &&& 0x3f).toInt64.toUInt64).toInt64).toInt32))]))) (fun t k => XS.iushr X8.here hx rfl (hb hby at_94) rfl k) ?_
  refine own_fw (A' := (T8.setTop (mkF m 96 #[.val (.long p1), .second, .val (.int p2), .val (.int p3), .val (.int p4), .val (.int p5), .val (.int r_2), .val (.int r_4), .val (.int r_6), .val (.int r_8), .unset, .unset, .unset, .unset, .unset, .unset, .unset, .unset, .unset] [(.int (1 : Int32)), (.int ((p2.toUInt32 >>> ((4 : Int32) &&& 31).toUInt32).toInt32)), (.int (((p1.toUInt64 >>> ((32 : Int32) &&& 0x3f).toInt64.toUInt64).toInt64).toInt32))]))) (fun t k => XS.iconst X8.here hx rfl (hb hby at_95) k) ?_
  refine own_fw (A' := (T8.setTop (mkF m 97 #[.val (.long p1), .second, .val (.int p2), .val (.int p3), .val (.int p4), .val (.int p5), .val (.int r_2), .val (.int r_4), .val (.int r_6), .val (.int r_8), .unset, .unset, .unset, .unset, .unset, .unset, .unset, .unset, .unset] [(.int (((p2.toUInt32 >>> ((4 : Int32) &&& 31).toUInt32).toInt32) &&& (1 : Int32))), (.int (((p1.toUInt64 >>> ((32 : Int32) &&& 0x3f).toInt64.toUInt64).toInt64).toInt32))]))) (fun t k => XS.iand X8.here hx rfl (hb hby at_96) rfl k) ?_
  refine own_fw (A' := (T8.setTop (mkF m 105 #[.val (.long p1), .second, .val (.int p2), .val (.int p3), .val (.int p4), .val (.int p5), .val (.int r_2), .val (.int r_4), .val (.int r_6), .val (.int r_8), .unset, .unset, .unset, .unset, .unset, .unset, .unset, .unset, .unset] [(.int (if (((p2.toUInt32 >>> ((4 : Int32) &&& 31).toUInt32).toInt32) &&& (1 : Int32)) = (0 : Int32) then (0 : Int32) else (1 : Int32))), (.int (((p1.toUInt64 >>> ((32 : Int32) &&& 0x3f).toInt64.toUInt64).toInt64).toInt32))]))) (fun t k => ?_) ?_
  · by_cases hj9 : (((p2.toUInt32 >>> ((4 : Int32) &&& 31).toUInt32).toInt32) &&& (1 : Int32)) = (0 : Int32)
    · try simp only [if_pos hj9] at k
      refine own_st (A' := (T8.setTop (mkF m 104 #[.val (.long p1), .second, .val (.int p2), .val (.int p3), .val (.int p4), .val (.int p5), .val (.int r_2), .val (.int r_4), .val (.int r_6), .val (.int r_8), .unset, .unset, .unset, .unset, .unset, .unset, .unset, .unset, .unset] [(.int (((p1.toUInt64 >>> ((32 : Int32) &&& 0x3f).toInt64.toUInt64).toInt64).toInt32))]))) (fun t k => XS.ifYes X8.here hx rfl (pc0 := 97) (pc' := 104) rfl (hb hby at_97) rfl (XT.i0_eq_t hj9) (by decide) (by decide) k) ?_
      refine own_st (A' := (T8.setTop (mkF m 105 #[.val (.long p1), .second, .val (.int p2), .val (.int p3), .val (.int p4), .val (.int p5), .val (.int r_2), .val (.int r_4), .val (.int r_6), .val (.int r_8), .unset, .unset, .unset, .unset, .unset, .unset, .unset, .unset, .unset] [(.int (0 : Int32)), (.int (((p1.toUInt64 >>> ((32 : Int32) &&& 0x3f).toInt64.toUInt64).toInt64).toInt32))]))) (fun t k => XS.iconst X8.here hx rfl (hb hby at_104) k) ?_
      exact k
    · try simp only [if_neg hj9] at k
      refine own_st (A' := (T8.setTop (mkF m 100 #[.val (.long p1), .second, .val (.int p2), .val (.int p3), .val (.int p4), .val (.int p5), .val (.int r_2), .val (.int r_4), .val (.int r_6), .val (.int r_8), .unset, .unset, .unset, .unset, .unset, .unset, .unset, .unset, .unset] [(.int (((p1.toUInt64 >>> ((32 : Int32) &&& 0x3f).toInt64.toUInt64).toInt64).toInt32))]))) (fun t k => XS.ifNo X8.here hx rfl (hb hby at_97) rfl (XT.i0_eq_f hj9) k) ?_
      refine own_st (A' := (T8.setTop (mkF m 101 #[.val (.long p1), .second, .val (.int p2), .val (.int p3), .val (.int p4), .val (.int p5), .val (.int r_2), .val (.int r_4), .val (.int r_6), .val (.int r_8), .unset, .unset, .unset, .unset, .unset, .unset, .unset, .unset, .unset] [(.int (1 : Int32)), (.int (((p1.toUInt64 >>> ((32 : Int32) &&& 0x3f).toInt64.toUInt64).toInt64).toInt32))]))) (fun t k => XS.iconst X8.here hx rfl (hb hby at_100) k) ?_
      refine own_st (A' := (T8.setTop (mkF m 105 #[.val (.long p1), .second, .val (.int p2), .val (.int p3), .val (.int p4), .val (.int p5), .val (.int r_2), .val (.int r_4), .val (.int r_6), .val (.int r_8), .unset, .unset, .unset, .unset, .unset, .unset, .unset, .unset, .unset] [(.int (1 : Int32)), (.int (((p1.toUInt64 >>> ((32 : Int32) &&& 0x3f).toInt64.toUInt64).toInt64).toInt32))]))) (fun t k => XS.goto X8.here hx rfl (pc0 := 101) (pc' := 105) rfl (hb hby at_101) (by decide) (by decide) k) ?_
      exact k
  obtain ⟨f4, h_f4⟩ : ∃ z : Int32, z = (if (((p2.toUInt32 >>> ((4 : Int32) &&& 31).toUInt32).toInt32) &&& (1 : Int32)) = (0 : Int32) then (0 : Int32) else (1 : Int32)) := ⟨_, rfl⟩
  rw [← h_f4]
  obtain ⟨_, vq10, ⟨T10, L10, k10, n10⟩, wq10, X10, hS10, gS10, ⟨Lc10, hQ10, l10, gq10, r10⟩, st10⟩ := callSS X8 hx (y := (⟨"com/example/log_to_isles/logtoisles/model/NodeNameFollowsPinLaw", "pick", "(IZ)B"⟩ : MethodName)) hown (mvT hZ (hw _ (List.mem_of_getElem? (i := 0) rfl))) (mvT hZ (hw _ (List.mem_of_getElem? (i := 1) rfl))) (mvT hZ (hw _ (List.mem_of_getElem? (i := 2) rfl))) (mvT hZ (hw _ (List.mem_of_getElem? (i := 3) rfl))) (by decide) (own_backJ (W := 0) (rmPick l Z a0 hw [] (((p1.toUInt64 >>> ((32 : Int32) &&& 0x3f).toInt64.toUInt64).toInt64).toInt32) f4 cs sv T8.heap n0 Z8 (own_staKeep (own_staKeep (own_staKeep (own_staKeep P0 Kq2 all0) Kq4 all0) Kq6 all0) Kq8 all0) hcs (own_staKeep (own_staKeep (own_staKeep (own_staKeep P2 Kq2 all0) Kq4 all0) Kq6 all0) Kq8 all0) hsv) hZ (hw _ (List.mem_of_getElem? (i := 3) rfl)) (hw _ (List.mem_of_getElem? (i := 2) rfl)) (by decide) (by decide) (own_EW hw) hH) (g := (mkF m 105 #[.val (.long p1), .second, .val (.int p2), .val (.int p3), .val (.int p4), .val (.int p5), .val (.int r_2), .val (.int r_4), .val (.int r_6), .val (.int r_8), .unset, .unset, .unset, .unset, .unset, .unset, .unset, .unset, .unset] [(.int f4), (.int (((p1.toUInt64 >>> ((32 : Int32) &&& 0x3f).toInt64.toUInt64).toInt64).toInt32))])) rfl (by rw [hml]; rfl) (argsL := [(.int (((p1.toUInt64 >>> ((32 : Int32) &&& 0x3f).toInt64.toUInt64).toInt64).toInt32)), (.int f4)]) (rest := []) (lenOf pd__IZ_B rfl) rfl (by show 2 * 0 + _ ≤ _; exact Nat.le_of_eq rfl) (hb hby at_105) (fun _ _ => ⟨rfl, rfl, own_Jc hJ, own_Jn hJ⟩)
  dsimp only [Pt.U, Pt.locs, Pt.cells, Pt.slots] at X10 l10 gq10 st10 hQ10 hS10 gS10 r10
  subst l10
  have hJ := own_Jstep hJ wq10 hS10.1 gq10
  obtain ⟨X10, hS, hZ', hown⟩ := rebS hS hk X10 hS10 gS10 hZ hown
  have hk : T10.heap.size ≤ T10.heap.size := Nat.le_refl _
  obtain ⟨r_10, rfl, Nq10, Kq10, hr_10⟩ := hQ10
  have Nf10 := Fr.app Nf8 Nq10
  have hC := hC.trans r10
  have hH := hC.1
  have hZ := hZ'
  have K10 : Keep h0 T10.heap [] := K8.trans Kq10 all0
  have Z10 : n0 ≤ T10.heap.size := Nat.le_trans Z8 Kq10.1
  refine own_fw (A' := (T10.setTop (mkF m 108 #[.val (.long p1), .second, .val (.int p2), .val (.int p3), .val (.int p4), .val (.int p5), .val (.int r_2), .val (.int r_4), .val (.int r_6), .val (.int r_8), .unset, .unset, .unset, .unset, .unset, .unset, .unset, .unset, .unset] [(.int r_10)]))) (fun t k => st10.trans k) ?_
  refine own_fw (A' := (T10.setTop (mkF m 110 #[.val (.long p1), .second, .val (.int p2), .val (.int p3), .val (.int p4), .val (.int p5), .val (.int r_2), .val (.int r_4), .val (.int r_6), .val (.int r_8), .val (.int r_10), .unset, .unset, .unset, .unset, .unset, .unset, .unset, .unset] []))) (fun t k => XS.istore X10.here hx rfl (hb hby at_108) rfl (l' := #[.val (.long p1), .second, .val (.int p2), .val (.int p3), .val (.int p4), .val (.int p5), .val (.int r_2), .val (.int r_4), .val (.int r_6), .val (.int r_8), .val (.int r_10), .unset, .unset, .unset, .unset, .unset, .unset, .unset, .unset]) rfl k) ?_
  refine own_fw (A' := (T10.setTop (mkF m 111 #[.val (.long p1), .second, .val (.int p2), .val (.int p3), .val (.int p4), .val (.int p5), .val (.int r_2), .val (.int r_4), .val (.int r_6), .val (.int r_8), .val (.int r_10), .unset, .unset, .unset, .unset, .unset, .unset, .unset, .unset] [(.long p1)]))) (fun t k => XS.lloadN X10.here hx rfl (hb hby at_110) rfl k) ?_
  refine own_fw (A' := (T10.setTop (mkF m 113 #[.val (.long p1), .second, .val (.int p2), .val (.int p3), .val (.int p4), .val (.int p5), .val (.int r_2), .val (.int r_4), .val (.int r_6), .val (.int r_8), .val (.int r_10), .unset, .unset, .unset, .unset, .unset, .unset, .unset, .unset] [(.int (40 : Int32)), (.long p1)]))) (fun t k => XS.bipush X10.here hx rfl (hb hby at_111) k) ?_
  refine own_fw (A' := (T10.setTop (mkF m 114 #[.val (.long p1), .second, .val (.int p2), .val (.int p3), .val (.int p4), .val (.int p5), .val (.int r_2), .val (.int r_4), .val (.int r_6), .val (.int r_8), .val (.int r_10), .unset, .unset, .unset, .unset, .unset, .unset, .unset, .unset] [(.long ((p1.toUInt64 >>> ((40 : Int32) &&& 0x3f).toInt64.toUInt64).toInt64))]))) (fun t k => XS.lushr X10.here hx rfl (hb hby at_113) rfl k) ?_
  refine own_fw (A' := (T10.setTop (mkF m 115 #[.val (.long p1), .second, .val (.int p2), .val (.int p3), .val (.int p4), .val (.int p5), .val (.int r_2), .val (.int r_4), .val (.int r_6), .val (.int r_8), .val (.int r_10), .unset, .unset, .unset, .unset, .unset, .unset, .unset, .unset] [(.int (((p1.toUInt64 >>> ((40 : Int32) &&& 0x3f).toInt64.toUInt64).toInt64).toInt32))]))) (fun t k => XS.l2i X10.here hx rfl (hb hby at_114) rfl k) ?_
  refine own_fw (A' := (T10.setTop (mkF m 116 #[.val (.long p1), .second, .val (.int p2), .val (.int p3), .val (.int p4), .val (.int p5), .val (.int r_2), .val (.int r_4), .val (.int r_6), .val (.int r_8), .val (.int r_10), .unset, .unset, .unset, .unset, .unset, .unset, .unset, .unset] [(.int p2), (.int (((p1.toUInt64 >>> ((40 : Int32) &&& 0x3f).toInt64.toUInt64).toInt64).toInt32))]))) (fun t k => XS.iloadN X10.here hx rfl (hb hby at_115) rfl k) ?_
  refine own_fw (A' := (T10.setTop (mkF m 117 #[.val (.long p1), .second, .val (.int p2), .val (.int p3), .val (.int p4), .val (.int p5), .val (.int r_2), .val (.int r_4), .val (.int r_6), .val (.int r_8), .val (.int r_10), .unset, .unset, .unset, .unset, .unset, .unset, .unset, .unset] [(.int (5 : Int32)), (.int p2), (.int (((p1.toUInt64 >>> ((40 : Int32) &&& 0x3f).toInt64.toUInt64).toInt64).toInt32))]))) (fun t k => XS.iconst X10.here hx rfl (hb hby at_116) k) ?_
  refine own_fw (A' := (T10.setTop (mkF m 118 #[.val (.long p1), .second, .val (.int p2), .val (.int p3), .val (.int p4), .val (.int p5), .val (.int r_2), .val (.int r_4), .val (.int r_6), .val (.int r_8), .val (.int r_10), .unset, .unset, .unset, .unset, .unset, .unset, .unset, .unset] [(.int ((p2.toUInt32 >>> ((5 : Int32) &&& 31).toUInt32).toInt32)), (.int (((p1.toUInt64 >>> ((40 : Int32) &&& 0x3f).toInt64.toUInt64).toInt64).toInt32))]))) (fun t k => XS.iushr X10.here hx rfl (hb hby at_117) rfl k) ?_
  refine own_fw (A' := (T10.setTop (mkF m 119 #[.val (.long p1), .second, .val (.int p2), .val (.int p3), .val (.int p4), .val (.int p5), .val (.int r_2), .val (.int r_4), .val (.int r_6), .val (.int r_8), .val (.int r_10), .unset, .unset, .unset, .unset, .unset, .unset, .unset, .unset] [(.int (1 : Int32)), (.int ((p2.toUInt32 >>> ((5 : Int32) &&& 31).toUInt32).toInt32)), (.int (((p1.toUInt64 >>> ((40 : Int32) &&& 0x3f).toInt64.toUInt64).toInt64).toInt32))]))) (fun t k => XS.iconst X10.here hx rfl (hb hby at_118) k) ?_
  refine own_fw (A' := (T10.setTop (mkF m 120 #[.val (.long p1), .second, .val (.int p2), .val (.int p3), .val (.int p4), .val (.int p5), .val (.int r_2), .val (.int r_4), .val (.int r_6), .val (.int r_8), .val (.int r_10), .unset, .unset, .unset, .unset, .unset, .unset, .unset, .unset] [(.int (((p2.toUInt32 >>> ((5 : Int32) &&& 31).toUInt32).toInt32) &&& (1 : Int32))), (.int (((p1.toUInt64 >>> ((40 : Int32) &&& 0x3f).toInt64.toUInt64).toInt64).toInt32))]))) (fun t k => XS.iand X10.here hx rfl (hb hby at_119) rfl k) ?_
  refine own_fw (A' := (T10.setTop (mkF m 128 #[.val (.long p1), .second, .val (.int p2), .val (.int p3), .val (.int p4), .val (.int p5), .val (.int r_2), .val (.int r_4), .val (.int r_6), .val (.int r_8), .val (.int r_10), .unset, .unset, .unset, .unset, .unset, .unset, .unset, .unset] [(.int (if (((p2.toUInt32 >>> ((5 : Int32) &&& 31).toUInt32).toInt32) &&& (1 : Int32)) = (0 : Int32) then (0 : Int32) else (1 : Int32))), (.int (((p1.toUInt64 >>> ((40 : Int32) &&& 0x3f).toInt64.toUInt64).toInt64).toInt32))]))) (fun t k => ?_) ?_
  · by_cases hj11 : (((p2.toUInt32 >>> ((5 : Int32) &&& 31).toUInt32).toInt32) &&& (1 : Int32)) = (0 : Int32)
    · try simp only [if_pos hj11] at k
      refine own_st (A' := (T10.setTop (mkF m 127 #[.val (.long p1), .second, .val (.int p2), .val (.int p3), .val (.int p4), .val (.int p5), .val (.int r_2), .val (.int r_4), .val (.int r_6), .val (.int r_8), .val (.int r_10), .unset, .unset, .unset, .unset, .unset, .unset, .unset, .unset] [(.int (((p1.toUInt64 >>> ((40 : Int32) &&& 0x3f).toInt64.toUInt64).toInt64).toInt32))]))) (fun t k => XS.ifYes X10.here hx rfl (pc0 := 120) (pc' := 127) rfl (hb hby at_120) rfl (XT.i0_eq_t hj11) (by decide) (by decide) k) ?_
      refine own_st (A' := (T10.setTop (mkF m 128 #[.val (.long p1), .second, .val (.int p2), .val (.int p3), .val (.int p4), .val (.int p5), .val (.int r_2), .val (.int r_4), .val (.int r_6), .val (.int r_8), .val (.int r_10), .unset, .unset, .unset, .unset, .unset, .unset, .unset, .unset] [(.int (0 : Int32)), (.int (((p1.toUInt64 >>> ((40 : Int32) &&& 0x3f).toInt64.toUInt64).toInt64).toInt32))]))) (fun t k => XS.iconst X10.here hx rfl (hb hby at_127) k) ?_
      exact k
    · try simp only [if_neg hj11] at k
      refine own_st (A' := (T10.setTop (mkF m 123 #[.val (.long p1), .second, .val (.int p2), .val (.int p3), .val (.int p4), .val (.int p5), .val (.int r_2), .val (.int r_4), .val (.int r_6), .val (.int r_8), .val (.int r_10), .unset, .unset, .unset, .unset, .unset, .unset, .unset, .unset] [(.int (((p1.toUInt64 >>> ((40 : Int32) &&& 0x3f).toInt64.toUInt64).toInt64).toInt32))]))) (fun t k => XS.ifNo X10.here hx rfl (hb hby at_120) rfl (XT.i0_eq_f hj11) k) ?_
      refine own_st (A' := (T10.setTop (mkF m 124 #[.val (.long p1), .second, .val (.int p2), .val (.int p3), .val (.int p4), .val (.int p5), .val (.int r_2), .val (.int r_4), .val (.int r_6), .val (.int r_8), .val (.int r_10), .unset, .unset, .unset, .unset, .unset, .unset, .unset, .unset] [(.int (1 : Int32)), (.int (((p1.toUInt64 >>> ((40 : Int32) &&& 0x3f).toInt64.toUInt64).toInt64).toInt32))]))) (fun t k => XS.iconst X10.here hx rfl (hb hby at_123) k) ?_
      refine own_st (A' := (T10.setTop (mkF m 128 #[.val (.long p1), .second, .val (.int p2), .val (.int p3), .val (.int p4), .val (.int p5), .val (.int r_2), .val (.int r_4), .val (.int r_6), .val (.int r_8), .val (.int r_10), .unset, .unset, .unset, .unset, .unset, .unset, .unset, .unset] [(.int (1 : Int32)), (.int (((p1.toUInt64 >>> ((40 : Int32) &&& 0x3f).toInt64.toUInt64).toInt64).toInt32))]))) (fun t k => XS.goto X10.here hx rfl (pc0 := 124) (pc' := 128) rfl (hb hby at_124) (by decide) (by decide) k) ?_
      exact k
  obtain ⟨f5, h_f5⟩ : ∃ z : Int32, z = (if (((p2.toUInt32 >>> ((5 : Int32) &&& 31).toUInt32).toInt32) &&& (1 : Int32)) = (0 : Int32) then (0 : Int32) else (1 : Int32)) := ⟨_, rfl⟩
  rw [← h_f5]
  obtain ⟨_, vq12, ⟨T12, L12, k12, n12⟩, wq12, X12, hS12, gS12, ⟨Lc12, hQ12, l12, gq12, r12⟩, st12⟩ := callSS X10 hx (y := (⟨"com/example/log_to_isles/logtoisles/model/NodeNameFollowsPinLaw", "pick", "(IZ)B"⟩ : MethodName)) hown (mvT hZ (hw _ (List.mem_of_getElem? (i := 0) rfl))) (mvT hZ (hw _ (List.mem_of_getElem? (i := 1) rfl))) (mvT hZ (hw _ (List.mem_of_getElem? (i := 2) rfl))) (mvT hZ (hw _ (List.mem_of_getElem? (i := 3) rfl))) (by decide) (own_backJ (W := 0) (rmPick l Z a0 hw [] (((p1.toUInt64 >>> ((40 : Int32) &&& 0x3f).toInt64.toUInt64).toInt64).toInt32) f5 cs sv T10.heap n0 Z10 (own_staKeep (own_staKeep (own_staKeep (own_staKeep (own_staKeep P0 Kq2 all0) Kq4 all0) Kq6 all0) Kq8 all0) Kq10 all0) hcs (own_staKeep (own_staKeep (own_staKeep (own_staKeep (own_staKeep P2 Kq2 all0) Kq4 all0) Kq6 all0) Kq8 all0) Kq10 all0) hsv) hZ (hw _ (List.mem_of_getElem? (i := 3) rfl)) (hw _ (List.mem_of_getElem? (i := 2) rfl)) (by decide) (by decide) (own_EW hw) hH) (g := (mkF m 128 #[.val (.long p1), .second, .val (.int p2), .val (.int p3), .val (.int p4), .val (.int p5), .val (.int r_2), .val (.int r_4), .val (.int r_6), .val (.int r_8), .val (.int r_10), .unset, .unset, .unset, .unset, .unset, .unset, .unset, .unset] [(.int f5), (.int (((p1.toUInt64 >>> ((40 : Int32) &&& 0x3f).toInt64.toUInt64).toInt64).toInt32))])) rfl (by rw [hml]; rfl) (argsL := [(.int (((p1.toUInt64 >>> ((40 : Int32) &&& 0x3f).toInt64.toUInt64).toInt64).toInt32)), (.int f5)]) (rest := []) (lenOf pd__IZ_B rfl) rfl (by show 2 * 0 + _ ≤ _; exact Nat.le_of_eq rfl) (hb hby at_128) (fun _ _ => ⟨rfl, rfl, own_Jc hJ, own_Jn hJ⟩)
  dsimp only [Pt.U, Pt.locs, Pt.cells, Pt.slots] at X12 l12 gq12 st12 hQ12 hS12 gS12 r12
  subst l12
  have hJ := own_Jstep hJ wq12 hS12.1 gq12
  obtain ⟨X12, hS, hZ', hown⟩ := rebS hS hk X12 hS12 gS12 hZ hown
  have hk : T12.heap.size ≤ T12.heap.size := Nat.le_refl _
  obtain ⟨r_12, rfl, Nq12, Kq12, hr_12⟩ := hQ12
  have Nf12 := Fr.app Nf10 Nq12
  have hC := hC.trans r12
  have hH := hC.1
  have hZ := hZ'
  have K12 : Keep h0 T12.heap [] := K10.trans Kq12 all0
  have Z12 : n0 ≤ T12.heap.size := Nat.le_trans Z10 Kq12.1
  refine own_fw (A' := (T12.setTop (mkF m 131 #[.val (.long p1), .second, .val (.int p2), .val (.int p3), .val (.int p4), .val (.int p5), .val (.int r_2), .val (.int r_4), .val (.int r_6), .val (.int r_8), .val (.int r_10), .unset, .unset, .unset, .unset, .unset, .unset, .unset, .unset] [(.int r_12)]))) (fun t k => st12.trans k) ?_
  refine own_fw (A' := (T12.setTop (mkF m 133 #[.val (.long p1), .second, .val (.int p2), .val (.int p3), .val (.int p4), .val (.int p5), .val (.int r_2), .val (.int r_4), .val (.int r_6), .val (.int r_8), .val (.int r_10), .val (.int r_12), .unset, .unset, .unset, .unset, .unset, .unset, .unset] []))) (fun t k => XS.istore X12.here hx rfl (hb hby at_131) rfl (l' := #[.val (.long p1), .second, .val (.int p2), .val (.int p3), .val (.int p4), .val (.int p5), .val (.int r_2), .val (.int r_4), .val (.int r_6), .val (.int r_8), .val (.int r_10), .val (.int r_12), .unset, .unset, .unset, .unset, .unset, .unset, .unset]) rfl k) ?_
  refine own_fw (A' := (T12.setTop (mkF m 134 #[.val (.long p1), .second, .val (.int p2), .val (.int p3), .val (.int p4), .val (.int p5), .val (.int r_2), .val (.int r_4), .val (.int r_6), .val (.int r_8), .val (.int r_10), .val (.int r_12), .unset, .unset, .unset, .unset, .unset, .unset, .unset] [(.long p1)]))) (fun t k => XS.lloadN X12.here hx rfl (hb hby at_133) rfl k) ?_
  refine own_fw (A' := (T12.setTop (mkF m 136 #[.val (.long p1), .second, .val (.int p2), .val (.int p3), .val (.int p4), .val (.int p5), .val (.int r_2), .val (.int r_4), .val (.int r_6), .val (.int r_8), .val (.int r_10), .val (.int r_12), .unset, .unset, .unset, .unset, .unset, .unset, .unset] [(.int (48 : Int32)), (.long p1)]))) (fun t k => XS.bipush X12.here hx rfl (hb hby at_134) k) ?_
  refine own_fw (A' := (T12.setTop (mkF m 137 #[.val (.long p1), .second, .val (.int p2), .val (.int p3), .val (.int p4), .val (.int p5), .val (.int r_2), .val (.int r_4), .val (.int r_6), .val (.int r_8), .val (.int r_10), .val (.int r_12), .unset, .unset, .unset, .unset, .unset, .unset, .unset] [(.long ((p1.toUInt64 >>> ((48 : Int32) &&& 0x3f).toInt64.toUInt64).toInt64))]))) (fun t k => XS.lushr X12.here hx rfl (hb hby at_136) rfl k) ?_
  refine own_fw (A' := (T12.setTop (mkF m 138 #[.val (.long p1), .second, .val (.int p2), .val (.int p3), .val (.int p4), .val (.int p5), .val (.int r_2), .val (.int r_4), .val (.int r_6), .val (.int r_8), .val (.int r_10), .val (.int r_12), .unset, .unset, .unset, .unset, .unset, .unset, .unset] [(.int (((p1.toUInt64 >>> ((48 : Int32) &&& 0x3f).toInt64.toUInt64).toInt64).toInt32))]))) (fun t k => XS.l2i X12.here hx rfl (hb hby at_137) rfl k) ?_
  refine own_fw (A' := (T12.setTop (mkF m 139 #[.val (.long p1), .second, .val (.int p2), .val (.int p3), .val (.int p4), .val (.int p5), .val (.int r_2), .val (.int r_4), .val (.int r_6), .val (.int r_8), .val (.int r_10), .val (.int r_12), .unset, .unset, .unset, .unset, .unset, .unset, .unset] [(.int p2), (.int (((p1.toUInt64 >>> ((48 : Int32) &&& 0x3f).toInt64.toUInt64).toInt64).toInt32))]))) (fun t k => XS.iloadN X12.here hx rfl (hb hby at_138) rfl k) ?_
  refine own_fw (A' := (T12.setTop (mkF m 141 #[.val (.long p1), .second, .val (.int p2), .val (.int p3), .val (.int p4), .val (.int p5), .val (.int r_2), .val (.int r_4), .val (.int r_6), .val (.int r_8), .val (.int r_10), .val (.int r_12), .unset, .unset, .unset, .unset, .unset, .unset, .unset] [(.int (6 : Int32)), (.int p2), (.int (((p1.toUInt64 >>> ((48 : Int32) &&& 0x3f).toInt64.toUInt64).toInt64).toInt32))]))) (fun t k => XS.bipush X12.here hx rfl (hb hby at_139) k) ?_
  refine own_fw (A' := (T12.setTop (mkF m 142 #[.val (.long p1), .second, .val (.int p2), .val (.int p3), .val (.int p4), .val (.int p5), .val (.int r_2), .val (.int r_4), .val (.int r_6), .val (.int r_8), .val (.int r_10), .val (.int r_12), .unset, .unset, .unset, .unset, .unset, .unset, .unset] [(.int ((p2.toUInt32 >>> ((6 : Int32) &&& 31).toUInt32).toInt32)), (.int (((p1.toUInt64 >>> ((48 : Int32) &&& 0x3f).toInt64.toUInt64).toInt64).toInt32))]))) (fun t k => XS.iushr X12.here hx rfl (hb hby at_141) rfl k) ?_
  refine own_fw (A' := (T12.setTop (mkF m 143 #[.val (.long p1), .second, .val (.int p2), .val (.int p3), .val (.int p4), .val (.int p5), .val (.int r_2), .val (.int r_4), .val (.int r_6), .val (.int r_8), .val (.int r_10), .val (.int r_12), .unset, .unset, .unset, .unset, .unset, .unset, .unset] [(.int (1 : Int32)), (.int ((p2.toUInt32 >>> ((6 : Int32) &&& 31).toUInt32).toInt32)), (.int (((p1.toUInt64 >>> ((48 : Int32) &&& 0x3f).toInt64.toUInt64).toInt64).toInt32))]))) (fun t k => XS.iconst X12.here hx rfl (hb hby at_142) k) ?_
  refine own_fw (A' := (T12.setTop (mkF m 144 #[.val (.long p1), .second, .val (.int p2), .val (.int p3), .val (.int p4), .val (.int p5), .val (.int r_2), .val (.int r_4), .val (.int r_6), .val (.int r_8), .val (.int r_10), .val (.int r_12), .unset, .unset, .unset, .unset, .unset, .unset, .unset] [(.int (((p2.toUInt32 >>> ((6 : Int32) &&& 31).toUInt32).toInt32) &&& (1 : Int32))), (.int (((p1.toUInt64 >>> ((48 : Int32) &&& 0x3f).toInt64.toUInt64).toInt64).toInt32))]))) (fun t k => XS.iand X12.here hx rfl (hb hby at_143) rfl k) ?_
  refine own_fw (A' := (T12.setTop (mkF m 152 #[.val (.long p1), .second, .val (.int p2), .val (.int p3), .val (.int p4), .val (.int p5), .val (.int r_2), .val (.int r_4), .val (.int r_6), .val (.int r_8), .val (.int r_10), .val (.int r_12), .unset, .unset, .unset, .unset, .unset, .unset, .unset] [(.int (if (((p2.toUInt32 >>> ((6 : Int32) &&& 31).toUInt32).toInt32) &&& (1 : Int32)) = (0 : Int32) then (0 : Int32) else (1 : Int32))), (.int (((p1.toUInt64 >>> ((48 : Int32) &&& 0x3f).toInt64.toUInt64).toInt64).toInt32))]))) (fun t k => ?_) ?_
  · by_cases hj13 : (((p2.toUInt32 >>> ((6 : Int32) &&& 31).toUInt32).toInt32) &&& (1 : Int32)) = (0 : Int32)
    · try simp only [if_pos hj13] at k
      refine own_st (A' := (T12.setTop (mkF m 151 #[.val (.long p1), .second, .val (.int p2), .val (.int p3), .val (.int p4), .val (.int p5), .val (.int r_2), .val (.int r_4), .val (.int r_6), .val (.int r_8), .val (.int r_10), .val (.int r_12), .unset, .unset, .unset, .unset, .unset, .unset, .unset] [(.int (((p1.toUInt64 >>> ((48 : Int32) &&& 0x3f).toInt64.toUInt64).toInt64).toInt32))]))) (fun t k => XS.ifYes X12.here hx rfl (pc0 := 144) (pc' := 151) rfl (hb hby at_144) rfl (XT.i0_eq_t hj13) (by decide) (by decide) k) ?_
      refine own_st (A' := (T12.setTop (mkF m 152 #[.val (.long p1), .second, .val (.int p2), .val (.int p3), .val (.int p4), .val (.int p5), .val (.int r_2), .val (.int r_4), .val (.int r_6), .val (.int r_8), .val (.int r_10), .val (.int r_12), .unset, .unset, .unset, .unset, .unset, .unset, .unset] [(.int (0 : Int32)), (.int (((p1.toUInt64 >>> ((48 : Int32) &&& 0x3f).toInt64.toUInt64).toInt64).toInt32))]))) (fun t k => XS.iconst X12.here hx rfl (hb hby at_151) k) ?_
      exact k
    · try simp only [if_neg hj13] at k
      refine own_st (A' := (T12.setTop (mkF m 147 #[.val (.long p1), .second, .val (.int p2), .val (.int p3), .val (.int p4), .val (.int p5), .val (.int r_2), .val (.int r_4), .val (.int r_6), .val (.int r_8), .val (.int r_10), .val (.int r_12), .unset, .unset, .unset, .unset, .unset, .unset, .unset] [(.int (((p1.toUInt64 >>> ((48 : Int32) &&& 0x3f).toInt64.toUInt64).toInt64).toInt32))]))) (fun t k => XS.ifNo X12.here hx rfl (hb hby at_144) rfl (XT.i0_eq_f hj13) k) ?_
      refine own_st (A' := (T12.setTop (mkF m 148 #[.val (.long p1), .second, .val (.int p2), .val (.int p3), .val (.int p4), .val (.int p5), .val (.int r_2), .val (.int r_4), .val (.int r_6), .val (.int r_8), .val (.int r_10), .val (.int r_12), .unset, .unset, .unset, .unset, .unset, .unset, .unset] [(.int (1 : Int32)), (.int (((p1.toUInt64 >>> ((48 : Int32) &&& 0x3f).toInt64.toUInt64).toInt64).toInt32))]))) (fun t k => XS.iconst X12.here hx rfl (hb hby at_147) k) ?_
      refine own_st (A' := (T12.setTop (mkF m 152 #[.val (.long p1), .second, .val (.int p2), .val (.int p3), .val (.int p4), .val (.int p5), .val (.int r_2), .val (.int r_4), .val (.int r_6), .val (.int r_8), .val (.int r_10), .val (.int r_12), .unset, .unset, .unset, .unset, .unset, .unset, .unset] [(.int (1 : Int32)), (.int (((p1.toUInt64 >>> ((48 : Int32) &&& 0x3f).toInt64.toUInt64).toInt64).toInt32))]))) (fun t k => XS.goto X12.here hx rfl (pc0 := 148) (pc' := 152) rfl (hb hby at_148) (by decide) (by decide) k) ?_
      exact k
  obtain ⟨f6, h_f6⟩ : ∃ z : Int32, z = (if (((p2.toUInt32 >>> ((6 : Int32) &&& 31).toUInt32).toInt32) &&& (1 : Int32)) = (0 : Int32) then (0 : Int32) else (1 : Int32)) := ⟨_, rfl⟩
  rw [← h_f6]
  obtain ⟨_, vq14, ⟨T14, L14, k14, n14⟩, wq14, X14, hS14, gS14, ⟨Lc14, hQ14, l14, gq14, r14⟩, st14⟩ := callSS X12 hx (y := (⟨"com/example/log_to_isles/logtoisles/model/NodeNameFollowsPinLaw", "pick", "(IZ)B"⟩ : MethodName)) hown (mvT hZ (hw _ (List.mem_of_getElem? (i := 0) rfl))) (mvT hZ (hw _ (List.mem_of_getElem? (i := 1) rfl))) (mvT hZ (hw _ (List.mem_of_getElem? (i := 2) rfl))) (mvT hZ (hw _ (List.mem_of_getElem? (i := 3) rfl))) (by decide) (own_backJ (W := 0) (rmPick l Z a0 hw [] (((p1.toUInt64 >>> ((48 : Int32) &&& 0x3f).toInt64.toUInt64).toInt64).toInt32) f6 cs sv T12.heap n0 Z12 (own_staKeep (own_staKeep (own_staKeep (own_staKeep (own_staKeep (own_staKeep P0 Kq2 all0) Kq4 all0) Kq6 all0) Kq8 all0) Kq10 all0) Kq12 all0) hcs (own_staKeep (own_staKeep (own_staKeep (own_staKeep (own_staKeep (own_staKeep P2 Kq2 all0) Kq4 all0) Kq6 all0) Kq8 all0) Kq10 all0) Kq12 all0) hsv) hZ (hw _ (List.mem_of_getElem? (i := 3) rfl)) (hw _ (List.mem_of_getElem? (i := 2) rfl)) (by decide) (by decide) (own_EW hw) hH) (g := (mkF m 152 #[.val (.long p1), .second, .val (.int p2), .val (.int p3), .val (.int p4), .val (.int p5), .val (.int r_2), .val (.int r_4), .val (.int r_6), .val (.int r_8), .val (.int r_10), .val (.int r_12), .unset, .unset, .unset, .unset, .unset, .unset, .unset] [(.int f6), (.int (((p1.toUInt64 >>> ((48 : Int32) &&& 0x3f).toInt64.toUInt64).toInt64).toInt32))])) rfl (by rw [hml]; rfl) (argsL := [(.int (((p1.toUInt64 >>> ((48 : Int32) &&& 0x3f).toInt64.toUInt64).toInt64).toInt32)), (.int f6)]) (rest := []) (lenOf pd__IZ_B rfl) rfl (by show 2 * 0 + _ ≤ _; exact Nat.le_of_eq rfl) (hb hby at_152) (fun _ _ => ⟨rfl, rfl, own_Jc hJ, own_Jn hJ⟩)
  dsimp only [Pt.U, Pt.locs, Pt.cells, Pt.slots] at X14 l14 gq14 st14 hQ14 hS14 gS14 r14
  subst l14
  have hJ := own_Jstep hJ wq14 hS14.1 gq14
  obtain ⟨X14, hS, hZ', hown⟩ := rebS hS hk X14 hS14 gS14 hZ hown
  have hk : T14.heap.size ≤ T14.heap.size := Nat.le_refl _
  obtain ⟨r_14, rfl, Nq14, Kq14, hr_14⟩ := hQ14
  have Nf14 := Fr.app Nf12 Nq14
  have hC := hC.trans r14
  have hH := hC.1
  have hZ := hZ'
  have K14 : Keep h0 T14.heap [] := K12.trans Kq14 all0
  have Z14 : n0 ≤ T14.heap.size := Nat.le_trans Z12 Kq14.1
  refine own_fw (A' := (T14.setTop (mkF m 155 #[.val (.long p1), .second, .val (.int p2), .val (.int p3), .val (.int p4), .val (.int p5), .val (.int r_2), .val (.int r_4), .val (.int r_6), .val (.int r_8), .val (.int r_10), .val (.int r_12), .unset, .unset, .unset, .unset, .unset, .unset, .unset] [(.int r_14)]))) (fun t k => st14.trans k) ?_
  refine own_fw (A' := (T14.setTop (mkF m 157 #[.val (.long p1), .second, .val (.int p2), .val (.int p3), .val (.int p4), .val (.int p5), .val (.int r_2), .val (.int r_4), .val (.int r_6), .val (.int r_8), .val (.int r_10), .val (.int r_12), .val (.int r_14), .unset, .unset, .unset, .unset, .unset, .unset] []))) (fun t k => XS.istore X14.here hx rfl (hb hby at_155) rfl (l' := #[.val (.long p1), .second, .val (.int p2), .val (.int p3), .val (.int p4), .val (.int p5), .val (.int r_2), .val (.int r_4), .val (.int r_6), .val (.int r_8), .val (.int r_10), .val (.int r_12), .val (.int r_14), .unset, .unset, .unset, .unset, .unset, .unset]) rfl k) ?_
  refine own_fw (A' := (T14.setTop (mkF m 158 #[.val (.long p1), .second, .val (.int p2), .val (.int p3), .val (.int p4), .val (.int p5), .val (.int r_2), .val (.int r_4), .val (.int r_6), .val (.int r_8), .val (.int r_10), .val (.int r_12), .val (.int r_14), .unset, .unset, .unset, .unset, .unset, .unset] [(.long p1)]))) (fun t k => XS.lloadN X14.here hx rfl (hb hby at_157) rfl k) ?_
  refine own_fw (A' := (T14.setTop (mkF m 160 #[.val (.long p1), .second, .val (.int p2), .val (.int p3), .val (.int p4), .val (.int p5), .val (.int r_2), .val (.int r_4), .val (.int r_6), .val (.int r_8), .val (.int r_10), .val (.int r_12), .val (.int r_14), .unset, .unset, .unset, .unset, .unset, .unset] [(.int (56 : Int32)), (.long p1)]))) (fun t k => XS.bipush X14.here hx rfl (hb hby at_158) k) ?_
  refine own_fw (A' := (T14.setTop (mkF m 161 #[.val (.long p1), .second, .val (.int p2), .val (.int p3), .val (.int p4), .val (.int p5), .val (.int r_2), .val (.int r_4), .val (.int r_6), .val (.int r_8), .val (.int r_10), .val (.int r_12), .val (.int r_14), .unset, .unset, .unset, .unset, .unset, .unset] [(.long ((p1.toUInt64 >>> ((56 : Int32) &&& 0x3f).toInt64.toUInt64).toInt64))]))) (fun t k => XS.lushr X14.here hx rfl (hb hby at_160) rfl k) ?_
  refine own_fw (A' := (T14.setTop (mkF m 162 #[.val (.long p1), .second, .val (.int p2), .val (.int p3), .val (.int p4), .val (.int p5), .val (.int r_2), .val (.int r_4), .val (.int r_6), .val (.int r_8), .val (.int r_10), .val (.int r_12), .val (.int r_14), .unset, .unset, .unset, .unset, .unset, .unset] [(.int (((p1.toUInt64 >>> ((56 : Int32) &&& 0x3f).toInt64.toUInt64).toInt64).toInt32))]))) (fun t k => XS.l2i X14.here hx rfl (hb hby at_161) rfl k) ?_
  refine own_fw (A' := (T14.setTop (mkF m 163 #[.val (.long p1), .second, .val (.int p2), .val (.int p3), .val (.int p4), .val (.int p5), .val (.int r_2), .val (.int r_4), .val (.int r_6), .val (.int r_8), .val (.int r_10), .val (.int r_12), .val (.int r_14), .unset, .unset, .unset, .unset, .unset, .unset] [(.int p2), (.int (((p1.toUInt64 >>> ((56 : Int32) &&& 0x3f).toInt64.toUInt64).toInt64).toInt32))]))) (fun t k => XS.iloadN X14.here hx rfl (hb hby at_162) rfl k) ?_
  refine own_fw (A' := (T14.setTop (mkF m 165 #[.val (.long p1), .second, .val (.int p2), .val (.int p3), .val (.int p4), .val (.int p5), .val (.int r_2), .val (.int r_4), .val (.int r_6), .val (.int r_8), .val (.int r_10), .val (.int r_12), .val (.int r_14), .unset, .unset, .unset, .unset, .unset, .unset] [(.int (7 : Int32)), (.int p2), (.int (((p1.toUInt64 >>> ((56 : Int32) &&& 0x3f).toInt64.toUInt64).toInt64).toInt32))]))) (fun t k => XS.bipush X14.here hx rfl (hb hby at_163) k) ?_
  refine own_fw (A' := (T14.setTop (mkF m 166 #[.val (.long p1), .second, .val (.int p2), .val (.int p3), .val (.int p4), .val (.int p5), .val (.int r_2), .val (.int r_4), .val (.int r_6), .val (.int r_8), .val (.int r_10), .val (.int r_12), .val (.int r_14), .unset, .unset, .unset, .unset, .unset, .unset] [(.int ((p2.toUInt32 >>> ((7 : Int32) &&& 31).toUInt32).toInt32)), (.int (((p1.toUInt64 >>> ((56 : Int32) &&& 0x3f).toInt64.toUInt64).toInt64).toInt32))]))) (fun t k => XS.iushr X14.here hx rfl (hb hby at_165) rfl k) ?_
  refine own_fw (A' := (T14.setTop (mkF m 167 #[.val (.long p1), .second, .val (.int p2), .val (.int p3), .val (.int p4), .val (.int p5), .val (.int r_2), .val (.int r_4), .val (.int r_6), .val (.int r_8), .val (.int r_10), .val (.int r_12), .val (.int r_14), .unset, .unset, .unset, .unset, .unset, .unset] [(.int (1 : Int32)), (.int ((p2.toUInt32 >>> ((7 : Int32) &&& 31).toUInt32).toInt32)), (.int (((p1.toUInt64 >>> ((56 : Int32) &&& 0x3f).toInt64.toUInt64).toInt64).toInt32))]))) (fun t k => XS.iconst X14.here hx rfl (hb hby at_166) k) ?_
  refine own_fw (A' := (T14.setTop (mkF m 168 #[.val (.long p1), .second, .val (.int p2), .val (.int p3), .val (.int p4), .val (.int p5), .val (.int r_2), .val (.int r_4), .val (.int r_6), .val (.int r_8), .val (.int r_10), .val (.int r_12), .val (.int r_14), .unset, .unset, .unset, .unset, .unset, .unset] [(.int (((p2.toUInt32 >>> ((7 : Int32) &&& 31).toUInt32).toInt32) &&& (1 : Int32))), (.int (((p1.toUInt64 >>> ((56 : Int32) &&& 0x3f).toInt64.toUInt64).toInt64).toInt32))]))) (fun t k => XS.iand X14.here hx rfl (hb hby at_167) rfl k) ?_
  refine own_fw (A' := (T14.setTop (mkF m 176 #[.val (.long p1), .second, .val (.int p2), .val (.int p3), .val (.int p4), .val (.int p5), .val (.int r_2), .val (.int r_4), .val (.int r_6), .val (.int r_8), .val (.int r_10), .val (.int r_12), .val (.int r_14), .unset, .unset, .unset, .unset, .unset, .unset] [(.int (if (((p2.toUInt32 >>> ((7 : Int32) &&& 31).toUInt32).toInt32) &&& (1 : Int32)) = (0 : Int32) then (0 : Int32) else (1 : Int32))), (.int (((p1.toUInt64 >>> ((56 : Int32) &&& 0x3f).toInt64.toUInt64).toInt64).toInt32))]))) (fun t k => ?_) ?_
  · by_cases hj15 : (((p2.toUInt32 >>> ((7 : Int32) &&& 31).toUInt32).toInt32) &&& (1 : Int32)) = (0 : Int32)
    · try simp only [if_pos hj15] at k
      refine own_st (A' := (T14.setTop (mkF m 175 #[.val (.long p1), .second, .val (.int p2), .val (.int p3), .val (.int p4), .val (.int p5), .val (.int r_2), .val (.int r_4), .val (.int r_6), .val (.int r_8), .val (.int r_10), .val (.int r_12), .val (.int r_14), .unset, .unset, .unset, .unset, .unset, .unset] [(.int (((p1.toUInt64 >>> ((56 : Int32) &&& 0x3f).toInt64.toUInt64).toInt64).toInt32))]))) (fun t k => XS.ifYes X14.here hx rfl (pc0 := 168) (pc' := 175) rfl (hb hby at_168) rfl (XT.i0_eq_t hj15) (by decide) (by decide) k) ?_
      refine own_st (A' := (T14.setTop (mkF m 176 #[.val (.long p1), .second, .val (.int p2), .val (.int p3), .val (.int p4), .val (.int p5), .val (.int r_2), .val (.int r_4), .val (.int r_6), .val (.int r_8), .val (.int r_10), .val (.int r_12), .val (.int r_14), .unset, .unset, .unset, .unset, .unset, .unset] [(.int (0 : Int32)), (.int (((p1.toUInt64 >>> ((56 : Int32) &&& 0x3f).toInt64.toUInt64).toInt64).toInt32))]))) (fun t k => XS.iconst X14.here hx rfl (hb hby at_175) k) ?_
      exact k
    · try simp only [if_neg hj15] at k
      refine own_st (A' := (T14.setTop (mkF m 171 #[.val (.long p1), .second, .val (.int p2), .val (.int p3), .val (.int p4), .val (.int p5), .val (.int r_2), .val (.int r_4), .val (.int r_6), .val (.int r_8), .val (.int r_10), .val (.int r_12), .val (.int r_14), .unset, .unset, .unset, .unset, .unset, .unset] [(.int (((p1.toUInt64 >>> ((56 : Int32) &&& 0x3f).toInt64.toUInt64).toInt64).toInt32))]))) (fun t k => XS.ifNo X14.here hx rfl (hb hby at_168) rfl (XT.i0_eq_f hj15) k) ?_
      refine own_st (A' := (T14.setTop (mkF m 172 #[.val (.long p1), .second, .val (.int p2), .val (.int p3), .val (.int p4), .val (.int p5), .val (.int r_2), .val (.int r_4), .val (.int r_6), .val (.int r_8), .val (.int r_10), .val (.int r_12), .val (.int r_14), .unset, .unset, .unset, .unset, .unset, .unset] [(.int (1 : Int32)), (.int (((p1.toUInt64 >>> ((56 : Int32) &&& 0x3f).toInt64.toUInt64).toInt64).toInt32))]))) (fun t k => XS.iconst X14.here hx rfl (hb hby at_171) k) ?_
      refine own_st (A' := (T14.setTop (mkF m 176 #[.val (.long p1), .second, .val (.int p2), .val (.int p3), .val (.int p4), .val (.int p5), .val (.int r_2), .val (.int r_4), .val (.int r_6), .val (.int r_8), .val (.int r_10), .val (.int r_12), .val (.int r_14), .unset, .unset, .unset, .unset, .unset, .unset] [(.int (1 : Int32)), (.int (((p1.toUInt64 >>> ((56 : Int32) &&& 0x3f).toInt64.toUInt64).toInt64).toInt32))]))) (fun t k => XS.goto X14.here hx rfl (pc0 := 172) (pc' := 176) rfl (hb hby at_172) (by decide) (by decide) k) ?_
      exact k
  obtain ⟨f7, h_f7⟩ : ∃ z : Int32, z = (if (((p2.toUInt32 >>> ((7 : Int32) &&& 31).toUInt32).toInt32) &&& (1 : Int32)) = (0 : Int32) then (0 : Int32) else (1 : Int32)) := ⟨_, rfl⟩
  rw [← h_f7]
  obtain ⟨_, vq16, ⟨T16, L16, k16, n16⟩, wq16, X16, hS16, gS16, ⟨Lc16, hQ16, l16, gq16, r16⟩, st16⟩ := callSS X14 hx (y := (⟨"com/example/log_to_isles/logtoisles/model/NodeNameFollowsPinLaw", "pick", "(IZ)B"⟩ : MethodName)) hown (mvT hZ (hw _ (List.mem_of_getElem? (i := 0) rfl))) (mvT hZ (hw _ (List.mem_of_getElem? (i := 1) rfl))) (mvT hZ (hw _ (List.mem_of_getElem? (i := 2) rfl))) (mvT hZ (hw _ (List.mem_of_getElem? (i := 3) rfl))) (by decide) (own_backJ (W := 0) (rmPick l Z a0 hw [] (((p1.toUInt64 >>> ((56 : Int32) &&& 0x3f).toInt64.toUInt64).toInt64).toInt32) f7 cs sv T14.heap n0 Z14 (own_staKeep (own_staKeep (own_staKeep (own_staKeep (own_staKeep (own_staKeep (own_staKeep P0 Kq2 all0) Kq4 all0) Kq6 all0) Kq8 all0) Kq10 all0) Kq12 all0) Kq14 all0) hcs (own_staKeep (own_staKeep (own_staKeep (own_staKeep (own_staKeep (own_staKeep (own_staKeep P2 Kq2 all0) Kq4 all0) Kq6 all0) Kq8 all0) Kq10 all0) Kq12 all0) Kq14 all0) hsv) hZ (hw _ (List.mem_of_getElem? (i := 3) rfl)) (hw _ (List.mem_of_getElem? (i := 2) rfl)) (by decide) (by decide) (own_EW hw) hH) (g := (mkF m 176 #[.val (.long p1), .second, .val (.int p2), .val (.int p3), .val (.int p4), .val (.int p5), .val (.int r_2), .val (.int r_4), .val (.int r_6), .val (.int r_8), .val (.int r_10), .val (.int r_12), .val (.int r_14), .unset, .unset, .unset, .unset, .unset, .unset] [(.int f7), (.int (((p1.toUInt64 >>> ((56 : Int32) &&& 0x3f).toInt64.toUInt64).toInt64).toInt32))])) rfl (by rw [hml]; rfl) (argsL := [(.int (((p1.toUInt64 >>> ((56 : Int32) &&& 0x3f).toInt64.toUInt64).toInt64).toInt32)), (.int f7)]) (rest := []) (lenOf pd__IZ_B rfl) rfl (by show 2 * 0 + _ ≤ _; exact Nat.le_of_eq rfl) (hb hby at_176) (fun _ _ => ⟨rfl, rfl, own_Jc hJ, own_Jn hJ⟩)
  dsimp only [Pt.U, Pt.locs, Pt.cells, Pt.slots] at X16 l16 gq16 st16 hQ16 hS16 gS16 r16
  subst l16
  have hJ := own_Jstep hJ wq16 hS16.1 gq16
  obtain ⟨X16, hS, hZ', hown⟩ := rebS hS hk X16 hS16 gS16 hZ hown
  have hk : T16.heap.size ≤ T16.heap.size := Nat.le_refl _
  obtain ⟨r_16, rfl, Nq16, Kq16, hr_16⟩ := hQ16
  have Nf16 := Fr.app Nf14 Nq16
  have hC := hC.trans r16
  have hH := hC.1
  have hZ := hZ'
  have K16 : Keep h0 T16.heap [] := K14.trans Kq16 all0
  have Z16 : n0 ≤ T16.heap.size := Nat.le_trans Z14 Kq16.1
  refine own_fw (A' := (T16.setTop (mkF m 179 #[.val (.long p1), .second, .val (.int p2), .val (.int p3), .val (.int p4), .val (.int p5), .val (.int r_2), .val (.int r_4), .val (.int r_6), .val (.int r_8), .val (.int r_10), .val (.int r_12), .val (.int r_14), .unset, .unset, .unset, .unset, .unset, .unset] [(.int r_16)]))) (fun t k => st16.trans k) ?_
  refine own_fw (A' := (T16.setTop (mkF m 181 #[.val (.long p1), .second, .val (.int p2), .val (.int p3), .val (.int p4), .val (.int p5), .val (.int r_2), .val (.int r_4), .val (.int r_6), .val (.int r_8), .val (.int r_10), .val (.int r_12), .val (.int r_14), .val (.int r_16), .unset, .unset, .unset, .unset, .unset] []))) (fun t k => XS.istore X16.here hx rfl (hb hby at_179) rfl (l' := #[.val (.long p1), .second, .val (.int p2), .val (.int p3), .val (.int p4), .val (.int p5), .val (.int r_2), .val (.int r_4), .val (.int r_6), .val (.int r_8), .val (.int r_10), .val (.int r_12), .val (.int r_14), .val (.int r_16), .unset, .unset, .unset, .unset, .unset]) rfl k) ?_
  refine own_fw (A' := (T16.setTop (mkF m 182 #[.val (.long p1), .second, .val (.int p2), .val (.int p3), .val (.int p4), .val (.int p5), .val (.int r_2), .val (.int r_4), .val (.int r_6), .val (.int r_8), .val (.int r_10), .val (.int r_12), .val (.int r_14), .val (.int r_16), .unset, .unset, .unset, .unset, .unset] [(.int p3)]))) (fun t k => XS.iloadN X16.here hx rfl (hb hby at_181) rfl k) ?_
  refine own_fw (A' := (T16.setTop (mkF m 183 #[.val (.long p1), .second, .val (.int p2), .val (.int p3), .val (.int p4), .val (.int p5), .val (.int r_2), .val (.int r_4), .val (.int r_6), .val (.int r_8), .val (.int r_10), .val (.int r_12), .val (.int r_14), .val (.int r_16), .unset, .unset, .unset, .unset, .unset] [(.int p2), (.int p3)]))) (fun t k => XS.iloadN X16.here hx rfl (hb hby at_182) rfl k) ?_
  refine own_fw (A' := (T16.setTop (mkF m 185 #[.val (.long p1), .second, .val (.int p2), .val (.int p3), .val (.int p4), .val (.int p5), .val (.int r_2), .val (.int r_4), .val (.int r_6), .val (.int r_8), .val (.int r_10), .val (.int r_12), .val (.int r_14), .val (.int r_16), .unset, .unset, .unset, .unset, .unset] [(.int (8 : Int32)), (.int p2), (.int p3)]))) (fun t k => XS.bipush X16.here hx rfl (hb hby at_183) k) ?_
  refine own_fw (A' := (T16.setTop (mkF m 186 #[.val (.long p1), .second, .val (.int p2), .val (.int p3), .val (.int p4), .val (.int p5), .val (.int r_2), .val (.int r_4), .val (.int r_6), .val (.int r_8), .val (.int r_10), .val (.int r_12), .val (.int r_14), .val (.int r_16), .unset, .unset, .unset, .unset, .unset] [(.int ((p2.toUInt32 >>> ((8 : Int32) &&& 31).toUInt32).toInt32)), (.int p3)]))) (fun t k => XS.iushr X16.here hx rfl (hb hby at_185) rfl k) ?_
  refine own_fw (A' := (T16.setTop (mkF m 187 #[.val (.long p1), .second, .val (.int p2), .val (.int p3), .val (.int p4), .val (.int p5), .val (.int r_2), .val (.int r_4), .val (.int r_6), .val (.int r_8), .val (.int r_10), .val (.int r_12), .val (.int r_14), .val (.int r_16), .unset, .unset, .unset, .unset, .unset] [(.int (1 : Int32)), (.int ((p2.toUInt32 >>> ((8 : Int32) &&& 31).toUInt32).toInt32)), (.int p3)]))) (fun t k => XS.iconst X16.here hx rfl (hb hby at_186) k) ?_
  refine own_fw (A' := (T16.setTop (mkF m 188 #[.val (.long p1), .second, .val (.int p2), .val (.int p3), .val (.int p4), .val (.int p5), .val (.int r_2), .val (.int r_4), .val (.int r_6), .val (.int r_8), .val (.int r_10), .val (.int r_12), .val (.int r_14), .val (.int r_16), .unset, .unset, .unset, .unset, .unset] [(.int (((p2.toUInt32 >>> ((8 : Int32) &&& 31).toUInt32).toInt32) &&& (1 : Int32))), (.int p3)]))) (fun t k => XS.iand X16.here hx rfl (hb hby at_187) rfl k) ?_
  refine own_fw (A' := (T16.setTop (mkF m 196 #[.val (.long p1), .second, .val (.int p2), .val (.int p3), .val (.int p4), .val (.int p5), .val (.int r_2), .val (.int r_4), .val (.int r_6), .val (.int r_8), .val (.int r_10), .val (.int r_12), .val (.int r_14), .val (.int r_16), .unset, .unset, .unset, .unset, .unset] [(.int (if (((p2.toUInt32 >>> ((8 : Int32) &&& 31).toUInt32).toInt32) &&& (1 : Int32)) = (0 : Int32) then (0 : Int32) else (1 : Int32))), (.int p3)]))) (fun t k => ?_) ?_
  · by_cases hj17 : (((p2.toUInt32 >>> ((8 : Int32) &&& 31).toUInt32).toInt32) &&& (1 : Int32)) = (0 : Int32)
    · try simp only [if_pos hj17] at k
      refine own_st (A' := (T16.setTop (mkF m 195 #[.val (.long p1), .second, .val (.int p2), .val (.int p3), .val (.int p4), .val (.int p5), .val (.int r_2), .val (.int r_4), .val (.int r_6), .val (.int r_8), .val (.int r_10), .val (.int r_12), .val (.int r_14), .val (.int r_16), .unset, .unset, .unset, .unset, .unset] [(.int p3)]))) (fun t k => XS.ifYes X16.here hx rfl (pc0 := 188) (pc' := 195) rfl (hb hby at_188) rfl (XT.i0_eq_t hj17) (by decide) (by decide) k) ?_
      refine own_st (A' := (T16.setTop (mkF m 196 #[.val (.long p1), .second, .val (.int p2), .val (.int p3), .val (.int p4), .val (.int p5), .val (.int r_2), .val (.int r_4), .val (.int r_6), .val (.int r_8), .val (.int r_10), .val (.int r_12), .val (.int r_14), .val (.int r_16), .unset, .unset, .unset, .unset, .unset] [(.int (0 : Int32)), (.int p3)]))) (fun t k => XS.iconst X16.here hx rfl (hb hby at_195) k) ?_
      exact k
    · try simp only [if_neg hj17] at k
      refine own_st (A' := (T16.setTop (mkF m 191 #[.val (.long p1), .second, .val (.int p2), .val (.int p3), .val (.int p4), .val (.int p5), .val (.int r_2), .val (.int r_4), .val (.int r_6), .val (.int r_8), .val (.int r_10), .val (.int r_12), .val (.int r_14), .val (.int r_16), .unset, .unset, .unset, .unset, .unset] [(.int p3)]))) (fun t k => XS.ifNo X16.here hx rfl (hb hby at_188) rfl (XT.i0_eq_f hj17) k) ?_
      refine own_st (A' := (T16.setTop (mkF m 192 #[.val (.long p1), .second, .val (.int p2), .val (.int p3), .val (.int p4), .val (.int p5), .val (.int r_2), .val (.int r_4), .val (.int r_6), .val (.int r_8), .val (.int r_10), .val (.int r_12), .val (.int r_14), .val (.int r_16), .unset, .unset, .unset, .unset, .unset] [(.int (1 : Int32)), (.int p3)]))) (fun t k => XS.iconst X16.here hx rfl (hb hby at_191) k) ?_
      refine own_st (A' := (T16.setTop (mkF m 196 #[.val (.long p1), .second, .val (.int p2), .val (.int p3), .val (.int p4), .val (.int p5), .val (.int r_2), .val (.int r_4), .val (.int r_6), .val (.int r_8), .val (.int r_10), .val (.int r_12), .val (.int r_14), .val (.int r_16), .unset, .unset, .unset, .unset, .unset] [(.int (1 : Int32)), (.int p3)]))) (fun t k => XS.goto X16.here hx rfl (pc0 := 192) (pc' := 196) rfl (hb hby at_192) (by decide) (by decide) k) ?_
      exact k
  obtain ⟨f8, h_f8⟩ : ∃ z : Int32, z = (if (((p2.toUInt32 >>> ((8 : Int32) &&& 31).toUInt32).toInt32) &&& (1 : Int32)) = (0 : Int32) then (0 : Int32) else (1 : Int32)) := ⟨_, rfl⟩
  rw [← h_f8]
  obtain ⟨_, vq18, ⟨T18, L18, k18, n18⟩, wq18, X18, hS18, gS18, ⟨Lc18, hQ18, l18, gq18, r18⟩, st18⟩ := callSS X16 hx (y := (⟨"com/example/log_to_isles/logtoisles/model/NodeNameFollowsPinLaw", "pick", "(IZ)B"⟩ : MethodName)) hown (mvT hZ (hw _ (List.mem_of_getElem? (i := 0) rfl))) (mvT hZ (hw _ (List.mem_of_getElem? (i := 1) rfl))) (mvT hZ (hw _ (List.mem_of_getElem? (i := 2) rfl))) (mvT hZ (hw _ (List.mem_of_getElem? (i := 3) rfl))) (by decide) (own_backJ (W := 0) (rmPick l Z a0 hw [] p3 f8 cs sv T16.heap n0 Z16 (own_staKeep (own_staKeep (own_staKeep (own_staKeep (own_staKeep (own_staKeep (own_staKeep (own_staKeep P0 Kq2 all0) Kq4 all0) Kq6 all0) Kq8 all0) Kq10 all0) Kq12 all0) Kq14 all0) Kq16 all0) hcs (own_staKeep (own_staKeep (own_staKeep (own_staKeep (own_staKeep (own_staKeep (own_staKeep (own_staKeep P2 Kq2 all0) Kq4 all0) Kq6 all0) Kq8 all0) Kq10 all0) Kq12 all0) Kq14 all0) Kq16 all0) hsv) hZ (hw _ (List.mem_of_getElem? (i := 3) rfl)) (hw _ (List.mem_of_getElem? (i := 2) rfl)) (by decide) (by decide) (own_EW hw) hH) (g := (mkF m 196 #[.val (.long p1), .second, .val (.int p2), .val (.int p3), .val (.int p4), .val (.int p5), .val (.int r_2), .val (.int r_4), .val (.int r_6), .val (.int r_8), .val (.int r_10), .val (.int r_12), .val (.int r_14), .val (.int r_16), .unset, .unset, .unset, .unset, .unset] [(.int f8), (.int p3)])) rfl (by rw [hml]; rfl) (argsL := [(.int p3), (.int f8)]) (rest := []) (lenOf pd__IZ_B rfl) rfl (by show 2 * 0 + _ ≤ _; exact Nat.le_of_eq rfl) (hb hby at_196) (fun _ _ => ⟨rfl, rfl, own_Jc hJ, own_Jn hJ⟩)
  dsimp only [Pt.U, Pt.locs, Pt.cells, Pt.slots] at X18 l18 gq18 st18 hQ18 hS18 gS18 r18
  subst l18
  have hJ := own_Jstep hJ wq18 hS18.1 gq18
  obtain ⟨X18, hS, hZ', hown⟩ := rebS hS hk X18 hS18 gS18 hZ hown
  have hk : T18.heap.size ≤ T18.heap.size := Nat.le_refl _
  obtain ⟨r_18, rfl, Nq18, Kq18, hr_18⟩ := hQ18
  have Nf18 := Fr.app Nf16 Nq18
  have hC := hC.trans r18
  have hH := hC.1
  have hZ := hZ'
  have K18 : Keep h0 T18.heap [] := K16.trans Kq18 all0
  have Z18 : n0 ≤ T18.heap.size := Nat.le_trans Z16 Kq18.1
  refine own_fw (A' := (T18.setTop (mkF m 199 #[.val (.long p1), .second, .val (.int p2), .val (.int p3), .val (.int p4), .val (.int p5), .val (.int r_2), .val (.int r_4), .val (.int r_6), .val (.int r_8), .val (.int r_10), .val (.int r_12), .val (.int r_14), .val (.int r_16), .unset, .unset, .unset, .unset, .unset] [(.int r_18)]))) (fun t k => st18.trans k) ?_
  refine own_fw (A' := (T18.setTop (mkF m 201 #[.val (.long p1), .second, .val (.int p2), .val (.int p3), .val (.int p4), .val (.int p5), .val (.int r_2), .val (.int r_4), .val (.int r_6), .val (.int r_8), .val (.int r_10), .val (.int r_12), .val (.int r_14), .val (.int r_16), .val (.int r_18), .unset, .unset, .unset, .unset] []))) (fun t k => XS.istore X18.here hx rfl (hb hby at_199) rfl (l' := #[.val (.long p1), .second, .val (.int p2), .val (.int p3), .val (.int p4), .val (.int p5), .val (.int r_2), .val (.int r_4), .val (.int r_6), .val (.int r_8), .val (.int r_10), .val (.int r_12), .val (.int r_14), .val (.int r_16), .val (.int r_18), .unset, .unset, .unset, .unset]) rfl k) ?_
  have X18 := X18.mono (own_Jk hJ) (own_Jm hJ)
  refine own_fw (A' := (T18.setTop (mkF m 203 #[.val (.long p1), .second, .val (.int p2), .val (.int p3), .val (.int p4), .val (.int p5), .val (.int r_2), .val (.int r_4), .val (.int r_6), .val (.int r_8), .val (.int r_10), .val (.int r_12), .val (.int r_14), .val (.int r_16), .val (.int r_18), .unset, .unset, .unset, .unset] [(.int (40 : Int32))]))) (fun t k => XS.bipush X18.here hx rfl (hb hby at_201) k) ?_
  obtain ⟨T19, h19, k19, X19, e19, E19, A19, st19⟩ := newP X18 hx hZ (hw _ (List.mem_of_getElem? (i := 7) rfl)) rfl (g := (mkF m 203 #[.val (.long p1), .second, .val (.int p2), .val (.int p3), .val (.int p4), .val (.int p5), .val (.int r_2), .val (.int r_4), .val (.int r_6), .val (.int r_8), .val (.int r_10), .val (.int r_12), .val (.int r_14), .val (.int r_16), .val (.int r_18), .unset, .unset, .unset, .unset] [(.int (40 : Int32))])) rfl (hb hby at_203) rfl (by decide) (cap := 40) (by decide) (by decide) (by decide) (by decide)
  obtain ⟨b19, gb19⟩ : ∃ z, z = T18.heap.size := ⟨_, rfl⟩
  have g_b19 : n0 ≤ b19 := Nat.le_trans Z18 (Nat.le_of_eq gb19.symm)
  have sz_b19 : h0.size ≤ b19 := Nat.le_trans K18.1 (Nat.le_of_eq gb19.symm)
  rw [← gb19] at A19 st19
  have F20 : Safe Z own_EL _ h19 b19 := (Safe.ext E19 hH (Safe.new (Nat.le_of_eq gb19.symm) : Safe Z own_EL _ T18.heap b19))
  have V_b19 : Arv Z h19 b19 k19 .byte (40 : Int32) [(.int (0 : Int32)), (.int (0 : Int32)), (.int (0 : Int32)), (.int (0 : Int32)), (.int (0 : Int32)), (.int (0 : Int32)), (.int (0 : Int32)), (.int (0 : Int32)), (.int (0 : Int32)), (.int (0 : Int32)), (.int (0 : Int32)), (.int (0 : Int32)), (.int (0 : Int32)), (.int (0 : Int32)), (.int (0 : Int32)), (.int (0 : Int32)), (.int (0 : Int32)), (.int (0 : Int32)), (.int (0 : Int32)), (.int (0 : Int32)), (.int (0 : Int32)), (.int (0 : Int32)), (.int (0 : Int32)), (.int (0 : Int32)), (.int (0 : Int32)), (.int (0 : Int32)), (.int (0 : Int32)), (.int (0 : Int32)), (.int (0 : Int32)), (.int (0 : Int32)), (.int (0 : Int32)), (.int (0 : Int32)), (.int (0 : Int32)), (.int (0 : Int32)), (.int (0 : Int32)), (.int (0 : Int32)), (.int (0 : Int32)), (.int (0 : Int32)), (.int (0 : Int32)), (.int (0 : Int32))] (.int (0 : Int32)) := (Arv.new A19 (by decide)).pad (pad_rep [] (.int (0 : Int32)) 40)
  have K19 : Keep h0 h19 [] := K18.ext E19
  have Z19 : n0 ≤ h19.size := Nat.le_trans Z18 E19.1
  have hk := Nat.le_trans hk E19.1
  have hC := hC.trans (CHr.ext E19 hH)
  have hH := hC.1
  refine own_fw (A' := (T19.setTop (mkF m 205 #[.val (.long p1), .second, .val (.int p2), .val (.int p3), .val (.int p4), .val (.int p5), .val (.int r_2), .val (.int r_4), .val (.int r_6), .val (.int r_8), .val (.int r_10), .val (.int r_12), .val (.int r_14), .val (.int r_16), .val (.int r_18), .unset, .unset, .unset, .unset] [(.ref b19)]))) (fun t k => st19 _ k) ?_
  refine own_fw (A' := (T19.setTop (mkF m 206 #[.val (.long p1), .second, .val (.int p2), .val (.int p3), .val (.int p4), .val (.int p5), .val (.int r_2), .val (.int r_4), .val (.int r_6), .val (.int r_8), .val (.int r_10), .val (.int r_12), .val (.int r_14), .val (.int r_16), .val (.int r_18), .unset, .unset, .unset, .unset] [(.ref b19), (.ref b19)]))) (fun t k => XS.dup X19.here hx rfl (hb hby at_205) rfl rfl k) ?_
  refine own_fw (A' := (T19.setTop (mkF m 207 #[.val (.long p1), .second, .val (.int p2), .val (.int p3), .val (.int p4), .val (.int p5), .val (.int r_2), .val (.int r_4), .val (.int r_6), .val (.int r_8), .val (.int r_10), .val (.int r_12), .val (.int r_14), .val (.int r_16), .val (.int r_18), .unset, .unset, .unset, .unset] [(.int (0 : Int32)), (.ref b19), (.ref b19)]))) (fun t k => XS.iconst X19.here hx rfl (hb hby at_206) k) ?_
  refine own_fw (A' := (T19.setTop (mkF m 209 #[.val (.long p1), .second, .val (.int p2), .val (.int p3), .val (.int p4), .val (.int p5), .val (.int r_2), .val (.int r_4), .val (.int r_6), .val (.int r_8), .val (.int r_10), .val (.int r_12), .val (.int r_14), .val (.int r_16), .val (.int r_18), .unset, .unset, .unset, .unset] [(.int r_2), (.int (0 : Int32)), (.ref b19), (.ref b19)]))) (fun t k => XS.iload X19.here hx rfl (hb hby at_207) rfl k) ?_
  obtain ⟨cl21, Ar21, q21, S21, M21, H21, G21⟩ := id V_b19
  have hin21 : ¬ ((0 : Int32) < 0 ∨ cl21.slots.size ≤ ((0 : Int32)).toNatClampNeg) := inb_of S21 ⟨by decide, by decide⟩
  obtain ⟨T21, h21, X21, e21, W21, st21⟩ := stB X19 hx hZ e19 Ar21 (j := (0 : Int32)) hin21 (g := (mkF m 209 #[.val (.long p1), .second, .val (.int p2), .val (.int p3), .val (.int p4), .val (.int p5), .val (.int r_2), .val (.int r_4), .val (.int r_6), .val (.int r_8), .val (.int r_10), .val (.int r_12), .val (.int r_14), .val (.int r_16), .val (.int r_18), .unset, .unset, .unset, .unset] [(.int r_2), (.int (0 : Int32)), (.ref b19), (.ref b19)])) rfl rfl (hb hby at_209)
  rw [(own_nar8 hr_2)] at W21
  have V21 : Arv Z h21 b19 k19 .byte (40 : Int32) [(.int r_2), (.int (0 : Int32)), (.int (0 : Int32)), (.int (0 : Int32)), (.int (0 : Int32)), (.int (0 : Int32)), (.int (0 : Int32)), (.int (0 : Int32)), (.int (0 : Int32)), (.int (0 : Int32)), (.int (0 : Int32)), (.int (0 : Int32)), (.int (0 : Int32)), (.int (0 : Int32)), (.int (0 : Int32)), (.int (0 : Int32)), (.int (0 : Int32)), (.int (0 : Int32)), (.int (0 : Int32)), (.int (0 : Int32)), (.int (0 : Int32)), (.int (0 : Int32)), (.int (0 : Int32)), (.int (0 : Int32)), (.int (0 : Int32)), (.int (0 : Int32)), (.int (0 : Int32)), (.int (0 : Int32)), (.int (0 : Int32)), (.int (0 : Int32)), (.int (0 : Int32)), (.int (0 : Int32)), (.int (0 : Int32)), (.int (0 : Int32)), (.int (0 : Int32)), (.int (0 : Int32)), (.int (0 : Int32)), (.int (0 : Int32)), (.int (0 : Int32)), (.int (0 : Int32))] (.int (0 : Int32)) := Arv.set Ar21 q21 S21 M21 H21 G21 (own_fit8 hr_2) W21 0 rfl (Nat.le_of_ble_eq_true rfl)
  have F22 : Safe Z own_EL _ h21 b19 := (Safe.wr W21 F20 hH F20)
  have Nf21 := Fr.snoc X21 Nf18 g_b19
  have K21 : Keep h0 h21 [] := K19.wr W21 (Or.inr sz_b19)
  have Z21 : n0 ≤ h21.size := Nat.le_trans Z19 (Keep.of_wr W21).1
  have hk := Nat.le_trans hk (Keep.of_wr W21).1
  have hC := hC.trans (CHr.wr W21 F20 hH)
  have hH := hC.1
  refine own_fw (A' := (T21.setTop (mkF m 210 #[.val (.long p1), .second, .val (.int p2), .val (.int p3), .val (.int p4), .val (.int p5), .val (.int r_2), .val (.int r_4), .val (.int r_6), .val (.int r_8), .val (.int r_10), .val (.int r_12), .val (.int r_14), .val (.int r_16), .val (.int r_18), .unset, .unset, .unset, .unset] [(.ref b19)]))) (fun t k => st21 _ k) ?_
  refine own_fw (A' := (T21.setTop (mkF m 211 #[.val (.long p1), .second, .val (.int p2), .val (.int p3), .val (.int p4), .val (.int p5), .val (.int r_2), .val (.int r_4), .val (.int r_6), .val (.int r_8), .val (.int r_10), .val (.int r_12), .val (.int r_14), .val (.int r_16), .val (.int r_18), .unset, .unset, .unset, .unset] [(.ref b19), (.ref b19)]))) (fun t k => XS.dup X21.here hx rfl (hb hby at_210) rfl rfl k) ?_
  refine own_fw (A' := (T21.setTop (mkF m 212 #[.val (.long p1), .second, .val (.int p2), .val (.int p3), .val (.int p4), .val (.int p5), .val (.int r_2), .val (.int r_4), .val (.int r_6), .val (.int r_8), .val (.int r_10), .val (.int r_12), .val (.int r_14), .val (.int r_16), .val (.int r_18), .unset, .unset, .unset, .unset] [(.int (1 : Int32)), (.ref b19), (.ref b19)]))) (fun t k => XS.iconst X21.here hx rfl (hb hby at_211) k) ?_
  refine own_fw (A' := (T21.setTop (mkF m 214 #[.val (.long p1), .second, .val (.int p2), .val (.int p3), .val (.int p4), .val (.int p5), .val (.int r_2), .val (.int r_4), .val (.int r_6), .val (.int r_8), .val (.int r_10), .val (.int r_12), .val (.int r_14), .val (.int r_16), .val (.int r_18), .unset, .unset, .unset, .unset] [(.int r_4), (.int (1 : Int32)), (.ref b19), (.ref b19)]))) (fun t k => XS.iload X21.here hx rfl (hb hby at_212) rfl k) ?_
  obtain ⟨cl23, Ar23, q23, S23, M23, H23, G23⟩ := id V21
  have hin23 : ¬ ((1 : Int32) < 0 ∨ cl23.slots.size ≤ ((1 : Int32)).toNatClampNeg) := inb_of S23 ⟨by decide, by decide⟩
  obtain ⟨T23, h23, X23, e23, W23, st23⟩ := stB X21 hx hZ e21 Ar23 (j := (1 : Int32)) hin23 (g := (mkF m 214 #[.val (.long p1), .second, .val (.int p2), .val (.int p3), .val (.int p4), .val (.int p5), .val (.int r_2), .val (.int r_4), .val (.int r_6), .val (.int r_8), .val (.int r_10), .val (.int r_12), .val (.int r_14), .val (.int r_16), .val (.int r_18), .unset, .unset, .unset, .unset] [(.int r_4), (.int (1 : Int32)), (.ref b19), (.ref b19)])) rfl rfl (hb hby at_214)
  rw [(own_nar8 hr_4)] at W23
  have V23 : Arv Z h23 b19 k19 .byte (40 : Int32) [(.int r_2), (.int r_4), (.int (0 : Int32)), (.int (0 : Int32)), (.int (0 : Int32)), (.int (0 : Int32)), (.int (0 : Int32)), (.int (0 : Int32)), (.int (0 : Int32)), (.int (0 : Int32)), (.int (0 : Int32)), (.int (0 : Int32)), (.int (0 : Int32)), (.int (0 : Int32)), (.int (0 : Int32)), (.int (0 : Int32)), (.int (0 : Int32)), (.int (0 : Int32)), (.int (0 : Int32)), (.int (0 : Int32)), (.int (0 : Int32)), (.int (0 : Int32)), (.int (0 : Int32)), (.int (0 : Int32)), (.int (0 : Int32)), (.int (0 : Int32)), (.int (0 : Int32)), (.int (0 : Int32)), (.int (0 : Int32)), (.int (0 : Int32)), (.int (0 : Int32)), (.int (0 : Int32)), (.int (0 : Int32)), (.int (0 : Int32)), (.int (0 : Int32)), (.int (0 : Int32)), (.int (0 : Int32)), (.int (0 : Int32)), (.int (0 : Int32)), (.int (0 : Int32))] (.int (0 : Int32)) := Arv.set Ar23 q23 S23 M23 H23 G23 (own_fit8 hr_4) W23 1 rfl (Nat.le_of_ble_eq_true rfl)
  have F24 : Safe Z own_EL _ h23 b19 := (Safe.wr W23 F22 hH F22)
  have Nf23 := Fr.snoc X23 Nf21 g_b19
  have K23 : Keep h0 h23 [] := K21.wr W23 (Or.inr sz_b19)
  have Z23 : n0 ≤ h23.size := Nat.le_trans Z21 (Keep.of_wr W23).1
  have hk := Nat.le_trans hk (Keep.of_wr W23).1
  have hC := hC.trans (CHr.wr W23 F22 hH)
  have hH := hC.1
  refine own_fw (A' := (T23.setTop (mkF m 215 #[.val (.long p1), .second, .val (.int p2), .val (.int p3), .val (.int p4), .val (.int p5), .val (.int r_2), .val (.int r_4), .val (.int r_6), .val (.int r_8), .val (.int r_10), .val (.int r_12), .val (.int r_14), .val (.int r_16), .val (.int r_18), .unset, .unset, .unset, .unset] [(.ref b19)]))) (fun t k => st23 _ k) ?_
  refine own_fw (A' := (T23.setTop (mkF m 216 #[.val (.long p1), .second, .val (.int p2), .val (.int p3), .val (.int p4), .val (.int p5), .val (.int r_2), .val (.int r_4), .val (.int r_6), .val (.int r_8), .val (.int r_10), .val (.int r_12), .val (.int r_14), .val (.int r_16), .val (.int r_18), .unset, .unset, .unset, .unset] [(.ref b19), (.ref b19)]))) (fun t k => XS.dup X23.here hx rfl (hb hby at_215) rfl rfl k) ?_
  refine own_fw (A' := (T23.setTop (mkF m 217 #[.val (.long p1), .second, .val (.int p2), .val (.int p3), .val (.int p4), .val (.int p5), .val (.int r_2), .val (.int r_4), .val (.int r_6), .val (.int r_8), .val (.int r_10), .val (.int r_12), .val (.int r_14), .val (.int r_16), .val (.int r_18), .unset, .unset, .unset, .unset] [(.int (2 : Int32)), (.ref b19), (.ref b19)]))) (fun t k => XS.iconst X23.here hx rfl (hb hby at_216) k) ?_
  refine own_fw (A' := (T23.setTop (mkF m 219 #[.val (.long p1), .second, .val (.int p2), .val (.int p3), .val (.int p4), .val (.int p5), .val (.int r_2), .val (.int r_4), .val (.int r_6), .val (.int r_8), .val (.int r_10), .val (.int r_12), .val (.int r_14), .val (.int r_16), .val (.int r_18), .unset, .unset, .unset, .unset] [(.int r_6), (.int (2 : Int32)), (.ref b19), (.ref b19)]))) (fun t k => XS.iload X23.here hx rfl (hb hby at_217) rfl k) ?_
  obtain ⟨cl25, Ar25, q25, S25, M25, H25, G25⟩ := id V23
  have hin25 : ¬ ((2 : Int32) < 0 ∨ cl25.slots.size ≤ ((2 : Int32)).toNatClampNeg) := inb_of S25 ⟨by decide, by decide⟩
  obtain ⟨T25, h25, X25, e25, W25, st25⟩ := stB X23 hx hZ e23 Ar25 (j := (2 : Int32)) hin25 (g := (mkF m 219 #[.val (.long p1), .second, .val (.int p2), .val (.int p3), .val (.int p4), .val (.int p5), .val (.int r_2), .val (.int r_4), .val (.int r_6), .val (.int r_8), .val (.int r_10), .val (.int r_12), .val (.int r_14), .val (.int r_16), .val (.int r_18), .unset, .unset, .unset, .unset] [(.int r_6), (.int (2 : Int32)), (.ref b19), (.ref b19)])) rfl rfl (hb hby at_219)
  rw [(own_nar8 hr_6)] at W25
  have V25 : Arv Z h25 b19 k19 .byte (40 : Int32) [(.int r_2), (.int r_4), (.int r_6), (.int (0 : Int32)), (.int (0 : Int32)), (.int (0 : Int32)), (.int (0 : Int32)), (.int (0 : Int32)), (.int (0 : Int32)), (.int (0 : Int32)), (.int (0 : Int32)), (.int (0 : Int32)), (.int (0 : Int32)), (.int (0 : Int32)), (.int (0 : Int32)), (.int (0 : Int32)), (.int (0 : Int32)), (.int (0 : Int32)), (.int (0 : Int32)), (.int (0 : Int32)), (.int (0 : Int32)), (.int (0 : Int32)), (.int (0 : Int32)), (.int (0 : Int32)), (.int (0 : Int32)), (.int (0 : Int32)), (.int (0 : Int32)), (.int (0 : Int32)), (.int (0 : Int32)), (.int (0 : Int32)), (.int (0 : Int32)), (.int (0 : Int32)), (.int (0 : Int32)), (.int (0 : Int32)), (.int (0 : Int32)), (.int (0 : Int32)), (.int (0 : Int32)), (.int (0 : Int32)), (.int (0 : Int32)), (.int (0 : Int32))] (.int (0 : Int32)) := Arv.set Ar25 q25 S25 M25 H25 G25 (own_fit8 hr_6) W25 2 rfl (Nat.le_of_ble_eq_true rfl)
  have F26 : Safe Z own_EL _ h25 b19 := (Safe.wr W25 F24 hH F24)
  have Nf25 := Fr.snoc X25 Nf23 g_b19
  have K25 : Keep h0 h25 [] := K23.wr W25 (Or.inr sz_b19)
  have Z25 : n0 ≤ h25.size := Nat.le_trans Z23 (Keep.of_wr W25).1
  have hk := Nat.le_trans hk (Keep.of_wr W25).1
  have hC := hC.trans (CHr.wr W25 F24 hH)
  have hH := hC.1
  refine own_fw (A' := (T25.setTop (mkF m 220 #[.val (.long p1), .second, .val (.int p2), .val (.int p3), .val (.int p4), .val (.int p5), .val (.int r_2), .val (.int r_4), .val (.int r_6), .val (.int r_8), .val (.int r_10), .val (.int r_12), .val (.int r_14), .val (.int r_16), .val (.int r_18), .unset, .unset, .unset, .unset] [(.ref b19)]))) (fun t k => st25 _ k) ?_
  refine own_fw (A' := (T25.setTop (mkF m 221 #[.val (.long p1), .second, .val (.int p2), .val (.int p3), .val (.int p4), .val (.int p5), .val (.int r_2), .val (.int r_4), .val (.int r_6), .val (.int r_8), .val (.int r_10), .val (.int r_12), .val (.int r_14), .val (.int r_16), .val (.int r_18), .unset, .unset, .unset, .unset] [(.ref b19), (.ref b19)]))) (fun t k => XS.dup X25.here hx rfl (hb hby at_220) rfl rfl k) ?_
  refine own_fw (A' := (T25.setTop (mkF m 222 #[.val (.long p1), .second, .val (.int p2), .val (.int p3), .val (.int p4), .val (.int p5), .val (.int r_2), .val (.int r_4), .val (.int r_6), .val (.int r_8), .val (.int r_10), .val (.int r_12), .val (.int r_14), .val (.int r_16), .val (.int r_18), .unset, .unset, .unset, .unset] [(.int (3 : Int32)), (.ref b19), (.ref b19)]))) (fun t k => XS.iconst X25.here hx rfl (hb hby at_221) k) ?_
  refine own_fw (A' := (T25.setTop (mkF m 224 #[.val (.long p1), .second, .val (.int p2), .val (.int p3), .val (.int p4), .val (.int p5), .val (.int r_2), .val (.int r_4), .val (.int r_6), .val (.int r_8), .val (.int r_10), .val (.int r_12), .val (.int r_14), .val (.int r_16), .val (.int r_18), .unset, .unset, .unset, .unset] [(.int r_8), (.int (3 : Int32)), (.ref b19), (.ref b19)]))) (fun t k => XS.iload X25.here hx rfl (hb hby at_222) rfl k) ?_
  obtain ⟨cl27, Ar27, q27, S27, M27, H27, G27⟩ := id V25
  have hin27 : ¬ ((3 : Int32) < 0 ∨ cl27.slots.size ≤ ((3 : Int32)).toNatClampNeg) := inb_of S27 ⟨by decide, by decide⟩
  obtain ⟨T27, h27, X27, e27, W27, st27⟩ := stB X25 hx hZ e25 Ar27 (j := (3 : Int32)) hin27 (g := (mkF m 224 #[.val (.long p1), .second, .val (.int p2), .val (.int p3), .val (.int p4), .val (.int p5), .val (.int r_2), .val (.int r_4), .val (.int r_6), .val (.int r_8), .val (.int r_10), .val (.int r_12), .val (.int r_14), .val (.int r_16), .val (.int r_18), .unset, .unset, .unset, .unset] [(.int r_8), (.int (3 : Int32)), (.ref b19), (.ref b19)])) rfl rfl (hb hby at_224)
  rw [(own_nar8 hr_8)] at W27
  have V27 : Arv Z h27 b19 k19 .byte (40 : Int32) [(.int r_2), (.int r_4), (.int r_6), (.int r_8), (.int (0 : Int32)), (.int (0 : Int32)), (.int (0 : Int32)), (.int (0 : Int32)), (.int (0 : Int32)), (.int (0 : Int32)), (.int (0 : Int32)), (.int (0 : Int32)), (.int (0 : Int32)), (.int (0 : Int32)), (.int (0 : Int32)), (.int (0 : Int32)), (.int (0 : Int32)), (.int (0 : Int32)), (.int (0 : Int32)), (.int (0 : Int32)), (.int (0 : Int32)), (.int (0 : Int32)), (.int (0 : Int32)), (.int (0 : Int32)), (.int (0 : Int32)), (.int (0 : Int32)), (.int (0 : Int32)), (.int (0 : Int32)), (.int (0 : Int32)), (.int (0 : Int32)), (.int (0 : Int32)), (.int (0 : Int32)), (.int (0 : Int32)), (.int (0 : Int32)), (.int (0 : Int32)), (.int (0 : Int32)), (.int (0 : Int32)), (.int (0 : Int32)), (.int (0 : Int32)), (.int (0 : Int32))] (.int (0 : Int32)) := Arv.set Ar27 q27 S27 M27 H27 G27 (own_fit8 hr_8) W27 3 rfl (Nat.le_of_ble_eq_true rfl)
  have F28 : Safe Z own_EL _ h27 b19 := (Safe.wr W27 F26 hH F26)
  have Nf27 := Fr.snoc X27 Nf25 g_b19
  have K27 : Keep h0 h27 [] := K25.wr W27 (Or.inr sz_b19)
  have Z27 : n0 ≤ h27.size := Nat.le_trans Z25 (Keep.of_wr W27).1
  have hk := Nat.le_trans hk (Keep.of_wr W27).1
  have hC := hC.trans (CHr.wr W27 F26 hH)
  have hH := hC.1
  refine own_fw (A' := (T27.setTop (mkF m 225 #[.val (.long p1), .second, .val (.int p2), .val (.int p3), .val (.int p4), .val (.int p5), .val (.int r_2), .val (.int r_4), .val (.int r_6), .val (.int r_8), .val (.int r_10), .val (.int r_12), .val (.int r_14), .val (.int r_16), .val (.int r_18), .unset, .unset, .unset, .unset] [(.ref b19)]))) (fun t k => st27 _ k) ?_
  refine own_fw (A' := (T27.setTop (mkF m 226 #[.val (.long p1), .second, .val (.int p2), .val (.int p3), .val (.int p4), .val (.int p5), .val (.int r_2), .val (.int r_4), .val (.int r_6), .val (.int r_8), .val (.int r_10), .val (.int r_12), .val (.int r_14), .val (.int r_16), .val (.int r_18), .unset, .unset, .unset, .unset] [(.ref b19), (.ref b19)]))) (fun t k => XS.dup X27.here hx rfl (hb hby at_225) rfl rfl k) ?_
  refine own_fw (A' := (T27.setTop (mkF m 227 #[.val (.long p1), .second, .val (.int p2), .val (.int p3), .val (.int p4), .val (.int p5), .val (.int r_2), .val (.int r_4), .val (.int r_6), .val (.int r_8), .val (.int r_10), .val (.int r_12), .val (.int r_14), .val (.int r_16), .val (.int r_18), .unset, .unset, .unset, .unset] [(.int (4 : Int32)), (.ref b19), (.ref b19)]))) (fun t k => XS.iconst X27.here hx rfl (hb hby at_226) k) ?_
  refine own_fw (A' := (T27.setTop (mkF m 229 #[.val (.long p1), .second, .val (.int p2), .val (.int p3), .val (.int p4), .val (.int p5), .val (.int r_2), .val (.int r_4), .val (.int r_6), .val (.int r_8), .val (.int r_10), .val (.int r_12), .val (.int r_14), .val (.int r_16), .val (.int r_18), .unset, .unset, .unset, .unset] [(.int r_10), (.int (4 : Int32)), (.ref b19), (.ref b19)]))) (fun t k => XS.iload X27.here hx rfl (hb hby at_227) rfl k) ?_
  obtain ⟨cl29, Ar29, q29, S29, M29, H29, G29⟩ := id V27
  have hin29 : ¬ ((4 : Int32) < 0 ∨ cl29.slots.size ≤ ((4 : Int32)).toNatClampNeg) := inb_of S29 ⟨by decide, by decide⟩
  obtain ⟨T29, h29, X29, e29, W29, st29⟩ := stB X27 hx hZ e27 Ar29 (j := (4 : Int32)) hin29 (g := (mkF m 229 #[.val (.long p1), .second, .val (.int p2), .val (.int p3), .val (.int p4), .val (.int p5), .val (.int r_2), .val (.int r_4), .val (.int r_6), .val (.int r_8), .val (.int r_10), .val (.int r_12), .val (.int r_14), .val (.int r_16), .val (.int r_18), .unset, .unset, .unset, .unset] [(.int r_10), (.int (4 : Int32)), (.ref b19), (.ref b19)])) rfl rfl (hb hby at_229)
  rw [(own_nar8 hr_10)] at W29
  have V29 : Arv Z h29 b19 k19 .byte (40 : Int32) [(.int r_2), (.int r_4), (.int r_6), (.int r_8), (.int r_10), (.int (0 : Int32)), (.int (0 : Int32)), (.int (0 : Int32)), (.int (0 : Int32)), (.int (0 : Int32)), (.int (0 : Int32)), (.int (0 : Int32)), (.int (0 : Int32)), (.int (0 : Int32)), (.int (0 : Int32)), (.int (0 : Int32)), (.int (0 : Int32)), (.int (0 : Int32)), (.int (0 : Int32)), (.int (0 : Int32)), (.int (0 : Int32)), (.int (0 : Int32)), (.int (0 : Int32)), (.int (0 : Int32)), (.int (0 : Int32)), (.int (0 : Int32)), (.int (0 : Int32)), (.int (0 : Int32)), (.int (0 : Int32)), (.int (0 : Int32)), (.int (0 : Int32)), (.int (0 : Int32)), (.int (0 : Int32)), (.int (0 : Int32)), (.int (0 : Int32)), (.int (0 : Int32)), (.int (0 : Int32)), (.int (0 : Int32)), (.int (0 : Int32)), (.int (0 : Int32))] (.int (0 : Int32)) := Arv.set Ar29 q29 S29 M29 H29 G29 (own_fit8 hr_10) W29 4 rfl (Nat.le_of_ble_eq_true rfl)
  have F30 : Safe Z own_EL _ h29 b19 := (Safe.wr W29 F28 hH F28)
  have Nf29 := Fr.snoc X29 Nf27 g_b19
  have K29 : Keep h0 h29 [] := K27.wr W29 (Or.inr sz_b19)
  have Z29 : n0 ≤ h29.size := Nat.le_trans Z27 (Keep.of_wr W29).1
  have hk := Nat.le_trans hk (Keep.of_wr W29).1
  have hC := hC.trans (CHr.wr W29 F28 hH)
  have hH := hC.1
  refine own_fw (A' := (T29.setTop (mkF m 230 #[.val (.long p1), .second, .val (.int p2), .val (.int p3), .val (.int p4), .val (.int p5), .val (.int r_2), .val (.int r_4), .val (.int r_6), .val (.int r_8), .val (.int r_10), .val (.int r_12), .val (.int r_14), .val (.int r_16), .val (.int r_18), .unset, .unset, .unset, .unset] [(.ref b19)]))) (fun t k => st29 _ k) ?_
  refine own_fw (A' := (T29.setTop (mkF m 231 #[.val (.long p1), .second, .val (.int p2), .val (.int p3), .val (.int p4), .val (.int p5), .val (.int r_2), .val (.int r_4), .val (.int r_6), .val (.int r_8), .val (.int r_10), .val (.int r_12), .val (.int r_14), .val (.int r_16), .val (.int r_18), .unset, .unset, .unset, .unset] [(.ref b19), (.ref b19)]))) (fun t k => XS.dup X29.here hx rfl (hb hby at_230) rfl rfl k) ?_
  refine own_fw (A' := (T29.setTop (mkF m 232 #[.val (.long p1), .second, .val (.int p2), .val (.int p3), .val (.int p4), .val (.int p5), .val (.int r_2), .val (.int r_4), .val (.int r_6), .val (.int r_8), .val (.int r_10), .val (.int r_12), .val (.int r_14), .val (.int r_16), .val (.int r_18), .unset, .unset, .unset, .unset] [(.int (5 : Int32)), (.ref b19), (.ref b19)]))) (fun t k => XS.iconst X29.here hx rfl (hb hby at_231) k) ?_
  refine own_fw (A' := (T29.setTop (mkF m 234 #[.val (.long p1), .second, .val (.int p2), .val (.int p3), .val (.int p4), .val (.int p5), .val (.int r_2), .val (.int r_4), .val (.int r_6), .val (.int r_8), .val (.int r_10), .val (.int r_12), .val (.int r_14), .val (.int r_16), .val (.int r_18), .unset, .unset, .unset, .unset] [(.int r_12), (.int (5 : Int32)), (.ref b19), (.ref b19)]))) (fun t k => XS.iload X29.here hx rfl (hb hby at_232) rfl k) ?_
  obtain ⟨cl31, Ar31, q31, S31, M31, H31, G31⟩ := id V29
  have hin31 : ¬ ((5 : Int32) < 0 ∨ cl31.slots.size ≤ ((5 : Int32)).toNatClampNeg) := inb_of S31 ⟨by decide, by decide⟩
  obtain ⟨T31, h31, X31, e31, W31, st31⟩ := stB X29 hx hZ e29 Ar31 (j := (5 : Int32)) hin31 (g := (mkF m 234 #[.val (.long p1), .second, .val (.int p2), .val (.int p3), .val (.int p4), .val (.int p5), .val (.int r_2), .val (.int r_4), .val (.int r_6), .val (.int r_8), .val (.int r_10), .val (.int r_12), .val (.int r_14), .val (.int r_16), .val (.int r_18), .unset, .unset, .unset, .unset] [(.int r_12), (.int (5 : Int32)), (.ref b19), (.ref b19)])) rfl rfl (hb hby at_234)
  rw [(own_nar8 hr_12)] at W31
  have V31 : Arv Z h31 b19 k19 .byte (40 : Int32) [(.int r_2), (.int r_4), (.int r_6), (.int r_8), (.int r_10), (.int r_12), (.int (0 : Int32)), (.int (0 : Int32)), (.int (0 : Int32)), (.int (0 : Int32)), (.int (0 : Int32)), (.int (0 : Int32)), (.int (0 : Int32)), (.int (0 : Int32)), (.int (0 : Int32)), (.int (0 : Int32)), (.int (0 : Int32)), (.int (0 : Int32)), (.int (0 : Int32)), (.int (0 : Int32)), (.int (0 : Int32)), (.int (0 : Int32)), (.int (0 : Int32)), (.int (0 : Int32)), (.int (0 : Int32)), (.int (0 : Int32)), (.int (0 : Int32)), (.int (0 : Int32)), (.int (0 : Int32)), (.int (0 : Int32)), (.int (0 : Int32)), (.int (0 : Int32)), (.int (0 : Int32)), (.int (0 : Int32)), (.int (0 : Int32)), (.int (0 : Int32)), (.int (0 : Int32)), (.int (0 : Int32)), (.int (0 : Int32)), (.int (0 : Int32))] (.int (0 : Int32)) := Arv.set Ar31 q31 S31 M31 H31 G31 (own_fit8 hr_12) W31 5 rfl (Nat.le_of_ble_eq_true rfl)
  have F32 : Safe Z own_EL _ h31 b19 := (Safe.wr W31 F30 hH F30)
  have Nf31 := Fr.snoc X31 Nf29 g_b19
  have K31 : Keep h0 h31 [] := K29.wr W31 (Or.inr sz_b19)
  have Z31 : n0 ≤ h31.size := Nat.le_trans Z29 (Keep.of_wr W31).1
  have hk := Nat.le_trans hk (Keep.of_wr W31).1
  have hC := hC.trans (CHr.wr W31 F30 hH)
  have hH := hC.1
  refine own_fw (A' := (T31.setTop (mkF m 235 #[.val (.long p1), .second, .val (.int p2), .val (.int p3), .val (.int p4), .val (.int p5), .val (.int r_2), .val (.int r_4), .val (.int r_6), .val (.int r_8), .val (.int r_10), .val (.int r_12), .val (.int r_14), .val (.int r_16), .val (.int r_18), .unset, .unset, .unset, .unset] [(.ref b19)]))) (fun t k => st31 _ k) ?_
  refine own_fw (A' := (T31.setTop (mkF m 236 #[.val (.long p1), .second, .val (.int p2), .val (.int p3), .val (.int p4), .val (.int p5), .val (.int r_2), .val (.int r_4), .val (.int r_6), .val (.int r_8), .val (.int r_10), .val (.int r_12), .val (.int r_14), .val (.int r_16), .val (.int r_18), .unset, .unset, .unset, .unset] [(.ref b19), (.ref b19)]))) (fun t k => XS.dup X31.here hx rfl (hb hby at_235) rfl rfl k) ?_
  refine own_fw (A' := (T31.setTop (mkF m 238 #[.val (.long p1), .second, .val (.int p2), .val (.int p3), .val (.int p4), .val (.int p5), .val (.int r_2), .val (.int r_4), .val (.int r_6), .val (.int r_8), .val (.int r_10), .val (.int r_12), .val (.int r_14), .val (.int r_16), .val (.int r_18), .unset, .unset, .unset, .unset] [(.int (6 : Int32)), (.ref b19), (.ref b19)]))) (fun t k => XS.bipush X31.here hx rfl (hb hby at_236) k) ?_
  refine own_fw (A' := (T31.setTop (mkF m 240 #[.val (.long p1), .second, .val (.int p2), .val (.int p3), .val (.int p4), .val (.int p5), .val (.int r_2), .val (.int r_4), .val (.int r_6), .val (.int r_8), .val (.int r_10), .val (.int r_12), .val (.int r_14), .val (.int r_16), .val (.int r_18), .unset, .unset, .unset, .unset] [(.int r_14), (.int (6 : Int32)), (.ref b19), (.ref b19)]))) (fun t k => XS.iload X31.here hx rfl (hb hby at_238) rfl k) ?_
  obtain ⟨cl33, Ar33, q33, S33, M33, H33, G33⟩ := id V31
  have hin33 : ¬ ((6 : Int32) < 0 ∨ cl33.slots.size ≤ ((6 : Int32)).toNatClampNeg) := inb_of S33 ⟨by decide, by decide⟩
  obtain ⟨T33, h33, X33, e33, W33, st33⟩ := stB X31 hx hZ e31 Ar33 (j := (6 : Int32)) hin33 (g := (mkF m 240 #[.val (.long p1), .second, .val (.int p2), .val (.int p3), .val (.int p4), .val (.int p5), .val (.int r_2), .val (.int r_4), .val (.int r_6), .val (.int r_8), .val (.int r_10), .val (.int r_12), .val (.int r_14), .val (.int r_16), .val (.int r_18), .unset, .unset, .unset, .unset] [(.int r_14), (.int (6 : Int32)), (.ref b19), (.ref b19)])) rfl rfl (hb hby at_240)
  rw [(own_nar8 hr_14)] at W33
  have V33 : Arv Z h33 b19 k19 .byte (40 : Int32) [(.int r_2), (.int r_4), (.int r_6), (.int r_8), (.int r_10), (.int r_12), (.int r_14), (.int (0 : Int32)), (.int (0 : Int32)), (.int (0 : Int32)), (.int (0 : Int32)), (.int (0 : Int32)), (.int (0 : Int32)), (.int (0 : Int32)), (.int (0 : Int32)), (.int (0 : Int32)), (.int (0 : Int32)), (.int (0 : Int32)), (.int (0 : Int32)), (.int (0 : Int32)), (.int (0 : Int32)), (.int (0 : Int32)), (.int (0 : Int32)), (.int (0 : Int32)), (.int (0 : Int32)), (.int (0 : Int32)), (.int (0 : Int32)), (.int (0 : Int32)), (.int (0 : Int32)), (.int (0 : Int32)), (.int (0 : Int32)), (.int (0 : Int32)), (.int (0 : Int32)), (.int (0 : Int32)), (.int (0 : Int32)), (.int (0 : Int32)), (.int (0 : Int32)), (.int (0 : Int32)), (.int (0 : Int32)), (.int (0 : Int32))] (.int (0 : Int32)) := Arv.set Ar33 q33 S33 M33 H33 G33 (own_fit8 hr_14) W33 6 rfl (Nat.le_of_ble_eq_true rfl)
  have F34 : Safe Z own_EL _ h33 b19 := (Safe.wr W33 F32 hH F32)
  have Nf33 := Fr.snoc X33 Nf31 g_b19
  have K33 : Keep h0 h33 [] := K31.wr W33 (Or.inr sz_b19)
  have Z33 : n0 ≤ h33.size := Nat.le_trans Z31 (Keep.of_wr W33).1
  have hk := Nat.le_trans hk (Keep.of_wr W33).1
  have hC := hC.trans (CHr.wr W33 F32 hH)
  have hH := hC.1
  refine own_fw (A' := (T33.setTop (mkF m 241 #[.val (.long p1), .second, .val (.int p2), .val (.int p3), .val (.int p4), .val (.int p5), .val (.int r_2), .val (.int r_4), .val (.int r_6), .val (.int r_8), .val (.int r_10), .val (.int r_12), .val (.int r_14), .val (.int r_16), .val (.int r_18), .unset, .unset, .unset, .unset] [(.ref b19)]))) (fun t k => st33 _ k) ?_
  refine own_fw (A' := (T33.setTop (mkF m 242 #[.val (.long p1), .second, .val (.int p2), .val (.int p3), .val (.int p4), .val (.int p5), .val (.int r_2), .val (.int r_4), .val (.int r_6), .val (.int r_8), .val (.int r_10), .val (.int r_12), .val (.int r_14), .val (.int r_16), .val (.int r_18), .unset, .unset, .unset, .unset] [(.ref b19), (.ref b19)]))) (fun t k => XS.dup X33.here hx rfl (hb hby at_241) rfl rfl k) ?_
  refine own_fw (A' := (T33.setTop (mkF m 244 #[.val (.long p1), .second, .val (.int p2), .val (.int p3), .val (.int p4), .val (.int p5), .val (.int r_2), .val (.int r_4), .val (.int r_6), .val (.int r_8), .val (.int r_10), .val (.int r_12), .val (.int r_14), .val (.int r_16), .val (.int r_18), .unset, .unset, .unset, .unset] [(.int (7 : Int32)), (.ref b19), (.ref b19)]))) (fun t k => XS.bipush X33.here hx rfl (hb hby at_242) k) ?_
  refine own_fw (A' := (T33.setTop (mkF m 246 #[.val (.long p1), .second, .val (.int p2), .val (.int p3), .val (.int p4), .val (.int p5), .val (.int r_2), .val (.int r_4), .val (.int r_6), .val (.int r_8), .val (.int r_10), .val (.int r_12), .val (.int r_14), .val (.int r_16), .val (.int r_18), .unset, .unset, .unset, .unset] [(.int r_16), (.int (7 : Int32)), (.ref b19), (.ref b19)]))) (fun t k => XS.iload X33.here hx rfl (hb hby at_244) rfl k) ?_
  obtain ⟨cl35, Ar35, q35, S35, M35, H35, G35⟩ := id V33
  have hin35 : ¬ ((7 : Int32) < 0 ∨ cl35.slots.size ≤ ((7 : Int32)).toNatClampNeg) := inb_of S35 ⟨by decide, by decide⟩
  obtain ⟨T35, h35, X35, e35, W35, st35⟩ := stB X33 hx hZ e33 Ar35 (j := (7 : Int32)) hin35 (g := (mkF m 246 #[.val (.long p1), .second, .val (.int p2), .val (.int p3), .val (.int p4), .val (.int p5), .val (.int r_2), .val (.int r_4), .val (.int r_6), .val (.int r_8), .val (.int r_10), .val (.int r_12), .val (.int r_14), .val (.int r_16), .val (.int r_18), .unset, .unset, .unset, .unset] [(.int r_16), (.int (7 : Int32)), (.ref b19), (.ref b19)])) rfl rfl (hb hby at_246)
  rw [(own_nar8 hr_16)] at W35
  have V35 : Arv Z h35 b19 k19 .byte (40 : Int32) [(.int r_2), (.int r_4), (.int r_6), (.int r_8), (.int r_10), (.int r_12), (.int r_14), (.int r_16), (.int (0 : Int32)), (.int (0 : Int32)), (.int (0 : Int32)), (.int (0 : Int32)), (.int (0 : Int32)), (.int (0 : Int32)), (.int (0 : Int32)), (.int (0 : Int32)), (.int (0 : Int32)), (.int (0 : Int32)), (.int (0 : Int32)), (.int (0 : Int32)), (.int (0 : Int32)), (.int (0 : Int32)), (.int (0 : Int32)), (.int (0 : Int32)), (.int (0 : Int32)), (.int (0 : Int32)), (.int (0 : Int32)), (.int (0 : Int32)), (.int (0 : Int32)), (.int (0 : Int32)), (.int (0 : Int32)), (.int (0 : Int32)), (.int (0 : Int32)), (.int (0 : Int32)), (.int (0 : Int32)), (.int (0 : Int32)), (.int (0 : Int32)), (.int (0 : Int32)), (.int (0 : Int32)), (.int (0 : Int32))] (.int (0 : Int32)) := Arv.set Ar35 q35 S35 M35 H35 G35 (own_fit8 hr_16) W35 7 rfl (Nat.le_of_ble_eq_true rfl)
  have F36 : Safe Z own_EL _ h35 b19 := (Safe.wr W35 F34 hH F34)
  have Nf35 := Fr.snoc X35 Nf33 g_b19
  have K35 : Keep h0 h35 [] := K33.wr W35 (Or.inr sz_b19)
  have Z35 : n0 ≤ h35.size := Nat.le_trans Z33 (Keep.of_wr W35).1
  have hk := Nat.le_trans hk (Keep.of_wr W35).1
  have hC := hC.trans (CHr.wr W35 F34 hH)
  have hH := hC.1
  refine own_fw (A' := (T35.setTop (mkF m 247 #[.val (.long p1), .second, .val (.int p2), .val (.int p3), .val (.int p4), .val (.int p5), .val (.int r_2), .val (.int r_4), .val (.int r_6), .val (.int r_8), .val (.int r_10), .val (.int r_12), .val (.int r_14), .val (.int r_16), .val (.int r_18), .unset, .unset, .unset, .unset] [(.ref b19)]))) (fun t k => st35 _ k) ?_
  refine own_fw (A' := (T35.setTop (mkF m 248 #[.val (.long p1), .second, .val (.int p2), .val (.int p3), .val (.int p4), .val (.int p5), .val (.int r_2), .val (.int r_4), .val (.int r_6), .val (.int r_8), .val (.int r_10), .val (.int r_12), .val (.int r_14), .val (.int r_16), .val (.int r_18), .unset, .unset, .unset, .unset] [(.ref b19), (.ref b19)]))) (fun t k => XS.dup X35.here hx rfl (hb hby at_247) rfl rfl k) ?_
  refine own_fw (A' := (T35.setTop (mkF m 250 #[.val (.long p1), .second, .val (.int p2), .val (.int p3), .val (.int p4), .val (.int p5), .val (.int r_2), .val (.int r_4), .val (.int r_6), .val (.int r_8), .val (.int r_10), .val (.int r_12), .val (.int r_14), .val (.int r_16), .val (.int r_18), .unset, .unset, .unset, .unset] [(.int (8 : Int32)), (.ref b19), (.ref b19)]))) (fun t k => XS.bipush X35.here hx rfl (hb hby at_248) k) ?_
  refine own_fw (A' := (T35.setTop (mkF m 252 #[.val (.long p1), .second, .val (.int p2), .val (.int p3), .val (.int p4), .val (.int p5), .val (.int r_2), .val (.int r_4), .val (.int r_6), .val (.int r_8), .val (.int r_10), .val (.int r_12), .val (.int r_14), .val (.int r_16), .val (.int r_18), .unset, .unset, .unset, .unset] [(.int r_18), (.int (8 : Int32)), (.ref b19), (.ref b19)]))) (fun t k => XS.iload X35.here hx rfl (hb hby at_250) rfl k) ?_
  obtain ⟨cl37, Ar37, q37, S37, M37, H37, G37⟩ := id V35
  have hin37 : ¬ ((8 : Int32) < 0 ∨ cl37.slots.size ≤ ((8 : Int32)).toNatClampNeg) := inb_of S37 ⟨by decide, by decide⟩
  obtain ⟨T37, h37, X37, e37, W37, st37⟩ := stB X35 hx hZ e35 Ar37 (j := (8 : Int32)) hin37 (g := (mkF m 252 #[.val (.long p1), .second, .val (.int p2), .val (.int p3), .val (.int p4), .val (.int p5), .val (.int r_2), .val (.int r_4), .val (.int r_6), .val (.int r_8), .val (.int r_10), .val (.int r_12), .val (.int r_14), .val (.int r_16), .val (.int r_18), .unset, .unset, .unset, .unset] [(.int r_18), (.int (8 : Int32)), (.ref b19), (.ref b19)])) rfl rfl (hb hby at_252)
  rw [(own_nar8 hr_18)] at W37
  have V37 : Arv Z h37 b19 k19 .byte (40 : Int32) [(.int r_2), (.int r_4), (.int r_6), (.int r_8), (.int r_10), (.int r_12), (.int r_14), (.int r_16), (.int r_18), (.int (0 : Int32)), (.int (0 : Int32)), (.int (0 : Int32)), (.int (0 : Int32)), (.int (0 : Int32)), (.int (0 : Int32)), (.int (0 : Int32)), (.int (0 : Int32)), (.int (0 : Int32)), (.int (0 : Int32)), (.int (0 : Int32)), (.int (0 : Int32)), (.int (0 : Int32)), (.int (0 : Int32)), (.int (0 : Int32)), (.int (0 : Int32)), (.int (0 : Int32)), (.int (0 : Int32)), (.int (0 : Int32)), (.int (0 : Int32)), (.int (0 : Int32)), (.int (0 : Int32)), (.int (0 : Int32)), (.int (0 : Int32)), (.int (0 : Int32)), (.int (0 : Int32)), (.int (0 : Int32)), (.int (0 : Int32)), (.int (0 : Int32)), (.int (0 : Int32)), (.int (0 : Int32))] (.int (0 : Int32)) := Arv.set Ar37 q37 S37 M37 H37 G37 (own_fit8 hr_18) W37 8 rfl (Nat.le_of_ble_eq_true rfl)
  have F38 : Safe Z own_EL _ h37 b19 := (Safe.wr W37 F36 hH F36)
  have Nf37 := Fr.snoc X37 Nf35 g_b19
  have K37 : Keep h0 h37 [] := K35.wr W37 (Or.inr sz_b19)
  have Z37 : n0 ≤ h37.size := Nat.le_trans Z35 (Keep.of_wr W37).1
  have hk := Nat.le_trans hk (Keep.of_wr W37).1
  have hC := hC.trans (CHr.wr W37 F36 hH)
  have hH := hC.1
  refine own_fw (A' := (T37.setTop (mkF m 253 #[.val (.long p1), .second, .val (.int p2), .val (.int p3), .val (.int p4), .val (.int p5), .val (.int r_2), .val (.int r_4), .val (.int r_6), .val (.int r_8), .val (.int r_10), .val (.int r_12), .val (.int r_14), .val (.int r_16), .val (.int r_18), .unset, .unset, .unset, .unset] [(.ref b19)]))) (fun t k => st37 _ k) ?_
  refine own_fw (A' := (T37.setTop (mkF m 254 #[.val (.long p1), .second, .val (.int p2), .val (.int p3), .val (.int p4), .val (.int p5), .val (.int r_2), .val (.int r_4), .val (.int r_6), .val (.int r_8), .val (.int r_10), .val (.int r_12), .val (.int r_14), .val (.int r_16), .val (.int r_18), .unset, .unset, .unset, .unset] [(.ref b19), (.ref b19)]))) (fun t k => XS.dup X37.here hx rfl (hb hby at_253) rfl rfl k) ?_
  refine own_fw (A' := (T37.setTop (mkF m 256 #[.val (.long p1), .second, .val (.int p2), .val (.int p3), .val (.int p4), .val (.int p5), .val (.int r_2), .val (.int r_4), .val (.int r_6), .val (.int r_8), .val (.int r_10), .val (.int r_12), .val (.int r_14), .val (.int r_16), .val (.int r_18), .unset, .unset, .unset, .unset] [(.int (9 : Int32)), (.ref b19), (.ref b19)]))) (fun t k => XS.bipush X37.here hx rfl (hb hby at_254) k) ?_
  refine own_fw (A' := (T37.setTop (mkF m 258 #[.val (.long p1), .second, .val (.int p2), .val (.int p3), .val (.int p4), .val (.int p5), .val (.int r_2), .val (.int r_4), .val (.int r_6), .val (.int r_8), .val (.int r_10), .val (.int r_12), .val (.int r_14), .val (.int r_16), .val (.int r_18), .unset, .unset, .unset, .unset] [(.int r_18), (.int (9 : Int32)), (.ref b19), (.ref b19)]))) (fun t k => XS.iload X37.here hx rfl (hb hby at_256) rfl k) ?_
  obtain ⟨cl39, Ar39, q39, S39, M39, H39, G39⟩ := id V37
  have hin39 : ¬ ((9 : Int32) < 0 ∨ cl39.slots.size ≤ ((9 : Int32)).toNatClampNeg) := inb_of S39 ⟨by decide, by decide⟩
  obtain ⟨T39, h39, X39, e39, W39, st39⟩ := stB X37 hx hZ e37 Ar39 (j := (9 : Int32)) hin39 (g := (mkF m 258 #[.val (.long p1), .second, .val (.int p2), .val (.int p3), .val (.int p4), .val (.int p5), .val (.int r_2), .val (.int r_4), .val (.int r_6), .val (.int r_8), .val (.int r_10), .val (.int r_12), .val (.int r_14), .val (.int r_16), .val (.int r_18), .unset, .unset, .unset, .unset] [(.int r_18), (.int (9 : Int32)), (.ref b19), (.ref b19)])) rfl rfl (hb hby at_258)
  rw [(own_nar8 hr_18)] at W39
  have V39 : Arv Z h39 b19 k19 .byte (40 : Int32) [(.int r_2), (.int r_4), (.int r_6), (.int r_8), (.int r_10), (.int r_12), (.int r_14), (.int r_16), (.int r_18), (.int r_18), (.int (0 : Int32)), (.int (0 : Int32)), (.int (0 : Int32)), (.int (0 : Int32)), (.int (0 : Int32)), (.int (0 : Int32)), (.int (0 : Int32)), (.int (0 : Int32)), (.int (0 : Int32)), (.int (0 : Int32)), (.int (0 : Int32)), (.int (0 : Int32)), (.int (0 : Int32)), (.int (0 : Int32)), (.int (0 : Int32)), (.int (0 : Int32)), (.int (0 : Int32)), (.int (0 : Int32)), (.int (0 : Int32)), (.int (0 : Int32)), (.int (0 : Int32)), (.int (0 : Int32)), (.int (0 : Int32)), (.int (0 : Int32)), (.int (0 : Int32)), (.int (0 : Int32)), (.int (0 : Int32)), (.int (0 : Int32)), (.int (0 : Int32)), (.int (0 : Int32))] (.int (0 : Int32)) := Arv.set Ar39 q39 S39 M39 H39 G39 (own_fit8 hr_18) W39 9 rfl (Nat.le_of_ble_eq_true rfl)
  have F40 : Safe Z own_EL _ h39 b19 := (Safe.wr W39 F38 hH F38)
  have Nf39 := Fr.snoc X39 Nf37 g_b19
  have K39 : Keep h0 h39 [] := K37.wr W39 (Or.inr sz_b19)
  have Z39 : n0 ≤ h39.size := Nat.le_trans Z37 (Keep.of_wr W39).1
  have hk := Nat.le_trans hk (Keep.of_wr W39).1
  have hC := hC.trans (CHr.wr W39 F38 hH)
  have hH := hC.1
  refine own_fw (A' := (T39.setTop (mkF m 259 #[.val (.long p1), .second, .val (.int p2), .val (.int p3), .val (.int p4), .val (.int p5), .val (.int r_2), .val (.int r_4), .val (.int r_6), .val (.int r_8), .val (.int r_10), .val (.int r_12), .val (.int r_14), .val (.int r_16), .val (.int r_18), .unset, .unset, .unset, .unset] [(.ref b19)]))) (fun t k => st39 _ k) ?_
  refine own_fw (A' := (T39.setTop (mkF m 260 #[.val (.long p1), .second, .val (.int p2), .val (.int p3), .val (.int p4), .val (.int p5), .val (.int r_2), .val (.int r_4), .val (.int r_6), .val (.int r_8), .val (.int r_10), .val (.int r_12), .val (.int r_14), .val (.int r_16), .val (.int r_18), .unset, .unset, .unset, .unset] [(.ref b19), (.ref b19)]))) (fun t k => XS.dup X39.here hx rfl (hb hby at_259) rfl rfl k) ?_
  refine own_fw (A' := (T39.setTop (mkF m 262 #[.val (.long p1), .second, .val (.int p2), .val (.int p3), .val (.int p4), .val (.int p5), .val (.int r_2), .val (.int r_4), .val (.int r_6), .val (.int r_8), .val (.int r_10), .val (.int r_12), .val (.int r_14), .val (.int r_16), .val (.int r_18), .unset, .unset, .unset, .unset] [(.int (10 : Int32)), (.ref b19), (.ref b19)]))) (fun t k => XS.bipush X39.here hx rfl (hb hby at_260) k) ?_
  refine own_fw (A' := (T39.setTop (mkF m 264 #[.val (.long p1), .second, .val (.int p2), .val (.int p3), .val (.int p4), .val (.int p5), .val (.int r_2), .val (.int r_4), .val (.int r_6), .val (.int r_8), .val (.int r_10), .val (.int r_12), .val (.int r_14), .val (.int r_16), .val (.int r_18), .unset, .unset, .unset, .unset] [(.int r_18), (.int (10 : Int32)), (.ref b19), (.ref b19)]))) (fun t k => XS.iload X39.here hx rfl (hb hby at_262) rfl k) ?_
  obtain ⟨cl41, Ar41, q41, S41, M41, H41, G41⟩ := id V39
  have hin41 : ¬ ((10 : Int32) < 0 ∨ cl41.slots.size ≤ ((10 : Int32)).toNatClampNeg) := inb_of S41 ⟨by decide, by decide⟩
  obtain ⟨T41, h41, X41, e41, W41, st41⟩ := stB X39 hx hZ e39 Ar41 (j := (10 : Int32)) hin41 (g := (mkF m 264 #[.val (.long p1), .second, .val (.int p2), .val (.int p3), .val (.int p4), .val (.int p5), .val (.int r_2), .val (.int r_4), .val (.int r_6), .val (.int r_8), .val (.int r_10), .val (.int r_12), .val (.int r_14), .val (.int r_16), .val (.int r_18), .unset, .unset, .unset, .unset] [(.int r_18), (.int (10 : Int32)), (.ref b19), (.ref b19)])) rfl rfl (hb hby at_264)
  rw [(own_nar8 hr_18)] at W41
  have V41 : Arv Z h41 b19 k19 .byte (40 : Int32) [(.int r_2), (.int r_4), (.int r_6), (.int r_8), (.int r_10), (.int r_12), (.int r_14), (.int r_16), (.int r_18), (.int r_18), (.int r_18), (.int (0 : Int32)), (.int (0 : Int32)), (.int (0 : Int32)), (.int (0 : Int32)), (.int (0 : Int32)), (.int (0 : Int32)), (.int (0 : Int32)), (.int (0 : Int32)), (.int (0 : Int32)), (.int (0 : Int32)), (.int (0 : Int32)), (.int (0 : Int32)), (.int (0 : Int32)), (.int (0 : Int32)), (.int (0 : Int32)), (.int (0 : Int32)), (.int (0 : Int32)), (.int (0 : Int32)), (.int (0 : Int32)), (.int (0 : Int32)), (.int (0 : Int32)), (.int (0 : Int32)), (.int (0 : Int32)), (.int (0 : Int32)), (.int (0 : Int32)), (.int (0 : Int32)), (.int (0 : Int32)), (.int (0 : Int32)), (.int (0 : Int32))] (.int (0 : Int32)) := Arv.set Ar41 q41 S41 M41 H41 G41 (own_fit8 hr_18) W41 10 rfl (Nat.le_of_ble_eq_true rfl)
  have F42 : Safe Z own_EL _ h41 b19 := (Safe.wr W41 F40 hH F40)
  have Nf41 := Fr.snoc X41 Nf39 g_b19
  have K41 : Keep h0 h41 [] := K39.wr W41 (Or.inr sz_b19)
  have Z41 : n0 ≤ h41.size := Nat.le_trans Z39 (Keep.of_wr W41).1
  have hk := Nat.le_trans hk (Keep.of_wr W41).1
  have hC := hC.trans (CHr.wr W41 F40 hH)
  have hH := hC.1
  refine own_fw (A' := (T41.setTop (mkF m 265 #[.val (.long p1), .second, .val (.int p2), .val (.int p3), .val (.int p4), .val (.int p5), .val (.int r_2), .val (.int r_4), .val (.int r_6), .val (.int r_8), .val (.int r_10), .val (.int r_12), .val (.int r_14), .val (.int r_16), .val (.int r_18), .unset, .unset, .unset, .unset] [(.ref b19)]))) (fun t k => st41 _ k) ?_
  refine own_fw (A' := (T41.setTop (mkF m 266 #[.val (.long p1), .second, .val (.int p2), .val (.int p3), .val (.int p4), .val (.int p5), .val (.int r_2), .val (.int r_4), .val (.int r_6), .val (.int r_8), .val (.int r_10), .val (.int r_12), .val (.int r_14), .val (.int r_16), .val (.int r_18), .unset, .unset, .unset, .unset] [(.ref b19), (.ref b19)]))) (fun t k => XS.dup X41.here hx rfl (hb hby at_265) rfl rfl k) ?_
  refine own_fw (A' := (T41.setTop (mkF m 268 #[.val (.long p1), .second, .val (.int p2), .val (.int p3), .val (.int p4), .val (.int p5), .val (.int r_2), .val (.int r_4), .val (.int r_6), .val (.int r_8), .val (.int r_10), .val (.int r_12), .val (.int r_14), .val (.int r_16), .val (.int r_18), .unset, .unset, .unset, .unset] [(.int (11 : Int32)), (.ref b19), (.ref b19)]))) (fun t k => XS.bipush X41.here hx rfl (hb hby at_266) k) ?_
  refine own_fw (A' := (T41.setTop (mkF m 270 #[.val (.long p1), .second, .val (.int p2), .val (.int p3), .val (.int p4), .val (.int p5), .val (.int r_2), .val (.int r_4), .val (.int r_6), .val (.int r_8), .val (.int r_10), .val (.int r_12), .val (.int r_14), .val (.int r_16), .val (.int r_18), .unset, .unset, .unset, .unset] [(.int r_18), (.int (11 : Int32)), (.ref b19), (.ref b19)]))) (fun t k => XS.iload X41.here hx rfl (hb hby at_268) rfl k) ?_
  obtain ⟨cl43, Ar43, q43, S43, M43, H43, G43⟩ := id V41
  have hin43 : ¬ ((11 : Int32) < 0 ∨ cl43.slots.size ≤ ((11 : Int32)).toNatClampNeg) := inb_of S43 ⟨by decide, by decide⟩
  obtain ⟨T43, h43, X43, e43, W43, st43⟩ := stB X41 hx hZ e41 Ar43 (j := (11 : Int32)) hin43 (g := (mkF m 270 #[.val (.long p1), .second, .val (.int p2), .val (.int p3), .val (.int p4), .val (.int p5), .val (.int r_2), .val (.int r_4), .val (.int r_6), .val (.int r_8), .val (.int r_10), .val (.int r_12), .val (.int r_14), .val (.int r_16), .val (.int r_18), .unset, .unset, .unset, .unset] [(.int r_18), (.int (11 : Int32)), (.ref b19), (.ref b19)])) rfl rfl (hb hby at_270)
  rw [(own_nar8 hr_18)] at W43
  have V43 : Arv Z h43 b19 k19 .byte (40 : Int32) [(.int r_2), (.int r_4), (.int r_6), (.int r_8), (.int r_10), (.int r_12), (.int r_14), (.int r_16), (.int r_18), (.int r_18), (.int r_18), (.int r_18), (.int (0 : Int32)), (.int (0 : Int32)), (.int (0 : Int32)), (.int (0 : Int32)), (.int (0 : Int32)), (.int (0 : Int32)), (.int (0 : Int32)), (.int (0 : Int32)), (.int (0 : Int32)), (.int (0 : Int32)), (.int (0 : Int32)), (.int (0 : Int32)), (.int (0 : Int32)), (.int (0 : Int32)), (.int (0 : Int32)), (.int (0 : Int32)), (.int (0 : Int32)), (.int (0 : Int32)), (.int (0 : Int32)), (.int (0 : Int32)), (.int (0 : Int32)), (.int (0 : Int32)), (.int (0 : Int32)), (.int (0 : Int32)), (.int (0 : Int32)), (.int (0 : Int32)), (.int (0 : Int32)), (.int (0 : Int32))] (.int (0 : Int32)) := Arv.set Ar43 q43 S43 M43 H43 G43 (own_fit8 hr_18) W43 11 rfl (Nat.le_of_ble_eq_true rfl)
  have F44 : Safe Z own_EL _ h43 b19 := (Safe.wr W43 F42 hH F42)
  have Nf43 := Fr.snoc X43 Nf41 g_b19
  have K43 : Keep h0 h43 [] := K41.wr W43 (Or.inr sz_b19)
  have Z43 : n0 ≤ h43.size := Nat.le_trans Z41 (Keep.of_wr W43).1
  have hk := Nat.le_trans hk (Keep.of_wr W43).1
  have hC := hC.trans (CHr.wr W43 F42 hH)
  have hH := hC.1
  refine own_fw (A' := (T43.setTop (mkF m 271 #[.val (.long p1), .second, .val (.int p2), .val (.int p3), .val (.int p4), .val (.int p5), .val (.int r_2), .val (.int r_4), .val (.int r_6), .val (.int r_8), .val (.int r_10), .val (.int r_12), .val (.int r_14), .val (.int r_16), .val (.int r_18), .unset, .unset, .unset, .unset] [(.ref b19)]))) (fun t k => st43 _ k) ?_
  refine own_fw (A' := (T43.setTop (mkF m 272 #[.val (.long p1), .second, .val (.int p2), .val (.int p3), .val (.int p4), .val (.int p5), .val (.int r_2), .val (.int r_4), .val (.int r_6), .val (.int r_8), .val (.int r_10), .val (.int r_12), .val (.int r_14), .val (.int r_16), .val (.int r_18), .unset, .unset, .unset, .unset] [(.ref b19), (.ref b19)]))) (fun t k => XS.dup X43.here hx rfl (hb hby at_271) rfl rfl k) ?_
  refine own_fw (A' := (T43.setTop (mkF m 274 #[.val (.long p1), .second, .val (.int p2), .val (.int p3), .val (.int p4), .val (.int p5), .val (.int r_2), .val (.int r_4), .val (.int r_6), .val (.int r_8), .val (.int r_10), .val (.int r_12), .val (.int r_14), .val (.int r_16), .val (.int r_18), .unset, .unset, .unset, .unset] [(.int (12 : Int32)), (.ref b19), (.ref b19)]))) (fun t k => XS.bipush X43.here hx rfl (hb hby at_272) k) ?_
  refine own_fw (A' := (T43.setTop (mkF m 276 #[.val (.long p1), .second, .val (.int p2), .val (.int p3), .val (.int p4), .val (.int p5), .val (.int r_2), .val (.int r_4), .val (.int r_6), .val (.int r_8), .val (.int r_10), .val (.int r_12), .val (.int r_14), .val (.int r_16), .val (.int r_18), .unset, .unset, .unset, .unset] [(.int r_18), (.int (12 : Int32)), (.ref b19), (.ref b19)]))) (fun t k => XS.iload X43.here hx rfl (hb hby at_274) rfl k) ?_
  obtain ⟨cl45, Ar45, q45, S45, M45, H45, G45⟩ := id V43
  have hin45 : ¬ ((12 : Int32) < 0 ∨ cl45.slots.size ≤ ((12 : Int32)).toNatClampNeg) := inb_of S45 ⟨by decide, by decide⟩
  obtain ⟨T45, h45, X45, e45, W45, st45⟩ := stB X43 hx hZ e43 Ar45 (j := (12 : Int32)) hin45 (g := (mkF m 276 #[.val (.long p1), .second, .val (.int p2), .val (.int p3), .val (.int p4), .val (.int p5), .val (.int r_2), .val (.int r_4), .val (.int r_6), .val (.int r_8), .val (.int r_10), .val (.int r_12), .val (.int r_14), .val (.int r_16), .val (.int r_18), .unset, .unset, .unset, .unset] [(.int r_18), (.int (12 : Int32)), (.ref b19), (.ref b19)])) rfl rfl (hb hby at_276)
  rw [(own_nar8 hr_18)] at W45
  have V45 : Arv Z h45 b19 k19 .byte (40 : Int32) [(.int r_2), (.int r_4), (.int r_6), (.int r_8), (.int r_10), (.int r_12), (.int r_14), (.int r_16), (.int r_18), (.int r_18), (.int r_18), (.int r_18), (.int r_18), (.int (0 : Int32)), (.int (0 : Int32)), (.int (0 : Int32)), (.int (0 : Int32)), (.int (0 : Int32)), (.int (0 : Int32)), (.int (0 : Int32)), (.int (0 : Int32)), (.int (0 : Int32)), (.int (0 : Int32)), (.int (0 : Int32)), (.int (0 : Int32)), (.int (0 : Int32)), (.int (0 : Int32)), (.int (0 : Int32)), (.int (0 : Int32)), (.int (0 : Int32)), (.int (0 : Int32)), (.int (0 : Int32)), (.int (0 : Int32)), (.int (0 : Int32)), (.int (0 : Int32)), (.int (0 : Int32)), (.int (0 : Int32)), (.int (0 : Int32)), (.int (0 : Int32)), (.int (0 : Int32))] (.int (0 : Int32)) := Arv.set Ar45 q45 S45 M45 H45 G45 (own_fit8 hr_18) W45 12 rfl (Nat.le_of_ble_eq_true rfl)
  have F46 : Safe Z own_EL _ h45 b19 := (Safe.wr W45 F44 hH F44)
  have Nf45 := Fr.snoc X45 Nf43 g_b19
  have K45 : Keep h0 h45 [] := K43.wr W45 (Or.inr sz_b19)
  have Z45 : n0 ≤ h45.size := Nat.le_trans Z43 (Keep.of_wr W45).1
  have hk := Nat.le_trans hk (Keep.of_wr W45).1
  have hC := hC.trans (CHr.wr W45 F44 hH)
  have hH := hC.1
  refine own_fw (A' := (T45.setTop (mkF m 277 #[.val (.long p1), .second, .val (.int p2), .val (.int p3), .val (.int p4), .val (.int p5), .val (.int r_2), .val (.int r_4), .val (.int r_6), .val (.int r_8), .val (.int r_10), .val (.int r_12), .val (.int r_14), .val (.int r_16), .val (.int r_18), .unset, .unset, .unset, .unset] [(.ref b19)]))) (fun t k => st45 _ k) ?_
  refine own_fw (A' := (T45.setTop (mkF m 278 #[.val (.long p1), .second, .val (.int p2), .val (.int p3), .val (.int p4), .val (.int p5), .val (.int r_2), .val (.int r_4), .val (.int r_6), .val (.int r_8), .val (.int r_10), .val (.int r_12), .val (.int r_14), .val (.int r_16), .val (.int r_18), .unset, .unset, .unset, .unset] [(.ref b19), (.ref b19)]))) (fun t k => XS.dup X45.here hx rfl (hb hby at_277) rfl rfl k) ?_
  refine own_fw (A' := (T45.setTop (mkF m 280 #[.val (.long p1), .second, .val (.int p2), .val (.int p3), .val (.int p4), .val (.int p5), .val (.int r_2), .val (.int r_4), .val (.int r_6), .val (.int r_8), .val (.int r_10), .val (.int r_12), .val (.int r_14), .val (.int r_16), .val (.int r_18), .unset, .unset, .unset, .unset] [(.int (13 : Int32)), (.ref b19), (.ref b19)]))) (fun t k => XS.bipush X45.here hx rfl (hb hby at_278) k) ?_
  refine own_fw (A' := (T45.setTop (mkF m 282 #[.val (.long p1), .second, .val (.int p2), .val (.int p3), .val (.int p4), .val (.int p5), .val (.int r_2), .val (.int r_4), .val (.int r_6), .val (.int r_8), .val (.int r_10), .val (.int r_12), .val (.int r_14), .val (.int r_16), .val (.int r_18), .unset, .unset, .unset, .unset] [(.int r_18), (.int (13 : Int32)), (.ref b19), (.ref b19)]))) (fun t k => XS.iload X45.here hx rfl (hb hby at_280) rfl k) ?_
  obtain ⟨cl47, Ar47, q47, S47, M47, H47, G47⟩ := id V45
  have hin47 : ¬ ((13 : Int32) < 0 ∨ cl47.slots.size ≤ ((13 : Int32)).toNatClampNeg) := inb_of S47 ⟨by decide, by decide⟩
  obtain ⟨T47, h47, X47, e47, W47, st47⟩ := stB X45 hx hZ e45 Ar47 (j := (13 : Int32)) hin47 (g := (mkF m 282 #[.val (.long p1), .second, .val (.int p2), .val (.int p3), .val (.int p4), .val (.int p5), .val (.int r_2), .val (.int r_4), .val (.int r_6), .val (.int r_8), .val (.int r_10), .val (.int r_12), .val (.int r_14), .val (.int r_16), .val (.int r_18), .unset, .unset, .unset, .unset] [(.int r_18), (.int (13 : Int32)), (.ref b19), (.ref b19)])) rfl rfl (hb hby at_282)
  rw [(own_nar8 hr_18)] at W47
  have V47 : Arv Z h47 b19 k19 .byte (40 : Int32) [(.int r_2), (.int r_4), (.int r_6), (.int r_8), (.int r_10), (.int r_12), (.int r_14), (.int r_16), (.int r_18), (.int r_18), (.int r_18), (.int r_18), (.int r_18), (.int r_18), (.int (0 : Int32)), (.int (0 : Int32)), (.int (0 : Int32)), (.int (0 : Int32)), (.int (0 : Int32)), (.int (0 : Int32)), (.int (0 : Int32)), (.int (0 : Int32)), (.int (0 : Int32)), (.int (0 : Int32)), (.int (0 : Int32)), (.int (0 : Int32)), (.int (0 : Int32)), (.int (0 : Int32)), (.int (0 : Int32)), (.int (0 : Int32)), (.int (0 : Int32)), (.int (0 : Int32)), (.int (0 : Int32)), (.int (0 : Int32)), (.int (0 : Int32)), (.int (0 : Int32)), (.int (0 : Int32)), (.int (0 : Int32)), (.int (0 : Int32)), (.int (0 : Int32))] (.int (0 : Int32)) := Arv.set Ar47 q47 S47 M47 H47 G47 (own_fit8 hr_18) W47 13 rfl (Nat.le_of_ble_eq_true rfl)
  have F48 : Safe Z own_EL _ h47 b19 := (Safe.wr W47 F46 hH F46)
  have Nf47 := Fr.snoc X47 Nf45 g_b19
  have K47 : Keep h0 h47 [] := K45.wr W47 (Or.inr sz_b19)
  have Z47 : n0 ≤ h47.size := Nat.le_trans Z45 (Keep.of_wr W47).1
  have hk := Nat.le_trans hk (Keep.of_wr W47).1
  have hC := hC.trans (CHr.wr W47 F46 hH)
  have hH := hC.1
  refine own_fw (A' := (T47.setTop (mkF m 283 #[.val (.long p1), .second, .val (.int p2), .val (.int p3), .val (.int p4), .val (.int p5), .val (.int r_2), .val (.int r_4), .val (.int r_6), .val (.int r_8), .val (.int r_10), .val (.int r_12), .val (.int r_14), .val (.int r_16), .val (.int r_18), .unset, .unset, .unset, .unset] [(.ref b19)]))) (fun t k => st47 _ k) ?_
  refine own_fw (A' := (T47.setTop (mkF m 284 #[.val (.long p1), .second, .val (.int p2), .val (.int p3), .val (.int p4), .val (.int p5), .val (.int r_2), .val (.int r_4), .val (.int r_6), .val (.int r_8), .val (.int r_10), .val (.int r_12), .val (.int r_14), .val (.int r_16), .val (.int r_18), .unset, .unset, .unset, .unset] [(.ref b19), (.ref b19)]))) (fun t k => XS.dup X47.here hx rfl (hb hby at_283) rfl rfl k) ?_
  refine own_fw (A' := (T47.setTop (mkF m 286 #[.val (.long p1), .second, .val (.int p2), .val (.int p3), .val (.int p4), .val (.int p5), .val (.int r_2), .val (.int r_4), .val (.int r_6), .val (.int r_8), .val (.int r_10), .val (.int r_12), .val (.int r_14), .val (.int r_16), .val (.int r_18), .unset, .unset, .unset, .unset] [(.int (14 : Int32)), (.ref b19), (.ref b19)]))) (fun t k => XS.bipush X47.here hx rfl (hb hby at_284) k) ?_
  refine own_fw (A' := (T47.setTop (mkF m 288 #[.val (.long p1), .second, .val (.int p2), .val (.int p3), .val (.int p4), .val (.int p5), .val (.int r_2), .val (.int r_4), .val (.int r_6), .val (.int r_8), .val (.int r_10), .val (.int r_12), .val (.int r_14), .val (.int r_16), .val (.int r_18), .unset, .unset, .unset, .unset] [(.int r_18), (.int (14 : Int32)), (.ref b19), (.ref b19)]))) (fun t k => XS.iload X47.here hx rfl (hb hby at_286) rfl k) ?_
  obtain ⟨cl49, Ar49, q49, S49, M49, H49, G49⟩ := id V47
  have hin49 : ¬ ((14 : Int32) < 0 ∨ cl49.slots.size ≤ ((14 : Int32)).toNatClampNeg) := inb_of S49 ⟨by decide, by decide⟩
  obtain ⟨T49, h49, X49, e49, W49, st49⟩ := stB X47 hx hZ e47 Ar49 (j := (14 : Int32)) hin49 (g := (mkF m 288 #[.val (.long p1), .second, .val (.int p2), .val (.int p3), .val (.int p4), .val (.int p5), .val (.int r_2), .val (.int r_4), .val (.int r_6), .val (.int r_8), .val (.int r_10), .val (.int r_12), .val (.int r_14), .val (.int r_16), .val (.int r_18), .unset, .unset, .unset, .unset] [(.int r_18), (.int (14 : Int32)), (.ref b19), (.ref b19)])) rfl rfl (hb hby at_288)
  rw [(own_nar8 hr_18)] at W49
  have V49 : Arv Z h49 b19 k19 .byte (40 : Int32) [(.int r_2), (.int r_4), (.int r_6), (.int r_8), (.int r_10), (.int r_12), (.int r_14), (.int r_16), (.int r_18), (.int r_18), (.int r_18), (.int r_18), (.int r_18), (.int r_18), (.int r_18), (.int (0 : Int32)), (.int (0 : Int32)), (.int (0 : Int32)), (.int (0 : Int32)), (.int (0 : Int32)), (.int (0 : Int32)), (.int (0 : Int32)), (.int (0 : Int32)), (.int (0 : Int32)), (.int (0 : Int32)), (.int (0 : Int32)), (.int (0 : Int32)), (.int (0 : Int32)), (.int (0 : Int32)), (.int (0 : Int32)), (.int (0 : Int32)), (.int (0 : Int32)), (.int (0 : Int32)), (.int (0 : Int32)), (.int (0 : Int32)), (.int (0 : Int32)), (.int (0 : Int32)), (.int (0 : Int32)), (.int (0 : Int32)), (.int (0 : Int32))] (.int (0 : Int32)) := Arv.set Ar49 q49 S49 M49 H49 G49 (own_fit8 hr_18) W49 14 rfl (Nat.le_of_ble_eq_true rfl)
  have F50 : Safe Z own_EL _ h49 b19 := (Safe.wr W49 F48 hH F48)
  have Nf49 := Fr.snoc X49 Nf47 g_b19
  have K49 : Keep h0 h49 [] := K47.wr W49 (Or.inr sz_b19)
  have Z49 : n0 ≤ h49.size := Nat.le_trans Z47 (Keep.of_wr W49).1
  have hk := Nat.le_trans hk (Keep.of_wr W49).1
  have hC := hC.trans (CHr.wr W49 F48 hH)
  have hH := hC.1
  refine own_fw (A' := (T49.setTop (mkF m 289 #[.val (.long p1), .second, .val (.int p2), .val (.int p3), .val (.int p4), .val (.int p5), .val (.int r_2), .val (.int r_4), .val (.int r_6), .val (.int r_8), .val (.int r_10), .val (.int r_12), .val (.int r_14), .val (.int r_16), .val (.int r_18), .unset, .unset, .unset, .unset] [(.ref b19)]))) (fun t k => st49 _ k) ?_
  refine own_fw (A' := (T49.setTop (mkF m 290 #[.val (.long p1), .second, .val (.int p2), .val (.int p3), .val (.int p4), .val (.int p5), .val (.int r_2), .val (.int r_4), .val (.int r_6), .val (.int r_8), .val (.int r_10), .val (.int r_12), .val (.int r_14), .val (.int r_16), .val (.int r_18), .unset, .unset, .unset, .unset] [(.ref b19), (.ref b19)]))) (fun t k => XS.dup X49.here hx rfl (hb hby at_289) rfl rfl k) ?_
  refine own_fw (A' := (T49.setTop (mkF m 292 #[.val (.long p1), .second, .val (.int p2), .val (.int p3), .val (.int p4), .val (.int p5), .val (.int r_2), .val (.int r_4), .val (.int r_6), .val (.int r_8), .val (.int r_10), .val (.int r_12), .val (.int r_14), .val (.int r_16), .val (.int r_18), .unset, .unset, .unset, .unset] [(.int (15 : Int32)), (.ref b19), (.ref b19)]))) (fun t k => XS.bipush X49.here hx rfl (hb hby at_290) k) ?_
  refine own_fw (A' := (T49.setTop (mkF m 294 #[.val (.long p1), .second, .val (.int p2), .val (.int p3), .val (.int p4), .val (.int p5), .val (.int r_2), .val (.int r_4), .val (.int r_6), .val (.int r_8), .val (.int r_10), .val (.int r_12), .val (.int r_14), .val (.int r_16), .val (.int r_18), .unset, .unset, .unset, .unset] [(.int r_18), (.int (15 : Int32)), (.ref b19), (.ref b19)]))) (fun t k => XS.iload X49.here hx rfl (hb hby at_292) rfl k) ?_
  obtain ⟨cl51, Ar51, q51, S51, M51, H51, G51⟩ := id V49
  have hin51 : ¬ ((15 : Int32) < 0 ∨ cl51.slots.size ≤ ((15 : Int32)).toNatClampNeg) := inb_of S51 ⟨by decide, by decide⟩
  obtain ⟨T51, h51, X51, e51, W51, st51⟩ := stB X49 hx hZ e49 Ar51 (j := (15 : Int32)) hin51 (g := (mkF m 294 #[.val (.long p1), .second, .val (.int p2), .val (.int p3), .val (.int p4), .val (.int p5), .val (.int r_2), .val (.int r_4), .val (.int r_6), .val (.int r_8), .val (.int r_10), .val (.int r_12), .val (.int r_14), .val (.int r_16), .val (.int r_18), .unset, .unset, .unset, .unset] [(.int r_18), (.int (15 : Int32)), (.ref b19), (.ref b19)])) rfl rfl (hb hby at_294)
  rw [(own_nar8 hr_18)] at W51
  have V51 : Arv Z h51 b19 k19 .byte (40 : Int32) [(.int r_2), (.int r_4), (.int r_6), (.int r_8), (.int r_10), (.int r_12), (.int r_14), (.int r_16), (.int r_18), (.int r_18), (.int r_18), (.int r_18), (.int r_18), (.int r_18), (.int r_18), (.int r_18), (.int (0 : Int32)), (.int (0 : Int32)), (.int (0 : Int32)), (.int (0 : Int32)), (.int (0 : Int32)), (.int (0 : Int32)), (.int (0 : Int32)), (.int (0 : Int32)), (.int (0 : Int32)), (.int (0 : Int32)), (.int (0 : Int32)), (.int (0 : Int32)), (.int (0 : Int32)), (.int (0 : Int32)), (.int (0 : Int32)), (.int (0 : Int32)), (.int (0 : Int32)), (.int (0 : Int32)), (.int (0 : Int32)), (.int (0 : Int32)), (.int (0 : Int32)), (.int (0 : Int32)), (.int (0 : Int32)), (.int (0 : Int32))] (.int (0 : Int32)) := Arv.set Ar51 q51 S51 M51 H51 G51 (own_fit8 hr_18) W51 15 rfl (Nat.le_of_ble_eq_true rfl)
  have F52 : Safe Z own_EL _ h51 b19 := (Safe.wr W51 F50 hH F50)
  have Nf51 := Fr.snoc X51 Nf49 g_b19
  have K51 : Keep h0 h51 [] := K49.wr W51 (Or.inr sz_b19)
  have Z51 : n0 ≤ h51.size := Nat.le_trans Z49 (Keep.of_wr W51).1
  have hk := Nat.le_trans hk (Keep.of_wr W51).1
  have hC := hC.trans (CHr.wr W51 F50 hH)
  have hH := hC.1
  refine own_fw (A' := (T51.setTop (mkF m 295 #[.val (.long p1), .second, .val (.int p2), .val (.int p3), .val (.int p4), .val (.int p5), .val (.int r_2), .val (.int r_4), .val (.int r_6), .val (.int r_8), .val (.int r_10), .val (.int r_12), .val (.int r_14), .val (.int r_16), .val (.int r_18), .unset, .unset, .unset, .unset] [(.ref b19)]))) (fun t k => st51 _ k) ?_
  refine own_fw (A' := (T51.setTop (mkF m 296 #[.val (.long p1), .second, .val (.int p2), .val (.int p3), .val (.int p4), .val (.int p5), .val (.int r_2), .val (.int r_4), .val (.int r_6), .val (.int r_8), .val (.int r_10), .val (.int r_12), .val (.int r_14), .val (.int r_16), .val (.int r_18), .unset, .unset, .unset, .unset] [(.ref b19), (.ref b19)]))) (fun t k => XS.dup X51.here hx rfl (hb hby at_295) rfl rfl k) ?_
  refine own_fw (A' := (T51.setTop (mkF m 298 #[.val (.long p1), .second, .val (.int p2), .val (.int p3), .val (.int p4), .val (.int p5), .val (.int r_2), .val (.int r_4), .val (.int r_6), .val (.int r_8), .val (.int r_10), .val (.int r_12), .val (.int r_14), .val (.int r_16), .val (.int r_18), .unset, .unset, .unset, .unset] [(.int (16 : Int32)), (.ref b19), (.ref b19)]))) (fun t k => XS.bipush X51.here hx rfl (hb hby at_296) k) ?_
  refine own_fw (A' := (T51.setTop (mkF m 300 #[.val (.long p1), .second, .val (.int p2), .val (.int p3), .val (.int p4), .val (.int p5), .val (.int r_2), .val (.int r_4), .val (.int r_6), .val (.int r_8), .val (.int r_10), .val (.int r_12), .val (.int r_14), .val (.int r_16), .val (.int r_18), .unset, .unset, .unset, .unset] [(.int r_18), (.int (16 : Int32)), (.ref b19), (.ref b19)]))) (fun t k => XS.iload X51.here hx rfl (hb hby at_298) rfl k) ?_
  obtain ⟨cl53, Ar53, q53, S53, M53, H53, G53⟩ := id V51
  have hin53 : ¬ ((16 : Int32) < 0 ∨ cl53.slots.size ≤ ((16 : Int32)).toNatClampNeg) := inb_of S53 ⟨by decide, by decide⟩
  obtain ⟨T53, h53, X53, e53, W53, st53⟩ := stB X51 hx hZ e51 Ar53 (j := (16 : Int32)) hin53 (g := (mkF m 300 #[.val (.long p1), .second, .val (.int p2), .val (.int p3), .val (.int p4), .val (.int p5), .val (.int r_2), .val (.int r_4), .val (.int r_6), .val (.int r_8), .val (.int r_10), .val (.int r_12), .val (.int r_14), .val (.int r_16), .val (.int r_18), .unset, .unset, .unset, .unset] [(.int r_18), (.int (16 : Int32)), (.ref b19), (.ref b19)])) rfl rfl (hb hby at_300)
  rw [(own_nar8 hr_18)] at W53
  have V53 : Arv Z h53 b19 k19 .byte (40 : Int32) [(.int r_2), (.int r_4), (.int r_6), (.int r_8), (.int r_10), (.int r_12), (.int r_14), (.int r_16), (.int r_18), (.int r_18), (.int r_18), (.int r_18), (.int r_18), (.int r_18), (.int r_18), (.int r_18), (.int r_18), (.int (0 : Int32)), (.int (0 : Int32)), (.int (0 : Int32)), (.int (0 : Int32)), (.int (0 : Int32)), (.int (0 : Int32)), (.int (0 : Int32)), (.int (0 : Int32)), (.int (0 : Int32)), (.int (0 : Int32)), (.int (0 : Int32)), (.int (0 : Int32)), (.int (0 : Int32)), (.int (0 : Int32)), (.int (0 : Int32)), (.int (0 : Int32)), (.int (0 : Int32)), (.int (0 : Int32)), (.int (0 : Int32)), (.int (0 : Int32)), (.int (0 : Int32)), (.int (0 : Int32)), (.int (0 : Int32))] (.int (0 : Int32)) := Arv.set Ar53 q53 S53 M53 H53 G53 (own_fit8 hr_18) W53 16 rfl (Nat.le_of_ble_eq_true rfl)
  have F54 : Safe Z own_EL _ h53 b19 := (Safe.wr W53 F52 hH F52)
  have Nf53 := Fr.snoc X53 Nf51 g_b19
  have K53 : Keep h0 h53 [] := K51.wr W53 (Or.inr sz_b19)
  have Z53 : n0 ≤ h53.size := Nat.le_trans Z51 (Keep.of_wr W53).1
  have hk := Nat.le_trans hk (Keep.of_wr W53).1
  have hC := hC.trans (CHr.wr W53 F52 hH)
  have hH := hC.1
  refine own_fw (A' := (T53.setTop (mkF m 301 #[.val (.long p1), .second, .val (.int p2), .val (.int p3), .val (.int p4), .val (.int p5), .val (.int r_2), .val (.int r_4), .val (.int r_6), .val (.int r_8), .val (.int r_10), .val (.int r_12), .val (.int r_14), .val (.int r_16), .val (.int r_18), .unset, .unset, .unset, .unset] [(.ref b19)]))) (fun t k => st53 _ k) ?_
  refine own_fw (A' := (T53.setTop (mkF m 302 #[.val (.long p1), .second, .val (.int p2), .val (.int p3), .val (.int p4), .val (.int p5), .val (.int r_2), .val (.int r_4), .val (.int r_6), .val (.int r_8), .val (.int r_10), .val (.int r_12), .val (.int r_14), .val (.int r_16), .val (.int r_18), .unset, .unset, .unset, .unset] [(.ref b19), (.ref b19)]))) (fun t k => XS.dup X53.here hx rfl (hb hby at_301) rfl rfl k) ?_
  refine own_fw (A' := (T53.setTop (mkF m 304 #[.val (.long p1), .second, .val (.int p2), .val (.int p3), .val (.int p4), .val (.int p5), .val (.int r_2), .val (.int r_4), .val (.int r_6), .val (.int r_8), .val (.int r_10), .val (.int r_12), .val (.int r_14), .val (.int r_16), .val (.int r_18), .unset, .unset, .unset, .unset] [(.int (17 : Int32)), (.ref b19), (.ref b19)]))) (fun t k => XS.bipush X53.here hx rfl (hb hby at_302) k) ?_
  refine own_fw (A' := (T53.setTop (mkF m 306 #[.val (.long p1), .second, .val (.int p2), .val (.int p3), .val (.int p4), .val (.int p5), .val (.int r_2), .val (.int r_4), .val (.int r_6), .val (.int r_8), .val (.int r_10), .val (.int r_12), .val (.int r_14), .val (.int r_16), .val (.int r_18), .unset, .unset, .unset, .unset] [(.int r_18), (.int (17 : Int32)), (.ref b19), (.ref b19)]))) (fun t k => XS.iload X53.here hx rfl (hb hby at_304) rfl k) ?_
  obtain ⟨cl55, Ar55, q55, S55, M55, H55, G55⟩ := id V53
  have hin55 : ¬ ((17 : Int32) < 0 ∨ cl55.slots.size ≤ ((17 : Int32)).toNatClampNeg) := inb_of S55 ⟨by decide, by decide⟩
  obtain ⟨T55, h55, X55, e55, W55, st55⟩ := stB X53 hx hZ e53 Ar55 (j := (17 : Int32)) hin55 (g := (mkF m 306 #[.val (.long p1), .second, .val (.int p2), .val (.int p3), .val (.int p4), .val (.int p5), .val (.int r_2), .val (.int r_4), .val (.int r_6), .val (.int r_8), .val (.int r_10), .val (.int r_12), .val (.int r_14), .val (.int r_16), .val (.int r_18), .unset, .unset, .unset, .unset] [(.int r_18), (.int (17 : Int32)), (.ref b19), (.ref b19)])) rfl rfl (hb hby at_306)
  rw [(own_nar8 hr_18)] at W55
  have V55 : Arv Z h55 b19 k19 .byte (40 : Int32) [(.int r_2), (.int r_4), (.int r_6), (.int r_8), (.int r_10), (.int r_12), (.int r_14), (.int r_16), (.int r_18), (.int r_18), (.int r_18), (.int r_18), (.int r_18), (.int r_18), (.int r_18), (.int r_18), (.int r_18), (.int r_18), (.int (0 : Int32)), (.int (0 : Int32)), (.int (0 : Int32)), (.int (0 : Int32)), (.int (0 : Int32)), (.int (0 : Int32)), (.int (0 : Int32)), (.int (0 : Int32)), (.int (0 : Int32)), (.int (0 : Int32)), (.int (0 : Int32)), (.int (0 : Int32)), (.int (0 : Int32)), (.int (0 : Int32)), (.int (0 : Int32)), (.int (0 : Int32)), (.int (0 : Int32)), (.int (0 : Int32)), (.int (0 : Int32)), (.int (0 : Int32)), (.int (0 : Int32)), (.int (0 : Int32))] (.int (0 : Int32)) := Arv.set Ar55 q55 S55 M55 H55 G55 (own_fit8 hr_18) W55 17 rfl (Nat.le_of_ble_eq_true rfl)
  have F56 : Safe Z own_EL _ h55 b19 := (Safe.wr W55 F54 hH F54)
  have Nf55 := Fr.snoc X55 Nf53 g_b19
  have K55 : Keep h0 h55 [] := K53.wr W55 (Or.inr sz_b19)
  have Z55 : n0 ≤ h55.size := Nat.le_trans Z53 (Keep.of_wr W55).1
  have hk := Nat.le_trans hk (Keep.of_wr W55).1
  have hC := hC.trans (CHr.wr W55 F54 hH)
  have hH := hC.1
  refine own_fw (A' := (T55.setTop (mkF m 307 #[.val (.long p1), .second, .val (.int p2), .val (.int p3), .val (.int p4), .val (.int p5), .val (.int r_2), .val (.int r_4), .val (.int r_6), .val (.int r_8), .val (.int r_10), .val (.int r_12), .val (.int r_14), .val (.int r_16), .val (.int r_18), .unset, .unset, .unset, .unset] [(.ref b19)]))) (fun t k => st55 _ k) ?_
  refine own_fw (A' := (T55.setTop (mkF m 308 #[.val (.long p1), .second, .val (.int p2), .val (.int p3), .val (.int p4), .val (.int p5), .val (.int r_2), .val (.int r_4), .val (.int r_6), .val (.int r_8), .val (.int r_10), .val (.int r_12), .val (.int r_14), .val (.int r_16), .val (.int r_18), .unset, .unset, .unset, .unset] [(.ref b19), (.ref b19)]))) (fun t k => XS.dup X55.here hx rfl (hb hby at_307) rfl rfl k) ?_
  refine own_fw (A' := (T55.setTop (mkF m 310 #[.val (.long p1), .second, .val (.int p2), .val (.int p3), .val (.int p4), .val (.int p5), .val (.int r_2), .val (.int r_4), .val (.int r_6), .val (.int r_8), .val (.int r_10), .val (.int r_12), .val (.int r_14), .val (.int r_16), .val (.int r_18), .unset, .unset, .unset, .unset] [(.int (18 : Int32)), (.ref b19), (.ref b19)]))) (fun t k => XS.bipush X55.here hx rfl (hb hby at_308) k) ?_
  refine own_fw (A' := (T55.setTop (mkF m 312 #[.val (.long p1), .second, .val (.int p2), .val (.int p3), .val (.int p4), .val (.int p5), .val (.int r_2), .val (.int r_4), .val (.int r_6), .val (.int r_8), .val (.int r_10), .val (.int r_12), .val (.int r_14), .val (.int r_16), .val (.int r_18), .unset, .unset, .unset, .unset] [(.int r_18), (.int (18 : Int32)), (.ref b19), (.ref b19)]))) (fun t k => XS.iload X55.here hx rfl (hb hby at_310) rfl k) ?_
  obtain ⟨cl57, Ar57, q57, S57, M57, H57, G57⟩ := id V55
  have hin57 : ¬ ((18 : Int32) < 0 ∨ cl57.slots.size ≤ ((18 : Int32)).toNatClampNeg) := inb_of S57 ⟨by decide, by decide⟩
  obtain ⟨T57, h57, X57, e57, W57, st57⟩ := stB X55 hx hZ e55 Ar57 (j := (18 : Int32)) hin57 (g := (mkF m 312 #[.val (.long p1), .second, .val (.int p2), .val (.int p3), .val (.int p4), .val (.int p5), .val (.int r_2), .val (.int r_4), .val (.int r_6), .val (.int r_8), .val (.int r_10), .val (.int r_12), .val (.int r_14), .val (.int r_16), .val (.int r_18), .unset, .unset, .unset, .unset] [(.int r_18), (.int (18 : Int32)), (.ref b19), (.ref b19)])) rfl rfl (hb hby at_312)
  rw [(own_nar8 hr_18)] at W57
  have V57 : Arv Z h57 b19 k19 .byte (40 : Int32) [(.int r_2), (.int r_4), (.int r_6), (.int r_8), (.int r_10), (.int r_12), (.int r_14), (.int r_16), (.int r_18), (.int r_18), (.int r_18), (.int r_18), (.int r_18), (.int r_18), (.int r_18), (.int r_18), (.int r_18), (.int r_18), (.int r_18), (.int (0 : Int32)), (.int (0 : Int32)), (.int (0 : Int32)), (.int (0 : Int32)), (.int (0 : Int32)), (.int (0 : Int32)), (.int (0 : Int32)), (.int (0 : Int32)), (.int (0 : Int32)), (.int (0 : Int32)), (.int (0 : Int32)), (.int (0 : Int32)), (.int (0 : Int32)), (.int (0 : Int32)), (.int (0 : Int32)), (.int (0 : Int32)), (.int (0 : Int32)), (.int (0 : Int32)), (.int (0 : Int32)), (.int (0 : Int32)), (.int (0 : Int32))] (.int (0 : Int32)) := Arv.set Ar57 q57 S57 M57 H57 G57 (own_fit8 hr_18) W57 18 rfl (Nat.le_of_ble_eq_true rfl)
  have F58 : Safe Z own_EL _ h57 b19 := (Safe.wr W57 F56 hH F56)
  have Nf57 := Fr.snoc X57 Nf55 g_b19
  have K57 : Keep h0 h57 [] := K55.wr W57 (Or.inr sz_b19)
  have Z57 : n0 ≤ h57.size := Nat.le_trans Z55 (Keep.of_wr W57).1
  have hk := Nat.le_trans hk (Keep.of_wr W57).1
  have hC := hC.trans (CHr.wr W57 F56 hH)
  have hH := hC.1
  refine own_fw (A' := (T57.setTop (mkF m 313 #[.val (.long p1), .second, .val (.int p2), .val (.int p3), .val (.int p4), .val (.int p5), .val (.int r_2), .val (.int r_4), .val (.int r_6), .val (.int r_8), .val (.int r_10), .val (.int r_12), .val (.int r_14), .val (.int r_16), .val (.int r_18), .unset, .unset, .unset, .unset] [(.ref b19)]))) (fun t k => st57 _ k) ?_
  refine own_fw (A' := (T57.setTop (mkF m 314 #[.val (.long p1), .second, .val (.int p2), .val (.int p3), .val (.int p4), .val (.int p5), .val (.int r_2), .val (.int r_4), .val (.int r_6), .val (.int r_8), .val (.int r_10), .val (.int r_12), .val (.int r_14), .val (.int r_16), .val (.int r_18), .unset, .unset, .unset, .unset] [(.ref b19), (.ref b19)]))) (fun t k => XS.dup X57.here hx rfl (hb hby at_313) rfl rfl k) ?_
  refine own_fw (A' := (T57.setTop (mkF m 316 #[.val (.long p1), .second, .val (.int p2), .val (.int p3), .val (.int p4), .val (.int p5), .val (.int r_2), .val (.int r_4), .val (.int r_6), .val (.int r_8), .val (.int r_10), .val (.int r_12), .val (.int r_14), .val (.int r_16), .val (.int r_18), .unset, .unset, .unset, .unset] [(.int (19 : Int32)), (.ref b19), (.ref b19)]))) (fun t k => XS.bipush X57.here hx rfl (hb hby at_314) k) ?_
  refine own_fw (A' := (T57.setTop (mkF m 318 #[.val (.long p1), .second, .val (.int p2), .val (.int p3), .val (.int p4), .val (.int p5), .val (.int r_2), .val (.int r_4), .val (.int r_6), .val (.int r_8), .val (.int r_10), .val (.int r_12), .val (.int r_14), .val (.int r_16), .val (.int r_18), .unset, .unset, .unset, .unset] [(.int r_18), (.int (19 : Int32)), (.ref b19), (.ref b19)]))) (fun t k => XS.iload X57.here hx rfl (hb hby at_316) rfl k) ?_
  obtain ⟨cl59, Ar59, q59, S59, M59, H59, G59⟩ := id V57
  have hin59 : ¬ ((19 : Int32) < 0 ∨ cl59.slots.size ≤ ((19 : Int32)).toNatClampNeg) := inb_of S59 ⟨by decide, by decide⟩
  obtain ⟨T59, h59, X59, e59, W59, st59⟩ := stB X57 hx hZ e57 Ar59 (j := (19 : Int32)) hin59 (g := (mkF m 318 #[.val (.long p1), .second, .val (.int p2), .val (.int p3), .val (.int p4), .val (.int p5), .val (.int r_2), .val (.int r_4), .val (.int r_6), .val (.int r_8), .val (.int r_10), .val (.int r_12), .val (.int r_14), .val (.int r_16), .val (.int r_18), .unset, .unset, .unset, .unset] [(.int r_18), (.int (19 : Int32)), (.ref b19), (.ref b19)])) rfl rfl (hb hby at_318)
  rw [(own_nar8 hr_18)] at W59
  have V59 : Arv Z h59 b19 k19 .byte (40 : Int32) [(.int r_2), (.int r_4), (.int r_6), (.int r_8), (.int r_10), (.int r_12), (.int r_14), (.int r_16), (.int r_18), (.int r_18), (.int r_18), (.int r_18), (.int r_18), (.int r_18), (.int r_18), (.int r_18), (.int r_18), (.int r_18), (.int r_18), (.int r_18), (.int (0 : Int32)), (.int (0 : Int32)), (.int (0 : Int32)), (.int (0 : Int32)), (.int (0 : Int32)), (.int (0 : Int32)), (.int (0 : Int32)), (.int (0 : Int32)), (.int (0 : Int32)), (.int (0 : Int32)), (.int (0 : Int32)), (.int (0 : Int32)), (.int (0 : Int32)), (.int (0 : Int32)), (.int (0 : Int32)), (.int (0 : Int32)), (.int (0 : Int32)), (.int (0 : Int32)), (.int (0 : Int32)), (.int (0 : Int32))] (.int (0 : Int32)) := Arv.set Ar59 q59 S59 M59 H59 G59 (own_fit8 hr_18) W59 19 rfl (Nat.le_of_ble_eq_true rfl)
  have F60 : Sta Z h59 "java/lang/String" "COMPACT_STRINGS" "Z" (.int cs) := ((((((((((((((((((((((own_staKeep (own_staKeep (own_staKeep (own_staKeep (own_staKeep (own_staKeep (own_staKeep (own_staKeep (own_staKeep P0 Kq2 all0) Kq4 all0) Kq6 all0) Kq8 all0) Kq10 all0) Kq12 all0) Kq14 all0) Kq16 all0) Kq18 all0).ext E19).wr W21).wr W23).wr W25).wr W27).wr W29).wr W31).wr W33).wr W35).wr W37).wr W39).wr W41).wr W43).wr W45).wr W47).wr W49).wr W51).wr W53).wr W55).wr W57).wr W59)
  have F61 : Sta Z h59 "jdk/internal/util/Preconditions" "SIOOBE_FORMATTER" "Ljava/util/function/BiFunction;" sv := ((((((((((((((((((((((own_staKeep (own_staKeep (own_staKeep (own_staKeep (own_staKeep (own_staKeep (own_staKeep (own_staKeep (own_staKeep P2 Kq2 all0) Kq4 all0) Kq6 all0) Kq8 all0) Kq10 all0) Kq12 all0) Kq14 all0) Kq16 all0) Kq18 all0).ext E19).wr W21).wr W23).wr W25).wr W27).wr W29).wr W31).wr W33).wr W35).wr W37).wr W39).wr W41).wr W43).wr W45).wr W47).wr W49).wr W51).wr W53).wr W55).wr W57).wr W59)
  have F62 : Safe Z own_EL _ h59 b19 := (Safe.wr W59 F58 hH F58)
  have Nf59 := Fr.snoc X59 Nf57 g_b19
  have K59 : Keep h0 h59 [] := K57.wr W59 (Or.inr sz_b19)
  have Z59 : n0 ≤ h59.size := Nat.le_trans Z57 (Keep.of_wr W59).1
  have hk := Nat.le_trans hk (Keep.of_wr W59).1
  have hC := hC.trans (CHr.wr W59 F58 hH)
  have hH := hC.1
  refine own_fw (A' := (T59.setTop (mkF m 319 #[.val (.long p1), .second, .val (.int p2), .val (.int p3), .val (.int p4), .val (.int p5), .val (.int r_2), .val (.int r_4), .val (.int r_6), .val (.int r_8), .val (.int r_10), .val (.int r_12), .val (.int r_14), .val (.int r_16), .val (.int r_18), .unset, .unset, .unset, .unset] [(.ref b19)]))) (fun t k => st59 _ k) ?_
  refine own_fw (A' := (T59.setTop (mkF m 320 #[.val (.long p1), .second, .val (.int p2), .val (.int p3), .val (.int p4), .val (.int p5), .val (.int r_2), .val (.int r_4), .val (.int r_6), .val (.int r_8), .val (.int r_10), .val (.int r_12), .val (.int r_14), .val (.int r_16), .val (.int r_18), .unset, .unset, .unset, .unset] [(.ref b19), (.ref b19)]))) (fun t k => XS.dup X59.here hx rfl (hb hby at_319) rfl rfl k) ?_
  refine own_fw (A' := (T59.setTop (mkF m 322 #[.val (.long p1), .second, .val (.int p2), .val (.int p3), .val (.int p4), .val (.int p5), .val (.int r_2), .val (.int r_4), .val (.int r_6), .val (.int r_8), .val (.int r_10), .val (.int r_12), .val (.int r_14), .val (.int r_16), .val (.int r_18), .unset, .unset, .unset, .unset] [(.int (20 : Int32)), (.ref b19), (.ref b19)]))) (fun t k => XS.bipush X59.here hx rfl (hb hby at_320) k) ?_
  refine own_fw (A' := (T59.setTop (mkF m 324 #[.val (.long p1), .second, .val (.int p2), .val (.int p3), .val (.int p4), .val (.int p5), .val (.int r_2), .val (.int r_4), .val (.int r_6), .val (.int r_8), .val (.int r_10), .val (.int r_12), .val (.int r_14), .val (.int r_16), .val (.int r_18), .unset, .unset, .unset, .unset] [(.int r_18), (.int (20 : Int32)), (.ref b19), (.ref b19)]))) (fun t k => XS.iload X59.here hx rfl (hb hby at_322) rfl k) ?_
  obtain ⟨cl63, Ar63, q63, S63, M63, H63, G63⟩ := id V59
  have hin63 : ¬ ((20 : Int32) < 0 ∨ cl63.slots.size ≤ ((20 : Int32)).toNatClampNeg) := inb_of S63 ⟨by decide, by decide⟩
  obtain ⟨T63, h63, X63, e63, W63, st63⟩ := stB X59 hx hZ e59 Ar63 (j := (20 : Int32)) hin63 (g := (mkF m 324 #[.val (.long p1), .second, .val (.int p2), .val (.int p3), .val (.int p4), .val (.int p5), .val (.int r_2), .val (.int r_4), .val (.int r_6), .val (.int r_8), .val (.int r_10), .val (.int r_12), .val (.int r_14), .val (.int r_16), .val (.int r_18), .unset, .unset, .unset, .unset] [(.int r_18), (.int (20 : Int32)), (.ref b19), (.ref b19)])) rfl rfl (hb hby at_324)
  rw [(own_nar8 hr_18)] at W63
  have V63 : Arv Z h63 b19 k19 .byte (40 : Int32) [(.int r_2), (.int r_4), (.int r_6), (.int r_8), (.int r_10), (.int r_12), (.int r_14), (.int r_16), (.int r_18), (.int r_18), (.int r_18), (.int r_18), (.int r_18), (.int r_18), (.int r_18), (.int r_18), (.int r_18), (.int r_18), (.int r_18), (.int r_18), (.int r_18), (.int (0 : Int32)), (.int (0 : Int32)), (.int (0 : Int32)), (.int (0 : Int32)), (.int (0 : Int32)), (.int (0 : Int32)), (.int (0 : Int32)), (.int (0 : Int32)), (.int (0 : Int32)), (.int (0 : Int32)), (.int (0 : Int32)), (.int (0 : Int32)), (.int (0 : Int32)), (.int (0 : Int32)), (.int (0 : Int32)), (.int (0 : Int32)), (.int (0 : Int32)), (.int (0 : Int32)), (.int (0 : Int32))] (.int (0 : Int32)) := Arv.set Ar63 q63 S63 M63 H63 G63 (own_fit8 hr_18) W63 20 rfl (Nat.le_of_ble_eq_true rfl)
  have F64 : Safe Z own_EL _ h63 b19 := (Safe.wr W63 F62 hH F62)
  have Nf63 := Fr.snoc X63 Nf59 g_b19
  have K63 : Keep h0 h63 [] := K59.wr W63 (Or.inr sz_b19)
  have Z63 : n0 ≤ h63.size := Nat.le_trans Z59 (Keep.of_wr W63).1
  have hk := Nat.le_trans hk (Keep.of_wr W63).1
  have hC := hC.trans (CHr.wr W63 F62 hH)
  have hH := hC.1
  refine own_fw (A' := (T63.setTop (mkF m 325 #[.val (.long p1), .second, .val (.int p2), .val (.int p3), .val (.int p4), .val (.int p5), .val (.int r_2), .val (.int r_4), .val (.int r_6), .val (.int r_8), .val (.int r_10), .val (.int r_12), .val (.int r_14), .val (.int r_16), .val (.int r_18), .unset, .unset, .unset, .unset] [(.ref b19)]))) (fun t k => st63 _ k) ?_
  refine own_fw (A' := (T63.setTop (mkF m 326 #[.val (.long p1), .second, .val (.int p2), .val (.int p3), .val (.int p4), .val (.int p5), .val (.int r_2), .val (.int r_4), .val (.int r_6), .val (.int r_8), .val (.int r_10), .val (.int r_12), .val (.int r_14), .val (.int r_16), .val (.int r_18), .unset, .unset, .unset, .unset] [(.ref b19), (.ref b19)]))) (fun t k => XS.dup X63.here hx rfl (hb hby at_325) rfl rfl k) ?_
  refine own_fw (A' := (T63.setTop (mkF m 328 #[.val (.long p1), .second, .val (.int p2), .val (.int p3), .val (.int p4), .val (.int p5), .val (.int r_2), .val (.int r_4), .val (.int r_6), .val (.int r_8), .val (.int r_10), .val (.int r_12), .val (.int r_14), .val (.int r_16), .val (.int r_18), .unset, .unset, .unset, .unset] [(.int (21 : Int32)), (.ref b19), (.ref b19)]))) (fun t k => XS.bipush X63.here hx rfl (hb hby at_326) k) ?_
  refine own_fw (A' := (T63.setTop (mkF m 330 #[.val (.long p1), .second, .val (.int p2), .val (.int p3), .val (.int p4), .val (.int p5), .val (.int r_2), .val (.int r_4), .val (.int r_6), .val (.int r_8), .val (.int r_10), .val (.int r_12), .val (.int r_14), .val (.int r_16), .val (.int r_18), .unset, .unset, .unset, .unset] [(.int r_18), (.int (21 : Int32)), (.ref b19), (.ref b19)]))) (fun t k => XS.iload X63.here hx rfl (hb hby at_328) rfl k) ?_
  obtain ⟨cl65, Ar65, q65, S65, M65, H65, G65⟩ := id V63
  have hin65 : ¬ ((21 : Int32) < 0 ∨ cl65.slots.size ≤ ((21 : Int32)).toNatClampNeg) := inb_of S65 ⟨by decide, by decide⟩
  obtain ⟨T65, h65, X65, e65, W65, st65⟩ := stB X63 hx hZ e63 Ar65 (j := (21 : Int32)) hin65 (g := (mkF m 330 #[.val (.long p1), .second, .val (.int p2), .val (.int p3), .val (.int p4), .val (.int p5), .val (.int r_2), .val (.int r_4), .val (.int r_6), .val (.int r_8), .val (.int r_10), .val (.int r_12), .val (.int r_14), .val (.int r_16), .val (.int r_18), .unset, .unset, .unset, .unset] [(.int r_18), (.int (21 : Int32)), (.ref b19), (.ref b19)])) rfl rfl (hb hby at_330)
  rw [(own_nar8 hr_18)] at W65
  have V65 : Arv Z h65 b19 k19 .byte (40 : Int32) [(.int r_2), (.int r_4), (.int r_6), (.int r_8), (.int r_10), (.int r_12), (.int r_14), (.int r_16), (.int r_18), (.int r_18), (.int r_18), (.int r_18), (.int r_18), (.int r_18), (.int r_18), (.int r_18), (.int r_18), (.int r_18), (.int r_18), (.int r_18), (.int r_18), (.int r_18), (.int (0 : Int32)), (.int (0 : Int32)), (.int (0 : Int32)), (.int (0 : Int32)), (.int (0 : Int32)), (.int (0 : Int32)), (.int (0 : Int32)), (.int (0 : Int32)), (.int (0 : Int32)), (.int (0 : Int32)), (.int (0 : Int32)), (.int (0 : Int32)), (.int (0 : Int32)), (.int (0 : Int32)), (.int (0 : Int32)), (.int (0 : Int32)), (.int (0 : Int32)), (.int (0 : Int32))] (.int (0 : Int32)) := Arv.set Ar65 q65 S65 M65 H65 G65 (own_fit8 hr_18) W65 21 rfl (Nat.le_of_ble_eq_true rfl)
  have F66 : Safe Z own_EL _ h65 b19 := (Safe.wr W65 F64 hH F64)
  have Nf65 := Fr.snoc X65 Nf63 g_b19
  have K65 : Keep h0 h65 [] := K63.wr W65 (Or.inr sz_b19)
  have Z65 : n0 ≤ h65.size := Nat.le_trans Z63 (Keep.of_wr W65).1
  have hk := Nat.le_trans hk (Keep.of_wr W65).1
  have hC := hC.trans (CHr.wr W65 F64 hH)
  have hH := hC.1
  refine own_fw (A' := (T65.setTop (mkF m 331 #[.val (.long p1), .second, .val (.int p2), .val (.int p3), .val (.int p4), .val (.int p5), .val (.int r_2), .val (.int r_4), .val (.int r_6), .val (.int r_8), .val (.int r_10), .val (.int r_12), .val (.int r_14), .val (.int r_16), .val (.int r_18), .unset, .unset, .unset, .unset] [(.ref b19)]))) (fun t k => st65 _ k) ?_
  refine own_fw (A' := (T65.setTop (mkF m 332 #[.val (.long p1), .second, .val (.int p2), .val (.int p3), .val (.int p4), .val (.int p5), .val (.int r_2), .val (.int r_4), .val (.int r_6), .val (.int r_8), .val (.int r_10), .val (.int r_12), .val (.int r_14), .val (.int r_16), .val (.int r_18), .unset, .unset, .unset, .unset] [(.ref b19), (.ref b19)]))) (fun t k => XS.dup X65.here hx rfl (hb hby at_331) rfl rfl k) ?_
  refine own_fw (A' := (T65.setTop (mkF m 334 #[.val (.long p1), .second, .val (.int p2), .val (.int p3), .val (.int p4), .val (.int p5), .val (.int r_2), .val (.int r_4), .val (.int r_6), .val (.int r_8), .val (.int r_10), .val (.int r_12), .val (.int r_14), .val (.int r_16), .val (.int r_18), .unset, .unset, .unset, .unset] [(.int (22 : Int32)), (.ref b19), (.ref b19)]))) (fun t k => XS.bipush X65.here hx rfl (hb hby at_332) k) ?_
  refine own_fw (A' := (T65.setTop (mkF m 336 #[.val (.long p1), .second, .val (.int p2), .val (.int p3), .val (.int p4), .val (.int p5), .val (.int r_2), .val (.int r_4), .val (.int r_6), .val (.int r_8), .val (.int r_10), .val (.int r_12), .val (.int r_14), .val (.int r_16), .val (.int r_18), .unset, .unset, .unset, .unset] [(.int r_18), (.int (22 : Int32)), (.ref b19), (.ref b19)]))) (fun t k => XS.iload X65.here hx rfl (hb hby at_334) rfl k) ?_
  obtain ⟨cl67, Ar67, q67, S67, M67, H67, G67⟩ := id V65
  have hin67 : ¬ ((22 : Int32) < 0 ∨ cl67.slots.size ≤ ((22 : Int32)).toNatClampNeg) := inb_of S67 ⟨by decide, by decide⟩
  obtain ⟨T67, h67, X67, e67, W67, st67⟩ := stB X65 hx hZ e65 Ar67 (j := (22 : Int32)) hin67 (g := (mkF m 336 #[.val (.long p1), .second, .val (.int p2), .val (.int p3), .val (.int p4), .val (.int p5), .val (.int r_2), .val (.int r_4), .val (.int r_6), .val (.int r_8), .val (.int r_10), .val (.int r_12), .val (.int r_14), .val (.int r_16), .val (.int r_18), .unset, .unset, .unset, .unset] [(.int r_18), (.int (22 : Int32)), (.ref b19), (.ref b19)])) rfl rfl (hb hby at_336)
  rw [(own_nar8 hr_18)] at W67
  have V67 : Arv Z h67 b19 k19 .byte (40 : Int32) [(.int r_2), (.int r_4), (.int r_6), (.int r_8), (.int r_10), (.int r_12), (.int r_14), (.int r_16), (.int r_18), (.int r_18), (.int r_18), (.int r_18), (.int r_18), (.int r_18), (.int r_18), (.int r_18), (.int r_18), (.int r_18), (.int r_18), (.int r_18), (.int r_18), (.int r_18), (.int r_18), (.int (0 : Int32)), (.int (0 : Int32)), (.int (0 : Int32)), (.int (0 : Int32)), (.int (0 : Int32)), (.int (0 : Int32)), (.int (0 : Int32)), (.int (0 : Int32)), (.int (0 : Int32)), (.int (0 : Int32)), (.int (0 : Int32)), (.int (0 : Int32)), (.int (0 : Int32)), (.int (0 : Int32)), (.int (0 : Int32)), (.int (0 : Int32)), (.int (0 : Int32))] (.int (0 : Int32)) := Arv.set Ar67 q67 S67 M67 H67 G67 (own_fit8 hr_18) W67 22 rfl (Nat.le_of_ble_eq_true rfl)
  have F68 : Safe Z own_EL _ h67 b19 := (Safe.wr W67 F66 hH F66)
  have Nf67 := Fr.snoc X67 Nf65 g_b19
  have K67 : Keep h0 h67 [] := K65.wr W67 (Or.inr sz_b19)
  have Z67 : n0 ≤ h67.size := Nat.le_trans Z65 (Keep.of_wr W67).1
  have hk := Nat.le_trans hk (Keep.of_wr W67).1
  have hC := hC.trans (CHr.wr W67 F66 hH)
  have hH := hC.1
  refine own_fw (A' := (T67.setTop (mkF m 337 #[.val (.long p1), .second, .val (.int p2), .val (.int p3), .val (.int p4), .val (.int p5), .val (.int r_2), .val (.int r_4), .val (.int r_6), .val (.int r_8), .val (.int r_10), .val (.int r_12), .val (.int r_14), .val (.int r_16), .val (.int r_18), .unset, .unset, .unset, .unset] [(.ref b19)]))) (fun t k => st67 _ k) ?_
  refine own_fw (A' := (T67.setTop (mkF m 338 #[.val (.long p1), .second, .val (.int p2), .val (.int p3), .val (.int p4), .val (.int p5), .val (.int r_2), .val (.int r_4), .val (.int r_6), .val (.int r_8), .val (.int r_10), .val (.int r_12), .val (.int r_14), .val (.int r_16), .val (.int r_18), .unset, .unset, .unset, .unset] [(.ref b19), (.ref b19)]))) (fun t k => XS.dup X67.here hx rfl (hb hby at_337) rfl rfl k) ?_
  refine own_fw (A' := (T67.setTop (mkF m 340 #[.val (.long p1), .second, .val (.int p2), .val (.int p3), .val (.int p4), .val (.int p5), .val (.int r_2), .val (.int r_4), .val (.int r_6), .val (.int r_8), .val (.int r_10), .val (.int r_12), .val (.int r_14), .val (.int r_16), .val (.int r_18), .unset, .unset, .unset, .unset] [(.int (23 : Int32)), (.ref b19), (.ref b19)]))) (fun t k => XS.bipush X67.here hx rfl (hb hby at_338) k) ?_
  refine own_fw (A' := (T67.setTop (mkF m 342 #[.val (.long p1), .second, .val (.int p2), .val (.int p3), .val (.int p4), .val (.int p5), .val (.int r_2), .val (.int r_4), .val (.int r_6), .val (.int r_8), .val (.int r_10), .val (.int r_12), .val (.int r_14), .val (.int r_16), .val (.int r_18), .unset, .unset, .unset, .unset] [(.int r_18), (.int (23 : Int32)), (.ref b19), (.ref b19)]))) (fun t k => XS.iload X67.here hx rfl (hb hby at_340) rfl k) ?_
  obtain ⟨cl69, Ar69, q69, S69, M69, H69, G69⟩ := id V67
  have hin69 : ¬ ((23 : Int32) < 0 ∨ cl69.slots.size ≤ ((23 : Int32)).toNatClampNeg) := inb_of S69 ⟨by decide, by decide⟩
  obtain ⟨T69, h69, X69, e69, W69, st69⟩ := stB X67 hx hZ e67 Ar69 (j := (23 : Int32)) hin69 (g := (mkF m 342 #[.val (.long p1), .second, .val (.int p2), .val (.int p3), .val (.int p4), .val (.int p5), .val (.int r_2), .val (.int r_4), .val (.int r_6), .val (.int r_8), .val (.int r_10), .val (.int r_12), .val (.int r_14), .val (.int r_16), .val (.int r_18), .unset, .unset, .unset, .unset] [(.int r_18), (.int (23 : Int32)), (.ref b19), (.ref b19)])) rfl rfl (hb hby at_342)
  rw [(own_nar8 hr_18)] at W69
  have V69 : Arv Z h69 b19 k19 .byte (40 : Int32) [(.int r_2), (.int r_4), (.int r_6), (.int r_8), (.int r_10), (.int r_12), (.int r_14), (.int r_16), (.int r_18), (.int r_18), (.int r_18), (.int r_18), (.int r_18), (.int r_18), (.int r_18), (.int r_18), (.int r_18), (.int r_18), (.int r_18), (.int r_18), (.int r_18), (.int r_18), (.int r_18), (.int r_18), (.int (0 : Int32)), (.int (0 : Int32)), (.int (0 : Int32)), (.int (0 : Int32)), (.int (0 : Int32)), (.int (0 : Int32)), (.int (0 : Int32)), (.int (0 : Int32)), (.int (0 : Int32)), (.int (0 : Int32)), (.int (0 : Int32)), (.int (0 : Int32)), (.int (0 : Int32)), (.int (0 : Int32)), (.int (0 : Int32)), (.int (0 : Int32))] (.int (0 : Int32)) := Arv.set Ar69 q69 S69 M69 H69 G69 (own_fit8 hr_18) W69 23 rfl (Nat.le_of_ble_eq_true rfl)
  have F70 : Safe Z own_EL _ h69 b19 := (Safe.wr W69 F68 hH F68)
  have Nf69 := Fr.snoc X69 Nf67 g_b19
  have K69 : Keep h0 h69 [] := K67.wr W69 (Or.inr sz_b19)
  have Z69 : n0 ≤ h69.size := Nat.le_trans Z67 (Keep.of_wr W69).1
  have hk := Nat.le_trans hk (Keep.of_wr W69).1
  have hC := hC.trans (CHr.wr W69 F68 hH)
  have hH := hC.1
  refine own_fw (A' := (T69.setTop (mkF m 343 #[.val (.long p1), .second, .val (.int p2), .val (.int p3), .val (.int p4), .val (.int p5), .val (.int r_2), .val (.int r_4), .val (.int r_6), .val (.int r_8), .val (.int r_10), .val (.int r_12), .val (.int r_14), .val (.int r_16), .val (.int r_18), .unset, .unset, .unset, .unset] [(.ref b19)]))) (fun t k => st69 _ k) ?_
  refine own_fw (A' := (T69.setTop (mkF m 344 #[.val (.long p1), .second, .val (.int p2), .val (.int p3), .val (.int p4), .val (.int p5), .val (.int r_2), .val (.int r_4), .val (.int r_6), .val (.int r_8), .val (.int r_10), .val (.int r_12), .val (.int r_14), .val (.int r_16), .val (.int r_18), .unset, .unset, .unset, .unset] [(.ref b19), (.ref b19)]))) (fun t k => XS.dup X69.here hx rfl (hb hby at_343) rfl rfl k) ?_
  refine own_fw (A' := (T69.setTop (mkF m 346 #[.val (.long p1), .second, .val (.int p2), .val (.int p3), .val (.int p4), .val (.int p5), .val (.int r_2), .val (.int r_4), .val (.int r_6), .val (.int r_8), .val (.int r_10), .val (.int r_12), .val (.int r_14), .val (.int r_16), .val (.int r_18), .unset, .unset, .unset, .unset] [(.int (24 : Int32)), (.ref b19), (.ref b19)]))) (fun t k => XS.bipush X69.here hx rfl (hb hby at_344) k) ?_
  refine own_fw (A' := (T69.setTop (mkF m 348 #[.val (.long p1), .second, .val (.int p2), .val (.int p3), .val (.int p4), .val (.int p5), .val (.int r_2), .val (.int r_4), .val (.int r_6), .val (.int r_8), .val (.int r_10), .val (.int r_12), .val (.int r_14), .val (.int r_16), .val (.int r_18), .unset, .unset, .unset, .unset] [(.int r_18), (.int (24 : Int32)), (.ref b19), (.ref b19)]))) (fun t k => XS.iload X69.here hx rfl (hb hby at_346) rfl k) ?_
  obtain ⟨cl71, Ar71, q71, S71, M71, H71, G71⟩ := id V69
  have hin71 : ¬ ((24 : Int32) < 0 ∨ cl71.slots.size ≤ ((24 : Int32)).toNatClampNeg) := inb_of S71 ⟨by decide, by decide⟩
  obtain ⟨T71, h71, X71, e71, W71, st71⟩ := stB X69 hx hZ e69 Ar71 (j := (24 : Int32)) hin71 (g := (mkF m 348 #[.val (.long p1), .second, .val (.int p2), .val (.int p3), .val (.int p4), .val (.int p5), .val (.int r_2), .val (.int r_4), .val (.int r_6), .val (.int r_8), .val (.int r_10), .val (.int r_12), .val (.int r_14), .val (.int r_16), .val (.int r_18), .unset, .unset, .unset, .unset] [(.int r_18), (.int (24 : Int32)), (.ref b19), (.ref b19)])) rfl rfl (hb hby at_348)
  rw [(own_nar8 hr_18)] at W71
  have V71 : Arv Z h71 b19 k19 .byte (40 : Int32) [(.int r_2), (.int r_4), (.int r_6), (.int r_8), (.int r_10), (.int r_12), (.int r_14), (.int r_16), (.int r_18), (.int r_18), (.int r_18), (.int r_18), (.int r_18), (.int r_18), (.int r_18), (.int r_18), (.int r_18), (.int r_18), (.int r_18), (.int r_18), (.int r_18), (.int r_18), (.int r_18), (.int r_18), (.int r_18), (.int (0 : Int32)), (.int (0 : Int32)), (.int (0 : Int32)), (.int (0 : Int32)), (.int (0 : Int32)), (.int (0 : Int32)), (.int (0 : Int32)), (.int (0 : Int32)), (.int (0 : Int32)), (.int (0 : Int32)), (.int (0 : Int32)), (.int (0 : Int32)), (.int (0 : Int32)), (.int (0 : Int32)), (.int (0 : Int32))] (.int (0 : Int32)) := Arv.set Ar71 q71 S71 M71 H71 G71 (own_fit8 hr_18) W71 24 rfl (Nat.le_of_ble_eq_true rfl)
  have F72 : Safe Z own_EL _ h71 b19 := (Safe.wr W71 F70 hH F70)
  have Nf71 := Fr.snoc X71 Nf69 g_b19
  have K71 : Keep h0 h71 [] := K69.wr W71 (Or.inr sz_b19)
  have Z71 : n0 ≤ h71.size := Nat.le_trans Z69 (Keep.of_wr W71).1
  have hk := Nat.le_trans hk (Keep.of_wr W71).1
  have hC := hC.trans (CHr.wr W71 F70 hH)
  have hH := hC.1
  refine own_fw (A' := (T71.setTop (mkF m 349 #[.val (.long p1), .second, .val (.int p2), .val (.int p3), .val (.int p4), .val (.int p5), .val (.int r_2), .val (.int r_4), .val (.int r_6), .val (.int r_8), .val (.int r_10), .val (.int r_12), .val (.int r_14), .val (.int r_16), .val (.int r_18), .unset, .unset, .unset, .unset] [(.ref b19)]))) (fun t k => st71 _ k) ?_
  refine own_fw (A' := (T71.setTop (mkF m 350 #[.val (.long p1), .second, .val (.int p2), .val (.int p3), .val (.int p4), .val (.int p5), .val (.int r_2), .val (.int r_4), .val (.int r_6), .val (.int r_8), .val (.int r_10), .val (.int r_12), .val (.int r_14), .val (.int r_16), .val (.int r_18), .unset, .unset, .unset, .unset] [(.ref b19), (.ref b19)]))) (fun t k => XS.dup X71.here hx rfl (hb hby at_349) rfl rfl k) ?_
  refine own_fw (A' := (T71.setTop (mkF m 352 #[.val (.long p1), .second, .val (.int p2), .val (.int p3), .val (.int p4), .val (.int p5), .val (.int r_2), .val (.int r_4), .val (.int r_6), .val (.int r_8), .val (.int r_10), .val (.int r_12), .val (.int r_14), .val (.int r_16), .val (.int r_18), .unset, .unset, .unset, .unset] [(.int (25 : Int32)), (.ref b19), (.ref b19)]))) (fun t k => XS.bipush X71.here hx rfl (hb hby at_350) k) ?_
  refine own_fw (A' := (T71.setTop (mkF m 354 #[.val (.long p1), .second, .val (.int p2), .val (.int p3), .val (.int p4), .val (.int p5), .val (.int r_2), .val (.int r_4), .val (.int r_6), .val (.int r_8), .val (.int r_10), .val (.int r_12), .val (.int r_14), .val (.int r_16), .val (.int r_18), .unset, .unset, .unset, .unset] [(.int r_18), (.int (25 : Int32)), (.ref b19), (.ref b19)]))) (fun t k => XS.iload X71.here hx rfl (hb hby at_352) rfl k) ?_
  obtain ⟨cl73, Ar73, q73, S73, M73, H73, G73⟩ := id V71
  have hin73 : ¬ ((25 : Int32) < 0 ∨ cl73.slots.size ≤ ((25 : Int32)).toNatClampNeg) := inb_of S73 ⟨by decide, by decide⟩
  obtain ⟨T73, h73, X73, e73, W73, st73⟩ := stB X71 hx hZ e71 Ar73 (j := (25 : Int32)) hin73 (g := (mkF m 354 #[.val (.long p1), .second, .val (.int p2), .val (.int p3), .val (.int p4), .val (.int p5), .val (.int r_2), .val (.int r_4), .val (.int r_6), .val (.int r_8), .val (.int r_10), .val (.int r_12), .val (.int r_14), .val (.int r_16), .val (.int r_18), .unset, .unset, .unset, .unset] [(.int r_18), (.int (25 : Int32)), (.ref b19), (.ref b19)])) rfl rfl (hb hby at_354)
  rw [(own_nar8 hr_18)] at W73
  have V73 : Arv Z h73 b19 k19 .byte (40 : Int32) [(.int r_2), (.int r_4), (.int r_6), (.int r_8), (.int r_10), (.int r_12), (.int r_14), (.int r_16), (.int r_18), (.int r_18), (.int r_18), (.int r_18), (.int r_18), (.int r_18), (.int r_18), (.int r_18), (.int r_18), (.int r_18), (.int r_18), (.int r_18), (.int r_18), (.int r_18), (.int r_18), (.int r_18), (.int r_18), (.int r_18), (.int (0 : Int32)), (.int (0 : Int32)), (.int (0 : Int32)), (.int (0 : Int32)), (.int (0 : Int32)), (.int (0 : Int32)), (.int (0 : Int32)), (.int (0 : Int32)), (.int (0 : Int32)), (.int (0 : Int32)), (.int (0 : Int32)), (.int (0 : Int32)), (.int (0 : Int32)), (.int (0 : Int32))] (.int (0 : Int32)) := Arv.set Ar73 q73 S73 M73 H73 G73 (own_fit8 hr_18) W73 25 rfl (Nat.le_of_ble_eq_true rfl)
  have F74 : Safe Z own_EL _ h73 b19 := (Safe.wr W73 F72 hH F72)
  have Nf73 := Fr.snoc X73 Nf71 g_b19
  have K73 : Keep h0 h73 [] := K71.wr W73 (Or.inr sz_b19)
  have Z73 : n0 ≤ h73.size := Nat.le_trans Z71 (Keep.of_wr W73).1
  have hk := Nat.le_trans hk (Keep.of_wr W73).1
  have hC := hC.trans (CHr.wr W73 F72 hH)
  have hH := hC.1
  refine own_fw (A' := (T73.setTop (mkF m 355 #[.val (.long p1), .second, .val (.int p2), .val (.int p3), .val (.int p4), .val (.int p5), .val (.int r_2), .val (.int r_4), .val (.int r_6), .val (.int r_8), .val (.int r_10), .val (.int r_12), .val (.int r_14), .val (.int r_16), .val (.int r_18), .unset, .unset, .unset, .unset] [(.ref b19)]))) (fun t k => st73 _ k) ?_
  refine own_fw (A' := (T73.setTop (mkF m 356 #[.val (.long p1), .second, .val (.int p2), .val (.int p3), .val (.int p4), .val (.int p5), .val (.int r_2), .val (.int r_4), .val (.int r_6), .val (.int r_8), .val (.int r_10), .val (.int r_12), .val (.int r_14), .val (.int r_16), .val (.int r_18), .unset, .unset, .unset, .unset] [(.ref b19), (.ref b19)]))) (fun t k => XS.dup X73.here hx rfl (hb hby at_355) rfl rfl k) ?_
  refine own_fw (A' := (T73.setTop (mkF m 358 #[.val (.long p1), .second, .val (.int p2), .val (.int p3), .val (.int p4), .val (.int p5), .val (.int r_2), .val (.int r_4), .val (.int r_6), .val (.int r_8), .val (.int r_10), .val (.int r_12), .val (.int r_14), .val (.int r_16), .val (.int r_18), .unset, .unset, .unset, .unset] [(.int (26 : Int32)), (.ref b19), (.ref b19)]))) (fun t k => XS.bipush X73.here hx rfl (hb hby at_356) k) ?_
  refine own_fw (A' := (T73.setTop (mkF m 360 #[.val (.long p1), .second, .val (.int p2), .val (.int p3), .val (.int p4), .val (.int p5), .val (.int r_2), .val (.int r_4), .val (.int r_6), .val (.int r_8), .val (.int r_10), .val (.int r_12), .val (.int r_14), .val (.int r_16), .val (.int r_18), .unset, .unset, .unset, .unset] [(.int r_18), (.int (26 : Int32)), (.ref b19), (.ref b19)]))) (fun t k => XS.iload X73.here hx rfl (hb hby at_358) rfl k) ?_
  obtain ⟨cl75, Ar75, q75, S75, M75, H75, G75⟩ := id V73
  have hin75 : ¬ ((26 : Int32) < 0 ∨ cl75.slots.size ≤ ((26 : Int32)).toNatClampNeg) := inb_of S75 ⟨by decide, by decide⟩
  obtain ⟨T75, h75, X75, e75, W75, st75⟩ := stB X73 hx hZ e73 Ar75 (j := (26 : Int32)) hin75 (g := (mkF m 360 #[.val (.long p1), .second, .val (.int p2), .val (.int p3), .val (.int p4), .val (.int p5), .val (.int r_2), .val (.int r_4), .val (.int r_6), .val (.int r_8), .val (.int r_10), .val (.int r_12), .val (.int r_14), .val (.int r_16), .val (.int r_18), .unset, .unset, .unset, .unset] [(.int r_18), (.int (26 : Int32)), (.ref b19), (.ref b19)])) rfl rfl (hb hby at_360)
  rw [(own_nar8 hr_18)] at W75
  have V75 : Arv Z h75 b19 k19 .byte (40 : Int32) [(.int r_2), (.int r_4), (.int r_6), (.int r_8), (.int r_10), (.int r_12), (.int r_14), (.int r_16), (.int r_18), (.int r_18), (.int r_18), (.int r_18), (.int r_18), (.int r_18), (.int r_18), (.int r_18), (.int r_18), (.int r_18), (.int r_18), (.int r_18), (.int r_18), (.int r_18), (.int r_18), (.int r_18), (.int r_18), (.int r_18), (.int r_18), (.int (0 : Int32)), (.int (0 : Int32)), (.int (0 : Int32)), (.int (0 : Int32)), (.int (0 : Int32)), (.int (0 : Int32)), (.int (0 : Int32)), (.int (0 : Int32)), (.int (0 : Int32)), (.int (0 : Int32)), (.int (0 : Int32)), (.int (0 : Int32)), (.int (0 : Int32))] (.int (0 : Int32)) := Arv.set Ar75 q75 S75 M75 H75 G75 (own_fit8 hr_18) W75 26 rfl (Nat.le_of_ble_eq_true rfl)
  have F76 : Safe Z own_EL _ h75 b19 := (Safe.wr W75 F74 hH F74)
  have Nf75 := Fr.snoc X75 Nf73 g_b19
  have K75 : Keep h0 h75 [] := K73.wr W75 (Or.inr sz_b19)
  have Z75 : n0 ≤ h75.size := Nat.le_trans Z73 (Keep.of_wr W75).1
  have hk := Nat.le_trans hk (Keep.of_wr W75).1
  have hC := hC.trans (CHr.wr W75 F74 hH)
  have hH := hC.1
  refine own_fw (A' := (T75.setTop (mkF m 361 #[.val (.long p1), .second, .val (.int p2), .val (.int p3), .val (.int p4), .val (.int p5), .val (.int r_2), .val (.int r_4), .val (.int r_6), .val (.int r_8), .val (.int r_10), .val (.int r_12), .val (.int r_14), .val (.int r_16), .val (.int r_18), .unset, .unset, .unset, .unset] [(.ref b19)]))) (fun t k => st75 _ k) ?_
  refine own_fw (A' := (T75.setTop (mkF m 362 #[.val (.long p1), .second, .val (.int p2), .val (.int p3), .val (.int p4), .val (.int p5), .val (.int r_2), .val (.int r_4), .val (.int r_6), .val (.int r_8), .val (.int r_10), .val (.int r_12), .val (.int r_14), .val (.int r_16), .val (.int r_18), .unset, .unset, .unset, .unset] [(.ref b19), (.ref b19)]))) (fun t k => XS.dup X75.here hx rfl (hb hby at_361) rfl rfl k) ?_
  refine own_fw (A' := (T75.setTop (mkF m 364 #[.val (.long p1), .second, .val (.int p2), .val (.int p3), .val (.int p4), .val (.int p5), .val (.int r_2), .val (.int r_4), .val (.int r_6), .val (.int r_8), .val (.int r_10), .val (.int r_12), .val (.int r_14), .val (.int r_16), .val (.int r_18), .unset, .unset, .unset, .unset] [(.int (27 : Int32)), (.ref b19), (.ref b19)]))) (fun t k => XS.bipush X75.here hx rfl (hb hby at_362) k) ?_
  refine own_fw (A' := (T75.setTop (mkF m 366 #[.val (.long p1), .second, .val (.int p2), .val (.int p3), .val (.int p4), .val (.int p5), .val (.int r_2), .val (.int r_4), .val (.int r_6), .val (.int r_8), .val (.int r_10), .val (.int r_12), .val (.int r_14), .val (.int r_16), .val (.int r_18), .unset, .unset, .unset, .unset] [(.int r_18), (.int (27 : Int32)), (.ref b19), (.ref b19)]))) (fun t k => XS.iload X75.here hx rfl (hb hby at_364) rfl k) ?_
  obtain ⟨cl77, Ar77, q77, S77, M77, H77, G77⟩ := id V75
  have hin77 : ¬ ((27 : Int32) < 0 ∨ cl77.slots.size ≤ ((27 : Int32)).toNatClampNeg) := inb_of S77 ⟨by decide, by decide⟩
  obtain ⟨T77, h77, X77, e77, W77, st77⟩ := stB X75 hx hZ e75 Ar77 (j := (27 : Int32)) hin77 (g := (mkF m 366 #[.val (.long p1), .second, .val (.int p2), .val (.int p3), .val (.int p4), .val (.int p5), .val (.int r_2), .val (.int r_4), .val (.int r_6), .val (.int r_8), .val (.int r_10), .val (.int r_12), .val (.int r_14), .val (.int r_16), .val (.int r_18), .unset, .unset, .unset, .unset] [(.int r_18), (.int (27 : Int32)), (.ref b19), (.ref b19)])) rfl rfl (hb hby at_366)
  rw [(own_nar8 hr_18)] at W77
  have V77 : Arv Z h77 b19 k19 .byte (40 : Int32) [(.int r_2), (.int r_4), (.int r_6), (.int r_8), (.int r_10), (.int r_12), (.int r_14), (.int r_16), (.int r_18), (.int r_18), (.int r_18), (.int r_18), (.int r_18), (.int r_18), (.int r_18), (.int r_18), (.int r_18), (.int r_18), (.int r_18), (.int r_18), (.int r_18), (.int r_18), (.int r_18), (.int r_18), (.int r_18), (.int r_18), (.int r_18), (.int r_18), (.int (0 : Int32)), (.int (0 : Int32)), (.int (0 : Int32)), (.int (0 : Int32)), (.int (0 : Int32)), (.int (0 : Int32)), (.int (0 : Int32)), (.int (0 : Int32)), (.int (0 : Int32)), (.int (0 : Int32)), (.int (0 : Int32)), (.int (0 : Int32))] (.int (0 : Int32)) := Arv.set Ar77 q77 S77 M77 H77 G77 (own_fit8 hr_18) W77 27 rfl (Nat.le_of_ble_eq_true rfl)
  have F78 : Safe Z own_EL _ h77 b19 := (Safe.wr W77 F76 hH F76)
  have Nf77 := Fr.snoc X77 Nf75 g_b19
  have K77 : Keep h0 h77 [] := K75.wr W77 (Or.inr sz_b19)
  have Z77 : n0 ≤ h77.size := Nat.le_trans Z75 (Keep.of_wr W77).1
  have hk := Nat.le_trans hk (Keep.of_wr W77).1
  have hC := hC.trans (CHr.wr W77 F76 hH)
  have hH := hC.1
  refine own_fw (A' := (T77.setTop (mkF m 367 #[.val (.long p1), .second, .val (.int p2), .val (.int p3), .val (.int p4), .val (.int p5), .val (.int r_2), .val (.int r_4), .val (.int r_6), .val (.int r_8), .val (.int r_10), .val (.int r_12), .val (.int r_14), .val (.int r_16), .val (.int r_18), .unset, .unset, .unset, .unset] [(.ref b19)]))) (fun t k => st77 _ k) ?_
  refine own_fw (A' := (T77.setTop (mkF m 368 #[.val (.long p1), .second, .val (.int p2), .val (.int p3), .val (.int p4), .val (.int p5), .val (.int r_2), .val (.int r_4), .val (.int r_6), .val (.int r_8), .val (.int r_10), .val (.int r_12), .val (.int r_14), .val (.int r_16), .val (.int r_18), .unset, .unset, .unset, .unset] [(.ref b19), (.ref b19)]))) (fun t k => XS.dup X77.here hx rfl (hb hby at_367) rfl rfl k) ?_
  refine own_fw (A' := (T77.setTop (mkF m 370 #[.val (.long p1), .second, .val (.int p2), .val (.int p3), .val (.int p4), .val (.int p5), .val (.int r_2), .val (.int r_4), .val (.int r_6), .val (.int r_8), .val (.int r_10), .val (.int r_12), .val (.int r_14), .val (.int r_16), .val (.int r_18), .unset, .unset, .unset, .unset] [(.int (28 : Int32)), (.ref b19), (.ref b19)]))) (fun t k => XS.bipush X77.here hx rfl (hb hby at_368) k) ?_
  refine own_fw (A' := (T77.setTop (mkF m 372 #[.val (.long p1), .second, .val (.int p2), .val (.int p3), .val (.int p4), .val (.int p5), .val (.int r_2), .val (.int r_4), .val (.int r_6), .val (.int r_8), .val (.int r_10), .val (.int r_12), .val (.int r_14), .val (.int r_16), .val (.int r_18), .unset, .unset, .unset, .unset] [(.int r_18), (.int (28 : Int32)), (.ref b19), (.ref b19)]))) (fun t k => XS.iload X77.here hx rfl (hb hby at_370) rfl k) ?_
  obtain ⟨cl79, Ar79, q79, S79, M79, H79, G79⟩ := id V77
  have hin79 : ¬ ((28 : Int32) < 0 ∨ cl79.slots.size ≤ ((28 : Int32)).toNatClampNeg) := inb_of S79 ⟨by decide, by decide⟩
  obtain ⟨T79, h79, X79, e79, W79, st79⟩ := stB X77 hx hZ e77 Ar79 (j := (28 : Int32)) hin79 (g := (mkF m 372 #[.val (.long p1), .second, .val (.int p2), .val (.int p3), .val (.int p4), .val (.int p5), .val (.int r_2), .val (.int r_4), .val (.int r_6), .val (.int r_8), .val (.int r_10), .val (.int r_12), .val (.int r_14), .val (.int r_16), .val (.int r_18), .unset, .unset, .unset, .unset] [(.int r_18), (.int (28 : Int32)), (.ref b19), (.ref b19)])) rfl rfl (hb hby at_372)
  rw [(own_nar8 hr_18)] at W79
  have V79 : Arv Z h79 b19 k19 .byte (40 : Int32) [(.int r_2), (.int r_4), (.int r_6), (.int r_8), (.int r_10), (.int r_12), (.int r_14), (.int r_16), (.int r_18), (.int r_18), (.int r_18), (.int r_18), (.int r_18), (.int r_18), (.int r_18), (.int r_18), (.int r_18), (.int r_18), (.int r_18), (.int r_18), (.int r_18), (.int r_18), (.int r_18), (.int r_18), (.int r_18), (.int r_18), (.int r_18), (.int r_18), (.int r_18), (.int (0 : Int32)), (.int (0 : Int32)), (.int (0 : Int32)), (.int (0 : Int32)), (.int (0 : Int32)), (.int (0 : Int32)), (.int (0 : Int32)), (.int (0 : Int32)), (.int (0 : Int32)), (.int (0 : Int32)), (.int (0 : Int32))] (.int (0 : Int32)) := Arv.set Ar79 q79 S79 M79 H79 G79 (own_fit8 hr_18) W79 28 rfl (Nat.le_of_ble_eq_true rfl)
  have F80 : Safe Z own_EL _ h79 b19 := (Safe.wr W79 F78 hH F78)
  have Nf79 := Fr.snoc X79 Nf77 g_b19
  have K79 : Keep h0 h79 [] := K77.wr W79 (Or.inr sz_b19)
  have Z79 : n0 ≤ h79.size := Nat.le_trans Z77 (Keep.of_wr W79).1
  have hk := Nat.le_trans hk (Keep.of_wr W79).1
  have hC := hC.trans (CHr.wr W79 F78 hH)
  have hH := hC.1
  refine own_fw (A' := (T79.setTop (mkF m 373 #[.val (.long p1), .second, .val (.int p2), .val (.int p3), .val (.int p4), .val (.int p5), .val (.int r_2), .val (.int r_4), .val (.int r_6), .val (.int r_8), .val (.int r_10), .val (.int r_12), .val (.int r_14), .val (.int r_16), .val (.int r_18), .unset, .unset, .unset, .unset] [(.ref b19)]))) (fun t k => st79 _ k) ?_
  refine own_fw (A' := (T79.setTop (mkF m 374 #[.val (.long p1), .second, .val (.int p2), .val (.int p3), .val (.int p4), .val (.int p5), .val (.int r_2), .val (.int r_4), .val (.int r_6), .val (.int r_8), .val (.int r_10), .val (.int r_12), .val (.int r_14), .val (.int r_16), .val (.int r_18), .unset, .unset, .unset, .unset] [(.ref b19), (.ref b19)]))) (fun t k => XS.dup X79.here hx rfl (hb hby at_373) rfl rfl k) ?_
  refine own_fw (A' := (T79.setTop (mkF m 376 #[.val (.long p1), .second, .val (.int p2), .val (.int p3), .val (.int p4), .val (.int p5), .val (.int r_2), .val (.int r_4), .val (.int r_6), .val (.int r_8), .val (.int r_10), .val (.int r_12), .val (.int r_14), .val (.int r_16), .val (.int r_18), .unset, .unset, .unset, .unset] [(.int (29 : Int32)), (.ref b19), (.ref b19)]))) (fun t k => XS.bipush X79.here hx rfl (hb hby at_374) k) ?_
  refine own_fw (A' := (T79.setTop (mkF m 378 #[.val (.long p1), .second, .val (.int p2), .val (.int p3), .val (.int p4), .val (.int p5), .val (.int r_2), .val (.int r_4), .val (.int r_6), .val (.int r_8), .val (.int r_10), .val (.int r_12), .val (.int r_14), .val (.int r_16), .val (.int r_18), .unset, .unset, .unset, .unset] [(.int r_18), (.int (29 : Int32)), (.ref b19), (.ref b19)]))) (fun t k => XS.iload X79.here hx rfl (hb hby at_376) rfl k) ?_
  obtain ⟨cl81, Ar81, q81, S81, M81, H81, G81⟩ := id V79
  have hin81 : ¬ ((29 : Int32) < 0 ∨ cl81.slots.size ≤ ((29 : Int32)).toNatClampNeg) := inb_of S81 ⟨by decide, by decide⟩
  obtain ⟨T81, h81, X81, e81, W81, st81⟩ := stB X79 hx hZ e79 Ar81 (j := (29 : Int32)) hin81 (g := (mkF m 378 #[.val (.long p1), .second, .val (.int p2), .val (.int p3), .val (.int p4), .val (.int p5), .val (.int r_2), .val (.int r_4), .val (.int r_6), .val (.int r_8), .val (.int r_10), .val (.int r_12), .val (.int r_14), .val (.int r_16), .val (.int r_18), .unset, .unset, .unset, .unset] [(.int r_18), (.int (29 : Int32)), (.ref b19), (.ref b19)])) rfl rfl (hb hby at_378)
  rw [(own_nar8 hr_18)] at W81
  have V81 : Arv Z h81 b19 k19 .byte (40 : Int32) [(.int r_2), (.int r_4), (.int r_6), (.int r_8), (.int r_10), (.int r_12), (.int r_14), (.int r_16), (.int r_18), (.int r_18), (.int r_18), (.int r_18), (.int r_18), (.int r_18), (.int r_18), (.int r_18), (.int r_18), (.int r_18), (.int r_18), (.int r_18), (.int r_18), (.int r_18), (.int r_18), (.int r_18), (.int r_18), (.int r_18), (.int r_18), (.int r_18), (.int r_18), (.int r_18), (.int (0 : Int32)), (.int (0 : Int32)), (.int (0 : Int32)), (.int (0 : Int32)), (.int (0 : Int32)), (.int (0 : Int32)), (.int (0 : Int32)), (.int (0 : Int32)), (.int (0 : Int32)), (.int (0 : Int32))] (.int (0 : Int32)) := Arv.set Ar81 q81 S81 M81 H81 G81 (own_fit8 hr_18) W81 29 rfl (Nat.le_of_ble_eq_true rfl)
  have F82 : Safe Z own_EL _ h81 b19 := (Safe.wr W81 F80 hH F80)
  have Nf81 := Fr.snoc X81 Nf79 g_b19
  have K81 : Keep h0 h81 [] := K79.wr W81 (Or.inr sz_b19)
  have Z81 : n0 ≤ h81.size := Nat.le_trans Z79 (Keep.of_wr W81).1
  have hk := Nat.le_trans hk (Keep.of_wr W81).1
  have hC := hC.trans (CHr.wr W81 F80 hH)
  have hH := hC.1
  refine own_fw (A' := (T81.setTop (mkF m 379 #[.val (.long p1), .second, .val (.int p2), .val (.int p3), .val (.int p4), .val (.int p5), .val (.int r_2), .val (.int r_4), .val (.int r_6), .val (.int r_8), .val (.int r_10), .val (.int r_12), .val (.int r_14), .val (.int r_16), .val (.int r_18), .unset, .unset, .unset, .unset] [(.ref b19)]))) (fun t k => st81 _ k) ?_
  refine own_fw (A' := (T81.setTop (mkF m 380 #[.val (.long p1), .second, .val (.int p2), .val (.int p3), .val (.int p4), .val (.int p5), .val (.int r_2), .val (.int r_4), .val (.int r_6), .val (.int r_8), .val (.int r_10), .val (.int r_12), .val (.int r_14), .val (.int r_16), .val (.int r_18), .unset, .unset, .unset, .unset] [(.ref b19), (.ref b19)]))) (fun t k => XS.dup X81.here hx rfl (hb hby at_379) rfl rfl k) ?_
  refine own_fw (A' := (T81.setTop (mkF m 382 #[.val (.long p1), .second, .val (.int p2), .val (.int p3), .val (.int p4), .val (.int p5), .val (.int r_2), .val (.int r_4), .val (.int r_6), .val (.int r_8), .val (.int r_10), .val (.int r_12), .val (.int r_14), .val (.int r_16), .val (.int r_18), .unset, .unset, .unset, .unset] [(.int (30 : Int32)), (.ref b19), (.ref b19)]))) (fun t k => XS.bipush X81.here hx rfl (hb hby at_380) k) ?_
  refine own_fw (A' := (T81.setTop (mkF m 384 #[.val (.long p1), .second, .val (.int p2), .val (.int p3), .val (.int p4), .val (.int p5), .val (.int r_2), .val (.int r_4), .val (.int r_6), .val (.int r_8), .val (.int r_10), .val (.int r_12), .val (.int r_14), .val (.int r_16), .val (.int r_18), .unset, .unset, .unset, .unset] [(.int r_18), (.int (30 : Int32)), (.ref b19), (.ref b19)]))) (fun t k => XS.iload X81.here hx rfl (hb hby at_382) rfl k) ?_
  obtain ⟨cl83, Ar83, q83, S83, M83, H83, G83⟩ := id V81
  have hin83 : ¬ ((30 : Int32) < 0 ∨ cl83.slots.size ≤ ((30 : Int32)).toNatClampNeg) := inb_of S83 ⟨by decide, by decide⟩
  obtain ⟨T83, h83, X83, e83, W83, st83⟩ := stB X81 hx hZ e81 Ar83 (j := (30 : Int32)) hin83 (g := (mkF m 384 #[.val (.long p1), .second, .val (.int p2), .val (.int p3), .val (.int p4), .val (.int p5), .val (.int r_2), .val (.int r_4), .val (.int r_6), .val (.int r_8), .val (.int r_10), .val (.int r_12), .val (.int r_14), .val (.int r_16), .val (.int r_18), .unset, .unset, .unset, .unset] [(.int r_18), (.int (30 : Int32)), (.ref b19), (.ref b19)])) rfl rfl (hb hby at_384)
  rw [(own_nar8 hr_18)] at W83
  have V83 : Arv Z h83 b19 k19 .byte (40 : Int32) [(.int r_2), (.int r_4), (.int r_6), (.int r_8), (.int r_10), (.int r_12), (.int r_14), (.int r_16), (.int r_18), (.int r_18), (.int r_18), (.int r_18), (.int r_18), (.int r_18), (.int r_18), (.int r_18), (.int r_18), (.int r_18), (.int r_18), (.int r_18), (.int r_18), (.int r_18), (.int r_18), (.int r_18), (.int r_18), (.int r_18), (.int r_18), (.int r_18), (.int r_18), (.int r_18), (.int r_18), (.int (0 : Int32)), (.int (0 : Int32)), (.int (0 : Int32)), (.int (0 : Int32)), (.int (0 : Int32)), (.int (0 : Int32)), (.int (0 : Int32)), (.int (0 : Int32)), (.int (0 : Int32))] (.int (0 : Int32)) := Arv.set Ar83 q83 S83 M83 H83 G83 (own_fit8 hr_18) W83 30 rfl (Nat.le_of_ble_eq_true rfl)
  have F84 : Safe Z own_EL _ h83 b19 := (Safe.wr W83 F82 hH F82)
  have Nf83 := Fr.snoc X83 Nf81 g_b19
  have K83 : Keep h0 h83 [] := K81.wr W83 (Or.inr sz_b19)
  have Z83 : n0 ≤ h83.size := Nat.le_trans Z81 (Keep.of_wr W83).1
  have hk := Nat.le_trans hk (Keep.of_wr W83).1
  have hC := hC.trans (CHr.wr W83 F82 hH)
  have hH := hC.1
  refine own_fw (A' := (T83.setTop (mkF m 385 #[.val (.long p1), .second, .val (.int p2), .val (.int p3), .val (.int p4), .val (.int p5), .val (.int r_2), .val (.int r_4), .val (.int r_6), .val (.int r_8), .val (.int r_10), .val (.int r_12), .val (.int r_14), .val (.int r_16), .val (.int r_18), .unset, .unset, .unset, .unset] [(.ref b19)]))) (fun t k => st83 _ k) ?_
  refine own_fw (A' := (T83.setTop (mkF m 386 #[.val (.long p1), .second, .val (.int p2), .val (.int p3), .val (.int p4), .val (.int p5), .val (.int r_2), .val (.int r_4), .val (.int r_6), .val (.int r_8), .val (.int r_10), .val (.int r_12), .val (.int r_14), .val (.int r_16), .val (.int r_18), .unset, .unset, .unset, .unset] [(.ref b19), (.ref b19)]))) (fun t k => XS.dup X83.here hx rfl (hb hby at_385) rfl rfl k) ?_
  refine own_fw (A' := (T83.setTop (mkF m 388 #[.val (.long p1), .second, .val (.int p2), .val (.int p3), .val (.int p4), .val (.int p5), .val (.int r_2), .val (.int r_4), .val (.int r_6), .val (.int r_8), .val (.int r_10), .val (.int r_12), .val (.int r_14), .val (.int r_16), .val (.int r_18), .unset, .unset, .unset, .unset] [(.int (31 : Int32)), (.ref b19), (.ref b19)]))) (fun t k => XS.bipush X83.here hx rfl (hb hby at_386) k) ?_
  refine own_fw (A' := (T83.setTop (mkF m 390 #[.val (.long p1), .second, .val (.int p2), .val (.int p3), .val (.int p4), .val (.int p5), .val (.int r_2), .val (.int r_4), .val (.int r_6), .val (.int r_8), .val (.int r_10), .val (.int r_12), .val (.int r_14), .val (.int r_16), .val (.int r_18), .unset, .unset, .unset, .unset] [(.int r_18), (.int (31 : Int32)), (.ref b19), (.ref b19)]))) (fun t k => XS.iload X83.here hx rfl (hb hby at_388) rfl k) ?_
  obtain ⟨cl85, Ar85, q85, S85, M85, H85, G85⟩ := id V83
  have hin85 : ¬ ((31 : Int32) < 0 ∨ cl85.slots.size ≤ ((31 : Int32)).toNatClampNeg) := inb_of S85 ⟨by decide, by decide⟩
  obtain ⟨T85, h85, X85, e85, W85, st85⟩ := stB X83 hx hZ e83 Ar85 (j := (31 : Int32)) hin85 (g := (mkF m 390 #[.val (.long p1), .second, .val (.int p2), .val (.int p3), .val (.int p4), .val (.int p5), .val (.int r_2), .val (.int r_4), .val (.int r_6), .val (.int r_8), .val (.int r_10), .val (.int r_12), .val (.int r_14), .val (.int r_16), .val (.int r_18), .unset, .unset, .unset, .unset] [(.int r_18), (.int (31 : Int32)), (.ref b19), (.ref b19)])) rfl rfl (hb hby at_390)
  rw [(own_nar8 hr_18)] at W85
  have V85 : Arv Z h85 b19 k19 .byte (40 : Int32) [(.int r_2), (.int r_4), (.int r_6), (.int r_8), (.int r_10), (.int r_12), (.int r_14), (.int r_16), (.int r_18), (.int r_18), (.int r_18), (.int r_18), (.int r_18), (.int r_18), (.int r_18), (.int r_18), (.int r_18), (.int r_18), (.int r_18), (.int r_18), (.int r_18), (.int r_18), (.int r_18), (.int r_18), (.int r_18), (.int r_18), (.int r_18), (.int r_18), (.int r_18), (.int r_18), (.int r_18), (.int r_18), (.int (0 : Int32)), (.int (0 : Int32)), (.int (0 : Int32)), (.int (0 : Int32)), (.int (0 : Int32)), (.int (0 : Int32)), (.int (0 : Int32)), (.int (0 : Int32))] (.int (0 : Int32)) := Arv.set Ar85 q85 S85 M85 H85 G85 (own_fit8 hr_18) W85 31 rfl (Nat.le_of_ble_eq_true rfl)
  have F86 : Safe Z own_EL _ h85 b19 := (Safe.wr W85 F84 hH F84)
  have Nf85 := Fr.snoc X85 Nf83 g_b19
  have K85 : Keep h0 h85 [] := K83.wr W85 (Or.inr sz_b19)
  have Z85 : n0 ≤ h85.size := Nat.le_trans Z83 (Keep.of_wr W85).1
  have hk := Nat.le_trans hk (Keep.of_wr W85).1
  have hC := hC.trans (CHr.wr W85 F84 hH)
  have hH := hC.1
  refine own_fw (A' := (T85.setTop (mkF m 391 #[.val (.long p1), .second, .val (.int p2), .val (.int p3), .val (.int p4), .val (.int p5), .val (.int r_2), .val (.int r_4), .val (.int r_6), .val (.int r_8), .val (.int r_10), .val (.int r_12), .val (.int r_14), .val (.int r_16), .val (.int r_18), .unset, .unset, .unset, .unset] [(.ref b19)]))) (fun t k => st85 _ k) ?_
  refine own_fw (A' := (T85.setTop (mkF m 392 #[.val (.long p1), .second, .val (.int p2), .val (.int p3), .val (.int p4), .val (.int p5), .val (.int r_2), .val (.int r_4), .val (.int r_6), .val (.int r_8), .val (.int r_10), .val (.int r_12), .val (.int r_14), .val (.int r_16), .val (.int r_18), .unset, .unset, .unset, .unset] [(.ref b19), (.ref b19)]))) (fun t k => XS.dup X85.here hx rfl (hb hby at_391) rfl rfl k) ?_
  refine own_fw (A' := (T85.setTop (mkF m 394 #[.val (.long p1), .second, .val (.int p2), .val (.int p3), .val (.int p4), .val (.int p5), .val (.int r_2), .val (.int r_4), .val (.int r_6), .val (.int r_8), .val (.int r_10), .val (.int r_12), .val (.int r_14), .val (.int r_16), .val (.int r_18), .unset, .unset, .unset, .unset] [(.int (32 : Int32)), (.ref b19), (.ref b19)]))) (fun t k => XS.bipush X85.here hx rfl (hb hby at_392) k) ?_
  refine own_fw (A' := (T85.setTop (mkF m 396 #[.val (.long p1), .second, .val (.int p2), .val (.int p3), .val (.int p4), .val (.int p5), .val (.int r_2), .val (.int r_4), .val (.int r_6), .val (.int r_8), .val (.int r_10), .val (.int r_12), .val (.int r_14), .val (.int r_16), .val (.int r_18), .unset, .unset, .unset, .unset] [(.int r_18), (.int (32 : Int32)), (.ref b19), (.ref b19)]))) (fun t k => XS.iload X85.here hx rfl (hb hby at_394) rfl k) ?_
  obtain ⟨cl87, Ar87, q87, S87, M87, H87, G87⟩ := id V85
  have hin87 : ¬ ((32 : Int32) < 0 ∨ cl87.slots.size ≤ ((32 : Int32)).toNatClampNeg) := inb_of S87 ⟨by decide, by decide⟩
  obtain ⟨T87, h87, X87, e87, W87, st87⟩ := stB X85 hx hZ e85 Ar87 (j := (32 : Int32)) hin87 (g := (mkF m 396 #[.val (.long p1), .second, .val (.int p2), .val (.int p3), .val (.int p4), .val (.int p5), .val (.int r_2), .val (.int r_4), .val (.int r_6), .val (.int r_8), .val (.int r_10), .val (.int r_12), .val (.int r_14), .val (.int r_16), .val (.int r_18), .unset, .unset, .unset, .unset] [(.int r_18), (.int (32 : Int32)), (.ref b19), (.ref b19)])) rfl rfl (hb hby at_396)
  rw [(own_nar8 hr_18)] at W87
  have V87 : Arv Z h87 b19 k19 .byte (40 : Int32) [(.int r_2), (.int r_4), (.int r_6), (.int r_8), (.int r_10), (.int r_12), (.int r_14), (.int r_16), (.int r_18), (.int r_18), (.int r_18), (.int r_18), (.int r_18), (.int r_18), (.int r_18), (.int r_18), (.int r_18), (.int r_18), (.int r_18), (.int r_18), (.int r_18), (.int r_18), (.int r_18), (.int r_18), (.int r_18), (.int r_18), (.int r_18), (.int r_18), (.int r_18), (.int r_18), (.int r_18), (.int r_18), (.int r_18), (.int (0 : Int32)), (.int (0 : Int32)), (.int (0 : Int32)), (.int (0 : Int32)), (.int (0 : Int32)), (.int (0 : Int32)), (.int (0 : Int32))] (.int (0 : Int32)) := Arv.set Ar87 q87 S87 M87 H87 G87 (own_fit8 hr_18) W87 32 rfl (Nat.le_of_ble_eq_true rfl)
  have F88 : Safe Z own_EL _ h87 b19 := (Safe.wr W87 F86 hH F86)
  have Nf87 := Fr.snoc X87 Nf85 g_b19
  have K87 : Keep h0 h87 [] := K85.wr W87 (Or.inr sz_b19)
  have Z87 : n0 ≤ h87.size := Nat.le_trans Z85 (Keep.of_wr W87).1
  have hk := Nat.le_trans hk (Keep.of_wr W87).1
  have hC := hC.trans (CHr.wr W87 F86 hH)
  have hH := hC.1
  refine own_fw (A' := (T87.setTop (mkF m 397 #[.val (.long p1), .second, .val (.int p2), .val (.int p3), .val (.int p4), .val (.int p5), .val (.int r_2), .val (.int r_4), .val (.int r_6), .val (.int r_8), .val (.int r_10), .val (.int r_12), .val (.int r_14), .val (.int r_16), .val (.int r_18), .unset, .unset, .unset, .unset] [(.ref b19)]))) (fun t k => st87 _ k) ?_
  refine own_fw (A' := (T87.setTop (mkF m 398 #[.val (.long p1), .second, .val (.int p2), .val (.int p3), .val (.int p4), .val (.int p5), .val (.int r_2), .val (.int r_4), .val (.int r_6), .val (.int r_8), .val (.int r_10), .val (.int r_12), .val (.int r_14), .val (.int r_16), .val (.int r_18), .unset, .unset, .unset, .unset] [(.ref b19), (.ref b19)]))) (fun t k => XS.dup X87.here hx rfl (hb hby at_397) rfl rfl k) ?_
  refine own_fw (A' := (T87.setTop (mkF m 400 #[.val (.long p1), .second, .val (.int p2), .val (.int p3), .val (.int p4), .val (.int p5), .val (.int r_2), .val (.int r_4), .val (.int r_6), .val (.int r_8), .val (.int r_10), .val (.int r_12), .val (.int r_14), .val (.int r_16), .val (.int r_18), .unset, .unset, .unset, .unset] [(.int (33 : Int32)), (.ref b19), (.ref b19)]))) (fun t k => XS.bipush X87.here hx rfl (hb hby at_398) k) ?_
  refine own_fw (A' := (T87.setTop (mkF m 402 #[.val (.long p1), .second, .val (.int p2), .val (.int p3), .val (.int p4), .val (.int p5), .val (.int r_2), .val (.int r_4), .val (.int r_6), .val (.int r_8), .val (.int r_10), .val (.int r_12), .val (.int r_14), .val (.int r_16), .val (.int r_18), .unset, .unset, .unset, .unset] [(.int r_18), (.int (33 : Int32)), (.ref b19), (.ref b19)]))) (fun t k => XS.iload X87.here hx rfl (hb hby at_400) rfl k) ?_
  obtain ⟨cl89, Ar89, q89, S89, M89, H89, G89⟩ := id V87
  have hin89 : ¬ ((33 : Int32) < 0 ∨ cl89.slots.size ≤ ((33 : Int32)).toNatClampNeg) := inb_of S89 ⟨by decide, by decide⟩
  obtain ⟨T89, h89, X89, e89, W89, st89⟩ := stB X87 hx hZ e87 Ar89 (j := (33 : Int32)) hin89 (g := (mkF m 402 #[.val (.long p1), .second, .val (.int p2), .val (.int p3), .val (.int p4), .val (.int p5), .val (.int r_2), .val (.int r_4), .val (.int r_6), .val (.int r_8), .val (.int r_10), .val (.int r_12), .val (.int r_14), .val (.int r_16), .val (.int r_18), .unset, .unset, .unset, .unset] [(.int r_18), (.int (33 : Int32)), (.ref b19), (.ref b19)])) rfl rfl (hb hby at_402)
  rw [(own_nar8 hr_18)] at W89
  have V89 : Arv Z h89 b19 k19 .byte (40 : Int32) [(.int r_2), (.int r_4), (.int r_6), (.int r_8), (.int r_10), (.int r_12), (.int r_14), (.int r_16), (.int r_18), (.int r_18), (.int r_18), (.int r_18), (.int r_18), (.int r_18), (.int r_18), (.int r_18), (.int r_18), (.int r_18), (.int r_18), (.int r_18), (.int r_18), (.int r_18), (.int r_18), (.int r_18), (.int r_18), (.int r_18), (.int r_18), (.int r_18), (.int r_18), (.int r_18), (.int r_18), (.int r_18), (.int r_18), (.int r_18), (.int (0 : Int32)), (.int (0 : Int32)), (.int (0 : Int32)), (.int (0 : Int32)), (.int (0 : Int32)), (.int (0 : Int32))] (.int (0 : Int32)) := Arv.set Ar89 q89 S89 M89 H89 G89 (own_fit8 hr_18) W89 33 rfl (Nat.le_of_ble_eq_true rfl)
  have F90 : Safe Z own_EL _ h89 b19 := (Safe.wr W89 F88 hH F88)
  have Nf89 := Fr.snoc X89 Nf87 g_b19
  have K89 : Keep h0 h89 [] := K87.wr W89 (Or.inr sz_b19)
  have Z89 : n0 ≤ h89.size := Nat.le_trans Z87 (Keep.of_wr W89).1
  have hk := Nat.le_trans hk (Keep.of_wr W89).1
  have hC := hC.trans (CHr.wr W89 F88 hH)
  have hH := hC.1
  refine own_fw (A' := (T89.setTop (mkF m 403 #[.val (.long p1), .second, .val (.int p2), .val (.int p3), .val (.int p4), .val (.int p5), .val (.int r_2), .val (.int r_4), .val (.int r_6), .val (.int r_8), .val (.int r_10), .val (.int r_12), .val (.int r_14), .val (.int r_16), .val (.int r_18), .unset, .unset, .unset, .unset] [(.ref b19)]))) (fun t k => st89 _ k) ?_
  refine own_fw (A' := (T89.setTop (mkF m 404 #[.val (.long p1), .second, .val (.int p2), .val (.int p3), .val (.int p4), .val (.int p5), .val (.int r_2), .val (.int r_4), .val (.int r_6), .val (.int r_8), .val (.int r_10), .val (.int r_12), .val (.int r_14), .val (.int r_16), .val (.int r_18), .unset, .unset, .unset, .unset] [(.ref b19), (.ref b19)]))) (fun t k => XS.dup X89.here hx rfl (hb hby at_403) rfl rfl k) ?_
  refine own_fw (A' := (T89.setTop (mkF m 406 #[.val (.long p1), .second, .val (.int p2), .val (.int p3), .val (.int p4), .val (.int p5), .val (.int r_2), .val (.int r_4), .val (.int r_6), .val (.int r_8), .val (.int r_10), .val (.int r_12), .val (.int r_14), .val (.int r_16), .val (.int r_18), .unset, .unset, .unset, .unset] [(.int (34 : Int32)), (.ref b19), (.ref b19)]))) (fun t k => XS.bipush X89.here hx rfl (hb hby at_404) k) ?_
  refine own_fw (A' := (T89.setTop (mkF m 408 #[.val (.long p1), .second, .val (.int p2), .val (.int p3), .val (.int p4), .val (.int p5), .val (.int r_2), .val (.int r_4), .val (.int r_6), .val (.int r_8), .val (.int r_10), .val (.int r_12), .val (.int r_14), .val (.int r_16), .val (.int r_18), .unset, .unset, .unset, .unset] [(.int r_18), (.int (34 : Int32)), (.ref b19), (.ref b19)]))) (fun t k => XS.iload X89.here hx rfl (hb hby at_406) rfl k) ?_
  obtain ⟨cl91, Ar91, q91, S91, M91, H91, G91⟩ := id V89
  have hin91 : ¬ ((34 : Int32) < 0 ∨ cl91.slots.size ≤ ((34 : Int32)).toNatClampNeg) := inb_of S91 ⟨by decide, by decide⟩
  obtain ⟨T91, h91, X91, e91, W91, st91⟩ := stB X89 hx hZ e89 Ar91 (j := (34 : Int32)) hin91 (g := (mkF m 408 #[.val (.long p1), .second, .val (.int p2), .val (.int p3), .val (.int p4), .val (.int p5), .val (.int r_2), .val (.int r_4), .val (.int r_6), .val (.int r_8), .val (.int r_10), .val (.int r_12), .val (.int r_14), .val (.int r_16), .val (.int r_18), .unset, .unset, .unset, .unset] [(.int r_18), (.int (34 : Int32)), (.ref b19), (.ref b19)])) rfl rfl (hb hby at_408)
  rw [(own_nar8 hr_18)] at W91
  have V91 : Arv Z h91 b19 k19 .byte (40 : Int32) [(.int r_2), (.int r_4), (.int r_6), (.int r_8), (.int r_10), (.int r_12), (.int r_14), (.int r_16), (.int r_18), (.int r_18), (.int r_18), (.int r_18), (.int r_18), (.int r_18), (.int r_18), (.int r_18), (.int r_18), (.int r_18), (.int r_18), (.int r_18), (.int r_18), (.int r_18), (.int r_18), (.int r_18), (.int r_18), (.int r_18), (.int r_18), (.int r_18), (.int r_18), (.int r_18), (.int r_18), (.int r_18), (.int r_18), (.int r_18), (.int r_18), (.int (0 : Int32)), (.int (0 : Int32)), (.int (0 : Int32)), (.int (0 : Int32)), (.int (0 : Int32))] (.int (0 : Int32)) := Arv.set Ar91 q91 S91 M91 H91 G91 (own_fit8 hr_18) W91 34 rfl (Nat.le_of_ble_eq_true rfl)
  have F92 : Safe Z own_EL _ h91 b19 := (Safe.wr W91 F90 hH F90)
  have Nf91 := Fr.snoc X91 Nf89 g_b19
  have K91 : Keep h0 h91 [] := K89.wr W91 (Or.inr sz_b19)
  have Z91 : n0 ≤ h91.size := Nat.le_trans Z89 (Keep.of_wr W91).1
  have hk := Nat.le_trans hk (Keep.of_wr W91).1
  have hC := hC.trans (CHr.wr W91 F90 hH)
  have hH := hC.1
  refine own_fw (A' := (T91.setTop (mkF m 409 #[.val (.long p1), .second, .val (.int p2), .val (.int p3), .val (.int p4), .val (.int p5), .val (.int r_2), .val (.int r_4), .val (.int r_6), .val (.int r_8), .val (.int r_10), .val (.int r_12), .val (.int r_14), .val (.int r_16), .val (.int r_18), .unset, .unset, .unset, .unset] [(.ref b19)]))) (fun t k => st91 _ k) ?_
  refine own_fw (A' := (T91.setTop (mkF m 410 #[.val (.long p1), .second, .val (.int p2), .val (.int p3), .val (.int p4), .val (.int p5), .val (.int r_2), .val (.int r_4), .val (.int r_6), .val (.int r_8), .val (.int r_10), .val (.int r_12), .val (.int r_14), .val (.int r_16), .val (.int r_18), .unset, .unset, .unset, .unset] [(.ref b19), (.ref b19)]))) (fun t k => XS.dup X91.here hx rfl (hb hby at_409) rfl rfl k) ?_
  refine own_fw (A' := (T91.setTop (mkF m 412 #[.val (.long p1), .second, .val (.int p2), .val (.int p3), .val (.int p4), .val (.int p5), .val (.int r_2), .val (.int r_4), .val (.int r_6), .val (.int r_8), .val (.int r_10), .val (.int r_12), .val (.int r_14), .val (.int r_16), .val (.int r_18), .unset, .unset, .unset, .unset] [(.int (35 : Int32)), (.ref b19), (.ref b19)]))) (fun t k => XS.bipush X91.here hx rfl (hb hby at_410) k) ?_
  refine own_fw (A' := (T91.setTop (mkF m 414 #[.val (.long p1), .second, .val (.int p2), .val (.int p3), .val (.int p4), .val (.int p5), .val (.int r_2), .val (.int r_4), .val (.int r_6), .val (.int r_8), .val (.int r_10), .val (.int r_12), .val (.int r_14), .val (.int r_16), .val (.int r_18), .unset, .unset, .unset, .unset] [(.int r_18), (.int (35 : Int32)), (.ref b19), (.ref b19)]))) (fun t k => XS.iload X91.here hx rfl (hb hby at_412) rfl k) ?_
  obtain ⟨cl93, Ar93, q93, S93, M93, H93, G93⟩ := id V91
  have hin93 : ¬ ((35 : Int32) < 0 ∨ cl93.slots.size ≤ ((35 : Int32)).toNatClampNeg) := inb_of S93 ⟨by decide, by decide⟩
  obtain ⟨T93, h93, X93, e93, W93, st93⟩ := stB X91 hx hZ e91 Ar93 (j := (35 : Int32)) hin93 (g := (mkF m 414 #[.val (.long p1), .second, .val (.int p2), .val (.int p3), .val (.int p4), .val (.int p5), .val (.int r_2), .val (.int r_4), .val (.int r_6), .val (.int r_8), .val (.int r_10), .val (.int r_12), .val (.int r_14), .val (.int r_16), .val (.int r_18), .unset, .unset, .unset, .unset] [(.int r_18), (.int (35 : Int32)), (.ref b19), (.ref b19)])) rfl rfl (hb hby at_414)
  rw [(own_nar8 hr_18)] at W93
  have V93 : Arv Z h93 b19 k19 .byte (40 : Int32) [(.int r_2), (.int r_4), (.int r_6), (.int r_8), (.int r_10), (.int r_12), (.int r_14), (.int r_16), (.int r_18), (.int r_18), (.int r_18), (.int r_18), (.int r_18), (.int r_18), (.int r_18), (.int r_18), (.int r_18), (.int r_18), (.int r_18), (.int r_18), (.int r_18), (.int r_18), (.int r_18), (.int r_18), (.int r_18), (.int r_18), (.int r_18), (.int r_18), (.int r_18), (.int r_18), (.int r_18), (.int r_18), (.int r_18), (.int r_18), (.int r_18), (.int r_18), (.int (0 : Int32)), (.int (0 : Int32)), (.int (0 : Int32)), (.int (0 : Int32))] (.int (0 : Int32)) := Arv.set Ar93 q93 S93 M93 H93 G93 (own_fit8 hr_18) W93 35 rfl (Nat.le_of_ble_eq_true rfl)
  have F94 : Safe Z own_EL _ h93 b19 := (Safe.wr W93 F92 hH F92)
  have Nf93 := Fr.snoc X93 Nf91 g_b19
  have K93 : Keep h0 h93 [] := K91.wr W93 (Or.inr sz_b19)
  have Z93 : n0 ≤ h93.size := Nat.le_trans Z91 (Keep.of_wr W93).1
  have hk := Nat.le_trans hk (Keep.of_wr W93).1
  have hC := hC.trans (CHr.wr W93 F92 hH)
  have hH := hC.1
  refine own_fw (A' := (T93.setTop (mkF m 415 #[.val (.long p1), .second, .val (.int p2), .val (.int p3), .val (.int p4), .val (.int p5), .val (.int r_2), .val (.int r_4), .val (.int r_6), .val (.int r_8), .val (.int r_10), .val (.int r_12), .val (.int r_14), .val (.int r_16), .val (.int r_18), .unset, .unset, .unset, .unset] [(.ref b19)]))) (fun t k => st93 _ k) ?_
  refine own_fw (A' := (T93.setTop (mkF m 416 #[.val (.long p1), .second, .val (.int p2), .val (.int p3), .val (.int p4), .val (.int p5), .val (.int r_2), .val (.int r_4), .val (.int r_6), .val (.int r_8), .val (.int r_10), .val (.int r_12), .val (.int r_14), .val (.int r_16), .val (.int r_18), .unset, .unset, .unset, .unset] [(.ref b19), (.ref b19)]))) (fun t k => XS.dup X93.here hx rfl (hb hby at_415) rfl rfl k) ?_
  refine own_fw (A' := (T93.setTop (mkF m 418 #[.val (.long p1), .second, .val (.int p2), .val (.int p3), .val (.int p4), .val (.int p5), .val (.int r_2), .val (.int r_4), .val (.int r_6), .val (.int r_8), .val (.int r_10), .val (.int r_12), .val (.int r_14), .val (.int r_16), .val (.int r_18), .unset, .unset, .unset, .unset] [(.int (36 : Int32)), (.ref b19), (.ref b19)]))) (fun t k => XS.bipush X93.here hx rfl (hb hby at_416) k) ?_
  refine own_fw (A' := (T93.setTop (mkF m 420 #[.val (.long p1), .second, .val (.int p2), .val (.int p3), .val (.int p4), .val (.int p5), .val (.int r_2), .val (.int r_4), .val (.int r_6), .val (.int r_8), .val (.int r_10), .val (.int r_12), .val (.int r_14), .val (.int r_16), .val (.int r_18), .unset, .unset, .unset, .unset] [(.int r_18), (.int (36 : Int32)), (.ref b19), (.ref b19)]))) (fun t k => XS.iload X93.here hx rfl (hb hby at_418) rfl k) ?_
  obtain ⟨cl95, Ar95, q95, S95, M95, H95, G95⟩ := id V93
  have hin95 : ¬ ((36 : Int32) < 0 ∨ cl95.slots.size ≤ ((36 : Int32)).toNatClampNeg) := inb_of S95 ⟨by decide, by decide⟩
  obtain ⟨T95, h95, X95, e95, W95, st95⟩ := stB X93 hx hZ e93 Ar95 (j := (36 : Int32)) hin95 (g := (mkF m 420 #[.val (.long p1), .second, .val (.int p2), .val (.int p3), .val (.int p4), .val (.int p5), .val (.int r_2), .val (.int r_4), .val (.int r_6), .val (.int r_8), .val (.int r_10), .val (.int r_12), .val (.int r_14), .val (.int r_16), .val (.int r_18), .unset, .unset, .unset, .unset] [(.int r_18), (.int (36 : Int32)), (.ref b19), (.ref b19)])) rfl rfl (hb hby at_420)
  rw [(own_nar8 hr_18)] at W95
  have V95 : Arv Z h95 b19 k19 .byte (40 : Int32) [(.int r_2), (.int r_4), (.int r_6), (.int r_8), (.int r_10), (.int r_12), (.int r_14), (.int r_16), (.int r_18), (.int r_18), (.int r_18), (.int r_18), (.int r_18), (.int r_18), (.int r_18), (.int r_18), (.int r_18), (.int r_18), (.int r_18), (.int r_18), (.int r_18), (.int r_18), (.int r_18), (.int r_18), (.int r_18), (.int r_18), (.int r_18), (.int r_18), (.int r_18), (.int r_18), (.int r_18), (.int r_18), (.int r_18), (.int r_18), (.int r_18), (.int r_18), (.int r_18), (.int (0 : Int32)), (.int (0 : Int32)), (.int (0 : Int32))] (.int (0 : Int32)) := Arv.set Ar95 q95 S95 M95 H95 G95 (own_fit8 hr_18) W95 36 rfl (Nat.le_of_ble_eq_true rfl)
  have F96 : Safe Z own_EL _ h95 b19 := (Safe.wr W95 F94 hH F94)
  have Nf95 := Fr.snoc X95 Nf93 g_b19
  have K95 : Keep h0 h95 [] := K93.wr W95 (Or.inr sz_b19)
  have Z95 : n0 ≤ h95.size := Nat.le_trans Z93 (Keep.of_wr W95).1
  have hk := Nat.le_trans hk (Keep.of_wr W95).1
  have hC := hC.trans (CHr.wr W95 F94 hH)
  have hH := hC.1
  refine own_fw (A' := (T95.setTop (mkF m 421 #[.val (.long p1), .second, .val (.int p2), .val (.int p3), .val (.int p4), .val (.int p5), .val (.int r_2), .val (.int r_4), .val (.int r_6), .val (.int r_8), .val (.int r_10), .val (.int r_12), .val (.int r_14), .val (.int r_16), .val (.int r_18), .unset, .unset, .unset, .unset] [(.ref b19)]))) (fun t k => st95 _ k) ?_
  refine own_fw (A' := (T95.setTop (mkF m 422 #[.val (.long p1), .second, .val (.int p2), .val (.int p3), .val (.int p4), .val (.int p5), .val (.int r_2), .val (.int r_4), .val (.int r_6), .val (.int r_8), .val (.int r_10), .val (.int r_12), .val (.int r_14), .val (.int r_16), .val (.int r_18), .unset, .unset, .unset, .unset] [(.ref b19), (.ref b19)]))) (fun t k => XS.dup X95.here hx rfl (hb hby at_421) rfl rfl k) ?_
  refine own_fw (A' := (T95.setTop (mkF m 424 #[.val (.long p1), .second, .val (.int p2), .val (.int p3), .val (.int p4), .val (.int p5), .val (.int r_2), .val (.int r_4), .val (.int r_6), .val (.int r_8), .val (.int r_10), .val (.int r_12), .val (.int r_14), .val (.int r_16), .val (.int r_18), .unset, .unset, .unset, .unset] [(.int (37 : Int32)), (.ref b19), (.ref b19)]))) (fun t k => XS.bipush X95.here hx rfl (hb hby at_422) k) ?_
  refine own_fw (A' := (T95.setTop (mkF m 426 #[.val (.long p1), .second, .val (.int p2), .val (.int p3), .val (.int p4), .val (.int p5), .val (.int r_2), .val (.int r_4), .val (.int r_6), .val (.int r_8), .val (.int r_10), .val (.int r_12), .val (.int r_14), .val (.int r_16), .val (.int r_18), .unset, .unset, .unset, .unset] [(.int r_18), (.int (37 : Int32)), (.ref b19), (.ref b19)]))) (fun t k => XS.iload X95.here hx rfl (hb hby at_424) rfl k) ?_
  obtain ⟨cl97, Ar97, q97, S97, M97, H97, G97⟩ := id V95
  have hin97 : ¬ ((37 : Int32) < 0 ∨ cl97.slots.size ≤ ((37 : Int32)).toNatClampNeg) := inb_of S97 ⟨by decide, by decide⟩
  obtain ⟨T97, h97, X97, e97, W97, st97⟩ := stB X95 hx hZ e95 Ar97 (j := (37 : Int32)) hin97 (g := (mkF m 426 #[.val (.long p1), .second, .val (.int p2), .val (.int p3), .val (.int p4), .val (.int p5), .val (.int r_2), .val (.int r_4), .val (.int r_6), .val (.int r_8), .val (.int r_10), .val (.int r_12), .val (.int r_14), .val (.int r_16), .val (.int r_18), .unset, .unset, .unset, .unset] [(.int r_18), (.int (37 : Int32)), (.ref b19), (.ref b19)])) rfl rfl (hb hby at_426)
  rw [(own_nar8 hr_18)] at W97
  have V97 : Arv Z h97 b19 k19 .byte (40 : Int32) [(.int r_2), (.int r_4), (.int r_6), (.int r_8), (.int r_10), (.int r_12), (.int r_14), (.int r_16), (.int r_18), (.int r_18), (.int r_18), (.int r_18), (.int r_18), (.int r_18), (.int r_18), (.int r_18), (.int r_18), (.int r_18), (.int r_18), (.int r_18), (.int r_18), (.int r_18), (.int r_18), (.int r_18), (.int r_18), (.int r_18), (.int r_18), (.int r_18), (.int r_18), (.int r_18), (.int r_18), (.int r_18), (.int r_18), (.int r_18), (.int r_18), (.int r_18), (.int r_18), (.int r_18), (.int (0 : Int32)), (.int (0 : Int32))] (.int (0 : Int32)) := Arv.set Ar97 q97 S97 M97 H97 G97 (own_fit8 hr_18) W97 37 rfl (Nat.le_of_ble_eq_true rfl)
  have F98 : Safe Z own_EL _ h97 b19 := (Safe.wr W97 F96 hH F96)
  have Nf97 := Fr.snoc X97 Nf95 g_b19
  have K97 : Keep h0 h97 [] := K95.wr W97 (Or.inr sz_b19)
  have Z97 : n0 ≤ h97.size := Nat.le_trans Z95 (Keep.of_wr W97).1
  have hk := Nat.le_trans hk (Keep.of_wr W97).1
  have hC := hC.trans (CHr.wr W97 F96 hH)
  have hH := hC.1
  refine own_fw (A' := (T97.setTop (mkF m 427 #[.val (.long p1), .second, .val (.int p2), .val (.int p3), .val (.int p4), .val (.int p5), .val (.int r_2), .val (.int r_4), .val (.int r_6), .val (.int r_8), .val (.int r_10), .val (.int r_12), .val (.int r_14), .val (.int r_16), .val (.int r_18), .unset, .unset, .unset, .unset] [(.ref b19)]))) (fun t k => st97 _ k) ?_
  refine own_fw (A' := (T97.setTop (mkF m 428 #[.val (.long p1), .second, .val (.int p2), .val (.int p3), .val (.int p4), .val (.int p5), .val (.int r_2), .val (.int r_4), .val (.int r_6), .val (.int r_8), .val (.int r_10), .val (.int r_12), .val (.int r_14), .val (.int r_16), .val (.int r_18), .unset, .unset, .unset, .unset] [(.ref b19), (.ref b19)]))) (fun t k => XS.dup X97.here hx rfl (hb hby at_427) rfl rfl k) ?_
  refine own_fw (A' := (T97.setTop (mkF m 430 #[.val (.long p1), .second, .val (.int p2), .val (.int p3), .val (.int p4), .val (.int p5), .val (.int r_2), .val (.int r_4), .val (.int r_6), .val (.int r_8), .val (.int r_10), .val (.int r_12), .val (.int r_14), .val (.int r_16), .val (.int r_18), .unset, .unset, .unset, .unset] [(.int (38 : Int32)), (.ref b19), (.ref b19)]))) (fun t k => XS.bipush X97.here hx rfl (hb hby at_428) k) ?_
  refine own_fw (A' := (T97.setTop (mkF m 432 #[.val (.long p1), .second, .val (.int p2), .val (.int p3), .val (.int p4), .val (.int p5), .val (.int r_2), .val (.int r_4), .val (.int r_6), .val (.int r_8), .val (.int r_10), .val (.int r_12), .val (.int r_14), .val (.int r_16), .val (.int r_18), .unset, .unset, .unset, .unset] [(.int r_18), (.int (38 : Int32)), (.ref b19), (.ref b19)]))) (fun t k => XS.iload X97.here hx rfl (hb hby at_430) rfl k) ?_
  obtain ⟨cl99, Ar99, q99, S99, M99, H99, G99⟩ := id V97
  have hin99 : ¬ ((38 : Int32) < 0 ∨ cl99.slots.size ≤ ((38 : Int32)).toNatClampNeg) := inb_of S99 ⟨by decide, by decide⟩
  obtain ⟨T99, h99, X99, e99, W99, st99⟩ := stB X97 hx hZ e97 Ar99 (j := (38 : Int32)) hin99 (g := (mkF m 432 #[.val (.long p1), .second, .val (.int p2), .val (.int p3), .val (.int p4), .val (.int p5), .val (.int r_2), .val (.int r_4), .val (.int r_6), .val (.int r_8), .val (.int r_10), .val (.int r_12), .val (.int r_14), .val (.int r_16), .val (.int r_18), .unset, .unset, .unset, .unset] [(.int r_18), (.int (38 : Int32)), (.ref b19), (.ref b19)])) rfl rfl (hb hby at_432)
  rw [(own_nar8 hr_18)] at W99
  have V99 : Arv Z h99 b19 k19 .byte (40 : Int32) [(.int r_2), (.int r_4), (.int r_6), (.int r_8), (.int r_10), (.int r_12), (.int r_14), (.int r_16), (.int r_18), (.int r_18), (.int r_18), (.int r_18), (.int r_18), (.int r_18), (.int r_18), (.int r_18), (.int r_18), (.int r_18), (.int r_18), (.int r_18), (.int r_18), (.int r_18), (.int r_18), (.int r_18), (.int r_18), (.int r_18), (.int r_18), (.int r_18), (.int r_18), (.int r_18), (.int r_18), (.int r_18), (.int r_18), (.int r_18), (.int r_18), (.int r_18), (.int r_18), (.int r_18), (.int r_18), (.int (0 : Int32))] (.int (0 : Int32)) := Arv.set Ar99 q99 S99 M99 H99 G99 (own_fit8 hr_18) W99 38 rfl (Nat.le_of_ble_eq_true rfl)
  have F100 : Safe Z own_EL _ h99 b19 := (Safe.wr W99 F98 hH F98)
  have Nf99 := Fr.snoc X99 Nf97 g_b19
  have K99 : Keep h0 h99 [] := K97.wr W99 (Or.inr sz_b19)
  have Z99 : n0 ≤ h99.size := Nat.le_trans Z97 (Keep.of_wr W99).1
  have hk := Nat.le_trans hk (Keep.of_wr W99).1
  have hC := hC.trans (CHr.wr W99 F98 hH)
  have hH := hC.1
  refine own_fw (A' := (T99.setTop (mkF m 433 #[.val (.long p1), .second, .val (.int p2), .val (.int p3), .val (.int p4), .val (.int p5), .val (.int r_2), .val (.int r_4), .val (.int r_6), .val (.int r_8), .val (.int r_10), .val (.int r_12), .val (.int r_14), .val (.int r_16), .val (.int r_18), .unset, .unset, .unset, .unset] [(.ref b19)]))) (fun t k => st99 _ k) ?_
  refine own_fw (A' := (T99.setTop (mkF m 434 #[.val (.long p1), .second, .val (.int p2), .val (.int p3), .val (.int p4), .val (.int p5), .val (.int r_2), .val (.int r_4), .val (.int r_6), .val (.int r_8), .val (.int r_10), .val (.int r_12), .val (.int r_14), .val (.int r_16), .val (.int r_18), .unset, .unset, .unset, .unset] [(.ref b19), (.ref b19)]))) (fun t k => XS.dup X99.here hx rfl (hb hby at_433) rfl rfl k) ?_
  refine own_fw (A' := (T99.setTop (mkF m 436 #[.val (.long p1), .second, .val (.int p2), .val (.int p3), .val (.int p4), .val (.int p5), .val (.int r_2), .val (.int r_4), .val (.int r_6), .val (.int r_8), .val (.int r_10), .val (.int r_12), .val (.int r_14), .val (.int r_16), .val (.int r_18), .unset, .unset, .unset, .unset] [(.int (39 : Int32)), (.ref b19), (.ref b19)]))) (fun t k => XS.bipush X99.here hx rfl (hb hby at_434) k) ?_
  refine own_fw (A' := (T99.setTop (mkF m 438 #[.val (.long p1), .second, .val (.int p2), .val (.int p3), .val (.int p4), .val (.int p5), .val (.int r_2), .val (.int r_4), .val (.int r_6), .val (.int r_8), .val (.int r_10), .val (.int r_12), .val (.int r_14), .val (.int r_16), .val (.int r_18), .unset, .unset, .unset, .unset] [(.int r_18), (.int (39 : Int32)), (.ref b19), (.ref b19)]))) (fun t k => XS.iload X99.here hx rfl (hb hby at_436) rfl k) ?_
  obtain ⟨cl101, Ar101, q101, S101, M101, H101, G101⟩ := id V99
  have hin101 : ¬ ((39 : Int32) < 0 ∨ cl101.slots.size ≤ ((39 : Int32)).toNatClampNeg) := inb_of S101 ⟨by decide, by decide⟩
  obtain ⟨T101, h101, X101, e101, W101, st101⟩ := stB X99 hx hZ e99 Ar101 (j := (39 : Int32)) hin101 (g := (mkF m 438 #[.val (.long p1), .second, .val (.int p2), .val (.int p3), .val (.int p4), .val (.int p5), .val (.int r_2), .val (.int r_4), .val (.int r_6), .val (.int r_8), .val (.int r_10), .val (.int r_12), .val (.int r_14), .val (.int r_16), .val (.int r_18), .unset, .unset, .unset, .unset] [(.int r_18), (.int (39 : Int32)), (.ref b19), (.ref b19)])) rfl rfl (hb hby at_438)
  rw [(own_nar8 hr_18)] at W101
  have V101 : Arv Z h101 b19 k19 .byte (40 : Int32) [(.int r_2), (.int r_4), (.int r_6), (.int r_8), (.int r_10), (.int r_12), (.int r_14), (.int r_16), (.int r_18), (.int r_18), (.int r_18), (.int r_18), (.int r_18), (.int r_18), (.int r_18), (.int r_18), (.int r_18), (.int r_18), (.int r_18), (.int r_18), (.int r_18), (.int r_18), (.int r_18), (.int r_18), (.int r_18), (.int r_18), (.int r_18), (.int r_18), (.int r_18), (.int r_18), (.int r_18), (.int r_18), (.int r_18), (.int r_18), (.int r_18), (.int r_18), (.int r_18), (.int r_18), (.int r_18), (.int r_18)] (.int (0 : Int32)) := Arv.set Ar101 q101 S101 M101 H101 G101 (own_fit8 hr_18) W101 39 rfl (Nat.le_of_ble_eq_true rfl)
  have F102 : Safe Z own_EL _ h101 b19 := (Safe.wr W101 F100 hH F100)
  have Nf101 := Fr.snoc X101 Nf99 g_b19
  have K101 : Keep h0 h101 [] := K99.wr W101 (Or.inr sz_b19)
  have Z101 : n0 ≤ h101.size := Nat.le_trans Z99 (Keep.of_wr W101).1
  have hk := Nat.le_trans hk (Keep.of_wr W101).1
  have hC := hC.trans (CHr.wr W101 F100 hH)
  have hH := hC.1
  refine own_fw (A' := (T101.setTop (mkF m 439 #[.val (.long p1), .second, .val (.int p2), .val (.int p3), .val (.int p4), .val (.int p5), .val (.int r_2), .val (.int r_4), .val (.int r_6), .val (.int r_8), .val (.int r_10), .val (.int r_12), .val (.int r_14), .val (.int r_16), .val (.int r_18), .unset, .unset, .unset, .unset] [(.ref b19)]))) (fun t k => st101 _ k) ?_
  refine own_fw (A' := (T101.setTop (mkF m 441 #[.val (.long p1), .second, .val (.int p2), .val (.int p3), .val (.int p4), .val (.int p5), .val (.int r_2), .val (.int r_4), .val (.int r_6), .val (.int r_8), .val (.int r_10), .val (.int r_12), .val (.int r_14), .val (.int r_16), .val (.int r_18), .val (.ref b19), .unset, .unset, .unset] []))) (fun t k => XS.astore X101.here hx rfl (hb hby at_439) rfl rfl (l' := #[.val (.long p1), .second, .val (.int p2), .val (.int p3), .val (.int p4), .val (.int p5), .val (.int r_2), .val (.int r_4), .val (.int r_6), .val (.int r_8), .val (.int r_10), .val (.int r_12), .val (.int r_14), .val (.int r_16), .val (.int r_18), .val (.ref b19), .unset, .unset, .unset]) rfl k) ?_
  obtain ⟨LQ, X101, Nf101⟩ := own_hide X101 Nf101
  refine own_fw (A' := (T101.setTop (mkF m 443 #[.val (.long p1), .second, .val (.int p2), .val (.int p3), .val (.int p4), .val (.int p5), .val (.int r_2), .val (.int r_4), .val (.int r_6), .val (.int r_8), .val (.int r_10), .val (.int r_12), .val (.int r_14), .val (.int r_16), .val (.int r_18), .val (.ref b19), .unset, .unset, .unset] [(.int p4)]))) (fun t k => XS.iload X101.here hx rfl (hb hby at_441) rfl k) ?_
  refine own_fw (A' := (T101.setTop (mkF m 445 #[.val (.long p1), .second, .val (.int p2), .val (.int p3), .val (.int p4), .val (.int p5), .val (.int r_2), .val (.int r_4), .val (.int r_6), .val (.int r_8), .val (.int r_10), .val (.int r_12), .val (.int r_14), .val (.int r_16), .val (.int r_18), .val (.ref b19), .unset, .unset, .unset] [(.int (7 : Int32)), (.int p4)]))) (fun t k => XS.bipush X101.here hx rfl (hb hby at_443) k) ?_
  refine own_fw (A' := (T101.setTop (mkF m 446 #[.val (.long p1), .second, .val (.int p2), .val (.int p3), .val (.int p4), .val (.int p5), .val (.int r_2), .val (.int r_4), .val (.int r_6), .val (.int r_8), .val (.int r_10), .val (.int r_12), .val (.int r_14), .val (.int r_16), .val (.int r_18), .val (.ref b19), .unset, .unset, .unset] [(.int (p4 &&& (7 : Int32)))]))) (fun t k => XS.iand X101.here hx rfl (hb hby at_445) rfl k) ?_
  refine own_fw (A' := (T101.setTop (mkF m 448 #[.val (.long p1), .second, .val (.int p2), .val (.int p3), .val (.int p4), .val (.int p5), .val (.int r_2), .val (.int r_4), .val (.int r_6), .val (.int r_8), .val (.int r_10), .val (.int r_12), .val (.int r_14), .val (.int r_16), .val (.int r_18), .val (.ref b19), .val (.int (p4 &&& (7 : Int32))), .unset, .unset] []))) (fun t k => XS.istore X101.here hx rfl (hb hby at_446) rfl (l' := #[.val (.long p1), .second, .val (.int p2), .val (.int p3), .val (.int p4), .val (.int p5), .val (.int r_2), .val (.int r_4), .val (.int r_6), .val (.int r_8), .val (.int r_10), .val (.int r_12), .val (.int r_14), .val (.int r_16), .val (.int r_18), .val (.ref b19), .val (.int (p4 &&& (7 : Int32))), .unset, .unset]) rfl k) ?_
  refine own_fw (A' := (T101.setTop (mkF m 449 #[.val (.long p1), .second, .val (.int p2), .val (.int p3), .val (.int p4), .val (.int p5), .val (.int r_2), .val (.int r_4), .val (.int r_6), .val (.int r_8), .val (.int r_10), .val (.int r_12), .val (.int r_14), .val (.int r_16), .val (.int r_18), .val (.ref b19), .val (.int (p4 &&& (7 : Int32))), .unset, .unset] [(.int p2)]))) (fun t k => XS.iloadN X101.here hx rfl (hb hby at_448) rfl k) ?_
  refine own_fw (A' := (T101.setTop (mkF m 451 #[.val (.long p1), .second, .val (.int p2), .val (.int p3), .val (.int p4), .val (.int p5), .val (.int r_2), .val (.int r_4), .val (.int r_6), .val (.int r_8), .val (.int r_10), .val (.int r_12), .val (.int r_14), .val (.int r_16), .val (.int r_18), .val (.ref b19), .val (.int (p4 &&& (7 : Int32))), .unset, .unset] [(.int (9 : Int32)), (.int p2)]))) (fun t k => XS.bipush X101.here hx rfl (hb hby at_449) k) ?_
  refine own_fw (A' := (T101.setTop (mkF m 452 #[.val (.long p1), .second, .val (.int p2), .val (.int p3), .val (.int p4), .val (.int p5), .val (.int r_2), .val (.int r_4), .val (.int r_6), .val (.int r_8), .val (.int r_10), .val (.int r_12), .val (.int r_14), .val (.int r_16), .val (.int r_18), .val (.ref b19), .val (.int (p4 &&& (7 : Int32))), .unset, .unset] [(.int ((p2.toUInt32 >>> ((9 : Int32) &&& 31).toUInt32).toInt32))]))) (fun t k => XS.iushr X101.here hx rfl (hb hby at_451) rfl k) ?_
  refine own_fw (A' := (T101.setTop (mkF m 453 #[.val (.long p1), .second, .val (.int p2), .val (.int p3), .val (.int p4), .val (.int p5), .val (.int r_2), .val (.int r_4), .val (.int r_6), .val (.int r_8), .val (.int r_10), .val (.int r_12), .val (.int r_14), .val (.int r_16), .val (.int r_18), .val (.ref b19), .val (.int (p4 &&& (7 : Int32))), .unset, .unset] [(.int (1 : Int32)), (.int ((p2.toUInt32 >>> ((9 : Int32) &&& 31).toUInt32).toInt32))]))) (fun t k => XS.iconst X101.here hx rfl (hb hby at_452) k) ?_
  refine own_fw (A' := (T101.setTop (mkF m 454 #[.val (.long p1), .second, .val (.int p2), .val (.int p3), .val (.int p4), .val (.int p5), .val (.int r_2), .val (.int r_4), .val (.int r_6), .val (.int r_8), .val (.int r_10), .val (.int r_12), .val (.int r_14), .val (.int r_16), .val (.int r_18), .val (.ref b19), .val (.int (p4 &&& (7 : Int32))), .unset, .unset] [(.int (((p2.toUInt32 >>> ((9 : Int32) &&& 31).toUInt32).toInt32) &&& (1 : Int32)))]))) (fun t k => XS.iand X101.here hx rfl (hb hby at_453) rfl k) ?_
  refine own_fw (A' := (T101.setTop (mkF m 470 #[.val (.long p1), .second, .val (.int p2), .val (.int p3), .val (.int p4), .val (.int p5), .val (.int r_2), .val (.int r_4), .val (.int r_6), .val (.int r_8), .val (.int r_10), .val (.int r_12), .val (.int r_14), .val (.int r_16), .val (.int r_18), .val (.ref b19), .val (.int (p4 &&& (7 : Int32))), .unset, .unset] [(.int (if (((p2.toUInt32 >>> ((9 : Int32) &&& 31).toUInt32).toInt32) &&& (1 : Int32)) = (0 : Int32) then ((p5 &&& (2147483647 : Int32)) % (34 : Int32)) else p5))]))) (fun t k => ?_) ?_
  · by_cases hj103 : (((p2.toUInt32 >>> ((9 : Int32) &&& 31).toUInt32).toInt32) &&& (1 : Int32)) = (0 : Int32)
    · try simp only [if_pos hj103] at k
      refine own_st (A' := (T101.setTop (mkF m 462 #[.val (.long p1), .second, .val (.int p2), .val (.int p3), .val (.int p4), .val (.int p5), .val (.int r_2), .val (.int r_4), .val (.int r_6), .val (.int r_8), .val (.int r_10), .val (.int r_12), .val (.int r_14), .val (.int r_16), .val (.int r_18), .val (.ref b19), .val (.int (p4 &&& (7 : Int32))), .unset, .unset] []))) (fun t k => XS.ifYes X101.here hx rfl (pc0 := 454) (pc' := 462) rfl (hb hby at_454) rfl (XT.i0_eq_t hj103) (by decide) (by decide) k) ?_
      refine own_st (A' := (T101.setTop (mkF m 464 #[.val (.long p1), .second, .val (.int p2), .val (.int p3), .val (.int p4), .val (.int p5), .val (.int r_2), .val (.int r_4), .val (.int r_6), .val (.int r_8), .val (.int r_10), .val (.int r_12), .val (.int r_14), .val (.int r_16), .val (.int r_18), .val (.ref b19), .val (.int (p4 &&& (7 : Int32))), .unset, .unset] [(.int p5)]))) (fun t k => XS.iload X101.here hx rfl (hb hby at_462) rfl k) ?_
      refine own_st (A' := (T101.setTop (mkF m 466 #[.val (.long p1), .second, .val (.int p2), .val (.int p3), .val (.int p4), .val (.int p5), .val (.int r_2), .val (.int r_4), .val (.int r_6), .val (.int r_8), .val (.int r_10), .val (.int r_12), .val (.int r_14), .val (.int r_16), .val (.int r_18), .val (.ref b19), .val (.int (p4 &&& (7 : Int32))), .unset, .unset] [(.int (2147483647 : Int32)), (.int p5)]))) (fun t k => X101.ldcInt hx hown (mvT hZ (hw _ (List.mem_of_getElem? (i := 37) rfl))) (g := (mkF m 464 #[.val (.long p1), .second, .val (.int p2), .val (.int p3), .val (.int p4), .val (.int p5), .val (.int r_2), .val (.int r_4), .val (.int r_6), .val (.int r_8), .val (.int r_10), .val (.int r_12), .val (.int r_14), .val (.int r_16), .val (.int r_18), .val (.ref b19), .val (.int (p4 &&& (7 : Int32))), .unset, .unset] [(.int p5)])) rfl (hb hby at_464) _ k) ?_
      refine own_st (A' := (T101.setTop (mkF m 467 #[.val (.long p1), .second, .val (.int p2), .val (.int p3), .val (.int p4), .val (.int p5), .val (.int r_2), .val (.int r_4), .val (.int r_6), .val (.int r_8), .val (.int r_10), .val (.int r_12), .val (.int r_14), .val (.int r_16), .val (.int r_18), .val (.ref b19), .val (.int (p4 &&& (7 : Int32))), .unset, .unset] [(.int (p5 &&& (2147483647 : Int32)))]))) (fun t k => XS.iand X101.here hx rfl (hb hby at_466) rfl k) ?_
      refine own_st (A' := (T101.setTop (mkF m 469 #[.val (.long p1), .second, .val (.int p2), .val (.int p3), .val (.int p4), .val (.int p5), .val (.int r_2), .val (.int r_4), .val (.int r_6), .val (.int r_8), .val (.int r_10), .val (.int r_12), .val (.int r_14), .val (.int r_16), .val (.int r_18), .val (.ref b19), .val (.int (p4 &&& (7 : Int32))), .unset, .unset] [(.int (34 : Int32)), (.int (p5 &&& (2147483647 : Int32)))]))) (fun t k => XS.bipush X101.here hx rfl (hb hby at_467) k) ?_
      refine own_st (A' := (T101.setTop (mkF m 470 #[.val (.long p1), .second, .val (.int p2), .val (.int p3), .val (.int p4), .val (.int p5), .val (.int r_2), .val (.int r_4), .val (.int r_6), .val (.int r_8), .val (.int r_10), .val (.int r_12), .val (.int r_14), .val (.int r_16), .val (.int r_18), .val (.ref b19), .val (.int (p4 &&& (7 : Int32))), .unset, .unset] [(.int ((p5 &&& (2147483647 : Int32)) % (34 : Int32)))]))) (fun t k => iremM X101 hx rfl (hb hby at_469) rfl (by decide) k) ?_
      exact k
    · try simp only [if_neg hj103] at k
      refine own_st (A' := (T101.setTop (mkF m 457 #[.val (.long p1), .second, .val (.int p2), .val (.int p3), .val (.int p4), .val (.int p5), .val (.int r_2), .val (.int r_4), .val (.int r_6), .val (.int r_8), .val (.int r_10), .val (.int r_12), .val (.int r_14), .val (.int r_16), .val (.int r_18), .val (.ref b19), .val (.int (p4 &&& (7 : Int32))), .unset, .unset] []))) (fun t k => XS.ifNo X101.here hx rfl (hb hby at_454) rfl (XT.i0_eq_f hj103) k) ?_
      refine own_st (A' := (T101.setTop (mkF m 459 #[.val (.long p1), .second, .val (.int p2), .val (.int p3), .val (.int p4), .val (.int p5), .val (.int r_2), .val (.int r_4), .val (.int r_6), .val (.int r_8), .val (.int r_10), .val (.int r_12), .val (.int r_14), .val (.int r_16), .val (.int r_18), .val (.ref b19), .val (.int (p4 &&& (7 : Int32))), .unset, .unset] [(.int p5)]))) (fun t k => XS.iload X101.here hx rfl (hb hby at_457) rfl k) ?_
      refine own_st (A' := (T101.setTop (mkF m 470 #[.val (.long p1), .second, .val (.int p2), .val (.int p3), .val (.int p4), .val (.int p5), .val (.int r_2), .val (.int r_4), .val (.int r_6), .val (.int r_8), .val (.int r_10), .val (.int r_12), .val (.int r_14), .val (.int r_16), .val (.int r_18), .val (.ref b19), .val (.int (p4 &&& (7 : Int32))), .unset, .unset] [(.int p5)]))) (fun t k => XS.goto X101.here hx rfl (pc0 := 459) (pc' := 470) rfl (hb hby at_459) (by decide) (by decide) k) ?_
      exact k
  obtain ⟨ln, h_ln⟩ : ∃ z : Int32, z = (if (((p2.toUInt32 >>> ((9 : Int32) &&& 31).toUInt32).toInt32) &&& (1 : Int32)) = (0 : Int32) then ((p5 &&& (2147483647 : Int32)) % (34 : Int32)) else p5) := ⟨_, rfl⟩
  rw [← h_ln]
  refine own_fw (A' := (T101.setTop (mkF m 472 #[.val (.long p1), .second, .val (.int p2), .val (.int p3), .val (.int p4), .val (.int p5), .val (.int r_2), .val (.int r_4), .val (.int r_6), .val (.int r_8), .val (.int r_10), .val (.int r_12), .val (.int r_14), .val (.int r_16), .val (.int r_18), .val (.ref b19), .val (.int (p4 &&& (7 : Int32))), .val (.int ln), .unset] []))) (fun t k => XS.istore X101.here hx rfl (hb hby at_470) rfl (l' := #[.val (.long p1), .second, .val (.int p2), .val (.int p3), .val (.int p4), .val (.int p5), .val (.int r_2), .val (.int r_4), .val (.int r_6), .val (.int r_8), .val (.int r_10), .val (.int r_12), .val (.int r_14), .val (.int r_16), .val (.int r_18), .val (.ref b19), .val (.int (p4 &&& (7 : Int32))), .val (.int ln), .unset]) rfl k) ?_
  refine own_fw (A' := (T101.setTop (mkF m 474 #[.val (.long p1), .second, .val (.int p2), .val (.int p3), .val (.int p4), .val (.int p5), .val (.int r_2), .val (.int r_4), .val (.int r_6), .val (.int r_8), .val (.int r_10), .val (.int r_12), .val (.int r_14), .val (.int r_16), .val (.int r_18), .val (.ref b19), .val (.int (p4 &&& (7 : Int32))), .val (.int ln), .unset] [(.int ln)]))) (fun t k => XS.iload X101.here hx rfl (hb hby at_472) rfl k) ?_
  refine own_fw (A' := (T101.setTop (mkF m 475 #[.val (.long p1), .second, .val (.int p2), .val (.int p3), .val (.int p4), .val (.int p5), .val (.int r_2), .val (.int r_4), .val (.int r_6), .val (.int r_8), .val (.int r_10), .val (.int r_12), .val (.int r_14), .val (.int r_16), .val (.int r_18), .val (.ref b19), .val (.int (p4 &&& (7 : Int32))), .val (.int ln), .unset] [(.int (1 : Int32)), (.int ln)]))) (fun t k => XS.iconst X101.here hx rfl (hb hby at_474) k) ?_
  by_cases hc104 : ln < (1 : Int32)
  · refine own_fw (A' := (T101.setTop (mkF m 485 #[.val (.long p1), .second, .val (.int p2), .val (.int p3), .val (.int p4), .val (.int p5), .val (.int r_2), .val (.int r_4), .val (.int r_6), .val (.int r_8), .val (.int r_10), .val (.int r_12), .val (.int r_14), .val (.int r_16), .val (.int r_18), .val (.ref b19), .val (.int (p4 &&& (7 : Int32))), .val (.int ln), .unset] []))) (fun t k => XS.icmpYes X101.here hx rfl (pc0 := 475) (pc' := 485) rfl (hb hby at_475) rfl (XT.ii_lt_t hc104) (by decide) (by decide) k) ?_
    refine own_fw (A' := (T101.setTop (mkF m 486 #[.val (.long p1), .second, .val (.int p2), .val (.int p3), .val (.int p4), .val (.int p5), .val (.int r_2), .val (.int r_4), .val (.int r_6), .val (.int r_8), .val (.int r_10), .val (.int r_12), .val (.int r_14), .val (.int r_16), .val (.int r_18), .val (.ref b19), .val (.int (p4 &&& (7 : Int32))), .val (.int ln), .unset] [(.int (0 : Int32))]))) (fun t k => XS.iconst X101.here hx rfl (hb hby at_485) k) ?_
    refine own_fw (A' := (T101.setTop (mkF m 488 #[.val (.long p1), .second, .val (.int p2), .val (.int p3), .val (.int p4), .val (.int p5), .val (.int r_2), .val (.int r_4), .val (.int r_6), .val (.int r_8), .val (.int r_10), .val (.int r_12), .val (.int r_14), .val (.int r_16), .val (.int r_18), .val (.ref b19), .val (.int (p4 &&& (7 : Int32))), .val (.int ln), .val (.int (0 : Int32))] []))) (fun t k => XS.istore X101.here hx rfl (hb hby at_486) rfl (l' := #[.val (.long p1), .second, .val (.int p2), .val (.int p3), .val (.int p4), .val (.int p5), .val (.int r_2), .val (.int r_4), .val (.int r_6), .val (.int r_8), .val (.int r_10), .val (.int r_12), .val (.int r_14), .val (.int r_16), .val (.int r_18), .val (.ref b19), .val (.int (p4 &&& (7 : Int32))), .val (.int ln), .val (.int (0 : Int32))]) rfl k) ?_
    refine own_fw (A' := (T101.setTop (mkF m 638 #[.val (.long p1), .second, .val (.int p2), .val (.int p3), .val (.int p4), .val (.int p5), .val (.int r_2), .val (.int r_4), .val (.int r_6), .val (.int r_8), .val (.int r_10), .val (.int r_12), .val (.int r_14), .val (.int r_16), .val (.int r_18), .val (.ref b19), .val (.int (p4 &&& (7 : Int32))), .val (.int ln), .val (.int (0 : Int32))] []))) (fun t k => XS.goto X101.here hx rfl (pc0 := 488) (pc' := 638) rfl (hb hby at_488) (by decide) (by decide) k) ?_
    refine own_fw (A' := (T101.setTop (mkF m 640 #[.val (.long p1), .second, .val (.int p2), .val (.int p3), .val (.int p4), .val (.int p5), .val (.int r_2), .val (.int r_4), .val (.int r_6), .val (.int r_8), .val (.int r_10), .val (.int r_12), .val (.int r_14), .val (.int r_16), .val (.int r_18), .val (.ref b19), .val (.int (p4 &&& (7 : Int32))), .val (.int ln), .val (.int (0 : Int32))] [(.ref b19)]))) (fun t k => XS.aload X101.here hx rfl (hb hby at_638) rfl rfl k) ?_
    refine own_fw (A' := (T101.setTop (mkF m 642 #[.val (.long p1), .second, .val (.int p2), .val (.int p3), .val (.int p4), .val (.int p5), .val (.int r_2), .val (.int r_4), .val (.int r_6), .val (.int r_8), .val (.int r_10), .val (.int r_12), .val (.int r_14), .val (.int r_16), .val (.int r_18), .val (.ref b19), .val (.int (p4 &&& (7 : Int32))), .val (.int ln), .val (.int (0 : Int32))] [(.int (p4 &&& (7 : Int32))), (.ref b19)]))) (fun t k => XS.iload X101.here hx rfl (hb hby at_640) rfl k) ?_
    refine own_fw (A' := (T101.setTop (mkF m 644 #[.val (.long p1), .second, .val (.int p2), .val (.int p3), .val (.int p4), .val (.int p5), .val (.int r_2), .val (.int r_4), .val (.int r_6), .val (.int r_8), .val (.int r_10), .val (.int r_12), .val (.int r_14), .val (.int r_16), .val (.int r_18), .val (.ref b19), .val (.int (p4 &&& (7 : Int32))), .val (.int ln), .val (.int (0 : Int32))] [(.int ln), (.int (p4 &&& (7 : Int32))), (.ref b19)]))) (fun t k => XS.iload X101.here hx rfl (hb hby at_642) rfl k) ?_
    obtain ⟨_, _, ⟨T105, L105, k105, n105⟩, -, X105, ⟨Lc105, hQ105, l105, y105, z105⟩, st105⟩ := Jvm.LawKit.callS X101 hx (y := (⟨"com/example/log_to_isles/logtoisles/model/NodeName", "follows", "([BII)Z"⟩ : MethodName)) hown (mvT hZ (hw _ (List.mem_of_getElem? (i := 44) rfl))) (mvT hZ (hw _ (List.mem_of_getElem? (i := 45) rfl))) (mvT hZ (hw _ (List.mem_of_getElem? (i := 46) rfl))) (mvT hZ (hw _ (List.mem_of_getElem? (i := 47) rfl))) (by decide) (backOf (W := 0) (rmFol l Z a0 hw [] b19 k19 r_2 r_4 r_6 r_8 r_10 r_12 r_14 r_16 r_18 (p4 &&& (7 : Int32)) ln h101 n0 Z101 V101 (own_oM _)) hZ (hw _ (List.mem_of_getElem? (i := 47) rfl)) (hw _ (List.mem_of_getElem? (i := 46) rfl)) (by decide) (by decide)) (g := (mkF m 644 #[.val (.long p1), .second, .val (.int p2), .val (.int p3), .val (.int p4), .val (.int p5), .val (.int r_2), .val (.int r_4), .val (.int r_6), .val (.int r_8), .val (.int r_10), .val (.int r_12), .val (.int r_14), .val (.int r_16), .val (.int r_18), .val (.ref b19), .val (.int (p4 &&& (7 : Int32))), .val (.int ln), .val (.int (0 : Int32))] [(.int ln), (.int (p4 &&& (7 : Int32))), (.ref b19)])) rfl (by rw [hml]; rfl) (argsL := [(.ref b19), (.int (p4 &&& (7 : Int32))), (.int ln)]) (rest := []) (lenOf pd___BII_Z rfl) rfl (by show 2 * 0 + _ ≤ _; exact Nat.le_of_eq rfl) (hb hby at_644) (fun _ _ => ⟨rfl, e101, (by decide : 3 + 0 ≤ _), (by decide : 192 + 0 ≤ _)⟩)
    dsimp only [Pt.U, Pt.locs, Pt.cells, Pt.slots] at X105 l105 y105 z105 st105 hQ105
    subst l105 y105 z105
    obtain ⟨rfl, Nq105, e105⟩ := hQ105
    have Nf105 := Fr.app Nf101 Nq105
    refine own_fw (A' := (T105.setTop (mkF m 647 #[.val (.long p1), .second, .val (.int p2), .val (.int p3), .val (.int p4), .val (.int p5), .val (.int r_2), .val (.int r_4), .val (.int r_6), .val (.int r_8), .val (.int r_10), .val (.int r_12), .val (.int r_14), .val (.int r_16), .val (.int r_18), .val (.ref b19), .val (.int (p4 &&& (7 : Int32))), .val (.int ln), .val (.int (0 : Int32))] [(.int (own_fol (own_buf r_2 r_4 r_6 r_8 r_10 r_12 r_14 r_16 r_18) (p4 &&& (7 : Int32)) ln))]))) (fun t k => st105 _ k) ?_
    refine own_fw (A' := (T105.setTop (mkF m 649 #[.val (.long p1), .second, .val (.int p2), .val (.int p3), .val (.int p4), .val (.int p5), .val (.int r_2), .val (.int r_4), .val (.int r_6), .val (.int r_8), .val (.int r_10), .val (.int r_12), .val (.int r_14), .val (.int r_16), .val (.int r_18), .val (.ref b19), .val (.int (p4 &&& (7 : Int32))), .val (.int ln), .val (.int (0 : Int32))] [(.int (0 : Int32)), (.int (own_fol (own_buf r_2 r_4 r_6 r_8 r_10 r_12 r_14 r_16 r_18) (p4 &&& (7 : Int32)) ln))]))) (fun t k => XS.iload X105.here hx rfl (hb hby at_647) rfl k) ?_
    refine own_fw (A' := (T105.setTop (mkF m 652 #[.val (.long p1), .second, .val (.int p2), .val (.int p3), .val (.int p4), .val (.int p5), .val (.int r_2), .val (.int r_4), .val (.int r_6), .val (.int r_8), .val (.int r_10), .val (.int r_12), .val (.int r_14), .val (.int r_16), .val (.int r_18), .val (.ref b19), .val (.int (p4 &&& (7 : Int32))), .val (.int ln), .val (.int (0 : Int32))] []))) (fun t k => XS.icmpNo X105.here hx rfl (hb hby at_649) rfl (XT.ii_ne_f (own_fa hc104)) k) ?_
    refine own_fw (A' := (T105.setTop (mkF m 653 #[.val (.long p1), .second, .val (.int p2), .val (.int p3), .val (.int p4), .val (.int p5), .val (.int r_2), .val (.int r_4), .val (.int r_6), .val (.int r_8), .val (.int r_10), .val (.int r_12), .val (.int r_14), .val (.int r_16), .val (.int r_18), .val (.ref b19), .val (.int (p4 &&& (7 : Int32))), .val (.int ln), .val (.int (0 : Int32))] [(.int (1 : Int32))]))) (fun t k => XS.iconst X105.here hx rfl (hb hby at_652) k) ?_
    refine own_fw (A' := (T105.setTop (mkF m 657 #[.val (.long p1), .second, .val (.int p2), .val (.int p3), .val (.int p4), .val (.int p5), .val (.int r_2), .val (.int r_4), .val (.int r_6), .val (.int r_8), .val (.int r_10), .val (.int r_12), .val (.int r_14), .val (.int r_16), .val (.int r_18), .val (.ref b19), .val (.int (p4 &&& (7 : Int32))), .val (.int ln), .val (.int (0 : Int32))] [(.int (1 : Int32))]))) (fun t k => XS.goto X105.here hx rfl (pc0 := 653) (pc' := 657) rfl (hb hby at_653) (by decide) (by decide) k) ?_
    obtain ⟨fs, hr, hrun, hended, hWE⟩ := X105.leaveW hS (by rw [e105]; exact hk : _ ≤ T105.heap.size) (v := some (.int (1 : Int32))) (fun h => by rw [Bd.returns] at h; cases h)
    refine ⟨_, _, ?_, hrun, hended, _, _, rfl, ?_, own_widen hWE (by decide) (by decide)⟩
    · exact retOut X105 hx Bd.returns rfl (Or.inl ⟨rfl, by simp, _, rfl⟩) (hb hby at_657) hr
    · show Q_rm0 Z p1 p2 p3 p4 p5 cs sv h0 n0 _ T105.heap _
      rw [e105]
      exact ⟨rfl, Nf105⟩
  · refine own_fw (A' := (T101.setTop (mkF m 478 #[.val (.long p1), .second, .val (.int p2), .val (.int p3), .val (.int p4), .val (.int p5), .val (.int r_2), .val (.int r_4), .val (.int r_6), .val (.int r_8), .val (.int r_10), .val (.int r_12), .val (.int r_14), .val (.int r_16), .val (.int r_18), .val (.ref b19), .val (.int (p4 &&& (7 : Int32))), .val (.int ln), .unset] []))) (fun t k => XS.icmpNo X101.here hx rfl (hb hby at_475) rfl (XT.ii_lt_f hc104) k) ?_
    refine own_fw (A' := (T101.setTop (mkF m 480 #[.val (.long p1), .second, .val (.int p2), .val (.int p3), .val (.int p4), .val (.int p5), .val (.int r_2), .val (.int r_4), .val (.int r_6), .val (.int r_8), .val (.int r_10), .val (.int r_12), .val (.int r_14), .val (.int r_16), .val (.int r_18), .val (.ref b19), .val (.int (p4 &&& (7 : Int32))), .val (.int ln), .unset] [(.int ln)]))) (fun t k => XS.iload X101.here hx rfl (hb hby at_478) rfl k) ?_
    refine own_fw (A' := (T101.setTop (mkF m 482 #[.val (.long p1), .second, .val (.int p2), .val (.int p3), .val (.int p4), .val (.int p5), .val (.int r_2), .val (.int r_4), .val (.int r_6), .val (.int r_8), .val (.int r_10), .val (.int r_12), .val (.int r_14), .val (.int r_16), .val (.int r_18), .val (.ref b19), .val (.int (p4 &&& (7 : Int32))), .val (.int ln), .unset] [(.int (32 : Int32)), (.int ln)]))) (fun t k => XS.bipush X101.here hx rfl (hb hby at_480) k) ?_
    by_cases hc106 : (32 : Int32) < ln
    · refine own_fw (A' := (T101.setTop (mkF m 485 #[.val (.long p1), .second, .val (.int p2), .val (.int p3), .val (.int p4), .val (.int p5), .val (.int r_2), .val (.int r_4), .val (.int r_6), .val (.int r_8), .val (.int r_10), .val (.int r_12), .val (.int r_14), .val (.int r_16), .val (.int r_18), .val (.ref b19), .val (.int (p4 &&& (7 : Int32))), .val (.int ln), .unset] []))) (fun t k => XS.icmpNo X101.here hx rfl (hb hby at_482) rfl (XT.ii_le_f hc106) k) ?_
      refine own_fw (A' := (T101.setTop (mkF m 486 #[.val (.long p1), .second, .val (.int p2), .val (.int p3), .val (.int p4), .val (.int p5), .val (.int r_2), .val (.int r_4), .val (.int r_6), .val (.int r_8), .val (.int r_10), .val (.int r_12), .val (.int r_14), .val (.int r_16), .val (.int r_18), .val (.ref b19), .val (.int (p4 &&& (7 : Int32))), .val (.int ln), .unset] [(.int (0 : Int32))]))) (fun t k => XS.iconst X101.here hx rfl (hb hby at_485) k) ?_
      refine own_fw (A' := (T101.setTop (mkF m 488 #[.val (.long p1), .second, .val (.int p2), .val (.int p3), .val (.int p4), .val (.int p5), .val (.int r_2), .val (.int r_4), .val (.int r_6), .val (.int r_8), .val (.int r_10), .val (.int r_12), .val (.int r_14), .val (.int r_16), .val (.int r_18), .val (.ref b19), .val (.int (p4 &&& (7 : Int32))), .val (.int ln), .val (.int (0 : Int32))] []))) (fun t k => XS.istore X101.here hx rfl (hb hby at_486) rfl (l' := #[.val (.long p1), .second, .val (.int p2), .val (.int p3), .val (.int p4), .val (.int p5), .val (.int r_2), .val (.int r_4), .val (.int r_6), .val (.int r_8), .val (.int r_10), .val (.int r_12), .val (.int r_14), .val (.int r_16), .val (.int r_18), .val (.ref b19), .val (.int (p4 &&& (7 : Int32))), .val (.int ln), .val (.int (0 : Int32))]) rfl k) ?_
      refine own_fw (A' := (T101.setTop (mkF m 638 #[.val (.long p1), .second, .val (.int p2), .val (.int p3), .val (.int p4), .val (.int p5), .val (.int r_2), .val (.int r_4), .val (.int r_6), .val (.int r_8), .val (.int r_10), .val (.int r_12), .val (.int r_14), .val (.int r_16), .val (.int r_18), .val (.ref b19), .val (.int (p4 &&& (7 : Int32))), .val (.int ln), .val (.int (0 : Int32))] []))) (fun t k => XS.goto X101.here hx rfl (pc0 := 488) (pc' := 638) rfl (hb hby at_488) (by decide) (by decide) k) ?_
      refine own_fw (A' := (T101.setTop (mkF m 640 #[.val (.long p1), .second, .val (.int p2), .val (.int p3), .val (.int p4), .val (.int p5), .val (.int r_2), .val (.int r_4), .val (.int r_6), .val (.int r_8), .val (.int r_10), .val (.int r_12), .val (.int r_14), .val (.int r_16), .val (.int r_18), .val (.ref b19), .val (.int (p4 &&& (7 : Int32))), .val (.int ln), .val (.int (0 : Int32))] [(.ref b19)]))) (fun t k => XS.aload X101.here hx rfl (hb hby at_638) rfl rfl k) ?_
      refine own_fw (A' := (T101.setTop (mkF m 642 #[.val (.long p1), .second, .val (.int p2), .val (.int p3), .val (.int p4), .val (.int p5), .val (.int r_2), .val (.int r_4), .val (.int r_6), .val (.int r_8), .val (.int r_10), .val (.int r_12), .val (.int r_14), .val (.int r_16), .val (.int r_18), .val (.ref b19), .val (.int (p4 &&& (7 : Int32))), .val (.int ln), .val (.int (0 : Int32))] [(.int (p4 &&& (7 : Int32))), (.ref b19)]))) (fun t k => XS.iload X101.here hx rfl (hb hby at_640) rfl k) ?_
      refine own_fw (A' := (T101.setTop (mkF m 644 #[.val (.long p1), .second, .val (.int p2), .val (.int p3), .val (.int p4), .val (.int p5), .val (.int r_2), .val (.int r_4), .val (.int r_6), .val (.int r_8), .val (.int r_10), .val (.int r_12), .val (.int r_14), .val (.int r_16), .val (.int r_18), .val (.ref b19), .val (.int (p4 &&& (7 : Int32))), .val (.int ln), .val (.int (0 : Int32))] [(.int ln), (.int (p4 &&& (7 : Int32))), (.ref b19)]))) (fun t k => XS.iload X101.here hx rfl (hb hby at_642) rfl k) ?_
      obtain ⟨_, _, ⟨T107, L107, k107, n107⟩, -, X107, ⟨Lc107, hQ107, l107, y107, z107⟩, st107⟩ := Jvm.LawKit.callS X101 hx (y := (⟨"com/example/log_to_isles/logtoisles/model/NodeName", "follows", "([BII)Z"⟩ : MethodName)) hown (mvT hZ (hw _ (List.mem_of_getElem? (i := 44) rfl))) (mvT hZ (hw _ (List.mem_of_getElem? (i := 45) rfl))) (mvT hZ (hw _ (List.mem_of_getElem? (i := 46) rfl))) (mvT hZ (hw _ (List.mem_of_getElem? (i := 47) rfl))) (by decide) (backOf (W := 0) (rmFol l Z a0 hw [] b19 k19 r_2 r_4 r_6 r_8 r_10 r_12 r_14 r_16 r_18 (p4 &&& (7 : Int32)) ln h101 n0 Z101 V101 (own_oM _)) hZ (hw _ (List.mem_of_getElem? (i := 47) rfl)) (hw _ (List.mem_of_getElem? (i := 46) rfl)) (by decide) (by decide)) (g := (mkF m 644 #[.val (.long p1), .second, .val (.int p2), .val (.int p3), .val (.int p4), .val (.int p5), .val (.int r_2), .val (.int r_4), .val (.int r_6), .val (.int r_8), .val (.int r_10), .val (.int r_12), .val (.int r_14), .val (.int r_16), .val (.int r_18), .val (.ref b19), .val (.int (p4 &&& (7 : Int32))), .val (.int ln), .val (.int (0 : Int32))] [(.int ln), (.int (p4 &&& (7 : Int32))), (.ref b19)])) rfl (by rw [hml]; rfl) (argsL := [(.ref b19), (.int (p4 &&& (7 : Int32))), (.int ln)]) (rest := []) (lenOf pd___BII_Z rfl) rfl (by show 2 * 0 + _ ≤ _; exact Nat.le_of_eq rfl) (hb hby at_644) (fun _ _ => ⟨rfl, e101, (by decide : 3 + 0 ≤ _), (by decide : 192 + 0 ≤ _)⟩)
      dsimp only [Pt.U, Pt.locs, Pt.cells, Pt.slots] at X107 l107 y107 z107 st107 hQ107
      subst l107 y107 z107
      obtain ⟨rfl, Nq107, e107⟩ := hQ107
      have Nf107 := Fr.app Nf101 Nq107
      refine own_fw (A' := (T107.setTop (mkF m 647 #[.val (.long p1), .second, .val (.int p2), .val (.int p3), .val (.int p4), .val (.int p5), .val (.int r_2), .val (.int r_4), .val (.int r_6), .val (.int r_8), .val (.int r_10), .val (.int r_12), .val (.int r_14), .val (.int r_16), .val (.int r_18), .val (.ref b19), .val (.int (p4 &&& (7 : Int32))), .val (.int ln), .val (.int (0 : Int32))] [(.int (own_fol (own_buf r_2 r_4 r_6 r_8 r_10 r_12 r_14 r_16 r_18) (p4 &&& (7 : Int32)) ln))]))) (fun t k => st107 _ k) ?_
      refine own_fw (A' := (T107.setTop (mkF m 649 #[.val (.long p1), .second, .val (.int p2), .val (.int p3), .val (.int p4), .val (.int p5), .val (.int r_2), .val (.int r_4), .val (.int r_6), .val (.int r_8), .val (.int r_10), .val (.int r_12), .val (.int r_14), .val (.int r_16), .val (.int r_18), .val (.ref b19), .val (.int (p4 &&& (7 : Int32))), .val (.int ln), .val (.int (0 : Int32))] [(.int (0 : Int32)), (.int (own_fol (own_buf r_2 r_4 r_6 r_8 r_10 r_12 r_14 r_16 r_18) (p4 &&& (7 : Int32)) ln))]))) (fun t k => XS.iload X107.here hx rfl (hb hby at_647) rfl k) ?_
      refine own_fw (A' := (T107.setTop (mkF m 652 #[.val (.long p1), .second, .val (.int p2), .val (.int p3), .val (.int p4), .val (.int p5), .val (.int r_2), .val (.int r_4), .val (.int r_6), .val (.int r_8), .val (.int r_10), .val (.int r_12), .val (.int r_14), .val (.int r_16), .val (.int r_18), .val (.ref b19), .val (.int (p4 &&& (7 : Int32))), .val (.int ln), .val (.int (0 : Int32))] []))) (fun t k => XS.icmpNo X107.here hx rfl (hb hby at_649) rfl (XT.ii_ne_f (own_fb hc104 hc106)) k) ?_
      refine own_fw (A' := (T107.setTop (mkF m 653 #[.val (.long p1), .second, .val (.int p2), .val (.int p3), .val (.int p4), .val (.int p5), .val (.int r_2), .val (.int r_4), .val (.int r_6), .val (.int r_8), .val (.int r_10), .val (.int r_12), .val (.int r_14), .val (.int r_16), .val (.int r_18), .val (.ref b19), .val (.int (p4 &&& (7 : Int32))), .val (.int ln), .val (.int (0 : Int32))] [(.int (1 : Int32))]))) (fun t k => XS.iconst X107.here hx rfl (hb hby at_652) k) ?_
      refine own_fw (A' := (T107.setTop (mkF m 657 #[.val (.long p1), .second, .val (.int p2), .val (.int p3), .val (.int p4), .val (.int p5), .val (.int r_2), .val (.int r_4), .val (.int r_6), .val (.int r_8), .val (.int r_10), .val (.int r_12), .val (.int r_14), .val (.int r_16), .val (.int r_18), .val (.ref b19), .val (.int (p4 &&& (7 : Int32))), .val (.int ln), .val (.int (0 : Int32))] [(.int (1 : Int32))]))) (fun t k => XS.goto X107.here hx rfl (pc0 := 653) (pc' := 657) rfl (hb hby at_653) (by decide) (by decide) k) ?_
      obtain ⟨fs, hr, hrun, hended, hWE⟩ := X107.leaveW hS (by rw [e107]; exact hk : _ ≤ T107.heap.size) (v := some (.int (1 : Int32))) (fun h => by rw [Bd.returns] at h; cases h)
      refine ⟨_, _, ?_, hrun, hended, _, _, rfl, ?_, own_widen hWE (by decide) (by decide)⟩
      · exact retOut X107 hx Bd.returns rfl (Or.inl ⟨rfl, by simp, _, rfl⟩) (hb hby at_657) hr
      · show Q_rm0 Z p1 p2 p3 p4 p5 cs sv h0 n0 _ T107.heap _
        rw [e107]
        exact ⟨rfl, Nf107⟩
    · refine own_fw (A' := (T101.setTop (mkF m 491 #[.val (.long p1), .second, .val (.int p2), .val (.int p3), .val (.int p4), .val (.int p5), .val (.int r_2), .val (.int r_4), .val (.int r_6), .val (.int r_8), .val (.int r_10), .val (.int r_12), .val (.int r_14), .val (.int r_16), .val (.int r_18), .val (.ref b19), .val (.int (p4 &&& (7 : Int32))), .val (.int ln), .unset] []))) (fun t k => XS.icmpYes X101.here hx rfl (pc0 := 482) (pc' := 491) rfl (hb hby at_482) rfl (XT.ii_le_t hc106) (by decide) (by decide) k) ?_
      refine own_fw (A' := (T101.setTop (mkF m 493 #[.val (.long p1), .second, .val (.int p2), .val (.int p3), .val (.int p4), .val (.int p5), .val (.int r_2), .val (.int r_4), .val (.int r_6), .val (.int r_8), .val (.int r_10), .val (.int r_12), .val (.int r_14), .val (.int r_16), .val (.int r_18), .val (.ref b19), .val (.int (p4 &&& (7 : Int32))), .val (.int ln), .unset] [(.ref b19)]))) (fun t k => XS.aload X101.here hx rfl (hb hby at_491) rfl rfl k) ?_
      refine own_fw (A' := (T101.setTop (mkF m 495 #[.val (.long p1), .second, .val (.int p2), .val (.int p3), .val (.int p4), .val (.int p5), .val (.int r_2), .val (.int r_4), .val (.int r_6), .val (.int r_8), .val (.int r_10), .val (.int r_12), .val (.int r_14), .val (.int r_16), .val (.int r_18), .val (.ref b19), .val (.int (p4 &&& (7 : Int32))), .val (.int ln), .unset] [(.int (p4 &&& (7 : Int32))), (.ref b19)]))) (fun t k => XS.iload X101.here hx rfl (hb hby at_493) rfl k) ?_
      obtain ⟨cl108, Ar108, q108, S108, M108, H108, G108⟩ := id V101
      have hin108 : ¬ ((p4 &&& (7 : Int32)) < 0 ∨ cl108.slots.size ≤ ((p4 &&& (7 : Int32))).toNatClampNeg) := inb_of S108 (own_ob (own_oM _))
      have hat108 : cl108.slots[((p4 &&& (7 : Int32))).toNatClampNeg]? = some (.int ((own_buf r_2 r_4 r_6 r_8 r_10 r_12 r_14 r_16 r_18).getD ((p4 &&& (7 : Int32))).toNatClampNeg 0)) := H108.at hin108 (own_mapD (own_buf r_2 r_4 r_6 r_8 r_10 r_12 r_14 r_16 r_18) _)
      refine own_fw (A' := (T101.setTop (mkF m 496 #[.val (.long p1), .second, .val (.int p2), .val (.int p3), .val (.int p4), .val (.int p5), .val (.int r_2), .val (.int r_4), .val (.int r_6), .val (.int r_8), .val (.int r_10), .val (.int r_12), .val (.int r_14), .val (.int r_16), .val (.int r_18), .val (.ref b19), .val (.int (p4 &&& (7 : Int32))), .val (.int ln), .unset] [(.int ((own_buf r_2 r_4 r_6 r_8 r_10 r_12 r_14 r_16 r_18).getD ((p4 &&& (7 : Int32))).toNatClampNeg 0))]))) (fun t k => X101.baloadBytes hx (j := (p4 &&& (7 : Int32))) (v := (.int ((own_buf r_2 r_4 r_6 r_8 r_10 r_12 r_14 r_16 r_18).getD ((p4 &&& (7 : Int32))).toNatClampNeg 0))) (by rw [e101]; exact Ar108.1) (State.isArrayOf_alike hZ.alike Ar108.2.1) Ar108.2.2 hin108 hat108 (g := (mkF m 495 #[.val (.long p1), .second, .val (.int p2), .val (.int p3), .val (.int p4), .val (.int p5), .val (.int r_2), .val (.int r_4), .val (.int r_6), .val (.int r_8), .val (.int r_10), .val (.int r_12), .val (.int r_14), .val (.int r_16), .val (.int r_18), .val (.ref b19), .val (.int (p4 &&& (7 : Int32))), .val (.int ln), .unset] [(.int (p4 &&& (7 : Int32))), (.ref b19)])) rfl rfl (hb hby at_495) _ k) ?_
      refine own_fw (A' := (T101.setTop (mkF m 498 #[.val (.long p1), .second, .val (.int p2), .val (.int p3), .val (.int p4), .val (.int p5), .val (.int r_2), .val (.int r_4), .val (.int r_6), .val (.int r_8), .val (.int r_10), .val (.int r_12), .val (.int r_14), .val (.int r_16), .val (.int r_18), .val (.ref b19), .val (.int (p4 &&& (7 : Int32))), .val (.int ln), .unset] [(.int (45 : Int32)), (.int ((own_buf r_2 r_4 r_6 r_8 r_10 r_12 r_14 r_16 r_18).getD ((p4 &&& (7 : Int32))).toNatClampNeg 0))]))) (fun t k => XS.bipush X101.here hx rfl (hb hby at_496) k) ?_
      by_cases hc109 : ((own_buf r_2 r_4 r_6 r_8 r_10 r_12 r_14 r_16 r_18).getD ((p4 &&& (7 : Int32))).toNatClampNeg 0) = (45 : Int32)
      · refine own_fw (A' := (T101.setTop (mkF m 501 #[.val (.long p1), .second, .val (.int p2), .val (.int p3), .val (.int p4), .val (.int p5), .val (.int r_2), .val (.int r_4), .val (.int r_6), .val (.int r_8), .val (.int r_10), .val (.int r_12), .val (.int r_14), .val (.int r_16), .val (.int r_18), .val (.ref b19), .val (.int (p4 &&& (7 : Int32))), .val (.int ln), .unset] []))) (fun t k => XS.icmpNo X101.here hx rfl (hb hby at_498) rfl (XT.ii_ne_f hc109) k) ?_
        refine own_fw (A' := (T101.setTop (mkF m 502 #[.val (.long p1), .second, .val (.int p2), .val (.int p3), .val (.int p4), .val (.int p5), .val (.int r_2), .val (.int r_4), .val (.int r_6), .val (.int r_8), .val (.int r_10), .val (.int r_12), .val (.int r_14), .val (.int r_16), .val (.int r_18), .val (.ref b19), .val (.int (p4 &&& (7 : Int32))), .val (.int ln), .unset] [(.int (0 : Int32))]))) (fun t k => XS.iconst X101.here hx rfl (hb hby at_501) k) ?_
        refine own_fw (A' := (T101.setTop (mkF m 504 #[.val (.long p1), .second, .val (.int p2), .val (.int p3), .val (.int p4), .val (.int p5), .val (.int r_2), .val (.int r_4), .val (.int r_6), .val (.int r_8), .val (.int r_10), .val (.int r_12), .val (.int r_14), .val (.int r_16), .val (.int r_18), .val (.ref b19), .val (.int (p4 &&& (7 : Int32))), .val (.int ln), .val (.int (0 : Int32))] []))) (fun t k => XS.istore X101.here hx rfl (hb hby at_502) rfl (l' := #[.val (.long p1), .second, .val (.int p2), .val (.int p3), .val (.int p4), .val (.int p5), .val (.int r_2), .val (.int r_4), .val (.int r_6), .val (.int r_8), .val (.int r_10), .val (.int r_12), .val (.int r_14), .val (.int r_16), .val (.int r_18), .val (.ref b19), .val (.int (p4 &&& (7 : Int32))), .val (.int ln), .val (.int (0 : Int32))]) rfl k) ?_
        refine own_fw (A' := (T101.setTop (mkF m 638 #[.val (.long p1), .second, .val (.int p2), .val (.int p3), .val (.int p4), .val (.int p5), .val (.int r_2), .val (.int r_4), .val (.int r_6), .val (.int r_8), .val (.int r_10), .val (.int r_12), .val (.int r_14), .val (.int r_16), .val (.int r_18), .val (.ref b19), .val (.int (p4 &&& (7 : Int32))), .val (.int ln), .val (.int (0 : Int32))] []))) (fun t k => XS.goto X101.here hx rfl (pc0 := 504) (pc' := 638) rfl (hb hby at_504) (by decide) (by decide) k) ?_
        refine own_fw (A' := (T101.setTop (mkF m 640 #[.val (.long p1), .second, .val (.int p2), .val (.int p3), .val (.int p4), .val (.int p5), .val (.int r_2), .val (.int r_4), .val (.int r_6), .val (.int r_8), .val (.int r_10), .val (.int r_12), .val (.int r_14), .val (.int r_16), .val (.int r_18), .val (.ref b19), .val (.int (p4 &&& (7 : Int32))), .val (.int ln), .val (.int (0 : Int32))] [(.ref b19)]))) (fun t k => XS.aload X101.here hx rfl (hb hby at_638) rfl rfl k) ?_
        refine own_fw (A' := (T101.setTop (mkF m 642 #[.val (.long p1), .second, .val (.int p2), .val (.int p3), .val (.int p4), .val (.int p5), .val (.int r_2), .val (.int r_4), .val (.int r_6), .val (.int r_8), .val (.int r_10), .val (.int r_12), .val (.int r_14), .val (.int r_16), .val (.int r_18), .val (.ref b19), .val (.int (p4 &&& (7 : Int32))), .val (.int ln), .val (.int (0 : Int32))] [(.int (p4 &&& (7 : Int32))), (.ref b19)]))) (fun t k => XS.iload X101.here hx rfl (hb hby at_640) rfl k) ?_
        refine own_fw (A' := (T101.setTop (mkF m 644 #[.val (.long p1), .second, .val (.int p2), .val (.int p3), .val (.int p4), .val (.int p5), .val (.int r_2), .val (.int r_4), .val (.int r_6), .val (.int r_8), .val (.int r_10), .val (.int r_12), .val (.int r_14), .val (.int r_16), .val (.int r_18), .val (.ref b19), .val (.int (p4 &&& (7 : Int32))), .val (.int ln), .val (.int (0 : Int32))] [(.int ln), (.int (p4 &&& (7 : Int32))), (.ref b19)]))) (fun t k => XS.iload X101.here hx rfl (hb hby at_642) rfl k) ?_
        obtain ⟨_, _, ⟨T110, L110, k110, n110⟩, -, X110, ⟨Lc110, hQ110, l110, y110, z110⟩, st110⟩ := Jvm.LawKit.callS X101 hx (y := (⟨"com/example/log_to_isles/logtoisles/model/NodeName", "follows", "([BII)Z"⟩ : MethodName)) hown (mvT hZ (hw _ (List.mem_of_getElem? (i := 44) rfl))) (mvT hZ (hw _ (List.mem_of_getElem? (i := 45) rfl))) (mvT hZ (hw _ (List.mem_of_getElem? (i := 46) rfl))) (mvT hZ (hw _ (List.mem_of_getElem? (i := 47) rfl))) (by decide) (backOf (W := 0) (rmFol l Z a0 hw [] b19 k19 r_2 r_4 r_6 r_8 r_10 r_12 r_14 r_16 r_18 (p4 &&& (7 : Int32)) ln h101 n0 Z101 V101 (own_oM _)) hZ (hw _ (List.mem_of_getElem? (i := 47) rfl)) (hw _ (List.mem_of_getElem? (i := 46) rfl)) (by decide) (by decide)) (g := (mkF m 644 #[.val (.long p1), .second, .val (.int p2), .val (.int p3), .val (.int p4), .val (.int p5), .val (.int r_2), .val (.int r_4), .val (.int r_6), .val (.int r_8), .val (.int r_10), .val (.int r_12), .val (.int r_14), .val (.int r_16), .val (.int r_18), .val (.ref b19), .val (.int (p4 &&& (7 : Int32))), .val (.int ln), .val (.int (0 : Int32))] [(.int ln), (.int (p4 &&& (7 : Int32))), (.ref b19)])) rfl (by rw [hml]; rfl) (argsL := [(.ref b19), (.int (p4 &&& (7 : Int32))), (.int ln)]) (rest := []) (lenOf pd___BII_Z rfl) rfl (by show 2 * 0 + _ ≤ _; exact Nat.le_of_eq rfl) (hb hby at_644) (fun _ _ => ⟨rfl, e101, (by decide : 3 + 0 ≤ _), (by decide : 192 + 0 ≤ _)⟩)
        dsimp only [Pt.U, Pt.locs, Pt.cells, Pt.slots] at X110 l110 y110 z110 st110 hQ110
        subst l110 y110 z110
        obtain ⟨rfl, Nq110, e110⟩ := hQ110
        have Nf110 := Fr.app Nf101 Nq110
        refine own_fw (A' := (T110.setTop (mkF m 647 #[.val (.long p1), .second, .val (.int p2), .val (.int p3), .val (.int p4), .val (.int p5), .val (.int r_2), .val (.int r_4), .val (.int r_6), .val (.int r_8), .val (.int r_10), .val (.int r_12), .val (.int r_14), .val (.int r_16), .val (.int r_18), .val (.ref b19), .val (.int (p4 &&& (7 : Int32))), .val (.int ln), .val (.int (0 : Int32))] [(.int (own_fol (own_buf r_2 r_4 r_6 r_8 r_10 r_12 r_14 r_16 r_18) (p4 &&& (7 : Int32)) ln))]))) (fun t k => st110 _ k) ?_
        refine own_fw (A' := (T110.setTop (mkF m 649 #[.val (.long p1), .second, .val (.int p2), .val (.int p3), .val (.int p4), .val (.int p5), .val (.int r_2), .val (.int r_4), .val (.int r_6), .val (.int r_8), .val (.int r_10), .val (.int r_12), .val (.int r_14), .val (.int r_16), .val (.int r_18), .val (.ref b19), .val (.int (p4 &&& (7 : Int32))), .val (.int ln), .val (.int (0 : Int32))] [(.int (0 : Int32)), (.int (own_fol (own_buf r_2 r_4 r_6 r_8 r_10 r_12 r_14 r_16 r_18) (p4 &&& (7 : Int32)) ln))]))) (fun t k => XS.iload X110.here hx rfl (hb hby at_647) rfl k) ?_
        refine own_fw (A' := (T110.setTop (mkF m 652 #[.val (.long p1), .second, .val (.int p2), .val (.int p3), .val (.int p4), .val (.int p5), .val (.int r_2), .val (.int r_4), .val (.int r_6), .val (.int r_8), .val (.int r_10), .val (.int r_12), .val (.int r_14), .val (.int r_16), .val (.int r_18), .val (.ref b19), .val (.int (p4 &&& (7 : Int32))), .val (.int ln), .val (.int (0 : Int32))] []))) (fun t k => XS.icmpNo X110.here hx rfl (hb hby at_649) rfl (XT.ii_ne_f (own_fc hc104 hc106 hc109)) k) ?_
        refine own_fw (A' := (T110.setTop (mkF m 653 #[.val (.long p1), .second, .val (.int p2), .val (.int p3), .val (.int p4), .val (.int p5), .val (.int r_2), .val (.int r_4), .val (.int r_6), .val (.int r_8), .val (.int r_10), .val (.int r_12), .val (.int r_14), .val (.int r_16), .val (.int r_18), .val (.ref b19), .val (.int (p4 &&& (7 : Int32))), .val (.int ln), .val (.int (0 : Int32))] [(.int (1 : Int32))]))) (fun t k => XS.iconst X110.here hx rfl (hb hby at_652) k) ?_
        refine own_fw (A' := (T110.setTop (mkF m 657 #[.val (.long p1), .second, .val (.int p2), .val (.int p3), .val (.int p4), .val (.int p5), .val (.int r_2), .val (.int r_4), .val (.int r_6), .val (.int r_8), .val (.int r_10), .val (.int r_12), .val (.int r_14), .val (.int r_16), .val (.int r_18), .val (.ref b19), .val (.int (p4 &&& (7 : Int32))), .val (.int ln), .val (.int (0 : Int32))] [(.int (1 : Int32))]))) (fun t k => XS.goto X110.here hx rfl (pc0 := 653) (pc' := 657) rfl (hb hby at_653) (by decide) (by decide) k) ?_
        obtain ⟨fs, hr, hrun, hended, hWE⟩ := X110.leaveW hS (by rw [e110]; exact hk : _ ≤ T110.heap.size) (v := some (.int (1 : Int32))) (fun h => by rw [Bd.returns] at h; cases h)
        refine ⟨_, _, ?_, hrun, hended, _, _, rfl, ?_, own_widen hWE (by decide) (by decide)⟩
        · exact retOut X110 hx Bd.returns rfl (Or.inl ⟨rfl, by simp, _, rfl⟩) (hb hby at_657) hr
        · show Q_rm0 Z p1 p2 p3 p4 p5 cs sv h0 n0 _ T110.heap _
          rw [e110]
          exact ⟨rfl, Nf110⟩
      · refine own_fw (A' := (T101.setTop (mkF m 507 #[.val (.long p1), .second, .val (.int p2), .val (.int p3), .val (.int p4), .val (.int p5), .val (.int r_2), .val (.int r_4), .val (.int r_6), .val (.int r_8), .val (.int r_10), .val (.int r_12), .val (.int r_14), .val (.int r_16), .val (.int r_18), .val (.ref b19), .val (.int (p4 &&& (7 : Int32))), .val (.int ln), .unset] []))) (fun t k => XS.icmpYes X101.here hx rfl (pc0 := 498) (pc' := 507) rfl (hb hby at_498) rfl (XT.ii_ne_t hc109) (by decide) (by decide) k) ?_
        refine own_fw (A' := (T101.setTop (mkF m 509 #[.val (.long p1), .second, .val (.int p2), .val (.int p3), .val (.int p4), .val (.int p5), .val (.int r_2), .val (.int r_4), .val (.int r_6), .val (.int r_8), .val (.int r_10), .val (.int r_12), .val (.int r_14), .val (.int r_16), .val (.int r_18), .val (.ref b19), .val (.int (p4 &&& (7 : Int32))), .val (.int ln), .unset] [(.ref b19)]))) (fun t k => XS.aload X101.here hx rfl (hb hby at_507) rfl rfl k) ?_
        refine own_fw (A' := (T101.setTop (mkF m 510 #[.val (.long p1), .second, .val (.int p2), .val (.int p3), .val (.int p4), .val (.int p5), .val (.int r_2), .val (.int r_4), .val (.int r_6), .val (.int r_8), .val (.int r_10), .val (.int r_12), .val (.int r_14), .val (.int r_16), .val (.int r_18), .val (.ref b19), .val (.int (p4 &&& (7 : Int32))), .val (.int ln), .unset] [(.int (0 : Int32)), (.ref b19)]))) (fun t k => XS.iconst X101.here hx rfl (hb hby at_509) k) ?_
        refine own_fw (A' := (T101.setTop (mkF m 512 #[.val (.long p1), .second, .val (.int p2), .val (.int p3), .val (.int p4), .val (.int p5), .val (.int r_2), .val (.int r_4), .val (.int r_6), .val (.int r_8), .val (.int r_10), .val (.int r_12), .val (.int r_14), .val (.int r_16), .val (.int r_18), .val (.ref b19), .val (.int (p4 &&& (7 : Int32))), .val (.int ln), .unset] [(.int (p4 &&& (7 : Int32))), (.int (0 : Int32)), (.ref b19)]))) (fun t k => XS.iload X101.here hx rfl (hb hby at_510) rfl k) ?_
        refine own_fw (A' := (T101.setTop (mkF m 514 #[.val (.long p1), .second, .val (.int p2), .val (.int p3), .val (.int p4), .val (.int p5), .val (.int r_2), .val (.int r_4), .val (.int r_6), .val (.int r_8), .val (.int r_10), .val (.int r_12), .val (.int r_14), .val (.int r_16), .val (.int r_18), .val (.ref b19), .val (.int (p4 &&& (7 : Int32))), .val (.int ln), .unset] [(.int ln), (.int (p4 &&& (7 : Int32))), (.int (0 : Int32)), (.ref b19)]))) (fun t k => XS.iload X101.here hx rfl (hb hby at_512) rfl k) ?_
        obtain ⟨_, _, ⟨T111, L111, k111, n111⟩, -, X111, ⟨Lc111, hQ111, l111, y111, z111⟩, st111⟩ := Jvm.LawKit.callS X101 hx (y := (⟨"com/example/log_to_isles/logtoisles/model/NodeNameFollowsPinLaw", "okAt", "([BIII)Z"⟩ : MethodName)) hown (mvT hZ (hw _ (List.mem_of_getElem? (i := 38) rfl))) (mvT hZ (hw _ (List.mem_of_getElem? (i := 39) rfl))) (mvT hZ (hw _ (List.mem_of_getElem? (i := 2) rfl))) (mvT hZ (hw _ (List.mem_of_getElem? (i := 40) rfl))) (by decide) (backOf (W := 0) (rmOk0 l Z a0 hw [] b19 k19 r_2 r_4 r_6 r_8 r_10 r_12 r_14 r_16 r_18 (p4 &&& (7 : Int32)) ln h101 n0 Z101 V101) hZ (hw _ (List.mem_of_getElem? (i := 40) rfl)) (hw _ (List.mem_of_getElem? (i := 2) rfl)) (by decide) (by decide)) (g := (mkF m 514 #[.val (.long p1), .second, .val (.int p2), .val (.int p3), .val (.int p4), .val (.int p5), .val (.int r_2), .val (.int r_4), .val (.int r_6), .val (.int r_8), .val (.int r_10), .val (.int r_12), .val (.int r_14), .val (.int r_16), .val (.int r_18), .val (.ref b19), .val (.int (p4 &&& (7 : Int32))), .val (.int ln), .unset] [(.int ln), (.int (p4 &&& (7 : Int32))), (.int (0 : Int32)), (.ref b19)])) rfl (by rw [hml]; rfl) (argsL := [(.ref b19), (.int (0 : Int32)), (.int (p4 &&& (7 : Int32))), (.int ln)]) (rest := []) (lenOf pd___BIII_Z rfl) rfl (by show 2 * 0 + _ ≤ _; exact Nat.le_of_eq rfl) (hb hby at_514) (fun _ _ => ⟨rfl, e101, (by decide : 3 + 0 ≤ _), (by decide : 192 + 0 ≤ _)⟩)
        dsimp only [Pt.U, Pt.locs, Pt.cells, Pt.slots] at X111 l111 y111 z111 st111 hQ111
        subst l111 y111 z111
        obtain ⟨rfl, Nq111, e111⟩ := hQ111
        have Nf111 := Fr.app Nf101 Nq111
        refine own_fw (A' := (T111.setTop (mkF m 517 #[.val (.long p1), .second, .val (.int p2), .val (.int p3), .val (.int p4), .val (.int p5), .val (.int r_2), .val (.int r_4), .val (.int r_6), .val (.int r_8), .val (.int r_10), .val (.int r_12), .val (.int r_14), .val (.int r_16), .val (.int r_18), .val (.ref b19), .val (.int (p4 &&& (7 : Int32))), .val (.int ln), .unset] [(.int (own_ok (0 : Int32) (p4 &&& (7 : Int32)) ln r_2))]))) (fun t k => st111 _ k) ?_
        by_cases hc112 : (own_ok (0 : Int32) (p4 &&& (7 : Int32)) ln r_2) = (0 : Int32)
        · refine own_fw (A' := (T111.setTop (mkF m 635 #[.val (.long p1), .second, .val (.int p2), .val (.int p3), .val (.int p4), .val (.int p5), .val (.int r_2), .val (.int r_4), .val (.int r_6), .val (.int r_8), .val (.int r_10), .val (.int r_12), .val (.int r_14), .val (.int r_16), .val (.int r_18), .val (.ref b19), .val (.int (p4 &&& (7 : Int32))), .val (.int ln), .unset] []))) (fun t k => XS.ifYes X111.here hx rfl (pc0 := 517) (pc' := 635) rfl (hb hby at_517) rfl (XT.i0_eq_t hc112) (by decide) (by decide) k) ?_
          refine own_fw (A' := (T111.setTop (mkF m 636 #[.val (.long p1), .second, .val (.int p2), .val (.int p3), .val (.int p4), .val (.int p5), .val (.int r_2), .val (.int r_4), .val (.int r_6), .val (.int r_8), .val (.int r_10), .val (.int r_12), .val (.int r_14), .val (.int r_16), .val (.int r_18), .val (.ref b19), .val (.int (p4 &&& (7 : Int32))), .val (.int ln), .unset] [(.int (0 : Int32))]))) (fun t k => XS.iconst X111.here hx rfl (hb hby at_635) k) ?_
          refine own_fw (A' := (T111.setTop (mkF m 638 #[.val (.long p1), .second, .val (.int p2), .val (.int p3), .val (.int p4), .val (.int p5), .val (.int r_2), .val (.int r_4), .val (.int r_6), .val (.int r_8), .val (.int r_10), .val (.int r_12), .val (.int r_14), .val (.int r_16), .val (.int r_18), .val (.ref b19), .val (.int (p4 &&& (7 : Int32))), .val (.int ln), .val (.int (0 : Int32))] []))) (fun t k => XS.istore X111.here hx rfl (hb hby at_636) rfl (l' := #[.val (.long p1), .second, .val (.int p2), .val (.int p3), .val (.int p4), .val (.int p5), .val (.int r_2), .val (.int r_4), .val (.int r_6), .val (.int r_8), .val (.int r_10), .val (.int r_12), .val (.int r_14), .val (.int r_16), .val (.int r_18), .val (.ref b19), .val (.int (p4 &&& (7 : Int32))), .val (.int ln), .val (.int (0 : Int32))]) rfl k) ?_
          refine own_fw (A' := (T111.setTop (mkF m 640 #[.val (.long p1), .second, .val (.int p2), .val (.int p3), .val (.int p4), .val (.int p5), .val (.int r_2), .val (.int r_4), .val (.int r_6), .val (.int r_8), .val (.int r_10), .val (.int r_12), .val (.int r_14), .val (.int r_16), .val (.int r_18), .val (.ref b19), .val (.int (p4 &&& (7 : Int32))), .val (.int ln), .val (.int (0 : Int32))] [(.ref b19)]))) (fun t k => XS.aload X111.here hx rfl (hb hby at_638) rfl rfl k) ?_
          refine own_fw (A' := (T111.setTop (mkF m 642 #[.val (.long p1), .second, .val (.int p2), .val (.int p3), .val (.int p4), .val (.int p5), .val (.int r_2), .val (.int r_4), .val (.int r_6), .val (.int r_8), .val (.int r_10), .val (.int r_12), .val (.int r_14), .val (.int r_16), .val (.int r_18), .val (.ref b19), .val (.int (p4 &&& (7 : Int32))), .val (.int ln), .val (.int (0 : Int32))] [(.int (p4 &&& (7 : Int32))), (.ref b19)]))) (fun t k => XS.iload X111.here hx rfl (hb hby at_640) rfl k) ?_
          refine own_fw (A' := (T111.setTop (mkF m 644 #[.val (.long p1), .second, .val (.int p2), .val (.int p3), .val (.int p4), .val (.int p5), .val (.int r_2), .val (.int r_4), .val (.int r_6), .val (.int r_8), .val (.int r_10), .val (.int r_12), .val (.int r_14), .val (.int r_16), .val (.int r_18), .val (.ref b19), .val (.int (p4 &&& (7 : Int32))), .val (.int ln), .val (.int (0 : Int32))] [(.int ln), (.int (p4 &&& (7 : Int32))), (.ref b19)]))) (fun t k => XS.iload X111.here hx rfl (hb hby at_642) rfl k) ?_
          obtain ⟨_, _, ⟨T113, L113, k113, n113⟩, -, X113, ⟨Lc113, hQ113, l113, y113, z113⟩, st113⟩ := Jvm.LawKit.callS X111 hx (y := (⟨"com/example/log_to_isles/logtoisles/model/NodeName", "follows", "([BII)Z"⟩ : MethodName)) hown (mvT hZ (hw _ (List.mem_of_getElem? (i := 44) rfl))) (mvT hZ (hw _ (List.mem_of_getElem? (i := 45) rfl))) (mvT hZ (hw _ (List.mem_of_getElem? (i := 46) rfl))) (mvT hZ (hw _ (List.mem_of_getElem? (i := 47) rfl))) (by decide) (backOf (W := 0) (rmFol l Z a0 hw [] b19 k19 r_2 r_4 r_6 r_8 r_10 r_12 r_14 r_16 r_18 (p4 &&& (7 : Int32)) ln h101 n0 Z101 V101 (own_oM _)) hZ (hw _ (List.mem_of_getElem? (i := 47) rfl)) (hw _ (List.mem_of_getElem? (i := 46) rfl)) (by decide) (by decide)) (g := (mkF m 644 #[.val (.long p1), .second, .val (.int p2), .val (.int p3), .val (.int p4), .val (.int p5), .val (.int r_2), .val (.int r_4), .val (.int r_6), .val (.int r_8), .val (.int r_10), .val (.int r_12), .val (.int r_14), .val (.int r_16), .val (.int r_18), .val (.ref b19), .val (.int (p4 &&& (7 : Int32))), .val (.int ln), .val (.int (0 : Int32))] [(.int ln), (.int (p4 &&& (7 : Int32))), (.ref b19)])) rfl (by rw [hml]; rfl) (argsL := [(.ref b19), (.int (p4 &&& (7 : Int32))), (.int ln)]) (rest := []) (lenOf pd___BII_Z rfl) rfl (by show 2 * 0 + _ ≤ _; exact Nat.le_of_eq rfl) (hb hby at_644) (fun _ _ => ⟨rfl, e111, (by decide : 3 + 0 ≤ _), (by decide : 192 + 0 ≤ _)⟩)
          dsimp only [Pt.U, Pt.locs, Pt.cells, Pt.slots] at X113 l113 y113 z113 st113 hQ113
          subst l113 y113 z113
          obtain ⟨rfl, Nq113, e113⟩ := hQ113
          have Nf113 := Fr.app Nf111 Nq113
          refine own_fw (A' := (T113.setTop (mkF m 647 #[.val (.long p1), .second, .val (.int p2), .val (.int p3), .val (.int p4), .val (.int p5), .val (.int r_2), .val (.int r_4), .val (.int r_6), .val (.int r_8), .val (.int r_10), .val (.int r_12), .val (.int r_14), .val (.int r_16), .val (.int r_18), .val (.ref b19), .val (.int (p4 &&& (7 : Int32))), .val (.int ln), .val (.int (0 : Int32))] [(.int (own_fol (own_buf r_2 r_4 r_6 r_8 r_10 r_12 r_14 r_16 r_18) (p4 &&& (7 : Int32)) ln))]))) (fun t k => st113 _ k) ?_
          refine own_fw (A' := (T113.setTop (mkF m 649 #[.val (.long p1), .second, .val (.int p2), .val (.int p3), .val (.int p4), .val (.int p5), .val (.int r_2), .val (.int r_4), .val (.int r_6), .val (.int r_8), .val (.int r_10), .val (.int r_12), .val (.int r_14), .val (.int r_16), .val (.int r_18), .val (.ref b19), .val (.int (p4 &&& (7 : Int32))), .val (.int ln), .val (.int (0 : Int32))] [(.int (0 : Int32)), (.int (own_fol (own_buf r_2 r_4 r_6 r_8 r_10 r_12 r_14 r_16 r_18) (p4 &&& (7 : Int32)) ln))]))) (fun t k => XS.iload X113.here hx rfl (hb hby at_647) rfl k) ?_
          refine own_fw (A' := (T113.setTop (mkF m 652 #[.val (.long p1), .second, .val (.int p2), .val (.int p3), .val (.int p4), .val (.int p5), .val (.int r_2), .val (.int r_4), .val (.int r_6), .val (.int r_8), .val (.int r_10), .val (.int r_12), .val (.int r_14), .val (.int r_16), .val (.int r_18), .val (.ref b19), .val (.int (p4 &&& (7 : Int32))), .val (.int ln), .val (.int (0 : Int32))] []))) (fun t k => XS.icmpNo X113.here hx rfl (hb hby at_649) rfl (XT.ii_ne_f (own_bad (own_oM _) hc104 hc106 hc109 (0 : Int32) (by decide) rfl hc112)) k) ?_
          refine own_fw (A' := (T113.setTop (mkF m 653 #[.val (.long p1), .second, .val (.int p2), .val (.int p3), .val (.int p4), .val (.int p5), .val (.int r_2), .val (.int r_4), .val (.int r_6), .val (.int r_8), .val (.int r_10), .val (.int r_12), .val (.int r_14), .val (.int r_16), .val (.int r_18), .val (.ref b19), .val (.int (p4 &&& (7 : Int32))), .val (.int ln), .val (.int (0 : Int32))] [(.int (1 : Int32))]))) (fun t k => XS.iconst X113.here hx rfl (hb hby at_652) k) ?_
          refine own_fw (A' := (T113.setTop (mkF m 657 #[.val (.long p1), .second, .val (.int p2), .val (.int p3), .val (.int p4), .val (.int p5), .val (.int r_2), .val (.int r_4), .val (.int r_6), .val (.int r_8), .val (.int r_10), .val (.int r_12), .val (.int r_14), .val (.int r_16), .val (.int r_18), .val (.ref b19), .val (.int (p4 &&& (7 : Int32))), .val (.int ln), .val (.int (0 : Int32))] [(.int (1 : Int32))]))) (fun t k => XS.goto X113.here hx rfl (pc0 := 653) (pc' := 657) rfl (hb hby at_653) (by decide) (by decide) k) ?_
          obtain ⟨fs, hr, hrun, hended, hWE⟩ := X113.leaveW hS (by rw [e113]; exact hk : _ ≤ T113.heap.size) (v := some (.int (1 : Int32))) (fun h => by rw [Bd.returns] at h; cases h)
          refine ⟨_, _, ?_, hrun, hended, _, _, rfl, ?_, own_widen hWE (by decide) (by decide)⟩
          · exact retOut X113 hx Bd.returns rfl (Or.inl ⟨rfl, by simp, _, rfl⟩) (hb hby at_657) hr
          · show Q_rm0 Z p1 p2 p3 p4 p5 cs sv h0 n0 _ T113.heap _
            rw [e113]
            exact ⟨rfl, Nf113⟩
        · refine own_fw (A' := (T111.setTop (mkF m 520 #[.val (.long p1), .second, .val (.int p2), .val (.int p3), .val (.int p4), .val (.int p5), .val (.int r_2), .val (.int r_4), .val (.int r_6), .val (.int r_8), .val (.int r_10), .val (.int r_12), .val (.int r_14), .val (.int r_16), .val (.int r_18), .val (.ref b19), .val (.int (p4 &&& (7 : Int32))), .val (.int ln), .unset] []))) (fun t k => XS.ifNo X111.here hx rfl (hb hby at_517) rfl (XT.i0_eq_f hc112) k) ?_
          refine own_fw (A' := (T111.setTop (mkF m 522 #[.val (.long p1), .second, .val (.int p2), .val (.int p3), .val (.int p4), .val (.int p5), .val (.int r_2), .val (.int r_4), .val (.int r_6), .val (.int r_8), .val (.int r_10), .val (.int r_12), .val (.int r_14), .val (.int r_16), .val (.int r_18), .val (.ref b19), .val (.int (p4 &&& (7 : Int32))), .val (.int ln), .unset] [(.ref b19)]))) (fun t k => XS.aload X111.here hx rfl (hb hby at_520) rfl rfl k) ?_
          refine own_fw (A' := (T111.setTop (mkF m 523 #[.val (.long p1), .second, .val (.int p2), .val (.int p3), .val (.int p4), .val (.int p5), .val (.int r_2), .val (.int r_4), .val (.int r_6), .val (.int r_8), .val (.int r_10), .val (.int r_12), .val (.int r_14), .val (.int r_16), .val (.int r_18), .val (.ref b19), .val (.int (p4 &&& (7 : Int32))), .val (.int ln), .unset] [(.int (1 : Int32)), (.ref b19)]))) (fun t k => XS.iconst X111.here hx rfl (hb hby at_522) k) ?_
          refine own_fw (A' := (T111.setTop (mkF m 525 #[.val (.long p1), .second, .val (.int p2), .val (.int p3), .val (.int p4), .val (.int p5), .val (.int r_2), .val (.int r_4), .val (.int r_6), .val (.int r_8), .val (.int r_10), .val (.int r_12), .val (.int r_14), .val (.int r_16), .val (.int r_18), .val (.ref b19), .val (.int (p4 &&& (7 : Int32))), .val (.int ln), .unset] [(.int (p4 &&& (7 : Int32))), (.int (1 : Int32)), (.ref b19)]))) (fun t k => XS.iload X111.here hx rfl (hb hby at_523) rfl k) ?_
          refine own_fw (A' := (T111.setTop (mkF m 527 #[.val (.long p1), .second, .val (.int p2), .val (.int p3), .val (.int p4), .val (.int p5), .val (.int r_2), .val (.int r_4), .val (.int r_6), .val (.int r_8), .val (.int r_10), .val (.int r_12), .val (.int r_14), .val (.int r_16), .val (.int r_18), .val (.ref b19), .val (.int (p4 &&& (7 : Int32))), .val (.int ln), .unset] [(.int ln), (.int (p4 &&& (7 : Int32))), (.int (1 : Int32)), (.ref b19)]))) (fun t k => XS.iload X111.here hx rfl (hb hby at_525) rfl k) ?_
          obtain ⟨_, _, ⟨T114, L114, k114, n114⟩, -, X114, ⟨Lc114, hQ114, l114, y114, z114⟩, st114⟩ := Jvm.LawKit.callS X111 hx (y := (⟨"com/example/log_to_isles/logtoisles/model/NodeNameFollowsPinLaw", "okAt", "([BIII)Z"⟩ : MethodName)) hown (mvT hZ (hw _ (List.mem_of_getElem? (i := 38) rfl))) (mvT hZ (hw _ (List.mem_of_getElem? (i := 39) rfl))) (mvT hZ (hw _ (List.mem_of_getElem? (i := 2) rfl))) (mvT hZ (hw _ (List.mem_of_getElem? (i := 40) rfl))) (by decide) (backOf (W := 0) (rmOk1 l Z a0 hw [] b19 k19 r_2 r_4 r_6 r_8 r_10 r_12 r_14 r_16 r_18 (p4 &&& (7 : Int32)) ln h101 n0 Z101 V101) hZ (hw _ (List.mem_of_getElem? (i := 40) rfl)) (hw _ (List.mem_of_getElem? (i := 2) rfl)) (by decide) (by decide)) (g := (mkF m 527 #[.val (.long p1), .second, .val (.int p2), .val (.int p3), .val (.int p4), .val (.int p5), .val (.int r_2), .val (.int r_4), .val (.int r_6), .val (.int r_8), .val (.int r_10), .val (.int r_12), .val (.int r_14), .val (.int r_16), .val (.int r_18), .val (.ref b19), .val (.int (p4 &&& (7 : Int32))), .val (.int ln), .unset] [(.int ln), (.int (p4 &&& (7 : Int32))), (.int (1 : Int32)), (.ref b19)])) rfl (by rw [hml]; rfl) (argsL := [(.ref b19), (.int (1 : Int32)), (.int (p4 &&& (7 : Int32))), (.int ln)]) (rest := []) (lenOf pd___BIII_Z rfl) rfl (by show 2 * 0 + _ ≤ _; exact Nat.le_of_eq rfl) (hb hby at_527) (fun _ _ => ⟨rfl, e111, (by decide : 3 + 0 ≤ _), (by decide : 192 + 0 ≤ _)⟩)
          dsimp only [Pt.U, Pt.locs, Pt.cells, Pt.slots] at X114 l114 y114 z114 st114 hQ114
          subst l114 y114 z114
          obtain ⟨rfl, Nq114, e114⟩ := hQ114
          have Nf114 := Fr.app Nf111 Nq114
          refine own_fw (A' := (T114.setTop (mkF m 530 #[.val (.long p1), .second, .val (.int p2), .val (.int p3), .val (.int p4), .val (.int p5), .val (.int r_2), .val (.int r_4), .val (.int r_6), .val (.int r_8), .val (.int r_10), .val (.int r_12), .val (.int r_14), .val (.int r_16), .val (.int r_18), .val (.ref b19), .val (.int (p4 &&& (7 : Int32))), .val (.int ln), .unset] [(.int (own_ok (1 : Int32) (p4 &&& (7 : Int32)) ln r_4))]))) (fun t k => st114 _ k) ?_
          by_cases hc115 : (own_ok (1 : Int32) (p4 &&& (7 : Int32)) ln r_4) = (0 : Int32)
          · refine own_fw (A' := (T114.setTop (mkF m 635 #[.val (.long p1), .second, .val (.int p2), .val (.int p3), .val (.int p4), .val (.int p5), .val (.int r_2), .val (.int r_4), .val (.int r_6), .val (.int r_8), .val (.int r_10), .val (.int r_12), .val (.int r_14), .val (.int r_16), .val (.int r_18), .val (.ref b19), .val (.int (p4 &&& (7 : Int32))), .val (.int ln), .unset] []))) (fun t k => XS.ifYes X114.here hx rfl (pc0 := 530) (pc' := 635) rfl (hb hby at_530) rfl (XT.i0_eq_t hc115) (by decide) (by decide) k) ?_
            refine own_fw (A' := (T114.setTop (mkF m 636 #[.val (.long p1), .second, .val (.int p2), .val (.int p3), .val (.int p4), .val (.int p5), .val (.int r_2), .val (.int r_4), .val (.int r_6), .val (.int r_8), .val (.int r_10), .val (.int r_12), .val (.int r_14), .val (.int r_16), .val (.int r_18), .val (.ref b19), .val (.int (p4 &&& (7 : Int32))), .val (.int ln), .unset] [(.int (0 : Int32))]))) (fun t k => XS.iconst X114.here hx rfl (hb hby at_635) k) ?_
            refine own_fw (A' := (T114.setTop (mkF m 638 #[.val (.long p1), .second, .val (.int p2), .val (.int p3), .val (.int p4), .val (.int p5), .val (.int r_2), .val (.int r_4), .val (.int r_6), .val (.int r_8), .val (.int r_10), .val (.int r_12), .val (.int r_14), .val (.int r_16), .val (.int r_18), .val (.ref b19), .val (.int (p4 &&& (7 : Int32))), .val (.int ln), .val (.int (0 : Int32))] []))) (fun t k => XS.istore X114.here hx rfl (hb hby at_636) rfl (l' := #[.val (.long p1), .second, .val (.int p2), .val (.int p3), .val (.int p4), .val (.int p5), .val (.int r_2), .val (.int r_4), .val (.int r_6), .val (.int r_8), .val (.int r_10), .val (.int r_12), .val (.int r_14), .val (.int r_16), .val (.int r_18), .val (.ref b19), .val (.int (p4 &&& (7 : Int32))), .val (.int ln), .val (.int (0 : Int32))]) rfl k) ?_
            refine own_fw (A' := (T114.setTop (mkF m 640 #[.val (.long p1), .second, .val (.int p2), .val (.int p3), .val (.int p4), .val (.int p5), .val (.int r_2), .val (.int r_4), .val (.int r_6), .val (.int r_8), .val (.int r_10), .val (.int r_12), .val (.int r_14), .val (.int r_16), .val (.int r_18), .val (.ref b19), .val (.int (p4 &&& (7 : Int32))), .val (.int ln), .val (.int (0 : Int32))] [(.ref b19)]))) (fun t k => XS.aload X114.here hx rfl (hb hby at_638) rfl rfl k) ?_
            refine own_fw (A' := (T114.setTop (mkF m 642 #[.val (.long p1), .second, .val (.int p2), .val (.int p3), .val (.int p4), .val (.int p5), .val (.int r_2), .val (.int r_4), .val (.int r_6), .val (.int r_8), .val (.int r_10), .val (.int r_12), .val (.int r_14), .val (.int r_16), .val (.int r_18), .val (.ref b19), .val (.int (p4 &&& (7 : Int32))), .val (.int ln), .val (.int (0 : Int32))] [(.int (p4 &&& (7 : Int32))), (.ref b19)]))) (fun t k => XS.iload X114.here hx rfl (hb hby at_640) rfl k) ?_
            refine own_fw (A' := (T114.setTop (mkF m 644 #[.val (.long p1), .second, .val (.int p2), .val (.int p3), .val (.int p4), .val (.int p5), .val (.int r_2), .val (.int r_4), .val (.int r_6), .val (.int r_8), .val (.int r_10), .val (.int r_12), .val (.int r_14), .val (.int r_16), .val (.int r_18), .val (.ref b19), .val (.int (p4 &&& (7 : Int32))), .val (.int ln), .val (.int (0 : Int32))] [(.int ln), (.int (p4 &&& (7 : Int32))), (.ref b19)]))) (fun t k => XS.iload X114.here hx rfl (hb hby at_642) rfl k) ?_
            obtain ⟨_, _, ⟨T116, L116, k116, n116⟩, -, X116, ⟨Lc116, hQ116, l116, y116, z116⟩, st116⟩ := Jvm.LawKit.callS X114 hx (y := (⟨"com/example/log_to_isles/logtoisles/model/NodeName", "follows", "([BII)Z"⟩ : MethodName)) hown (mvT hZ (hw _ (List.mem_of_getElem? (i := 44) rfl))) (mvT hZ (hw _ (List.mem_of_getElem? (i := 45) rfl))) (mvT hZ (hw _ (List.mem_of_getElem? (i := 46) rfl))) (mvT hZ (hw _ (List.mem_of_getElem? (i := 47) rfl))) (by decide) (backOf (W := 0) (rmFol l Z a0 hw [] b19 k19 r_2 r_4 r_6 r_8 r_10 r_12 r_14 r_16 r_18 (p4 &&& (7 : Int32)) ln h101 n0 Z101 V101 (own_oM _)) hZ (hw _ (List.mem_of_getElem? (i := 47) rfl)) (hw _ (List.mem_of_getElem? (i := 46) rfl)) (by decide) (by decide)) (g := (mkF m 644 #[.val (.long p1), .second, .val (.int p2), .val (.int p3), .val (.int p4), .val (.int p5), .val (.int r_2), .val (.int r_4), .val (.int r_6), .val (.int r_8), .val (.int r_10), .val (.int r_12), .val (.int r_14), .val (.int r_16), .val (.int r_18), .val (.ref b19), .val (.int (p4 &&& (7 : Int32))), .val (.int ln), .val (.int (0 : Int32))] [(.int ln), (.int (p4 &&& (7 : Int32))), (.ref b19)])) rfl (by rw [hml]; rfl) (argsL := [(.ref b19), (.int (p4 &&& (7 : Int32))), (.int ln)]) (rest := []) (lenOf pd___BII_Z rfl) rfl (by show 2 * 0 + _ ≤ _; exact Nat.le_of_eq rfl) (hb hby at_644) (fun _ _ => ⟨rfl, e114, (by decide : 3 + 0 ≤ _), (by decide : 192 + 0 ≤ _)⟩)
            dsimp only [Pt.U, Pt.locs, Pt.cells, Pt.slots] at X116 l116 y116 z116 st116 hQ116
            subst l116 y116 z116
            obtain ⟨rfl, Nq116, e116⟩ := hQ116
            have Nf116 := Fr.app Nf114 Nq116
            refine own_fw (A' := (T116.setTop (mkF m 647 #[.val (.long p1), .second, .val (.int p2), .val (.int p3), .val (.int p4), .val (.int p5), .val (.int r_2), .val (.int r_4), .val (.int r_6), .val (.int r_8), .val (.int r_10), .val (.int r_12), .val (.int r_14), .val (.int r_16), .val (.int r_18), .val (.ref b19), .val (.int (p4 &&& (7 : Int32))), .val (.int ln), .val (.int (0 : Int32))] [(.int (own_fol (own_buf r_2 r_4 r_6 r_8 r_10 r_12 r_14 r_16 r_18) (p4 &&& (7 : Int32)) ln))]))) (fun t k => st116 _ k) ?_
            refine own_fw (A' := (T116.setTop (mkF m 649 #[.val (.long p1), .second, .val (.int p2), .val (.int p3), .val (.int p4), .val (.int p5), .val (.int r_2), .val (.int r_4), .val (.int r_6), .val (.int r_8), .val (.int r_10), .val (.int r_12), .val (.int r_14), .val (.int r_16), .val (.int r_18), .val (.ref b19), .val (.int (p4 &&& (7 : Int32))), .val (.int ln), .val (.int (0 : Int32))] [(.int (0 : Int32)), (.int (own_fol (own_buf r_2 r_4 r_6 r_8 r_10 r_12 r_14 r_16 r_18) (p4 &&& (7 : Int32)) ln))]))) (fun t k => XS.iload X116.here hx rfl (hb hby at_647) rfl k) ?_
            refine own_fw (A' := (T116.setTop (mkF m 652 #[.val (.long p1), .second, .val (.int p2), .val (.int p3), .val (.int p4), .val (.int p5), .val (.int r_2), .val (.int r_4), .val (.int r_6), .val (.int r_8), .val (.int r_10), .val (.int r_12), .val (.int r_14), .val (.int r_16), .val (.int r_18), .val (.ref b19), .val (.int (p4 &&& (7 : Int32))), .val (.int ln), .val (.int (0 : Int32))] []))) (fun t k => XS.icmpNo X116.here hx rfl (hb hby at_649) rfl (XT.ii_ne_f (own_bad (own_oM _) hc104 hc106 hc109 (1 : Int32) (by decide) rfl hc115)) k) ?_
            refine own_fw (A' := (T116.setTop (mkF m 653 #[.val (.long p1), .second, .val (.int p2), .val (.int p3), .val (.int p4), .val (.int p5), .val (.int r_2), .val (.int r_4), .val (.int r_6), .val (.int r_8), .val (.int r_10), .val (.int r_12), .val (.int r_14), .val (.int r_16), .val (.int r_18), .val (.ref b19), .val (.int (p4 &&& (7 : Int32))), .val (.int ln), .val (.int (0 : Int32))] [(.int (1 : Int32))]))) (fun t k => XS.iconst X116.here hx rfl (hb hby at_652) k) ?_
            refine own_fw (A' := (T116.setTop (mkF m 657 #[.val (.long p1), .second, .val (.int p2), .val (.int p3), .val (.int p4), .val (.int p5), .val (.int r_2), .val (.int r_4), .val (.int r_6), .val (.int r_8), .val (.int r_10), .val (.int r_12), .val (.int r_14), .val (.int r_16), .val (.int r_18), .val (.ref b19), .val (.int (p4 &&& (7 : Int32))), .val (.int ln), .val (.int (0 : Int32))] [(.int (1 : Int32))]))) (fun t k => XS.goto X116.here hx rfl (pc0 := 653) (pc' := 657) rfl (hb hby at_653) (by decide) (by decide) k) ?_
            obtain ⟨fs, hr, hrun, hended, hWE⟩ := X116.leaveW hS (by rw [e116]; exact hk : _ ≤ T116.heap.size) (v := some (.int (1 : Int32))) (fun h => by rw [Bd.returns] at h; cases h)
            refine ⟨_, _, ?_, hrun, hended, _, _, rfl, ?_, own_widen hWE (by decide) (by decide)⟩
            · exact retOut X116 hx Bd.returns rfl (Or.inl ⟨rfl, by simp, _, rfl⟩) (hb hby at_657) hr
            · show Q_rm0 Z p1 p2 p3 p4 p5 cs sv h0 n0 _ T116.heap _
              rw [e116]
              exact ⟨rfl, Nf116⟩
          · refine own_fw (A' := (T114.setTop (mkF m 533 #[.val (.long p1), .second, .val (.int p2), .val (.int p3), .val (.int p4), .val (.int p5), .val (.int r_2), .val (.int r_4), .val (.int r_6), .val (.int r_8), .val (.int r_10), .val (.int r_12), .val (.int r_14), .val (.int r_16), .val (.int r_18), .val (.ref b19), .val (.int (p4 &&& (7 : Int32))), .val (.int ln), .unset] []))) (fun t k => XS.ifNo X114.here hx rfl (hb hby at_530) rfl (XT.i0_eq_f hc115) k) ?_
            refine own_fw (A' := (T114.setTop (mkF m 535 #[.val (.long p1), .second, .val (.int p2), .val (.int p3), .val (.int p4), .val (.int p5), .val (.int r_2), .val (.int r_4), .val (.int r_6), .val (.int r_8), .val (.int r_10), .val (.int r_12), .val (.int r_14), .val (.int r_16), .val (.int r_18), .val (.ref b19), .val (.int (p4 &&& (7 : Int32))), .val (.int ln), .unset] [(.ref b19)]))) (fun t k => XS.aload X114.here hx rfl (hb hby at_533) rfl rfl k) ?_
            refine own_fw (A' := (T114.setTop (mkF m 536 #[.val (.long p1), .second, .val (.int p2), .val (.int p3), .val (.int p4), .val (.int p5), .val (.int r_2), .val (.int r_4), .val (.int r_6), .val (.int r_8), .val (.int r_10), .val (.int r_12), .val (.int r_14), .val (.int r_16), .val (.int r_18), .val (.ref b19), .val (.int (p4 &&& (7 : Int32))), .val (.int ln), .unset] [(.int (2 : Int32)), (.ref b19)]))) (fun t k => XS.iconst X114.here hx rfl (hb hby at_535) k) ?_
            refine own_fw (A' := (T114.setTop (mkF m 538 #[.val (.long p1), .second, .val (.int p2), .val (.int p3), .val (.int p4), .val (.int p5), .val (.int r_2), .val (.int r_4), .val (.int r_6), .val (.int r_8), .val (.int r_10), .val (.int r_12), .val (.int r_14), .val (.int r_16), .val (.int r_18), .val (.ref b19), .val (.int (p4 &&& (7 : Int32))), .val (.int ln), .unset] [(.int (p4 &&& (7 : Int32))), (.int (2 : Int32)), (.ref b19)]))) (fun t k => XS.iload X114.here hx rfl (hb hby at_536) rfl k) ?_
            refine own_fw (A' := (T114.setTop (mkF m 540 #[.val (.long p1), .second, .val (.int p2), .val (.int p3), .val (.int p4), .val (.int p5), .val (.int r_2), .val (.int r_4), .val (.int r_6), .val (.int r_8), .val (.int r_10), .val (.int r_12), .val (.int r_14), .val (.int r_16), .val (.int r_18), .val (.ref b19), .val (.int (p4 &&& (7 : Int32))), .val (.int ln), .unset] [(.int ln), (.int (p4 &&& (7 : Int32))), (.int (2 : Int32)), (.ref b19)]))) (fun t k => XS.iload X114.here hx rfl (hb hby at_538) rfl k) ?_
            obtain ⟨_, _, ⟨T117, L117, k117, n117⟩, -, X117, ⟨Lc117, hQ117, l117, y117, z117⟩, st117⟩ := Jvm.LawKit.callS X114 hx (y := (⟨"com/example/log_to_isles/logtoisles/model/NodeNameFollowsPinLaw", "okAt", "([BIII)Z"⟩ : MethodName)) hown (mvT hZ (hw _ (List.mem_of_getElem? (i := 38) rfl))) (mvT hZ (hw _ (List.mem_of_getElem? (i := 39) rfl))) (mvT hZ (hw _ (List.mem_of_getElem? (i := 2) rfl))) (mvT hZ (hw _ (List.mem_of_getElem? (i := 40) rfl))) (by decide) (backOf (W := 0) (rmOk2 l Z a0 hw [] b19 k19 r_2 r_4 r_6 r_8 r_10 r_12 r_14 r_16 r_18 (p4 &&& (7 : Int32)) ln h101 n0 Z101 V101) hZ (hw _ (List.mem_of_getElem? (i := 40) rfl)) (hw _ (List.mem_of_getElem? (i := 2) rfl)) (by decide) (by decide)) (g := (mkF m 540 #[.val (.long p1), .second, .val (.int p2), .val (.int p3), .val (.int p4), .val (.int p5), .val (.int r_2), .val (.int r_4), .val (.int r_6), .val (.int r_8), .val (.int r_10), .val (.int r_12), .val (.int r_14), .val (.int r_16), .val (.int r_18), .val (.ref b19), .val (.int (p4 &&& (7 : Int32))), .val (.int ln), .unset] [(.int ln), (.int (p4 &&& (7 : Int32))), (.int (2 : Int32)), (.ref b19)])) rfl (by rw [hml]; rfl) (argsL := [(.ref b19), (.int (2 : Int32)), (.int (p4 &&& (7 : Int32))), (.int ln)]) (rest := []) (lenOf pd___BIII_Z rfl) rfl (by show 2 * 0 + _ ≤ _; exact Nat.le_of_eq rfl) (hb hby at_540) (fun _ _ => ⟨rfl, e114, (by decide : 3 + 0 ≤ _), (by decide : 192 + 0 ≤ _)⟩)
            dsimp only [Pt.U, Pt.locs, Pt.cells, Pt.slots] at X117 l117 y117 z117 st117 hQ117
            subst l117 y117 z117
            obtain ⟨rfl, Nq117, e117⟩ := hQ117
            have Nf117 := Fr.app Nf114 Nq117
            refine own_fw (A' := (T117.setTop (mkF m 543 #[.val (.long p1), .second, .val (.int p2), .val (.int p3), .val (.int p4), .val (.int p5), .val (.int r_2), .val (.int r_4), .val (.int r_6), .val (.int r_8), .val (.int r_10), .val (.int r_12), .val (.int r_14), .val (.int r_16), .val (.int r_18), .val (.ref b19), .val (.int (p4 &&& (7 : Int32))), .val (.int ln), .unset] [(.int (own_ok (2 : Int32) (p4 &&& (7 : Int32)) ln r_6))]))) (fun t k => st117 _ k) ?_
            by_cases hc118 : (own_ok (2 : Int32) (p4 &&& (7 : Int32)) ln r_6) = (0 : Int32)
            · refine own_fw (A' := (T117.setTop (mkF m 635 #[.val (.long p1), .second, .val (.int p2), .val (.int p3), .val (.int p4), .val (.int p5), .val (.int r_2), .val (.int r_4), .val (.int r_6), .val (.int r_8), .val (.int r_10), .val (.int r_12), .val (.int r_14), .val (.int r_16), .val (.int r_18), .val (.ref b19), .val (.int (p4 &&& (7 : Int32))), .val (.int ln), .unset] []))) (fun t k => XS.ifYes X117.here hx rfl (pc0 := 543) (pc' := 635) rfl (hb hby at_543) rfl (XT.i0_eq_t hc118) (by decide) (by decide) k) ?_
              refine own_fw (A' := (T117.setTop (mkF m 636 #[.val (.long p1), .second, .val (.int p2), .val (.int p3), .val (.int p4), .val (.int p5), .val (.int r_2), .val (.int r_4), .val (.int r_6), .val (.int r_8), .val (.int r_10), .val (.int r_12), .val (.int r_14), .val (.int r_16), .val (.int r_18), .val (.ref b19), .val (.int (p4 &&& (7 : Int32))), .val (.int ln), .unset] [(.int (0 : Int32))]))) (fun t k => XS.iconst X117.here hx rfl (hb hby at_635) k) ?_
              refine own_fw (A' := (T117.setTop (mkF m 638 #[.val (.long p1), .second, .val (.int p2), .val (.int p3), .val (.int p4), .val (.int p5), .val (.int r_2), .val (.int r_4), .val (.int r_6), .val (.int r_8), .val (.int r_10), .val (.int r_12), .val (.int r_14), .val (.int r_16), .val (.int r_18), .val (.ref b19), .val (.int (p4 &&& (7 : Int32))), .val (.int ln), .val (.int (0 : Int32))] []))) (fun t k => XS.istore X117.here hx rfl (hb hby at_636) rfl (l' := #[.val (.long p1), .second, .val (.int p2), .val (.int p3), .val (.int p4), .val (.int p5), .val (.int r_2), .val (.int r_4), .val (.int r_6), .val (.int r_8), .val (.int r_10), .val (.int r_12), .val (.int r_14), .val (.int r_16), .val (.int r_18), .val (.ref b19), .val (.int (p4 &&& (7 : Int32))), .val (.int ln), .val (.int (0 : Int32))]) rfl k) ?_
              refine own_fw (A' := (T117.setTop (mkF m 640 #[.val (.long p1), .second, .val (.int p2), .val (.int p3), .val (.int p4), .val (.int p5), .val (.int r_2), .val (.int r_4), .val (.int r_6), .val (.int r_8), .val (.int r_10), .val (.int r_12), .val (.int r_14), .val (.int r_16), .val (.int r_18), .val (.ref b19), .val (.int (p4 &&& (7 : Int32))), .val (.int ln), .val (.int (0 : Int32))] [(.ref b19)]))) (fun t k => XS.aload X117.here hx rfl (hb hby at_638) rfl rfl k) ?_
              refine own_fw (A' := (T117.setTop (mkF m 642 #[.val (.long p1), .second, .val (.int p2), .val (.int p3), .val (.int p4), .val (.int p5), .val (.int r_2), .val (.int r_4), .val (.int r_6), .val (.int r_8), .val (.int r_10), .val (.int r_12), .val (.int r_14), .val (.int r_16), .val (.int r_18), .val (.ref b19), .val (.int (p4 &&& (7 : Int32))), .val (.int ln), .val (.int (0 : Int32))] [(.int (p4 &&& (7 : Int32))), (.ref b19)]))) (fun t k => XS.iload X117.here hx rfl (hb hby at_640) rfl k) ?_
              refine own_fw (A' := (T117.setTop (mkF m 644 #[.val (.long p1), .second, .val (.int p2), .val (.int p3), .val (.int p4), .val (.int p5), .val (.int r_2), .val (.int r_4), .val (.int r_6), .val (.int r_8), .val (.int r_10), .val (.int r_12), .val (.int r_14), .val (.int r_16), .val (.int r_18), .val (.ref b19), .val (.int (p4 &&& (7 : Int32))), .val (.int ln), .val (.int (0 : Int32))] [(.int ln), (.int (p4 &&& (7 : Int32))), (.ref b19)]))) (fun t k => XS.iload X117.here hx rfl (hb hby at_642) rfl k) ?_
              obtain ⟨_, _, ⟨T119, L119, k119, n119⟩, -, X119, ⟨Lc119, hQ119, l119, y119, z119⟩, st119⟩ := Jvm.LawKit.callS X117 hx (y := (⟨"com/example/log_to_isles/logtoisles/model/NodeName", "follows", "([BII)Z"⟩ : MethodName)) hown (mvT hZ (hw _ (List.mem_of_getElem? (i := 44) rfl))) (mvT hZ (hw _ (List.mem_of_getElem? (i := 45) rfl))) (mvT hZ (hw _ (List.mem_of_getElem? (i := 46) rfl))) (mvT hZ (hw _ (List.mem_of_getElem? (i := 47) rfl))) (by decide) (backOf (W := 0) (rmFol l Z a0 hw [] b19 k19 r_2 r_4 r_6 r_8 r_10 r_12 r_14 r_16 r_18 (p4 &&& (7 : Int32)) ln h101 n0 Z101 V101 (own_oM _)) hZ (hw _ (List.mem_of_getElem? (i := 47) rfl)) (hw _ (List.mem_of_getElem? (i := 46) rfl)) (by decide) (by decide)) (g := (mkF m 644 #[.val (.long p1), .second, .val (.int p2), .val (.int p3), .val (.int p4), .val (.int p5), .val (.int r_2), .val (.int r_4), .val (.int r_6), .val (.int r_8), .val (.int r_10), .val (.int r_12), .val (.int r_14), .val (.int r_16), .val (.int r_18), .val (.ref b19), .val (.int (p4 &&& (7 : Int32))), .val (.int ln), .val (.int (0 : Int32))] [(.int ln), (.int (p4 &&& (7 : Int32))), (.ref b19)])) rfl (by rw [hml]; rfl) (argsL := [(.ref b19), (.int (p4 &&& (7 : Int32))), (.int ln)]) (rest := []) (lenOf pd___BII_Z rfl) rfl (by show 2 * 0 + _ ≤ _; exact Nat.le_of_eq rfl) (hb hby at_644) (fun _ _ => ⟨rfl, e117, (by decide : 3 + 0 ≤ _), (by decide : 192 + 0 ≤ _)⟩)
              dsimp only [Pt.U, Pt.locs, Pt.cells, Pt.slots] at X119 l119 y119 z119 st119 hQ119
              subst l119 y119 z119
              obtain ⟨rfl, Nq119, e119⟩ := hQ119
              have Nf119 := Fr.app Nf117 Nq119
              refine own_fw (A' := (T119.setTop (mkF m 647 #[.val (.long p1), .second, .val (.int p2), .val (.int p3), .val (.int p4), .val (.int p5), .val (.int r_2), .val (.int r_4), .val (.int r_6), .val (.int r_8), .val (.int r_10), .val (.int r_12), .val (.int r_14), .val (.int r_16), .val (.int r_18), .val (.ref b19), .val (.int (p4 &&& (7 : Int32))), .val (.int ln), .val (.int (0 : Int32))] [(.int (own_fol (own_buf r_2 r_4 r_6 r_8 r_10 r_12 r_14 r_16 r_18) (p4 &&& (7 : Int32)) ln))]))) (fun t k => st119 _ k) ?_
              refine own_fw (A' := (T119.setTop (mkF m 649 #[.val (.long p1), .second, .val (.int p2), .val (.int p3), .val (.int p4), .val (.int p5), .val (.int r_2), .val (.int r_4), .val (.int r_6), .val (.int r_8), .val (.int r_10), .val (.int r_12), .val (.int r_14), .val (.int r_16), .val (.int r_18), .val (.ref b19), .val (.int (p4 &&& (7 : Int32))), .val (.int ln), .val (.int (0 : Int32))] [(.int (0 : Int32)), (.int (own_fol (own_buf r_2 r_4 r_6 r_8 r_10 r_12 r_14 r_16 r_18) (p4 &&& (7 : Int32)) ln))]))) (fun t k => XS.iload X119.here hx rfl (hb hby at_647) rfl k) ?_
              refine own_fw (A' := (T119.setTop (mkF m 652 #[.val (.long p1), .second, .val (.int p2), .val (.int p3), .val (.int p4), .val (.int p5), .val (.int r_2), .val (.int r_4), .val (.int r_6), .val (.int r_8), .val (.int r_10), .val (.int r_12), .val (.int r_14), .val (.int r_16), .val (.int r_18), .val (.ref b19), .val (.int (p4 &&& (7 : Int32))), .val (.int ln), .val (.int (0 : Int32))] []))) (fun t k => XS.icmpNo X119.here hx rfl (hb hby at_649) rfl (XT.ii_ne_f (own_bad (own_oM _) hc104 hc106 hc109 (2 : Int32) (by decide) rfl hc118)) k) ?_
              refine own_fw (A' := (T119.setTop (mkF m 653 #[.val (.long p1), .second, .val (.int p2), .val (.int p3), .val (.int p4), .val (.int p5), .val (.int r_2), .val (.int r_4), .val (.int r_6), .val (.int r_8), .val (.int r_10), .val (.int r_12), .val (.int r_14), .val (.int r_16), .val (.int r_18), .val (.ref b19), .val (.int (p4 &&& (7 : Int32))), .val (.int ln), .val (.int (0 : Int32))] [(.int (1 : Int32))]))) (fun t k => XS.iconst X119.here hx rfl (hb hby at_652) k) ?_
              refine own_fw (A' := (T119.setTop (mkF m 657 #[.val (.long p1), .second, .val (.int p2), .val (.int p3), .val (.int p4), .val (.int p5), .val (.int r_2), .val (.int r_4), .val (.int r_6), .val (.int r_8), .val (.int r_10), .val (.int r_12), .val (.int r_14), .val (.int r_16), .val (.int r_18), .val (.ref b19), .val (.int (p4 &&& (7 : Int32))), .val (.int ln), .val (.int (0 : Int32))] [(.int (1 : Int32))]))) (fun t k => XS.goto X119.here hx rfl (pc0 := 653) (pc' := 657) rfl (hb hby at_653) (by decide) (by decide) k) ?_
              obtain ⟨fs, hr, hrun, hended, hWE⟩ := X119.leaveW hS (by rw [e119]; exact hk : _ ≤ T119.heap.size) (v := some (.int (1 : Int32))) (fun h => by rw [Bd.returns] at h; cases h)
              refine ⟨_, _, ?_, hrun, hended, _, _, rfl, ?_, own_widen hWE (by decide) (by decide)⟩
              · exact retOut X119 hx Bd.returns rfl (Or.inl ⟨rfl, by simp, _, rfl⟩) (hb hby at_657) hr
              · show Q_rm0 Z p1 p2 p3 p4 p5 cs sv h0 n0 _ T119.heap _
                rw [e119]
                exact ⟨rfl, Nf119⟩
            · refine own_fw (A' := (T117.setTop (mkF m 546 #[.val (.long p1), .second, .val (.int p2), .val (.int p3), .val (.int p4), .val (.int p5), .val (.int r_2), .val (.int r_4), .val (.int r_6), .val (.int r_8), .val (.int r_10), .val (.int r_12), .val (.int r_14), .val (.int r_16), .val (.int r_18), .val (.ref b19), .val (.int (p4 &&& (7 : Int32))), .val (.int ln), .unset] []))) (fun t k => XS.ifNo X117.here hx rfl (hb hby at_543) rfl (XT.i0_eq_f hc118) k) ?_
              refine own_fw (A' := (T117.setTop (mkF m 548 #[.val (.long p1), .second, .val (.int p2), .val (.int p3), .val (.int p4), .val (.int p5), .val (.int r_2), .val (.int r_4), .val (.int r_6), .val (.int r_8), .val (.int r_10), .val (.int r_12), .val (.int r_14), .val (.int r_16), .val (.int r_18), .val (.ref b19), .val (.int (p4 &&& (7 : Int32))), .val (.int ln), .unset] [(.ref b19)]))) (fun t k => XS.aload X117.here hx rfl (hb hby at_546) rfl rfl k) ?_
              refine own_fw (A' := (T117.setTop (mkF m 549 #[.val (.long p1), .second, .val (.int p2), .val (.int p3), .val (.int p4), .val (.int p5), .val (.int r_2), .val (.int r_4), .val (.int r_6), .val (.int r_8), .val (.int r_10), .val (.int r_12), .val (.int r_14), .val (.int r_16), .val (.int r_18), .val (.ref b19), .val (.int (p4 &&& (7 : Int32))), .val (.int ln), .unset] [(.int (3 : Int32)), (.ref b19)]))) (fun t k => XS.iconst X117.here hx rfl (hb hby at_548) k) ?_
              refine own_fw (A' := (T117.setTop (mkF m 551 #[.val (.long p1), .second, .val (.int p2), .val (.int p3), .val (.int p4), .val (.int p5), .val (.int r_2), .val (.int r_4), .val (.int r_6), .val (.int r_8), .val (.int r_10), .val (.int r_12), .val (.int r_14), .val (.int r_16), .val (.int r_18), .val (.ref b19), .val (.int (p4 &&& (7 : Int32))), .val (.int ln), .unset] [(.int (p4 &&& (7 : Int32))), (.int (3 : Int32)), (.ref b19)]))) (fun t k => XS.iload X117.here hx rfl (hb hby at_549) rfl k) ?_
              refine own_fw (A' := (T117.setTop (mkF m 553 #[.val (.long p1), .second, .val (.int p2), .val (.int p3), .val (.int p4), .val (.int p5), .val (.int r_2), .val (.int r_4), .val (.int r_6), .val (.int r_8), .val (.int r_10), .val (.int r_12), .val (.int r_14), .val (.int r_16), .val (.int r_18), .val (.ref b19), .val (.int (p4 &&& (7 : Int32))), .val (.int ln), .unset] [(.int ln), (.int (p4 &&& (7 : Int32))), (.int (3 : Int32)), (.ref b19)]))) (fun t k => XS.iload X117.here hx rfl (hb hby at_551) rfl k) ?_
              obtain ⟨_, _, ⟨T120, L120, k120, n120⟩, -, X120, ⟨Lc120, hQ120, l120, y120, z120⟩, st120⟩ := Jvm.LawKit.callS X117 hx (y := (⟨"com/example/log_to_isles/logtoisles/model/NodeNameFollowsPinLaw", "okAt", "([BIII)Z"⟩ : MethodName)) hown (mvT hZ (hw _ (List.mem_of_getElem? (i := 38) rfl))) (mvT hZ (hw _ (List.mem_of_getElem? (i := 39) rfl))) (mvT hZ (hw _ (List.mem_of_getElem? (i := 2) rfl))) (mvT hZ (hw _ (List.mem_of_getElem? (i := 40) rfl))) (by decide) (backOf (W := 0) (rmOk3 l Z a0 hw [] b19 k19 r_2 r_4 r_6 r_8 r_10 r_12 r_14 r_16 r_18 (p4 &&& (7 : Int32)) ln h101 n0 Z101 V101) hZ (hw _ (List.mem_of_getElem? (i := 40) rfl)) (hw _ (List.mem_of_getElem? (i := 2) rfl)) (by decide) (by decide)) (g := (mkF m 553 #[.val (.long p1), .second, .val (.int p2), .val (.int p3), .val (.int p4), .val (.int p5), .val (.int r_2), .val (.int r_4), .val (.int r_6), .val (.int r_8), .val (.int r_10), .val (.int r_12), .val (.int r_14), .val (.int r_16), .val (.int r_18), .val (.ref b19), .val (.int (p4 &&& (7 : Int32))), .val (.int ln), .unset] [(.int ln), (.int (p4 &&& (7 : Int32))), (.int (3 : Int32)), (.ref b19)])) rfl (by rw [hml]; rfl) (argsL := [(.ref b19), (.int (3 : Int32)), (.int (p4 &&& (7 : Int32))), (.int ln)]) (rest := []) (lenOf pd___BIII_Z rfl) rfl (by show 2 * 0 + _ ≤ _; exact Nat.le_of_eq rfl) (hb hby at_553) (fun _ _ => ⟨rfl, e117, (by decide : 3 + 0 ≤ _), (by decide : 192 + 0 ≤ _)⟩)
              dsimp only [Pt.U, Pt.locs, Pt.cells, Pt.slots] at X120 l120 y120 z120 st120 hQ120
              subst l120 y120 z120
              obtain ⟨rfl, Nq120, e120⟩ := hQ120
              have Nf120 := Fr.app Nf117 Nq120
              refine own_fw (A' := (T120.setTop (mkF m 556 #[.val (.long p1), .second, .val (.int p2), .val (.int p3), .val (.int p4), .val (.int p5), .val (.int r_2), .val (.int r_4), .val (.int r_6), .val (.int r_8), .val (.int r_10), .val (.int r_12), .val (.int r_14), .val (.int r_16), .val (.int r_18), .val (.ref b19), .val (.int (p4 &&& (7 : Int32))), .val (.int ln), .unset] [(.int (own_ok (3 : Int32) (p4 &&& (7 : Int32)) ln r_8))]))) (fun t k => st120 _ k) ?_
              by_cases hc121 : (own_ok (3 : Int32) (p4 &&& (7 : Int32)) ln r_8) = (0 : Int32)
              · refine own_fw (A' := (T120.setTop (mkF m 635 #[.val (.long p1), .second, .val (.int p2), .val (.int p3), .val (.int p4), .val (.int p5), .val (.int r_2), .val (.int r_4), .val (.int r_6), .val (.int r_8), .val (.int r_10), .val (.int r_12), .val (.int r_14), .val (.int r_16), .val (.int r_18), .val (.ref b19), .val (.int (p4 &&& (7 : Int32))), .val (.int ln), .unset] []))) (fun t k => XS.ifYes X120.here hx rfl (pc0 := 556) (pc' := 635) rfl (hb hby at_556) rfl (XT.i0_eq_t hc121) (by decide) (by decide) k) ?_
                refine own_fw (A' := (T120.setTop (mkF m 636 #[.val (.long p1), .second, .val (.int p2), .val (.int p3), .val (.int p4), .val (.int p5), .val (.int r_2), .val (.int r_4), .val (.int r_6), .val (.int r_8), .val (.int r_10), .val (.int r_12), .val (.int r_14), .val (.int r_16), .val (.int r_18), .val (.ref b19), .val (.int (p4 &&& (7 : Int32))), .val (.int ln), .unset] [(.int (0 : Int32))]))) (fun t k => XS.iconst X120.here hx rfl (hb hby at_635) k) ?_
                refine own_fw (A' := (T120.setTop (mkF m 638 #[.val (.long p1), .second, .val (.int p2), .val (.int p3), .val (.int p4), .val (.int p5), .val (.int r_2), .val (.int r_4), .val (.int r_6), .val (.int r_8), .val (.int r_10), .val (.int r_12), .val (.int r_14), .val (.int r_16), .val (.int r_18), .val (.ref b19), .val (.int (p4 &&& (7 : Int32))), .val (.int ln), .val (.int (0 : Int32))] []))) (fun t k => XS.istore X120.here hx rfl (hb hby at_636) rfl (l' := #[.val (.long p1), .second, .val (.int p2), .val (.int p3), .val (.int p4), .val (.int p5), .val (.int r_2), .val (.int r_4), .val (.int r_6), .val (.int r_8), .val (.int r_10), .val (.int r_12), .val (.int r_14), .val (.int r_16), .val (.int r_18), .val (.ref b19), .val (.int (p4 &&& (7 : Int32))), .val (.int ln), .val (.int (0 : Int32))]) rfl k) ?_
                refine own_fw (A' := (T120.setTop (mkF m 640 #[.val (.long p1), .second, .val (.int p2), .val (.int p3), .val (.int p4), .val (.int p5), .val (.int r_2), .val (.int r_4), .val (.int r_6), .val (.int r_8), .val (.int r_10), .val (.int r_12), .val (.int r_14), .val (.int r_16), .val (.int r_18), .val (.ref b19), .val (.int (p4 &&& (7 : Int32))), .val (.int ln), .val (.int (0 : Int32))] [(.ref b19)]))) (fun t k => XS.aload X120.here hx rfl (hb hby at_638) rfl rfl k) ?_
                refine own_fw (A' := (T120.setTop (mkF m 642 #[.val (.long p1), .second, .val (.int p2), .val (.int p3), .val (.int p4), .val (.int p5), .val (.int r_2), .val (.int r_4), .val (.int r_6), .val (.int r_8), .val (.int r_10), .val (.int r_12), .val (.int r_14), .val (.int r_16), .val (.int r_18), .val (.ref b19), .val (.int (p4 &&& (7 : Int32))), .val (.int ln), .val (.int (0 : Int32))] [(.int (p4 &&& (7 : Int32))), (.ref b19)]))) (fun t k => XS.iload X120.here hx rfl (hb hby at_640) rfl k) ?_
                refine own_fw (A' := (T120.setTop (mkF m 644 #[.val (.long p1), .second, .val (.int p2), .val (.int p3), .val (.int p4), .val (.int p5), .val (.int r_2), .val (.int r_4), .val (.int r_6), .val (.int r_8), .val (.int r_10), .val (.int r_12), .val (.int r_14), .val (.int r_16), .val (.int r_18), .val (.ref b19), .val (.int (p4 &&& (7 : Int32))), .val (.int ln), .val (.int (0 : Int32))] [(.int ln), (.int (p4 &&& (7 : Int32))), (.ref b19)]))) (fun t k => XS.iload X120.here hx rfl (hb hby at_642) rfl k) ?_
                obtain ⟨_, _, ⟨T122, L122, k122, n122⟩, -, X122, ⟨Lc122, hQ122, l122, y122, z122⟩, st122⟩ := Jvm.LawKit.callS X120 hx (y := (⟨"com/example/log_to_isles/logtoisles/model/NodeName", "follows", "([BII)Z"⟩ : MethodName)) hown (mvT hZ (hw _ (List.mem_of_getElem? (i := 44) rfl))) (mvT hZ (hw _ (List.mem_of_getElem? (i := 45) rfl))) (mvT hZ (hw _ (List.mem_of_getElem? (i := 46) rfl))) (mvT hZ (hw _ (List.mem_of_getElem? (i := 47) rfl))) (by decide) (backOf (W := 0) (rmFol l Z a0 hw [] b19 k19 r_2 r_4 r_6 r_8 r_10 r_12 r_14 r_16 r_18 (p4 &&& (7 : Int32)) ln h101 n0 Z101 V101 (own_oM _)) hZ (hw _ (List.mem_of_getElem? (i := 47) rfl)) (hw _ (List.mem_of_getElem? (i := 46) rfl)) (by decide) (by decide)) (g := (mkF m 644 #[.val (.long p1), .second, .val (.int p2), .val (.int p3), .val (.int p4), .val (.int p5), .val (.int r_2), .val (.int r_4), .val (.int r_6), .val (.int r_8), .val (.int r_10), .val (.int r_12), .val (.int r_14), .val (.int r_16), .val (.int r_18), .val (.ref b19), .val (.int (p4 &&& (7 : Int32))), .val (.int ln), .val (.int (0 : Int32))] [(.int ln), (.int (p4 &&& (7 : Int32))), (.ref b19)])) rfl (by rw [hml]; rfl) (argsL := [(.ref b19), (.int (p4 &&& (7 : Int32))), (.int ln)]) (rest := []) (lenOf pd___BII_Z rfl) rfl (by show 2 * 0 + _ ≤ _; exact Nat.le_of_eq rfl) (hb hby at_644) (fun _ _ => ⟨rfl, e120, (by decide : 3 + 0 ≤ _), (by decide : 192 + 0 ≤ _)⟩)
                dsimp only [Pt.U, Pt.locs, Pt.cells, Pt.slots] at X122 l122 y122 z122 st122 hQ122
                subst l122 y122 z122
                obtain ⟨rfl, Nq122, e122⟩ := hQ122
                have Nf122 := Fr.app Nf120 Nq122
                refine own_fw (A' := (T122.setTop (mkF m 647 #[.val (.long p1), .second, .val (.int p2), .val (.int p3), .val (.int p4), .val (.int p5), .val (.int r_2), .val (.int r_4), .val (.int r_6), .val (.int r_8), .val (.int r_10), .val (.int r_12), .val (.int r_14), .val (.int r_16), .val (.int r_18), .val (.ref b19), .val (.int (p4 &&& (7 : Int32))), .val (.int ln), .val (.int (0 : Int32))] [(.int (own_fol (own_buf r_2 r_4 r_6 r_8 r_10 r_12 r_14 r_16 r_18) (p4 &&& (7 : Int32)) ln))]))) (fun t k => st122 _ k) ?_
                refine own_fw (A' := (T122.setTop (mkF m 649 #[.val (.long p1), .second, .val (.int p2), .val (.int p3), .val (.int p4), .val (.int p5), .val (.int r_2), .val (.int r_4), .val (.int r_6), .val (.int r_8), .val (.int r_10), .val (.int r_12), .val (.int r_14), .val (.int r_16), .val (.int r_18), .val (.ref b19), .val (.int (p4 &&& (7 : Int32))), .val (.int ln), .val (.int (0 : Int32))] [(.int (0 : Int32)), (.int (own_fol (own_buf r_2 r_4 r_6 r_8 r_10 r_12 r_14 r_16 r_18) (p4 &&& (7 : Int32)) ln))]))) (fun t k => XS.iload X122.here hx rfl (hb hby at_647) rfl k) ?_
                refine own_fw (A' := (T122.setTop (mkF m 652 #[.val (.long p1), .second, .val (.int p2), .val (.int p3), .val (.int p4), .val (.int p5), .val (.int r_2), .val (.int r_4), .val (.int r_6), .val (.int r_8), .val (.int r_10), .val (.int r_12), .val (.int r_14), .val (.int r_16), .val (.int r_18), .val (.ref b19), .val (.int (p4 &&& (7 : Int32))), .val (.int ln), .val (.int (0 : Int32))] []))) (fun t k => XS.icmpNo X122.here hx rfl (hb hby at_649) rfl (XT.ii_ne_f (own_bad (own_oM _) hc104 hc106 hc109 (3 : Int32) (by decide) rfl hc121)) k) ?_
                refine own_fw (A' := (T122.setTop (mkF m 653 #[.val (.long p1), .second, .val (.int p2), .val (.int p3), .val (.int p4), .val (.int p5), .val (.int r_2), .val (.int r_4), .val (.int r_6), .val (.int r_8), .val (.int r_10), .val (.int r_12), .val (.int r_14), .val (.int r_16), .val (.int r_18), .val (.ref b19), .val (.int (p4 &&& (7 : Int32))), .val (.int ln), .val (.int (0 : Int32))] [(.int (1 : Int32))]))) (fun t k => XS.iconst X122.here hx rfl (hb hby at_652) k) ?_
                refine own_fw (A' := (T122.setTop (mkF m 657 #[.val (.long p1), .second, .val (.int p2), .val (.int p3), .val (.int p4), .val (.int p5), .val (.int r_2), .val (.int r_4), .val (.int r_6), .val (.int r_8), .val (.int r_10), .val (.int r_12), .val (.int r_14), .val (.int r_16), .val (.int r_18), .val (.ref b19), .val (.int (p4 &&& (7 : Int32))), .val (.int ln), .val (.int (0 : Int32))] [(.int (1 : Int32))]))) (fun t k => XS.goto X122.here hx rfl (pc0 := 653) (pc' := 657) rfl (hb hby at_653) (by decide) (by decide) k) ?_
                obtain ⟨fs, hr, hrun, hended, hWE⟩ := X122.leaveW hS (by rw [e122]; exact hk : _ ≤ T122.heap.size) (v := some (.int (1 : Int32))) (fun h => by rw [Bd.returns] at h; cases h)
                refine ⟨_, _, ?_, hrun, hended, _, _, rfl, ?_, own_widen hWE (by decide) (by decide)⟩
                · exact retOut X122 hx Bd.returns rfl (Or.inl ⟨rfl, by simp, _, rfl⟩) (hb hby at_657) hr
                · show Q_rm0 Z p1 p2 p3 p4 p5 cs sv h0 n0 _ T122.heap _
                  rw [e122]
                  exact ⟨rfl, Nf122⟩
              · refine own_fw (A' := (T120.setTop (mkF m 559 #[.val (.long p1), .second, .val (.int p2), .val (.int p3), .val (.int p4), .val (.int p5), .val (.int r_2), .val (.int r_4), .val (.int r_6), .val (.int r_8), .val (.int r_10), .val (.int r_12), .val (.int r_14), .val (.int r_16), .val (.int r_18), .val (.ref b19), .val (.int (p4 &&& (7 : Int32))), .val (.int ln), .unset] []))) (fun t k => XS.ifNo X120.here hx rfl (hb hby at_556) rfl (XT.i0_eq_f hc121) k) ?_
                refine own_fw (A' := (T120.setTop (mkF m 561 #[.val (.long p1), .second, .val (.int p2), .val (.int p3), .val (.int p4), .val (.int p5), .val (.int r_2), .val (.int r_4), .val (.int r_6), .val (.int r_8), .val (.int r_10), .val (.int r_12), .val (.int r_14), .val (.int r_16), .val (.int r_18), .val (.ref b19), .val (.int (p4 &&& (7 : Int32))), .val (.int ln), .unset] [(.ref b19)]))) (fun t k => XS.aload X120.here hx rfl (hb hby at_559) rfl rfl k) ?_
                refine own_fw (A' := (T120.setTop (mkF m 562 #[.val (.long p1), .second, .val (.int p2), .val (.int p3), .val (.int p4), .val (.int p5), .val (.int r_2), .val (.int r_4), .val (.int r_6), .val (.int r_8), .val (.int r_10), .val (.int r_12), .val (.int r_14), .val (.int r_16), .val (.int r_18), .val (.ref b19), .val (.int (p4 &&& (7 : Int32))), .val (.int ln), .unset] [(.int (4 : Int32)), (.ref b19)]))) (fun t k => XS.iconst X120.here hx rfl (hb hby at_561) k) ?_
                refine own_fw (A' := (T120.setTop (mkF m 564 #[.val (.long p1), .second, .val (.int p2), .val (.int p3), .val (.int p4), .val (.int p5), .val (.int r_2), .val (.int r_4), .val (.int r_6), .val (.int r_8), .val (.int r_10), .val (.int r_12), .val (.int r_14), .val (.int r_16), .val (.int r_18), .val (.ref b19), .val (.int (p4 &&& (7 : Int32))), .val (.int ln), .unset] [(.int (p4 &&& (7 : Int32))), (.int (4 : Int32)), (.ref b19)]))) (fun t k => XS.iload X120.here hx rfl (hb hby at_562) rfl k) ?_
                refine own_fw (A' := (T120.setTop (mkF m 566 #[.val (.long p1), .second, .val (.int p2), .val (.int p3), .val (.int p4), .val (.int p5), .val (.int r_2), .val (.int r_4), .val (.int r_6), .val (.int r_8), .val (.int r_10), .val (.int r_12), .val (.int r_14), .val (.int r_16), .val (.int r_18), .val (.ref b19), .val (.int (p4 &&& (7 : Int32))), .val (.int ln), .unset] [(.int ln), (.int (p4 &&& (7 : Int32))), (.int (4 : Int32)), (.ref b19)]))) (fun t k => XS.iload X120.here hx rfl (hb hby at_564) rfl k) ?_
                obtain ⟨_, _, ⟨T123, L123, k123, n123⟩, -, X123, ⟨Lc123, hQ123, l123, y123, z123⟩, st123⟩ := Jvm.LawKit.callS X120 hx (y := (⟨"com/example/log_to_isles/logtoisles/model/NodeNameFollowsPinLaw", "okAt", "([BIII)Z"⟩ : MethodName)) hown (mvT hZ (hw _ (List.mem_of_getElem? (i := 38) rfl))) (mvT hZ (hw _ (List.mem_of_getElem? (i := 39) rfl))) (mvT hZ (hw _ (List.mem_of_getElem? (i := 2) rfl))) (mvT hZ (hw _ (List.mem_of_getElem? (i := 40) rfl))) (by decide) (backOf (W := 0) (rmOk4 l Z a0 hw [] b19 k19 r_2 r_4 r_6 r_8 r_10 r_12 r_14 r_16 r_18 (p4 &&& (7 : Int32)) ln h101 n0 Z101 V101) hZ (hw _ (List.mem_of_getElem? (i := 40) rfl)) (hw _ (List.mem_of_getElem? (i := 2) rfl)) (by decide) (by decide)) (g := (mkF m 566 #[.val (.long p1), .second, .val (.int p2), .val (.int p3), .val (.int p4), .val (.int p5), .val (.int r_2), .val (.int r_4), .val (.int r_6), .val (.int r_8), .val (.int r_10), .val (.int r_12), .val (.int r_14), .val (.int r_16), .val (.int r_18), .val (.ref b19), .val (.int (p4 &&& (7 : Int32))), .val (.int ln), .unset] [(.int ln), (.int (p4 &&& (7 : Int32))), (.int (4 : Int32)), (.ref b19)])) rfl (by rw [hml]; rfl) (argsL := [(.ref b19), (.int (4 : Int32)), (.int (p4 &&& (7 : Int32))), (.int ln)]) (rest := []) (lenOf pd___BIII_Z rfl) rfl (by show 2 * 0 + _ ≤ _; exact Nat.le_of_eq rfl) (hb hby at_566) (fun _ _ => ⟨rfl, e120, (by decide : 3 + 0 ≤ _), (by decide : 192 + 0 ≤ _)⟩)
                dsimp only [Pt.U, Pt.locs, Pt.cells, Pt.slots] at X123 l123 y123 z123 st123 hQ123
                subst l123 y123 z123
                obtain ⟨rfl, Nq123, e123⟩ := hQ123
                have Nf123 := Fr.app Nf120 Nq123
                refine own_fw (A' := (T123.setTop (mkF m 569 #[.val (.long p1), .second, .val (.int p2), .val (.int p3), .val (.int p4), .val (.int p5), .val (.int r_2), .val (.int r_4), .val (.int r_6), .val (.int r_8), .val (.int r_10), .val (.int r_12), .val (.int r_14), .val (.int r_16), .val (.int r_18), .val (.ref b19), .val (.int (p4 &&& (7 : Int32))), .val (.int ln), .unset] [(.int (own_ok (4 : Int32) (p4 &&& (7 : Int32)) ln r_10))]))) (fun t k => st123 _ k) ?_
                by_cases hc124 : (own_ok (4 : Int32) (p4 &&& (7 : Int32)) ln r_10) = (0 : Int32)
                · refine own_fw (A' := (T123.setTop (mkF m 635 #[.val (.long p1), .second, .val (.int p2), .val (.int p3), .val (.int p4), .val (.int p5), .val (.int r_2), .val (.int r_4), .val (.int r_6), .val (.int r_8), .val (.int r_10), .val (.int r_12), .val (.int r_14), .val (.int r_16), .val (.int r_18), .val (.ref b19), .val (.int (p4 &&& (7 : Int32))), .val (.int ln), .unset] []))) (fun t k => XS.ifYes X123.here hx rfl (pc0 := 569) (pc' := 635) rfl (hb hby at_569) rfl (XT.i0_eq_t hc124) (by decide) (by decide) k) ?_
                  refine own_fw (A' := (T123.setTop (mkF m 636 #[.val (.long p1), .second, .val (.int p2), .val (.int p3), .val (.int p4), .val (.int p5), .val (.int r_2), .val (.int r_4), .val (.int r_6), .val (.int r_8), .val (.int r_10), .val (.int r_12), .val (.int r_14), .val (.int r_16), .val (.int r_18), .val (.ref b19), .val (.int (p4 &&& (7 : Int32))), .val (.int ln), .unset] [(.int (0 : Int32))]))) (fun t k => XS.iconst X123.here hx rfl (hb hby at_635) k) ?_
                  refine own_fw (A' := (T123.setTop (mkF m 638 #[.val (.long p1), .second, .val (.int p2), .val (.int p3), .val (.int p4), .val (.int p5), .val (.int r_2), .val (.int r_4), .val (.int r_6), .val (.int r_8), .val (.int r_10), .val (.int r_12), .val (.int r_14), .val (.int r_16), .val (.int r_18), .val (.ref b19), .val (.int (p4 &&& (7 : Int32))), .val (.int ln), .val (.int (0 : Int32))] []))) (fun t k => XS.istore X123.here hx rfl (hb hby at_636) rfl (l' := #[.val (.long p1), .second, .val (.int p2), .val (.int p3), .val (.int p4), .val (.int p5), .val (.int r_2), .val (.int r_4), .val (.int r_6), .val (.int r_8), .val (.int r_10), .val (.int r_12), .val (.int r_14), .val (.int r_16), .val (.int r_18), .val (.ref b19), .val (.int (p4 &&& (7 : Int32))), .val (.int ln), .val (.int (0 : Int32))]) rfl k) ?_
                  refine own_fw (A' := (T123.setTop (mkF m 640 #[.val (.long p1), .second, .val (.int p2), .val (.int p3), .val (.int p4), .val (.int p5), .val (.int r_2), .val (.int r_4), .val (.int r_6), .val (.int r_8), .val (.int r_10), .val (.int r_12), .val (.int r_14), .val (.int r_16), .val (.int r_18), .val (.ref b19), .val (.int (p4 &&& (7 : Int32))), .val (.int ln), .val (.int (0 : Int32))] [(.ref b19)]))) (fun t k => XS.aload X123.here hx rfl (hb hby at_638) rfl rfl k) ?_
                  refine own_fw (A' := (T123.setTop (mkF m 642 #[.val (.long p1), .second, .val (.int p2), .val (.int p3), .val (.int p4), .val (.int p5), .val (.int r_2), .val (.int r_4), .val (.int r_6), .val (.int r_8), .val (.int r_10), .val (.int r_12), .val (.int r_14), .val (.int r_16), .val (.int r_18), .val (.ref b19), .val (.int (p4 &&& (7 : Int32))), .val (.int ln), .val (.int (0 : Int32))] [(.int (p4 &&& (7 : Int32))), (.ref b19)]))) (fun t k => XS.iload X123.here hx rfl (hb hby at_640) rfl k) ?_
                  refine own_fw (A' := (T123.setTop (mkF m 644 #[.val (.long p1), .second, .val (.int p2), .val (.int p3), .val (.int p4), .val (.int p5), .val (.int r_2), .val (.int r_4), .val (.int r_6), .val (.int r_8), .val (.int r_10), .val (.int r_12), .val (.int r_14), .val (.int r_16), .val (.int r_18), .val (.ref b19), .val (.int (p4 &&& (7 : Int32))), .val (.int ln), .val (.int (0 : Int32))] [(.int ln), (.int (p4 &&& (7 : Int32))), (.ref b19)]))) (fun t k => XS.iload X123.here hx rfl (hb hby at_642) rfl k) ?_
                  obtain ⟨_, _, ⟨T125, L125, k125, n125⟩, -, X125, ⟨Lc125, hQ125, l125, y125, z125⟩, st125⟩ := Jvm.LawKit.callS X123 hx (y := (⟨"com/example/log_to_isles/logtoisles/model/NodeName", "follows", "([BII)Z"⟩ : MethodName)) hown (mvT hZ (hw _ (List.mem_of_getElem? (i := 44) rfl))) (mvT hZ (hw _ (List.mem_of_getElem? (i := 45) rfl))) (mvT hZ (hw _ (List.mem_of_getElem? (i := 46) rfl))) (mvT hZ (hw _ (List.mem_of_getElem? (i := 47) rfl))) (by decide) (backOf (W := 0) (rmFol l Z a0 hw [] b19 k19 r_2 r_4 r_6 r_8 r_10 r_12 r_14 r_16 r_18 (p4 &&& (7 : Int32)) ln h101 n0 Z101 V101 (own_oM _)) hZ (hw _ (List.mem_of_getElem? (i := 47) rfl)) (hw _ (List.mem_of_getElem? (i := 46) rfl)) (by decide) (by decide)) (g := (mkF m 644 #[.val (.long p1), .second, .val (.int p2), .val (.int p3), .val (.int p4), .val (.int p5), .val (.int r_2), .val (.int r_4), .val (.int r_6), .val (.int r_8), .val (.int r_10), .val (.int r_12), .val (.int r_14), .val (.int r_16), .val (.int r_18), .val (.ref b19), .val (.int (p4 &&& (7 : Int32))), .val (.int ln), .val (.int (0 : Int32))] [(.int ln), (.int (p4 &&& (7 : Int32))), (.ref b19)])) rfl (by rw [hml]; rfl) (argsL := [(.ref b19), (.int (p4 &&& (7 : Int32))), (.int ln)]) (rest := []) (lenOf pd___BII_Z rfl) rfl (by show 2 * 0 + _ ≤ _; exact Nat.le_of_eq rfl) (hb hby at_644) (fun _ _ => ⟨rfl, e123, (by decide : 3 + 0 ≤ _), (by decide : 192 + 0 ≤ _)⟩)
                  dsimp only [Pt.U, Pt.locs, Pt.cells, Pt.slots] at X125 l125 y125 z125 st125 hQ125
                  subst l125 y125 z125
                  obtain ⟨rfl, Nq125, e125⟩ := hQ125
                  have Nf125 := Fr.app Nf123 Nq125
                  refine own_fw (A' := (T125.setTop (mkF m 647 #[.val (.long p1), .second, .val (.int p2), .val (.int p3), .val (.int p4), .val (.int p5), .val (.int r_2), .val (.int r_4), .val (.int r_6), .val (.int r_8), .val (.int r_10), .val (.int r_12), .val (.int r_14), .val (.int r_16), .val (.int r_18), .val (.ref b19), .val (.int (p4 &&& (7 : Int32))), .val (.int ln), .val (.int (0 : Int32))] [(.int (own_fol (own_buf r_2 r_4 r_6 r_8 r_10 r_12 r_14 r_16 r_18) (p4 &&& (7 : Int32)) ln))]))) (fun t k => st125 _ k) ?_
                  refine own_fw (A' := (T125.setTop (mkF m 649 #[.val (.long p1), .second, .val (.int p2), .val (.int p3), .val (.int p4), .val (.int p5), .val (.int r_2), .val (.int r_4), .val (.int r_6), .val (.int r_8), .val (.int r_10), .val (.int r_12), .val (.int r_14), .val (.int r_16), .val (.int r_18), .val (.ref b19), .val (.int (p4 &&& (7 : Int32))), .val (.int ln), .val (.int (0 : Int32))] [(.int (0 : Int32)), (.int (own_fol (own_buf r_2 r_4 r_6 r_8 r_10 r_12 r_14 r_16 r_18) (p4 &&& (7 : Int32)) ln))]))) (fun t k => XS.iload X125.here hx rfl (hb hby at_647) rfl k) ?_
                  refine own_fw (A' := (T125.setTop (mkF m 652 #[.val (.long p1), .second, .val (.int p2), .val (.int p3), .val (.int p4), .val (.int p5), .val (.int r_2), .val (.int r_4), .val (.int r_6), .val (.int r_8), .val (.int r_10), .val (.int r_12), .val (.int r_14), .val (.int r_16), .val (.int r_18), .val (.ref b19), .val (.int (p4 &&& (7 : Int32))), .val (.int ln), .val (.int (0 : Int32))] []))) (fun t k => XS.icmpNo X125.here hx rfl (hb hby at_649) rfl (XT.ii_ne_f (own_bad (own_oM _) hc104 hc106 hc109 (4 : Int32) (by decide) rfl hc124)) k) ?_
                  refine own_fw (A' := (T125.setTop (mkF m 653 #[.val (.long p1), .second, .val (.int p2), .val (.int p3), .val (.int p4), .val (.int p5), .val (.int r_2), .val (.int r_4), .val (.int r_6), .val (.int r_8), .val (.int r_10), .val (.int r_12), .val (.int r_14), .val (.int r_16), .val (.int r_18), .val (.ref b19), .val (.int (p4 &&& (7 : Int32))), .val (.int ln), .val (.int (0 : Int32))] [(.int (1 : Int32))]))) (fun t k => XS.iconst X125.here hx rfl (hb hby at_652) k) ?_
                  refine own_fw (A' := (T125.setTop (mkF m 657 #[.val (.long p1), .second, .val (.int p2), .val (.int p3), .val (.int p4), .val (.int p5), .val (.int r_2), .val (.int r_4), .val (.int r_6), .val (.int r_8), .val (.int r_10), .val (.int r_12), .val (.int r_14), .val (.int r_16), .val (.int r_18), .val (.ref b19), .val (.int (p4 &&& (7 : Int32))), .val (.int ln), .val (.int (0 : Int32))] [(.int (1 : Int32))]))) (fun t k => XS.goto X125.here hx rfl (pc0 := 653) (pc' := 657) rfl (hb hby at_653) (by decide) (by decide) k) ?_
                  obtain ⟨fs, hr, hrun, hended, hWE⟩ := X125.leaveW hS (by rw [e125]; exact hk : _ ≤ T125.heap.size) (v := some (.int (1 : Int32))) (fun h => by rw [Bd.returns] at h; cases h)
                  refine ⟨_, _, ?_, hrun, hended, _, _, rfl, ?_, own_widen hWE (by decide) (by decide)⟩
                  · exact retOut X125 hx Bd.returns rfl (Or.inl ⟨rfl, by simp, _, rfl⟩) (hb hby at_657) hr
                  · show Q_rm0 Z p1 p2 p3 p4 p5 cs sv h0 n0 _ T125.heap _
                    rw [e125]
                    exact ⟨rfl, Nf125⟩
                · refine own_fw (A' := (T123.setTop (mkF m 572 #[.val (.long p1), .second, .val (.int p2), .val (.int p3), .val (.int p4), .val (.int p5), .val (.int r_2), .val (.int r_4), .val (.int r_6), .val (.int r_8), .val (.int r_10), .val (.int r_12), .val (.int r_14), .val (.int r_16), .val (.int r_18), .val (.ref b19), .val (.int (p4 &&& (7 : Int32))), .val (.int ln), .unset] []))) (fun t k => XS.ifNo X123.here hx rfl (hb hby at_569) rfl (XT.i0_eq_f hc124) k) ?_
                  refine own_fw (A' := (T123.setTop (mkF m 574 #[.val (.long p1), .second, .val (.int p2), .val (.int p3), .val (.int p4), .val (.int p5), .val (.int r_2), .val (.int r_4), .val (.int r_6), .val (.int r_8), .val (.int r_10), .val (.int r_12), .val (.int r_14), .val (.int r_16), .val (.int r_18), .val (.ref b19), .val (.int (p4 &&& (7 : Int32))), .val (.int ln), .unset] [(.ref b19)]))) (fun t k => XS.aload X123.here hx rfl (hb hby at_572) rfl rfl k) ?_
                  refine own_fw (A' := (T123.setTop (mkF m 575 #[.val (.long p1), .second, .val (.int p2), .val (.int p3), .val (.int p4), .val (.int p5), .val (.int r_2), .val (.int r_4), .val (.int r_6), .val (.int r_8), .val (.int r_10), .val (.int r_12), .val (.int r_14), .val (.int r_16), .val (.int r_18), .val (.ref b19), .val (.int (p4 &&& (7 : Int32))), .val (.int ln), .unset] [(.int (5 : Int32)), (.ref b19)]))) (fun t k => XS.iconst X123.here hx rfl (hb hby at_574) k) ?_
                  refine own_fw (A' := (T123.setTop (mkF m 577 #[.val (.long p1), .second, .val (.int p2), .val (.int p3), .val (.int p4), .val (.int p5), .val (.int r_2), .val (.int r_4), .val (.int r_6), .val (.int r_8), .val (.int r_10), .val (.int r_12), .val (.int r_14), .val (.int r_16), .val (.int r_18), .val (.ref b19), .val (.int (p4 &&& (7 : Int32))), .val (.int ln), .unset] [(.int (p4 &&& (7 : Int32))), (.int (5 : Int32)), (.ref b19)]))) (fun t k => XS.iload X123.here hx rfl (hb hby at_575) rfl k) ?_
                  refine own_fw (A' := (T123.setTop (mkF m 579 #[.val (.long p1), .second, .val (.int p2), .val (.int p3), .val (.int p4), .val (.int p5), .val (.int r_2), .val (.int r_4), .val (.int r_6), .val (.int r_8), .val (.int r_10), .val (.int r_12), .val (.int r_14), .val (.int r_16), .val (.int r_18), .val (.ref b19), .val (.int (p4 &&& (7 : Int32))), .val (.int ln), .unset] [(.int ln), (.int (p4 &&& (7 : Int32))), (.int (5 : Int32)), (.ref b19)]))) (fun t k => XS.iload X123.here hx rfl (hb hby at_577) rfl k) ?_
                  obtain ⟨_, _, ⟨T126, L126, k126, n126⟩, -, X126, ⟨Lc126, hQ126, l126, y126, z126⟩, st126⟩ := Jvm.LawKit.callS X123 hx (y := (⟨"com/example/log_to_isles/logtoisles/model/NodeNameFollowsPinLaw", "okAt", "([BIII)Z"⟩ : MethodName)) hown (mvT hZ (hw _ (List.mem_of_getElem? (i := 38) rfl))) (mvT hZ (hw _ (List.mem_of_getElem? (i := 39) rfl))) (mvT hZ (hw _ (List.mem_of_getElem? (i := 2) rfl))) (mvT hZ (hw _ (List.mem_of_getElem? (i := 40) rfl))) (by decide) (backOf (W := 0) (rmOk5 l Z a0 hw [] b19 k19 r_2 r_4 r_6 r_8 r_10 r_12 r_14 r_16 r_18 (p4 &&& (7 : Int32)) ln h101 n0 Z101 V101) hZ (hw _ (List.mem_of_getElem? (i := 40) rfl)) (hw _ (List.mem_of_getElem? (i := 2) rfl)) (by decide) (by decide)) (g := (mkF m 579 #[.val (.long p1), .second, .val (.int p2), .val (.int p3), .val (.int p4), .val (.int p5), .val (.int r_2), .val (.int r_4), .val (.int r_6), .val (.int r_8), .val (.int r_10), .val (.int r_12), .val (.int r_14), .val (.int r_16), .val (.int r_18), .val (.ref b19), .val (.int (p4 &&& (7 : Int32))), .val (.int ln), .unset] [(.int ln), (.int (p4 &&& (7 : Int32))), (.int (5 : Int32)), (.ref b19)])) rfl (by rw [hml]; rfl) (argsL := [(.ref b19), (.int (5 : Int32)), (.int (p4 &&& (7 : Int32))), (.int ln)]) (rest := []) (lenOf pd___BIII_Z rfl) rfl (by show 2 * 0 + _ ≤ _; exact Nat.le_of_eq rfl) (hb hby at_579) (fun _ _ => ⟨rfl, e123, (by decide : 3 + 0 ≤ _), (by decide : 192 + 0 ≤ _)⟩)
                  dsimp only [Pt.U, Pt.locs, Pt.cells, Pt.slots] at X126 l126 y126 z126 st126 hQ126
                  subst l126 y126 z126
                  obtain ⟨rfl, Nq126, e126⟩ := hQ126
                  have Nf126 := Fr.app Nf123 Nq126
                  refine own_fw (A' := (T126.setTop (mkF m 582 #[.val (.long p1), .second, .val (.int p2), .val (.int p3), .val (.int p4), .val (.int p5), .val (.int r_2), .val (.int r_4), .val (.int r_6), .val (.int r_8), .val (.int r_10), .val (.int r_12), .val (.int r_14), .val (.int r_16), .val (.int r_18), .val (.ref b19), .val (.int (p4 &&& (7 : Int32))), .val (.int ln), .unset] [(.int (own_ok (5 : Int32) (p4 &&& (7 : Int32)) ln r_12))]))) (fun t k => st126 _ k) ?_
                  by_cases hc127 : (own_ok (5 : Int32) (p4 &&& (7 : Int32)) ln r_12) = (0 : Int32)
                  · refine own_fw (A' := (T126.setTop (mkF m 635 #[.val (.long p1), .second, .val (.int p2), .val (.int p3), .val (.int p4), .val (.int p5), .val (.int r_2), .val (.int r_4), .val (.int r_6), .val (.int r_8), .val (.int r_10), .val (.int r_12), .val (.int r_14), .val (.int r_16), .val (.int r_18), .val (.ref b19), .val (.int (p4 &&& (7 : Int32))), .val (.int ln), .unset] []))) (fun t k => XS.ifYes X126.here hx rfl (pc0 := 582) (pc' := 635) rfl (hb hby at_582) rfl (XT.i0_eq_t hc127) (by decide) (by decide) k) ?_
                    refine own_fw (A' := (T126.setTop (mkF m 636 #[.val (.long p1), .second, .val (.int p2), .val (.int p3), .val (.int p4), .val (.int p5), .val (.int r_2), .val (.int r_4), .val (.int r_6), .val (.int r_8), .val (.int r_10), .val (.int r_12), .val (.int r_14), .val (.int r_16), .val (.int r_18), .val (.ref b19), .val (.int (p4 &&& (7 : Int32))), .val (.int ln), .unset] [(.int (0 : Int32))]))) (fun t k => XS.iconst X126.here hx rfl (hb hby at_635) k) ?_
                    refine own_fw (A' := (T126.setTop (mkF m 638 #[.val (.long p1), .second, .val (.int p2), .val (.int p3), .val (.int p4), .val (.int p5), .val (.int r_2), .val (.int r_4), .val (.int r_6), .val (.int r_8), .val (.int r_10), .val (.int r_12), .val (.int r_14), .val (.int r_16), .val (.int r_18), .val (.ref b19), .val (.int (p4 &&& (7 : Int32))), .val (.int ln), .val (.int (0 : Int32))] []))) (fun t k => XS.istore X126.here hx rfl (hb hby at_636) rfl (l' := #[.val (.long p1), .second, .val (.int p2), .val (.int p3), .val (.int p4), .val (.int p5), .val (.int r_2), .val (.int r_4), .val (.int r_6), .val (.int r_8), .val (.int r_10), .val (.int r_12), .val (.int r_14), .val (.int r_16), .val (.int r_18), .val (.ref b19), .val (.int (p4 &&& (7 : Int32))), .val (.int ln), .val (.int (0 : Int32))]) rfl k) ?_
                    refine own_fw (A' := (T126.setTop (mkF m 640 #[.val (.long p1), .second, .val (.int p2), .val (.int p3), .val (.int p4), .val (.int p5), .val (.int r_2), .val (.int r_4), .val (.int r_6), .val (.int r_8), .val (.int r_10), .val (.int r_12), .val (.int r_14), .val (.int r_16), .val (.int r_18), .val (.ref b19), .val (.int (p4 &&& (7 : Int32))), .val (.int ln), .val (.int (0 : Int32))] [(.ref b19)]))) (fun t k => XS.aload X126.here hx rfl (hb hby at_638) rfl rfl k) ?_
                    refine own_fw (A' := (T126.setTop (mkF m 642 #[.val (.long p1), .second, .val (.int p2), .val (.int p3), .val (.int p4), .val (.int p5), .val (.int r_2), .val (.int r_4), .val (.int r_6), .val (.int r_8), .val (.int r_10), .val (.int r_12), .val (.int r_14), .val (.int r_16), .val (.int r_18), .val (.ref b19), .val (.int (p4 &&& (7 : Int32))), .val (.int ln), .val (.int (0 : Int32))] [(.int (p4 &&& (7 : Int32))), (.ref b19)]))) (fun t k => XS.iload X126.here hx rfl (hb hby at_640) rfl k) ?_
                    refine own_fw (A' := (T126.setTop (mkF m 644 #[.val (.long p1), .second, .val (.int p2), .val (.int p3), .val (.int p4), .val (.int p5), .val (.int r_2), .val (.int r_4), .val (.int r_6), .val (.int r_8), .val (.int r_10), .val (.int r_12), .val (.int r_14), .val (.int r_16), .val (.int r_18), .val (.ref b19), .val (.int (p4 &&& (7 : Int32))), .val (.int ln), .val (.int (0 : Int32))] [(.int ln), (.int (p4 &&& (7 : Int32))), (.ref b19)]))) (fun t k => XS.iload X126.here hx rfl (hb hby at_642) rfl k) ?_
                    obtain ⟨_, _, ⟨T128, L128, k128, n128⟩, -, X128, ⟨Lc128, hQ128, l128, y128, z128⟩, st128⟩ := Jvm.LawKit.callS X126 hx (y := (⟨"com/example/log_to_isles/logtoisles/model/NodeName", "follows", "([BII)Z"⟩ : MethodName)) hown (mvT hZ (hw _ (List.mem_of_getElem? (i := 44) rfl))) (mvT hZ (hw _ (List.mem_of_getElem? (i := 45) rfl))) (mvT hZ (hw _ (List.mem_of_getElem? (i := 46) rfl))) (mvT hZ (hw _ (List.mem_of_getElem? (i := 47) rfl))) (by decide) (backOf (W := 0) (rmFol l Z a0 hw [] b19 k19 r_2 r_4 r_6 r_8 r_10 r_12 r_14 r_16 r_18 (p4 &&& (7 : Int32)) ln h101 n0 Z101 V101 (own_oM _)) hZ (hw _ (List.mem_of_getElem? (i := 47) rfl)) (hw _ (List.mem_of_getElem? (i := 46) rfl)) (by decide) (by decide)) (g := (mkF m 644 #[.val (.long p1), .second, .val (.int p2), .val (.int p3), .val (.int p4), .val (.int p5), .val (.int r_2), .val (.int r_4), .val (.int r_6), .val (.int r_8), .val (.int r_10), .val (.int r_12), .val (.int r_14), .val (.int r_16), .val (.int r_18), .val (.ref b19), .val (.int (p4 &&& (7 : Int32))), .val (.int ln), .val (.int (0 : Int32))] [(.int ln), (.int (p4 &&& (7 : Int32))), (.ref b19)])) rfl (by rw [hml]; rfl) (argsL := [(.ref b19), (.int (p4 &&& (7 : Int32))), (.int ln)]) (rest := []) (lenOf pd___BII_Z rfl) rfl (by show 2 * 0 + _ ≤ _; exact Nat.le_of_eq rfl) (hb hby at_644) (fun _ _ => ⟨rfl, e126, (by decide : 3 + 0 ≤ _), (by decide : 192 + 0 ≤ _)⟩)
                    dsimp only [Pt.U, Pt.locs, Pt.cells, Pt.slots] at X128 l128 y128 z128 st128 hQ128
                    subst l128 y128 z128
                    obtain ⟨rfl, Nq128, e128⟩ := hQ128
                    have Nf128 := Fr.app Nf126 Nq128
                    refine own_fw (A' := (T128.setTop (mkF m 647 #[.val (.long p1), .second, .val (.int p2), .val (.int p3), .val (.int p4), .val (.int p5), .val (.int r_2), .val (.int r_4), .val (.int r_6), .val (.int r_8), .val (.int r_10), .val (.int r_12), .val (.int r_14), .val (.int r_16), .val (.int r_18), .val (.ref b19), .val (.int (p4 &&& (7 : Int32))), .val (.int ln), .val (.int (0 : Int32))] [(.int (own_fol (own_buf r_2 r_4 r_6 r_8 r_10 r_12 r_14 r_16 r_18) (p4 &&& (7 : Int32)) ln))]))) (fun t k => st128 _ k) ?_
                    refine own_fw (A' := (T128.setTop (mkF m 649 #[.val (.long p1), .second, .val (.int p2), .val (.int p3), .val (.int p4), .val (.int p5), .val (.int r_2), .val (.int r_4), .val (.int r_6), .val (.int r_8), .val (.int r_10), .val (.int r_12), .val (.int r_14), .val (.int r_16), .val (.int r_18), .val (.ref b19), .val (.int (p4 &&& (7 : Int32))), .val (.int ln), .val (.int (0 : Int32))] [(.int (0 : Int32)), (.int (own_fol (own_buf r_2 r_4 r_6 r_8 r_10 r_12 r_14 r_16 r_18) (p4 &&& (7 : Int32)) ln))]))) (fun t k => XS.iload X128.here hx rfl (hb hby at_647) rfl k) ?_
                    refine own_fw (A' := (T128.setTop (mkF m 652 #[.val (.long p1), .second, .val (.int p2), .val (.int p3), .val (.int p4), .val (.int p5), .val (.int r_2), .val (.int r_4), .val (.int r_6), .val (.int r_8), .val (.int r_10), .val (.int r_12), .val (.int r_14), .val (.int r_16), .val (.int r_18), .val (.ref b19), .val (.int (p4 &&& (7 : Int32))), .val (.int ln), .val (.int (0 : Int32))] []))) (fun t k => XS.icmpNo X128.here hx rfl (hb hby at_649) rfl (XT.ii_ne_f (own_bad (own_oM _) hc104 hc106 hc109 (5 : Int32) (by decide) rfl hc127)) k) ?_
                    refine own_fw (A' := (T128.setTop (mkF m 653 #[.val (.long p1), .second, .val (.int p2), .val (.int p3), .val (.int p4), .val (.int p5), .val (.int r_2), .val (.int r_4), .val (.int r_6), .val (.int r_8), .val (.int r_10), .val (.int r_12), .val (.int r_14), .val (.int r_16), .val (.int r_18), .val (.ref b19), .val (.int (p4 &&& (7 : Int32))), .val (.int ln), .val (.int (0 : Int32))] [(.int (1 : Int32))]))) (fun t k => XS.iconst X128.here hx rfl (hb hby at_652) k) ?_
                    refine own_fw (A' := (T128.setTop (mkF m 657 #[.val (.long p1), .second, .val (.int p2), .val (.int p3), .val (.int p4), .val (.int p5), .val (.int r_2), .val (.int r_4), .val (.int r_6), .val (.int r_8), .val (.int r_10), .val (.int r_12), .val (.int r_14), .val (.int r_16), .val (.int r_18), .val (.ref b19), .val (.int (p4 &&& (7 : Int32))), .val (.int ln), .val (.int (0 : Int32))] [(.int (1 : Int32))]))) (fun t k => XS.goto X128.here hx rfl (pc0 := 653) (pc' := 657) rfl (hb hby at_653) (by decide) (by decide) k) ?_
                    obtain ⟨fs, hr, hrun, hended, hWE⟩ := X128.leaveW hS (by rw [e128]; exact hk : _ ≤ T128.heap.size) (v := some (.int (1 : Int32))) (fun h => by rw [Bd.returns] at h; cases h)
                    refine ⟨_, _, ?_, hrun, hended, _, _, rfl, ?_, own_widen hWE (by decide) (by decide)⟩
                    · exact retOut X128 hx Bd.returns rfl (Or.inl ⟨rfl, by simp, _, rfl⟩) (hb hby at_657) hr
                    · show Q_rm0 Z p1 p2 p3 p4 p5 cs sv h0 n0 _ T128.heap _
                      rw [e128]
                      exact ⟨rfl, Nf128⟩
                  · refine own_fw (A' := (T126.setTop (mkF m 585 #[.val (.long p1), .second, .val (.int p2), .val (.int p3), .val (.int p4), .val (.int p5), .val (.int r_2), .val (.int r_4), .val (.int r_6), .val (.int r_8), .val (.int r_10), .val (.int r_12), .val (.int r_14), .val (.int r_16), .val (.int r_18), .val (.ref b19), .val (.int (p4 &&& (7 : Int32))), .val (.int ln), .unset] []))) (fun t k => XS.ifNo X126.here hx rfl (hb hby at_582) rfl (XT.i0_eq_f hc127) k) ?_
                    refine own_fw (A' := (T126.setTop (mkF m 587 #[.val (.long p1), .second, .val (.int p2), .val (.int p3), .val (.int p4), .val (.int p5), .val (.int r_2), .val (.int r_4), .val (.int r_6), .val (.int r_8), .val (.int r_10), .val (.int r_12), .val (.int r_14), .val (.int r_16), .val (.int r_18), .val (.ref b19), .val (.int (p4 &&& (7 : Int32))), .val (.int ln), .unset] [(.ref b19)]))) (fun t k => XS.aload X126.here hx rfl (hb hby at_585) rfl rfl k) ?_
                    refine own_fw (A' := (T126.setTop (mkF m 589 #[.val (.long p1), .second, .val (.int p2), .val (.int p3), .val (.int p4), .val (.int p5), .val (.int r_2), .val (.int r_4), .val (.int r_6), .val (.int r_8), .val (.int r_10), .val (.int r_12), .val (.int r_14), .val (.int r_16), .val (.int r_18), .val (.ref b19), .val (.int (p4 &&& (7 : Int32))), .val (.int ln), .unset] [(.int (6 : Int32)), (.ref b19)]))) (fun t k => XS.bipush X126.here hx rfl (hb hby at_587) k) ?_
                    refine own_fw (A' := (T126.setTop (mkF m 591 #[.val (.long p1), .second, .val (.int p2), .val (.int p3), .val (.int p4), .val (.int p5), .val (.int r_2), .val (.int r_4), .val (.int r_6), .val (.int r_8), .val (.int r_10), .val (.int r_12), .val (.int r_14), .val (.int r_16), .val (.int r_18), .val (.ref b19), .val (.int (p4 &&& (7 : Int32))), .val (.int ln), .unset] [(.int (p4 &&& (7 : Int32))), (.int (6 : Int32)), (.ref b19)]))) (fun t k => XS.iload X126.here hx rfl (hb hby at_589) rfl k) ?_
                    refine own_fw (A' := (T126.setTop (mkF m 593 #[.val (.long p1), .second, .val (.int p2), .val (.int p3), .val (.int p4), .val (.int p5), .val (.int r_2), .val (.int r_4), .val (.int r_6), .val (.int r_8), .val (.int r_10), .val (.int r_12), .val (.int r_14), .val (.int r_16), .val (.int r_18), .val (.ref b19), .val (.int (p4 &&& (7 : Int32))), .val (.int ln), .unset] [(.int ln), (.int (p4 &&& (7 : Int32))), (.int (6 : Int32)), (.ref b19)]))) (fun t k => XS.iload X126.here hx rfl (hb hby at_591) rfl k) ?_
                    obtain ⟨_, _, ⟨T129, L129, k129, n129⟩, -, X129, ⟨Lc129, hQ129, l129, y129, z129⟩, st129⟩ := Jvm.LawKit.callS X126 hx (y := (⟨"com/example/log_to_isles/logtoisles/model/NodeNameFollowsPinLaw", "okAt", "([BIII)Z"⟩ : MethodName)) hown (mvT hZ (hw _ (List.mem_of_getElem? (i := 38) rfl))) (mvT hZ (hw _ (List.mem_of_getElem? (i := 39) rfl))) (mvT hZ (hw _ (List.mem_of_getElem? (i := 2) rfl))) (mvT hZ (hw _ (List.mem_of_getElem? (i := 40) rfl))) (by decide) (backOf (W := 0) (rmOk6 l Z a0 hw [] b19 k19 r_2 r_4 r_6 r_8 r_10 r_12 r_14 r_16 r_18 (p4 &&& (7 : Int32)) ln h101 n0 Z101 V101) hZ (hw _ (List.mem_of_getElem? (i := 40) rfl)) (hw _ (List.mem_of_getElem? (i := 2) rfl)) (by decide) (by decide)) (g := (mkF m 593 #[.val (.long p1), .second, .val (.int p2), .val (.int p3), .val (.int p4), .val (.int p5), .val (.int r_2), .val (.int r_4), .val (.int r_6), .val (.int r_8), .val (.int r_10), .val (.int r_12), .val (.int r_14), .val (.int r_16), .val (.int r_18), .val (.ref b19), .val (.int (p4 &&& (7 : Int32))), .val (.int ln), .unset] [(.int ln), (.int (p4 &&& (7 : Int32))), (.int (6 : Int32)), (.ref b19)])) rfl (by rw [hml]; rfl) (argsL := [(.ref b19), (.int (6 : Int32)), (.int (p4 &&& (7 : Int32))), (.int ln)]) (rest := []) (lenOf pd___BIII_Z rfl) rfl (by show 2 * 0 + _ ≤ _; exact Nat.le_of_eq rfl) (hb hby at_593) (fun _ _ => ⟨rfl, e126, (by decide : 3 + 0 ≤ _), (by decide : 192 + 0 ≤ _)⟩)
                    dsimp only [Pt.U, Pt.locs, Pt.cells, Pt.slots] at X129 l129 y129 z129 st129 hQ129
                    subst l129 y129 z129
                    obtain ⟨rfl, Nq129, e129⟩ := hQ129
                    have Nf129 := Fr.app Nf126 Nq129
                    refine own_fw (A' := (T129.setTop (mkF m 596 #[.val (.long p1), .second, .val (.int p2), .val (.int p3), .val (.int p4), .val (.int p5), .val (.int r_2), .val (.int r_4), .val (.int r_6), .val (.int r_8), .val (.int r_10), .val (.int r_12), .val (.int r_14), .val (.int r_16), .val (.int r_18), .val (.ref b19), .val (.int (p4 &&& (7 : Int32))), .val (.int ln), .unset] [(.int (own_ok (6 : Int32) (p4 &&& (7 : Int32)) ln r_14))]))) (fun t k => st129 _ k) ?_
                    by_cases hc130 : (own_ok (6 : Int32) (p4 &&& (7 : Int32)) ln r_14) = (0 : Int32)
                    · refine own_fw (A' := (T129.setTop (mkF m 635 #[.val (.long p1), .second, .val (.int p2), .val (.int p3), .val (.int p4), .val (.int p5), .val (.int r_2), .val (.int r_4), .val (.int r_6), .val (.int r_8), .val (.int r_10), .val (.int r_12), .val (.int r_14), .val (.int r_16), .val (.int r_18), .val (.ref b19), .val (.int (p4 &&& (7 : Int32))), .val (.int ln), .unset] []))) (fun t k => XS.ifYes X129.here hx rfl (pc0 := 596) (pc' := 635) rfl (hb hby at_596) rfl (XT.i0_eq_t hc130) (by decide) (by decide) k) ?_
                      refine own_fw (A' := (T129.setTop (mkF m 636 #[.val (.long p1), .second, .val (.int p2), .val (.int p3), .val (.int p4), .val (.int p5), .val (.int r_2), .val (.int r_4), .val (.int r_6), .val (.int r_8), .val (.int r_10), .val (.int r_12), .val (.int r_14), .val (.int r_16), .val (.int r_18), .val (.ref b19), .val (.int (p4 &&& (7 : Int32))), .val (.int ln), .unset] [(.int (0 : Int32))]))) (fun t k => XS.iconst X129.here hx rfl (hb hby at_635) k) ?_
                      refine own_fw (A' := (T129.setTop (mkF m 638 #[.val (.long p1), .second, .val (.int p2), .val (.int p3), .val (.int p4), .val (.int p5), .val (.int r_2), .val (.int r_4), .val (.int r_6), .val (.int r_8), .val (.int r_10), .val (.int r_12), .val (.int r_14), .val (.int r_16), .val (.int r_18), .val (.ref b19), .val (.int (p4 &&& (7 : Int32))), .val (.int ln), .val (.int (0 : Int32))] []))) (fun t k => XS.istore X129.here hx rfl (hb hby at_636) rfl (l' := #[.val (.long p1), .second, .val (.int p2), .val (.int p3), .val (.int p4), .val (.int p5), .val (.int r_2), .val (.int r_4), .val (.int r_6), .val (.int r_8), .val (.int r_10), .val (.int r_12), .val (.int r_14), .val (.int r_16), .val (.int r_18), .val (.ref b19), .val (.int (p4 &&& (7 : Int32))), .val (.int ln), .val (.int (0 : Int32))]) rfl k) ?_
                      refine own_fw (A' := (T129.setTop (mkF m 640 #[.val (.long p1), .second, .val (.int p2), .val (.int p3), .val (.int p4), .val (.int p5), .val (.int r_2), .val (.int r_4), .val (.int r_6), .val (.int r_8), .val (.int r_10), .val (.int r_12), .val (.int r_14), .val (.int r_16), .val (.int r_18), .val (.ref b19), .val (.int (p4 &&& (7 : Int32))), .val (.int ln), .val (.int (0 : Int32))] [(.ref b19)]))) (fun t k => XS.aload X129.here hx rfl (hb hby at_638) rfl rfl k) ?_
                      refine own_fw (A' := (T129.setTop (mkF m 642 #[.val (.long p1), .second, .val (.int p2), .val (.int p3), .val (.int p4), .val (.int p5), .val (.int r_2), .val (.int r_4), .val (.int r_6), .val (.int r_8), .val (.int r_10), .val (.int r_12), .val (.int r_14), .val (.int r_16), .val (.int r_18), .val (.ref b19), .val (.int (p4 &&& (7 : Int32))), .val (.int ln), .val (.int (0 : Int32))] [(.int (p4 &&& (7 : Int32))), (.ref b19)]))) (fun t k => XS.iload X129.here hx rfl (hb hby at_640) rfl k) ?_
                      refine own_fw (A' := (T129.setTop (mkF m 644 #[.val (.long p1), .second, .val (.int p2), .val (.int p3), .val (.int p4), .val (.int p5), .val (.int r_2), .val (.int r_4), .val (.int r_6), .val (.int r_8), .val (.int r_10), .val (.int r_12), .val (.int r_14), .val (.int r_16), .val (.int r_18), .val (.ref b19), .val (.int (p4 &&& (7 : Int32))), .val (.int ln), .val (.int (0 : Int32))] [(.int ln), (.int (p4 &&& (7 : Int32))), (.ref b19)]))) (fun t k => XS.iload X129.here hx rfl (hb hby at_642) rfl k) ?_
                      obtain ⟨_, _, ⟨T131, L131, k131, n131⟩, -, X131, ⟨Lc131, hQ131, l131, y131, z131⟩, st131⟩ := Jvm.LawKit.callS X129 hx (y := (⟨"com/example/log_to_isles/logtoisles/model/NodeName", "follows", "([BII)Z"⟩ : MethodName)) hown (mvT hZ (hw _ (List.mem_of_getElem? (i := 44) rfl))) (mvT hZ (hw _ (List.mem_of_getElem? (i := 45) rfl))) (mvT hZ (hw _ (List.mem_of_getElem? (i := 46) rfl))) (mvT hZ (hw _ (List.mem_of_getElem? (i := 47) rfl))) (by decide) (backOf (W := 0) (rmFol l Z a0 hw [] b19 k19 r_2 r_4 r_6 r_8 r_10 r_12 r_14 r_16 r_18 (p4 &&& (7 : Int32)) ln h101 n0 Z101 V101 (own_oM _)) hZ (hw _ (List.mem_of_getElem? (i := 47) rfl)) (hw _ (List.mem_of_getElem? (i := 46) rfl)) (by decide) (by decide)) (g := (mkF m 644 #[.val (.long p1), .second, .val (.int p2), .val (.int p3), .val (.int p4), .val (.int p5), .val (.int r_2), .val (.int r_4), .val (.int r_6), .val (.int r_8), .val (.int r_10), .val (.int r_12), .val (.int r_14), .val (.int r_16), .val (.int r_18), .val (.ref b19), .val (.int (p4 &&& (7 : Int32))), .val (.int ln), .val (.int (0 : Int32))] [(.int ln), (.int (p4 &&& (7 : Int32))), (.ref b19)])) rfl (by rw [hml]; rfl) (argsL := [(.ref b19), (.int (p4 &&& (7 : Int32))), (.int ln)]) (rest := []) (lenOf pd___BII_Z rfl) rfl (by show 2 * 0 + _ ≤ _; exact Nat.le_of_eq rfl) (hb hby at_644) (fun _ _ => ⟨rfl, e129, (by decide : 3 + 0 ≤ _), (by decide : 192 + 0 ≤ _)⟩)
                      dsimp only [Pt.U, Pt.locs, Pt.cells, Pt.slots] at X131 l131 y131 z131 st131 hQ131
                      subst l131 y131 z131
                      obtain ⟨rfl, Nq131, e131⟩ := hQ131
                      have Nf131 := Fr.app Nf129 Nq131
                      refine own_fw (A' := (T131.setTop (mkF m 647 #[.val (.long p1), .second, .val (.int p2), .val (.int p3), .val (.int p4), .val (.int p5), .val (.int r_2), .val (.int r_4), .val (.int r_6), .val (.int r_8), .val (.int r_10), .val (.int r_12), .val (.int r_14), .val (.int r_16), .val (.int r_18), .val (.ref b19), .val (.int (p4 &&& (7 : Int32))), .val (.int ln), .val (.int (0 : Int32))] [(.int (own_fol (own_buf r_2 r_4 r_6 r_8 r_10 r_12 r_14 r_16 r_18) (p4 &&& (7 : Int32)) ln))]))) (fun t k => st131 _ k) ?_
                      refine own_fw (A' := (T131.setTop (mkF m 649 #[.val (.long p1), .second, .val (.int p2), .val (.int p3), .val (.int p4), .val (.int p5), .val (.int r_2), .val (.int r_4), .val (.int r_6), .val (.int r_8), .val (.int r_10), .val (.int r_12), .val (.int r_14), .val (.int r_16), .val (.int r_18), .val (.ref b19), .val (.int (p4 &&& (7 : Int32))), .val (.int ln), .val (.int (0 : Int32))] [(.int (0 : Int32)), (.int (own_fol (own_buf r_2 r_4 r_6 r_8 r_10 r_12 r_14 r_16 r_18) (p4 &&& (7 : Int32)) ln))]))) (fun t k => XS.iload X131.here hx rfl (hb hby at_647) rfl k) ?_
                      refine own_fw (A' := (T131.setTop (mkF m 652 #[.val (.long p1), .second, .val (.int p2), .val (.int p3), .val (.int p4), .val (.int p5), .val (.int r_2), .val (.int r_4), .val (.int r_6), .val (.int r_8), .val (.int r_10), .val (.int r_12), .val (.int r_14), .val (.int r_16), .val (.int r_18), .val (.ref b19), .val (.int (p4 &&& (7 : Int32))), .val (.int ln), .val (.int (0 : Int32))] []))) (fun t k => XS.icmpNo X131.here hx rfl (hb hby at_649) rfl (XT.ii_ne_f (own_bad (own_oM _) hc104 hc106 hc109 (6 : Int32) (by decide) rfl hc130)) k) ?_
                      refine own_fw (A' := (T131.setTop (mkF m 653 #[.val (.long p1), .second, .val (.int p2), .val (.int p3), .val (.int p4), .val (.int p5), .val (.int r_2), .val (.int r_4), .val (.int r_6), .val (.int r_8), .val (.int r_10), .val (.int r_12), .val (.int r_14), .val (.int r_16), .val (.int r_18), .val (.ref b19), .val (.int (p4 &&& (7 : Int32))), .val (.int ln), .val (.int (0 : Int32))] [(.int (1 : Int32))]))) (fun t k => XS.iconst X131.here hx rfl (hb hby at_652) k) ?_
                      refine own_fw (A' := (T131.setTop (mkF m 657 #[.val (.long p1), .second, .val (.int p2), .val (.int p3), .val (.int p4), .val (.int p5), .val (.int r_2), .val (.int r_4), .val (.int r_6), .val (.int r_8), .val (.int r_10), .val (.int r_12), .val (.int r_14), .val (.int r_16), .val (.int r_18), .val (.ref b19), .val (.int (p4 &&& (7 : Int32))), .val (.int ln), .val (.int (0 : Int32))] [(.int (1 : Int32))]))) (fun t k => XS.goto X131.here hx rfl (pc0 := 653) (pc' := 657) rfl (hb hby at_653) (by decide) (by decide) k) ?_
                      obtain ⟨fs, hr, hrun, hended, hWE⟩ := X131.leaveW hS (by rw [e131]; exact hk : _ ≤ T131.heap.size) (v := some (.int (1 : Int32))) (fun h => by rw [Bd.returns] at h; cases h)
                      refine ⟨_, _, ?_, hrun, hended, _, _, rfl, ?_, own_widen hWE (by decide) (by decide)⟩
                      · exact retOut X131 hx Bd.returns rfl (Or.inl ⟨rfl, by simp, _, rfl⟩) (hb hby at_657) hr
                      · show Q_rm0 Z p1 p2 p3 p4 p5 cs sv h0 n0 _ T131.heap _
                        rw [e131]
                        exact ⟨rfl, Nf131⟩
                    · refine own_fw (A' := (T129.setTop (mkF m 599 #[.val (.long p1), .second, .val (.int p2), .val (.int p3), .val (.int p4), .val (.int p5), .val (.int r_2), .val (.int r_4), .val (.int r_6), .val (.int r_8), .val (.int r_10), .val (.int r_12), .val (.int r_14), .val (.int r_16), .val (.int r_18), .val (.ref b19), .val (.int (p4 &&& (7 : Int32))), .val (.int ln), .unset] []))) (fun t k => XS.ifNo X129.here hx rfl (hb hby at_596) rfl (XT.i0_eq_f hc130) k) ?_
                      refine own_fw (A' := (T129.setTop (mkF m 601 #[.val (.long p1), .second, .val (.int p2), .val (.int p3), .val (.int p4), .val (.int p5), .val (.int r_2), .val (.int r_4), .val (.int r_6), .val (.int r_8), .val (.int r_10), .val (.int r_12), .val (.int r_14), .val (.int r_16), .val (.int r_18), .val (.ref b19), .val (.int (p4 &&& (7 : Int32))), .val (.int ln), .unset] [(.ref b19)]))) (fun t k => XS.aload X129.here hx rfl (hb hby at_599) rfl rfl k) ?_
                      refine own_fw (A' := (T129.setTop (mkF m 603 #[.val (.long p1), .second, .val (.int p2), .val (.int p3), .val (.int p4), .val (.int p5), .val (.int r_2), .val (.int r_4), .val (.int r_6), .val (.int r_8), .val (.int r_10), .val (.int r_12), .val (.int r_14), .val (.int r_16), .val (.int r_18), .val (.ref b19), .val (.int (p4 &&& (7 : Int32))), .val (.int ln), .unset] [(.int (7 : Int32)), (.ref b19)]))) (fun t k => XS.bipush X129.here hx rfl (hb hby at_601) k) ?_
                      refine own_fw (A' := (T129.setTop (mkF m 605 #[.val (.long p1), .second, .val (.int p2), .val (.int p3), .val (.int p4), .val (.int p5), .val (.int r_2), .val (.int r_4), .val (.int r_6), .val (.int r_8), .val (.int r_10), .val (.int r_12), .val (.int r_14), .val (.int r_16), .val (.int r_18), .val (.ref b19), .val (.int (p4 &&& (7 : Int32))), .val (.int ln), .unset] [(.int (p4 &&& (7 : Int32))), (.int (7 : Int32)), (.ref b19)]))) (fun t k => XS.iload X129.here hx rfl (hb hby at_603) rfl k) ?_
                      refine own_fw (A' := (T129.setTop (mkF m 607 #[.val (.long p1), .second, .val (.int p2), .val (.int p3), .val (.int p4), .val (.int p5), .val (.int r_2), .val (.int r_4), .val (.int r_6), .val (.int r_8), .val (.int r_10), .val (.int r_12), .val (.int r_14), .val (.int r_16), .val (.int r_18), .val (.ref b19), .val (.int (p4 &&& (7 : Int32))), .val (.int ln), .unset] [(.int ln), (.int (p4 &&& (7 : Int32))), (.int (7 : Int32)), (.ref b19)]))) (fun t k => XS.iload X129.here hx rfl (hb hby at_605) rfl k) ?_
                      obtain ⟨_, _, ⟨T132, L132, k132, n132⟩, -, X132, ⟨Lc132, hQ132, l132, y132, z132⟩, st132⟩ := Jvm.LawKit.callS X129 hx (y := (⟨"com/example/log_to_isles/logtoisles/model/NodeNameFollowsPinLaw", "okAt", "([BIII)Z"⟩ : MethodName)) hown (mvT hZ (hw _ (List.mem_of_getElem? (i := 38) rfl))) (mvT hZ (hw _ (List.mem_of_getElem? (i := 39) rfl))) (mvT hZ (hw _ (List.mem_of_getElem? (i := 2) rfl))) (mvT hZ (hw _ (List.mem_of_getElem? (i := 40) rfl))) (by decide) (backOf (W := 0) (rmOk7 l Z a0 hw [] b19 k19 r_2 r_4 r_6 r_8 r_10 r_12 r_14 r_16 r_18 (p4 &&& (7 : Int32)) ln h101 n0 Z101 V101) hZ (hw _ (List.mem_of_getElem? (i := 40) rfl)) (hw _ (List.mem_of_getElem? (i := 2) rfl)) (by decide) (by decide)) (g := (mkF m 607 #[.val (.long p1), .second, .val (.int p2), .val (.int p3), .val (.int p4), .val (.int p5), .val (.int r_2), .val (.int r_4), .val (.int r_6), .val (.int r_8), .val (.int r_10), .val (.int r_12), .val (.int r_14), .val (.int r_16), .val (.int r_18), .val (.ref b19), .val (.int (p4 &&& (7 : Int32))), .val (.int ln), .unset] [(.int ln), (.int (p4 &&& (7 : Int32))), (.int (7 : Int32)), (.ref b19)])) rfl (by rw [hml]; rfl) (argsL := [(.ref b19), (.int (7 : Int32)), (.int (p4 &&& (7 : Int32))), (.int ln)]) (rest := []) (lenOf pd___BIII_Z rfl) rfl (by show 2 * 0 + _ ≤ _; exact Nat.le_of_eq rfl) (hb hby at_607) (fun _ _ => ⟨rfl, e129, (by decide : 3 + 0 ≤ _), (by decide : 192 + 0 ≤ _)⟩)
                      dsimp only [Pt.U, Pt.locs, Pt.cells, Pt.slots] at X132 l132 y132 z132 st132 hQ132
                      subst l132 y132 z132
                      obtain ⟨rfl, Nq132, e132⟩ := hQ132
                      have Nf132 := Fr.app Nf129 Nq132
                      refine own_fw (A' := (T132.setTop (mkF m 610 #[.val (.long p1), .second, .val (.int p2), .val (.int p3), .val (.int p4), .val (.int p5), .val (.int r_2), .val (.int r_4), .val (.int r_6), .val (.int r_8), .val (.int r_10), .val (.int r_12), .val (.int r_14), .val (.int r_16), .val (.int r_18), .val (.ref b19), .val (.int (p4 &&& (7 : Int32))), .val (.int ln), .unset] [(.int (own_ok (7 : Int32) (p4 &&& (7 : Int32)) ln r_16))]))) (fun t k => st132 _ k) ?_
                      by_cases hc133 : (own_ok (7 : Int32) (p4 &&& (7 : Int32)) ln r_16) = (0 : Int32)
                      · refine own_fw (A' := (T132.setTop (mkF m 635 #[.val (.long p1), .second, .val (.int p2), .val (.int p3), .val (.int p4), .val (.int p5), .val (.int r_2), .val (.int r_4), .val (.int r_6), .val (.int r_8), .val (.int r_10), .val (.int r_12), .val (.int r_14), .val (.int r_16), .val (.int r_18), .val (.ref b19), .val (.int (p4 &&& (7 : Int32))), .val (.int ln), .unset] []))) (fun t k => XS.ifYes X132.here hx rfl (pc0 := 610) (pc' := 635) rfl (hb hby at_610) rfl (XT.i0_eq_t hc133) (by decide) (by decide) k) ?_
                        refine own_fw (A' := (T132.setTop (mkF m 636 #[.val (.long p1), .second, .val (.int p2), .val (.int p3), .val (.int p4), .val (.int p5), .val (.int r_2), .val (.int r_4), .val (.int r_6), .val (.int r_8), .val (.int r_10), .val (.int r_12), .val (.int r_14), .val (.int r_16), .val (.int r_18), .val (.ref b19), .val (.int (p4 &&& (7 : Int32))), .val (.int ln), .unset] [(.int (0 : Int32))]))) (fun t k => XS.iconst X132.here hx rfl (hb hby at_635) k) ?_
                        refine own_fw (A' := (T132.setTop (mkF m 638 #[.val (.long p1), .second, .val (.int p2), .val (.int p3), .val (.int p4), .val (.int p5), .val (.int r_2), .val (.int r_4), .val (.int r_6), .val (.int r_8), .val (.int r_10), .val (.int r_12), .val (.int r_14), .val (.int r_16), .val (.int r_18), .val (.ref b19), .val (.int (p4 &&& (7 : Int32))), .val (.int ln), .val (.int (0 : Int32))] []))) (fun t k => XS.istore X132.here hx rfl (hb hby at_636) rfl (l' := #[.val (.long p1), .second, .val (.int p2), .val (.int p3), .val (.int p4), .val (.int p5), .val (.int r_2), .val (.int r_4), .val (.int r_6), .val (.int r_8), .val (.int r_10), .val (.int r_12), .val (.int r_14), .val (.int r_16), .val (.int r_18), .val (.ref b19), .val (.int (p4 &&& (7 : Int32))), .val (.int ln), .val (.int (0 : Int32))]) rfl k) ?_
                        refine own_fw (A' := (T132.setTop (mkF m 640 #[.val (.long p1), .second, .val (.int p2), .val (.int p3), .val (.int p4), .val (.int p5), .val (.int r_2), .val (.int r_4), .val (.int r_6), .val (.int r_8), .val (.int r_10), .val (.int r_12), .val (.int r_14), .val (.int r_16), .val (.int r_18), .val (.ref b19), .val (.int (p4 &&& (7 : Int32))), .val (.int ln), .val (.int (0 : Int32))] [(.ref b19)]))) (fun t k => XS.aload X132.here hx rfl (hb hby at_638) rfl rfl k) ?_
                        refine own_fw (A' := (T132.setTop (mkF m 642 #[.val (.long p1), .second, .val (.int p2), .val (.int p3), .val (.int p4), .val (.int p5), .val (.int r_2), .val (.int r_4), .val (.int r_6), .val (.int r_8), .val (.int r_10), .val (.int r_12), .val (.int r_14), .val (.int r_16), .val (.int r_18), .val (.ref b19), .val (.int (p4 &&& (7 : Int32))), .val (.int ln), .val (.int (0 : Int32))] [(.int (p4 &&& (7 : Int32))), (.ref b19)]))) (fun t k => XS.iload X132.here hx rfl (hb hby at_640) rfl k) ?_
                        refine own_fw (A' := (T132.setTop (mkF m 644 #[.val (.long p1), .second, .val (.int p2), .val (.int p3), .val (.int p4), .val (.int p5), .val (.int r_2), .val (.int r_4), .val (.int r_6), .val (.int r_8), .val (.int r_10), .val (.int r_12), .val (.int r_14), .val (.int r_16), .val (.int r_18), .val (.ref b19), .val (.int (p4 &&& (7 : Int32))), .val (.int ln), .val (.int (0 : Int32))] [(.int ln), (.int (p4 &&& (7 : Int32))), (.ref b19)]))) (fun t k => XS.iload X132.here hx rfl (hb hby at_642) rfl k) ?_
                        obtain ⟨_, _, ⟨T134, L134, k134, n134⟩, -, X134, ⟨Lc134, hQ134, l134, y134, z134⟩, st134⟩ := Jvm.LawKit.callS X132 hx (y := (⟨"com/example/log_to_isles/logtoisles/model/NodeName", "follows", "([BII)Z"⟩ : MethodName)) hown (mvT hZ (hw _ (List.mem_of_getElem? (i := 44) rfl))) (mvT hZ (hw _ (List.mem_of_getElem? (i := 45) rfl))) (mvT hZ (hw _ (List.mem_of_getElem? (i := 46) rfl))) (mvT hZ (hw _ (List.mem_of_getElem? (i := 47) rfl))) (by decide) (backOf (W := 0) (rmFol l Z a0 hw [] b19 k19 r_2 r_4 r_6 r_8 r_10 r_12 r_14 r_16 r_18 (p4 &&& (7 : Int32)) ln h101 n0 Z101 V101 (own_oM _)) hZ (hw _ (List.mem_of_getElem? (i := 47) rfl)) (hw _ (List.mem_of_getElem? (i := 46) rfl)) (by decide) (by decide)) (g := (mkF m 644 #[.val (.long p1), .second, .val (.int p2), .val (.int p3), .val (.int p4), .val (.int p5), .val (.int r_2), .val (.int r_4), .val (.int r_6), .val (.int r_8), .val (.int r_10), .val (.int r_12), .val (.int r_14), .val (.int r_16), .val (.int r_18), .val (.ref b19), .val (.int (p4 &&& (7 : Int32))), .val (.int ln), .val (.int (0 : Int32))] [(.int ln), (.int (p4 &&& (7 : Int32))), (.ref b19)])) rfl (by rw [hml]; rfl) (argsL := [(.ref b19), (.int (p4 &&& (7 : Int32))), (.int ln)]) (rest := []) (lenOf pd___BII_Z rfl) rfl (by show 2 * 0 + _ ≤ _; exact Nat.le_of_eq rfl) (hb hby at_644) (fun _ _ => ⟨rfl, e132, (by decide : 3 + 0 ≤ _), (by decide : 192 + 0 ≤ _)⟩)
                        dsimp only [Pt.U, Pt.locs, Pt.cells, Pt.slots] at X134 l134 y134 z134 st134 hQ134
                        subst l134 y134 z134
                        obtain ⟨rfl, Nq134, e134⟩ := hQ134
                        have Nf134 := Fr.app Nf132 Nq134
                        refine own_fw (A' := (T134.setTop (mkF m 647 #[.val (.long p1), .second, .val (.int p2), .val (.int p3), .val (.int p4), .val (.int p5), .val (.int r_2), .val (.int r_4), .val (.int r_6), .val (.int r_8), .val (.int r_10), .val (.int r_12), .val (.int r_14), .val (.int r_16), .val (.int r_18), .val (.ref b19), .val (.int (p4 &&& (7 : Int32))), .val (.int ln), .val (.int (0 : Int32))] [(.int (own_fol (own_buf r_2 r_4 r_6 r_8 r_10 r_12 r_14 r_16 r_18) (p4 &&& (7 : Int32)) ln))]))) (fun t k => st134 _ k) ?_
                        refine own_fw (A' := (T134.setTop (mkF m 649 #[.val (.long p1), .second, .val (.int p2), .val (.int p3), .val (.int p4), .val (.int p5), .val (.int r_2), .val (.int r_4), .val (.int r_6), .val (.int r_8), .val (.int r_10), .val (.int r_12), .val (.int r_14), .val (.int r_16), .val (.int r_18), .val (.ref b19), .val (.int (p4 &&& (7 : Int32))), .val (.int ln), .val (.int (0 : Int32))] [(.int (0 : Int32)), (.int (own_fol (own_buf r_2 r_4 r_6 r_8 r_10 r_12 r_14 r_16 r_18) (p4 &&& (7 : Int32)) ln))]))) (fun t k => XS.iload X134.here hx rfl (hb hby at_647) rfl k) ?_
                        refine own_fw (A' := (T134.setTop (mkF m 652 #[.val (.long p1), .second, .val (.int p2), .val (.int p3), .val (.int p4), .val (.int p5), .val (.int r_2), .val (.int r_4), .val (.int r_6), .val (.int r_8), .val (.int r_10), .val (.int r_12), .val (.int r_14), .val (.int r_16), .val (.int r_18), .val (.ref b19), .val (.int (p4 &&& (7 : Int32))), .val (.int ln), .val (.int (0 : Int32))] []))) (fun t k => XS.icmpNo X134.here hx rfl (hb hby at_649) rfl (XT.ii_ne_f (own_bad (own_oM _) hc104 hc106 hc109 (7 : Int32) (by decide) rfl hc133)) k) ?_
                        refine own_fw (A' := (T134.setTop (mkF m 653 #[.val (.long p1), .second, .val (.int p2), .val (.int p3), .val (.int p4), .val (.int p5), .val (.int r_2), .val (.int r_4), .val (.int r_6), .val (.int r_8), .val (.int r_10), .val (.int r_12), .val (.int r_14), .val (.int r_16), .val (.int r_18), .val (.ref b19), .val (.int (p4 &&& (7 : Int32))), .val (.int ln), .val (.int (0 : Int32))] [(.int (1 : Int32))]))) (fun t k => XS.iconst X134.here hx rfl (hb hby at_652) k) ?_
                        refine own_fw (A' := (T134.setTop (mkF m 657 #[.val (.long p1), .second, .val (.int p2), .val (.int p3), .val (.int p4), .val (.int p5), .val (.int r_2), .val (.int r_4), .val (.int r_6), .val (.int r_8), .val (.int r_10), .val (.int r_12), .val (.int r_14), .val (.int r_16), .val (.int r_18), .val (.ref b19), .val (.int (p4 &&& (7 : Int32))), .val (.int ln), .val (.int (0 : Int32))] [(.int (1 : Int32))]))) (fun t k => XS.goto X134.here hx rfl (pc0 := 653) (pc' := 657) rfl (hb hby at_653) (by decide) (by decide) k) ?_
                        obtain ⟨fs, hr, hrun, hended, hWE⟩ := X134.leaveW hS (by rw [e134]; exact hk : _ ≤ T134.heap.size) (v := some (.int (1 : Int32))) (fun h => by rw [Bd.returns] at h; cases h)
                        refine ⟨_, _, ?_, hrun, hended, _, _, rfl, ?_, own_widen hWE (by decide) (by decide)⟩
                        · exact retOut X134 hx Bd.returns rfl (Or.inl ⟨rfl, by simp, _, rfl⟩) (hb hby at_657) hr
                        · show Q_rm0 Z p1 p2 p3 p4 p5 cs sv h0 n0 _ T134.heap _
                          rw [e134]
                          exact ⟨rfl, Nf134⟩
                      · refine own_fw (A' := (T132.setTop (mkF m 613 #[.val (.long p1), .second, .val (.int p2), .val (.int p3), .val (.int p4), .val (.int p5), .val (.int r_2), .val (.int r_4), .val (.int r_6), .val (.int r_8), .val (.int r_10), .val (.int r_12), .val (.int r_14), .val (.int r_16), .val (.int r_18), .val (.ref b19), .val (.int (p4 &&& (7 : Int32))), .val (.int ln), .unset] []))) (fun t k => XS.ifNo X132.here hx rfl (hb hby at_610) rfl (XT.i0_eq_f hc133) k) ?_
                        refine own_fw (A' := (T132.setTop (mkF m 615 #[.val (.long p1), .second, .val (.int p2), .val (.int p3), .val (.int p4), .val (.int p5), .val (.int r_2), .val (.int r_4), .val (.int r_6), .val (.int r_8), .val (.int r_10), .val (.int r_12), .val (.int r_14), .val (.int r_16), .val (.int r_18), .val (.ref b19), .val (.int (p4 &&& (7 : Int32))), .val (.int ln), .unset] [(.int (p4 &&& (7 : Int32)))]))) (fun t k => XS.iload X132.here hx rfl (hb hby at_613) rfl k) ?_
                        refine own_fw (A' := (T132.setTop (mkF m 617 #[.val (.long p1), .second, .val (.int p2), .val (.int p3), .val (.int p4), .val (.int p5), .val (.int r_2), .val (.int r_4), .val (.int r_6), .val (.int r_8), .val (.int r_10), .val (.int r_12), .val (.int r_14), .val (.int r_16), .val (.int r_18), .val (.ref b19), .val (.int (p4 &&& (7 : Int32))), .val (.int ln), .unset] [(.int ln), (.int (p4 &&& (7 : Int32)))]))) (fun t k => XS.iload X132.here hx rfl (hb hby at_615) rfl k) ?_
                        refine own_fw (A' := (T132.setTop (mkF m 618 #[.val (.long p1), .second, .val (.int p2), .val (.int p3), .val (.int p4), .val (.int p5), .val (.int r_2), .val (.int r_4), .val (.int r_6), .val (.int r_8), .val (.int r_10), .val (.int r_12), .val (.int r_14), .val (.int r_16), .val (.int r_18), .val (.ref b19), .val (.int (p4 &&& (7 : Int32))), .val (.int ln), .unset] [(.int ((p4 &&& (7 : Int32)) + ln))]))) (fun t k => XS.iadd X132.here hx rfl (hb hby at_617) rfl k) ?_
                        refine own_fw (A' := (T132.setTop (mkF m 620 #[.val (.long p1), .second, .val (.int p2), .val (.int p3), .val (.int p4), .val (.int p5), .val (.int r_2), .val (.int r_4), .val (.int r_6), .val (.int r_8), .val (.int r_10), .val (.int r_12), .val (.int r_14), .val (.int r_16), .val (.int r_18), .val (.ref b19), .val (.int (p4 &&& (7 : Int32))), .val (.int ln), .unset] [(.int (8 : Int32)), (.int ((p4 &&& (7 : Int32)) + ln))]))) (fun t k => XS.bipush X132.here hx rfl (hb hby at_618) k) ?_
                        by_cases hc135 : (8 : Int32) < ((p4 &&& (7 : Int32)) + ln)
                        · refine own_fw (A' := (T132.setTop (mkF m 623 #[.val (.long p1), .second, .val (.int p2), .val (.int p3), .val (.int p4), .val (.int p5), .val (.int r_2), .val (.int r_4), .val (.int r_6), .val (.int r_8), .val (.int r_10), .val (.int r_12), .val (.int r_14), .val (.int r_16), .val (.int r_18), .val (.ref b19), .val (.int (p4 &&& (7 : Int32))), .val (.int ln), .unset] []))) (fun t k => XS.icmpNo X132.here hx rfl (hb hby at_620) rfl (XT.ii_le_f hc135) k) ?_
                          refine own_fw (A' := (T132.setTop (mkF m 625 #[.val (.long p1), .second, .val (.int p2), .val (.int p3), .val (.int p4), .val (.int p5), .val (.int r_2), .val (.int r_4), .val (.int r_6), .val (.int r_8), .val (.int r_10), .val (.int r_12), .val (.int r_14), .val (.int r_16), .val (.int r_18), .val (.ref b19), .val (.int (p4 &&& (7 : Int32))), .val (.int ln), .unset] [(.int r_18)]))) (fun t k => XS.iload X132.here hx rfl (hb hby at_623) rfl k) ?_
                          obtain ⟨_, _, ⟨T136, L136, k136, n136⟩, -, X136, ⟨Lc136, hQ136, l136, y136, z136⟩, st136⟩ := Jvm.LawKit.callS X132 hx (y := (⟨"com/example/log_to_isles/logtoisles/model/NodeNameFollowsPinLaw", "valid", "(B)Z"⟩ : MethodName)) hown (mvT hZ (hw _ (List.mem_of_getElem? (i := 41) rfl))) (mvT hZ (hw _ (List.mem_of_getElem? (i := 42) rfl))) (mvT hZ (hw _ (List.mem_of_getElem? (i := 2) rfl))) (mvT hZ (hw _ (List.mem_of_getElem? (i := 43) rfl))) (by decide) (backOf (W := 0) (rmVal l Z a0 hw [] r_18 h101 n0 Z101 ) hZ (hw _ (List.mem_of_getElem? (i := 43) rfl)) (hw _ (List.mem_of_getElem? (i := 2) rfl)) (by decide) (by decide)) (g := (mkF m 625 #[.val (.long p1), .second, .val (.int p2), .val (.int p3), .val (.int p4), .val (.int p5), .val (.int r_2), .val (.int r_4), .val (.int r_6), .val (.int r_8), .val (.int r_10), .val (.int r_12), .val (.int r_14), .val (.int r_16), .val (.int r_18), .val (.ref b19), .val (.int (p4 &&& (7 : Int32))), .val (.int ln), .unset] [(.int r_18)])) rfl (by rw [hml]; rfl) (argsL := [(.int r_18)]) (rest := []) (lenOf pd__B_Z rfl) rfl (by show 2 * 0 + _ ≤ _; exact Nat.le_of_eq rfl) (hb hby at_625) (fun _ _ => ⟨rfl, e132, (by decide : 3 + 0 ≤ _), (by decide : 192 + 0 ≤ _)⟩)
                          dsimp only [Pt.U, Pt.locs, Pt.cells, Pt.slots] at X136 l136 y136 z136 st136 hQ136
                          subst l136 y136 z136
                          obtain ⟨rfl, Nq136, e136⟩ := hQ136
                          have Nf136 := Fr.app Nf132 Nq136
                          refine own_fw (A' := (T136.setTop (mkF m 628 #[.val (.long p1), .second, .val (.int p2), .val (.int p3), .val (.int p4), .val (.int p5), .val (.int r_2), .val (.int r_4), .val (.int r_6), .val (.int r_8), .val (.int r_10), .val (.int r_12), .val (.int r_14), .val (.int r_16), .val (.int r_18), .val (.ref b19), .val (.int (p4 &&& (7 : Int32))), .val (.int ln), .unset] [(.int (own_valid r_18))]))) (fun t k => st136 _ k) ?_
                          by_cases hc137 : (own_valid r_18) = (0 : Int32)
                          · refine own_fw (A' := (T136.setTop (mkF m 635 #[.val (.long p1), .second, .val (.int p2), .val (.int p3), .val (.int p4), .val (.int p5), .val (.int r_2), .val (.int r_4), .val (.int r_6), .val (.int r_8), .val (.int r_10), .val (.int r_12), .val (.int r_14), .val (.int r_16), .val (.int r_18), .val (.ref b19), .val (.int (p4 &&& (7 : Int32))), .val (.int ln), .unset] []))) (fun t k => XS.ifYes X136.here hx rfl (pc0 := 628) (pc' := 635) rfl (hb hby at_628) rfl (XT.i0_eq_t hc137) (by decide) (by decide) k) ?_
                            refine own_fw (A' := (T136.setTop (mkF m 636 #[.val (.long p1), .second, .val (.int p2), .val (.int p3), .val (.int p4), .val (.int p5), .val (.int r_2), .val (.int r_4), .val (.int r_6), .val (.int r_8), .val (.int r_10), .val (.int r_12), .val (.int r_14), .val (.int r_16), .val (.int r_18), .val (.ref b19), .val (.int (p4 &&& (7 : Int32))), .val (.int ln), .unset] [(.int (0 : Int32))]))) (fun t k => XS.iconst X136.here hx rfl (hb hby at_635) k) ?_
                            refine own_fw (A' := (T136.setTop (mkF m 638 #[.val (.long p1), .second, .val (.int p2), .val (.int p3), .val (.int p4), .val (.int p5), .val (.int r_2), .val (.int r_4), .val (.int r_6), .val (.int r_8), .val (.int r_10), .val (.int r_12), .val (.int r_14), .val (.int r_16), .val (.int r_18), .val (.ref b19), .val (.int (p4 &&& (7 : Int32))), .val (.int ln), .val (.int (0 : Int32))] []))) (fun t k => XS.istore X136.here hx rfl (hb hby at_636) rfl (l' := #[.val (.long p1), .second, .val (.int p2), .val (.int p3), .val (.int p4), .val (.int p5), .val (.int r_2), .val (.int r_4), .val (.int r_6), .val (.int r_8), .val (.int r_10), .val (.int r_12), .val (.int r_14), .val (.int r_16), .val (.int r_18), .val (.ref b19), .val (.int (p4 &&& (7 : Int32))), .val (.int ln), .val (.int (0 : Int32))]) rfl k) ?_
                            refine own_fw (A' := (T136.setTop (mkF m 640 #[.val (.long p1), .second, .val (.int p2), .val (.int p3), .val (.int p4), .val (.int p5), .val (.int r_2), .val (.int r_4), .val (.int r_6), .val (.int r_8), .val (.int r_10), .val (.int r_12), .val (.int r_14), .val (.int r_16), .val (.int r_18), .val (.ref b19), .val (.int (p4 &&& (7 : Int32))), .val (.int ln), .val (.int (0 : Int32))] [(.ref b19)]))) (fun t k => XS.aload X136.here hx rfl (hb hby at_638) rfl rfl k) ?_
                            refine own_fw (A' := (T136.setTop (mkF m 642 #[.val (.long p1), .second, .val (.int p2), .val (.int p3), .val (.int p4), .val (.int p5), .val (.int r_2), .val (.int r_4), .val (.int r_6), .val (.int r_8), .val (.int r_10), .val (.int r_12), .val (.int r_14), .val (.int r_16), .val (.int r_18), .val (.ref b19), .val (.int (p4 &&& (7 : Int32))), .val (.int ln), .val (.int (0 : Int32))] [(.int (p4 &&& (7 : Int32))), (.ref b19)]))) (fun t k => XS.iload X136.here hx rfl (hb hby at_640) rfl k) ?_
                            refine own_fw (A' := (T136.setTop (mkF m 644 #[.val (.long p1), .second, .val (.int p2), .val (.int p3), .val (.int p4), .val (.int p5), .val (.int r_2), .val (.int r_4), .val (.int r_6), .val (.int r_8), .val (.int r_10), .val (.int r_12), .val (.int r_14), .val (.int r_16), .val (.int r_18), .val (.ref b19), .val (.int (p4 &&& (7 : Int32))), .val (.int ln), .val (.int (0 : Int32))] [(.int ln), (.int (p4 &&& (7 : Int32))), (.ref b19)]))) (fun t k => XS.iload X136.here hx rfl (hb hby at_642) rfl k) ?_
                            obtain ⟨_, _, ⟨T138, L138, k138, n138⟩, -, X138, ⟨Lc138, hQ138, l138, y138, z138⟩, st138⟩ := Jvm.LawKit.callS X136 hx (y := (⟨"com/example/log_to_isles/logtoisles/model/NodeName", "follows", "([BII)Z"⟩ : MethodName)) hown (mvT hZ (hw _ (List.mem_of_getElem? (i := 44) rfl))) (mvT hZ (hw _ (List.mem_of_getElem? (i := 45) rfl))) (mvT hZ (hw _ (List.mem_of_getElem? (i := 46) rfl))) (mvT hZ (hw _ (List.mem_of_getElem? (i := 47) rfl))) (by decide) (backOf (W := 0) (rmFol l Z a0 hw [] b19 k19 r_2 r_4 r_6 r_8 r_10 r_12 r_14 r_16 r_18 (p4 &&& (7 : Int32)) ln h101 n0 Z101 V101 (own_oM _)) hZ (hw _ (List.mem_of_getElem? (i := 47) rfl)) (hw _ (List.mem_of_getElem? (i := 46) rfl)) (by decide) (by decide)) (g := (mkF m 644 #[.val (.long p1), .second, .val (.int p2), .val (.int p3), .val (.int p4), .val (.int p5), .val (.int r_2), .val (.int r_4), .val (.int r_6), .val (.int r_8), .val (.int r_10), .val (.int r_12), .val (.int r_14), .val (.int r_16), .val (.int r_18), .val (.ref b19), .val (.int (p4 &&& (7 : Int32))), .val (.int ln), .val (.int (0 : Int32))] [(.int ln), (.int (p4 &&& (7 : Int32))), (.ref b19)])) rfl (by rw [hml]; rfl) (argsL := [(.ref b19), (.int (p4 &&& (7 : Int32))), (.int ln)]) (rest := []) (lenOf pd___BII_Z rfl) rfl (by show 2 * 0 + _ ≤ _; exact Nat.le_of_eq rfl) (hb hby at_644) (fun _ _ => ⟨rfl, e136, (by decide : 3 + 0 ≤ _), (by decide : 192 + 0 ≤ _)⟩)
                            dsimp only [Pt.U, Pt.locs, Pt.cells, Pt.slots] at X138 l138 y138 z138 st138 hQ138
                            subst l138 y138 z138
                            obtain ⟨rfl, Nq138, e138⟩ := hQ138
                            have Nf138 := Fr.app Nf136 Nq138
                            refine own_fw (A' := (T138.setTop (mkF m 647 #[.val (.long p1), .second, .val (.int p2), .val (.int p3), .val (.int p4), .val (.int p5), .val (.int r_2), .val (.int r_4), .val (.int r_6), .val (.int r_8), .val (.int r_10), .val (.int r_12), .val (.int r_14), .val (.int r_16), .val (.int r_18), .val (.ref b19), .val (.int (p4 &&& (7 : Int32))), .val (.int ln), .val (.int (0 : Int32))] [(.int (own_fol (own_buf r_2 r_4 r_6 r_8 r_10 r_12 r_14 r_16 r_18) (p4 &&& (7 : Int32)) ln))]))) (fun t k => st138 _ k) ?_
                            refine own_fw (A' := (T138.setTop (mkF m 649 #[.val (.long p1), .second, .val (.int p2), .val (.int p3), .val (.int p4), .val (.int p5), .val (.int r_2), .val (.int r_4), .val (.int r_6), .val (.int r_8), .val (.int r_10), .val (.int r_12), .val (.int r_14), .val (.int r_16), .val (.int r_18), .val (.ref b19), .val (.int (p4 &&& (7 : Int32))), .val (.int ln), .val (.int (0 : Int32))] [(.int (0 : Int32)), (.int (own_fol (own_buf r_2 r_4 r_6 r_8 r_10 r_12 r_14 r_16 r_18) (p4 &&& (7 : Int32)) ln))]))) (fun t k => XS.iload X138.here hx rfl (hb hby at_647) rfl k) ?_
                            refine own_fw (A' := (T138.setTop (mkF m 652 #[.val (.long p1), .second, .val (.int p2), .val (.int p3), .val (.int p4), .val (.int p5), .val (.int r_2), .val (.int r_4), .val (.int r_6), .val (.int r_8), .val (.int r_10), .val (.int r_12), .val (.int r_14), .val (.int r_16), .val (.int r_18), .val (.ref b19), .val (.int (p4 &&& (7 : Int32))), .val (.int ln), .val (.int (0 : Int32))] []))) (fun t k => XS.icmpNo X138.here hx rfl (hb hby at_649) rfl (XT.ii_ne_f (own_badF (own_oM _) hc104 hc106 hc109 hc135 hc137)) k) ?_
                            refine own_fw (A' := (T138.setTop (mkF m 653 #[.val (.long p1), .second, .val (.int p2), .val (.int p3), .val (.int p4), .val (.int p5), .val (.int r_2), .val (.int r_4), .val (.int r_6), .val (.int r_8), .val (.int r_10), .val (.int r_12), .val (.int r_14), .val (.int r_16), .val (.int r_18), .val (.ref b19), .val (.int (p4 &&& (7 : Int32))), .val (.int ln), .val (.int (0 : Int32))] [(.int (1 : Int32))]))) (fun t k => XS.iconst X138.here hx rfl (hb hby at_652) k) ?_
                            refine own_fw (A' := (T138.setTop (mkF m 657 #[.val (.long p1), .second, .val (.int p2), .val (.int p3), .val (.int p4), .val (.int p5), .val (.int r_2), .val (.int r_4), .val (.int r_6), .val (.int r_8), .val (.int r_10), .val (.int r_12), .val (.int r_14), .val (.int r_16), .val (.int r_18), .val (.ref b19), .val (.int (p4 &&& (7 : Int32))), .val (.int ln), .val (.int (0 : Int32))] [(.int (1 : Int32))]))) (fun t k => XS.goto X138.here hx rfl (pc0 := 653) (pc' := 657) rfl (hb hby at_653) (by decide) (by decide) k) ?_
                            obtain ⟨fs, hr, hrun, hended, hWE⟩ := X138.leaveW hS (by rw [e138]; exact hk : _ ≤ T138.heap.size) (v := some (.int (1 : Int32))) (fun h => by rw [Bd.returns] at h; cases h)
                            refine ⟨_, _, ?_, hrun, hended, _, _, rfl, ?_, own_widen hWE (by decide) (by decide)⟩
                            · exact retOut X138 hx Bd.returns rfl (Or.inl ⟨rfl, by simp, _, rfl⟩) (hb hby at_657) hr
                            · show Q_rm0 Z p1 p2 p3 p4 p5 cs sv h0 n0 _ T138.heap _
                              rw [e138]
                              exact ⟨rfl, Nf138⟩
                          · refine own_fw (A' := (T136.setTop (mkF m 631 #[.val (.long p1), .second, .val (.int p2), .val (.int p3), .val (.int p4), .val (.int p5), .val (.int r_2), .val (.int r_4), .val (.int r_6), .val (.int r_8), .val (.int r_10), .val (.int r_12), .val (.int r_14), .val (.int r_16), .val (.int r_18), .val (.ref b19), .val (.int (p4 &&& (7 : Int32))), .val (.int ln), .unset] []))) (fun t k => XS.ifNo X136.here hx rfl (hb hby at_628) rfl (XT.i0_eq_f hc137) k) ?_
                            refine own_fw (A' := (T136.setTop (mkF m 632 #[.val (.long p1), .second, .val (.int p2), .val (.int p3), .val (.int p4), .val (.int p5), .val (.int r_2), .val (.int r_4), .val (.int r_6), .val (.int r_8), .val (.int r_10), .val (.int r_12), .val (.int r_14), .val (.int r_16), .val (.int r_18), .val (.ref b19), .val (.int (p4 &&& (7 : Int32))), .val (.int ln), .unset] [(.int (1 : Int32))]))) (fun t k => XS.iconst X136.here hx rfl (hb hby at_631) k) ?_
                            refine own_fw (A' := (T136.setTop (mkF m 636 #[.val (.long p1), .second, .val (.int p2), .val (.int p3), .val (.int p4), .val (.int p5), .val (.int r_2), .val (.int r_4), .val (.int r_6), .val (.int r_8), .val (.int r_10), .val (.int r_12), .val (.int r_14), .val (.int r_16), .val (.int r_18), .val (.ref b19), .val (.int (p4 &&& (7 : Int32))), .val (.int ln), .unset] [(.int (1 : Int32))]))) (fun t k => XS.goto X136.here hx rfl (pc0 := 632) (pc' := 636) rfl (hb hby at_632) (by decide) (by decide) k) ?_
                            refine own_fw (A' := (T136.setTop (mkF m 638 #[.val (.long p1), .second, .val (.int p2), .val (.int p3), .val (.int p4), .val (.int p5), .val (.int r_2), .val (.int r_4), .val (.int r_6), .val (.int r_8), .val (.int r_10), .val (.int r_12), .val (.int r_14), .val (.int r_16), .val (.int r_18), .val (.ref b19), .val (.int (p4 &&& (7 : Int32))), .val (.int ln), .val (.int (1 : Int32))] []))) (fun t k => XS.istore X136.here hx rfl (hb hby at_636) rfl (l' := #[.val (.long p1), .second, .val (.int p2), .val (.int p3), .val (.int p4), .val (.int p5), .val (.int r_2), .val (.int r_4), .val (.int r_6), .val (.int r_8), .val (.int r_10), .val (.int r_12), .val (.int r_14), .val (.int r_16), .val (.int r_18), .val (.ref b19), .val (.int (p4 &&& (7 : Int32))), .val (.int ln), .val (.int (1 : Int32))]) rfl k) ?_
                            refine own_fw (A' := (T136.setTop (mkF m 640 #[.val (.long p1), .second, .val (.int p2), .val (.int p3), .val (.int p4), .val (.int p5), .val (.int r_2), .val (.int r_4), .val (.int r_6), .val (.int r_8), .val (.int r_10), .val (.int r_12), .val (.int r_14), .val (.int r_16), .val (.int r_18), .val (.ref b19), .val (.int (p4 &&& (7 : Int32))), .val (.int ln), .val (.int (1 : Int32))] [(.ref b19)]))) (fun t k => XS.aload X136.here hx rfl (hb hby at_638) rfl rfl k) ?_
                            refine own_fw (A' := (T136.setTop (mkF m 642 #[.val (.long p1), .second, .val (.int p2), .val (.int p3), .val (.int p4), .val (.int p5), .val (.int r_2), .val (.int r_4), .val (.int r_6), .val (.int r_8), .val (.int r_10), .val (.int r_12), .val (.int r_14), .val (.int r_16), .val (.int r_18), .val (.ref b19), .val (.int (p4 &&& (7 : Int32))), .val (.int ln), .val (.int (1 : Int32))] [(.int (p4 &&& (7 : Int32))), (.ref b19)]))) (fun t k => XS.iload X136.here hx rfl (hb hby at_640) rfl k) ?_
                            refine own_fw (A' := (T136.setTop (mkF m 644 #[.val (.long p1), .second, .val (.int p2), .val (.int p3), .val (.int p4), .val (.int p5), .val (.int r_2), .val (.int r_4), .val (.int r_6), .val (.int r_8), .val (.int r_10), .val (.int r_12), .val (.int r_14), .val (.int r_16), .val (.int r_18), .val (.ref b19), .val (.int (p4 &&& (7 : Int32))), .val (.int ln), .val (.int (1 : Int32))] [(.int ln), (.int (p4 &&& (7 : Int32))), (.ref b19)]))) (fun t k => XS.iload X136.here hx rfl (hb hby at_642) rfl k) ?_
                            obtain ⟨_, _, ⟨T139, L139, k139, n139⟩, -, X139, ⟨Lc139, hQ139, l139, y139, z139⟩, st139⟩ := Jvm.LawKit.callS X136 hx (y := (⟨"com/example/log_to_isles/logtoisles/model/NodeName", "follows", "([BII)Z"⟩ : MethodName)) hown (mvT hZ (hw _ (List.mem_of_getElem? (i := 44) rfl))) (mvT hZ (hw _ (List.mem_of_getElem? (i := 45) rfl))) (mvT hZ (hw _ (List.mem_of_getElem? (i := 46) rfl))) (mvT hZ (hw _ (List.mem_of_getElem? (i := 47) rfl))) (by decide) (backOf (W := 0) (rmFol l Z a0 hw [] b19 k19 r_2 r_4 r_6 r_8 r_10 r_12 r_14 r_16 r_18 (p4 &&& (7 : Int32)) ln h101 n0 Z101 V101 (own_oM _)) hZ (hw _ (List.mem_of_getElem? (i := 47) rfl)) (hw _ (List.mem_of_getElem? (i := 46) rfl)) (by decide) (by decide)) (g := (mkF m 644 #[.val (.long p1), .second, .val (.int p2), .val (.int p3), .val (.int p4), .val (.int p5), .val (.int r_2), .val (.int r_4), .val (.int r_6), .val (.int r_8), .val (.int r_10), .val (.int r_12), .val (.int r_14), .val (.int r_16), .val (.int r_18), .val (.ref b19), .val (.int (p4 &&& (7 : Int32))), .val (.int ln), .val (.int (1 : Int32))] [(.int ln), (.int (p4 &&& (7 : Int32))), (.ref b19)])) rfl (by rw [hml]; rfl) (argsL := [(.ref b19), (.int (p4 &&& (7 : Int32))), (.int ln)]) (rest := []) (lenOf pd___BII_Z rfl) rfl (by show 2 * 0 + _ ≤ _; exact Nat.le_of_eq rfl) (hb hby at_644) (fun _ _ => ⟨rfl, e136, (by decide : 3 + 0 ≤ _), (by decide : 192 + 0 ≤ _)⟩)
                            dsimp only [Pt.U, Pt.locs, Pt.cells, Pt.slots] at X139 l139 y139 z139 st139 hQ139
                            subst l139 y139 z139
                            obtain ⟨rfl, Nq139, e139⟩ := hQ139
                            have Nf139 := Fr.app Nf136 Nq139
                            refine own_fw (A' := (T139.setTop (mkF m 647 #[.val (.long p1), .second, .val (.int p2), .val (.int p3), .val (.int p4), .val (.int p5), .val (.int r_2), .val (.int r_4), .val (.int r_6), .val (.int r_8), .val (.int r_10), .val (.int r_12), .val (.int r_14), .val (.int r_16), .val (.int r_18), .val (.ref b19), .val (.int (p4 &&& (7 : Int32))), .val (.int ln), .val (.int (1 : Int32))] [(.int (own_fol (own_buf r_2 r_4 r_6 r_8 r_10 r_12 r_14 r_16 r_18) (p4 &&& (7 : Int32)) ln))]))) (fun t k => st139 _ k) ?_
                            refine own_fw (A' := (T139.setTop (mkF m 649 #[.val (.long p1), .second, .val (.int p2), .val (.int p3), .val (.int p4), .val (.int p5), .val (.int r_2), .val (.int r_4), .val (.int r_6), .val (.int r_8), .val (.int r_10), .val (.int r_12), .val (.int r_14), .val (.int r_16), .val (.int r_18), .val (.ref b19), .val (.int (p4 &&& (7 : Int32))), .val (.int ln), .val (.int (1 : Int32))] [(.int (1 : Int32)), (.int (own_fol (own_buf r_2 r_4 r_6 r_8 r_10 r_12 r_14 r_16 r_18) (p4 &&& (7 : Int32)) ln))]))) (fun t k => XS.iload X139.here hx rfl (hb hby at_647) rfl k) ?_
                            refine own_fw (A' := (T139.setTop (mkF m 652 #[.val (.long p1), .second, .val (.int p2), .val (.int p3), .val (.int p4), .val (.int p5), .val (.int r_2), .val (.int r_4), .val (.int r_6), .val (.int r_8), .val (.int r_10), .val (.int r_12), .val (.int r_14), .val (.int r_16), .val (.int r_18), .val (.ref b19), .val (.int (p4 &&& (7 : Int32))), .val (.int ln), .val (.int (1 : Int32))] []))) (fun t k => XS.icmpNo X139.here hx rfl (hb hby at_649) rfl (XT.ii_ne_f (own_fine (own_oM _) hc104 hc106 hc109 hc112 hc115 hc118 hc121 hc124 hc127 hc130 hc133 (Or.inr hc137))) k) ?_
                            refine own_fw (A' := (T139.setTop (mkF m 653 #[.val (.long p1), .second, .val (.int p2), .val (.int p3), .val (.int p4), .val (.int p5), .val (.int r_2), .val (.int r_4), .val (.int r_6), .val (.int r_8), .val (.int r_10), .val (.int r_12), .val (.int r_14), .val (.int r_16), .val (.int r_18), .val (.ref b19), .val (.int (p4 &&& (7 : Int32))), .val (.int ln), .val (.int (1 : Int32))] [(.int (1 : Int32))]))) (fun t k => XS.iconst X139.here hx rfl (hb hby at_652) k) ?_
                            refine own_fw (A' := (T139.setTop (mkF m 657 #[.val (.long p1), .second, .val (.int p2), .val (.int p3), .val (.int p4), .val (.int p5), .val (.int r_2), .val (.int r_4), .val (.int r_6), .val (.int r_8), .val (.int r_10), .val (.int r_12), .val (.int r_14), .val (.int r_16), .val (.int r_18), .val (.ref b19), .val (.int (p4 &&& (7 : Int32))), .val (.int ln), .val (.int (1 : Int32))] [(.int (1 : Int32))]))) (fun t k => XS.goto X139.here hx rfl (pc0 := 653) (pc' := 657) rfl (hb hby at_653) (by decide) (by decide) k) ?_
                            obtain ⟨fs, hr, hrun, hended, hWE⟩ := X139.leaveW hS (by rw [e139]; exact hk : _ ≤ T139.heap.size) (v := some (.int (1 : Int32))) (fun h => by rw [Bd.returns] at h; cases h)
                            refine ⟨_, _, ?_, hrun, hended, _, _, rfl, ?_, own_widen hWE (by decide) (by decide)⟩
                            · exact retOut X139 hx Bd.returns rfl (Or.inl ⟨rfl, by simp, _, rfl⟩) (hb hby at_657) hr
                            · show Q_rm0 Z p1 p2 p3 p4 p5 cs sv h0 n0 _ T139.heap _
                              rw [e139]
                              exact ⟨rfl, Nf139⟩
                        · refine own_fw (A' := (T132.setTop (mkF m 631 #[.val (.long p1), .second, .val (.int p2), .val (.int p3), .val (.int p4), .val (.int p5), .val (.int r_2), .val (.int r_4), .val (.int r_6), .val (.int r_8), .val (.int r_10), .val (.int r_12), .val (.int r_14), .val (.int r_16), .val (.int r_18), .val (.ref b19), .val (.int (p4 &&& (7 : Int32))), .val (.int ln), .unset] []))) (fun t k => XS.icmpYes X132.here hx rfl (pc0 := 620) (pc' := 631) rfl (hb hby at_620) rfl (XT.ii_le_t hc135) (by decide) (by decide) k) ?_
                          refine own_fw (A' := (T132.setTop (mkF m 632 #[.val (.long p1), .second, .val (.int p2), .val (.int p3), .val (.int p4), .val (.int p5), .val (.int r_2), .val (.int r_4), .val (.int r_6), .val (.int r_8), .val (.int r_10), .val (.int r_12), .val (.int r_14), .val (.int r_16), .val (.int r_18), .val (.ref b19), .val (.int (p4 &&& (7 : Int32))), .val (.int ln), .unset] [(.int (1 : Int32))]))) (fun t k => XS.iconst X132.here hx rfl (hb hby at_631) k) ?_
                          refine own_fw (A' := (T132.setTop (mkF m 636 #[.val (.long p1), .second, .val (.int p2), .val (.int p3), .val (.int p4), .val (.int p5), .val (.int r_2), .val (.int r_4), .val (.int r_6), .val (.int r_8), .val (.int r_10), .val (.int r_12), .val (.int r_14), .val (.int r_16), .val (.int r_18), .val (.ref b19), .val (.int (p4 &&& (7 : Int32))), .val (.int ln), .unset] [(.int (1 : Int32))]))) (fun t k => XS.goto X132.here hx rfl (pc0 := 632) (pc' := 636) rfl (hb hby at_632) (by decide) (by decide) k) ?_
                          refine own_fw (A' := (T132.setTop (mkF m 638 #[.val (.long p1), .second, .val (.int p2), .val (.int p3), .val (.int p4), .val (.int p5), .val (.int r_2), .val (.int r_4), .val (.int r_6), .val (.int r_8), .val (.int r_10), .val (.int r_12), .val (.int r_14), .val (.int r_16), .val (.int r_18), .val (.ref b19), .val (.int (p4 &&& (7 : Int32))), .val (.int ln), .val (.int (1 : Int32))] []))) (fun t k => XS.istore X132.here hx rfl (hb hby at_636) rfl (l' := #[.val (.long p1), .second, .val (.int p2), .val (.int p3), .val (.int p4), .val (.int p5), .val (.int r_2), .val (.int r_4), .val (.int r_6), .val (.int r_8), .val (.int r_10), .val (.int r_12), .val (.int r_14), .val (.int r_16), .val (.int r_18), .val (.ref b19), .val (.int (p4 &&& (7 : Int32))), .val (.int ln), .val (.int (1 : Int32))]) rfl k) ?_
                          refine own_fw (A' := (T132.setTop (mkF m 640 #[.val (.long p1), .second, .val (.int p2), .val (.int p3), .val (.int p4), .val (.int p5), .val (.int r_2), .val (.int r_4), .val (.int r_6), .val (.int r_8), .val (.int r_10), .val (.int r_12), .val (.int r_14), .val (.int r_16), .val (.int r_18), .val (.ref b19), .val (.int (p4 &&& (7 : Int32))), .val (.int ln), .val (.int (1 : Int32))] [(.ref b19)]))) (fun t k => XS.aload X132.here hx rfl (hb hby at_638) rfl rfl k) ?_
                          refine own_fw (A' := (T132.setTop (mkF m 642 #[.val (.long p1), .second, .val (.int p2), .val (.int p3), .val (.int p4), .val (.int p5), .val (.int r_2), .val (.int r_4), .val (.int r_6), .val (.int r_8), .val (.int r_10), .val (.int r_12), .val (.int r_14), .val (.int r_16), .val (.int r_18), .val (.ref b19), .val (.int (p4 &&& (7 : Int32))), .val (.int ln), .val (.int (1 : Int32))] [(.int (p4 &&& (7 : Int32))), (.ref b19)]))) (fun t k => XS.iload X132.here hx rfl (hb hby at_640) rfl k) ?_
                          refine own_fw (A' := (T132.setTop (mkF m 644 #[.val (.long p1), .second, .val (.int p2), .val (.int p3), .val (.int p4), .val (.int p5), .val (.int r_2), .val (.int r_4), .val (.int r_6), .val (.int r_8), .val (.int r_10), .val (.int r_12), .val (.int r_14), .val (.int r_16), .val (.int r_18), .val (.ref b19), .val (.int (p4 &&& (7 : Int32))), .val (.int ln), .val (.int (1 : Int32))] [(.int ln), (.int (p4 &&& (7 : Int32))), (.ref b19)]))) (fun t k => XS.iload X132.here hx rfl (hb hby at_642) rfl k) ?_
                          obtain ⟨_, _, ⟨T140, L140, k140, n140⟩, -, X140, ⟨Lc140, hQ140, l140, y140, z140⟩, st140⟩ := Jvm.LawKit.callS X132 hx (y := (⟨"com/example/log_to_isles/logtoisles/model/NodeName", "follows", "([BII)Z"⟩ : MethodName)) hown (mvT hZ (hw _ (List.mem_of_getElem? (i := 44) rfl))) (mvT hZ (hw _ (List.mem_of_getElem? (i := 45) rfl))) (mvT hZ (hw _ (List.mem_of_getElem? (i := 46) rfl))) (mvT hZ (hw _ (List.mem_of_getElem? (i := 47) rfl))) (by decide) (backOf (W := 0) (rmFol l Z a0 hw [] b19 k19 r_2 r_4 r_6 r_8 r_10 r_12 r_14 r_16 r_18 (p4 &&& (7 : Int32)) ln h101 n0 Z101 V101 (own_oM _)) hZ (hw _ (List.mem_of_getElem? (i := 47) rfl)) (hw _ (List.mem_of_getElem? (i := 46) rfl)) (by decide) (by decide)) (g := (mkF m 644 #[.val (.long p1), .second, .val (.int p2), .val (.int p3), .val (.int p4), .val (.int p5), .val (.int r_2), .val (.int r_4), .val (.int r_6), .val (.int r_8), .val (.int r_10), .val (.int r_12), .val (.int r_14), .val (.int r_16), .val (.int r_18), .val (.ref b19), .val (.int (p4 &&& (7 : Int32))), .val (.int ln), .val (.int (1 : Int32))] [(.int ln), (.int (p4 &&& (7 : Int32))), (.ref b19)])) rfl (by rw [hml]; rfl) (argsL := [(.ref b19), (.int (p4 &&& (7 : Int32))), (.int ln)]) (rest := []) (lenOf pd___BII_Z rfl) rfl (by show 2 * 0 + _ ≤ _; exact Nat.le_of_eq rfl) (hb hby at_644) (fun _ _ => ⟨rfl, e132, (by decide : 3 + 0 ≤ _), (by decide : 192 + 0 ≤ _)⟩)
                          dsimp only [Pt.U, Pt.locs, Pt.cells, Pt.slots] at X140 l140 y140 z140 st140 hQ140
                          subst l140 y140 z140
                          obtain ⟨rfl, Nq140, e140⟩ := hQ140
                          have Nf140 := Fr.app Nf132 Nq140
                          refine own_fw (A' := (T140.setTop (mkF m 647 #[.val (.long p1), .second, .val (.int p2), .val (.int p3), .val (.int p4), .val (.int p5), .val (.int r_2), .val (.int r_4), .val (.int r_6), .val (.int r_8), .val (.int r_10), .val (.int r_12), .val (.int r_14), .val (.int r_16), .val (.int r_18), .val (.ref b19), .val (.int (p4 &&& (7 : Int32))), .val (.int ln), .val (.int (1 : Int32))] [(.int (own_fol (own_buf r_2 r_4 r_6 r_8 r_10 r_12 r_14 r_16 r_18) (p4 &&& (7 : Int32)) ln))]))) (fun t k => st140 _ k) ?_
                          refine own_fw (A' := (T140.setTop (mkF m 649 #[.val (.long p1), .second, .val (.int p2), .val (.int p3), .val (.int p4), .val (.int p5), .val (.int r_2), .val (.int r_4), .val (.int r_6), .val (.int r_8), .val (.int r_10), .val (.int r_12), .val (.int r_14), .val (.int r_16), .val (.int r_18), .val (.ref b19), .val (.int (p4 &&& (7 : Int32))), .val (.int ln), .val (.int (1 : Int32))] [(.int (1 : Int32)), (.int (own_fol (own_buf r_2 r_4 r_6 r_8 r_10 r_12 r_14 r_16 r_18) (p4 &&& (7 : Int32)) ln))]))) (fun t k => XS.iload X140.here hx rfl (hb hby at_647) rfl k) ?_
                          refine own_fw (A' := (T140.setTop (mkF m 652 #[.val (.long p1), .second, .val (.int p2), .val (.int p3), .val (.int p4), .val (.int p5), .val (.int r_2), .val (.int r_4), .val (.int r_6), .val (.int r_8), .val (.int r_10), .val (.int r_12), .val (.int r_14), .val (.int r_16), .val (.int r_18), .val (.ref b19), .val (.int (p4 &&& (7 : Int32))), .val (.int ln), .val (.int (1 : Int32))] []))) (fun t k => XS.icmpNo X140.here hx rfl (hb hby at_649) rfl (XT.ii_ne_f (own_fine (own_oM _) hc104 hc106 hc109 hc112 hc115 hc118 hc121 hc124 hc127 hc130 hc133 (Or.inl hc135))) k) ?_
                          refine own_fw (A' := (T140.setTop (mkF m 653 #[.val (.long p1), .second, .val (.int p2), .val (.int p3), .val (.int p4), .val (.int p5), .val (.int r_2), .val (.int r_4), .val (.int r_6), .val (.int r_8), .val (.int r_10), .val (.int r_12), .val (.int r_14), .val (.int r_16), .val (.int r_18), .val (.ref b19), .val (.int (p4 &&& (7 : Int32))), .val (.int ln), .val (.int (1 : Int32))] [(.int (1 : Int32))]))) (fun t k => XS.iconst X140.here hx rfl (hb hby at_652) k) ?_
                          refine own_fw (A' := (T140.setTop (mkF m 657 #[.val (.long p1), .second, .val (.int p2), .val (.int p3), .val (.int p4), .val (.int p5), .val (.int r_2), .val (.int r_4), .val (.int r_6), .val (.int r_8), .val (.int r_10), .val (.int r_12), .val (.int r_14), .val (.int r_16), .val (.int r_18), .val (.ref b19), .val (.int (p4 &&& (7 : Int32))), .val (.int ln), .val (.int (1 : Int32))] [(.int (1 : Int32))]))) (fun t k => XS.goto X140.here hx rfl (pc0 := 653) (pc' := 657) rfl (hb hby at_653) (by decide) (by decide) k) ?_
                          obtain ⟨fs, hr, hrun, hended, hWE⟩ := X140.leaveW hS (by rw [e140]; exact hk : _ ≤ T140.heap.size) (v := some (.int (1 : Int32))) (fun h => by rw [Bd.returns] at h; cases h)
                          refine ⟨_, _, ?_, hrun, hended, _, _, rfl, ?_, own_widen hWE (by decide) (by decide)⟩
                          · exact retOut X140 hx Bd.returns rfl (Or.inl ⟨rfl, by simp, _, rfl⟩) (hb hby at_657) hr
                          · show Q_rm0 Z p1 p2 p3 p4 p5 cs sv h0 n0 _ T140.heap _
                            rw [e140]
                            exact ⟨rfl, Nf140⟩
set_option maxRecDepth 65536 in
set_option maxHeartbeats 40000000 in
theorem comes_1 {Post : Tables → Env → Array Value → State → Outcome → State → Prop} (hpost : ∀ tb e args s v u, (limb_1_1.after args s (.returned v) u = true ∧ limb_1_2.after args s (.returned v) u = true ∧ True) → ReturnedEndW s (.returned v) u (Jvm.fieldLocs frame_1_writes args s ++ Jvm.arrayLocs frame_1_arrays args s ++ Jvm.staticLocs frame_1_statics s) 16 1216 → Post tb e args s (.returned v) u) :
    ArmFor flags0 classFile x code maxLocals ret World_1 tables_1 room_1 Calls_1 rest_1 Pre_1 Post := by
  intro l hfl _ _ p e ha hc hk s m args below hf hA hF happ hP
  obtain ⟨hcalls, hrest, hpre⟩ := hP
  obtain ⟨-, -, -, hnamed, -, -, -, hat⟩ := (Spec.applies_iff hf).mp happ
  obtain ⟨hg, hn⟩ := and_e (Cond.before_iff.mp (show (Jvm.Cond.and given_1 narrow_1).before args s = true from hpre))
  obtain ⟨hcount, hg0⟩ := and_e hg
  obtain ⟨hv0, hg1⟩ := and_e hg0
  obtain ⟨hv1, hg2⟩ := and_e hg1
  obtain ⟨hv2, hg3⟩ := and_e hg2
  obtain ⟨hv3, hg4⟩ := and_e hg3
  have hv4 := hg4
  obtain ⟨w0, w1, w2, w3, w4, rfl⟩ : ∃ w0 w1 w2 w3 w4 : Value, args = #[w0, w1, w2, w3, w4] := by
    have hs : args.size = 5 := by simpa [Cond.value, given_1] using hcount
    obtain ⟨L⟩ := args
    match L, hs with
    | [w0, w1, w2, w3, w4], _ => exact ⟨w0, w1, w2, w3, w4, rfl⟩
  have hw := fun d (hd : d ∈ tables_1) => atoms_spec (ws := Jvm.Cond.code x code maxLocals ret :: tables_1) hat d (List.mem_cons_of_mem _ hd)
  have hfit : Fit s := fun {y c} hc i hi => by
    obtain ⟨ha, rfl⟩ := Array.getElem?_eq_some_iff.mp hc
    have q := List.all_eq_true.mp ((Array.all_eq_true_iff_forall_mem.mp hF) _ (Array.getElem_mem ha)) i (List.mem_range.mpr hi)
    simpa [Array.getElem?_eq_getElem hi] using q
  obtain ⟨hsets, hown0⟩ := atoms_of _ (rest_1_c_eq ▸ (show rest_1_c.before _ s = true from hrest))
  obtain ⟨i0, ei0⟩ := isL_v hv0
  obtain rfl : w0 = (.long i0) := Option.some.inj ei0
  obtain ⟨i1, ei1⟩ := is_v hv1
  obtain rfl : w1 = (.int i1) := Option.some.inj ei1
  obtain ⟨i2, ei2⟩ := is_v hv2
  obtain rfl : w2 = (.int i2) := Option.some.inj ei2
  obtain ⟨i3, ei3⟩ := is_v hv3
  obtain rfl : w3 = (.int i3) := Option.some.inj ei3
  obtain ⟨i4, ei4⟩ := is_v hv4
  obtain rfl : w4 = (.int i4) := Option.some.inj ei4
  obtain ⟨cs, ev_cs⟩ := is_v (Cond.before_iff.mp (hsets _ (List.mem_of_getElem? (i := 1) rfl)))
  have S_cs := Sta.start ev_cs (Or.inl (hsets _ (List.mem_of_getElem? (i := 0) rfl)))
  have h_cs := own_nz ev_cs (Cond.before_iff.mp (hsets _ (List.mem_of_getElem? (i := 2) rfl)))
  have hCHv : CHv s own_EL s.vm s.heap := CHv.start (own_EW hw) (fun p hp => hcalls.1 p hp) (hsets _ (List.mem_of_getElem? (i := 2) rfl)) (hw _ (List.mem_of_getElem? (i := 7) rfl)) (hw _ (List.mem_of_getElem? (i := 6) rfl))
  obtain ⟨sv, ev_sv, h_sv⟩ := isR_v (Cond.before_iff.mp (hsets _ (List.mem_of_getElem? (i := 8) rfl)))
  have S_sv := Sta.start ev_sv (Or.inl (hsets _ (List.mem_of_getElem? (i := 7) rfl)))
  obtain ⟨n, o, h1, h2, h3, _, L, rfl, ⟨rfl, N⟩, hq⟩ := rm0 l s _ hw tables_1 i0 i1 i2 i3 i4 cs sv s.heap s.heap.size (Nat.le_refl _) S_cs h_cs S_sv h_sv p e ha hc hk s m _ below hf ((Spec.applies_iff_loose hf).mp happ).1 ⟨rfl, State.Warmed39.refl s, rfl, hCHv⟩ trivial
  refine ⟨n, _, h1, h2, h3, hpost _ _ _ _ _ _ ⟨Cond.after_iff.mpr rfl, Cond.after_iff.mpr (eq_i res_at (Term.int_eval (1)) rfl), trivial⟩ ⟨hq.1, hq.2.1, hq.2.2.1, (hq.2.2.2.sift fun y hy => Or.inr (N y hy)).mono (by decide) (by decide)⟩⟩
theorem main_1_1 : Claimed_1_1 := comes_1 fun _ _ _ _ _ _ h hF => ⟨h.1, hF⟩
theorem main_1_2 : Claimed_1_2 := comes_1 fun _ _ _ _ _ _ h hF => ⟨h.2.1, hF⟩
end Jvm.Pilot.@@N@@
namespace Jvm.Pilot.@@N@@
open Jvm Jvm.ClassFile Sem Op Lib Jvm.Free Jvm.Stand Jvm.Pilot.@@N@@.Jvm.D
/-! MADE BY PROGRAM (witnessworld.py) out of the Statement's table words and the real class files: 18 classes; the members and pool entries that the words name. The judged class is class 1, her method 4. -/
namespace start1
open Jvm.ClassFile
def u (s : String) : CpInfo := .utf8 (stringToUtf16 s)
/-- a pool by its gaps: so many unusable entries, then the entry; so many at the end -/
def gap : Nat → List CpInfo → List CpInfo
  | 0, r => r
  | n + 1, r => .unusable :: gap n r
def poolList (es : List (Nat × CpInfo)) (last : Nat) : List CpInfo := es.foldr (fun e r => gap e.1 (e.2 :: r)) (gap last [])
def pool (es : List (Nat × CpInfo)) (last : Nat) : Array CpInfo := ⟨poolList es last⟩
def fileOf (pool : Array CpInfo) (this : Nat) (attrs : Array Attribute := #[]) (ms : Array MethodInfo := #[]) (fl : Nat := 33) (sup : Nat := 0) (ifs : Array Nat := #[]) (fds : Array FieldInfo := #[]) : ClassFile where
  minorVersion := 0
  majorVersion := 65
  constantPool := pool
  accessFlags := fl
  thisClass := this
  superClass := sup
  interfaces := ifs
  fields := fds
  methods := ms
  attributes := attrs
def plain (name : String) (sup : Option ClassId) : Class where
  name := name
  kind := .ordinary
  loader := none
  accessFlags := 33
  super := sup
  interfaces := #[]
  cf := none
  fields := #[]
  methods := #[]
  instanceTypes := #[]
  staticTypes := #[]
  resolved := #[]
  callSites := []
  init := .initialized
  statics := none
  mirror := none

def pool0 : Array CpInfo := pool [(5, u "<init>"), (0, u "()V"), (1, .class_ 10), (1, u "java/lang/Object")] 113

def k0m0 : Method := { name := "<init>", desc := "()V", sig := { parameters := [], returnType := none }, accessFlags := 1, code := none }
/-- java/lang/Object -/
def k0 : Class := { plain "java/lang/Object" none with
  accessFlags := 33
  interfaces := #[]
  cf := some (fileOf pool0 8 #[] #[{ accessFlags := 1, nameIndex := 5, descriptorIndex := 6, attributes := #[] }] 33 0 #[] #[])
  fields := #[]
  methods := #[k0m0]
  instanceTypes := #[]
  staticTypes := #[]
  resolved := Array.replicate 124 none
  statics := none }

def pool1 : Array CpInfo := pool [(2, .class_ 4), (1, u "java/lang/Object"), (0, u "<init>"), (0, u "()V"), (0, .string 8), (0, u "abcdefghijklmnopqrstuvwxyz0123456789-"), (0, .methodref 10 11), (0, .class_ 12), (0, .nameAndType 13 14), (0, u "java/lang/String"), (0, u "charAt"), (0, u "(I)C"), (0, .methodref 16 17), (0, .class_ 18), (0, .nameAndType 19 20), (0, u "com/example/log_to_isles/logtoisles/model/NodeNameFollowsPinLaw"), (0, u "valid"), (0, u "(B)Z"), (0, .methodref 16 22), (0, .nameAndType 23 24), (0, u "pick"), (0, u "(IZ)B"), (0, .integer 2147483647), (0, .methodref 16 27), (0, .nameAndType 28 29), (0, u "okAt"), (0, u "([BIII)Z"), (0, .methodref 31 32), (0, .class_ 33), (0, .nameAndType 34 35), (0, u "com/example/log_to_isles/logtoisles/model/NodeName"), (0, u "follows"), (0, u "([BII)Z"), (3, u "law"), (0, u "(JIIII)Z")] 4

def k1m0 : Method := { name := "<init>", desc := "()V", sig := { parameters := [], returnType := none }, accessFlags := 1, code := none }
def k1c1 : Code := { maxStack := 3, maxLocals := 3, code := method_2_code, exceptionTable := #[], attributes := #[] }
def k1m1 : Method := { name := "pick", desc := "(IZ)B", sig := { parameters := [.int, .boolean], returnType := some .byte }, accessFlags := 10, code := some k1c1 }
def k1c2 : Code := { maxStack := 2, maxLocals := 2, code := method_3_code, exceptionTable := #[], attributes := #[] }
def k1m2 : Method := { name := "valid", desc := "(B)Z", sig := { parameters := [.byte], returnType := some .boolean }, accessFlags := 10, code := some k1c2 }
def k1c3 : Code := { maxStack := 3, maxLocals := 4, code := method_4_code, exceptionTable := #[], attributes := #[] }
def k1m3 : Method := { name := "okAt", desc := "([BIII)Z", sig := { parameters := [(.array .byte), .int, .int, .int], returnType := some .boolean }, accessFlags := 10, code := some k1c3 }
def k1c4 : Code := { maxStack := 4, maxLocals := 19, code := code, exceptionTable := #[], attributes := #[] }
def k1m4 : Method := { name := "law", desc := "(JIIII)Z", sig := { parameters := [.long, .int, .int, .int, .int], returnType := some .boolean }, accessFlags := 9, code := some k1c4 }
/-- com/example/log_to_isles/logtoisles/model/NodeNameFollowsPinLaw -/
def k1 : Class := { plain "com/example/log_to_isles/logtoisles/model/NodeNameFollowsPinLaw" (some 0) with
  accessFlags := 49
  interfaces := #[]
  cf := some (fileOf pool1 16 #[] #[{ accessFlags := 1, nameIndex := 5, descriptorIndex := 6, attributes := #[] }, { accessFlags := 10, nameIndex := 23, descriptorIndex := 24, attributes := #[] }, { accessFlags := 10, nameIndex := 19, descriptorIndex := 20, attributes := #[] }, { accessFlags := 10, nameIndex := 28, descriptorIndex := 29, attributes := #[] }, { accessFlags := 9, nameIndex := 39, descriptorIndex := 40, attributes := #[] }] 49 2 #[] #[])
  fields := #[]
  methods := #[k1m0, k1m1, k1m2, k1m3, k1m4]
  instanceTypes := #[]
  staticTypes := #[]
  resolved := Array.replicate 45 none
  statics := none }

def pool2 : Array CpInfo := pool [(1, .class_ 2), (0, u "java/io/Serializable"), (0, .class_ 4), (0, u "java/lang/Object")] 2

/-- java/io/Serializable -/
def k2 : Class := { plain "java/io/Serializable" (some 0) with
  accessFlags := 1537
  interfaces := #[]
  cf := some (fileOf pool2 1 #[] #[] 1537 3 #[] #[])
  fields := #[]
  methods := #[]
  instanceTypes := #[]
  staticTypes := #[]
  resolved := Array.replicate 7 none
  statics := none }

def pool3 : Array CpInfo := pool [(1, .class_ 2), (0, u "java/lang/Comparable"), (0, .class_ 4), (0, u "java/lang/Object")] 7

/-- java/lang/Comparable -/
def k3 : Class := { plain "java/lang/Comparable" (some 0) with
  accessFlags := 1537
  interfaces := #[]
  cf := some (fileOf pool3 1 #[] #[] 1537 3 #[] #[])
  fields := #[]
  methods := #[]
  instanceTypes := #[]
  staticTypes := #[]
  resolved := Array.replicate 12 none
  statics := none }

def pool4 : Array CpInfo := pool [(2, .class_ 4), (1, u "java/lang/CharSequence"), (42, .class_ 48), (0, u "java/lang/CharSequence$1CodePointIterator"), (10, .class_ 60), (0, u "java/lang/CharSequence$1CharIterator"), (5, .class_ 67), (0, u "java/lang/Object")] 63

/-- java/lang/CharSequence -/
def k4 : Class := { plain "java/lang/CharSequence" (some 0) with
  accessFlags := 1537
  interfaces := #[]
  cf := some (fileOf pool4 2 #[.nestMembers #[47, 59]] #[] 1537 66 #[] #[])
  fields := #[]
  methods := #[]
  instanceTypes := #[]
  staticTypes := #[]
  resolved := Array.replicate 131 none
  statics := none }

def pool5 : Array CpInfo := pool [(1, .class_ 2), (0, u "java/lang/constant/Constable"), (0, .class_ 4), (0, u "java/lang/Object")] 6

/-- java/lang/constant/Constable -/
def k5 : Class := { plain "java/lang/constant/Constable" (some 0) with
  accessFlags := 1537
  interfaces := #[]
  cf := some (fileOf pool5 1 #[] #[] 1537 3 #[] #[])
  fields := #[]
  methods := #[]
  instanceTypes := #[]
  staticTypes := #[]
  resolved := Array.replicate 11 none
  statics := none }

def pool6 : Array CpInfo := pool [(1, .class_ 2), (0, u "java/lang/constant/ConstantDesc"), (0, .class_ 4), (0, u "java/lang/Object")] 32

/-- java/lang/constant/ConstantDesc -/
def k6 : Class := { plain "java/lang/constant/ConstantDesc" (some 0) with
  accessFlags := 1537
  interfaces := #[]
  cf := some (fileOf pool6 1 #[] #[] 1537 3 #[] #[])
  fields := #[]
  methods := #[]
  instanceTypes := #[]
  staticTypes := #[]
  resolved := Array.replicate 37 none
  statics := none }

def pool7 : Array CpInfo := pool [(2, .class_ 4), (1, u "java/lang/Object"), (0, u "<init>"), (0, u "()V"), (2, .fieldref 10 11), (0, .class_ 12), (0, .nameAndType 13 14), (0, u "java/lang/String"), (0, u "value"), (0, u "[B"), (0, .fieldref 10 16), (0, .nameAndType 17 18), (0, u "coder"), (0, u "B"), (2, u "hash"), (0, u "I"), (2, u "hashIsZero"), (0, u "Z"), (11, .fieldref 10 39), (0, .nameAndType 40 26), (0, u "COMPACT_STRINGS"), (66, .class_ 109), (1, u "java/lang/StringLatin1"), (32, u "()Z"), (220, u "([BI)C"), (27, u "(II)V"), (35, u "(I)C"), (64, .methodref 10 493), (0, .nameAndType 494 142), (0, u "isLatin1"), (0, .methodref 107 496), (0, .nameAndType 497 363), (0, u "charAt"), (3, u "checkIndex"), (73, .class_ 576), (0, u "java/lang/CharSequence"), (22, u "CASE_INSENSITIVE_ORDER"), (0, u "Ljava/util/Comparator;"), (452, .fieldref 1054 1055), (0, .class_ 1056), (0, .nameAndType 1057 1058), (0, u "jdk/internal/util/Preconditions"), (0, u "SIOOBE_FORMATTER"), (0, u "Ljava/util/function/BiFunction;"), (0, .methodref 1054 1060), (0, .nameAndType 501 1061), (0, u "(IILjava/util/function/BiFunction;)I"), (39, u "serialPersistentFields"), (0, u "[Ljava/io/ObjectStreamField;"), (0, .class_ 1104), (0, u "java/lang/String$CaseInsensitiveComparator"), (1, .class_ 1107), (0, u "java/io/Serializable"), (0, .class_ 1109), (0, u "java/lang/Comparable"), (0, .class_ 1111), (0, u "java/lang/constant/Constable"), (0, .class_ 1113), (0, u "java/lang/constant/ConstantDesc"), (2, u "serialVersionUID"), (0, u "J"), (3, u "REPL"), (0, u "C"), (2, u "LATIN1"), (1, u "UTF16")] 323

def k7m0 : Method := { name := "<init>", desc := "()V", sig := { parameters := [], returnType := none }, accessFlags := 1, code := none }
def k7c1 : Code := { maxStack := 2, maxLocals := 2, code := jdk_42_method_56_code, exceptionTable := #[], attributes := #[] }
def k7m1 : Method := { name := "charAt", desc := "(I)C", sig := { parameters := [.int], returnType := some .char }, accessFlags := 1, code := some k7c1 }
def k7c2 : Code := { maxStack := 1, maxLocals := 1, code := jdk_42_method_154_code, exceptionTable := #[], attributes := #[] }
def k7m2 : Method := { name := "isLatin1", desc := "()Z", sig := { parameters := [], returnType := some .boolean }, accessFlags := 0, code := some k7c2 }
def k7c3 : Code := { maxStack := 3, maxLocals := 2, code := jdk_42_method_155_code, exceptionTable := #[], attributes := #[] }
def k7m3 : Method := { name := "checkIndex", desc := "(II)V", sig := { parameters := [.int, .int], returnType := none }, accessFlags := 8, code := some k7c3 }
/-- java/lang/String -/
def k7 : Class := { plain "java/lang/String" (some 0) with
  accessFlags := 49
  interfaces := #[2, 3, 4, 5, 6]
  cf := some (fileOf pool7 10 #[.nestMembers #[1103]] #[{ accessFlags := 1, nameIndex := 5, descriptorIndex := 6, attributes := #[] }, { accessFlags := 1, nameIndex := 497, descriptorIndex := 427, attributes := #[] }, { accessFlags := 0, nameIndex := 494, descriptorIndex := 142, attributes := #[] }, { accessFlags := 8, nameIndex := 501, descriptorIndex := 391, attributes := #[] }] 49 2 #[1106, 1108, 575, 1110, 1112] #[{ accessFlags := 18, nameIndex := 13, descriptorIndex := 14, attributes := #[] }, { accessFlags := 18, nameIndex := 17, descriptorIndex := 18, attributes := #[] }, { accessFlags := 2, nameIndex := 21, descriptorIndex := 22, attributes := #[] }, { accessFlags := 2, nameIndex := 25, descriptorIndex := 26, attributes := #[] }, { accessFlags := 26, nameIndex := 1116, descriptorIndex := 1117, attributes := #[] }, { accessFlags := 24, nameIndex := 40, descriptorIndex := 26, attributes := #[] }, { accessFlags := 26, nameIndex := 1101, descriptorIndex := 1102, attributes := #[] }, { accessFlags := 26, nameIndex := 1121, descriptorIndex := 1122, attributes := #[] }, { accessFlags := 25, nameIndex := 599, descriptorIndex := 600, attributes := #[] }, { accessFlags := 24, nameIndex := 1125, descriptorIndex := 18, attributes := #[] }, { accessFlags := 24, nameIndex := 1127, descriptorIndex := 18, attributes := #[] }])
  fields := #[{ name := "value", type := (.array .byte), accessFlags := 18, slot := 0, constantValue := 0 }, { name := "coder", type := .byte, accessFlags := 18, slot := 1, constantValue := 0 }, { name := "hash", type := .int, accessFlags := 2, slot := 2, constantValue := 0 }, { name := "hashIsZero", type := .boolean, accessFlags := 2, slot := 3, constantValue := 0 }, { name := "serialVersionUID", type := .long, accessFlags := 26, slot := 0, constantValue := 0 }, { name := "COMPACT_STRINGS", type := .boolean, accessFlags := 24, slot := 1, constantValue := 0 }, { name := "serialPersistentFields", type := (.array (.object "java/io/ObjectStreamField")), accessFlags := 26, slot := 2, constantValue := 0 }, { name := "REPL", type := .char, accessFlags := 26, slot := 3, constantValue := 0 }, { name := "CASE_INSENSITIVE_ORDER", type := (.object "java/util/Comparator"), accessFlags := 25, slot := 4, constantValue := 0 }, { name := "LATIN1", type := .byte, accessFlags := 24, slot := 5, constantValue := 0 }, { name := "UTF16", type := .byte, accessFlags := 24, slot := 6, constantValue := 0 }]
  methods := #[k7m0, k7m1, k7m2, k7m3]
  instanceTypes := #[(.array .byte), .byte, .int, .boolean]
  staticTypes := #[.long, .boolean, (.array (.object "java/io/ObjectStreamField")), .char, (.object "java/util/Comparator"), .byte, .byte]
  resolved := Array.replicate 1451 none
  statics := some 0 }

def pool8 : Array CpInfo := pool [(1, .class_ 2), (0, u "java/lang/String"), (1, .class_ 6), (1, u "java/lang/Object"), (0, u "<init>"), (0, u "()V"), (0, .methodref 1 10), (0, .nameAndType 11 12), (0, u "checkIndex"), (0, u "(II)V"), (1, .class_ 16), (1, u "java/lang/StringLatin1"), (36, u "([BI)C"), (67, u "$assertionsDisabled"), (0, u "Z"), (98, .class_ 223), (1, u "java/lang/StringLatin1$LinesSpliterator"), (28, u "charAt"), (137, .class_ 391), (0, u "java/lang/StringLatin1$CharsSpliterator")] 3

def k8m0 : Method := { name := "<init>", desc := "()V", sig := { parameters := [], returnType := none }, accessFlags := 0, code := none }
def k8c1 : Code := { maxStack := 2, maxLocals := 2, code := jdk_43_method_2_code, exceptionTable := #[], attributes := #[] }
def k8m1 : Method := { name := "charAt", desc := "([BI)C", sig := { parameters := [(.array .byte), .int], returnType := some .char }, accessFlags := 9, code := some k8c1 }
/-- java/lang/StringLatin1 -/
def k8 : Class := { plain "java/lang/StringLatin1" (some 0) with
  accessFlags := 48
  interfaces := #[]
  cf := some (fileOf pool8 14 #[.nestMembers #[390, 221]] #[{ accessFlags := 0, nameIndex := 7, descriptorIndex := 8, attributes := #[] }, { accessFlags := 9, nameIndex := 252, descriptorIndex := 53, attributes := #[] }] 48 4 #[] #[{ accessFlags := 4120, nameIndex := 121, descriptorIndex := 122, attributes := #[] }])
  fields := #[{ name := "$assertionsDisabled", type := .boolean, accessFlags := 4120, slot := 0, constantValue := 0 }]
  methods := #[k8m0, k8m1]
  instanceTypes := #[]
  staticTypes := #[.boolean]
  resolved := Array.replicate 395 none
  statics := none }

def pool9 : Array CpInfo := pool [(2, .class_ 4), (1, u "java/lang/Object"), (0, u "<init>"), (0, u "()V"), (17, .class_ 26), (1, u "jdk/internal/util/Preconditions"), (6, u "checkIndex"), (21, .class_ 56), (0, u "jdk/internal/util/Preconditions$4"), (57, .class_ 115), (0, u "jdk/internal/util/Preconditions$1"), (7, u "SIOOBE_FORMATTER"), (0, u "Ljava/util/function/BiFunction;"), (0, .class_ 126), (0, u "jdk/internal/util/Preconditions$2"), (3, u "AIOOBE_FORMATTER"), (0, .class_ 132), (0, u "jdk/internal/util/Preconditions$3"), (3, u "IOOBE_FORMATTER"), (41, u "(IILjava/util/function/BiFunction;)I")] 15

def k9m0 : Method := { name := "<init>", desc := "()V", sig := { parameters := [], returnType := none }, accessFlags := 1, code := none }
def k9c1 : Code := { maxStack := 3, maxLocals := 3, code := jdk_41_method_11_code, exceptionTable := #[], attributes := #[] }
def k9m1 : Method := { name := "checkIndex", desc := "(IILjava/util/function/BiFunction;)I", sig := { parameters := [.int, .int, (.object "java/util/function/BiFunction")], returnType := some .int }, accessFlags := 9, code := some k9c1 }
/-- jdk/internal/util/Preconditions -/
def k9 : Class := { plain "jdk/internal/util/Preconditions" (some 0) with
  accessFlags := 33
  interfaces := #[]
  cf := some (fileOf pool9 24 #[.nestMembers #[55, 131, 125, 114]] #[{ accessFlags := 1, nameIndex := 5, descriptorIndex := 6, attributes := #[] }, { accessFlags := 9, nameIndex := 33, descriptorIndex := 178, attributes := #[] }] 33 2 #[] #[{ accessFlags := 25, nameIndex := 123, descriptorIndex := 124, attributes := #[] }, { accessFlags := 25, nameIndex := 130, descriptorIndex := 124, attributes := #[] }, { accessFlags := 25, nameIndex := 136, descriptorIndex := 124, attributes := #[] }])
  fields := #[{ name := "SIOOBE_FORMATTER", type := (.object "java/util/function/BiFunction"), accessFlags := 25, slot := 0, constantValue := 0 }, { name := "AIOOBE_FORMATTER", type := (.object "java/util/function/BiFunction"), accessFlags := 25, slot := 1, constantValue := 0 }, { name := "IOOBE_FORMATTER", type := (.object "java/util/function/BiFunction"), accessFlags := 25, slot := 2, constantValue := 0 }]
  methods := #[k9m0, k9m1]
  instanceTypes := #[]
  staticTypes := #[(.object "java/util/function/BiFunction"), (.object "java/util/function/BiFunction"), (.object "java/util/function/BiFunction")]
  resolved := Array.replicate 194 none
  statics := some 1 }

def pool10 : Array CpInfo := pool [(2, .class_ 4), (1, u "java/lang/Object"), (0, u "<init>"), (0, u "()V"), (0, .class_ 8), (0, u "java/lang/Record")] 13

def k10m0 : Method := { name := "<init>", desc := "()V", sig := { parameters := [], returnType := none }, accessFlags := 4, code := none }
/-- java/lang/Record -/
def k10 : Class := { plain "java/lang/Record" (some 0) with
  accessFlags := 1057
  interfaces := #[]
  cf := some (fileOf pool10 7 #[] #[{ accessFlags := 4, nameIndex := 5, descriptorIndex := 6, attributes := #[] }] 1057 2 #[] #[])
  fields := #[]
  methods := #[k10m0]
  instanceTypes := #[]
  staticTypes := #[]
  resolved := Array.replicate 22 none
  statics := none }

def pool11 : Array CpInfo := pool [(2, .class_ 4), (1, u "java/lang/Record"), (3, u "text"), (7, .class_ 18), (1, u "com/example/log_to_isles/logtoisles/model/NodeName"), (16, u "Ljava/lang/String;"), (19, .methodref 16 56), (0, .nameAndType 57 58), (0, u "isLowerAsciiLetterOrDigit"), (0, u "(I)Z"), (48, u "MAX_LENGTH"), (0, u "I"), (6, u "follows"), (0, u "([BII)Z")] 30

def k11c0 : Code := { maxStack := 2, maxLocals := 1, code := prog_11_method_3_code, exceptionTable := #[], attributes := #[] }
def k11m0 : Method := { name := "isLowerAsciiLetterOrDigit", desc := "(I)Z", sig := { parameters := [.int], returnType := some .boolean }, accessFlags := 10, code := some k11c0 }
def k11c1 : Code := { maxStack := 3, maxLocals := 4, code := prog_11_method_4_code, exceptionTable := #[], attributes := #[] }
def k11m1 : Method := { name := "follows", desc := "([BII)Z", sig := { parameters := [(.array .byte), .int, .int], returnType := some .boolean }, accessFlags := 9, code := some k11c1 }
/-- com/example/log_to_isles/logtoisles/model/NodeName -/
def k11 : Class := { plain "com/example/log_to_isles/logtoisles/model/NodeName" (some 10) with
  accessFlags := 49
  interfaces := #[]
  cf := some (fileOf pool11 16 #[] #[{ accessFlags := 10, nameIndex := 57, descriptorIndex := 58, attributes := #[] }, { accessFlags := 9, nameIndex := 115, descriptorIndex := 116, attributes := #[] }] 49 2 #[] #[{ accessFlags := 18, nameIndex := 8, descriptorIndex := 35, attributes := #[] }, { accessFlags := 25, nameIndex := 107, descriptorIndex := 108, attributes := #[] }])
  fields := #[{ name := "text", type := (.object "java/lang/String"), accessFlags := 18, slot := 0, constantValue := 0 }, { name := "MAX_LENGTH", type := .int, accessFlags := 25, slot := 0, constantValue := 0 }]
  methods := #[k11m0, k11m1]
  instanceTypes := #[(.object "java/lang/String")]
  staticTypes := #[.int]
  resolved := Array.replicate 147 none
  statics := none }

def pool12 : Array CpInfo := pool [(9, u "<init>"), (6, .class_ 18), (1, u "java/lang/Object"), (0, u "()V"), (1, .class_ 23), (1, u "jdk/internal/util/ArraysSupport"), (0, u "LOG2_ARRAY_LONG_INDEX_SCALE"), (0, u "I"), (2, u "U"), (0, u "Ljdk/internal/misc/Unsafe;"), (8, u "BIG_ENDIAN"), (0, u "Z"), (8, u "LOG2_BYTE_BIT_SIZE"), (4, u "LOG2_ARRAY_INT_INDEX_SCALE"), (54, u "JLA"), (0, u "Ljdk/internal/access/JavaLangAccess;"), (11, u "LOG2_ARRAY_BOOLEAN_INDEX_SCALE"), (9, u "LOG2_ARRAY_BYTE_INDEX_SCALE"), (5, u "LOG2_ARRAY_CHAR_INDEX_SCALE"), (5, u "LOG2_ARRAY_SHORT_INDEX_SCALE"), (18, u "LOG2_ARRAY_FLOAT_INDEX_SCALE"), (24, u "LOG2_ARRAY_DOUBLE_INDEX_SCALE"), (89, u "T_BOOLEAN"), (2, u "T_CHAR"), (1, u "T_FLOAT"), (1, u "T_DOUBLE"), (1, u "T_BYTE"), (1, u "T_SHORT"), (1, u "T_INT"), (1, u "T_LONG"), (1, u "SOFT_MAX_ARRAY_LENGTH")] 83

def k12m0 : Method := { name := "<init>", desc := "()V", sig := { parameters := [], returnType := none }, accessFlags := 2, code := none }
/-- jdk/internal/util/ArraysSupport -/
def k12 : Class := { plain "jdk/internal/util/ArraysSupport" (some 0) with
  accessFlags := 33
  interfaces := #[]
  cf := some (fileOf pool12 21 #[] #[{ accessFlags := 2, nameIndex := 9, descriptorIndex := 19, attributes := #[] }] 33 16 #[] #[{ accessFlags := 24, nameIndex := 28, descriptorIndex := 29, attributes := #[] }, { accessFlags := 26, nameIndex := 38, descriptorIndex := 39, attributes := #[] }, { accessFlags := 25, nameIndex := 121, descriptorIndex := 25, attributes := #[] }, { accessFlags := 25, nameIndex := 131, descriptorIndex := 25, attributes := #[] }, { accessFlags := 25, nameIndex := 137, descriptorIndex := 25, attributes := #[] }, { accessFlags := 25, nameIndex := 143, descriptorIndex := 25, attributes := #[] }, { accessFlags := 25, nameIndex := 53, descriptorIndex := 25, attributes := #[] }, { accessFlags := 25, nameIndex := 24, descriptorIndex := 25, attributes := #[] }, { accessFlags := 25, nameIndex := 162, descriptorIndex := 25, attributes := #[] }, { accessFlags := 25, nameIndex := 187, descriptorIndex := 25, attributes := #[] }, { accessFlags := 26, nameIndex := 48, descriptorIndex := 25, attributes := #[] }, { accessFlags := 25, nameIndex := 277, descriptorIndex := 25, attributes := #[] }, { accessFlags := 25, nameIndex := 280, descriptorIndex := 25, attributes := #[] }, { accessFlags := 25, nameIndex := 282, descriptorIndex := 25, attributes := #[] }, { accessFlags := 25, nameIndex := 284, descriptorIndex := 25, attributes := #[] }, { accessFlags := 25, nameIndex := 286, descriptorIndex := 25, attributes := #[] }, { accessFlags := 25, nameIndex := 288, descriptorIndex := 25, attributes := #[] }, { accessFlags := 25, nameIndex := 290, descriptorIndex := 25, attributes := #[] }, { accessFlags := 25, nameIndex := 292, descriptorIndex := 25, attributes := #[] }, { accessFlags := 26, nameIndex := 108, descriptorIndex := 109, attributes := #[] }, { accessFlags := 25, nameIndex := 294, descriptorIndex := 25, attributes := #[] }])
  fields := #[{ name := "U", type := (.object "jdk/internal/misc/Unsafe"), accessFlags := 24, slot := 0, constantValue := 0 }, { name := "BIG_ENDIAN", type := .boolean, accessFlags := 26, slot := 1, constantValue := 0 }, { name := "LOG2_ARRAY_BOOLEAN_INDEX_SCALE", type := .int, accessFlags := 25, slot := 2, constantValue := 0 }, { name := "LOG2_ARRAY_BYTE_INDEX_SCALE", type := .int, accessFlags := 25, slot := 3, constantValue := 0 }, { name := "LOG2_ARRAY_CHAR_INDEX_SCALE", type := .int, accessFlags := 25, slot := 4, constantValue := 0 }, { name := "LOG2_ARRAY_SHORT_INDEX_SCALE", type := .int, accessFlags := 25, slot := 5, constantValue := 0 }, { name := "LOG2_ARRAY_INT_INDEX_SCALE", type := .int, accessFlags := 25, slot := 6, constantValue := 0 }, { name := "LOG2_ARRAY_LONG_INDEX_SCALE", type := .int, accessFlags := 25, slot := 7, constantValue := 0 }, { name := "LOG2_ARRAY_FLOAT_INDEX_SCALE", type := .int, accessFlags := 25, slot := 8, constantValue := 0 }, { name := "LOG2_ARRAY_DOUBLE_INDEX_SCALE", type := .int, accessFlags := 25, slot := 9, constantValue := 0 }, { name := "LOG2_BYTE_BIT_SIZE", type := .int, accessFlags := 26, slot := 10, constantValue := 0 }, { name := "T_BOOLEAN", type := .int, accessFlags := 25, slot := 11, constantValue := 0 }, { name := "T_CHAR", type := .int, accessFlags := 25, slot := 12, constantValue := 0 }, { name := "T_FLOAT", type := .int, accessFlags := 25, slot := 13, constantValue := 0 }, { name := "T_DOUBLE", type := .int, accessFlags := 25, slot := 14, constantValue := 0 }, { name := "T_BYTE", type := .int, accessFlags := 25, slot := 15, constantValue := 0 }, { name := "T_SHORT", type := .int, accessFlags := 25, slot := 16, constantValue := 0 }, { name := "T_INT", type := .int, accessFlags := 25, slot := 17, constantValue := 0 }, { name := "T_LONG", type := .int, accessFlags := 25, slot := 18, constantValue := 0 }, { name := "JLA", type := (.object "jdk/internal/access/JavaLangAccess"), accessFlags := 26, slot := 19, constantValue := 0 }, { name := "SOFT_MAX_ARRAY_LENGTH", type := .int, accessFlags := 25, slot := 20, constantValue := 0 }]
  methods := #[k12m0]
  instanceTypes := #[]
  staticTypes := #[(.object "jdk/internal/misc/Unsafe"), .boolean, .int, .int, .int, .int, .int, .int, .int, .int, .int, .int, .int, .int, .int, .int, .int, .int, .int, (.object "jdk/internal/access/JavaLangAccess"), .int]
  resolved := Array.replicate 378 none
  statics := none }

def pool13 : Array CpInfo := pool [(1, u "java/lang/Cloneable"), (0, .class_ 1), (0, u "java/lang/Object"), (0, .class_ 3)] 3

/-- java/lang/Cloneable -/
def k13 : Class := { plain "java/lang/Cloneable" (some 0) with
  accessFlags := 1537
  interfaces := #[]
  cf := some (fileOf pool13 2 #[] #[] 1537 4 #[] #[])
  fields := #[]
  methods := #[]
  instanceTypes := #[]
  staticTypes := #[]
  resolved := Array.replicate 8 none
  statics := none }

/-- the primitive byte -/
def k14 : Class := { plain "byte" none with kind := .primitive 'B', accessFlags := 0x411 }
/-- [B -/
def k15 : Class := { plain "[B" (some 0) with kind := .array 14 .byte, interfaces := #[13, 2], accessFlags := 1041 }

/-- the primitive int -/
def k16 : Class := { plain "int" none with kind := .primitive 'I', accessFlags := 0x411 }
/-- [I -/
def k17 : Class := { plain "[I" (some 0) with kind := .array 16 .int, interfaces := #[13, 2], accessFlags := 1041 }

def heap : Heap := #[{ cls := 7, slots := #[.long 0, .int 1, .null, .int 0, .null, .int 0, .int 0], vm := .statics 7 },
  { cls := 9, slots := #[.null, .null, .null], vm := .statics 9 }]
def classes : Array Class := #[k0, k1, k2, k3, k4, k5, k6, k7, k8, k9, k10, k11, k12, k13, k14, k15, k16, k17]
def interned : List (Array UInt16 × Addr) := []
def slotsUsed : Nat := 10
def theMethod : MethodId := ⟨1, 4⟩
def args0 : Array Value := #[.long 5, .int 3, .int 2, .int 1, .int 4]
def aboutOver (below : List Frame) : State where
  vm := { classes := classes, interned := interned.toArray }
  heap := heap
  slotsUsed := slotsUsed
  threads := #[{ frames := .invoking theMethod args0 :: below }]
def below0 : List Frame := [.native { method := ⟨0, 0⟩, args := #[] }]
def about1 : State := aboutOver below0
def p0 : Program := .bare "" "" ""
def e0 : Env := launch0.env 0 0 0
theorem w_frames : about1.frames = Frame.invoking theMethod args0 :: below0 := rfl
set_option maxRecDepth 65536 in
theorem w_args : argsFit about1.vm theMethod args0 = true := by decide +kernel
set_option maxRecDepth 65536 in
theorem w_heap : heapFits about1 = true := by decide +kernel
set_option maxRecDepth 65536 in
theorem w_runnable : about1.curStatus? = some .runnable := by decide +kernel
set_option maxRecDepth 65536 in
theorem w_alone : about1.alone = true := by decide +kernel
set_option maxRecDepth 65536 in
theorem w_named : about1.methodNamed? x = some theMethod := by decide +kernel
set_option maxRecDepth 65536 in
theorem w_hears : about1.hears theMethod below0 = true := by decide +kernel
set_option maxRecDepth 65536 in
theorem w_ripe : about1.ripe theMethod args0 below0 = true := by decide +kernel
theorem w_running : about1.status = .running := rfl
set_option maxRecDepth 65536 in
theorem w_room : about1.hasRoom e0.platform room_1 = true :=
  launch0.hasRoom_least _ room_1 (by decide +kernel) (by decide +kernel) (by decide +kernel) (by decide +kernel) (by decide +kernel) (by decide +kernel)
theorem allAtoms_all (ts : List Jvm.Cond) (a : Array Jvm.Value) (st : Jvm.State) : (allAtoms ts).before a st = ts.all (fun c => c.before a st) := by
  induction ts with
  | nil => rfl
  | cons c t ih =>
    show (Jvm.Cond.and c (allAtoms t)).before a st = _
    rw [Jvm.Cond.before_and, ih, List.all_cons]
def words1 : List Jvm.Cond := Jvm.Cond.code x code maxLocals ret :: tables_1
/-- a 'code' word, met by the world's own term for the bytes: nothing is compared byte by byte -/
theorem code_word {y : MethodName} {bytes : ByteArray} {mx : Nat} {rt : Option FieldType} {a : Array Value} {s : State} {m : MethodId} {meth : Method} {c : Code} (h1 : s.methodNamed? y = some m) (h2 : s.vm.method? m = some meth) (h3 : meth.code = some c) (h4 : c.code = bytes)
    (h5 : (c.maxLocals == mx && c.exceptionTable.isEmpty && decide (c.maxStack ≤ mostOperands) && decide (meth.sig.returnType = rt) && !meth.locks && decide (parseMethodDescriptor y.desc = some meth.sig)) = true) : (Jvm.Cond.code y bytes mx rt).before a s = true := by
  simp only [Bool.and_eq_true, beq_iff_eq, Bool.not_eq_true', decide_eq_true_eq] at h5
  obtain ⟨⟨⟨⟨⟨g1, g2⟩, g3⟩, g4⟩, g5⟩, g6⟩ := h5
  simp [Cond.before, Cond.holds, Cond.value, h1, h2, h3, h4, g1, g2, g3, g4, g5, g6]
def isCode : Jvm.Cond → Bool
  | .code _ _ _ _ => true
  | _ => false
theorem all_split {L : List Jvm.Cond} {P : Jvm.Cond → Bool} (h1 : L.all (fun c => isCode c || P c) = true) (h2 : ∀ c ∈ L.filter isCode, P c = true) : L.all P = true := by
  refine List.all_eq_true.mpr fun c hc => ?_
  have h := List.all_eq_true.mp h1 c hc
  rcases Bool.eq_false_or_eq_true (isCode c) with hi | hi
  · exact h2 c (List.mem_filter.mpr ⟨hc, hi⟩)
  · simpa [hi] using h
set_option maxRecDepth 65536 in
theorem w_c0 : (Jvm.Cond.code x code maxLocals ret).before args0 about1 = true := code_word (m := ⟨1, 4⟩) (meth := k1m4) (c := k1c4) (by decide +kernel) rfl rfl rfl (by decide +kernel)
set_option maxRecDepth 65536 in
theorem w_c1 : (Jvm.Cond.code ({ cls := "com/example/log_to_isles/logtoisles/model/NodeNameFollowsPinLaw", name := "pick", desc := "(IZ)B" } : Jvm.MethodName) method_2_code (3 : Nat) (Option.some Jvm.ClassFile.FieldType.byte)).before args0 about1 = true := code_word (m := ⟨1, 1⟩) (meth := k1m1) (c := k1c1) (by decide +kernel) rfl rfl rfl (by decide +kernel)
set_option maxRecDepth 65536 in
theorem w_c2 : (Jvm.Cond.code ({ cls := "java/lang/String", name := "charAt", desc := "(I)C" } : Jvm.MethodName) jdk_42_method_56_code (2 : Nat) (Option.some Jvm.ClassFile.FieldType.char)).before args0 about1 = true := code_word (m := ⟨7, 1⟩) (meth := k7m1) (c := k7c1) (by decide +kernel) rfl rfl rfl (by decide +kernel)
set_option maxRecDepth 65536 in
theorem w_c3 : (Jvm.Cond.code ({ cls := "java/lang/String", name := "isLatin1", desc := "()Z" } : Jvm.MethodName) jdk_42_method_154_code (1 : Nat) (Option.some Jvm.ClassFile.FieldType.boolean)).before args0 about1 = true := code_word (m := ⟨7, 2⟩) (meth := k7m2) (c := k7c2) (by decide +kernel) rfl rfl rfl (by decide +kernel)
set_option maxRecDepth 65536 in
theorem w_c4 : (Jvm.Cond.code ({ cls := "java/lang/StringLatin1", name := "charAt", desc := "([BI)C" } : Jvm.MethodName) jdk_43_method_2_code (2 : Nat) (Option.some Jvm.ClassFile.FieldType.char)).before args0 about1 = true := code_word (m := ⟨8, 1⟩) (meth := k8m1) (c := k8c1) (by decide +kernel) rfl rfl rfl (by decide +kernel)
set_option maxRecDepth 65536 in
theorem w_c5 : (Jvm.Cond.code ({ cls := "java/lang/String", name := "checkIndex", desc := "(II)V" } : Jvm.MethodName) jdk_42_method_155_code (2 : Nat) (Option.none : Option Jvm.ClassFile.FieldType)).before args0 about1 = true := code_word (m := ⟨7, 3⟩) (meth := k7m3) (c := k7c3) (by decide +kernel) rfl rfl rfl (by decide +kernel)
set_option maxRecDepth 65536 in
theorem w_c6 : (Jvm.Cond.code ({ cls := "jdk/internal/util/Preconditions", name := "checkIndex", desc := "(IILjava/util/function/BiFunction;)I" } : Jvm.MethodName) jdk_41_method_11_code (3 : Nat) (Option.some Jvm.ClassFile.FieldType.int)).before args0 about1 = true := code_word (m := ⟨9, 1⟩) (meth := k9m1) (c := k9c1) (by decide +kernel) rfl rfl rfl (by decide +kernel)
set_option maxRecDepth 65536 in
theorem w_c7 : (Jvm.Cond.code ({ cls := "com/example/log_to_isles/logtoisles/model/NodeNameFollowsPinLaw", name := "okAt", desc := "([BIII)Z" } : Jvm.MethodName) method_4_code (4 : Nat) (Option.some Jvm.ClassFile.FieldType.boolean)).before args0 about1 = true := code_word (m := ⟨1, 3⟩) (meth := k1m3) (c := k1c3) (by decide +kernel) rfl rfl rfl (by decide +kernel)
set_option maxRecDepth 65536 in
theorem w_c8 : (Jvm.Cond.code ({ cls := "com/example/log_to_isles/logtoisles/model/NodeNameFollowsPinLaw", name := "valid", desc := "(B)Z" } : Jvm.MethodName) method_3_code (2 : Nat) (Option.some Jvm.ClassFile.FieldType.boolean)).before args0 about1 = true := code_word (m := ⟨1, 2⟩) (meth := k1m2) (c := k1c2) (by decide +kernel) rfl rfl rfl (by decide +kernel)
set_option maxRecDepth 65536 in
theorem w_c9 : (Jvm.Cond.code ({ cls := "com/example/log_to_isles/logtoisles/model/NodeName", name := "follows", desc := "([BII)Z" } : Jvm.MethodName) prog_11_method_4_code (4 : Nat) (Option.some Jvm.ClassFile.FieldType.boolean)).before args0 about1 = true := code_word (m := ⟨11, 1⟩) (meth := k11m1) (c := k11c1) (by decide +kernel) rfl rfl rfl (by decide +kernel)
set_option maxRecDepth 65536 in
theorem w_c10 : (Jvm.Cond.code ({ cls := "com/example/log_to_isles/logtoisles/model/NodeName", name := "isLowerAsciiLetterOrDigit", desc := "(I)Z" } : Jvm.MethodName) prog_11_method_3_code (1 : Nat) (Option.some Jvm.ClassFile.FieldType.boolean)).before args0 about1 = true := code_word (m := ⟨11, 0⟩) (meth := k11m0) (c := k11c0) (by decide +kernel) rfl rfl rfl (by decide +kernel)
def codes1 : List Jvm.Cond := [Jvm.Cond.code x code maxLocals ret, Jvm.Cond.code ({ cls := "com/example/log_to_isles/logtoisles/model/NodeNameFollowsPinLaw", name := "pick", desc := "(IZ)B" } : Jvm.MethodName) method_2_code (3 : Nat) (Option.some Jvm.ClassFile.FieldType.byte), Jvm.Cond.code ({ cls := "java/lang/String", name := "charAt", desc := "(I)C" } : Jvm.MethodName) jdk_42_method_56_code (2 : Nat) (Option.some Jvm.ClassFile.FieldType.char), Jvm.Cond.code ({ cls := "java/lang/String", name := "isLatin1", desc := "()Z" } : Jvm.MethodName) jdk_42_method_154_code (1 : Nat) (Option.some Jvm.ClassFile.FieldType.boolean), Jvm.Cond.code ({ cls := "java/lang/StringLatin1", name := "charAt", desc := "([BI)C" } : Jvm.MethodName) jdk_43_method_2_code (2 : Nat) (Option.some Jvm.ClassFile.FieldType.char), Jvm.Cond.code ({ cls := "java/lang/String", name := "checkIndex", desc := "(II)V" } : Jvm.MethodName) jdk_42_method_155_code (2 : Nat) (Option.none : Option Jvm.ClassFile.FieldType), Jvm.Cond.code ({ cls := "jdk/internal/util/Preconditions", name := "checkIndex", desc := "(IILjava/util/function/BiFunction;)I" } : Jvm.MethodName) jdk_41_method_11_code (3 : Nat) (Option.some Jvm.ClassFile.FieldType.int), Jvm.Cond.code ({ cls := "com/example/log_to_isles/logtoisles/model/NodeNameFollowsPinLaw", name := "okAt", desc := "([BIII)Z" } : Jvm.MethodName) method_4_code (4 : Nat) (Option.some Jvm.ClassFile.FieldType.boolean), Jvm.Cond.code ({ cls := "com/example/log_to_isles/logtoisles/model/NodeNameFollowsPinLaw", name := "valid", desc := "(B)Z" } : Jvm.MethodName) method_3_code (2 : Nat) (Option.some Jvm.ClassFile.FieldType.boolean), Jvm.Cond.code ({ cls := "com/example/log_to_isles/logtoisles/model/NodeName", name := "follows", desc := "([BII)Z" } : Jvm.MethodName) prog_11_method_4_code (4 : Nat) (Option.some Jvm.ClassFile.FieldType.boolean), Jvm.Cond.code ({ cls := "com/example/log_to_isles/logtoisles/model/NodeName", name := "isLowerAsciiLetterOrDigit", desc := "(I)Z" } : Jvm.MethodName) prog_11_method_3_code (1 : Nat) (Option.some Jvm.ClassFile.FieldType.boolean)]
set_option maxRecDepth 65536 in
theorem codes_eq : words1.filter isCode = codes1 := rfl
theorem w_codes : ∀ c ∈ words1.filter isCode, c.before args0 about1 = true := by
  rw [codes_eq]
  intro c hc
  simp only [codes1, List.mem_cons, List.not_mem_nil, or_false] at hc
  rcases hc with rfl | rfl | rfl | rfl | rfl | rfl | rfl | rfl | rfl | rfl | rfl
  · exact w_c0
  · exact w_c1
  · exact w_c2
  · exact w_c3
  · exact w_c4
  · exact w_c5
  · exact w_c6
  · exact w_c7
  · exact w_c8
  · exact w_c9
  · exact w_c10
set_option maxRecDepth 65536 in
theorem w_t1 : (words1.take 24).all (fun c => isCode c || c.before args0 about1) = true := by decide +kernel
set_option maxRecDepth 65536 in
theorem w_t2 : ((words1.drop 24).take 24).all (fun c => isCode c || c.before args0 about1) = true := by decide +kernel
set_option maxRecDepth 65536 in
theorem w_t3 : ((words1.drop 24).drop 24).all (fun c => isCode c || c.before args0 about1) = true := by decide +kernel
theorem w_tables : (allAtoms (Jvm.Cond.code x code maxLocals ret :: tables_1)).before args0 about1 = true := by
  rw [allAtoms_all]
  show words1.all (fun c => c.before args0 about1) = true
  refine all_split ?_ w_codes
  rw [← List.take_append_drop 24 words1, List.all_append, w_t1, ← List.take_append_drop 24 (words1.drop 24), List.all_append, w_t2, w_t3]
  rfl
set_option maxRecDepth 65536 in
theorem w_rest : rest_1_c.before args0 about1 = true := by decide +kernel
set_option maxRecDepth 65536 in
theorem w_case : (Jvm.Cond.and given_1 narrow_1).before args0 about1 = true := by decide +kernel
set_option maxRecDepth 65536 in
theorem w_consts : constsHeld consts_1 about1 := Jvm.Lit.constsHeldB_iff.mp (by decide +kernel)
theorem w_applies : (headSpec (Jvm.Cond.code x code maxLocals ret :: tables_1) room_1).applies x e0.platform about1 = true :=
  (Spec.applies_iff w_frames).mpr ⟨w_running, w_runnable, w_alone, w_named, w_hears, w_ripe, w_room, w_tables⟩
theorem atStart : AtStart classFile x code maxLocals ret World_1 tables_1 room_1 Calls_1 rest_1 Pre_1 launch0 p0 e0 about1 theMethod args0 below0 :=
  ⟨lists_1, trivial, launch0.admits_env _ _ _, launch0.least_env, fairChoices_fair.cas, fairChoices_fair.clock, w_frames, w_args, w_heap, w_applies, ⟨w_consts, trivial⟩, w_rest, w_case⟩
end start1
theorem witness_1 : WitnessClaimed_1 := ⟨start1.p0, start1.e0, start1.about1, start1.theMethod, start1.args0, start1.below0, start1.atStart⟩
end Jvm.Pilot.@@N@@
