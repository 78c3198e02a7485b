import PyProof.Rows.All
import Wide.All
import OpenK.AllK
import Wide.FinOn
import PySem.Challenge.RW_mr0003_01
open PySem PySem.W PyProof.Rows
set_option Elab.async false
set_option maxRecDepth 100000
set_option maxHeartbeats 8000000
set_option linter.unusedVariables false
set_option linter.unusedSimpArgs false
namespace Mine
open_top hd for PySem.Challenge.rw_mr0003_01
/-- the search: p tells whether a place's key is ahead of what is sought; none where there is no place -/
def bis (p : Int → Option Bool) (lo hi : Int) : Option Int :=
  if h : lo < hi then
    match p ((lo + hi).fdiv 2) with
    | none => none
    | some true => bis p ((lo + hi).fdiv 2 + 1) hi
    | some false => bis p lo ((lo + hi).fdiv 2)
  else some lo
termination_by (hi - lo).toNat
decreasing_by
  all_goals (rw [Int.fdiv_eq_ediv_of_nonneg _ (by omega)]; omega)

theorem bis_stop {p : Int → Option Bool} {lo hi : Int} (h : ¬ lo < hi) : bis p lo hi = some lo := by
  rw [bis, dif_neg h]
theorem bis_none {p : Int → Option Bool} {lo hi : Int} (h : lo < hi) (e : p ((lo + hi).fdiv 2) = none) : bis p lo hi = none := by
  rw [bis, dif_pos h, e]
theorem bis_true {p : Int → Option Bool} {lo hi : Int} (h : lo < hi) (e : p ((lo + hi).fdiv 2) = some true) : bis p lo hi = bis p ((lo + hi).fdiv 2 + 1) hi := by
  rw [bis, dif_pos h, e]
theorem bis_false {p : Int → Option Bool} {lo hi : Int} (h : lo < hi) (e : p ((lo + hi).fdiv 2) = some false) : bis p lo hi = bis p lo ((lo + hi).fdiv 2) := by
  rw [bis, dif_pos h, e]
theorem mid_lo {lo hi : Int} (h : lo < hi) : lo ≤ (lo + hi).fdiv 2 := by rw [Int.fdiv_eq_ediv_of_nonneg _ (by omega)]; omega
theorem mid_hi {lo hi : Int} (h : lo < hi) : (lo + hi).fdiv 2 < hi := by rw [Int.fdiv_eq_ediv_of_nonneg _ (by omega)]; omega
/-- at the place i of the keys: is it ahead (left: less; else: not greater) -/
def ahead (left : Bool) (κ : Int → Int) (ns : List Int) (x : Int) (i : Int) : Option Bool :=
  if 0 ≤ i then (ns[i.toNat]?).map (fun v => decide (κ v < x) || (decide (κ v = x) && !left)) else none
theorem ahead_out {left : Bool} {κ : Int → Int} {ns : List Int} {x i : Int} (h : (ns.length : Int) ≤ i) : ahead left κ ns x i = none := by
  unfold ahead
  split
  · rw [List.getElem?_eq_none (by omega)]; rfl
  · rfl
theorem ahead_in {left : Bool} {κ : Int → Int} {ns : List Int} {x i : Int} (h0 : 0 ≤ i) (h : i < (ns.length : Int)) :
    ahead left κ ns x i = some (decide (κ (ns.getD i.toNat 0) < x) || (decide (κ (ns.getD i.toNat 0) = x) && !left)) := by
  unfold ahead
  have hi : i.toNat < ns.length := by omega
  rw [if_pos h0, List.getD_eq_getElem?_getD, List.getElem?_eq_getElem hi]
  rfl
theorem ahead_left_t {κ : Int → Int} {ns : List Int} {x i : Int} (h0 : 0 ≤ i) (h : i < (ns.length : Int)) (c : κ (ns.getD i.toNat 0) < x) : ahead true κ ns x i = some true := by
  rw [ahead_in h0 h, decide_eq_true c]; rfl
theorem ahead_left_f {κ : Int → Int} {ns : List Int} {x i : Int} (h0 : 0 ≤ i) (h : i < (ns.length : Int)) (c : ¬ κ (ns.getD i.toNat 0) < x) : ahead true κ ns x i = some false := by
  rw [ahead_in h0 h, decide_eq_false c]; simp
theorem ahead_right_f {κ : Int → Int} {ns : List Int} {x i : Int} (h0 : 0 ≤ i) (h : i < (ns.length : Int)) (c : x < κ (ns.getD i.toNat 0)) : ahead false κ ns x i = some false := by
  rw [ahead_in h0 h, decide_eq_false (by omega), decide_eq_false (by omega)]; rfl
theorem ahead_right_t {κ : Int → Int} {ns : List Int} {x i : Int} (h0 : 0 ≤ i) (h : i < (ns.length : Int)) (c : ¬ x < κ (ns.getD i.toNat 0)) : ahead false κ ns x i = some true := by
  rw [ahead_in h0 h]
  by_cases e : κ (ns.getD i.toNat 0) < x
  · rw [decide_eq_true e]; rfl
  · rw [decide_eq_true (show κ (ns.getD i.toNat 0) = x by omega)]; simp
theorem bis_bounds {q : Int → Option Bool} {lo hi : Int} : ∀ r, bis q lo hi = some r → lo ≤ r ∧ (r ≤ lo ∨ r ≤ hi) := by
  fun_induction bis q lo hi with
  | case1 lo hi h e => intro r hr; cases hr
  | case2 lo hi h e ih =>
    intro r hr
    have := ih r hr
    have h1 := mid_lo h
    have h2 := mid_hi h
    omega
  | case3 lo hi h e ih =>
    intro r hr
    have := ih r hr
    have h1 := mid_lo h
    have h2 := mid_hi h
    omega
  | case4 lo hi h => intro r hr; cases hr; omega
/-- where the part of the word's level begins -/
def startOf (lo sz : Int) (word : Nat) : Nat → Int
  | 0 => lo
  | f + 1 => if ((word : Int).fdiv (2 ^ f)).fmod 2 = 1 then startOf lo sz word f + (((sz - (word : Int).fmod (2 ^ f)).fdiv (2 ^ f)).fdiv 2 + 1) else startOf lo sz word f
def countOf (sz : Int) (word level : Nat) : Int := (sz - (word : Int)).fdiv (2 ^ level)
def partOf (lo sz : Int) (level word : Nat) : List (Int × Int × Int) :=
  if countOf sz word level > 0 then [(startOf lo sz word level, startOf lo sz word level + (countOf sz word level).fdiv 2, startOf lo sz word level + countOf sz word level)] else []
/-- the parts of one level, the words below n -/
def partsLevel (lo sz : Int) (level : Nat) : Nat → List (Int × Int × Int)
  | 0 => []
  | n + 1 => partsLevel lo sz level n ++ partOf lo sz level n
/-- the parts of the levels below k -/
def partsUpTo (lo sz : Int) : Nat → List (Int × Int × Int)
  | 0 => []
  | k + 1 => partsUpTo lo sz k ++ partsLevel lo sz k (2 ^ k)
theorem partsLevel_length (lo sz : Int) (level : Nat) : ∀ n, (partsLevel lo sz level n).length ≤ n
  | 0 => Nat.le_refl _
  | n + 1 => by
    have := partsLevel_length lo sz level n
    rw [partsLevel, List.length_append, partOf]
    split
    · simp only [List.length_cons, List.length_nil]; omega
    · simp only [List.length_nil]; omega
theorem partsUpTo_length (lo sz : Int) : ∀ k, (partsUpTo lo sz k).length < 2 ^ k
  | 0 => by rw [partsUpTo]; exact Nat.one_pos
  | k + 1 => by
    have h1 := partsUpTo_length lo sz k
    have h2 := partsLevel_length lo sz k (2 ^ k)
    rw [partsUpTo, List.length_append, Nat.pow_succ]
    omega
theorem startOf_one {lo sz : Int} {wd f : Nat} (h : ((wd : Int).fdiv (2 ^ f)).fmod 2 = 1) : startOf lo sz wd (f + 1) = startOf lo sz wd f + (((sz - (wd : Int).fmod (2 ^ f)).fdiv (2 ^ f)).fdiv 2 + 1) := by rw [startOf, if_pos h]
theorem startOf_zero {lo sz : Int} {wd f : Nat} (h : ((wd : Int).fdiv (2 ^ f)).fmod 2 ≠ 1) : startOf lo sz wd (f + 1) = startOf lo sz wd f := by rw [startOf, if_neg h]
inductive Way where
  | yes | no | beyond
  deriving DecidableEq
/-- what _law_goes tells of a gap -/
def goes (ab : List Bool) (gap : Int) : List (Int × Int × Int) → Way
  | [] => .yes
  | t :: ts =>
    if t.1 ≤ gap ∧ gap ≤ t.2.2 then
      if (ab.length : Int) ≤ t.2.1 then .beyond
      else if ab.getD t.2.1.toNat false ≠ decide (t.2.1 < gap) then .no
      else goes ab gap ts
    else goes ab gap ts
section
variable {ab : List Bool} {gap : Int} {ts : List (Int × Int × Int)} {i : Nat}
theorem goes_off (hi : i < ts.length) (h : ¬ (ts[i].1 ≤ gap ∧ gap ≤ ts[i].2.2)) : goes ab gap (ts.drop i) = goes ab gap (ts.drop (i + 1)) := by
  rw [List.drop_eq_getElem_cons hi, goes, if_neg h]
theorem goes_beyond (hi : i < ts.length) (h : ts[i].1 ≤ gap ∧ gap ≤ ts[i].2.2) (hl : (ab.length : Int) ≤ ts[i].2.1) : goes ab gap (ts.drop i) = .beyond := by
  rw [List.drop_eq_getElem_cons hi, goes, if_pos h, if_pos hl]
theorem goes_no (hi : i < ts.length) (h : ts[i].1 ≤ gap ∧ gap ≤ ts[i].2.2) (hl : ¬ (ab.length : Int) ≤ ts[i].2.1) (hb : ab.getD ts[i].2.1.toNat false ≠ decide (ts[i].2.1 < gap)) : goes ab gap (ts.drop i) = .no := by
  rw [List.drop_eq_getElem_cons hi, goes, if_pos h, if_neg hl, if_pos hb]
theorem goes_on (hi : i < ts.length) (h : ts[i].1 ≤ gap ∧ gap ≤ ts[i].2.2) (hl : ¬ (ab.length : Int) ≤ ts[i].2.1) (hb : ab.getD ts[i].2.1.toNat false = decide (ts[i].2.1 < gap)) : goes ab gap (ts.drop i) = goes ab gap (ts.drop (i + 1)) := by
  rw [List.drop_eq_getElem_cons hi, goes, if_pos h, if_neg hl, if_neg (fun z => z hb)]
end
/-- what _law_bound gives -/
def boundOf (x n : Int) : Option Int :=
  if (x.fdiv (n + 1)).fmod (2 * n + 3) = 2 * n + 2 then none
  else if (x.fdiv (n + 1)).fmod (2 * n + 3) = 2 * n + 1 then some (-1 - x.fdiv (n + 1))
  else some ((x.fdiv (n + 1)).fmod (2 * n + 3))
/-- lo of a place's number -/
def lowOf (x n : Int) : Int := if x < 0 then x else x.fmod (n + 1)
def endOf (x n : Int) : Int := (boundOf x n).getD n
theorem low_le {x n : Int} (h0 : 0 ≤ n) (h1 : n ≤ 12) : lowOf x n ≤ 12 := by
  unfold lowOf
  split
  · omega
  · have := Int.fmod_lt_of_pos x (show 0 < n + 1 by omega)
    omega
theorem end_le {x n : Int} (h0 : 0 ≤ n) (h1 : n ≤ 12) (h : 0 ≤ lowOf x n) : endOf x n ≤ 24 := by
  have hx : ¬ x < 0 := by
    intro hx
    rw [lowOf, if_pos hx] at h
    omega
  have hq : 0 ≤ x.fdiv (n + 1) := Int.fdiv_nonneg (by omega) (by omega)
  have hm := Int.fmod_lt_of_pos (x.fdiv (n + 1)) (show 0 < 2 * n + 3 by omega)
  unfold endOf boundOf
  split
  · show n ≤ 24; omega
  · split
    · show -1 - x.fdiv (n + 1) ≤ 24; omega
    · show (x.fdiv (n + 1)).fmod (2 * n + 3) ≤ 24; omega
/-- what the law reckons as above -/
def abOf (left : Bool) (κ : Int → Int) (ns : List Int) (x : Int) : List Bool := ns.map fun v => decide (κ v < x) || (decide (κ v = x) && !left)
theorem fdiv_two_pow (a : Int) (k : Nat) : a.fdiv (2 ^ k) = a / 2 ^ k := Int.fdiv_eq_ediv_of_nonneg _ (Int.le_of_lt (Int.pow_pos (by omega)))
theorem fmod_two_pow (a : Int) (k : Nat) : a.fmod (2 ^ k) = a % 2 ^ k := Int.fmod_eq_emod_of_nonneg _ (Int.le_of_lt (Int.pow_pos (by omega)))
/-- of a level's word the figures below that level alone count -/
theorem startOf_low {lo sz : Int} {w : Nat} : ∀ k, startOf lo sz (w + 2 ^ k) k = startOf lo sz w k := by
  intro k
  have key : ∀ f, f ≤ k → startOf lo sz (w + 2 ^ k) f = startOf lo sz w f := by
    intro f
    induction f with
    | zero => intro _; rfl
    | succ f ih =>
      intro hf
      obtain ⟨d, hd⟩ : ∃ d, k = f + 1 + d := ⟨k - (f + 1), by omega⟩
      have e1 : (((w + 2 ^ k : Nat) : Int)) = (w : Int) + 2 ^ f * (2 * 2 ^ d) := by
        rw [hd, Nat.pow_add, Nat.pow_succ]
        push_cast
        rw [Int.mul_assoc]
      have hp : (0 : Int) < 2 ^ f := Int.pow_pos (by omega)
      have e2 : (((w + 2 ^ k : Nat) : Int)).fdiv (2 ^ f) = (w : Int).fdiv (2 ^ f) + 2 * 2 ^ d := by
        rw [e1, fdiv_two_pow, fdiv_two_pow, Int.add_mul_ediv_left _ _ (by omega)]
      have e3 : (((w + 2 ^ k : Nat) : Int)).fmod (2 ^ f) = (w : Int).fmod (2 ^ f) := by
        rw [e1, fmod_two_pow, fmod_two_pow, Int.add_mul_emod_self_left]
      have e4 : (((w + 2 ^ k : Nat) : Int).fdiv (2 ^ f)).fmod 2 = ((w : Int).fdiv (2 ^ f)).fmod 2 := by
        rw [e2, Int.fmod_eq_emod_of_nonneg _ (by omega), Int.fmod_eq_emod_of_nonneg _ (by omega), Int.add_mul_emod_self_left]
      rw [startOf, startOf, e3, e4, ih (by omega)]
  exact key k (Nat.le_refl k)
section
variable {lo sz : Int}
theorem pow_pos2 (k : Nat) : (0 : Int) < 2 ^ k := Int.pow_pos (by omega)
theorem count_half (w k : Nat) : countOf sz w (k + 1) = countOf sz w k / 2 := by
  unfold countOf
  rw [fdiv_two_pow, fdiv_two_pow, Int.pow_succ, Int.ediv_ediv_of_nonneg (Int.le_of_lt (pow_pos2 k))]
theorem count_right (w k : Nat) : countOf sz (w + 2 ^ k) (k + 1) = (countOf sz w k - 1) / 2 := by
  unfold countOf
  rw [fdiv_two_pow, fdiv_two_pow, Int.pow_succ, ← Int.ediv_ediv_of_nonneg (Int.le_of_lt (pow_pos2 k))]
  have e : sz - ((w + 2 ^ k : Nat) : Int) = sz - (w : Int) + 2 ^ k * (-1) := by push_cast; omega
  rw [e, Int.add_mul_ediv_left _ _ (Int.ne_of_gt (pow_pos2 k))]
  rfl
theorem bit_off {w k : Nat} (h : w < 2 ^ k) : ((w : Int).fdiv (2 ^ k)).fmod 2 ≠ 1 := by
  rw [fdiv_two_pow, Int.ediv_eq_zero_of_lt (by omega) (by have : ((w : Nat) : Int) < ((2 ^ k : Nat) : Int) := by omega
                                                          simpa using this)]
  decide
theorem bit_on {w k : Nat} (h : w < 2 ^ k) : (((w + 2 ^ k : Nat) : Int).fdiv (2 ^ k)).fmod 2 = 1 := by
  have hw : ((w : Nat) : Int) < 2 ^ k := by
    have : ((w : Nat) : Int) < ((2 ^ k : Nat) : Int) := by omega
    simpa using this
  have e : (((w + 2 ^ k : Nat) : Int)) = (w : Int) + 2 ^ k * 1 := by push_cast; omega
  rw [e, fdiv_two_pow, Int.add_mul_ediv_left _ _ (Int.ne_of_gt (pow_pos2 k)), Int.ediv_eq_zero_of_lt (by omega) hw]
  decide
theorem start_left {w k : Nat} (h : w < 2 ^ k) : startOf lo sz w (k + 1) = startOf lo sz w k := startOf_zero (bit_off h)
theorem start_right {w k : Nat} (h : w < 2 ^ k) : startOf lo sz (w + 2 ^ k) (k + 1) = startOf lo sz w k + countOf sz w k / 2 + 1 := by
  have hw : ((w : Nat) : Int) < 2 ^ k := by
    have : ((w : Nat) : Int) < ((2 ^ k : Nat) : Int) := by omega
    simpa using this
  have e : (((w + 2 ^ k : Nat) : Int)) = (w : Int) + 2 ^ k * 1 := by push_cast; omega
  rw [startOf_one (bit_on h), startOf_low, e, fmod_two_pow, Int.add_mul_emod_self_left, Int.emod_eq_of_lt (by omega) hw, Int.fdiv_eq_ediv_of_nonneg _ (show (0 : Int) ≤ 2 by omega)]
  unfold countOf
  omega
theorem start_ge (h : 0 ≤ sz) (w : Nat) : ∀ k, lo ≤ startOf lo sz w k
  | 0 => Int.le_refl _
  | k + 1 => by
    have ih := start_ge h w k
    rw [startOf]
    split
    · have h1 : (w : Int).fmod (2 ^ k) < 2 ^ k := Int.fmod_lt_of_pos _ (pow_pos2 k)
      have h2 : -1 ≤ (sz - (w : Int).fmod (2 ^ k)).fdiv (2 ^ k) := by
        rw [fdiv_two_pow]
        have := Int.ediv_le_ediv (pow_pos2 k) (show -(2 ^ k) ≤ sz - (w : Int).fmod (2 ^ k) by omega)
        rw [show (-(2 ^ k) : Int) / 2 ^ k = -1 by rw [Int.neg_ediv_of_dvd (Int.dvd_refl _), Int.ediv_self (Int.ne_of_gt (pow_pos2 k))]] at this
        exact this
      rw [Int.fdiv_eq_ediv_of_nonneg _ (show (0 : Int) ≤ 2 by omega)]
      omega
    · exact ih
theorem size_of_count {w k : Nat} (h : 0 < countOf sz w k) : (2 : Int) ^ k ≤ sz - w := by
  unfold countOf at h
  rw [fdiv_two_pow] at h
  have h1 := Int.mul_ediv_self_le (x := sz - (w : Int)) (k := 2 ^ k) (Int.ne_of_gt (pow_pos2 k))
  have h2 : (2 : Int) ^ k * 1 ≤ 2 ^ k * ((sz - (w : Int)) / 2 ^ k) := Int.mul_le_mul_of_nonneg_left (by omega) (Int.le_of_lt (pow_pos2 k))
  omega
/-- a word of the next level: the same, or with the new figure -/
theorem word_split {w' k : Nat} (h : w' < 2 ^ (k + 1)) : ∃ w, w < 2 ^ k ∧ (w' = w ∨ w' = w + 2 ^ k) := by
  rw [Nat.pow_succ] at h
  by_cases hw : w' < 2 ^ k
  · exact ⟨w', hw, .inl rfl⟩
  · exact ⟨w' - 2 ^ k, by omega, .inr (by omega)⟩
theorem mem_level {t : Int × Int × Int} {k : Nat} : ∀ n, t ∈ partsLevel lo sz k n → ∃ w, w < n ∧ 0 < countOf sz w k ∧ t = (startOf lo sz w k, startOf lo sz w k + countOf sz w k / 2, startOf lo sz w k + countOf sz w k)
  | 0, h => by rw [partsLevel] at h; cases h
  | n + 1, h => by
    rw [partsLevel] at h
    rcases List.mem_append.mp h with h | h
    · obtain ⟨w, h1, h2⟩ := mem_level n h
      exact ⟨w, by omega, h2⟩
    · rw [partOf] at h
      split at h
      · rw [List.mem_singleton] at h
        refine ⟨n, by omega, by assumption, ?_⟩
        rw [h, Int.fdiv_eq_ediv_of_nonneg _ (show (0 : Int) ≤ 2 by omega)]
      · cases h
theorem mem_parts {t : Int × Int × Int} : ∀ K, t ∈ partsUpTo lo sz K → ∃ k w, k < K ∧ w < 2 ^ k ∧ 0 < countOf sz w k ∧ t = (startOf lo sz w k, startOf lo sz w k + countOf sz w k / 2, startOf lo sz w k + countOf sz w k)
  | 0, h => by rw [partsUpTo] at h; cases h
  | K + 1, h => by
    rw [partsUpTo] at h
    rcases List.mem_append.mp h with h | h
    · obtain ⟨k, w, h1, h2⟩ := mem_parts K h
      exact ⟨k, w, by omega, h2⟩
    · obtain ⟨w, h1, h2⟩ := mem_level _ h
      exact ⟨K, w, by omega, h1, h2⟩
theorem parts_mid (h0 : 0 ≤ lo) (k : Nat) : ∀ t ∈ partsUpTo lo sz k, 0 ≤ t.2.1 := fun t ht => by
  obtain ⟨j, w, h1, h2, h3, rfl⟩ := mem_parts k ht
  have := size_of_count h3
  have := pow_pos2 j
  have := start_ge (lo := lo) (show 0 ≤ sz by omega) w j
  show 0 ≤ startOf lo sz w j + countOf sz w j / 2
  omega
end
section
variable {lo hi : Int} {q : Int → Option Bool}
theorem mid_eq (S C : Int) : (S + (S + C)).fdiv 2 = S + C / 2 := by
  rw [Int.fdiv_eq_ediv_of_nonneg _ (show (0 : Int) ≤ 2 by omega)]
  omega
/-- the search from a part that holds the answer gives that answer -/
theorem bis_at {r : Int} (hb : bis q lo hi = some r) (hlt : lo < hi) : ∀ k w, w < 2 ^ k → 0 < countOf (hi - lo) w k → startOf lo (hi - lo) w k ≤ r → r ≤ startOf lo (hi - lo) w k + countOf (hi - lo) w k →
    bis q (startOf lo (hi - lo) w k) (startOf lo (hi - lo) w k + countOf (hi - lo) w k) = some r := by
  intro k
  induction k with
  | zero =>
    intro w hw _ _ _
    have : w = 0 := by omega
    subst this
    have e : countOf (hi - lo) 0 0 = hi - lo := by unfold countOf; rw [fdiv_two_pow]; simp
    rw [e, startOf, show lo + (hi - lo) = hi by omega]
    exact hb
  | succ k ih =>
    intro w' hw' hc h1 h2
    obtain ⟨w, hw, e | e⟩ := word_split hw'
    · rw [e] at hc h1 h2 ⊢
      rw [count_half w k] at hc h2 ⊢
      rw [start_left hw] at h1 h2 ⊢
      have ih' := ih w hw (by omega) h1 (by omega)
      have hl : startOf lo (hi - lo) w k < startOf lo (hi - lo) w k + countOf (hi - lo) w k := by omega
      cases hq : q ((startOf lo (hi - lo) w k + (startOf lo (hi - lo) w k + countOf (hi - lo) w k)).fdiv 2) with
      | none => rw [bis_none hl hq] at ih'; cases ih'
      | some b =>
        cases b with
        | true =>
          rw [bis_true hl hq, mid_eq] at ih'
          have := bis_bounds r ih'
          omega
        | false =>
          rw [bis_false hl hq, mid_eq] at ih'
          exact ih'
    · rw [e] at hc h1 h2 ⊢
      rw [count_right w k] at hc h2 ⊢
      rw [start_right hw] at h1 h2 ⊢
      have ih' := ih w hw (by omega) (by omega) (by omega)
      have hl : startOf lo (hi - lo) w k < startOf lo (hi - lo) w k + countOf (hi - lo) w k := by omega
      cases hq : q ((startOf lo (hi - lo) w k + (startOf lo (hi - lo) w k + countOf (hi - lo) w k)).fdiv 2) with
      | none => rw [bis_none hl hq] at ih'; cases ih'
      | some b =>
        cases b with
        | true =>
          rw [bis_true hl hq, mid_eq] at ih'
          rw [show startOf lo (hi - lo) w k + countOf (hi - lo) w k / 2 + 1 + (countOf (hi - lo) w k - 1) / 2 = startOf lo (hi - lo) w k + countOf (hi - lo) w k by omega]
          exact ih'
        | false =>
          rw [bis_false hl hq, mid_eq] at ih'
          have := bis_bounds r ih'
          omega
/-- on one level no gap lies in two parts -/
theorem part_one {sz : Int} {g : Int} : ∀ k w v, w < 2 ^ k → v < 2 ^ k → 0 < countOf sz w k → 0 < countOf sz v k → startOf lo sz w k ≤ g → g ≤ startOf lo sz w k + countOf sz w k → startOf lo sz v k ≤ g → g ≤ startOf lo sz v k + countOf sz v k → w = v := by
  intro k
  induction k with
  | zero => intro w v hw hv _ _ _ _ _ _; omega
  | succ k ih =>
    intro w' v' hw' hv' hcw hcv a1 a2 b1 b2
    obtain ⟨w, hw, hw2⟩ := word_split hw'
    obtain ⟨v, hv, hv2⟩ := word_split hv'
    have Lw := count_half (sz := sz) w k
    have Lv := count_half (sz := sz) v k
    have Rw := count_right (sz := sz) w k
    have Rv := count_right (sz := sz) v k
    have SLw := start_left (lo := lo) (sz := sz) hw
    have SLv := start_left (lo := lo) (sz := sz) hv
    have SRw := start_right (lo := lo) (sz := sz) hw
    have SRv := start_right (lo := lo) (sz := sz) hv
    rcases hw2 with ew | ew <;> rcases hv2 with ev | ev <;> rw [ew] at hcw a1 a2 <;> rw [ev] at hcv b1 b2
    · have := ih _ _ hw hv (by omega) (by omega) (by omega) (by omega) (by omega) (by omega)
      omega
    · have := ih _ _ hw hv (by omega) (by omega) (by omega) (by omega) (by omega) (by omega)
      subst this
      omega
    · have := ih _ _ hw hv (by omega) (by omega) (by omega) (by omega) (by omega) (by omega)
      subst this
      omega
    · have := ih _ _ hw hv (by omega) (by omega) (by omega) (by omega) (by omega) (by omega)
      omega
end
section
variable {ab : List Bool} {gap : Int}
theorem goes_yes : ∀ (ts : List (Int × Int × Int)), (∀ t ∈ ts, t.1 ≤ gap → gap ≤ t.2.2 → t.2.1 < (ab.length : Int) ∧ ab.getD t.2.1.toNat false = decide (t.2.1 < gap)) → goes ab gap ts = .yes
  | [], _ => rfl
  | t :: ts, h => by
    have ih := goes_yes ts fun u hu => h u (.tail _ hu)
    rw [goes]
    split
    · have := h t (.head _) (by omega) (by omega)
      rw [if_neg (by omega), if_neg (fun z => z this.2)]
      exact ih
    · exact ih
theorem goes_skip {us : List (Int × Int × Int)} : ∀ (ts : List (Int × Int × Int)), (∀ t ∈ ts, t.1 ≤ gap → gap ≤ t.2.2 → t.2.1 < (ab.length : Int) ∧ ab.getD t.2.1.toNat false = decide (t.2.1 < gap)) → goes ab gap (ts ++ us) = goes ab gap us
  | [], _ => rfl
  | t :: ts, h => by
    have ih := goes_skip (us := us) ts fun u hu => h u (.tail _ hu)
    rw [List.cons_append, goes]
    split
    · have := h t (.head _) (by omega) (by omega)
      rw [if_neg (by omega), if_neg (fun z => z this.2)]
      exact ih
    · exact ih
theorem parts_from {lo sz : Int} {k : Nat} : ∀ K, k < K → ∃ us, partsUpTo lo sz K = partsUpTo lo sz k ++ (partsLevel lo sz k (2 ^ k) ++ us)
  | 0, h => by omega
  | K + 1, h => by
    by_cases e : k = K
    · subst e
      exact ⟨[], by rw [partsUpTo, List.append_nil]⟩
    · obtain ⟨us, hu⟩ := parts_from (lo := lo) (sz := sz) (k := k) K (by omega)
      exact ⟨us ++ partsLevel lo sz K (2 ^ K), by rw [partsUpTo, hu]; simp only [List.append_assoc]⟩
theorem level_from {lo sz : Int} {k w : Nat} : ∀ n, w < n → ∃ us, partsLevel lo sz k n = partsLevel lo sz k w ++ (partOf lo sz k w ++ us)
  | 0, h => by omega
  | n + 1, h => by
    by_cases e : w = n
    · subst e
      exact ⟨[], by rw [partsLevel, List.append_nil]⟩
    · obtain ⟨us, hu⟩ := level_from (lo := lo) (sz := sz) (k := k) (w := w) n (by omega)
      exact ⟨us ++ partOf lo sz k n, by rw [partsLevel, hu]; simp only [List.append_assoc]⟩
end
section
variable {left : Bool} {κ : Int → Int} {ns : List Int} {x : Int}
theorem ab_len : (abOf left κ ns x).length = ns.length := by unfold abOf; rw [List.length_map]
theorem ahead_some {i : Int} {b : Bool} (h : ahead left κ ns x i = some b) : 0 ≤ i ∧ i < (ns.length : Int) ∧ (abOf left κ ns x).getD i.toNat false = b := by
  unfold ahead at h
  split at h
  · rename_i h0
    cases e : ns[i.toNat]? with
    | none => rw [e] at h; cases h
    | some v =>
      rw [e] at h
      have hl := (List.getElem?_eq_some_iff.mp e).1
      refine ⟨h0, by omega, ?_⟩
      unfold abOf
      rw [List.getD_eq_getElem?_getD, List.getElem?_map, e]
      exact Option.some.inj h
  · cases h
theorem ahead_miss {i : Int} (h0 : 0 ≤ i) (h : ahead left κ ns x i = none) : (ns.length : Int) ≤ i := by
  unfold ahead at h
  rw [if_pos h0] at h
  cases e : ns[i.toNat]? with
  | none => have := List.getElem?_eq_none_iff.mp e; omega
  | some v => rw [e] at h; cases h
theorem law_int {lo hi r : Int} {k : Nat} (h0 : 0 ≤ lo) (hb : bis (ahead left κ ns x) lo hi = some r) (hk : ¬ (2 : Int) ^ k ≤ hi - lo) (hj : ∀ j, j < k → (2 : Int) ^ j ≤ hi - lo) :
    (hi ≤ lo → r = lo) ∧ (lo < hi → lo ≤ r ∧ r ≤ hi ∧ goes (abOf left κ ns x) r (partsUpTo lo (hi - lo) k) = .yes) := by
  refine ⟨fun h => ?_, fun h => ?_⟩
  · rw [bis_stop (by omega)] at hb
    exact (Option.some.inj hb).symm
  · have hbd := bis_bounds r hb
    refine ⟨hbd.1, by omega, goes_yes _ fun t ht h1 h2 => ?_⟩
    obtain ⟨j, w, hjk, hw, hc, rfl⟩ := mem_parts k ht
    have hat := bis_at hb h j w hw hc h1 h2
    have hl : startOf lo (hi - lo) w j < startOf lo (hi - lo) w j + countOf (hi - lo) w j := by omega
    show startOf lo (hi - lo) w j + countOf (hi - lo) w j / 2 < _ ∧ _ = decide (startOf lo (hi - lo) w j + countOf (hi - lo) w j / 2 < r)
    cases hq : ahead left κ ns x ((startOf lo (hi - lo) w j + (startOf lo (hi - lo) w j + countOf (hi - lo) w j)).fdiv 2) with
    | none => rw [bis_none hl hq] at hat; cases hat
    | some b =>
      rw [ab_len]
      cases b with
      | true =>
        rw [bis_true hl hq, mid_eq] at hat
        rw [mid_eq] at hq
        have h3 := ahead_some hq
        have h4 := bis_bounds r hat
        exact ⟨h3.2.1, h3.2.2.trans (decide_eq_true (by omega)).symm⟩
      | false =>
        rw [bis_false hl hq, mid_eq] at hat
        rw [mid_eq] at hq
        have h3 := ahead_some hq
        have h4 := bis_bounds r hat
        exact ⟨h3.2.1, h3.2.2.trans (decide_eq_false (by omega)).symm⟩
end
section
variable {lo hi : Int} {q : Int → Option Bool}
/-- above a part all goes as its gaps ask -/
def GoodAt (q : Int → Option Bool) (lo sz : Int) (k w : Nat) : Prop :=
  ∀ g, startOf lo sz w k ≤ g → g ≤ startOf lo sz w k + countOf sz w k → ∀ j v, j < k → v < 2 ^ j → 0 < countOf sz v j → startOf lo sz v j ≤ g → g ≤ startOf lo sz v j + countOf sz v j →
    q (startOf lo sz v j + countOf sz v j / 2) = some (decide (startOf lo sz v j + countOf sz v j / 2 < g))
theorem fail_at {sz : Int} : ∀ (n k w : Nat), (countOf sz w k).toNat ≤ n → w < 2 ^ k → 0 < countOf sz w k → lo ≤ startOf lo sz w k → startOf lo sz w k + countOf sz w k ≤ hi → GoodAt q lo sz k w →
    bis q (startOf lo sz w k) (startOf lo sz w k + countOf sz w k) = none →
    ∃ k' w', w' < 2 ^ k' ∧ 0 < countOf sz w' k' ∧ lo ≤ startOf lo sz w' k' ∧ startOf lo sz w' k' + countOf sz w' k' ≤ hi ∧ q (startOf lo sz w' k' + countOf sz w' k' / 2) = none ∧ GoodAt q lo sz k' w' := by
  intro n
  induction n with
  | zero => intro k w hn hw hc; omega
  | succ n ih =>
    intro k w hn hw hc hlo hhi hg hb
    have hl : startOf lo sz w k < startOf lo sz w k + countOf sz w k := by omega
    have Lw := count_half (sz := sz) w k
    have Rw := count_right (sz := sz) w k
    have SLw := start_left (lo := lo) (sz := sz) hw
    have SRw := start_right (lo := lo) (sz := sz) hw
    have hw1 : w < 2 ^ (k + 1) := by rw [Nat.pow_succ]; omega
    have hw2 : w + 2 ^ k < 2 ^ (k + 1) := by rw [Nat.pow_succ]; omega
    cases hq : q ((startOf lo sz w k + (startOf lo sz w k + countOf sz w k)).fdiv 2) with
    | none =>
      rw [mid_eq] at hq
      exact ⟨k, w, hw, hc, hlo, hhi, hq, hg⟩
    | some b =>
      cases b with
      | true =>
        rw [bis_true hl hq, mid_eq] at hb
        rw [mid_eq] at hq
        have hc' : 0 < countOf sz (w + 2 ^ k) (k + 1) := by
          rcases Int.lt_or_le 0 (countOf sz (w + 2 ^ k) (k + 1)) with h | h
          · exact h
          · rw [bis_stop (by omega)] at hb
            cases hb
        refine ih (k + 1) (w + 2 ^ k) (by omega) hw2 hc' (by omega) (by omega) ?_ ?_
        · intro g g1 g2 j v hj hv hcv a1 a2
          by_cases e : j = k
          · subst e
            have := part_one (lo := lo) (g := g) j v w hv hw hcv hc a1 a2 (by omega) (by omega)
            subst this
            rw [hq, decide_eq_true (by omega)]
          · exact hg g (by omega) (by omega) j v (by omega) hv hcv a1 a2
        · rw [SRw, Rw, show startOf lo sz w k + countOf sz w k / 2 + 1 + (countOf sz w k - 1) / 2 = startOf lo sz w k + countOf sz w k by omega]
          exact hb
      | false =>
        rw [bis_false hl hq, mid_eq] at hb
        rw [mid_eq] at hq
        have hc' : 0 < countOf sz w (k + 1) := by
          rcases Int.lt_or_le 0 (countOf sz w (k + 1)) with h | h
          · exact h
          · rw [bis_stop (by omega)] at hb
            cases hb
        refine ih (k + 1) w (by omega) hw1 hc' (by omega) (by omega) ?_ ?_
        · intro g g1 g2 j v hj hv hcv a1 a2
          by_cases e : j = k
          · subst e
            have := part_one (lo := lo) (g := g) j v w hv hw hcv hc a1 a2 (by omega) (by omega)
            subst this
            rw [hq, decide_eq_false (by omega)]
          · exact hg g (by omega) (by omega) j v (by omega) hv hcv a1 a2
        · rw [SLw, Lw]
          exact hb
end
section
variable {left : Bool} {κ : Int → Int} {ns : List Int} {x : Int}
theorem law_none {lo hi : Int} {k : Nat} (h0 : 0 ≤ lo) (hb : bis (ahead left κ ns x) lo hi = none) (hk : ¬ (2 : Int) ^ k ≤ hi - lo) (hj : ∀ j, j < k → (2 : Int) ^ j ≤ hi - lo) :
    lo < hi ∧ ∃ gap, lo ≤ gap ∧ gap ≤ hi ∧ goes (abOf left κ ns x) gap (partsUpTo lo (hi - lo) k) = .beyond := by
  have hlt : lo < hi := by
    rcases Int.lt_or_le lo hi with h | h
    · exact h
    · rw [bis_stop (by omega)] at hb
      cases hb
  refine ⟨hlt, ?_⟩
  have ec : countOf (hi - lo) 0 0 = hi - lo := by unfold countOf; rw [fdiv_two_pow]; simp
  have es : startOf lo (hi - lo) 0 0 = lo := rfl
  obtain ⟨j, w, hw, hc, hlo, hhi, hq, hg⟩ := fail_at (q := ahead left κ ns x) (lo := lo) (hi := hi) (sz := hi - lo) (hi - lo).toNat 0 0 (by rw [ec]; omega) (by decide) (by rw [ec]; omega) (by rw [es]; omega) (by rw [ec, es]; omega)
    (fun g _ _ j v hj => absurd hj (Nat.not_lt_zero _)) (by rw [ec, es, show lo + (hi - lo) = hi by omega]; exact hb)
  refine ⟨startOf lo (hi - lo) w j, hlo, by omega, ?_⟩
  have hs := size_of_count hc
  have hjk : j < k := by
    rcases Nat.lt_or_ge j k with h | h
    · exact h
    · have : (2 : Int) ^ k ≤ 2 ^ j := by
        have h1 : (2 : Nat) ^ k ≤ 2 ^ j := Nat.pow_le_pow_right (by omega) h
        have h2 : ((2 ^ k : Nat) : Int) ≤ ((2 ^ j : Nat) : Int) := by omega
        simpa using h2
      omega
  have hmiss := ahead_miss (by omega) hq
  obtain ⟨us, e1⟩ := parts_from (lo := lo) (sz := hi - lo) (k := j) k hjk
  obtain ⟨vs, e2⟩ := level_from (lo := lo) (sz := hi - lo) (k := j) (w := w) (2 ^ j) hw
  rw [e1, e2, goes_skip _ ?a1, List.append_assoc, goes_skip _ ?a2, partOf, if_pos hc, Int.fdiv_eq_ediv_of_nonneg _ (show (0 : Int) ≤ 2 by omega)]
  · show goes _ _ ((_ :: []) ++ vs ++ us) = _
    rw [List.append_assoc, List.cons_append, goes]
    rw [if_pos ⟨Int.le_refl _, by show startOf lo (hi - lo) w j ≤ startOf lo (hi - lo) w j + countOf (hi - lo) w j; omega⟩, if_pos (by rw [ab_len]; exact hmiss)]
  case a1 =>
    intro t ht t1 t2
    obtain ⟨i, v, hi', hv, hcv, rfl⟩ := mem_parts j ht
    have h3 := hg (startOf lo (hi - lo) w j) (Int.le_refl _) (by omega) i v hi' hv hcv t1 t2
    have h4 := ahead_some h3
    rw [ab_len]
    exact ⟨h4.2.1, h4.2.2⟩
  case a2 =>
    intro t ht t1 t2
    obtain ⟨v, hv, hcv, rfl⟩ := mem_level w ht
    have := part_one (lo := lo) (g := startOf lo (hi - lo) w j) j v w (by omega) hw hcv hc t1 t2 (Int.le_refl _) (by omega)
    omega
end

section
variable {prog : Program} {w : World} {A₀ A : Around} {s : Shared} {base h₀ : Heap} {outer : List Env} {L : Addr} {m : Str → Option Value} {env : Env} {news : List (Addr × Obj)} {K : Frag} {p : Program} {loose : List Str} {mean : ExcName → Option Value} {mg mb : Str → Option Value}
    {R : Result → Shared → Prop} {name qual : Str} {params : Arguments} {body : List Stmt} {scope : Scope} {dV kV doc pm cdv ct oc : Value} {an od : Option Addr} {osl : Array (Option Value)} {f : Addr} {args : Args} {binds : List (Str × Value)}
/-- what a callee that may have caught an exception leaves behind: the caller's ground may have turned in the frames' slots -/
theorem back_turned {g g' h' : Heap} {L' : Addr} {m' : Str → Option Value} {news' : List (Addr × Obj)} (B : Below A₀ base outer h₀) (FG : Fr h₀ L g m) (st : h₀.StaysIn g) (hf : env.frame = some L)
    (T' : KtsTurn ((env :: outer).filterMap (·.frame)) g g') (F' : Fr g' L' h' m') (N' : News g' L' h' news') :
    ∃ h₀', KtsTurn (outer.filterMap (·.frame)) h₀ h₀' ∧ Fr h₀' L h' m ∧ News h₀' L h' news' ∧ Below A₀ base outer h₀' := by
  have up : ∀ b o, g.get? b = some o → ∃ sl, h'.get? b = some { o with slots := sl } := fun b o e => by
    obtain ⟨sl, hs⟩ := T'.up e
    exact ⟨sl, F'.keep _ _ hs⟩
  have nL : h₀.get? L = none := kts_self FG
  have hmem : ∀ b, b ∈ (env :: outer).filterMap (·.frame) → b = L ∨ b ∈ outer.filterMap (·.frame) := fun b hb => by
    rw [List.filterMap_cons, hf] at hb
    exact List.mem_cons.mp hb
  obtain ⟨T₁, S₁⟩ := kts_turn_at (h := h') (fs := outer.filterMap (·.frame)) (g := h₀)
    (fun b hb => let ⟨_, o, ho, _⟩ := B.frames.mem hb; ⟨o, ho⟩)
    (fun b o e nm => F'.keep b o (T'.other b o (st b o e) fun q => (hmem b q).elim (fun z => by rw [z, nL] at e; cases e) nm))
    (fun b o e _ => up b o (st b o e))
  obtain ⟨oL, es, ep, hL, hLd, hLr⟩ := FG.ns
  obtain ⟨sL, hsL⟩ := T'.up hL
  refine ⟨_, T₁, ⟨⟨_, es, ep, F'.keep _ _ hsL, hLd, hLr⟩, S₁, by rw [T₁.size]; exact FG.above⟩, fun q hq => ⟨(N' q hq).1, fun z => ?_, T₁.none_ _ ?_⟩, ⟨B.stack, fun b o e => T₁.other b o (B.stays b o e) (fun hm => by rw [(B.frames.mem hm).1] at e; cases e), B.frames.of_keeps fun b o e _ => ?_⟩⟩
  · have := (N' q hq).2.2
    rw [z, hsL] at this
    cases this
  · cases e : h₀.get? q.1 with
    | none => rfl
    | some o =>
      obtain ⟨sl, hs⟩ := T'.up (st _ _ e)
      have := (N' q hq).2.2
      rw [hs] at this
      cases this
  · obtain ⟨sl, hs⟩ := T₁.up e
    exact ⟨_, hs, rfl⟩

theorem code_defX (B : Below A₀ base outer h₀) (F : Fr h₀ L s.heap m) (X₀ : K.In h₀) (N : News h₀ L s.heap news) (T : Top p loose mean mg mb h₀) (XB : K.In base) (TB : Top p loose mean mg mb base) (D : KtsDicts (outer.filterMap (·.frame)) h₀)
    (hA : A.frames = some (env :: outer)) (hf : env.frame = some L) (hke : env.scope.kind = .function)
    (ho : K.lookup f = some ⟨oc, od, .func (fnOf name qual params body scope dV kV doc pm an cdv ct), osl⟩) (hcd : codeIn K cdv qual = true) (hroom : A.depth < recursionLimit)
    (hbind : BindsTo s (fnOf name qual params body scope dV kV doc pm an cdv ct) args binds) (hloc : ∀ y ∈ binds, scope.names.lookup y.1 = some .local)
    (h : ∀ g L' h₁, Fr h₀ L g m → Fr g L' h₁ (fun y => binds.reverse.lookup y) → News g L' h₁ news → Below A base (env :: outer) g → K.In g → Top p loose mean mg mb g → KtsDicts ((env :: outer).filterMap (·.frame)) g →
      wpAny (model prog w) (A.deeper (envOf qual scope L' f cdv)) (execs body (envOf qual scope L' f cdv))
        (fun fl s' => LeaveS ((env :: outer).filterMap (·.frame)) A₀ base outer K p loose mean mg mb h₀ h₀ L m g R (match fl with | .ret v => v | _ => .none) s')
        (fun e s' => wpAny (model prog w) (A.deeper (envOf qual scope L' f cdv)) (leaving (envOf qual scope L' f cdv) e) (fun _ s'' => R (.error e) s'') (fun e' s'' => R (.error e') s'') s')
        { s with heap := h₁, toks := s.toks + binds.length })
    (hco : scope.isCoroutine = false) (hgen : scope.isGenerator = false) (hk : scope.kind = .function)
    (hcell : ∀ x ∈ scope.names, x.2 ≠ .cell) : codeAny (model prog w) A (.call (.ref f) args) R s := by
  have X := X₀.keeps F.keep
  obtain ⟨FG, BG, st, lv⟩ := groundX (R := R) B F N hA hf hke
  refine codeAny_call_def (fd := fnOf name qual params body scope dV kV doc pm an cdv ct) (body := body) (binds := binds) hroom (X _ _ ho) rfl (T.nolimit.keeps F.keep) (codeRec_of X hcd) rfl hbind hcell hloc (fun h₁ hns hk₁ => ?_) hco hgen hk
  refine wpAny_mono (h _ s.heap.objs.size h₁ FG ⟨hns, fun b o e => hk₁ b o (of_hideAll _ e), Nat.le_of_eq (hideAll_size _ _)⟩
    (fun q hq => ⟨hk₁ _ _ (N q hq).1, Nat.ne_of_lt (Heap.lt_size (N q hq).1), hideAll_none _ (List.mem_map_of_mem hq)⟩) BG (X₀.keeps st) (T.keeps st) (fun b hb => ?_)) (fun fl s' hl => ?_) fun _ _ y => y
  · rw [List.filterMap_cons, hf] at hb
    rcases List.mem_cons.mp hb with rfl | hb
    · obtain ⟨oL, es, ep, hL, hLd, _⟩ := FG.ns
      exact ⟨oL, es, ep, hL, hLd⟩
    · obtain ⟨o, es, n, h1, h2⟩ := D b hb
      exact ⟨o, es, n, st _ _ h1, h2⟩
  · rcases hl with ⟨L', m', news', F', N', k⟩ | ⟨g', L', m', news', T', F', N', k⟩
    · exact lv _ _ ⟨L', m', news', F', N', k⟩
    · obtain ⟨h₀', T₁, F₁, N₁, B₁⟩ := back_turned B FG st hf T' F' N'
      exact k h₀' T₁ F₁ N₁ B₁ (XB.keeps B₁.stays) (TB.keeps B₁.stays) (D.turn T₁)
end
section
variable {prog : Program} {w : World} {A₀ A : Around} {s : Shared} {base h₀ : Heap} {outer : List Env} {L : Addr} {m : Str → Option Value} {env : Env} {news : List (Addr × Obj)} {K : Frag} {p : Program} {loose : List Str} {mean : ExcName → Option Value} {mg mb : Str → Option Value}
    {R : Result → Shared → Prop} {name qual : Str} {params : Arguments} {body : List Stmt} {scope : Scope} {dV kV doc pm cdv ct oc : Value} {an od : Option Addr} {osl : Array (Option Value)} {f : Addr} {args : Args} {binds : List (Str × Value)}
theorem code_defXC (B : Below A₀ base outer h₀) (F : Fr h₀ L s.heap m) (X₀ : K.In h₀) (N : News h₀ L s.heap news) (T : Top p loose mean mg mb h₀) (XB : K.In base) (TB : Top p loose mean mg mb base) (D : KtsDicts (outer.filterMap (·.frame)) h₀)
    (hA : A.frames = some (env :: outer)) (hf : env.frame = some L) (hke : env.scope.kind = .function)
    (ho : K.lookup f = some ⟨oc, od, .func (fnOf name qual params body scope dV kV doc pm an cdv ct), osl⟩) (hcd : codeIn K cdv qual = true) (hroom : A.depth < recursionLimit)
    (hbind : BindsTo s (fnOf name qual params body scope dV kV doc pm an cdv ct) args binds) (hkind : (binds.all fun y => scope.names.lookup y.1 == some .local || scope.names.lookup y.1 == some .cell) = true)
    (hnd : ((cellsFrom 0 scope.names []).map (·.1)).Nodup)
    (h : ∀ g L' h₁ tk cells, Fr h₀ L g m → Fr g L' h₁ (bindL (envOfC qual scope L' f cdv).kindOf binds fun _ => none) → News g L' h₁ (cells ++ news) →
      CellsAre (bindC (envOfC qual scope L' f cdv).kindOf binds fun _ => none) (cellsFrom (L' + 1) scope.names []) cells → Below A base (env :: outer) g → K.In g → Top p loose mean mg mb g → KtsDicts ((env :: outer).filterMap (·.frame)) g → (∀ q ∈ news, q.1 < L') →
      wpAny (model prog w) (A.deeper (envOfC qual scope L' f cdv)) (execs body (envOfC qual scope L' f cdv))
        (fun fl s' => LeaveS ((env :: outer).filterMap (·.frame)) A₀ base outer K p loose mean mg mb h₀ h₀ L m g R (match fl with | .ret v => v | _ => .none) s')
        (fun e s' => wpAny (model prog w) (A.deeper (envOfC qual scope L' f cdv)) (leaving (envOfC qual scope L' f cdv) e) (fun _ s'' => R (.error e) s'') (fun e' s'' => R (.error e') s'') s')
        { s with heap := h₁, toks := tk })
    (hco : scope.isCoroutine = false) (hgen : scope.isGenerator = false) (hk : scope.kind = .function) : codeAny (model prog w) A (.call (.ref f) args) R s := by
  have X := X₀.keeps F.keep
  obtain ⟨FG, BG, st, lv⟩ := groundX (R := R) B F N hA hf hke
  refine codeAny_call_function hroom (X _ _ ho) rfl hco hgen rfl (codeRec_of X hcd) (hbind _ _ _ _ ?_)
  refine wpAny_newFunctionEnv_cells hk (kindsX hkind _) fun env' he s' x => ?_
  subst he
  refine ⟨(T.nolimit.keeps F.keep).keeps x.toInCall.keep, codeAny_func ?_⟩
  obtain ⟨h₁, tk, rfl, _⟩ := x.done
  have kept := x.toInCall.keep
  obtain ⟨cells, NC, Y⟩ := Cl.news (h₀ := s.heap) (Nat.le_refl _) fun n c hm => ⟨x.cell n c (lookup_of_mem_nodup (cellsFrom_names scope.names 0 (s.heap.objs.size + 1) [] [] rfl ▸ hnd) hm), x.above n c hm⟩
  have NN : News (hideAll s.heap (news.map (·.1))) s.heap.objs.size h₁ (cells ++ news) := fun q hq => by
    rcases List.mem_append.mp hq with hq | hq
    · refine ⟨(NC q hq).1, (NC q hq).2.1, ?_⟩
      cases e : (hideAll s.heap (news.map (·.1))).get? q.1 with
      | none => rfl
      | some o =>
        have z := of_hideAll _ e
        rw [(NC q hq).2.2] at z
        cases z
    · exact ⟨kept _ _ (N q hq).1, Nat.ne_of_lt (Heap.lt_size (N q hq).1), hideAll_none _ (List.mem_map_of_mem hq)⟩
  refine wpAny_mono (h _ s.heap.objs.size h₁ tk cells FG ⟨x.toInCall.ns, fun b o e => kept b o (of_hideAll _ e), Nat.le_of_eq (hideAll_size _ _)⟩ NN Y BG (X₀.keeps st) (T.keeps st) (fun b hb => ?_) (fun q hq => Heap.lt_size (N q hq).1)) (fun fl s' hl => ?_) fun _ _ y => y
  · rw [List.filterMap_cons, hf] at hb
    rcases List.mem_cons.mp hb with rfl | hb
    · obtain ⟨oL, es, ep, hL, hLd, _⟩ := FG.ns
      exact ⟨oL, es, ep, hL, hLd⟩
    · obtain ⟨o, es, n, h1, h2⟩ := D b hb
      exact ⟨o, es, n, st _ _ h1, h2⟩
  · rcases hl with ⟨L', m', news', F', N', k⟩ | ⟨g', L', m', news', T', F', N', k⟩
    · exact lv _ _ ⟨L', m', news', F', N', k⟩
    · obtain ⟨h₀', T₁, F₁, N₁, B₁⟩ := back_turned B FG st hf T' F' N'
      exact k h₀' T₁ F₁ N₁ B₁ (XB.keeps B₁.stays) (TB.keeps B₁.stays) (D.turn T₁)
end

abbrev PR : Program := PySem.Challenge.rw_mr0003_01.row.prog
section
variable {w : World} {p : Program} {loose : List Str} {mean : ExcName → Option Value} {mg mb : Str → Option Value}
  {dp un : Nat} {gd : Option (List Code)} {cn : Str} {cs : Scope} {a : Addr} {ccd : Value} {cl : List (Str × Addr)} {outer : List Env} {A₀ : Around} {base h₀ : Heap} {L : Addr} {m : Str → Option Value} {s : Shared} {Q E : Value → Shared → Prop} {news : List (Addr × Obj)}
theorem binds_KK {K : Frag} {s : Shared} {fd : FuncData} {args : Args} {binds : List (Str × Value)} {T D : Addr} {o o2 : Obj} {items : Array Value} {n : Nat} {pt : Option Value} {k : Option (Array Value) → Sem (List (Str × Value))} {k3 : Obj → Sem (List (Str × Value))} (X : K.In s.heap) (hd : fd.defaults = .ref T) (ho : K.lookup T = some o) (hs : o.data = .seq items n)
    (h₁ : bindArgs fd args = seqItems? fd.defaults >>= k) (h₂ : k (some items) = .load D pt k3) (ho2 : K.lookup D = some o2) (h₃ : k3 o2 = pure binds) : BindsTo s fd args binds := fun M A E Q hq => by
  rw [h₁, hd]
  refine wpAny_bind (wpAny_seqItems (X _ _ ho) hs ?_)
  rw [h₂]
  have h4 : (Sem.load D pt k3 : Sem (List (Str × Value))) = loadPart D pt >>= k3 := rfl
  rw [h4]
  refine wpAny_bind (wpAny_loadPart (X _ _ ho2) ?_)
  rw [h₃]
  exact wpAny_pure hq
theorem len_ints {A : Around} {E : Value → Shared → Prop} {s : Shared} {l : Addr} {vs : List Value} {c : Nat} {ns : List Int} {Q : Value → Shared → Prop} (N : News h₀ L s.heap news) (hm : (l, listOf vs.toArray c) ∈ news) (hI : IntsAre vs ns) (hlen : (ns.length : Int) < 2 ^ 60)
    (h : ∀ t tk, Q (.int ns.length t) { s with toks := tk }) : wpAny (model PR w) A (call (.builtin "len") [.ref l]) Q E s := by
  have e : ((vs.toArray.size : Nat) : Int) = ((ns.length : Nat) : Int) := by rw [List.size_toArray, hI.length]
  exact PyProof.Rows.len_list (News.isList N hm) (by omega) (by rw [e]; exact h _ _)
def BisJ (news : List (Addr × Obj)) (q : Int → Option Bool) (lo hi : Int) (av xv kv : Value) (n : Nat) (m₁ : Str → Option Value) (news₁ : List (Addr × Obj)) : Prop :=
  news₁ = news ∧ m₁ (Str.ofString "a") = some av ∧ m₁ (Str.ofString "x") = some xv ∧ m₁ (Str.ofString "key") = some kv ∧ ∃ lo' hi' t1 t2, m₁ (Str.ofString "lo") = some (.int lo' t1) ∧ m₁ (Str.ofString "hi") = some (.int hi' t2) ∧ 0 ≤ lo' ∧ lo' < 2 ^ 60 ∧ hi' < 2 ^ 60 ∧ n = (hi' - lo').toNat ∧ bis q lo' hi' = bis q lo hi
theorem item_case {A : Around} {E : Value → Shared → Prop} {s : Shared} {value slice : PySem.Expr} {l : Addr} {vs : List Value} {c : Nat} {ns : List Int} {k : Int} {u : Tok} {Q : Value → Shared → Prop} (hA : A.handled = none) (N : News h₀ L s.heap news)
    (hm : (l, listOf vs.toArray c) ∈ news) (hI : IntsAre vs ns) (h0 : 0 ≤ k) (h63 : k < 2 ^ 63)
    (hin : k < (ns.length : Int) → ∀ t, Q (.int (ns.getD k.toNat 0) t) s)
    (hout : (ns.length : Int) ≤ k → ∀ h' tk e, Heap.NewExc s.heap h' e "IndexError" → E (.ref e) { s with heap := h', toks := tk })
    (hs : subscripted slice false (.ref l) (.int k u) = operate [.ref l, .int k u] (getItem (.ref l) (.int k u)) := by with_unfolding_all rfl) :
    wpAny (model PR w) A (subscriptTail value slice (.ref l) (.int k u)) Q E s := by
  by_cases h : k < (ns.length : Int)
  · exact item_list_intsR (News.isList N hm) hI h0 h h63 (hin h) hs
  · refine item_outK hA (News.isList N hm) (.inr ?_) (by omega) h63 (hout (by omega)) hs
    rw [List.size_toArray, hI.length]; omega
abbrev IdxRaise (base h₀ : Heap) (L : Addr) (m : Str → Option Value) (env : Env) (outer : List Env) (news : List (Addr × Obj)) (E : Value → Shared → Prop) (s : Shared) : Prop :=
  ∀ e g h' tk', Fr h₀ L g m → RaisedSN base g (env :: outer) e (.type "IndexError") news h' → g.UpToSlots h' → E (.ref e) { s with heap := h', toks := tk' }
abbrev ValRaise (base h₀ : Heap) (L : Addr) (m : Str → Option Value) (env : Env) (outer : List Env) (news : List (Addr × Obj)) (E : Value → Shared → Prop) (s : Shared) : Prop :=
  ∀ e g h' t tk tk', Fr h₀ L g m → RaisedS base g (env :: outer) e (.type "ValueError") t [.str (Str.ofString "lo must be non-negative") tk] news h' → g.UpToSlots h' → E (.ref e) { s with heap := h', toks := tk' }
abbrev IntBack (h₀ : Heap) (L : Addr) (m : Str → Option Value) (news : List (Addr × Obj)) (Q : Value → Shared → Prop) (s : Shared) (r : Int) : Prop :=
  ∀ t h' tk', Fr h₀ L h' m → News h₀ L h' news → Q (.int r t) { s with heap := h', toks := tk' }
theorem bisJ_up {q : Int → Option Bool} {lo hi lo' hi' : Int} {t1 t2 : Tok} {av xv kv mv : Value} {m₁ : Str → Option Value} 
  (ha : m₁ (Str.ofString "a") = some av) (hx : m₁ (Str.ofString "x") = some xv) (hkey : m₁ (Str.ofString "key") = some kv) (hhi : m₁ (Str.ofString "hi") = some (.int hi' t2))
  (b1 : 0 ≤ lo') (b3 : hi' < 2 ^ 60) (hlt : lo' < hi') (e : q ((lo' + hi').fdiv 2) = some true) (hb : bis q lo' hi' = bis q lo hi) :
  BisJ news q lo hi av xv kv (hi' - ((lo' + hi').fdiv 2 + 1)).toNat (fun y => if y = Str.ofString "lo" then some (.int ((lo' + hi').fdiv 2 + 1) t1) else if y = Str.ofString "mid" then some mv else m₁ y) news := by
  have h1 := mid_lo hlt
  have h2 := mid_hi hlt
  exact ⟨rfl, ha, hx, hkey, _, hi', t1, t2, rfl, hhi, by omega, by omega, b3, rfl, (bis_true hlt e).symm.trans hb⟩
theorem bisJ_down {q : Int → Option Bool} {lo hi lo' hi' : Int} {t1 t2 : Tok} {av xv kv mv : Value} {m₁ : Str → Option Value}
  (ha : m₁ (Str.ofString "a") = some av) (hx : m₁ (Str.ofString "x") = some xv) (hkey : m₁ (Str.ofString "key") = some kv) (hlo : m₁ (Str.ofString "lo") = some (.int lo' t1))
  (b1 : 0 ≤ lo') (b3 : hi' < 2 ^ 60) (hlt : lo' < hi') (e : q ((lo' + hi').fdiv 2) = some false) (hb : bis q lo' hi' = bis q lo hi) :
  BisJ news q lo hi av xv kv ((lo' + hi').fdiv 2 - lo').toNat (fun y => if y = Str.ofString "hi" then some (.int ((lo' + hi').fdiv 2) t2) else if y = Str.ofString "mid" then some mv else m₁ y) news := by
  have h1 := mid_lo hlt
  have h2 := mid_hi hlt
  exact ⟨rfl, ha, hx, hkey, lo', _, t1, t2, hlo, rfl, b1, by omega, by omega, rfl, (bis_false hlt e).symm.trans hb⟩
end
section
/-- the continuation behind a call that may have caught an exception -/
abbrev SBack (w : World) (p : Program) (loose : List Str) (mean : ExcName → Option Value) (mg mb : Str → Option Value) (A₀ : Around) (base : Heap) (outer : List Env) (h₀ : Heap) (L : Addr) (m : Str → Option Value) (s : Shared) (Q : Value → Shared → Prop) (v : Value) (news : List (Addr × Obj)) : Prop :=
  ∀ h₀' h' tk', KtsTurn (outer.filterMap (·.frame)) h₀ h₀' → Fr h₀' L h' m → News h₀' L h' news → Below A₀ base outer h₀' → (Mine.hd.heap_39 w.params).In h₀' → Top p loose mean mg mb h₀' → KtsDicts (outer.filterMap (·.frame)) h₀' → Q v { s with heap := h', toks := tk' }
/-- the words of the refusal -/
abbrev badLo (tk : Tok) : Value := .str (Str.ofString "lo must be non-negative") tk
abbrev tupOf (its : Array Value) (n : Nat) : Obj := { cls := .type "tuple", data := .seq its n }
theorem got_merge {g h : Heap} {L e t : Addr} {cls : Value} {vs : List Value} {n₂ news : List (Addr × Obj)} (G : Got n₂ e t cls vs) (N₂ : News g L h n₂) (N : News g L h news) :
    ∃ ot nt, ot.cls = .type "tuple" ∧ ot.data = .seq vs.toArray nt ∧ News g L h ((t, ot) :: news) := by
  obtain ⟨oe, ot, ws, nt, h1, h2, h3, h4, h5, h6, h7⟩ := G
  exact ⟨ot, nt, h6, h7, fun q hq => (List.mem_cons.mp hq).elim (fun e => e ▸ N₂ _ h2) (N q)⟩
end

section
variable {w : World} {A : Around} {E : Value → Shared → Prop} {Q : Flow → Shared → Prop} {s : Shared} {env : Env} {target iter : PySem.Expr} {body : List Stmt} {pos : Pos} {L : Addr} {h₀ : Heap} {m : Str → Option Value} {news : List (Addr × Obj)}
/-- a turn's end: the iterator stands as it stood, the word holds at the next number -/
def TurnEnd (s : Shared) (L I : Addr) (J : Heap → (Str → Option Value) → List (Addr × Obj) → Prop) (oI : Obj) (Q : Flow → Shared → Prop) (f : Flow) (s₃ : Shared) : Prop :=
  match f with
  | .next | .cont => ∃ h₀₂ m₂ news₂ h₂ tk₂, s₃ = { s with heap := h₂, toks := tk₂ } ∧ Fr h₀₂ L h₂ m₂ ∧ News h₀₂ L h₂ ((I, oI) :: news₂) ∧ (∀ q ∈ news₂, q.1 ≠ I) ∧ J h₀₂ m₂ news₂
  | .brk => Q .next s₃
  | .ret v => Q (.ret v) s₃
theorem TurnEnd.on {I : Addr} {J : Heap → (Str → Option Value) → List (Addr × Obj) → Prop} {oI : Obj} {h₀₂ h₂ : Heap} {m₂ : Str → Option Value} {news₂ : List (Addr × Obj)} {tk₂ : Nat}
    (F : Fr h₀₂ L h₂ m₂) (N : News h₀₂ L h₂ ((I, oI) :: news₂)) (hn : ∀ q ∈ news₂, q.1 ≠ I) (hj : J h₀₂ m₂ news₂) : TurnEnd s L I J oI Q .next { s with heap := h₂, toks := tk₂ } :=
  ⟨h₀₂, m₂, news₂, h₂, tk₂, rfl, F, N, hn, hj⟩
theorem TurnEnd.ret {I : Addr} {J : Heap → (Str → Option Value) → List (Addr × Obj) → Prop} {oI : Obj} {v : Value} {s₃ : Shared} (h : Q (.ret v) s₃) : TurnEnd s L I J oI Q (.ret v) s₃ := h

theorem forLoop_led {I : Addr} {fp : List Addr} {n : Nat} {P : Nat → Value → Prop} {St : Nat → Heap → Prop} {oI : Obj} (keep : List (Addr × Obj)) (J : Nat → Heap → (Str → Option Value) → List (Addr × Obj) → Prop)
    (W : Walks PR w A I fp [I] n P St) (hI : ∀ i h, St i h → ∃ o, h.get? I = some o) (hfp : ∀ b ∈ fp, b = I ∨ ∃ o, (b, o) ∈ keep) (hkp : ∀ i g m₁ news₁, J i g m₁ news₁ → ∀ q ∈ keep, q ∈ news₁)
    (hst : St 0 s.heap) (F : Fr h₀ L s.heap m) (N : News h₀ L s.heap ((I, oI) :: news)) (hne : ∀ q ∈ news, q.1 ≠ I) (hj : J 0 h₀ m news)
    (turn : ∀ i v g m₁ news₁ h₁ tk₁ o₁, i < n → P i v → St (i + 1) h₁ → J i g m₁ news₁ → Fr g L h₁ m₁ → News g L h₁ ((I, o₁) :: news₁) → (∀ q ∈ news₁, q.1 ≠ I) →
      wpAny (model PR w) A (letOwnedTupleGo target (.ref I) v) (fun _ s₁ => wpAny (model PR w) A (assign target env v) (fun _ s₂ => wpAny (model PR w) A (execs body env) (TurnEnd s L I (J (i + 1)) o₁ Q) E s₂) E s₁) E { s with heap := h₁, toks := tk₁ })
    (done : ∀ g m₁ news₁ h₁ tk₁, J n g m₁ news₁ → Fr g L h₁ m₁ → News g L h₁ news₁ → Q .next { s with heap := h₁, toks := tk₁ })
    (hE : PassesOwn (model PR w) A env E) :
    codeAny (model PR w) A (.forLoop target (.ref I) body [] env) (fun r s' => match r with | .ok f => Q f s' | .error e => cameBackBy (model PR w) A env E e s') s := by
  have keeps : ∀ {g h₁ h' : Heap} {m₁ : Str → Option Value} {news₁ : List (Addr × Obj)} {o₁ : Obj}, Fr g L h₁ m₁ → News g L h₁ ((I, o₁) :: news₁) → (∀ b o, b ∉ [I] → h₁.get? b = some o → h'.get? b = some o) → (∀ q ∈ news₁, q.1 ≠ I) →
      Fr g L h' m₁ ∧ News g L h' news₁ := fun {g h₁ h' m₁ news₁ o₁} F₁ N₁ hk hn => by
    have nI := N₁ _ (List.Mem.head _)
    refine ⟨⟨F₁.ns.at' fun o e => hk _ _ (fun z => ?_) e, fun b o e => hk b o (fun z => ?_) (F₁.keep b o e), F₁.above⟩, fun q hq => ⟨hk _ _ (fun z => hn q hq (List.mem_singleton.mp z)) (N₁ q (.tail _ hq)).1, (N₁ q (.tail _ hq)).2⟩⟩
    · exact nI.2.1 (List.mem_singleton.mp z).symm
    · have := nI.2.2
      rw [show ((I, o₁) : Addr × Obj).1 = b from (List.mem_singleton.mp z).symm, e] at this
      cases this
  refine codeAny_forLoop_any (fun k s' => ∃ i g m₁ news₁ h₁ tk₁ o₁, s' = { s with heap := h₁, toks := tk₁ } ∧ i ≤ n ∧ k = n - i ∧ Fr g L h₁ m₁ ∧ News g L h₁ ((I, o₁) :: news₁) ∧ (∀ q ∈ news₁, q.1 ≠ I) ∧ St i h₁ ∧ J i g m₁ news₁) ?_ n
    ⟨0, h₀, m, news, s.heap, s.toks, oI, rfl, Nat.zero_le _, by omega, F, N, hne, hst, hj⟩
  rintro k s' ⟨i, g, m₁, news₁, h₁, tk₁, o₁, rfl, hin, rfl, F₁, N₁, hn₁, st₁, J₁⟩
  by_cases hi : i < n
  · refine W.item i _ _ _ hi st₁ fun v h' tk hP hst' hk => ?_
    obtain ⟨F', N'⟩ := keeps F₁ N₁ hk hn₁
    obtain ⟨o', ho'⟩ := hI _ _ hst'
    have nI := N₁ _ (List.Mem.head _)
    have N'' : News g L h' ((I, o') :: news₁) := fun q hq => (List.mem_cons.mp hq).elim (fun e => e ▸ ⟨ho', nI.2⟩) (N' q)
    refine wpAny_passesOwn hE (wpAny_mono (turn i v g m₁ news₁ h' tk o' hi hP hst' J₁ F' N'' hn₁) (fun _ s₁ h₁' => ?_) fun _ _ e => e)
    refine wpAny_passesOwn hE (wpAny_mono h₁' (fun _ s₂ h₂ => ?_) fun _ _ e => e)
    refine wpAny_passesOwn hE (wpAny_mono h₂ (fun f s₃ h₃ => ?_) fun _ _ e => e)
    have fin : (∃ h₀₂ m₂ news₂ h₂ tk₂, s₃ = { s with heap := h₂, toks := tk₂ } ∧ Fr h₀₂ L h₂ m₂ ∧ News h₀₂ L h₂ ((I, o') :: news₂) ∧ (∀ q ∈ news₂, q.1 ≠ I) ∧ J (i + 1) h₀₂ m₂ news₂) →
        ∃ k', k' < n - i ∧ ∃ i g m₁ news₁ h₁ tk₁ o₁, s₃ = { s with heap := h₁, toks := tk₁ } ∧ i ≤ n ∧ k' = n - i ∧ Fr g L h₁ m₁ ∧ News g L h₁ ((I, o₁) :: news₁) ∧ (∀ q ∈ news₁, q.1 ≠ I) ∧ St i h₁ ∧ J i g m₁ news₁ := by
      rintro ⟨h₀₂, m₂, news₂, h₂, tk₂, e, F₂, N₂, hn₂, J₂⟩
      refine ⟨n - (i + 1), by omega, i + 1, h₀₂, m₂, news₂, h₂, tk₂, o', e, hi, rfl, F₂, N₂, hn₂, W.frame _ _ _ hst' fun b hb o e => ?_, J₂⟩
      rcases hfp b hb with rfl | ⟨ob, hob⟩
      · rw [ho'] at e
        cases e
        exact (N₂ _ (List.Mem.head _)).1
      · have e1 := (N' _ (hkp _ _ _ _ J₁ _ hob)).1
        have e2 := (N₂ _ (.tail _ (hkp _ _ _ _ J₂ _ hob))).1
        have e3 : some ob = some o := e1.symm.trans e
        exact e2.trans e3
    cases f with
    | next => exact fin h₃
    | cont => exact fin h₃
    | brk => exact h₃
    | ret v => exact h₃
  · have hin' : i = n := by omega
    subst hin'
    refine W.done _ _ _ st₁ fun h' tk hk => ?_
    obtain ⟨F', N'⟩ := keeps F₁ N₁ hk hn₁
    exact wpAny_execs_nil (done g m₁ news₁ h' tk J₁ F' N')

/-- a loop over a list of the ledger -/
theorem iter_led {l : Addr} {vs : List Value} {c : Nat} (J : Nat → Heap → (Str → Option Value) → List (Addr × Obj) → Prop) (hh : A.handled = none) (F : Fr h₀ L s.heap m) (N : News h₀ L s.heap news)
    (hl : ∀ i g m₁ news₁, J i g m₁ news₁ → (l, listOf vs.toArray c) ∈ news₁) (hj : J 0 h₀ m news)
    (turn : ∀ I i v g m₁ news₁ h₁ tk₁ o₁, (∀ q ∈ news, q.1 < I) → vs[i]? = some v → h₁.IsListIter I l (i + 1) → J i g m₁ news₁ → Fr g L h₁ m₁ → News g L h₁ ((I, o₁) :: news₁) → (∀ q ∈ news₁, q.1 ≠ I) →
      wpAny (model PR w) A (letOwnedTupleGo target (.ref I) v) (fun _ s₁ => wpAny (model PR w) A (assign target env v) (fun _ s₂ => wpAny (model PR w) A (execs body env) (TurnEnd s L I (J (i + 1)) o₁ Q) E s₂) E s₁) E { s with heap := h₁, toks := tk₁ })
    (done : ∀ g m₁ news₁ h₁ tk₁, J vs.length g m₁ news₁ → Fr g L h₁ m₁ → News g L h₁ news₁ → Q .next { s with heap := h₁, toks := tk₁ })
    (hE : PassesOwn (model PR w) A env E) :
    wpAny (model PR w) A (pyIter (.ref l)) (fun it s₂ => codeAny (model PR w) A (.forLoop target it body [] env) (fun r s' => match r with | .ok f => Q f s' | .error e => cameBackBy (model PR w) A env E e s') s₂) E s := by
  have hm := hl _ _ _ _ hj
  have hls : s.heap.IsList l vs.toArray := News.isList N hm
  have hlt : ∀ q ∈ news, q.1 < s.heap.objs.size := fun q hq => Heap.lt_size (N q hq).1
  refine wpAny_pyIter_list hls ?_
  have W := Walks.list (prog := PR) (w := w) hh s.heap.objs.size l (Nat.ne_of_lt (hlt _ hm)) vs.toArray
  rw [List.size_toArray] at W
  refine forLoop_led [(l, listOf vs.toArray c)] J W (fun i h st => let ⟨o, ho, _⟩ := st.1; ⟨o, ho⟩) (fun b hb => ?_) (fun i g m₁ news₁ hJ q hq => by rw [List.mem_singleton.mp hq]; exact hl _ _ _ _ hJ) ⟨⟨_, Heap.get?_push_size _ rfl, rfl, rfl⟩, hls.at fun o e => Heap.get?_push_of_some _ e⟩ (F.push _) (N.push F _) (fun q hq => Nat.ne_of_lt (hlt q hq)) hj ?_ done hE
  · rcases List.mem_cons.mp hb with rfl | hb
    · exact .inl rfl
    · exact .inr ⟨_, by rw [List.mem_singleton.mp hb]; exact List.Mem.head _⟩
  · intro i v g m₁ news₁ h₁ tk₁ o₁ hi hP hst hJ F₁ N₁ hn₁
    exact turn _ i v g m₁ news₁ h₁ tk₁ o₁ hlt (by simpa using hP) hst.1 hJ F₁ N₁ hn₁

/-- a loop over a range by ones -/
theorem iter_rng {r : Addr} {a b : Int} {t u v : Tok} {n : Nat} (J : Nat → Heap → (Str → Option Value) → List (Addr × Obj) → Prop) (hh : A.handled = none) (hr : IsRange s.heap r a b 1 t u v) (hsm : Builtin.Range.small a b 1 = true) (hn : Builtin.Range.rangeSize a b 1 = (n : Int)) (F : Fr h₀ L s.heap m) (N : News h₀ L s.heap news) (hj : J 0 h₀ m news)
    (turn : ∀ I i t g m₁ news₁ h₁ tk₁ o₁, (∀ q ∈ news, q.1 < I) → i < n → J i g m₁ news₁ → Fr g L h₁ m₁ → News g L h₁ ((I, o₁) :: news₁) → (∀ q ∈ news₁, q.1 ≠ I) →
      wpAny (model PR w) A (letOwnedTupleGo target (.ref I) (.int (a + i) t)) (fun _ s₁ => wpAny (model PR w) A (assign target env (.int (a + i) t)) (fun _ s₂ => wpAny (model PR w) A (execs body env) (TurnEnd s L I (J (i + 1)) o₁ Q) E s₂) E s₁) E { s with heap := h₁, toks := tk₁ })
    (done : ∀ g m₁ news₁ h₁ tk₁, J n g m₁ news₁ → Fr g L h₁ m₁ → News g L h₁ news₁ → Q .next { s with heap := h₁, toks := tk₁ })
    (hE : PassesOwn (model PR w) A env E) :
    wpAny (model PR w) A (pyIter (.ref r)) (fun it s₂ => codeAny (model PR w) A (.forLoop target it body [] env) (fun r s' => match r with | .ok f => Q f s' | .error e => cameBackBy (model PR w) A env E e s') s₂) E s := by
  have hlt : ∀ q ∈ news, q.1 < s.heap.objs.size := fun q hq => Heap.lt_size (N q hq).1
  refine wpAny_pyIter_range hr hsm ?_
  have W := Walks.range (prog := PR) (w := w) hh s.heap.objs.size a 1 n
  refine forLoop_led [] J W (fun i h st => ⟨_, st⟩) (fun b hb => .inl (List.mem_singleton.mp hb)) (fun i g m₁ news₁ hJ q hq => nomatch hq) ?_ (F.push _) (N.push F _) (fun q hq => Nat.ne_of_lt (hlt q hq)) hj ?_ done hE
  · rw [hn]
    show Heap.get? _ _ = _
    have e1 : a + ((0 : Nat) : Int) * 1 = a := by omega
    have e2 : (n : Int) - ((0 : Nat) : Int) = n := by omega
    rw [e1, e2]
    exact Heap.get?_push_size _ rfl
  · rintro i v g m₁ news₁ h₁ tk₁ o₁ hi ⟨t, rfl⟩ hst hJ F₁ N₁ hn₁
    rw [Int.mul_one]
    exact turn _ i t g m₁ news₁ h₁ tk₁ o₁ hlt hi hJ F₁ N₁ hn₁
theorem iter_rng0 {r : Addr} {b : Int} {t u v : Tok} {n : Nat} (J : Nat → Heap → (Str → Option Value) → List (Addr × Obj) → Prop) (hh : A.handled = none) (hr : IsRange s.heap r 0 b 1 t u v) (hb : b = (n : Int)) (hn : n < 2 ^ 60) (F : Fr h₀ L s.heap m) (N : News h₀ L s.heap news) (hj : J 0 h₀ m news)
    (turn : ∀ I i t g m₁ news₁ h₁ tk₁ o₁, (∀ q ∈ news, q.1 < I) → i < n → J i g m₁ news₁ → Fr g L h₁ m₁ → News g L h₁ ((I, o₁) :: news₁) → (∀ q ∈ news₁, q.1 ≠ I) →
      wpAny (model PR w) A (letOwnedTupleGo target (.ref I) (.int (i : Nat) t)) (fun _ s₁ => wpAny (model PR w) A (assign target env (.int (i : Nat) t)) (fun _ s₂ => wpAny (model PR w) A (execs body env) (TurnEnd s L I (J (i + 1)) o₁ Q) E s₂) E s₁) E { s with heap := h₁, toks := tk₁ })
    (done : ∀ g m₁ news₁ h₁ tk₁, J n g m₁ news₁ → Fr g L h₁ m₁ → News g L h₁ news₁ → Q .next { s with heap := h₁, toks := tk₁ })
    (hE : PassesOwn (model PR w) A env E) :
    wpAny (model PR w) A (pyIter (.ref r)) (fun it s₂ => codeAny (model PR w) A (.forLoop target it body [] env) (fun r s' => match r with | .ok f => Q f s' | .error e => cameBackBy (model PR w) A env E e s') s₂) E s := by
  subst hb
  refine iter_rng (n := n) J hh hr ?_ ?_ F N hj (fun I i t g m₁ news₁ h₁ tk₁ o₁ h1 h2 h3 h4 h5 h6 => ?_) done hE
  · exact small_one (by omega) (by omega) (by omega) (by omega)
  · unfold Builtin.Range.rangeSize; simp; omega
  · rw [Int.zero_add]
    exact turn I i t g m₁ news₁ h₁ tk₁ o₁ h1 h2 h3 h4 h5 h6
end

section
variable {w : World} {A : Around} {h₀ : Heap} {L : Addr} {m : Str → Option Value} {env : Env} {elt : PySem.Expr} {x : Str} {scope : Scope} {cl : List (Str × Addr)} {s : Shared} {S : List (Addr × Obj) → Prop} {P : Nat → Value → Prop} {Fin : List Value → List (Addr × Obj) → Prop} {news : List (Addr × Obj)}
/-- an element's end: all stands as it stood, and the value is as told -/
def EltEnd (s : Shared) (h₀ : Heap) (L : Addr) (m : Str → Option Value) (led : List (Addr × Obj)) (R : Value → Prop) (y : Value) (s₂ : Shared) : Prop :=
  ∃ h' tk', s₂ = { s with heap := h', toks := tk' } ∧ Fr h₀ L h' m ∧ News h₀ L h' led ∧ R y
theorem comp_all {n : Nat} (R : Nat → Value → Prop) (hS : S news)
    (turn : ∀ i v I oI C oC D m₂ ys h tk (E' : Value → Shared → Prop), i < n → P i v → LCg.NsObj oC m₂ → m₂ x = some v → Fr h₀ L h m → News h₀ L h ((I, oI) :: (C, oC) :: (D, LCg.lst ys) :: news) → LCg.Off3 I C D news → ((@Ne Nat I C) ∧ (@Ne Nat I D) ∧ (@Ne Nat C D)) →
      wpAny (model PR w) A (eval elt (compEnvC scope cl C env)) (EltEnd s h₀ L m ((I, oI) :: (C, oC) :: (D, LCg.lst ys) :: news) (R i)) E' { s with heap := h, toks := tk })
    (fin : ∀ ys : List Value, ys.length = n → (∀ i v, ys[i]? = some v → R i v) → Fin ys news) : LCg.CompRest PR w A h₀ L m env elt x scope cl s S P Fin n 0 [] news := by
  have key : ∀ (j i : Nat) (ys : List Value), i + j = n → ys.length = i → (∀ k v, ys[k]? = some v → R k v) → LCg.CompRest PR w A h₀ L m env elt x scope cl s S P Fin j i ys news := by
    intro j
    induction j with
    | zero => exact fun i ys hi hy hr => LCg.CompRest.zero (fin ys (by omega) hr)
    | succ j ih =>
      intro i ys hi hy hr
      refine LCg.CompRest.succ ?_
      intro v I oI C oC D m₂ h tk E' hv hC hx F N off ne
      refine wpAny_mono (turn i v I oI C oC D m₂ ys h tk E' (by omega) hv hC hx F N off ne) (fun y s₂ hq => ?_) fun _ _ e => e
      obtain ⟨h', tk', rfl, F', N', hR⟩ := hq
      refine ⟨h', tk', news, rfl, F', N', off, hS, ih (i + 1) _ (by omega) (by rw [List.length_append, hy]; rfl) fun k u hk => ?_⟩
      by_cases hlt : k < ys.length
      · rw [List.getElem?_append_left hlt] at hk
        exact hr k u hk
      · rw [List.getElem?_append_right (by omega)] at hk
        cases hz : k - ys.length with
        | zero =>
          rw [hz] at hk
          cases hk
          have : k = i := by omega
          rw [this]; exact hR
        | succ z => rw [hz] at hk; simp at hk
  exact key n 0 [] (by omega) rfl fun k v hk => by simp at hk
end
section
theorem boolsAre_map : ∀ bs : List Bool, LSm.BoolsAre (bs.map Value.bool) bs
  | [] => .nil
  | b :: bs => .cons b (boolsAre_map bs)
theorem bools_eq {f : Nat → Bool} {n : Nat} {ys : List Value} (hl : ys.length = n) (h : ∀ (i : Nat) (v : Value), ys[i]? = some v → v = Value.bool (f i)) : ys = ((List.range n).map f).map Value.bool := by
  refine List.ext_getElem? fun i => ?_
  rw [List.getElem?_map, List.getElem?_map]
  by_cases hi : i < n
  · have hy : i < ys.length := by omega
    rw [List.getElem?_range hi, List.getElem?_eq_getElem hy]
    have e := h i _ (List.getElem?_eq_getElem hy)
    rw [e]
    rfl
  · rw [List.getElem?_eq_none (by omega), List.getElem?_eq_none (by rw [List.length_range]; omega)]
    rfl
end

local macro_rules | `(tactic| walk_at "mine fill") => `(tactic| ((have hfill : Mine.hd.heap_39 = Mine.hd.heap_39 ∧ PySem.Challenge.rw_mr0003_01 = PySem.Challenge.rw_mr0003_01 := by (k_fill; exact ⟨rfl, rfl⟩)); clear hfill))
local macro_rules | `(tactic| walk_at "mine enter") => `(tactic| (refine wpAny_call ?_; k_dflt (refine' code_def ?k1 ?k2 ?k3 ?k4 ?k5 ?kA ?kF ?kK ?k6 ?k7 ?k8 ?k9 ?kB ?_ ?c2 ?c3 ?c4 ?c5; (case kA => exact rfl); (case kF => exact rfl); (case kK => assumption); (case k1 => k_asm); (case k2 => k_asm); (case k3 => k_asm); (case k4 => k_asm); (case k5 => k_asm); (case k6 => k_is); (case k7 => k_is); (case k8 => ktr_room); (case k9 => first | exact BindsTo.of_eq rfl | exact binds_K (by k_in) rfl (by k_is) rfl rfl rfl | exact binds_KK (by k_in) rfl (by k_is) rfl rfl rfl (by k_is) rfl); (case c5 => decide); (case kB => exact locs rfl); (case c2 => exact rfl); (case c3 => exact rfl); (case c4 => exact rfl); k_whole; intro g' L' h' FG' F' N' B' X' T'; (try dsimp only); (try k_lift B'); (try k_fold))))
local macro_rules | `(tactic| walk_at "exec Raise some none") => `(tactic| (k_here; (with_reducible show wpAny _ _ (exec (Stmt.Raise (some (Expr.Call (Expr.Name ("ValueError" : Str) _) _ [] _)) none _) _) _ _ _); with_unfolding_all refine Raise_madeB PySem.F.excCall_ValueError PySem.F.excRaise_ValueError rfl ?_))
local macro_rules | `(tactic| walk_at "eval Name") => `(tactic| (k_here; k_dflt (refine' nameX_L ?F ?v ?_ ?a ?b; (case F => k_asm); (case a => rfl); (case b => rfl); (case v => assumption); k_whole)))
local macro_rules | `(tactic| walk_at "mine steps") => `(tactic| repeat' (first | (k_unfold; (try dsimp only)) | ((fail_if_success (with_reducible show wpAny _ _ (exec (Stmt.While _ _ _ _) _) _ _ _)); (fail_if_success (with_reducible show wpAny _ _ (eval (Expr.IfExp _ _ _ _) _) _ _ _)); (fail_if_success (with_reducible show wpAny _ _ (call (Value.type "list") _ _) _ _ _)); (fail_if_success (with_reducible show LCg.CompSrc _ _ _ _ _ _ _ _ _ _ _ _ _ _)); (fail_if_success (with_reducible show wpAny _ _ (eval (Expr.ListComp _ _ _ _) _) _ _ _)); (fail_if_success (with_reducible show wpAny _ _ (exec (Stmt.Assign _ (Expr.ListComp _ _ _ _) _) _) _ _ _)); (fail_if_success (with_reducible show wpAny _ _ (compareOp CmpOp.Eq (Value.ref _) (Value.ref _)) _ _ _)); (fail_if_success (with_reducible show wpAny _ _ (compareOp CmpOp.NotEq (Value.ref _) (Value.ref _)) _ _ _)); (fail_if_success (with_reducible show wpAny _ _ (pyIter _) _ _ _)); (fail_if_success (with_reducible show wpAny _ _ (exec (Stmt.For _ _ _ _ _) _) _ _ _)); (fail_if_success (with_reducible show wpAny _ _ (call (Value.ref _) _ _) _ _ _)); (fail_if_success (with_reducible show wpAny _ _ (subscriptTail _ _ (Value.ref _) (Value.int _ _)) _ _ _)); first | walk1 | (dsimp only; walk1) | (leave1; try dsimp only))))
local macro_rules | `(tactic| walk_at "call builtin:len") => `(tactic| (k_here; (with_reducible show wpAny _ _ (call (Value.builtin "len") [Value.ref _]) _ _ _); k_dflt (refine' len_ints ?N ?m ?i ?z ?_; (case N => k_asm); (case m => assumption); (case i => assumption); (case z => assumption); k_whole); intro t9 tk9; (try dsimp only)))
local macro_rules | `(tactic| walk_at "leaving ref") => `(tactic| (k_here; first
  | (refine' leave_raiseS ?k1 ?k0 ?k2 ?k3 ?_; (case k0 => exact Heap.MadeExc.of (by assumption)); (case k2 => assumption); (case k1 => assumption); (case k3 => k_asm); k_whole; intro h' t' S' R' U'; clear R'; (try dsimp only at S' U' ⊢))
  | (refine' leave_newS ?k1 ?k0 ?k2 ?k3 ?_; (case k0 => assumption); (case k2 => assumption); (case k1 => assumption); (case k3 => k_asm); k_whole; intro h' S' R' U'; clear R'; (try dsimp only at S' U' ⊢))
  | (refine' leave_onS ?k1 ?k2 ?k3 ?k4 ?_; (case k3 => assumption); (case k1 => assumption); (case k4 => assumption); (case k2 => assumption); k_whole; intro h' S' R' U'; clear R'; (try dsimp only at S' U' ⊢))
  | (refine' leave_onSN ?k1 ?k2 ?k3 ?k4 ?_; (case k3 => assumption); (case k1 => assumption); (case k4 => assumption); (case k2 => assumption); k_whole; intro h' S' R' U'; clear R'; (try dsimp only at S' U' ⊢))))
local macro_rules | `(tactic| walk_at "mine enterS") => `(tactic| (refine wpAny_call ?_; k_dflt (refine' code_defX ?k1 ?k2 ?k3 ?k4 ?k5 ?kXB ?kTB ?kD ?kA ?kF ?kK ?k6 ?k7 ?k8 ?k9 ?kB ?_ ?c2 ?c3 ?c4 ?c5; (case kA => exact rfl); (case kF => exact rfl); (case kK => assumption); (case k1 => k_asm); (case k2 => k_asm); (case k3 => k_asm); (case k4 => k_asm); (case k5 => k_asm); (case kXB => k_asm); (case kTB => k_asm); (case kD => k_asm); (case k6 => k_is); (case k7 => k_is); (case k8 => ktr_room); (case k9 => first | exact BindsTo.of_eq rfl | exact binds_K (by k_in) rfl (by k_is) rfl rfl rfl | exact binds_KK (by k_in) rfl (by k_is) rfl rfl rfl (by k_is) rfl); (case c5 => decide); (case kB => exact locs rfl); (case c2 => exact rfl); (case c3 => exact rfl); (case c4 => exact rfl); k_whole; intro g' L' h' FG' F' N' B' X' T' D'; (try dsimp only); (try k_lift B'); (try k_fold))))
local macro_rules | `(tactic| walk_at "eval Attribute Name") => `(tactic| (k_here; (obtain ⟨ot9, nt9, oc9, od9, NM9⟩ := got_merge (by assumption) (by assumption) (by assumption)); (refine Attribute_name ?_)))
local macro_rules | `(tactic| walk_at "loadName") => `(tactic| (k_here; k_dflt (refine' ldn ?F ?v ?_; (case F => k_asm); (case v => first | assumption | rfl); k_whole)))
local macro_rules | `(tactic| k_mem) => `(tactic| assumption)
local macro_rules | `(tactic| news_mem) => `(tactic| k_mem)
local macro_rules | `(tactic| walk_at "mine enterC") => `(tactic| (refine wpAny_call ?_; k_dflt (refine' code_defC ?k1 ?k2 ?k3 ?k4 ?k5 ?kA ?kF ?kK ?k6 ?k7 ?k8 ?k9 ?kB ?kD ?_ ?c2 ?c3 ?c4; (case kA => exact rfl); (case kF => exact rfl); (case kK => assumption); (case k1 => k_asm); (case k2 => k_asm); (case k3 => k_asm); (case k4 => k_asm); (case k5 => k_asm); (case k6 => k_is); (case k7 => k_is); (case k8 => ktr_room); (case k9 => exact BindsTo.of_eq rfl); (case kB => exact rfl); (case kD => decide +kernel); (case c2 => exact rfl); (case c3 => exact rfl); (case c4 => exact rfl); k_whole; intro g' L' h' tk' cells' FG' F' N' Y' B' X' T' l1; k_cells Y'; (try simp only [List.cons_append, List.nil_append] at N'); (try dsimp only); (try k_lift B'); (try k_fold))))
local macro_rules | `(tactic| walk_at "mine enterSC") => `(tactic| (refine wpAny_call ?_; k_dflt (refine' code_defXC ?k1 ?k2 ?k3 ?k4 ?k5 ?kXB ?kTB ?kDD ?kA ?kF ?kK ?k6 ?k7 ?k8 ?k9 ?kB ?kD ?_ ?c2 ?c3 ?c4; (case kA => exact rfl); (case kF => exact rfl); (case kK => assumption); (case k1 => k_asm); (case k2 => k_asm); (case k3 => k_asm); (case k4 => k_asm); (case k5 => k_asm); (case kXB => k_asm); (case kTB => k_asm); (case kDD => k_asm); (case k6 => k_is); (case k7 => k_is); (case k8 => ktr_room); (case k9 => exact BindsTo.of_eq rfl); (case kB => exact rfl); (case kD => decide +kernel); (case c2 => exact rfl); (case c3 => exact rfl); (case c4 => exact rfl); k_whole; intro g' L' h' tk' cells' FG' F' N' Y' B' X' T' D' l1; k_cells Y'; (try simp only [List.cons_append, List.nil_append] at N'); (try dsimp only); (try k_lift B'); (try k_fold))))
local macro_rules | `(tactic| walk_at "call builtin:len") => `(tactic| (k_here; (with_reducible show wpAny _ _ (call (Value.builtin "len") [Value.ref _]) _ _ _); k_dflt (refine' len_ints ?N ?m ?i ?z ?_; (case N => k_asm); (case m => k_mem); (case i => assumption); (case z => assumption); k_whole); intro t9 tk9; (try dsimp only)))

section
variable {w : World} {p : Program} {loose : List Str} {mean : ExcName → Option Value} {mg mb : Str → Option Value}
  {dp un : Nat} {gd : Option (List Code)} {cn : Str} {cs : Scope} {a : Addr} {ccd : Value} {cl : List (Str × Addr)} {outer : List Env} {A₀ : Around} {base h₀ : Heap} {L : Addr} {m : Str → Option Value} {s : Shared} {Q E : Value → Shared → Prop} {news : List (Addr × Obj)}
theorem minus_spec {n : Int} {t : Tok}
  (B : Below A₀ base outer h₀) (F : Fr h₀ L s.heap m) (X : (Mine.hd.heap_39 w.params).In h₀) (N : News h₀ L s.heap news) (T : Top p loose mean mg mb h₀) (hk : cs.kind = .function)
  (hdp : dp + 1 < recursionLimit) (hun : un + 8 < cLine)
  (hret : ∀ t h' tk', Fr h₀ L h' m → News h₀ L h' news → Q (.int (-n) t) {s with heap := h', toks := tk'}) :
  wpAny (model PR w) (ktrTop dp un gd cn cs L a ccd cl outer) (call (.ref 90) [.int n t]) Q E s := by
  walk_at "mine fill"
  walk_at "mine enter"
  k_steps
  exact hret _ _ _ (by assumption) (by assumption)

set_option maxHeartbeats 8000000 in
theorem bl_spec {l : Addr} {vs : List Value} {c : Nat} {ns : List Int} {x lo hi : Int} {tx tl : Tok} {hv : Value} {kw : List (Str × Value)} {κ : Int → Int}
  (B : Below A₀ base outer h₀) (F : Fr h₀ L s.heap m) (X : (Mine.hd.heap_39 w.params).In h₀) (N : News h₀ L s.heap news) (T : Top p loose mean mg mb h₀) (hk : cs.kind = .function)
  (hdp : dp + 3 < recursionLimit) (hun : un + 20 < cLine)
  (hl : (l, listOf vs.toArray c) ∈ news) (hI : IntsAre vs ns) (hlen : (ns.length : Int) < 2 ^ 60) (hl1 : lo < 2 ^ 60) (hl2 : 0 ≤ lo → hi < 2 ^ 60)
  (hhv : (hv = .none ∧ hi = ns.length) ∨ ∃ t, hv = .int hi t)
  (hkw : ((kw = [] ∨ kw = [(Str.ofString "key", .none)]) ∧ κ = id) ∨ (kw = [(Str.ofString "key", .ref 90)] ∧ κ = fun z => -z))
  (hret : ∀ r, 0 ≤ lo → bis (ahead true κ ns x) lo hi = some r → IntBack h₀ L m news Q s r)
  (hidx : 0 ≤ lo → bis (ahead true κ ns x) lo hi = none → IdxRaise base h₀ L m (envX cn cs L a ccd cl) outer news E s)
  (hval : lo < 0 → ValRaise base h₀ L m (envX cn cs L a ccd cl) outer news E s) :
  wpAny (model PR w) (ktrTop dp un gd cn cs L a ccd cl outer) (call (.ref 50) [.ref l, .int x tx, .int lo tl, hv] kw) Q E s := by
  walk_at "mine fill"

  rcases hkw with ⟨rfl | rfl, rfl⟩ | ⟨rfl, rfl⟩ <;> rcases hhv with ⟨rfl, rfl⟩ | ⟨th, rfl⟩
  · walk_at "mine enter"
    walk_at "mine steps"
    · exact hval (by assumption) _ _ _ _ _ _ (by assumption) (by assumption) (by assumption)
    · refine While_inv2 (BisJ news (ahead true id ns x) lo (ns.length : Int) (.ref l) (.int x tx) .none) (n₀ := ((ns.length : Int) - lo).toNat) (by assumption) (by assumption) ?wJ ?_
      (case wJ => exact ⟨rfl, rfl, rfl, rfl, lo, (ns.length : Int), tl, _, rfl, rfl, by omega, hl1, hl2 (by omega), rfl, rfl⟩)
      intro n m₁ news₁ h₁ tk₁ F₁ N₁ ⟨e1, ha, hx, hkey, lo', hi', t1, t2, hlo, hhi, b1, b2, b3, e2, hb⟩
      subst e1 e2
      walk_at "mine steps"
      · rename lo' < hi' => hlt
        have hm1 := mid_lo hlt
        have hm2 := mid_hi hlt
        refine item_case rfl (by assumption) hl hI (by omega) (by omega) ?_ ?_
        · intro hin t
          walk_at "mine steps"
          · exact ⟨_, _, _, _, _, rfl, by assumption, by assumption, by omega, bisJ_up ha hx hkey hhi b1 b3 hlt (ahead_left_t (by omega) hin (by assumption)) hb⟩
          · exact ⟨_, _, _, _, _, rfl, by assumption, by assumption, by omega, bisJ_down ha hx hkey hlo b1 b3 hlt (ahead_left_f (by omega) hin (by assumption)) hb⟩
        · intro hout h' tk e hx
          dsimp only at hx
          walk_at "mine steps"
          exact hidx (by omega) (hb.symm.trans (bis_none hlt (ahead_out hout))) _ _ _ _ (by assumption) (by assumption) (by assumption)
      · exact hret _ (by omega) (hb.symm.trans (bis_stop (by assumption))) _ _ _ (by assumption) (by assumption)
  · walk_at "mine enter"
    walk_at "mine steps"
    · exact hval (by assumption) _ _ _ _ _ _ (by assumption) (by assumption) (by assumption)
    · refine While_inv2 (BisJ news (ahead true id ns x) lo hi (.ref l) (.int x tx) .none) (n₀ := (hi - lo).toNat) (by assumption) (by assumption) ?wJ ?_
      (case wJ => exact ⟨rfl, rfl, rfl, rfl, lo, hi, tl, _, rfl, rfl, by omega, hl1, hl2 (by omega), rfl, rfl⟩)
      intro n m₁ news₁ h₁ tk₁ F₁ N₁ ⟨e1, ha, hx, hkey, lo', hi', t1, t2, hlo, hhi, b1, b2, b3, e2, hb⟩
      subst e1 e2
      walk_at "mine steps"
      · rename lo' < hi' => hlt
        have hm1 := mid_lo hlt
        have hm2 := mid_hi hlt
        refine item_case rfl (by assumption) hl hI (by omega) (by omega) ?_ ?_
        · intro hin t
          walk_at "mine steps"
          · exact ⟨_, _, _, _, _, rfl, by assumption, by assumption, by omega, bisJ_up ha hx hkey hhi b1 b3 hlt (ahead_left_t (by omega) hin (by assumption)) hb⟩
          · exact ⟨_, _, _, _, _, rfl, by assumption, by assumption, by omega, bisJ_down ha hx hkey hlo b1 b3 hlt (ahead_left_f (by omega) hin (by assumption)) hb⟩
        · intro hout h' tk e hx
          dsimp only at hx
          walk_at "mine steps"
          exact hidx (by omega) (hb.symm.trans (bis_none hlt (ahead_out hout))) _ _ _ _ (by assumption) (by assumption) (by assumption)
      · exact hret _ (by omega) (hb.symm.trans (bis_stop (by assumption))) _ _ _ (by assumption) (by assumption)
  · walk_at "mine enter"
    walk_at "mine steps"
    · exact hval (by assumption) _ _ _ _ _ _ (by assumption) (by assumption) (by assumption)
    · refine While_inv2 (BisJ news (ahead true id ns x) lo (ns.length : Int) (.ref l) (.int x tx) .none) (n₀ := ((ns.length : Int) - lo).toNat) (by assumption) (by assumption) ?wJ ?_
      (case wJ => exact ⟨rfl, rfl, rfl, rfl, lo, (ns.length : Int), tl, _, rfl, rfl, by omega, hl1, hl2 (by omega), rfl, rfl⟩)
      intro n m₁ news₁ h₁ tk₁ F₁ N₁ ⟨e1, ha, hx, hkey, lo', hi', t1, t2, hlo, hhi, b1, b2, b3, e2, hb⟩
      subst e1 e2
      walk_at "mine steps"
      · rename lo' < hi' => hlt
        have hm1 := mid_lo hlt
        have hm2 := mid_hi hlt
        refine item_case rfl (by assumption) hl hI (by omega) (by omega) ?_ ?_
        · intro hin t
          walk_at "mine steps"
          · exact ⟨_, _, _, _, _, rfl, by assumption, by assumption, by omega, bisJ_up ha hx hkey hhi b1 b3 hlt (ahead_left_t (by omega) hin (by assumption)) hb⟩
          · exact ⟨_, _, _, _, _, rfl, by assumption, by assumption, by omega, bisJ_down ha hx hkey hlo b1 b3 hlt (ahead_left_f (by omega) hin (by assumption)) hb⟩
        · intro hout h' tk e hx
          dsimp only at hx
          walk_at "mine steps"
          exact hidx (by omega) (hb.symm.trans (bis_none hlt (ahead_out hout))) _ _ _ _ (by assumption) (by assumption) (by assumption)
      · exact hret _ (by omega) (hb.symm.trans (bis_stop (by assumption))) _ _ _ (by assumption) (by assumption)
  · walk_at "mine enter"
    walk_at "mine steps"
    · exact hval (by assumption) _ _ _ _ _ _ (by assumption) (by assumption) (by assumption)
    · refine While_inv2 (BisJ news (ahead true id ns x) lo hi (.ref l) (.int x tx) .none) (n₀ := (hi - lo).toNat) (by assumption) (by assumption) ?wJ ?_
      (case wJ => exact ⟨rfl, rfl, rfl, rfl, lo, hi, tl, _, rfl, rfl, by omega, hl1, hl2 (by omega), rfl, rfl⟩)
      intro n m₁ news₁ h₁ tk₁ F₁ N₁ ⟨e1, ha, hx, hkey, lo', hi', t1, t2, hlo, hhi, b1, b2, b3, e2, hb⟩
      subst e1 e2
      walk_at "mine steps"
      · rename lo' < hi' => hlt
        have hm1 := mid_lo hlt
        have hm2 := mid_hi hlt
        refine item_case rfl (by assumption) hl hI (by omega) (by omega) ?_ ?_
        · intro hin t
          walk_at "mine steps"
          · exact ⟨_, _, _, _, _, rfl, by assumption, by assumption, by omega, bisJ_up ha hx hkey hhi b1 b3 hlt (ahead_left_t (by omega) hin (by assumption)) hb⟩
          · exact ⟨_, _, _, _, _, rfl, by assumption, by assumption, by omega, bisJ_down ha hx hkey hlo b1 b3 hlt (ahead_left_f (by omega) hin (by assumption)) hb⟩
        · intro hout h' tk e hx
          dsimp only at hx
          walk_at "mine steps"
          exact hidx (by omega) (hb.symm.trans (bis_none hlt (ahead_out hout))) _ _ _ _ (by assumption) (by assumption) (by assumption)
      · exact hret _ (by omega) (hb.symm.trans (bis_stop (by assumption))) _ _ _ (by assumption) (by assumption)
  · walk_at "mine enter"
    walk_at "mine steps"
    · exact hval (by assumption) _ _ _ _ _ _ (by assumption) (by assumption) (by assumption)
    · refine While_inv2 (BisJ news (ahead true (fun z => -z) ns x) lo (ns.length : Int) (.ref l) (.int x tx) (.ref 90)) (n₀ := ((ns.length : Int) - lo).toNat) (by assumption) (by assumption) ?wJ ?_
      (case wJ => exact ⟨rfl, rfl, rfl, rfl, lo, (ns.length : Int), tl, _, rfl, rfl, by omega, hl1, hl2 (by omega), rfl, rfl⟩)
      intro n m₁ news₁ h₁ tk₁ F₁ N₁ ⟨e1, ha, hx, hkey, lo', hi', t1, t2, hlo, hhi, b1, b2, b3, e2, hb⟩
      subst e1 e2
      walk_at "mine steps"
      · rename lo' < hi' => hlt
        have hm1 := mid_lo hlt
        have hm2 := mid_hi hlt
        refine item_case rfl (by assumption) hl hI (by omega) (by omega) ?_ ?_
        · intro hin t
          walk_at "mine steps"
          refine minus_spec (by assumption) (by assumption) (by assumption) (by assumption) (by assumption) rfl (by show dp + 1 + 1 < recursionLimit; omega) (by show un + 3 + 8 < cLine; omega) ?_
          intro t9 h9 tk9 F9 N9
          walk_at "mine steps"
          · exact ⟨_, _, _, _, _, rfl, by assumption, by assumption, by omega, bisJ_up ha hx hkey hhi b1 b3 hlt (ahead_left_t (by omega) hin (by assumption)) hb⟩
          · exact ⟨_, _, _, _, _, rfl, by assumption, by assumption, by omega, bisJ_down ha hx hkey hlo b1 b3 hlt (ahead_left_f (by omega) hin (by assumption)) hb⟩
        · intro hout h' tk e hx
          dsimp only at hx
          walk_at "mine steps"
          exact hidx (by omega) (hb.symm.trans (bis_none hlt (ahead_out hout))) _ _ _ _ (by assumption) (by assumption) (by assumption)
      · exact hret _ (by omega) (hb.symm.trans (bis_stop (by assumption))) _ _ _ (by assumption) (by assumption)
  · walk_at "mine enter"
    walk_at "mine steps"
    · exact hval (by assumption) _ _ _ _ _ _ (by assumption) (by assumption) (by assumption)
    · refine While_inv2 (BisJ news (ahead true (fun z => -z) ns x) lo hi (.ref l) (.int x tx) (.ref 90)) (n₀ := (hi - lo).toNat) (by assumption) (by assumption) ?wJ ?_
      (case wJ => exact ⟨rfl, rfl, rfl, rfl, lo, hi, tl, _, rfl, rfl, by omega, hl1, hl2 (by omega), rfl, rfl⟩)
      intro n m₁ news₁ h₁ tk₁ F₁ N₁ ⟨e1, ha, hx, hkey, lo', hi', t1, t2, hlo, hhi, b1, b2, b3, e2, hb⟩
      subst e1 e2
      walk_at "mine steps"
      · rename lo' < hi' => hlt
        have hm1 := mid_lo hlt
        have hm2 := mid_hi hlt
        refine item_case rfl (by assumption) hl hI (by omega) (by omega) ?_ ?_
        · intro hin t
          walk_at "mine steps"
          refine minus_spec (by assumption) (by assumption) (by assumption) (by assumption) (by assumption) rfl (by show dp + 1 + 1 < recursionLimit; omega) (by show un + 3 + 8 < cLine; omega) ?_
          intro t9 h9 tk9 F9 N9
          walk_at "mine steps"
          · exact ⟨_, _, _, _, _, rfl, by assumption, by assumption, by omega, bisJ_up ha hx hkey hhi b1 b3 hlt (ahead_left_t (by omega) hin (by assumption)) hb⟩
          · exact ⟨_, _, _, _, _, rfl, by assumption, by assumption, by omega, bisJ_down ha hx hkey hlo b1 b3 hlt (ahead_left_f (by omega) hin (by assumption)) hb⟩
        · intro hout h' tk e hx
          dsimp only at hx
          walk_at "mine steps"
          exact hidx (by omega) (hb.symm.trans (bis_none hlt (ahead_out hout))) _ _ _ _ (by assumption) (by assumption) (by assumption)
      · exact hret _ (by omega) (hb.symm.trans (bis_stop (by assumption))) _ _ _ (by assumption) (by assumption)



set_option maxHeartbeats 8000000 in
theorem br_spec {l : Addr} {vs : List Value} {c : Nat} {ns : List Int} {x lo hi : Int} {tx tl : Tok} {hv : Value} {kw : List (Str × Value)} {κ : Int → Int}
  (B : Below A₀ base outer h₀) (F : Fr h₀ L s.heap m) (X : (Mine.hd.heap_39 w.params).In h₀) (N : News h₀ L s.heap news) (T : Top p loose mean mg mb h₀) (hk : cs.kind = .function)
  (hdp : dp + 3 < recursionLimit) (hun : un + 20 < cLine)
  (hl : (l, listOf vs.toArray c) ∈ news) (hI : IntsAre vs ns) (hlen : (ns.length : Int) < 2 ^ 60) (hl1 : lo < 2 ^ 60) (hl2 : 0 ≤ lo → hi < 2 ^ 60)
  (hhv : (hv = .none ∧ hi = ns.length) ∨ ∃ t, hv = .int hi t)
  (hkw : ((kw = [] ∨ kw = [(Str.ofString "key", .none)]) ∧ κ = id) ∨ (kw = [(Str.ofString "key", .ref 90)] ∧ κ = fun z => -z))
  (hret : ∀ r, 0 ≤ lo → bis (ahead false κ ns x) lo hi = some r → IntBack h₀ L m news Q s r)
  (hidx : 0 ≤ lo → bis (ahead false κ ns x) lo hi = none → IdxRaise base h₀ L m (envX cn cs L a ccd cl) outer news E s)
  (hval : lo < 0 → ValRaise base h₀ L m (envX cn cs L a ccd cl) outer news E s) :
  wpAny (model PR w) (ktrTop dp un gd cn cs L a ccd cl outer) (call (.ref 32) [.ref l, .int x tx, .int lo tl, hv] kw) Q E s := by
  walk_at "mine fill"

  rcases hkw with ⟨rfl | rfl, rfl⟩ | ⟨rfl, rfl⟩ <;> rcases hhv with ⟨rfl, rfl⟩ | ⟨th, rfl⟩
  · walk_at "mine enter"
    walk_at "mine steps"
    · exact hval (by assumption) _ _ _ _ _ _ (by assumption) (by assumption) (by assumption)
    · refine While_inv2 (BisJ news (ahead false id ns x) lo (ns.length : Int) (.ref l) (.int x tx) .none) (n₀ := ((ns.length : Int) - lo).toNat) (by assumption) (by assumption) ?wJ ?_
      (case wJ => exact ⟨rfl, rfl, rfl, rfl, lo, (ns.length : Int), tl, _, rfl, rfl, by omega, hl1, hl2 (by omega), rfl, rfl⟩)
      intro n m₁ news₁ h₁ tk₁ F₁ N₁ ⟨e1, ha, hx, hkey, lo', hi', t1, t2, hlo, hhi, b1, b2, b3, e2, hb⟩
      subst e1 e2
      walk_at "mine steps"
      · rename lo' < hi' => hlt
        have hm1 := mid_lo hlt
        have hm2 := mid_hi hlt
        refine item_case rfl (by assumption) hl hI (by omega) (by omega) ?_ ?_
        · intro hin t
          walk_at "mine steps"
          · exact ⟨_, _, _, _, _, rfl, by assumption, by assumption, by omega, bisJ_down ha hx hkey hlo b1 b3 hlt (ahead_right_f (by omega) hin (by assumption)) hb⟩
          · exact ⟨_, _, _, _, _, rfl, by assumption, by assumption, by omega, bisJ_up ha hx hkey hhi b1 b3 hlt (ahead_right_t (by omega) hin (by assumption)) hb⟩
        · intro hout h' tk e hx
          dsimp only at hx
          walk_at "mine steps"
          exact hidx (by omega) (hb.symm.trans (bis_none hlt (ahead_out hout))) _ _ _ _ (by assumption) (by assumption) (by assumption)
      · exact hret _ (by omega) (hb.symm.trans (bis_stop (by assumption))) _ _ _ (by assumption) (by assumption)
  · walk_at "mine enter"
    walk_at "mine steps"
    · exact hval (by assumption) _ _ _ _ _ _ (by assumption) (by assumption) (by assumption)
    · refine While_inv2 (BisJ news (ahead false id ns x) lo hi (.ref l) (.int x tx) .none) (n₀ := (hi - lo).toNat) (by assumption) (by assumption) ?wJ ?_
      (case wJ => exact ⟨rfl, rfl, rfl, rfl, lo, hi, tl, _, rfl, rfl, by omega, hl1, hl2 (by omega), rfl, rfl⟩)
      intro n m₁ news₁ h₁ tk₁ F₁ N₁ ⟨e1, ha, hx, hkey, lo', hi', t1, t2, hlo, hhi, b1, b2, b3, e2, hb⟩
      subst e1 e2
      walk_at "mine steps"
      · rename lo' < hi' => hlt
        have hm1 := mid_lo hlt
        have hm2 := mid_hi hlt
        refine item_case rfl (by assumption) hl hI (by omega) (by omega) ?_ ?_
        · intro hin t
          walk_at "mine steps"
          · exact ⟨_, _, _, _, _, rfl, by assumption, by assumption, by omega, bisJ_down ha hx hkey hlo b1 b3 hlt (ahead_right_f (by omega) hin (by assumption)) hb⟩
          · exact ⟨_, _, _, _, _, rfl, by assumption, by assumption, by omega, bisJ_up ha hx hkey hhi b1 b3 hlt (ahead_right_t (by omega) hin (by assumption)) hb⟩
        · intro hout h' tk e hx
          dsimp only at hx
          walk_at "mine steps"
          exact hidx (by omega) (hb.symm.trans (bis_none hlt (ahead_out hout))) _ _ _ _ (by assumption) (by assumption) (by assumption)
      · exact hret _ (by omega) (hb.symm.trans (bis_stop (by assumption))) _ _ _ (by assumption) (by assumption)
  · walk_at "mine enter"
    walk_at "mine steps"
    · exact hval (by assumption) _ _ _ _ _ _ (by assumption) (by assumption) (by assumption)
    · refine While_inv2 (BisJ news (ahead false id ns x) lo (ns.length : Int) (.ref l) (.int x tx) .none) (n₀ := ((ns.length : Int) - lo).toNat) (by assumption) (by assumption) ?wJ ?_
      (case wJ => exact ⟨rfl, rfl, rfl, rfl, lo, (ns.length : Int), tl, _, rfl, rfl, by omega, hl1, hl2 (by omega), rfl, rfl⟩)
      intro n m₁ news₁ h₁ tk₁ F₁ N₁ ⟨e1, ha, hx, hkey, lo', hi', t1, t2, hlo, hhi, b1, b2, b3, e2, hb⟩
      subst e1 e2
      walk_at "mine steps"
      · rename lo' < hi' => hlt
        have hm1 := mid_lo hlt
        have hm2 := mid_hi hlt
        refine item_case rfl (by assumption) hl hI (by omega) (by omega) ?_ ?_
        · intro hin t
          walk_at "mine steps"
          · exact ⟨_, _, _, _, _, rfl, by assumption, by assumption, by omega, bisJ_down ha hx hkey hlo b1 b3 hlt (ahead_right_f (by omega) hin (by assumption)) hb⟩
          · exact ⟨_, _, _, _, _, rfl, by assumption, by assumption, by omega, bisJ_up ha hx hkey hhi b1 b3 hlt (ahead_right_t (by omega) hin (by assumption)) hb⟩
        · intro hout h' tk e hx
          dsimp only at hx
          walk_at "mine steps"
          exact hidx (by omega) (hb.symm.trans (bis_none hlt (ahead_out hout))) _ _ _ _ (by assumption) (by assumption) (by assumption)
      · exact hret _ (by omega) (hb.symm.trans (bis_stop (by assumption))) _ _ _ (by assumption) (by assumption)
  · walk_at "mine enter"
    walk_at "mine steps"
    · exact hval (by assumption) _ _ _ _ _ _ (by assumption) (by assumption) (by assumption)
    · refine While_inv2 (BisJ news (ahead false id ns x) lo hi (.ref l) (.int x tx) .none) (n₀ := (hi - lo).toNat) (by assumption) (by assumption) ?wJ ?_
      (case wJ => exact ⟨rfl, rfl, rfl, rfl, lo, hi, tl, _, rfl, rfl, by omega, hl1, hl2 (by omega), rfl, rfl⟩)
      intro n m₁ news₁ h₁ tk₁ F₁ N₁ ⟨e1, ha, hx, hkey, lo', hi', t1, t2, hlo, hhi, b1, b2, b3, e2, hb⟩
      subst e1 e2
      walk_at "mine steps"
      · rename lo' < hi' => hlt
        have hm1 := mid_lo hlt
        have hm2 := mid_hi hlt
        refine item_case rfl (by assumption) hl hI (by omega) (by omega) ?_ ?_
        · intro hin t
          walk_at "mine steps"
          · exact ⟨_, _, _, _, _, rfl, by assumption, by assumption, by omega, bisJ_down ha hx hkey hlo b1 b3 hlt (ahead_right_f (by omega) hin (by assumption)) hb⟩
          · exact ⟨_, _, _, _, _, rfl, by assumption, by assumption, by omega, bisJ_up ha hx hkey hhi b1 b3 hlt (ahead_right_t (by omega) hin (by assumption)) hb⟩
        · intro hout h' tk e hx
          dsimp only at hx
          walk_at "mine steps"
          exact hidx (by omega) (hb.symm.trans (bis_none hlt (ahead_out hout))) _ _ _ _ (by assumption) (by assumption) (by assumption)
      · exact hret _ (by omega) (hb.symm.trans (bis_stop (by assumption))) _ _ _ (by assumption) (by assumption)
  · walk_at "mine enter"
    walk_at "mine steps"
    · exact hval (by assumption) _ _ _ _ _ _ (by assumption) (by assumption) (by assumption)
    · refine While_inv2 (BisJ news (ahead false (fun z => -z) ns x) lo (ns.length : Int) (.ref l) (.int x tx) (.ref 90)) (n₀ := ((ns.length : Int) - lo).toNat) (by assumption) (by assumption) ?wJ ?_
      (case wJ => exact ⟨rfl, rfl, rfl, rfl, lo, (ns.length : Int), tl, _, rfl, rfl, by omega, hl1, hl2 (by omega), rfl, rfl⟩)
      intro n m₁ news₁ h₁ tk₁ F₁ N₁ ⟨e1, ha, hx, hkey, lo', hi', t1, t2, hlo, hhi, b1, b2, b3, e2, hb⟩
      subst e1 e2
      walk_at "mine steps"
      · rename lo' < hi' => hlt
        have hm1 := mid_lo hlt
        have hm2 := mid_hi hlt
        refine item_case rfl (by assumption) hl hI (by omega) (by omega) ?_ ?_
        · intro hin t
          walk_at "mine steps"
          refine minus_spec (by assumption) (by assumption) (by assumption) (by assumption) (by assumption) rfl (by show dp + 1 + 1 < recursionLimit; omega) (by show un + 3 + 8 < cLine; omega) ?_
          intro t9 h9 tk9 F9 N9
          walk_at "mine steps"
          · exact ⟨_, _, _, _, _, rfl, by assumption, by assumption, by omega, bisJ_down ha hx hkey hlo b1 b3 hlt (ahead_right_f (by omega) hin (by assumption)) hb⟩
          · exact ⟨_, _, _, _, _, rfl, by assumption, by assumption, by omega, bisJ_up ha hx hkey hhi b1 b3 hlt (ahead_right_t (by omega) hin (by assumption)) hb⟩
        · intro hout h' tk e hx
          dsimp only at hx
          walk_at "mine steps"
          exact hidx (by omega) (hb.symm.trans (bis_none hlt (ahead_out hout))) _ _ _ _ (by assumption) (by assumption) (by assumption)
      · exact hret _ (by omega) (hb.symm.trans (bis_stop (by assumption))) _ _ _ (by assumption) (by assumption)
  · walk_at "mine enter"
    walk_at "mine steps"
    · exact hval (by assumption) _ _ _ _ _ _ (by assumption) (by assumption) (by assumption)
    · refine While_inv2 (BisJ news (ahead false (fun z => -z) ns x) lo hi (.ref l) (.int x tx) (.ref 90)) (n₀ := (hi - lo).toNat) (by assumption) (by assumption) ?wJ ?_
      (case wJ => exact ⟨rfl, rfl, rfl, rfl, lo, hi, tl, _, rfl, rfl, by omega, hl1, hl2 (by omega), rfl, rfl⟩)
      intro n m₁ news₁ h₁ tk₁ F₁ N₁ ⟨e1, ha, hx, hkey, lo', hi', t1, t2, hlo, hhi, b1, b2, b3, e2, hb⟩
      subst e1 e2
      walk_at "mine steps"
      · rename lo' < hi' => hlt
        have hm1 := mid_lo hlt
        have hm2 := mid_hi hlt
        refine item_case rfl (by assumption) hl hI (by omega) (by omega) ?_ ?_
        · intro hin t
          walk_at "mine steps"
          refine minus_spec (by assumption) (by assumption) (by assumption) (by assumption) (by assumption) rfl (by show dp + 1 + 1 < recursionLimit; omega) (by show un + 3 + 8 < cLine; omega) ?_
          intro t9 h9 tk9 F9 N9
          walk_at "mine steps"
          · exact ⟨_, _, _, _, _, rfl, by assumption, by assumption, by omega, bisJ_down ha hx hkey hlo b1 b3 hlt (ahead_right_f (by omega) hin (by assumption)) hb⟩
          · exact ⟨_, _, _, _, _, rfl, by assumption, by assumption, by omega, bisJ_up ha hx hkey hhi b1 b3 hlt (ahead_right_t (by omega) hin (by assumption)) hb⟩
        · intro hout h' tk e hx
          dsimp only at hx
          walk_at "mine steps"
          exact hidx (by omega) (hb.symm.trans (bis_none hlt (ahead_out hout))) _ _ _ _ (by assumption) (by assumption) (by assumption)
      · exact hret _ (by omega) (hb.symm.trans (bis_stop (by assumption))) _ _ _ (by assumption) (by assumption)


end

section
variable {w : World} {p : Program} {loose : List Str} {mean : ExcName → Option Value} {mg mb : Str → Option Value}
  {dp un : Nat} {gd : Option (List Code)} {cn : Str} {cs : Scope} {a : Addr} {ccd : Value} {cl : List (Str × Addr)} {outer : List Env} {A₀ : Around} {base h₀ : Heap} {L : Addr} {m : Str → Option Value} {s : Shared} {Q E : Value → Shared → Prop} {rest : List (Addr × Obj)}
theorem ins_ints {vs : List Value} {ns : List Int} {x r : Int} {t : Tok} (hI : IntsAre vs ns) (h0 : 0 ≤ r) : IntsAre (kl_ins vs r (.int x t)) (ns.take r.toNat ++ x :: ns.drop r.toNat) := by
  unfold kl_ins
  rw [if_neg (by omega), hI.length]
  have e1 : ns.take r.toNat = ns.take (min r.toNat ns.length) := by
    rcases Nat.le_total r.toNat ns.length with h | h
    · rw [Nat.min_eq_left h]
    · rw [Nat.min_eq_right h, List.take_of_length_le h, List.take_length]
  have e2 : ns.drop r.toNat = ns.drop (min r.toNat ns.length) := by
    rcases Nat.le_total r.toNat ns.length with h | h
    · rw [Nat.min_eq_left h]
    · rw [Nat.min_eq_right h, List.drop_of_length_le h, List.drop_length]
  rw [e1, e2]
  exact IntsAre.append (hI.take _) (.cons x t (hI.drop _))
theorem il_spec {l : Addr} {vs : List Value} {c : Nat} {ns : List Int} {x lo hi : Int} {tx tl : Tok} {hv kv : Value} {κ : Int → Int}
  (B : Below A₀ base outer h₀) (F : Fr h₀ L s.heap m) (X : (Mine.hd.heap_39 w.params).In h₀) (N : News h₀ L s.heap ((l, listOf vs.toArray c) :: rest)) (T : Top p loose mean mg mb h₀) (hk : cs.kind = .function)
  (hdp : dp + 4 < recursionLimit) (hun : un + 23 < cLine)
  (hne : ∀ q ∈ rest, q.1 ≠ l) (hI : IntsAre vs ns) (hlen : (ns.length : Int) < 2 ^ 20) (hl1 : lo < 2 ^ 20) (hl2 : 0 ≤ lo → hi < 2 ^ 20)
  (hhv : (hv = .none ∧ hi = ns.length) ∨ ∃ t, hv = .int hi t)
  (hkv : (kv = .none ∧ κ = id) ∨ (kv = .ref 90 ∧ κ = fun z => -z))
  (hret : ∀ r, 0 ≤ lo → bis (ahead true κ ns (κ x)) lo hi = some r → ∀ h' tk' c' (vs' : List Value), Fr h₀ L h' m → News h₀ L h' ((l, listOf vs'.toArray c') :: rest) → IntsAre vs' (ns.take r.toNat ++ x :: ns.drop r.toNat) → Q .none { s with heap := h', toks := tk' })
  (hidx : 0 ≤ lo → bis (ahead true κ ns (κ x)) lo hi = none → IdxRaise base h₀ L m (envX cn cs L a ccd cl) outer ((l, listOf vs.toArray c) :: rest) E s)
  (hval : lo < 0 → ValRaise base h₀ L m (envX cn cs L a ccd cl) outer ((l, listOf vs.toArray c) :: rest) E s) :
  wpAny (model PR w) (ktrTop dp un gd cn cs L a ccd cl outer) (call (.ref 41) [.ref l, .int x tx, .int lo tl, hv] [(Str.ofString "key", kv)]) Q E s := by
  walk_at "mine fill"
  rcases hkv with ⟨rfl, rfl⟩ | ⟨rfl, rfl⟩
  · walk_at "mine enter"
    walk_at "mine steps"
    refine bl_spec (by assumption) (by assumption) (by assumption) (by assumption) (by assumption) rfl (by show dp + 1 + 3 < recursionLimit; omega) (by show un + 3 + 20 < cLine; omega) (List.Mem.head _) hI (by omega) (by omega) (fun z => by have := hl2 z; omega) hhv (.inl ⟨.inl rfl, rfl⟩) ?_ ?_ ?_
    · intro r h0 hb t9 h9 tk9 F9 N9
      walk_at "mine steps"
      have hbd := bis_bounds r hb
      have hl2' := hl2 h0
      refine kl_insert (l := kl_ins vs r (.int x tx)) (by assumption) (by assumption) ?_ rfl (Upd.head hne) ?_ ?_
      · simp only [Builtin.List.listFitsIndex, Bool.and_eq_true, decide_eq_true_eq]; omega
      · rw [sizeLine_eq]; show vs.length ≤ _; rw [hI.length]; omega
      · intro h7 F7 N7
        walk_at "mine steps"
        exact hret r h0 hb _ _ _ _ (by assumption) (by assumption) (ins_ints hI (by omega))
    · intro h0 hb e9 g9 h9 tk9 F9 R9 U9
      walk_at "mine steps"
      exact hidx h0 hb _ _ _ _ (by assumption) (by assumption) (by assumption)
    · intro h0 e9 g9 h9 t9 tk9 tk9' F9 R9 U9
      walk_at "mine steps"
      exact hval h0 _ _ _ _ _ _ (by assumption) (by assumption) (by assumption)
  · walk_at "mine enter"
    walk_at "mine steps"
    refine minus_spec (by assumption) (by assumption) (by assumption) (by assumption) (by assumption) rfl (by show dp + 1 + 1 < recursionLimit; omega) (by show un + 3 + 8 < cLine; omega) ?_
    intro t8 h8 tk8 F8 N8
    walk_at "mine steps"
    refine bl_spec (by assumption) (by assumption) (by assumption) (by assumption) (by assumption) rfl (by show dp + 1 + 3 < recursionLimit; omega) (by show un + 3 + 20 < cLine; omega) (List.Mem.head _) hI (by omega) (by omega) (fun z => by have := hl2 z; omega) hhv (.inr ⟨rfl, rfl⟩) ?_ ?_ ?_
    · intro r h0 hb t9 h9 tk9 F9 N9
      walk_at "mine steps"
      have hbd := bis_bounds r hb
      have hl2' := hl2 h0
      refine kl_insert (l := kl_ins vs r (.int x tx)) (by assumption) (by assumption) ?_ rfl (Upd.head hne) ?_ ?_
      · simp only [Builtin.List.listFitsIndex, Bool.and_eq_true, decide_eq_true_eq]; omega
      · rw [sizeLine_eq]; show vs.length ≤ _; rw [hI.length]; omega
      · intro h7 F7 N7
        walk_at "mine steps"
        exact hret r h0 hb _ _ _ _ (by assumption) (by assumption) (ins_ints hI (by omega))
    · intro h0 hb e9 g9 h9 tk9 F9 R9 U9
      walk_at "mine steps"
      exact hidx h0 hb _ _ _ _ (by assumption) (by assumption) (by assumption)
    · intro h0 e9 g9 h9 t9 tk9 tk9' F9 R9 U9
      walk_at "mine steps"
      exact hval h0 _ _ _ _ _ _ (by assumption) (by assumption) (by assumption)
theorem ir_spec {l : Addr} {vs : List Value} {c : Nat} {ns : List Int} {x lo hi : Int} {tx tl : Tok} {hv kv : Value} {κ : Int → Int}
  (B : Below A₀ base outer h₀) (F : Fr h₀ L s.heap m) (X : (Mine.hd.heap_39 w.params).In h₀) (N : News h₀ L s.heap ((l, listOf vs.toArray c) :: rest)) (T : Top p loose mean mg mb h₀) (hk : cs.kind = .function)
  (hdp : dp + 4 < recursionLimit) (hun : un + 23 < cLine)
  (hne : ∀ q ∈ rest, q.1 ≠ l) (hI : IntsAre vs ns) (hlen : (ns.length : Int) < 2 ^ 20) (hl1 : lo < 2 ^ 20) (hl2 : 0 ≤ lo → hi < 2 ^ 20)
  (hhv : (hv = .none ∧ hi = ns.length) ∨ ∃ t, hv = .int hi t)
  (hkv : (kv = .none ∧ κ = id) ∨ (kv = .ref 90 ∧ κ = fun z => -z))
  (hret : ∀ r, 0 ≤ lo → bis (ahead false κ ns (κ x)) lo hi = some r → ∀ h' tk' c' (vs' : List Value), Fr h₀ L h' m → News h₀ L h' ((l, listOf vs'.toArray c') :: rest) → IntsAre vs' (ns.take r.toNat ++ x :: ns.drop r.toNat) → Q .none { s with heap := h', toks := tk' })
  (hidx : 0 ≤ lo → bis (ahead false κ ns (κ x)) lo hi = none → IdxRaise base h₀ L m (envX cn cs L a ccd cl) outer ((l, listOf vs.toArray c) :: rest) E s)
  (hval : lo < 0 → ValRaise base h₀ L m (envX cn cs L a ccd cl) outer ((l, listOf vs.toArray c) :: rest) E s) :
  wpAny (model PR w) (ktrTop dp un gd cn cs L a ccd cl outer) (call (.ref 23) [.ref l, .int x tx, .int lo tl, hv] [(Str.ofString "key", kv)]) Q E s := by
  walk_at "mine fill"
  rcases hkv with ⟨rfl, rfl⟩ | ⟨rfl, rfl⟩
  · walk_at "mine enter"
    walk_at "mine steps"
    refine br_spec (by assumption) (by assumption) (by assumption) (by assumption) (by assumption) rfl (by show dp + 1 + 3 < recursionLimit; omega) (by show un + 3 + 20 < cLine; omega) (List.Mem.head _) hI (by omega) (by omega) (fun z => by have := hl2 z; omega) hhv (.inl ⟨.inl rfl, rfl⟩) ?_ ?_ ?_
    · intro r h0 hb t9 h9 tk9 F9 N9
      walk_at "mine steps"
      have hbd := bis_bounds r hb
      have hl2' := hl2 h0
      refine kl_insert (l := kl_ins vs r (.int x tx)) (by assumption) (by assumption) ?_ rfl (Upd.head hne) ?_ ?_
      · simp only [Builtin.List.listFitsIndex, Bool.and_eq_true, decide_eq_true_eq]; omega
      · rw [sizeLine_eq]; show vs.length ≤ _; rw [hI.length]; omega
      · intro h7 F7 N7
        walk_at "mine steps"
        exact hret r h0 hb _ _ _ _ (by assumption) (by assumption) (ins_ints hI (by omega))
    · intro h0 hb e9 g9 h9 tk9 F9 R9 U9
      walk_at "mine steps"
      exact hidx h0 hb _ _ _ _ (by assumption) (by assumption) (by assumption)
    · intro h0 e9 g9 h9 t9 tk9 tk9' F9 R9 U9
      walk_at "mine steps"
      exact hval h0 _ _ _ _ _ _ (by assumption) (by assumption) (by assumption)
  · walk_at "mine enter"
    walk_at "mine steps"
    refine minus_spec (by assumption) (by assumption) (by assumption) (by assumption) (by assumption) rfl (by show dp + 1 + 1 < recursionLimit; omega) (by show un + 3 + 8 < cLine; omega) ?_
    intro t8 h8 tk8 F8 N8
    walk_at "mine steps"
    refine br_spec (by assumption) (by assumption) (by assumption) (by assumption) (by assumption) rfl (by show dp + 1 + 3 < recursionLimit; omega) (by show un + 3 + 20 < cLine; omega) (List.Mem.head _) hI (by omega) (by omega) (fun z => by have := hl2 z; omega) hhv (.inr ⟨rfl, rfl⟩) ?_ ?_ ?_
    · intro r h0 hb t9 h9 tk9 F9 N9
      walk_at "mine steps"
      have hbd := bis_bounds r hb
      have hl2' := hl2 h0
      refine kl_insert (l := kl_ins vs r (.int x tx)) (by assumption) (by assumption) ?_ rfl (Upd.head hne) ?_ ?_
      · simp only [Builtin.List.listFitsIndex, Bool.and_eq_true, decide_eq_true_eq]; omega
      · rw [sizeLine_eq]; show vs.length ≤ _; rw [hI.length]; omega
      · intro h7 F7 N7
        walk_at "mine steps"
        exact hret r h0 hb _ _ _ _ (by assumption) (by assumption) (ins_ints hI (by omega))
    · intro h0 hb e9 g9 h9 tk9 F9 R9 U9
      walk_at "mine steps"
      exact hidx h0 hb _ _ _ _ (by assumption) (by assumption) (by assumption)
    · intro h0 e9 g9 h9 t9 tk9 tk9' F9 R9 U9
      walk_at "mine steps"
      exact hval h0 _ _ _ _ _ _ (by assumption) (by assumption) (by assumption)
end

section
variable {w : World} {p : Program} {loose : List Str} {mean : ExcName → Option Value} {mg mb : Str → Option Value}
  {dp un : Nat} {gd : Option (List Code)} {cn : Str} {cs : Scope} {a : Addr} {ccd : Value} {cl : List (Str × Addr)} {outer : List Env} {A₀ : Around} {base h₀ : Heap} {L : Addr} {m : Str → Option Value} {s : Shared} {Q E : Value → Shared → Prop} {news : List (Addr × Obj)}
theorem told_spec {left : Bool} {l : Addr} {vs : List Value} {c : Nat} {ns : List Int} {x lo hi : Int} {tx tl : Tok} {hv kv : Value} {κ : Int → Int}
  (B : Below A₀ base outer h₀) (F : Fr h₀ L s.heap m) (X : (Mine.hd.heap_39 w.params).In h₀) (N : News h₀ L s.heap news) (T : Top p loose mean mg mb h₀) (hk : cs.kind = .function)
  (XB : (Mine.hd.heap_39 w.params).In base) (TB : Top p loose mean mg mb base) (D : KtsDicts (outer.filterMap (·.frame)) h₀)
  (hdp : dp + 5 < recursionLimit) (hun : un + 30 < cLine)
  (hl : (l, listOf vs.toArray c) ∈ news) (hI : IntsAre vs ns) (hlen : (ns.length : Int) < 2 ^ 20) (hl1 : lo < 2 ^ 20) (hl2 : 0 ≤ lo → hi < 2 ^ 20)
  (hhv : (hv = .none ∧ hi = ns.length) ∨ ∃ t, hv = .int hi t)
  (hkv : (kv = .none ∧ κ = id) ∨ (kv = .ref 90 ∧ κ = fun z => -z))
  (hret : ∀ r t, 0 ≤ lo → bis (ahead left κ ns x) lo hi = some r → SBack w p loose mean mg mb A₀ base outer h₀ L m s Q (.int r t) news)
  (hidx : ∀ t, 0 ≤ lo → bis (ahead left κ ns x) lo hi = none → SBack w p loose mean mg mb A₀ base outer h₀ L m s Q (.str (Str.ofString "beyond") t) news)
  (hval : ∀ tp tk n o, lo < 0 → o.cls = .type "tuple" → o.data = .seq [badLo tk].toArray n → SBack w p loose mean mg mb A₀ base outer h₀ L m s Q (.ref tp) ((tp, o) :: news)) :
  wpAny (model PR w) (ktrTop dp un gd cn cs L a ccd cl outer) (call (.ref 76) [.bool left, .ref l, .int x tx, .int lo tl, hv, kv]) Q E s := by
  walk_at "mine fill"
  rcases hkv with ⟨rfl, rfl⟩ | ⟨rfl, rfl⟩ <;> cases left
  · walk_at "mine enterS"
    walk_at "mine steps"
    refine br_spec (by assumption) (by assumption) (by assumption) (by assumption) (by assumption) rfl (by show dp + 1 + 3 < recursionLimit; omega) (by show un + 3 + 20 < cLine; omega) hl hI (by omega) (by omega) (fun z => by have := hl2 z; omega) hhv (.inl ⟨.inr rfl, rfl⟩) ?_ ?_ ?_
    · intro r h0 hb t9 h9 tk9 F9 N9
      walk_at "mine steps"
      exact hret r _ h0 hb _ _ _ KtsTurn.refl (by assumption) (by assumption) B X T D
    · intro h0 hb e9 g9 h9 tk9 F9 R9 U9
      walk_at "mine steps"
      exact hidx _ h0 hb _ _ _ (by assumption) (by assumption) (by assumption) (by assumption) (by assumption) (by assumption) (by assumption)
    · intro h0 e9 g9 h9 t9 tk9 tk9' F9 R9 U9
      walk_at "mine steps"
      exact hval _ _ _ _ h0 (by assumption) (by assumption) _ _ _ (by assumption) (by assumption) (by assumption) (by assumption) (by assumption) (by assumption) (by assumption)
  · walk_at "mine enterS"
    walk_at "mine steps"
    refine bl_spec (by assumption) (by assumption) (by assumption) (by assumption) (by assumption) rfl (by show dp + 1 + 3 < recursionLimit; omega) (by show un + 3 + 20 < cLine; omega) hl hI (by omega) (by omega) (fun z => by have := hl2 z; omega) hhv (.inl ⟨.inr rfl, rfl⟩) ?_ ?_ ?_
    · intro r h0 hb t9 h9 tk9 F9 N9
      walk_at "mine steps"
      exact hret r _ h0 hb _ _ _ KtsTurn.refl (by assumption) (by assumption) B X T D
    · intro h0 hb e9 g9 h9 tk9 F9 R9 U9
      walk_at "mine steps"
      exact hidx _ h0 hb _ _ _ (by assumption) (by assumption) (by assumption) (by assumption) (by assumption) (by assumption) (by assumption)
    · intro h0 e9 g9 h9 t9 tk9 tk9' F9 R9 U9
      walk_at "mine steps"
      exact hval _ _ _ _ h0 (by assumption) (by assumption) _ _ _ (by assumption) (by assumption) (by assumption) (by assumption) (by assumption) (by assumption) (by assumption)
  · walk_at "mine enterS"
    walk_at "mine steps"
    refine br_spec (by assumption) (by assumption) (by assumption) (by assumption) (by assumption) rfl (by show dp + 1 + 3 < recursionLimit; omega) (by show un + 3 + 20 < cLine; omega) hl hI (by omega) (by omega) (fun z => by have := hl2 z; omega) hhv (.inr ⟨rfl, rfl⟩) ?_ ?_ ?_
    · intro r h0 hb t9 h9 tk9 F9 N9
      walk_at "mine steps"
      exact hret r _ h0 hb _ _ _ KtsTurn.refl (by assumption) (by assumption) B X T D
    · intro h0 hb e9 g9 h9 tk9 F9 R9 U9
      walk_at "mine steps"
      exact hidx _ h0 hb _ _ _ (by assumption) (by assumption) (by assumption) (by assumption) (by assumption) (by assumption) (by assumption)
    · intro h0 e9 g9 h9 t9 tk9 tk9' F9 R9 U9
      walk_at "mine steps"
      exact hval _ _ _ _ h0 (by assumption) (by assumption) _ _ _ (by assumption) (by assumption) (by assumption) (by assumption) (by assumption) (by assumption) (by assumption)
  · walk_at "mine enterS"
    walk_at "mine steps"
    refine bl_spec (by assumption) (by assumption) (by assumption) (by assumption) (by assumption) rfl (by show dp + 1 + 3 < recursionLimit; omega) (by show un + 3 + 20 < cLine; omega) hl hI (by omega) (by omega) (fun z => by have := hl2 z; omega) hhv (.inr ⟨rfl, rfl⟩) ?_ ?_ ?_
    · intro r h0 hb t9 h9 tk9 F9 N9
      walk_at "mine steps"
      exact hret r _ h0 hb _ _ _ KtsTurn.refl (by assumption) (by assumption) B X T D
    · intro h0 hb e9 g9 h9 tk9 F9 R9 U9
      walk_at "mine steps"
      exact hidx _ h0 hb _ _ _ (by assumption) (by assumption) (by assumption) (by assumption) (by assumption) (by assumption) (by assumption)
    · intro h0 e9 g9 h9 t9 tk9 tk9' F9 R9 U9
      walk_at "mine steps"
      exact hval _ _ _ _ h0 (by assumption) (by assumption) _ _ _ (by assumption) (by assumption) (by assumption) (by assumption) (by assumption) (by assumption) (by assumption)
end

section
variable {w : World} {p : Program} {loose : List Str} {mean : ExcName → Option Value} {mg mb : Str → Option Value}
  {dp un : Nat} {gd : Option (List Code)} {cn : Str} {cs : Scope} {a : Addr} {ccd : Value} {cl : List (Str × Addr)} {outer : List Env} {A₀ : Around} {base h₀ : Heap} {L : Addr} {m : Str → Option Value} {s : Shared} {Q E : Value → Shared → Prop} {news : List (Addr × Obj)}
theorem laid_spec {left : Bool} {l : Addr} {vs : List Value} {c : Nat} {ns : List Int} {x lo hi : Int} {tx tl : Tok} {hv kv : Value} {κ : Int → Int}
  (B : Below A₀ base outer h₀) (F : Fr h₀ L s.heap m) (X : (Mine.hd.heap_39 w.params).In h₀) (N : News h₀ L s.heap news) (T : Top p loose mean mg mb h₀) (hk : cs.kind = .function)
  (XB : (Mine.hd.heap_39 w.params).In base) (TB : Top p loose mean mg mb base) (D : KtsDicts (outer.filterMap (·.frame)) h₀)
  (hdp : dp + 6 < recursionLimit) (hun : un + 40 < cLine)
  (hl : (l, listOf vs.toArray c) ∈ news) (hI : IntsAre vs ns) (hlen : (ns.length : Int) < 2 ^ 20) (hl1 : lo < 2 ^ 20) (hl2 : 0 ≤ lo → hi < 2 ^ 20)
  (hhv : (hv = .none ∧ hi = ns.length) ∨ ∃ t, hv = .int hi t)
  (hkv : (kv = .none ∧ κ = id) ∨ (kv = .ref 90 ∧ κ = fun z => -z))
  (hret : ∀ r q d n c' (vs' : List Value), 0 ≤ lo → bis (ahead left κ ns (κ x)) lo hi = some r → IntsAre vs' (ns.take r.toNat ++ x :: ns.drop r.toNat) →
    SBack w p loose mean mg mb A₀ base outer h₀ L m s Q (.ref q) ((q, tupOf [.ref d, .none].toArray n) :: (d, listOf vs'.toArray c') :: news))
  (hidx : ∀ q d t n c', 0 ≤ lo → bis (ahead left κ ns (κ x)) lo hi = none →
    SBack w p loose mean mg mb A₀ base outer h₀ L m s Q (.ref q) ((q, tupOf [.ref d, .str (Str.ofString "beyond") t].toArray n) :: (d, listOf vs.toArray c') :: news))
  (hval : ∀ q d tp tk n n' c' o, lo < 0 → o.cls = .type "tuple" → o.data = .seq [badLo tk].toArray n →
    SBack w p loose mean mg mb A₀ base outer h₀ L m s Q (.ref q) ((q, tupOf [.ref d, .ref tp].toArray n') :: (tp, o) :: (d, listOf vs.toArray c') :: news)) :
  wpAny (model PR w) (ktrTop dp un gd cn cs L a ccd cl outer) (call (.ref 83) [.bool left, .ref l, .int x tx, .int lo tl, hv, kv]) Q E s := by
  walk_at "mine fill"
  have hsize : vs.toArray.size ≤ sizeLine := by rw [List.size_toArray, hI.length, sizeLine_eq]; omega
  rcases hkv with ⟨rfl, rfl⟩ | ⟨rfl, rfl⟩ <;> cases left
  · walk_at "mine enterS"
    walk_at "mine steps"
    refine list_copyK (by assumption) (by assumption) (News.isList (by assumption) hl) ?_ hsize
    intro dd cc hh2 FF NN hlt
    walk_at "mine steps"
    have hne : ∀ q ∈ news, q.1 ≠ dd := fun q hq => Nat.ne_of_lt (hlt q hq)
    refine ir_spec (by assumption) (by assumption) (by assumption) (by assumption) (by assumption) rfl (by show dp + 1 + 4 < recursionLimit; omega) (by show un + 3 + 23 < cLine; omega) hne hI (by omega) (by omega) hl2 hhv (.inl ⟨rfl, rfl⟩) ?_ ?_ ?_
    · intro r h0 hb h9 tk9 c9 vs9 F9 N9 I9
      walk_at "mine steps"
      exact hret r _ _ _ _ _ h0 hb I9 _ _ _ KtsTurn.refl (by assumption) (by assumption) B X T D
    · intro h0 hb e9 g9 h9 tk9 F9 R9 U9
      walk_at "mine steps"
      exact hidx _ _ _ _ _ h0 hb _ _ _ (by assumption) (by assumption) (by assumption) (by assumption) (by assumption) (by assumption) (by assumption)
    · intro h0 e9 g9 h9 t9 tk9 tk9' F9 R9 U9
      walk_at "mine steps"
      exact hval _ _ _ _ _ _ _ _ h0 (by assumption) (by assumption) _ _ _ (by assumption) (by assumption) (by assumption) (by assumption) (by assumption) (by assumption) (by assumption)
  · walk_at "mine enterS"
    walk_at "mine steps"
    refine list_copyK (by assumption) (by assumption) (News.isList (by assumption) hl) ?_ hsize
    intro dd cc hh2 FF NN hlt
    walk_at "mine steps"
    have hne : ∀ q ∈ news, q.1 ≠ dd := fun q hq => Nat.ne_of_lt (hlt q hq)
    refine il_spec (by assumption) (by assumption) (by assumption) (by assumption) (by assumption) rfl (by show dp + 1 + 4 < recursionLimit; omega) (by show un + 3 + 23 < cLine; omega) hne hI (by omega) (by omega) hl2 hhv (.inl ⟨rfl, rfl⟩) ?_ ?_ ?_
    · intro r h0 hb h9 tk9 c9 vs9 F9 N9 I9
      walk_at "mine steps"
      exact hret r _ _ _ _ _ h0 hb I9 _ _ _ KtsTurn.refl (by assumption) (by assumption) B X T D
    · intro h0 hb e9 g9 h9 tk9 F9 R9 U9
      walk_at "mine steps"
      exact hidx _ _ _ _ _ h0 hb _ _ _ (by assumption) (by assumption) (by assumption) (by assumption) (by assumption) (by assumption) (by assumption)
    · intro h0 e9 g9 h9 t9 tk9 tk9' F9 R9 U9
      walk_at "mine steps"
      exact hval _ _ _ _ _ _ _ _ h0 (by assumption) (by assumption) _ _ _ (by assumption) (by assumption) (by assumption) (by assumption) (by assumption) (by assumption) (by assumption)
  · walk_at "mine enterS"
    walk_at "mine steps"
    refine list_copyK (by assumption) (by assumption) (News.isList (by assumption) hl) ?_ hsize
    intro dd cc hh2 FF NN hlt
    walk_at "mine steps"
    have hne : ∀ q ∈ news, q.1 ≠ dd := fun q hq => Nat.ne_of_lt (hlt q hq)
    refine ir_spec (by assumption) (by assumption) (by assumption) (by assumption) (by assumption) rfl (by show dp + 1 + 4 < recursionLimit; omega) (by show un + 3 + 23 < cLine; omega) hne hI (by omega) (by omega) hl2 hhv (.inr ⟨rfl, rfl⟩) ?_ ?_ ?_
    · intro r h0 hb h9 tk9 c9 vs9 F9 N9 I9
      walk_at "mine steps"
      exact hret r _ _ _ _ _ h0 hb I9 _ _ _ KtsTurn.refl (by assumption) (by assumption) B X T D
    · intro h0 hb e9 g9 h9 tk9 F9 R9 U9
      walk_at "mine steps"
      exact hidx _ _ _ _ _ h0 hb _ _ _ (by assumption) (by assumption) (by assumption) (by assumption) (by assumption) (by assumption) (by assumption)
    · intro h0 e9 g9 h9 t9 tk9 tk9' F9 R9 U9
      walk_at "mine steps"
      exact hval _ _ _ _ _ _ _ _ h0 (by assumption) (by assumption) _ _ _ (by assumption) (by assumption) (by assumption) (by assumption) (by assumption) (by assumption) (by assumption)
  · walk_at "mine enterS"
    walk_at "mine steps"
    refine list_copyK (by assumption) (by assumption) (News.isList (by assumption) hl) ?_ hsize
    intro dd cc hh2 FF NN hlt
    walk_at "mine steps"
    have hne : ∀ q ∈ news, q.1 ≠ dd := fun q hq => Nat.ne_of_lt (hlt q hq)
    refine il_spec (by assumption) (by assumption) (by assumption) (by assumption) (by assumption) rfl (by show dp + 1 + 4 < recursionLimit; omega) (by show un + 3 + 23 < cLine; omega) hne hI (by omega) (by omega) hl2 hhv (.inr ⟨rfl, rfl⟩) ?_ ?_ ?_
    · intro r h0 hb h9 tk9 c9 vs9 F9 N9 I9
      walk_at "mine steps"
      exact hret r _ _ _ _ _ h0 hb I9 _ _ _ KtsTurn.refl (by assumption) (by assumption) B X T D
    · intro h0 hb e9 g9 h9 tk9 F9 R9 U9
      walk_at "mine steps"
      exact hidx _ _ _ _ _ h0 hb _ _ _ (by assumption) (by assumption) (by assumption) (by assumption) (by assumption) (by assumption) (by assumption)
    · intro h0 e9 g9 h9 t9 tk9 tk9' F9 R9 U9
      walk_at "mine steps"
      exact hval _ _ _ _ _ _ _ _ h0 (by assumption) (by assumption) _ _ _ (by assumption) (by assumption) (by assumption) (by assumption) (by assumption) (by assumption) (by assumption)
end

section
/-- the values are tuples of the ledger that hold these triples -/
def TupsAre (led : List (Addr × Obj)) (vs : List Value) (ts : List (Int × Int × Int)) : Prop :=
  vs.length = ts.length ∧ ∀ (i : Nat) (v : Value) (t : Int × Int × Int), vs[i]? = some v → ts[i]? = some t → ∃ (a : Addr) (x y z : Tok) (n : Nat), v = .ref a ∧ (a, tupOf [.int t.1 x, .int t.2.1 y, .int t.2.2 z].toArray n) ∈ led
theorem TupsAre.nil {led : List (Addr × Obj)} : TupsAre led [] [] := ⟨rfl, fun i v t h => by simp at h⟩
theorem TupsAre.mono {led led' : List (Addr × Obj)} {vs : List Value} {ts : List (Int × Int × Int)} (h : TupsAre led vs ts) (hs : ∀ q ∈ led, q ∈ led') : TupsAre led' vs ts :=
  ⟨h.1, fun i v t h1 h2 => let ⟨a, x, y, z, n, e, hm⟩ := h.2 i v t h1 h2; ⟨a, x, y, z, n, e, hs _ hm⟩⟩
theorem TupsAre.snoc {led : List (Addr × Obj)} {vs : List Value} {ts : List (Int × Int × Int)} (h : TupsAre led vs ts) {a : Addr} {x y z : Tok} {n : Nat} {t : Int × Int × Int} (hm : (a, tupOf [.int t.1 x, .int t.2.1 y, .int t.2.2 z].toArray n) ∈ led) :
    TupsAre led (vs ++ [.ref a]) (ts ++ [t]) := by
  refine ⟨by rw [List.length_append, List.length_append, h.1]; rfl, fun i v t' h1 h2 => ?_⟩
  by_cases hi : i < vs.length
  · rw [List.getElem?_append_left hi] at h1
    rw [List.getElem?_append_left (h.1 ▸ hi)] at h2
    exact h.2 i v t' h1 h2
  · rw [List.getElem?_append_right (by omega)] at h1
    rw [List.getElem?_append_right (h.1 ▸ (by omega))] at h2
    rw [h.1] at h1
    cases hk : i - ts.length with
    | zero =>
      rw [hk] at h1 h2
      cases h1
      cases h2
      exact ⟨a, x, y, z, n, rfl, hm⟩
    | succ k =>
      rw [hk] at h1
      simp at h1
/-- the ledger while parts are laid at D -/
def PartsLed (D : Addr) (news : List (Addr × Obj)) (ts : List (Int × Int × Int)) (news₁ : List (Addr × Obj)) : Prop :=
  ∃ vs c rest, news₁ = (D, listOf vs.toArray c) :: rest ∧ (∀ q ∈ rest, q.1 ≠ D) ∧ (∀ q ∈ news, q ∈ rest) ∧ TupsAre rest vs ts
def PartsW (lo sz : Int) (D : Addr) (news : List (Addr × Obj)) (n : Nat) (m₁ : Str → Option Value) (news₁ : List (Addr × Obj)) : Prop :=
  ∃ k t1 t2 t3, m₁ (Str.ofString "level") = some (.int (k : Nat) t1) ∧ m₁ (Str.ofString "size") = some (.int sz t2) ∧ m₁ (Str.ofString "low") = some (.int lo t3) ∧ m₁ (Str.ofString "parts") = some (.ref D) ∧
    PartsLed D news (partsUpTo lo sz k) news₁ ∧ k ≤ 5 ∧ (∀ j, j < k → (2 : Int) ^ j ≤ sz) ∧ n = 5 - k
theorem news_rot {g h : Heap} {L : Addr} {x y z : Addr × Obj} {r : List (Addr × Obj)} (N : News g L h (x :: y :: z :: r)) : News g L h (y :: z :: x :: r) := by
  intro q hq
  refine N q ?_
  rcases List.mem_cons.mp hq with rfl | hq
  · exact .tail _ (.head _)
  · rcases List.mem_cons.mp hq with rfl | hq
    · exact .tail _ (.tail _ (.head _))
    · rcases List.mem_cons.mp hq with rfl | hq
      · exact .head _
      · exact .tail _ (.tail _ (.tail _ hq))
end
section
variable {w : World} {p : Program} {loose : List Str} {mean : ExcName → Option Value} {mg mb : Str → Option Value}
  {dp un : Nat} {gd : Option (List Code)} {cn : Str} {cs : Scope} {a : Addr} {ccd : Value} {cl : List (Str × Addr)} {outer : List Env} {A₀ : Around} {base h₀ : Heap} {L : Addr} {m : Str → Option Value} {s : Shared} {Q E : Value → Shared → Prop} {news : List (Addr × Obj)}
theorem two_pow_nat (k : Nat) : ((2 : Int) ^ k) = ((2 ^ k : Nat) : Int) := by rw [Int.natCast_pow]; rfl
def WordJ (lo sz : Int) (D : Addr) (news : List (Addr × Obj)) (g₀ : Heap) (k i : Nat) (g : Heap) (m₁ : Str → Option Value) (news₁ : List (Addr × Obj)) : Prop :=
  g = g₀ ∧ ∃ t1 t2 t3, m₁ (Str.ofString "level") = some (.int (k : Nat) t1) ∧ m₁ (Str.ofString "size") = some (.int sz t2) ∧ m₁ (Str.ofString "low") = some (.int lo t3) ∧ m₁ (Str.ofString "parts") = some (.ref D) ∧
    PartsLed D news (partsUpTo lo sz k ++ partsLevel lo sz k i) news₁
def FigJ (lo sz : Int) (D : Addr) (news₂ : List (Addr × Obj)) (g₀ : Heap) (k wd : Nat) (cnt : Int) (i : Nat) (g : Heap) (m₁ : Str → Option Value) (news₁ : List (Addr × Obj)) : Prop :=
  g = g₀ ∧ news₁ = news₂ ∧ ∃ t1 t2 t3 t4 t5 t6, m₁ (Str.ofString "level") = some (.int (k : Nat) t1) ∧ m₁ (Str.ofString "size") = some (.int sz t2) ∧ m₁ (Str.ofString "low") = some (.int lo t3) ∧ m₁ (Str.ofString "parts") = some (.ref D) ∧
    m₁ (Str.ofString "word") = some (.int (wd : Nat) t4) ∧ m₁ (Str.ofString "count") = some (.int cnt t5) ∧ m₁ (Str.ofString "start") = some (.int (startOf lo sz wd i) t6)
theorem parts_spec {lo sz : Int} {tl tz : Tok}
  (B : Below A₀ base outer h₀) (F : Fr h₀ L s.heap m) (X : (Mine.hd.heap_39 w.params).In h₀) (N : News h₀ L s.heap news) (T : Top p loose mean mg mb h₀) (hk : cs.kind = .function)
  (hdp : dp + 3 < recursionLimit) (hun : un + 20 < cLine) (hsz : sz < 32)
  (hret : ∀ D vs c k rest h' tk', Fr h₀ L h' m → News h₀ L h' ((D, listOf vs.toArray c) :: rest) → (∀ q ∈ news, q ∈ rest) → TupsAre rest vs (partsUpTo lo sz k) → ¬ (2 : Int) ^ k ≤ sz → (∀ j, j < k → (2 : Int) ^ j ≤ sz) → Q (.ref D) { s with heap := h', toks := tk' }) :
  wpAny (model PR w) (ktrTop dp un gd cn cs L a ccd cl outer) (call (.ref 57) [.int lo tl, .int sz tz]) Q E s := by
  walk_at "mine fill"
  walk_at "mine enter"
  rename_i g1 L1 h1 FG1 F1 N1 B1 X1 T1
  walk_at "mine steps"
  rename_i D h2 l1 h3 h4 F4 N4
  refine While_inv2 (PartsW lo sz D news) (n₀ := 5) (by assumption) (by assumption) ?wJ ?_
  (case wJ => exact ⟨0, _, _, _, rfl, rfl, rfl, rfl, ⟨[], 0, news, rfl, fun q hq => Nat.ne_of_lt (l1 q hq), fun q hq => hq, TupsAre.nil⟩, by omega, fun j hj => absurd hj (Nat.not_lt_zero _), rfl⟩)
  clear F4 N4
  intro n m₁ news₁ h₁ tk₁ F₁ N₁ ⟨k, t1, t2, t3, hlev, hsize, hlow, hparts, hled, hk5, hpow, hn⟩
  walk_at "mine steps"
  · rename (2 : Int) ^ _ ≤ sz => hle
    rw [Int.toNat_natCast] at hle
    have hk4 : k < 5 := by
      rcases Nat.lt_or_ge k 5 with h | h
      · exact h
      · have : k = 5 := by omega
        subst this
        omega
    have h32 : 2 ^ k ≤ 16 := Nat.le_trans (Nat.pow_le_pow_right (by omega) (show k ≤ 4 by omega)) (by decide)
    refine wpAny_For ?_
    walk_at "mine steps"
    refine iter_rng0 (n := 2 ^ k) (WordJ lo sz D news g1 k) rfl (by assumption) (by rw [Int.toNat_natCast]; exact two_pow_nat k) (by omega) (by assumption) (by assumption) ?hj ?_ ?_ (by passes_own)
    (case hj => exact ⟨rfl, t1, t2, t3, hlev, hsize, hlow, hparts, by rw [partsLevel, List.append_nil]; exact hled⟩)
    · intro I wd tw g m₂ news₂ h₂ tk₂ o₂ hlt hi ⟨e1, u1, u2, u3, gl, gs, gw, gp, hled2⟩ F₂ N₂ hne
      subst e1
      refine wpAny_pure (a := ()) ?_
      refine wpAny_assign_Name ?_
      walk_at "mine steps"
      · rename 0 < Int.fdiv _ _ => hcnt
        rw [Int.toNat_natCast] at hcnt
        refine wpAny_For ?_
        walk_at "mine steps"
        refine iter_rng0 (n := k) (FigJ lo sz D ((I, o₂) :: news₂) g k wd (countOf sz wd k)) rfl (by assumption) rfl (by omega) (by assumption) (by assumption) ?hj ?_ ?_ (by passes_own)
        (case hj => exact ⟨rfl, rfl, _, _, _, _, _, _, gl, gs, gw, gp, rfl, rfl, rfl⟩)
        · intro I' fg tf g' m₃ news₃ h₃ tk₃ o₃ hlt' hi' ⟨e1, e2, v1, v2, v3, v4, v5, v6, fl, fs, fw, fp, fwd, fcn, fst⟩ F₃ N₃ hne'
          subst e1 e2
          refine wpAny_pure (a := ()) ?_
          refine wpAny_assign_Name ?_
          walk_at "mine steps"
          · rename Int.fmod _ 2 = 1 => hbit
            refine TurnEnd.on (by assumption) (by assumption) hne' ?_
            exact ⟨rfl, rfl, v1, v2, v3, v4, v5, _, fl, fs, fw, fp, fwd, fcn, congrArg (fun z => some (Value.int z _)) (startOf_one (f := fg) hbit).symm⟩
          · rename Int.fmod _ 2 ≠ 1 => hbit
            refine TurnEnd.on (by assumption) (by assumption) hne' ?_
            exact ⟨rfl, rfl, v1, v2, v3, v4, v5, v6, fl, fs, fw, fp, fwd, fcn, fst.trans (congrArg (fun z => some (Value.int z v6)) (startOf_zero (f := fg) hbit).symm)⟩
        · intro g' m₃ news₃ h₃ tk₃ ⟨e1, e2, v1, v2, v3, v4, v5, v6, fl, fs, fw, fp, fwd, fcn, fst⟩ F₃ N₃
          subst e1 e2
          obtain ⟨vs, c, rest, rfl, hD, hsub, htup⟩ := hled2
          walk_at "mine steps"
          rename_i T2 h9 F9 N9 l9
          have hlen : vs.length < 32 := by
            have h1 := htup.1
            have h2 := partsUpTo_length lo sz k
            have h3 := partsLevel_length lo sz k wd
            rw [List.length_append] at h1
            omega
          have hDI : D ≠ I := hne _ (List.Mem.head _)
          refine append_K (by assumption) (by assumption) (Upd.tail (fun e => absurd l9.2.1 (e ▸ Nat.lt_irrefl _)) (Upd.tail (fun e => hDI e.symm) (Upd.head hD))) ?_ (by rw [List.size_toArray, sizeLine_eq]; omega)
          intro h8 F8 N8
          walk_at "mine steps"
          refine TurnEnd.on (by assumption) (news_rot N8) ?_ ?_
          · intro q hq
            rcases List.mem_cons.mp hq with rfl | hq
            · exact hDI
            · rcases List.mem_cons.mp hq with rfl | hq
              · exact Nat.ne_of_gt l9.1
              · exact hne q (.tail _ hq)
          · refine ⟨rfl, v1, v2, v3, fl, fs, fw, fp, ?_⟩
            refine ⟨vs ++ [Value.ref T2], c + 1, (T2, _) :: rest, by rw [List.push_toArray], ?_, fun q hq => .tail _ (hsub q hq), ?_⟩
            · intro q hq
              rcases List.mem_cons.mp hq with rfl | hq
              · exact Nat.ne_of_gt l9.2.1
              · exact hD q hq
            · rw [partsLevel, partOf, if_pos (show countOf sz wd k > 0 from hcnt), ← List.append_assoc]
              exact (htup.mono fun q hq => .tail _ hq).snoc (List.Mem.head _)
      · rename ¬ 0 < Int.fdiv _ _ => hcnt
        refine TurnEnd.on (by assumption) (by assumption) hne ?_
        refine ⟨rfl, u1, u2, u3, gl, gs, gw, gp, ?_⟩
        rw [partsLevel, partOf, if_neg (show ¬ countOf sz wd k > 0 from hcnt), List.append_nil]
        exact hled2
    · intro g' m₃ news₃ h₃ tk₃ ⟨e1, u1, u2, u3, gl, gs, gw, gp, hled2⟩ F₃ N₃
      subst e1
      walk_at "mine steps"
      have hpow' : ∀ j, j < k + 1 → (2 : Int) ^ j ≤ sz := by
        intro j hj
        rcases Nat.lt_or_ge j k with h | h
        · exact hpow j h
        · have : j = k := by omega
          subst this
          exact hle
      refine ⟨_, _, _, _, 5 - (k + 1), rfl, by assumption, by assumption, by omega, ?_⟩
      exact ⟨k + 1, _, u2, u3, rfl, gs, gw, gp, hled2, hk4, hpow', rfl⟩
  · rename ¬ (2 : Int) ^ _ ≤ sz => hle
    rw [Int.toNat_natCast] at hle
    obtain ⟨vs, c, rest, rfl, hD, hsub, htup⟩ := hled
    exact hret D vs c k rest _ _ (by assumption) (by assumption) hsub htup hle hpow
end

section
variable {w : World} {p : Program} {loose : List Str} {mean : ExcName → Option Value} {mg mb : Str → Option Value}
  {dp un : Nat} {gd : Option (List Code)} {cn : Str} {cs : Scope} {a : Addr} {ccd : Value} {cl : List (Str × Addr)} {outer : List Env} {A₀ : Around} {base h₀ : Heap} {L : Addr} {m : Str → Option Value} {s : Shared} {Q E : Value → Shared → Prop} {news : List (Addr × Obj)}
abbrev boolsL (ab : List Bool) : List Value := ab.map Value.bool
def wayStr : Way → Str
  | .yes => Str.ofString "yes"
  | .no => Str.ofString "no"
  | .beyond => Str.ofString "beyond"
def GoesJ (la : Addr) (ab : List Bool) (ts : List (Int × Int × Int)) (gap : Int) (tg : Tok) (g₀ : Heap) (news : List (Addr × Obj)) (i : Nat) (g : Heap) (m₁ : Str → Option Value) (news₁ : List (Addr × Obj)) : Prop :=
  g = g₀ ∧ news₁ = news ∧ m₁ (Str.ofString "above") = some (.ref la) ∧ m₁ (Str.ofString "gap") = some (.int gap tg) ∧ goes ab gap (ts.drop i) = goes ab gap ts
theorem len_led {A : Around} {E : Value → Shared → Prop} {s : Shared} {l : Addr} {vs : List Value} {c : Nat} {Q : Value → Shared → Prop} (N : News h₀ L s.heap news) (hm : (l, listOf vs.toArray c) ∈ news) (hlen : (vs.length : Int) < 2 ^ 60)
    (h : ∀ t tk, Q (.int vs.length t) { s with toks := tk }) : wpAny (model PR w) A (call (.builtin "len") [.ref l]) Q E s :=
  PyProof.Rows.len_list (News.isList N hm) (by rw [List.size_toArray]; omega) (by rw [List.size_toArray]; exact h _ _)
theorem goes_spec {la lp : Addr} {ab : List Bool} {ca cp : Nat} {vs : List Value} {ts : List (Int × Int × Int)} {gap : Int} {tg : Tok}
  (B : Below A₀ base outer h₀) (F : Fr h₀ L s.heap m) (X : (Mine.hd.heap_39 w.params).In h₀) (N : News h₀ L s.heap news) (T : Top p loose mean mg mb h₀) (hk : cs.kind = .function)
  (hdp : dp + 3 < recursionLimit) (hun : un + 20 < cLine)
  (hla : (la, listOf (boolsL ab).toArray ca) ∈ news) (hlen : (ab.length : Int) < 2 ^ 60) (hlp : (lp, listOf vs.toArray cp) ∈ news) (hts : TupsAre news vs ts) (hmid : ∀ t ∈ ts, 0 ≤ t.2.1)
  (hret : ∀ t h' tk', Fr h₀ L h' m → News h₀ L h' news → Q (.str (wayStr (goes ab gap ts)) t) { s with heap := h', toks := tk' }) :
  wpAny (model PR w) (ktrTop dp un gd cn cs L a ccd cl outer) (call (.ref 64) [.ref la, .ref lp, .int gap tg]) Q E s := by
  walk_at "mine fill"
  walk_at "mine enter"
  rename_i g1 L1 h1 FG1 F1 N1 B1 X1 T1
  walk_at "mine steps"
  refine wpAny_For ?_
  walk_at "mine steps"
  refine iter_led (GoesJ la ab ts gap tg g1 news) rfl (by assumption) (by assumption) (fun i g m₁ news₁ hJ => hJ.2.1 ▸ hlp) ?hj ?_ ?_ (by passes_own)
  (case hj => exact ⟨rfl, rfl, rfl, rfl, rfl⟩)
  · intro I i v g m₂ news₂ h₂ tk₂ o₂ hlt hv hit ⟨e1, e2, ga, gg, hgo⟩ F₂ N₂ hne
    subst e1 e2
    have hi : i < ts.length := by
      rw [← hts.1]
      exact (List.getElem?_eq_some_iff.mp hv).1
    obtain ⟨tp, x, y, z, n, rfl, htp⟩ := hts.2 i v ts[i] hv (List.getElem?_eq_getElem hi)
    refine wpAny_letOwnedTupleGo_listiter hit ?_
    walk_at "mine steps"
    · rename ts[i].1 ≤ gap => hc1
      rename gap ≤ ts[i].2.2 => hc2
      refine len_led (by assumption) (List.Mem.tail _ hla) (by rw [List.length_map]; exact hlen) ?_
      intro t9 tk9
      rw [List.length_map]
      walk_at "mine steps"
      · refine TurnEnd.ret ?_
        walk_at "mine steps"
        rename News h₀ L _ _ => kN
        have e : goes ab gap ts = .beyond := hgo.symm.trans (goes_beyond hi ⟨hc1, hc2⟩ (by assumption))
        rw [e] at hret
        exact hret _ _ _ (by assumption) (fun q hq => kN q (.tail _ hq))
      · rename ¬ _ ≤ ts[i].2.1 => hc3
        have hm0 : 0 ≤ ts[i].2.1 := hmid _ (List.getElem_mem hi)
        have hin : ts[i].2.1.toNat < ab.length := by omega
        refine item_listR (News.isList (by assumption) (List.Mem.tail _ hla)) hm0 (by omega) (x := .bool (ab.getD ts[i].2.1.toNat false)) ?_ ?_
        · rw [List.getElem?_toArray, List.getElem?_map, List.getD_eq_getElem?_getD, List.getElem?_eq_getElem hin]
          rfl
        · walk_at "mine steps"
          · dsimp only
            refine TurnEnd.ret ?_
            walk_at "mine steps"
            rename News h₀ L _ _ => kN
            rename (_ != _) = true => hb
            have e : goes ab gap ts = .no := hgo.symm.trans (goes_no hi ⟨hc1, hc2⟩ hc3 (by simpa using hb))
            rw [e] at hret
            exact hret _ _ _ (by assumption) (fun q hq => kN q (.tail _ hq))
          · rename (_ != _) = false => hb
            refine TurnEnd.on (by assumption) (by assumption) hne ?_
            exact ⟨rfl, rfl, ga, gg, (goes_on hi ⟨hc1, hc2⟩ hc3 (by simpa using hb)).symm.trans hgo⟩
    · refine TurnEnd.on (by assumption) (by assumption) hne ?_
      exact ⟨rfl, rfl, ga, gg, (goes_off hi (fun z => absurd z.2 (by assumption))).symm.trans hgo⟩
    · refine TurnEnd.on (by assumption) (by assumption) hne ?_
      exact ⟨rfl, rfl, ga, gg, (goes_off hi (fun z => absurd z.1 (by assumption))).symm.trans hgo⟩
  · intro g' m₃ news₃ h₃ tk₃ ⟨e1, e2, ga, gg, hgo⟩ F₃ N₃
    subst e1 e2
    walk_at "mine steps"
    have e : goes ab gap ts = .yes := by
      rw [← hgo, List.drop_of_length_le (by rw [hts.1]; exact Nat.le_refl _)]
      rfl
    rw [e] at hret
    exact hret _ _ _ (by assumption) (by assumption)
end

section
variable {w : World} {p : Program} {loose : List Str} {mean : ExcName → Option Value} {mg mb : Str → Option Value}
  {dp un : Nat} {gd : Option (List Code)} {cn : Str} {cs : Scope} {a : Addr} {ccd : Value} {cl : List (Str × Addr)} {outer : List Env} {A₀ : Around} {base h₀ : Heap} {L : Addr} {m : Str → Option Value} {s : Shared} {Q E : Value → Shared → Prop} {news : List (Addr × Obj)}
theorem bound_spec {x n : Int} {tx tn : Tok}
  (B : Below A₀ base outer h₀) (F : Fr h₀ L s.heap m) (X : (Mine.hd.heap_39 w.params).In h₀) (N : News h₀ L s.heap news) (T : Top p loose mean mg mb h₀) (hk : cs.kind = .function)
  (hdp : dp + 3 < recursionLimit) (hun : un + 20 < cLine) (hn0 : 0 ≤ n) (hn1 : n < 100)
  (hnone : boundOf x n = none → ∀ h' tk', Fr h₀ L h' m → News h₀ L h' news → Q .none { s with heap := h', toks := tk' })
  (hret : ∀ b, boundOf x n = some b → ∀ t h' tk', Fr h₀ L h' m → News h₀ L h' news → Q (.int b t) { s with heap := h', toks := tk' }) :
  wpAny (model PR w) (ktrTop dp un gd cn cs L a ccd cl outer) (call (.ref 97) [.int x tx, .int n tn]) Q E s := by
  walk_at "mine fill"
  walk_at "mine enter"
  walk_at "mine steps"
  · exact hnone (by unfold boundOf; rw [if_pos (by assumption)]) _ _ (by assumption) (by assumption)
  · exact hret _ (by unfold boundOf; rw [if_neg (by assumption), if_pos (by assumption)]) _ _ _ (by assumption) (by assumption)
  · exact hret _ (by unfold boundOf; rw [if_neg (by assumption), if_neg (by assumption)]) _ _ _ (by assumption) (by assumption)
end

section
variable {w : World} {p : Program} {loose : List Str} {mean : ExcName → Option Value} {mg mb : Str → Option Value}
  {dp un : Nat} {gd : Option (List Code)} {cn : Str} {cs : Scope} {a : Addr} {ccd : Value} {cl : List (Str × Addr)} {outer : List Env} {A₀ : Around} {base h₀ : Heap} {L : Addr} {m : Str → Option Value} {s : Shared} {Q E : Value → Shared → Prop} {news : List (Addr × Obj)}
theorem way_beyond (x : Way) : (wayStr x == Str.ofString "beyond") = decide (x = .beyond) := by
  cases x <;> decide +kernel
theorem right_neg {tp la lp : Addr} {o : Obj} {n : Nat} {tk tl th : Tok} {lo hi : Int}
  (B : Below A₀ base outer h₀) (F : Fr h₀ L s.heap m) (X : (Mine.hd.heap_39 w.params).In h₀) (N : News h₀ L s.heap news) (T : Top p loose mean mg mb h₀) (hk : cs.kind = .function)
  (hdp : dp + 5 < recursionLimit) (hun : un + 80 < cLine)
  (htp : (tp, o) ∈ news) (hoc : o.cls = .type "tuple") (hod : o.data = .seq [badLo tk].toArray n) (hneg : lo < 0)
  (hret : ∀ h' tk', Fr h₀ L h' m → News h₀ L h' news → Q (.bool true) { s with heap := h', toks := tk' }) :
  wpAny (model PR w) (ktrTop dp un gd cn cs L a ccd cl outer) (call (.ref 69) [.ref tp, .ref la, .int lo tl, .int hi th, .ref lp]) Q E s := by
  walk_at "mine fill"
  walk_at "mine enterC"
  walk_at "mine steps"
  refine eq_dataH (reads_tuple_at (News.get (by assumption) (.tail _ (.tail _ (.tail _ htp)))) hoc hod (ReadsAll.cons (Reads.str _ _) ReadsAll.nil)) (reads_tuple_at (News.get (by assumption) (List.Mem.head _)) rfl rfl (ReadsAll.cons (Reads.str _ _) ReadsAll.nil)) (by decide +kernel) (by decide +kernel) (by show un + 3 + 64 < cLine; omega) ?_
  have e : PyData.eqv (.tuple [.str (Str.ofString "lo must be non-negative")]) (.tuple [.str (Str.ofString "lo must be non-negative")]) = true := by decide +kernel
  rw [e]
  walk_at "mine steps"
  rename News h₀ L _ _ => kN
  exact hret _ _ (by assumption) (fun q hq => kN q (.tail _ (.tail _ (.tail _ hq))))
theorem right_int {la lp : Addr} {ab : List Bool} {ca cp : Nat} {vs : List Value} {ts : List (Int × Int × Int)} {r lo hi : Int} {tr tl th : Tok}
  (B : Below A₀ base outer h₀) (F : Fr h₀ L s.heap m) (X : (Mine.hd.heap_39 w.params).In h₀) (N : News h₀ L s.heap news) (T : Top p loose mean mg mb h₀) (hk : cs.kind = .function)
  (hdp : dp + 5 < recursionLimit) (hun : un + 80 < cLine)
  (hla : (la, listOf (boolsL ab).toArray ca) ∈ news) (hlen : (ab.length : Int) < 2 ^ 60) (hlp : (lp, listOf vs.toArray cp) ∈ news) (hts : TupsAre news vs ts) (hmid : ∀ t ∈ ts, 0 ≤ t.2.1)
  (h0 : 0 ≤ lo) (hno : hi ≤ lo → r = lo) (hyes : lo < hi → lo ≤ r ∧ r ≤ hi ∧ goes ab r ts = .yes)
  (hret : ∀ h' tk', Fr h₀ L h' m → News h₀ L h' news → Q (.bool true) { s with heap := h', toks := tk' }) :
  wpAny (model PR w) (ktrTop dp un gd cn cs L a ccd cl outer) (call (.ref 69) [.int r tr, .ref la, .int lo tl, .int hi th, .ref lp]) Q E s := by
  walk_at "mine fill"
  walk_at "mine enterC"
  walk_at "mine steps"
  · rename News h₀ L _ _ => kN
    have e : (r == lo) = true := by rw [hno (by assumption)]; exact beq_self_eq_true _
    rw [e]
    exact hret _ _ (by assumption) (fun q hq => kN q (.tail _ (.tail _ hq)))
  · have hy := (hyes (by omega)).2.2
    refine goes_spec (by assumption) (by assumption) (by assumption) (by assumption) (by assumption) rfl (by show dp + 1 + 3 < recursionLimit; omega) (by show un + 3 + 20 < cLine; omega) (.tail _ (.tail _ hla)) hlen (.tail _ (.tail _ hlp)) (hts.mono fun q hq => .tail _ (.tail _ hq)) hmid ?_
    intro t9 h9 tk9 F9 N9
    rw [hy]
    walk_at "mine steps"
    rename News h₀ L _ _ => kN
    have e : (wayStr Way.yes == Str.ofString "yes") = true := by decide +kernel
    rw [e]
    exact hret _ _ (by assumption) (fun q hq => kN q (.tail _ (.tail _ hq)))
  · exact absurd (hyes (by omega)).2.1 (by assumption)
  · exact absurd (hyes (by omega)).1 (by assumption)
theorem right_beyond {la lp : Addr} {ab : List Bool} {ca cp : Nat} {vs : List Value} {ts : List (Int × Int × Int)} {lo hi : Int} {tr tl th : Tok}
  (B : Below A₀ base outer h₀) (F : Fr h₀ L s.heap m) (X : (Mine.hd.heap_39 w.params).In h₀) (N : News h₀ L s.heap news) (T : Top p loose mean mg mb h₀) (hk : cs.kind = .function)
  (hdp : dp + 5 < recursionLimit) (hun : un + 80 < cLine)
  (hla : (la, listOf (boolsL ab).toArray ca) ∈ news) (hlen : (ab.length : Int) < 2 ^ 60) (hlp : (lp, listOf vs.toArray cp) ∈ news) (hts : TupsAre news vs ts) (hmid : ∀ t ∈ ts, 0 ≤ t.2.1)
  (h0 : 0 ≤ lo) (hlt : lo < hi) (hhi : hi < 1000) (hgap : ∃ gap, lo ≤ gap ∧ gap ≤ hi ∧ goes ab gap ts = .beyond)
  (hret : ∀ h' tk', Fr h₀ L h' m → News h₀ L h' news → Q (.bool true) { s with heap := h', toks := tk' }) :
  wpAny (model PR w) (ktrTop dp un gd cn cs L a ccd cl outer) (call (.ref 69) [.str (Str.ofString "beyond") tr, .ref la, .int lo tl, .int hi th, .ref lp]) Q E s := by
  walk_at "mine fill"
  walk_at "mine enterC"
  walk_at "mine steps"
  refine LCg.ListComp_U (by assumption) (by rfl) (by decide) (by rfl) (by decide) (by rfl) ?_
  walk_at "mine steps"
  refine' LCg.CompSrc.range (n := (hi + 1 - lo).toNat) ?hh ?F ?N ?hr ?sm ?sz ?szl ?_
  (case hh => exact rfl)
  (case F => assumption)
  (case N => assumption)
  (case hr => assumption)
  (case sm => exact small_one (by omega) (by omega) (by omega) (by omega))
  (case sz => (unfold Builtin.Range.rangeSize; rw [if_pos (by decide), if_pos (by omega)]; omega))
  (case szl => (rw [sizeLine_eq]; omega))
  intro g9
  refine comp_all (fun i v => v = .bool (decide (goes ab (lo + (i : Int)) ts = .beyond))) trivial ?_ ?_
  · intro i v I oI C oC D m₂ ys h tk E' hi ⟨t, hv⟩ hC hx F9 N9 off ne
    subst hv
    walk_at "mine steps"
    refine goes_spec (by assumption) (by assumption) (by assumption) (by assumption) (by assumption) rfl (by show dp + 1 + 3 < recursionLimit; omega) (by show un + 3 + 20 < cLine; omega) (.tail _ (.tail _ (.tail _ (.tail _ (.tail _ hla))))) hlen (.tail _ (.tail _ (.tail _ (.tail _ (.tail _ hlp))))) (hts.mono fun q hq => .tail _ (.tail _ (.tail _ (.tail _ (.tail _ hq))))) hmid ?_
    intro t8 h8 tk8 F8 N8
    walk_at "mine steps"
    exact ⟨_, _, rfl, by assumption, by assumption, congrArg Value.bool (way_beyond _)⟩
  · intro ys hlen hys
    intro D9 h9 tk9 F9 N9 off9
    have hb := bools_eq hlen hys
    walk_at "mine steps"
    refine' LSm.any_bools ?F ?N ?hh ?hl ?hb ?_
    (case F => assumption)
    (case N => assumption)
    (case hh => exact rfl)
    (case hl => exact News.isList (by assumption) (List.Mem.head _))
    (case hb => (rw [hb]; exact boolsAre_map _))
    intro h8 tk8 F8 N8
    have e : (((List.range (hi + 1 - lo).toNat).map fun (i : Nat) => decide (goes ab (lo + (i : Int)) ts = .beyond)).any id) = true := by
      obtain ⟨gap, g1, g2, g3⟩ := hgap
      rw [List.any_map, List.any_eq_true]
      refine ⟨(gap - lo).toNat, List.mem_range.mpr (by omega), ?_⟩
      show decide (goes ab (lo + ((gap - lo).toNat : Int)) ts = .beyond) = true
      rw [show lo + ((gap - lo).toNat : Int) = gap by omega, g3]
      rfl
    rw [e]
    walk_at "mine steps"
    rename News h₀ L _ _ => kN
    exact hret _ _ (by assumption) (fun q hq => kN q (.tail _ (.tail _ (.tail _ hq))))
end

section
variable {w : World} {p : Program} {loose : List Str} {mean : ExcName → Option Value} {mg mb : Str → Option Value}
  {dp un : Nat} {gd : Option (List Code)} {cn : Str} {cs : Scope} {a : Addr} {ccd : Value} {cl : List (Str × Addr)} {outer : List Env} {A₀ : Around} {base h₀ : Heap} {L : Addr} {m : Str → Option Value} {s : Shared} {Q E : Value → Shared → Prop} {news : List (Addr × Obj)}
def BoundV (x n : Int) (hv : Value) : Prop := (hv = .none ∧ boundOf x n = none) ∨ ∃ b t, hv = .int b t ∧ boundOf x n = some b
theorem bound1 {x n : Int} {tx tn : Tok}
  (B : Below A₀ base outer h₀) (F : Fr h₀ L s.heap m) (X : (Mine.hd.heap_39 w.params).In h₀) (N : News h₀ L s.heap news) (T : Top p loose mean mg mb h₀) (hk : cs.kind = .function)
  (hdp : dp + 3 < recursionLimit) (hun : un + 20 < cLine) (hn0 : 0 ≤ n) (hn1 : n < 100)
  (hret : ∀ hv h' tk', BoundV x n hv → Fr h₀ L h' m → News h₀ L h' news → Q hv { s with heap := h', toks := tk' }) :
  wpAny (model PR w) (ktrTop dp un gd cn cs L a ccd cl outer) (call (.ref 97) [.int x tx, .int n tn]) Q E s :=
  bound_spec B F X N T hk hdp hun hn0 hn1 (fun e h' tk' F' N' => hret _ _ _ (.inl ⟨rfl, e⟩) F' N') (fun b e t h' tk' F' N' => hret _ _ _ (.inr ⟨b, t, rfl, e⟩) F' N')
theorem item_in {A : Around} {E : Value → Shared → Prop} {s : Shared} {value slice : PySem.Expr} {l : Addr} {vs : List Value} {c : Nat} {ns : List Int} {k : Int} {u : Tok} {Q : Value → Shared → Prop} (N : News h₀ L s.heap news)
    (hm : (l, listOf vs.toArray c) ∈ news) (hI : IntsAre vs ns) (h0 : 0 ≤ k) (h1 : k < (ns.length : Int)) (h63 : (ns.length : Int) < 2 ^ 60) (h : ∀ t, Q (.int (ns.getD k.toNat 0) t) s)
    (hs : subscripted slice false (.ref l) (.int k u) = operate [.ref l, .int k u] (getItem (.ref l) (.int k u)) := by with_unfolding_all rfl) :
    wpAny (model PR w) A (subscriptTail value slice (.ref l) (.int k u)) Q E s := item_list_intsR (News.isList N hm) hI h0 h1 (by omega) h hs
theorem item_some {A : Around} {E : Value → Shared → Prop} {s : Shared} {value slice : PySem.Expr} {l : Addr} {vs : List Value} {c : Nat} {ns : List Int} {k : Int} {u : Tok} {Q : Value → Shared → Prop} (N : News h₀ L s.heap news)
    (hm : (l, listOf vs.toArray c) ∈ news) (hI : IntsAre vs ns) (h0 : -(ns.length : Int) ≤ k) (h1 : k < (ns.length : Int)) (h63 : (ns.length : Int) < 2 ^ 60) (h : ∀ y t, Q (.int y t) s)
    (hs : subscripted slice false (.ref l) (.int k u) = operate [.ref l, .int k u] (getItem (.ref l) (.int k u)) := by with_unfolding_all rfl) :
    wpAny (model PR w) A (subscriptTail value slice (.ref l) (.int k u)) Q E s := by
  by_cases hk : 0 ≤ k
  · exact item_list_intsR (News.isList N hm) hI hk h1 (by omega) (h _) hs
  · exact item_list_ints_negR (News.isList N hm) hI (by omega) h0 (by omega) (h _) hs
theorem join1 {M : Model} {A : Around} {E : Value → Shared → Prop} {s : Shared} {t : Sem Value} {Q : Value → Shared → Prop} (F : Fr h₀ L s.heap m) (N : News h₀ L s.heap news) (R : Value → Prop)
    (ha : wpAny M A t (EltEnd s h₀ L m news R) E s) (hb : ∀ v h' tk', R v → Fr h₀ L h' m → News h₀ L h' news → Q v { s with heap := h', toks := tk' }) : wpAny M A t Q E s :=
  wpAny_mono ha (fun v s' ⟨h', tk', e, F', N', r⟩ => e ▸ hb v h' tk' r F' N') fun _ _ e => e
def LedEnd (s : Shared) (h₀ : Heap) (L : Addr) (m : Str → Option Value) (led : List (Addr × Obj)) (R : Value → List (Addr × Obj) → Prop) (y : Value) (s₂ : Shared) : Prop :=
  ∃ h' tk' led', s₂ = { s with heap := h', toks := tk' } ∧ Fr h₀ L h' m ∧ News h₀ L h' led' ∧ (∀ q ∈ led, q ∈ led') ∧ R y led'
theorem joinL {M : Model} {A : Around} {E : Value → Shared → Prop} {s : Shared} {t : Sem Value} {Q : Value → Shared → Prop} (F : Fr h₀ L s.heap m) (N : News h₀ L s.heap news) (R : Value → List (Addr × Obj) → Prop)
    (ha : wpAny M A t (LedEnd s h₀ L m news R) E s) (hb : ∀ v h' tk' led, R v led → (∀ q ∈ news, q ∈ led) → Fr h₀ L h' m → News h₀ L h' led → Q v { s with heap := h', toks := tk' }) : wpAny M A t Q E s :=
  wpAny_mono ha (fun v s' ⟨h', tk', led, e, F', N', hs, r⟩ => e ▸ hb v h' tk' led r hs F' N') fun _ _ e => e
/-- what is known of the parts -/
def PartsV (lo sz : Int) (v : Value) (led : List (Addr × Obj)) : Prop :=
  ∃ D vs c k, v = .ref D ∧ (D, listOf vs.toArray c) ∈ led ∧ (0 ≤ lo → TupsAre led vs (partsUpTo lo sz k) ∧ ¬ (2 : Int) ^ k ≤ sz ∧ ∀ j, j < k → (2 : Int) ^ j ≤ sz)
end
section
def GroundOk (w : World) (p : Program) (loose : List Str) (mean : ExcName → Option Value) (mg mb : Str → Option Value) (A : Around) (base : Heap) (outer : List Env) (g₁ g : Heap) : Prop :=
  KtsTurn (outer.filterMap (·.frame)) g₁ g ∧ Below A base outer g ∧ (Mine.hd.heap_39 w.params).In g ∧ Top p loose mean mg mb g ∧ KtsDicts (outer.filterMap (·.frame)) g
def OneM (l : Addr) (lo hi y : Int) (t1 t2 t3 : Tok) (hv : Value) (DP : Addr) (m₁ : Str → Option Value) : Prop :=
  m₁ (Str.ofString "row") = some (.ref l) ∧ m₁ (Str.ofString "low") = some (.int lo t1) ∧ m₁ (Str.ofString "bound") = some hv ∧ m₁ (Str.ofString "end") = some (.int hi t2) ∧ m₁ (Str.ofString "parts") = some (.ref DP) ∧ m₁ (Str.ofString "sought") = some (.int y t3)
/-- the two cells ahead, all else behind them -/
theorem cells_apart {g h : Heap} {L c1 c2 : Addr} {led : List (Addr × Obj)} {o1 o2 : Obj} {v1 v2 : Option Value} (N : News g L h led) (h1 : (c1, o1) ∈ led) (h2 : (c2, o2) ∈ led) (d1 : o1.data = .cell v1) (d2 : o2.data = .cell v2) :
    ∃ fixed, News g L h ((c1, o1) :: (c2, o2) :: fixed) ∧ (∀ q ∈ fixed, q.1 ≠ c1) ∧ (∀ q ∈ fixed, q.1 ≠ c2) ∧ (∀ q ∈ led, q.1 ≠ c1 → q.1 ≠ c2 → q ∈ fixed) ∧ (∀ q ∈ led, ∀ its n, q.2.data = .seq its n → q ∈ fixed) := by
  have key : ∀ q ∈ led, q.1 ≠ c1 → q.1 ≠ c2 → q ∈ led.filter fun q => decide (q.1 ≠ c1) && decide (q.1 ≠ c2) := fun q hq a b => List.mem_filter.mpr ⟨hq, by rw [decide_eq_true a, decide_eq_true b]; rfl⟩
  refine ⟨led.filter fun q => decide (q.1 ≠ c1) && decide (q.1 ≠ c2), fun q hq => ?_, fun q hq => ?_, fun q hq => ?_, key, fun q hq its n e => key q hq (fun z => ?_) fun z => ?_⟩
  · rcases List.mem_cons.mp hq with rfl | hq
    · exact N _ h1
    · rcases List.mem_cons.mp hq with rfl | hq
      · exact N _ h2
      · exact N _ (List.mem_filter.mp hq).1
  · exact of_decide_eq_true (Bool.and_eq_true_iff.mp (List.mem_filter.mp hq).2).1
  · exact of_decide_eq_true (Bool.and_eq_true_iff.mp (List.mem_filter.mp hq).2).2
  · have e1 := (N _ h1).1
    have e2 := (N _ hq).1
    rw [z, e1] at e2
    rw [← Option.some.inj e2] at e
    rw [d1] at e
    cases e
  · have e1 := (N _ h2).1
    have e2 := (N _ hq).1
    rw [z, e1] at e2
    rw [← Option.some.inj e2] at e
    rw [d2] at e
    cases e
def OneJ (w : World) (p : Program) (loose : List Str) (mean : ExcName → Option Value) (mg mb : Str → Option Value) (A : Around) (base : Heap) (outer : List Env) (g₁ : Heap) (l : Addr) (lo hi y : Int) (t1 t2 t3 : Tok) (hv : Value) (DP c1 c2 : Addr) (fixed : List (Addr × Obj)) (_i : Nat) (g : Heap) (m₁ : Str → Option Value) (news₁ : List (Addr × Obj)) : Prop :=
  GroundOk w p loose mean mg mb A base outer g₁ g ∧ OneM l lo hi y t1 t2 t3 hv DP m₁ ∧ ∃ o1 o2 v1 v2, news₁ = (c1, o1) :: (c2, o2) :: fixed ∧ o1.data = .cell v1 ∧ o2.data = .cell v2
def TwoJ (w : World) (p : Program) (loose : List Str) (mean : ExcName → Option Value) (mg mb : Str → Option Value) (A : Around) (base : Heap) (outer : List Env) (g₁ : Heap) (l : Addr) (lo hi y : Int) (t1 t2 t3 : Tok) (hv : Value) (DP c1 c2 : Addr) (kv : Value) (lk : Addr) (wn : Int) (fixed : List (Addr × Obj)) (_i : Nat) (g : Heap) (m₁ : Str → Option Value) (news₁ : List (Addr × Obj)) : Prop :=
  GroundOk w p loose mean mg mb A base outer g₁ g ∧ OneM l lo hi y t1 t2 t3 hv DP m₁ ∧ m₁ (Str.ofString "turned") = some kv ∧ m₁ (Str.ofString "keys") = some (.ref lk) ∧
    ∃ o1 o2 tw v2, news₁ = (c1, o1) :: (c2, o2) :: fixed ∧ o1.data = .cell (some (.int wn tw)) ∧ o2.data = .cell v2
theorem ints_map {κ : Int → Int} : ∀ {ns : List Int} {ys : List Value}, ys.length = ns.length → (∀ (i : Nat) (v : Value), ys[i]? = some v → ∃ t, v = .int (κ (ns.getD i 0)) t) → IntsAre ys (ns.map κ)
  | [], [], _, _ => .nil
  | [], _ :: _, h, _ => by simp at h
  | _ :: _, [], h, _ => by simp at h
  | n :: ns, v :: ys, h, hy => by
    obtain ⟨t, e⟩ := hy 0 v rfl
    rw [e]
    exact .cons _ t (ints_map (by simpa using h) fun i u hu => hy (i + 1) u (by simpa using hu))
end
section
theorem above_eq {left : Bool} {κ : Int → Int} {ns : List Int} {x : Int} {ys : List Value} (hl : ys.length = ns.length)
    (h : ∀ (i : Nat) (v : Value), ys[i]? = some v → ∃ z, (ns.map κ)[i]? = some z ∧ v = .bool (decide (z < x) || (decide (z = x) && !left))) : ys = boolsL (abOf left κ ns x) := by
  refine List.ext_getElem? fun i => ?_
  unfold boolsL abOf
  rw [List.getElem?_map, List.getElem?_map]
  by_cases hi : i < ns.length
  · have hy : i < ys.length := by omega
    obtain ⟨z, e1, e2⟩ := h i _ (List.getElem?_eq_getElem hy)
    rw [List.getElem?_map, List.getElem?_eq_getElem hi] at e1
    have e3 : κ ns[i] = z := Option.some.inj e1
    rw [List.getElem?_eq_getElem hy, e2, List.getElem?_eq_getElem hi, ← e3]
    rfl
  · rw [List.getElem?_eq_none (by omega), List.getElem?_eq_none (by omega)]
    rfl
end
section
theorem eqv_ints (xs : List Int) : PyData.eqvAll (xs.map PyData.int) (xs.map PyData.int) = true := by rw [ked_eqvAll]; exact decide_eq_true rfl
theorem ne_pair {w : World} {A : Around} {E : Value → Shared → Prop} {s : Shared} {Q : Value → Shared → Prop} {p q : Addr} {as bs : List Addr} {xs : List Int} {d : PyData} (ha : Reads s.heap (.ref p) (.tuple [.list (xs.map .int), d]) as) (hb : Reads s.heap (.ref q) (.tuple [.list (xs.map .int), d]) bs)
    (hsh : SeqAt.shaped (.tuple [.list (xs.map PyData.int), d]) = true) (hd : PyData.eqv d d = true) (hu : A.units + 64 < cLine) (h : Q (.bool false) s) : wpAny (model PR w) A (compareOp .NotEq (.ref p) (.ref q)) Q E s := by
  refine ne_dataH ha hb hsh hsh hu ?_
  have e : PyData.eqv (.tuple [.list (xs.map PyData.int), d]) (.tuple [.list (xs.map PyData.int), d]) = true := by
    simp only [PyData.eqv, PyData.eqvAll, eqv_ints, hd, Bool.and_self, Bool.and_true, Bool.true_and]
  rw [e]
  exact h
theorem shaped_none (xs : List Int) : SeqAt.shaped (.tuple [.list (xs.map PyData.int), .none]) = true := by
  simp [SeqAt.shaped, PyData.canLay0, PyData.canLayAll0, PyData.depth, PyData.depthAll, ke_canLayAll0, ke_depthAll]
theorem shaped_str (xs : List Int) (x : Str) (hx : PyData.canLay0 (.str x) = true) : SeqAt.shaped (.tuple [.list (xs.map PyData.int), .str x]) = true := by
  simp [SeqAt.shaped, PyData.canLay0, PyData.canLayAll0, PyData.depth, PyData.depthAll, ke_canLayAll0, ke_depthAll] at hx ⊢
  try exact hx
theorem shaped_tup (xs : List Int) (x : Str) (hx : PyData.canLay0 (.str x) = true) : SeqAt.shaped (.tuple [.list (xs.map PyData.int), .tuple [.str x]]) = true := by
  simp [SeqAt.shaped, PyData.canLay0, PyData.canLayAll0, PyData.depth, PyData.depthAll, ke_canLayAll0, ke_depthAll] at hx ⊢
  try exact hx
end
section
variable {w : World} {p : Program} {loose : List Str} {mean : ExcName → Option Value} {mg mb : Str → Option Value}
  {dp un : Nat} {gd : Option (List Code)} {cn : Str} {cs : Scope} {a : Addr} {ccd : Value} {cl : List (Str × Addr)} {outer : List Env} {A₀ : Around} {base h₀ : Heap} {L : Addr} {m : Str → Option Value} {s : Shared} {Q E : Value → Shared → Prop} {news : List (Addr × Obj)}
theorem one_spec {l : Addr} {vs : List Value} {c : Nat} {ns : List Int} {place : Int} {tp : Tok}
  (B : Below A₀ base outer h₀) (F : Fr h₀ L s.heap m) (X : (Mine.hd.heap_39 w.params).In h₀) (N : News h₀ L s.heap news) (T : Top p loose mean mg mb h₀) (hk : cs.kind = .function)
  (XB : (Mine.hd.heap_39 w.params).In base) (TB : Top p loose mean mg mb base) (D : KtsDicts (outer.filterMap (·.frame)) h₀)
  (hdp : dp + 10 < recursionLimit) (hun : un + 150 < cLine)
  (hl : (l, listOf vs.toArray c) ∈ news) (hI : IntsAre vs ns) (hn1 : 4 ≤ ns.length) (hn2 : ns.length ≤ 12) (hp0 : 0 ≤ place) (hp1 : place < (ns.length : Int))
  (hret : SBack w p loose mean mg mb A₀ base outer h₀ L m s Q (.bool true) news) :
  wpAny (model PR w) (ktrTop dp un gd cn cs L a ccd cl outer) (call (.ref 102) [.ref l, .int place tp]) Q E s := by
  walk_at "mine fill"
  have hlen60 : (ns.length : Int) < 2 ^ 60 := by omega
  walk_at "mine enterSC"
  rename_i g1 L1 h1 tk1 FG1 F1 B1 X1 T1 D1 l1 ol ow dl dw N1
  walk_at "mine steps"
  have hx : ∃ x, x = ns.getD place.toNat 0 := ⟨_, rfl⟩
  obtain ⟨x, hx⟩ := hx
  have hlo : ∃ lo, lo = lowOf x ns.length := ⟨_, rfl⟩
  obtain ⟨lo, hlo⟩ := hlo
  have hhi : ∃ hi, hi = endOf x ns.length := ⟨_, rfl⟩
  obtain ⟨hi, hhi⟩ := hhi
  have hlo12 : lo ≤ 12 := by rw [hlo]; exact low_le (by omega) (by omega)
  have hhi24 : 0 ≤ lo → hi ≤ 24 := fun z => by rw [hhi]; exact end_le (by omega) (by omega) (by rw [← hlo]; exact z)
  refine join1 (by assumption) (by assumption) (fun v => ∃ t, v = .int lo t) ?_ ?_
  · walk1
    walk_at "mine steps"
    refine item_in (by assumption) (.tail _ (.tail _ hl)) hI hp0 hp1 hlen60 ?_
    intro t8
    rw [← hx]
    walk_at "mine steps"
    · refine item_in (by assumption) (.tail _ (.tail _ hl)) hI hp0 hp1 hlen60 ?_
      intro t7
      rw [← hx]
      exact ⟨_, _, rfl, by assumption, by assumption, t7, by rw [hlo, lowOf, if_pos (by assumption)]⟩
    · refine item_in (by assumption) (.tail _ (.tail _ hl)) hI hp0 hp1 hlen60 ?_
      intro t7
      rw [← hx]
      walk_at "mine steps"
      exact ⟨_, _, rfl, by assumption, by assumption, _, by rw [hlo, lowOf, if_neg (by assumption)]⟩
  · rintro v h9 tk9 ⟨t9, rfl⟩ F9 N9
    walk_at "mine steps"
    refine item_in (by assumption) (.tail _ (.tail _ hl)) hI hp0 hp1 hlen60 ?_
    intro t7
    rw [← hx]
    walk_at "mine steps"
    refine bound1 (by assumption) (by assumption) (by assumption) (by assumption) (by assumption) rfl (by show dp + 1 + 3 < recursionLimit; omega) (by show un + 3 + 20 < cLine; omega) (by omega) (by omega) ?_
    intro hv h8 tk8 hbv F8 N8
    walk_at "mine steps"
    refine join1 (by assumption) (by assumption) (fun v => ∃ t, v = .int hi t) ?_ ?_
    · rcases hbv with ⟨rfl, e⟩ | ⟨b, t, rfl, e⟩
      · walk1
        walk_at "mine steps"
        exact ⟨_, _, rfl, by assumption, by assumption, _, by rw [hhi, endOf, e]; rfl⟩
      · walk1
        walk_at "mine steps"
        exact ⟨_, _, rfl, by assumption, by assumption, _, by rw [hhi, endOf, e]; rfl⟩
    · rintro v h7 tk7 ⟨t6, rfl⟩ F7 N7
      have hhv : (hv = .none ∧ hi = (ns.length : Int)) ∨ ∃ t, hv = .int hi t := by
        rcases hbv with ⟨e1, e2⟩ | ⟨b, t, e1, e2⟩
        · exact .inl ⟨e1, by rw [hhi, endOf, e2]; rfl⟩
        · exact .inr ⟨t, by rw [e1, hhi, endOf, e2]; rfl⟩
      walk_at "mine steps"
      refine joinL (by assumption) (by assumption) (PartsV lo (hi - lo)) ?_ ?_
      · walk1
        walk_at "mine steps"
        · exact ⟨_, _, _, rfl, by assumption, by assumption, fun q hq => .tail _ hq, _, [], 0, 0, rfl, List.Mem.head _, fun z => absurd z (by omega)⟩
        · refine parts_spec (by assumption) (by assumption) (by assumption) (by assumption) (by assumption) rfl (by show dp + 1 + 3 < recursionLimit; omega) (by show un + 3 + 20 < cLine; omega) (by have := hhi24 (by omega); omega) ?_
          intro DP vp cp kp rest h5 tk5 F5 N5 hsub5 htup5 hk5 hj5
          exact ⟨_, _, _, rfl, F5, N5, fun q hq => .tail _ (hsub5 q hq), DP, vp, cp, kp, rfl, List.Mem.head _, fun _ => ⟨htup5.mono fun q hq => .tail _ hq, hk5, hj5⟩⟩
      · rintro v h6 tk6 led ⟨DP, vp, cp, kp, rfl, hDP, hparts⟩ hsub F6 N6
        walk_at "mine steps"
        refine item_some (by assumption) (hsub _ (.tail _ (.tail _ hl))) hI (by omega) (by omega) hlen60 ?_
        intro y ty
        walk_at "mine steps"
        refine wpAny_For ?_
        walk_at "mine steps"
        rename_i LO h5 F5 N5 l5
        have hcw : (L1 + 1, ow) ∈ led := hsub _ (.tail _ (.head _))
        have hcl : (L1 + 1 + 1, ol) ∈ led := hsub _ (.head _)
        obtain ⟨fixed, NF, hf1, hf2, hfk, hfs⟩ := cells_apart N5 (.tail _ hcw) (.tail _ hcl) dw dl
        have hLO : (LO, listOf [Value.none, Value.ref 90].toArray 0) ∈ fixed := hfs _ (.head _) _ _ rfl
        have hnews : ∀ q ∈ news, q ∈ fixed := fun q hq => hfk q (.tail _ (hsub q (.tail _ (.tail _ hq)))) (Nat.ne_of_lt (Nat.lt_succ_of_lt (l1 q hq))) (Nat.ne_of_lt (Nat.lt_succ_of_lt (Nat.lt_succ_of_lt (l1 q hq))))
        have hDPf : (DP, listOf vp.toArray cp) ∈ fixed := hfs _ (.tail _ hDP) _ _ rfl
        have hpartsf : 0 ≤ lo → TupsAre fixed vp (partsUpTo lo (hi - lo) kp) ∧ ¬ (2 : Int) ^ kp ≤ hi - lo ∧ ∀ j, j < kp → (2 : Int) ^ j ≤ hi - lo := fun z =>
          ⟨⟨(hparts z).1.1, fun i v t e1 e2 => by
            obtain ⟨aa, xx, yy, zz, nn, e3, e4⟩ := (hparts z).1.2 i v t e1 e2
            exact ⟨aa, xx, yy, zz, nn, e3, hfs _ (.tail _ e4) _ _ rfl⟩⟩, (hparts z).2⟩
        have hlf : (l, listOf vs.toArray c) ∈ fixed := hnews _ hl
        clear hfk hfs hparts hDP hsub N5 l5
        refine iter_led (vs := [Value.none, Value.ref 90]) (c := 0) (OneJ w p loose mean mg mb (ktrTop dp un gd cn cs L a ccd cl outer) base (envX cn cs L a ccd cl :: outer) g1 l lo hi y t9 t6 ty hv DP (L1 + 1) (L1 + 1 + 1) fixed) rfl F5 NF (fun i g m₁ news₁ hJ => ?_) ?hj ?_ ?_ (by passes_own)
        · obtain ⟨o1, o2, v1, v2, e, _⟩ := hJ.2.2
          rw [e]
          exact .tail _ (.tail _ hLO)
        (case hj => exact ⟨⟨KtsTurn.refl, B1, X1, T1, D1⟩, ⟨rfl, rfl, rfl, rfl, rfl, rfl⟩, ow, ol, _, _, rfl, dw, dl⟩)
        · intro I i kv g m₂ news₂ h₂ tk₂ o₂ hlt hvi hit ⟨⟨K2, B2, X2, T2, D2⟩, ⟨mr, ml, mb', me, mp, ms⟩, o1, o2, v1, v2, e2, dw2, dl2⟩ F₂ N₂ hne
          subst e2
          have hkv : ∃ κ : Int → Int, (kv = .none ∧ κ = id) ∨ (kv = .ref 90 ∧ κ = fun z => -z) := by
            match i, hvi with
            | 0, hvi => exact ⟨id, .inl ⟨(Option.some.inj hvi).symm, rfl⟩⟩
            | 1, hvi => exact ⟨_, .inr ⟨(Option.some.inj hvi).symm, rfl⟩⟩
            | (k + 2), hvi => simp at hvi
          obtain ⟨κ, hkv⟩ := hkv
          refine wpAny_pure (a := ()) ?_
          refine wpAny_assign_Name ?_
          walk_at "mine steps"
          refine joinL (by assumption) (by assumption) (fun v led => ∃ lk vk ck, v = .ref lk ∧ (lk, listOf vk.toArray ck) ∈ led ∧ IntsAre vk (ns.map κ)) ?_ ?_
          · rcases hkv with ⟨rfl, rfl⟩ | ⟨rfl, rfl⟩
            · walk1
              walk_at "mine steps"
              exact ⟨_, _, _, rfl, by assumption, by assumption, fun q hq => hq, l, vs, c, rfl, .tail _ (.tail _ (.tail _ hlf)), by rw [List.map_id]; exact hI⟩
            · walk1
              walk_at "mine steps"
              refine LCg.ListComp_U (by assumption) (by rfl) (by decide) (by rfl) (by decide) (by rfl) ?_
              walk_at "mine steps"
              refine' LCg.CompSrc.ledger (its := vs.toArray) (k := c) ?hh ?F ?N ?m ?szl ?_
              (case hh => exact rfl)
              (case F => assumption)
              (case N => assumption)
              (case m => exact .tail _ (.tail _ (.tail _ hlf)))
              (case szl => (rw [List.size_toArray, hI.length, sizeLine_eq]; omega))
              intro g9
              refine comp_all (fun i v => ∃ t, v = .int (-(ns.getD i 0)) t) (.inr ⟨_, .tail _ (.tail _ (.tail _ hlf)), rfl, _, rfl⟩) ?_ ?_
              · intro i v I' oI C oC D' m₃ ys h tk E' hi' hv' hC hx' F9 N9 off ne
                obtain ⟨z, t, e1, e2⟩ := IntsAre.at hI i v (by simpa using hv')
                subst e1
                walk_at "mine steps"
                exact ⟨_, _, rfl, by assumption, by assumption, _, by rw [List.getD_eq_getElem?_getD, e2]; rfl⟩
              · intro ys hlen' hys
                intro D9 h9 tk9 F9 N9 off9
                exact ⟨_, _, _, rfl, F9, N9, fun q hq => .tail _ hq, D9, ys, _, rfl, List.Mem.head _, ints_map (by rw [hlen', List.size_toArray, hI.length]) hys⟩
          · rintro v h4 tk4 led4 ⟨lk, vk, ck, rfl, hlk, hIk⟩ hsub4 F4 N4
            walk_at "mine steps"
            refine join1 (by assumption) (by assumption) (fun v => ∃ t, v = .int (κ y) t) ?_ ?_
            · rcases hkv with ⟨rfl, rfl⟩ | ⟨rfl, rfl⟩
              · walk1
                walk_at "mine steps"
                exact ⟨_, _, rfl, by assumption, by assumption, _, rfl⟩
              · walk1
                walk_at "mine steps"
                exact ⟨_, _, rfl, by assumption, by assumption, _, rfl⟩
            · rintro v h3 tk3 ⟨tw, rfl⟩ F3 N3
              obtain ⟨fix2, NF2, hg1, hg2, hgk, hgs⟩ := cells_apart N3 (hsub4 _ (.tail _ (.head _))) (hsub4 _ (.tail _ (.tail _ (.head _)))) dw2 dl2
              have hfix2 : ∀ q ∈ fixed, q ∈ fix2 := fun q hq => hgk q (hsub4 _ (.tail _ (.tail _ (.tail _ hq)))) (hf1 q hq) (hf2 q hq)
              have hI2 : (I, o₂) ∈ fix2 := hgk _ (hsub4 _ (.head _)) (fun z => hne _ (.head _) z.symm) (fun z => hne _ (.tail _ (.head _)) z.symm)
              have hlk2 : (lk, listOf vk.toArray ck) ∈ fix2 := hgs _ hlk _ _ rfl
              clear hgk hgs N3 hsub4 hlk
              have hc12 : ∀ q ∈ (L1 + 1 + 1, o2) :: fix2, q.1 ≠ L1 + 1 := fun q hq => (List.mem_cons.mp hq).elim (fun e => by rw [e]; exact Nat.ne_of_gt (Nat.lt_succ_self _)) (hg1 q)
              refine storeX_C (by assumption) NF2 rfl (UpdF.head hc12) dw2 ?_
              intro h2' o1' F2' N2' dw3
              walk_at "mine steps"
              refine wpAny_For ?_
              walk_at "mine steps"
              rename_i LI h6 F6 N6 l6
              have NF3 := news_rot N6
              have hLI1 : LI ≠ L1 + 1 := Nat.ne_of_gt l6.1
              have hLI2 : LI ≠ L1 + 1 + 1 := Nat.ne_of_gt l6.2.1
              have hk1 : ∀ q ∈ (LI, listOf [Value.bool true, Value.bool false].toArray 0) :: fix2, q.1 ≠ L1 + 1 := fun q hq => (List.mem_cons.mp hq).elim (fun e => by rw [e]; exact hLI1) (hg1 q)
              have hk2 : ∀ q ∈ (LI, listOf [Value.bool true, Value.bool false].toArray 0) :: fix2, q.1 ≠ L1 + 1 + 1 := fun q hq => (List.mem_cons.mp hq).elim (fun e => by rw [e]; exact hLI2) (hg2 q)
              refine iter_led (vs := [Value.bool true, Value.bool false]) (c := 0) (TwoJ w p loose mean mg mb (ktrTop dp un gd cn cs L a ccd cl outer) base (envX cn cs L a ccd cl :: outer) g1 l lo hi y t9 t6 ty hv DP (L1 + 1) (L1 + 1 + 1) kv lk (κ y) ((LI, listOf [Value.bool true, Value.bool false].toArray 0) :: fix2)) rfl F6 NF3 (fun i g m₁ news₁ hJ => ?_) ?hj ?_ ?_ (by passes_own)
              · obtain ⟨o1, o2, tw, v2, e, _⟩ := hJ.2.2.2.2
                rw [e]
                exact .tail _ (.tail _ (.head _))
              (case hj => exact ⟨⟨K2, B2, X2, T2, D2⟩, ⟨mr, ml, mb', me, mp, ms⟩, rfl, rfl, o1', o2, tw, _, rfl, dw3, dl2⟩)
              · clear hne hlt hit F6 N6 NF3
                intro I2 i2 bv g2 m₃ news₃ h₃ tk₃ o₃ hlt2 hvi2 hit2 ⟨⟨K3, B3, X3, T3, D3⟩, ⟨mr3, ml3, mb3, me3, mp3, ms3⟩, mt3, mk3, q1, q2, tw3, v3, e3, dw4, dl4⟩ F₃ N₃ hne3
                subst e3
                have hbv' : ∃ left, bv = .bool left := by
                  match i2, hvi2 with
                  | 0, hvi2 => exact ⟨true, (Option.some.inj hvi2).symm⟩
                  | 1, hvi2 => exact ⟨false, (Option.some.inj hvi2).symm⟩
                  | (k + 2), hvi2 => simp at hvi2
                obtain ⟨left, rfl⟩ := hbv'
                refine wpAny_pure (a := ()) ?_
                refine wpAny_assign_Name ?_
                have hi1 : I2 ≠ L1 + 1 + 1 := fun z => hne3 _ (.tail _ (.head _)) z.symm
                refine storeX_C (by assumption) N₃ rfl (UpdF.tail hi1 (UpdF.tail (Nat.ne_of_lt (Nat.lt_succ_self _)) (UpdF.head hk2))) dl4 ?_
                intro h4' q2' F4' N4' dl5
                have hne4 : ∀ q ∈ (L1 + 1, q1) :: (L1 + 1 + 1, q2') :: (LI, listOf [Value.bool true, Value.bool false].toArray 0) :: fix2, q.1 ≠ I2 := fun q hq => by
                  rcases List.mem_cons.mp hq with rfl | hq
                  · exact hne3 _ (.head _)
                  · rcases List.mem_cons.mp hq with rfl | hq
                    · exact hne3 (L1 + 1 + 1, q2) (.tail _ (.head _))
                    · exact hne3 q (.tail _ (.tail _ hq))
                walk_at "mine steps"
                refine LCg.Assign_ListComp_U (by assumption) (by rfl) (by with_unfolding_all rfl) (by rfl) (by decide) (by rfl) (by decide) (by rfl) (by rfl) (by rfl) ?_
                walk_at "mine steps"
                refine' LCg.CompSrc.ledger (its := vk.toArray) (k := ck) ?hh ?F ?N ?m ?szl ?_
                (case hh => exact rfl)
                (case F => assumption)
                (case N => assumption)
                (case m => exact .tail _ (.tail _ (.tail _ (.tail _ hlk2))))
                (case szl => (rw [List.size_toArray, hIk.length, List.length_map, sizeLine_eq]; omega))
                intro g9
                refine comp_all (fun i v => ∃ z, (ns.map κ)[i]? = some z ∧ v = .bool (decide (z < κ y) || (decide (z = κ y) && !left))) (.inr ⟨_, .tail _ (.tail _ (.tail _ (.tail _ hlk2))), rfl, _, rfl⟩) ?_ ?_
                · intro i v I' oI C oC D' m₄ ys h tk E' hi' hv' hC hx' F9 N9 off ne
                  obtain ⟨z, t, e1, e2⟩ := IntsAre.at hIk i v (by simpa using hv')
                  subst e1
                  walk_at "mine steps"
                  · exact ⟨_, _, rfl, by assumption, by assumption, z, e2, by rw [decide_eq_true (by assumption)]; rfl⟩
                  · exact ⟨_, _, rfl, by assumption, by assumption, z, e2, by rw [decide_eq_false (by assumption), decide_eq_true (by assumption)]; simp⟩
                  · exact ⟨_, _, rfl, by assumption, by assumption, z, e2, by rw [decide_eq_false (by assumption), decide_eq_false (by assumption), beq_eq_false_iff_ne.mpr (by assumption)]; rfl⟩
                · intro ys hlen' hys
                  intro DA h9 tk9 F9 N9 off9
                  have hys' : ys = boolsL (abOf left κ ns (κ y)) := above_eq (by rw [hlen', List.size_toArray, hIk.length, List.length_map]) hys
                  have hmA : (DA, listOf (boolsL (abOf left κ ns (κ y))).toArray ys.length) ∈ (DA, LCg.lst ys) :: (I2, o₃) :: (L1 + 1, q1) :: (L1 + 1 + 1, q2') :: (LI, listOf [Value.bool true, Value.bool false].toArray 0) :: fix2 := by
                    rw [← hys']
                    exact List.Mem.head _
                  walk_at "mine steps"
                  have hlm : ∀ q ∈ fixed, q ∈ (DA, LCg.lst ys) :: (I2, o₃) :: (L1 + 1, q1) :: (L1 + 1 + 1, q2') :: (LI, listOf [Value.bool true, Value.bool false].toArray 0) :: fix2 := fun q hq => .tail _ (.tail _ (.tail _ (.tail _ (.tail _ (hfix2 q hq)))))
                  have hlab : ((abOf left κ ns (κ y)).length : Int) < 2 ^ 60 := by unfold abOf; rw [List.length_map]; exact hlen60
                  refine told_spec (κ := κ) B3 F9 X3 N9 T3 rfl XB TB D3 (by show dp + 1 + 5 < recursionLimit; omega) (by show un + 3 + 30 < cLine; omega) (hlm _ hlf) hI (by omega) (by omega) (fun z => by have := hhi24 z; omega) hhv hkv ?_ ?_ ?_
                  · intro r tr h0 hb g3 h8 tk8 K4 F8 N8 B4 X4 T4 D4
                    obtain ⟨pt1, pt2, pt3⟩ := hpartsf h0
                    obtain ⟨pl1, pl2⟩ := law_int h0 hb pt2 pt3
                    walk_at "mine steps"
                    refine right_int B4 (by assumption) X4 (by assumption) T4 rfl (by show dp + 1 + 5 < recursionLimit; omega) (by show un + 3 + 80 < cLine; omega) hmA hlab (hlm _ hDPf) (pt1.mono hlm) (parts_mid h0 kp) h0 pl1 pl2 ?_
                    intro h7 tk7 F7 N7
                    walk_at "mine steps"
                    refine laid_spec (κ := κ) B4 (by assumption) X4 (by assumption) T4 rfl XB TB D4 (by show dp + 1 + 6 < recursionLimit; omega) (by show un + 3 + 40 < cLine; omega) (hlm _ hlf) hI (by omega) (by omega) (fun z => by have := hhi24 z; omega) hhv hkv ?_ ?_ ?_
                    · intro r' Q2 D2' n2 c2' vs2 h0' hb' hI2' g4 h6 tk6 K5 F6 N6 B5 X5 T5 D5
                      have er : r' = r := Option.some.inj (hb'.symm.trans hb)
                      subst er
                      walk_at "mine steps"
                      have hr0 : 0 ≤ r' := by have := bis_bounds r' hb; omega
                      have hvsz : vs.toArray.size ≤ sizeLine := by rw [List.size_toArray, hI.length, sizeLine_eq]; omega
                      k_dflt (refine' kmk_slice_ints (ms := ns.take r'.toNat) ?zF ?zN ?zl ?zp ?zq ?zi ?zm rfl ?_ ?zs ?zt ?zz)
                      (case zF => assumption)
                      (case zN => assumption)
                      (case zl => exact News.isList (by assumption) (.tail _ (.tail _ (hlm _ hlf))))
                      (case zp => kmk_part)
                      (case zq => kmk_part)
                      (case zi => exact hI)
                      (case zm => exact kmk_upto hI hr0)
                      (case zs => with_unfolding_all rfl)
                      (case zt => kmk_pure)
                      (case zz => exact hvsz)
                      intro S1 ws1 hs1 FS1 NS1 lS1 IS1 cS1 leS1
                      walk_at "mine steps"
                      k_dflt (refine' kmk_slice_ints (ms := ns.drop r'.toNat) ?yF ?yN ?yl ?yp ?yq ?yi ?ym rfl ?_ ?ys ?yt ?yz)
                      (case yF => assumption)
                      (case yN => assumption)
                      (case yl => exact News.isList (by assumption) (.tail _ (.tail _ (.tail _ (.tail _ (.tail _ (hlm _ hlf)))))))
                      (case yp => kmk_part)
                      (case yq => kmk_part)
                      (case yi => exact hI)
                      (case ym => exact kmk_from hI hr0)
                      (case ys => with_unfolding_all rfl)
                      (case yt => kmk_pure)
                      (case yz => exact hvsz)
                      intro S2 ws2 hs2 FS2 NS2 lS2 IS2 cS2 leS2
                      walk_at "mine steps"
                      rename IntsAre _ (_ ++ [y] ++ _) => hcat
                      rw [List.append_assoc] at hcat
                      refine ne_pair (xs := ns.take r'.toNat ++ y :: ns.drop r'.toNat) (d := .none) (reads_tuple_at (News.get (by assumption) (.tail _ (.tail _ (.tail _ (.tail _ (.tail _ (.tail _ (.head _)))))))) rfl rfl (ReadsAll.cons (reads_newData (News.isList (by assumption) (.tail _ (.tail _ (.tail _ (.tail _ (.tail _ (.tail _ (.tail _ (.head _))))))))) (ke_carried hI2')) (ReadsAll.cons Reads.none ReadsAll.nil)))
                        (reads_tuple_at (News.get (by assumption) (.head _)) rfl rfl (ReadsAll.cons (reads_newData (News.isList (by assumption) (.tail _ (.head _))) (ke_carried hcat)) (ReadsAll.cons Reads.none ReadsAll.nil))) (shaped_none _) rfl (by show un + 3 + 64 < cLine; omega) ?_
                      walk_at "mine steps"
                      rename News g4 L1 _ _ => NN
                      refine TurnEnd.on (by assumption) (fun q hq => NN q (.tail _ (.tail _ (.tail _ (.tail _ (.tail _ (.tail _ (.tail _ (.tail _ (.tail _ hq)))))))))) hne4 ?_
                      exact ⟨⟨(K3.trans K4).trans K5, B5, X5, T5, D5⟩, ⟨mr3, ml3, mb3, me3, mp3, ms3⟩, mt3, mk3, q1, q2', tw3, _, rfl, dw4, dl5⟩
                    · intro _ _ _ _ _ h0' hb'
                      exact absurd (hb'.symm.trans hb) (by simp)
                    · intro _ _ _ _ _ _ _ _ hneg
                      exact absurd hneg (by omega)
                  · intro tr h0 hb g3 h8 tk8 K4 F8 N8 B4 X4 T4 D4
                    obtain ⟨pt1, pt2, pt3⟩ := hpartsf h0
                    obtain ⟨pl1, pl2⟩ := law_none h0 hb pt2 pt3
                    walk_at "mine steps"
                    refine right_beyond B4 (by assumption) X4 (by assumption) T4 rfl (by show dp + 1 + 5 < recursionLimit; omega) (by show un + 3 + 80 < cLine; omega) hmA hlab (hlm _ hDPf) (pt1.mono hlm) (parts_mid h0 kp) h0 pl1 (by have := hhi24 h0; omega) pl2 ?_
                    intro h7 tk7 F7 N7
                    walk_at "mine steps"
                    refine laid_spec (κ := κ) B4 (by assumption) X4 (by assumption) T4 rfl XB TB D4 (by show dp + 1 + 6 < recursionLimit; omega) (by show un + 3 + 40 < cLine; omega) (hlm _ hlf) hI (by omega) (by omega) (fun z => by have := hhi24 z; omega) hhv hkv ?_ ?_ ?_
                    · intro _ _ _ _ _ _ h0' hb'
                      exact absurd (hb'.symm.trans hb) (by simp)
                    · intro Q2 D2' t2' n2 c2' h0' hb' g4 h6 tk6 K5 F6 N6 B5 X5 T5 D5
                      walk_at "mine steps"
                      refine ne_pair (xs := ns) (d := .str (Str.ofString "beyond")) (reads_tuple_at (News.get (by assumption) (.tail _ (.head _))) rfl rfl (ReadsAll.cons (reads_newData (News.isList (by assumption) (.tail _ (.tail _ (.head _)))) (ke_carried hI)) (ReadsAll.cons (Reads.str _ _) ReadsAll.nil)))
                        (reads_tuple_at (News.get (by assumption) (.head _)) rfl rfl (ReadsAll.cons (reads_newData (News.isList (by assumption) (.tail _ (.tail _ (.tail _ (hlm _ hlf))))) (ke_carried hI)) (ReadsAll.cons (Reads.str _ _) ReadsAll.nil))) (shaped_str _ _ (by decide +kernel)) (by decide +kernel) (by show un + 3 + 64 < cLine; omega) ?_
                      walk_at "mine steps"
                      rename News g4 L1 _ _ => NN
                      refine TurnEnd.on (by assumption) (fun q hq => NN q (.tail _ (.tail _ (.tail _ (.tail _ hq))))) hne4 ?_
                      exact ⟨⟨(K3.trans K4).trans K5, B5, X5, T5, D5⟩, ⟨mr3, ml3, mb3, me3, mp3, ms3⟩, mt3, mk3, q1, q2', tw3, _, rfl, dw4, dl5⟩
                    · intro _ _ _ _ _ _ _ _ hneg
                      exact absurd hneg (by omega)
                  · intro tp2 tkk n2 o2' hneg hoc hod g3 h8 tk8 K4 F8 N8 B4 X4 T4 D4
                    walk_at "mine steps"
                    refine right_neg B4 (by assumption) X4 (by assumption) T4 rfl (by show dp + 1 + 5 < recursionLimit; omega) (by show un + 3 + 80 < cLine; omega) (.head _) hoc hod hneg ?_
                    intro h7 tk7 F7 N7
                    walk_at "mine steps"
                    refine laid_spec (κ := κ) B4 (by assumption) X4 (by assumption) T4 rfl XB TB D4 (by show dp + 1 + 6 < recursionLimit; omega) (by show un + 3 + 40 < cLine; omega) (.tail _ (hlm _ hlf)) hI (by omega) (by omega) (fun z => by have := hhi24 z; omega) hhv hkv ?_ ?_ ?_
                    · intro _ _ _ _ _ _ h0' hb'
                      exact absurd hneg (by omega)
                    · intro _ _ _ _ _ h0' hb'
                      exact absurd hneg (by omega)
                    · intro Q2 D2' tp3 tk3' n3 n3' c3' o3' hneg' hoc3 hod3 g4 h6 tk6 K5 F6 N6 B5 X5 T5 D5
                      walk_at "mine steps"
                      refine kto_cont ⟨_, News.get (by assumption) (.tail _ (.tail _ (.tail _ (.head _)))), hoc⟩ (by decide) ?_
                      walk_at "mine steps"
                      refine ne_pair (xs := ns) (d := .tuple [.str (Str.ofString "lo must be non-negative")]) (reads_tuple_at (News.get (by assumption) (.tail _ (.head _))) rfl rfl (ReadsAll.cons (reads_newData (News.isList (by assumption) (.tail _ (.tail _ (.tail _ (.head _))))) (ke_carried hI)) (ReadsAll.cons (reads_tuple_at (News.get (by assumption) (.tail _ (.tail _ (.head _)))) hoc3 hod3 (ReadsAll.cons (Reads.str _ _) ReadsAll.nil)) ReadsAll.nil)))
                        (reads_tuple_at (News.get (by assumption) (.head _)) rfl rfl (ReadsAll.cons (reads_newData (News.isList (by assumption) (.tail _ (.tail _ (.tail _ (.tail _ (.tail _ (hlm _ hlf))))))) (ke_carried hI)) (ReadsAll.cons (reads_tuple_at (News.get (by assumption) (.tail _ (.tail _ (.tail _ (.tail _ (.head _)))))) hoc hod (ReadsAll.cons (Reads.str _ _) ReadsAll.nil)) ReadsAll.nil))) (shaped_tup _ _ (by decide +kernel)) (by decide +kernel) (by show un + 3 + 64 < cLine; omega) ?_
                      walk_at "mine steps"
                      rename News g4 L1 _ _ => NN
                      refine TurnEnd.on (by assumption) (fun q hq => NN q (.tail _ (.tail _ (.tail _ (.tail _ (.tail _ (.tail _ hq))))))) hne4 ?_
                      exact ⟨⟨(K3.trans K4).trans K5, B5, X5, T5, D5⟩, ⟨mr3, ml3, mb3, me3, mp3, ms3⟩, mt3, mk3, q1, q2', tw3, _, rfl, dw4, dl5⟩
              · intro g2 m₃ news₃ h₃ tk₃ ⟨⟨K3, B3, X3, T3, D3⟩, ⟨mr3, ml3, mb3, me3, mp3, ms3⟩, mt3, mk3, q1, q2, tw3, v3, e3, dw4, dl4⟩ F₃ N₃
                subst e3
                walk_at "mine steps"
                have hneO : ∀ q ∈ (L1 + 1, q1) :: (L1 + 1 + 1, q2) :: fixed, q.1 ≠ I := fun q hq => by
                  rcases List.mem_cons.mp hq with rfl | hq
                  · exact hne (L1 + 1, o1) (.head _)
                  · rcases List.mem_cons.mp hq with rfl | hq
                    · exact hne (L1 + 1 + 1, o2) (.tail _ (.head _))
                    · exact hne q (.tail _ (.tail _ hq))
                have NO : News g2 L1 h₃ ((I, o₂) :: (L1 + 1, q1) :: (L1 + 1 + 1, q2) :: fixed) := fun q hq => by
                  rcases List.mem_cons.mp hq with rfl | hq
                  · exact N₃ _ (.tail _ (.tail _ (.tail _ hI2)))
                  · rcases List.mem_cons.mp hq with rfl | hq
                    · exact N₃ _ (.head _)
                    · rcases List.mem_cons.mp hq with rfl | hq
                      · exact N₃ _ (.tail _ (.head _))
                      · exact N₃ _ (.tail _ (.tail _ (.tail _ (hfix2 q hq))))
                refine TurnEnd.on (by assumption) NO hneO ?_
                exact ⟨⟨K3, B3, X3, T3, D3⟩, ⟨mr3, ml3, mb3, me3, mp3, ms3⟩, q1, q2, _, _, rfl, dw4, dl4⟩
        · intro g m₂ news₂ h₂ tk₂ ⟨⟨K2, B2, X2, T2, D2⟩, _, o1, o2, v1, v2, e2, _, _⟩ F₂ N₂
          subst e2
          walk_at "mine steps"
          rename_i kg kT kF kN kB kX0 kP kD kX
          exact hret kg _ _ kT kF (fun q hq => kN q (.tail _ (.tail _ (hnews q hq)))) kB kX0 kP kD
end

section
variable {h₀ h₀' h : Heap} {L : Addr} {m : Str → Option Value} {news : List (Addr × Obj)}
theorem fr_back (T : KtsTurn [] h₀ h₀') (F : Fr h₀' L h m) : Fr h₀ L h m := ⟨F.ns, fun b o e => F.keep b o (T.other b o e (fun z => nomatch z)), T.size ▸ F.above⟩
theorem news_back (T : KtsTurn [] h₀ h₀') (N : News h₀' L h news) : News h₀ L h news := fun q hq => ⟨(N q hq).1, (N q hq).2.1, by
  cases e : h₀.get? q.1 with
  | none => rfl
  | some o =>
    have := T.other _ o e (fun z => nomatch z)
    rw [(N q hq).2.2] at this
    cases this⟩
end
section
theorem rows_len (l : List Int) : 4 ≤ (l.take 8 ++ [-7, 50, 30, 15]).length ∧ (l.take 8 ++ [-7, 50, 30, 15]).length ≤ 12 := by
  rw [List.length_append, List.length_take]
  simp only [List.length_cons, List.length_nil]
  omega
theorem all_true {n : Nat} {ys : List Value} (hl : ys.length = n) (h : ∀ (i : Nat) (v : Value), ys[i]? = some v → v = Value.bool true) : ys = ((List.range n).map fun _ => true).map Value.bool := bools_eq (f := fun _ => true) hl h
theorem all_range (n : Nat) : (((List.range n).map fun _ => true).all id) = true := by
  rw [List.all_map, List.all_eq_true]
  intro x _
  rfl
end

theorem law_holds : PySem.Challenge.rw_mr0003_01.Holds := hd (by
  k_go0
  (all_goals try k_fold)
  walk_at "mine steps"
  rename IntsAre _ (List.take 8 _ ++ [-7, 50, 30, 15]) => hI
  have hb : ∃ ns, IntsAre _ ns ∧ 4 ≤ ns.length ∧ ns.length ≤ 12 := ⟨_, hI, rows_len _⟩
  clear hI
  obtain ⟨ns, hI, hn1, hn2⟩ := hb
  have hl60 : (ns.length : Int) < 2 ^ 60 := by omega
  refine LCg.ListComp_U (by assumption) (by rfl) (by decide) (by rfl) (by decide) (by rfl) ?_
  walk_at "mine steps"
  refine' LCg.CompSrc.range (n := ns.length) ?hh ?F ?N ?hr ?sm ?sz ?szl ?_
  (case hh => exact rfl)
  (case F => assumption)
  (case N => assumption)
  (case hr => assumption)
  (case sm => exact small_one (by omega) (by omega) (by omega) (by omega))
  (case sz => (unfold Builtin.Range.rangeSize; rw [if_pos (by decide), if_pos (by omega)]; omega))
  (case szl => (rw [sizeLine_eq]; omega))
  intro g9
  refine comp_all (fun i v => v = .bool true) trivial ?_ ?_
  · intro i v I oI C oC D m₂ ys h tk E' hi ⟨t, hv⟩ hC hx F9 N9 off ne
    subst hv
    walk_at "mine steps"
    refine one_spec (below_caller _) F9 (by assumption) N9 (by assumption) rfl (by assumption) (by assumption) ktsDicts_nil (by decide) (by decide) (.tail _ (.tail _ (.tail _ (.head _)))) hI hn1 hn2 (by omega) (by omega) ?_
    intro g8 h8 tk8 K8 F8 N8 B8 X8 T8 D8
    exact ⟨h8, tk8, rfl, fr_back K8 F8, news_back K8 N8, rfl⟩
  · intro ys hlen hys
    intro D9 h9 tk9 F9 N9 off9
    have hb := all_true hlen hys
    walk_at "mine steps"
    refine' LSm.all_bools ?F ?N ?hh ?hl ?hb ?_
    (case F => assumption)
    (case N => assumption)
    (case hh => exact rfl)
    (case hl => exact News.isList (by assumption) (List.Mem.head _))
    (case hb => (rw [hb]; exact boolsAre_map _))
    intro h8 tk8 F8 N8
    rw [all_range]
    walk_at "mine steps"
    wrow_close)
end Mine
theorem PySem.Challenge.cw_mr0003_01_holds : PySem.Challenge.rw_mr0003_01.Holds := by
  exact Mine.law_holds
