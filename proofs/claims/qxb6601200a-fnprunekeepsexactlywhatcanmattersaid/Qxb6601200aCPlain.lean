import Derived.Test.Qxb6601200aPBase
import Derived.Lib.DecodeN
import Derived.Lib.TrimU
namespace Go.Proofs.Qxb6601200a
open Go.RowKit

/-! ### The code points of a string -/
def runesAt (s : ByteArray) : Nat → Nat → List Int
  | 0, _ => []
  | f + 1, pos => if pos < s.size then ((Utf8.decode s pos).1 : Int) :: runesAt s f (pos + (Utf8.decode s pos).2) else []
/-- What is still to come from pos on. -/
def runesLeft (s : ByteArray) (pos : Nat) : List Int := runesAt s (s.size - pos) pos
def runes (s : ByteArray) : List Int := runesLeft s 0
theorem dec_pos (s : ByteArray) (pos : Nat) : 1 ≤ (Utf8.decode s pos).2 := Lib.width_pos s pos
theorem runesAt_fuel (s : ByteArray) : ∀ (f g pos : Nat), s.size - pos ≤ f → s.size - pos ≤ g → runesAt s f pos = runesAt s g pos
  | 0, g, pos, hf, hg => by
    cases g with
    | zero => rfl
    | succ g => simp only [runesAt]; rw [if_neg (by omega)]
  | f + 1, g, pos, hf, hg => by
    by_cases h : pos < s.size
    · have hw := dec_pos s pos
      cases g with
      | zero => omega
      | succ g =>
        simp only [runesAt]
        rw [if_pos h, if_pos h, runesAt_fuel s f g _ (by omega) (by omega)]
    · cases g with
      | zero => simp only [runesAt]; rw [if_neg h]
      | succ g => simp only [runesAt]; rw [if_neg h, if_neg h]
theorem runesLeft_step {s : ByteArray} {pos : Nat} (h : pos < s.size) : runesLeft s pos = ((Utf8.decode s pos).1 : Int) :: runesLeft s (pos + (Utf8.decode s pos).2) := by
  have hw := dec_pos s pos
  obtain ⟨f, hf⟩ : ∃ f, s.size - pos = f + 1 := ⟨s.size - pos - 1, by omega⟩
  unfold runesLeft
  rw [hf]
  simp only [runesAt]
  rw [if_pos h, runesAt_fuel s f (s.size - (pos + (Utf8.decode s pos).2)) _ (by omega) (Nat.le_refl _)]
theorem runesLeft_end {s : ByteArray} {pos : Nat} (h : ¬ pos < s.size) : runesLeft s pos = [] := by
  unfold runesLeft
  rw [show s.size - pos = 0 by omega]; rfl
theorem runesLeft_length (s : ByteArray) (pos : Nat) : (runesLeft s pos).length ≤ s.size - pos := by
  have : ∀ (f pos : Nat), (runesAt s f pos).length ≤ f := by
    intro f
    induction f with
    | zero => intro pos; simp [runesAt]
    | succ f ih => intro pos; simp only [runesAt]; split
                   · have := ih (pos + (Utf8.decode s pos).2); simp; omega
                   · simp
  exact this _ _
theorem runes_length (s : ByteArray) : (runes s).length ≤ s.size := runesLeft_length s 0

/-! ### The tokens of a pattern, as compile reads it -/
/-- One character: the escape flag and the tokens so far. -/
def tstep (lit : Bool) (st : Bool × List Int) (r : Int) : Bool × List Int :=
  if st.1 = true ∧ r = 40 then (false, st.2 ++ [-4])
  else if st.1 = true ∧ r = 123 then (false, st.2 ++ [-5])
  else if st.1 = true ∧ r = 125 then (false, st.2 ++ [-6])
  else if lit = true ∨ st.1 = true then (false, st.2 ++ [r])
  else if r = 92 then (true, st.2)
  else if r = 42 then (false, st.2 ++ [-2])
  else if r = 63 then (false, st.2 ++ [-3])
  else (false, st.2 ++ [r])
def toks (lit : Bool) (rs : List Int) : List Int := (rs.foldl (tstep lit) (false, [])).2
theorem tstep_len (lit : Bool) (st : Bool × List Int) (r : Int) : (tstep lit st r).2.length ≤ st.2.length + 1 := by
  unfold tstep
  repeat' split
  all_goals simp
theorem tfold_len (lit : Bool) (rs : List Int) : ∀ st : Bool × List Int, (rs.foldl (tstep lit) st).2.length ≤ st.2.length + rs.length := by
  induction rs with
  | nil => intro st; simp
  | cons r rs ih =>
    intro st
    have h1 := ih (tstep lit st r)
    have h2 := tstep_len lit st r
    simp only [List.foldl_cons, List.length_cons]; omega
/-- The tokens of pattern k. -/
def tokI (ps : List Pat) (k : Nat) : List Int := toks (pli ps k) (runes (ptx ps k))
theorem tokI_len (ps : List Pat) (k : Nat) : (tokI ps k).length ≤ (ptx ps k).size := by
  have h1 := tfold_len (pli ps k) (runes (ptx ps k)) (false, [])
  have h2 := runes_length (ptx ps k)
  simp only [tokI, toks, List.length_nil] at h1 ⊢; omega

/-! ### What compile lays for the first k patterns -/
def atTo (ps : List Pat) : Nat → List Int
  | 0 => []
  | k + 1 => atTo ps k ++ (tokI ps k ++ [-1])
def owTo (ps : List Pat) : Nat → List Int
  | 0 => []
  | k + 1 => owTo ps k ++ List.replicate ((tokI ps k).length + 1) (k : Int)
def fiTo (ps : List Pat) : Nat → List Int
  | 0 => []
  | k + 1 => fiTo ps k ++ [((atTo ps k).length : Int)]
def foTo (ps : List Pat) : Nat → List Bool
  | 0 => []
  | k + 1 => foTo ps k ++ [pfo ps k]
def clTo (ps : List Pat) : Nat → Bool
  | 0 => true
  | k + 1 => clTo ps k && pfo ps k
theorem atTo_len (ps : List Pat) : ∀ k, (atTo ps k).length ≤ tlenTo ps k + k
  | 0 => by simp [atTo]
  | k + 1 => by
    have h1 := atTo_len ps k
    have h2 := tokI_len ps k
    simp only [atTo, tlenTo, List.length_append, List.length_cons, List.length_nil]; omega
theorem owTo_len (ps : List Pat) : ∀ k, (owTo ps k).length = (atTo ps k).length
  | 0 => rfl
  | k + 1 => by simp only [owTo, atTo, List.length_append, List.length_replicate, List.length_cons, List.length_nil, owTo_len ps k]
theorem fiTo_len (ps : List Pat) : ∀ k, (fiTo ps k).length = k
  | 0 => rfl
  | k + 1 => by simp [fiTo, fiTo_len ps k]
theorem foTo_len (ps : List Pat) : ∀ k, (foTo ps k).length = k
  | 0 => rfl
  | k + 1 => by simp [foTo, foTo_len ps k]
theorem atTo_mono (ps : List Pat) {i j : Nat} (h : i ≤ j) : (atTo ps i).length ≤ (atTo ps j).length := by
  induction j with
  | zero => obtain rfl : i = 0 := by omega
            exact Nat.le_refl _
  | succ j ih =>
    by_cases e : i = j + 1
    · subst e; exact Nat.le_refl _
    · have := ih (by omega); simp only [atTo, List.length_append]; omega
theorem atTo_succ_len (ps : List Pat) (k : Nat) : (atTo ps (k + 1)).length = (atTo ps k).length + (tokI ps k).length + 1 := by
  simp only [atTo, List.length_append, List.length_cons, List.length_nil]; omega

/-- Pattern i's first position. -/
def startOf (ps : List Pat) (i : Nat) : Nat := (atTo ps i).length
theorem fiTo_at (ps : List Pat) : ∀ k i, i < k → iat (fiTo ps k) i = (startOf ps i : Int)
  | 0, i, h => by omega
  | k + 1, i, h => by
    by_cases e : i < k
    · rw [fiTo, iat_app_lt (by rw [fiTo_len]; exact e)]; exact fiTo_at ps k i e
    · obtain rfl : i = k := by omega
      have := iat_app_ge (L := fiTo ps i) (M := [((atTo ps i).length : Int)]) (k := 0)
      rw [fiTo_len, Nat.add_zero] at this
      rw [fiTo, this]; rfl
/-- Position k of the first n patterns lies in one of them. -/
theorem pos_owner (ps : List Pat) : ∀ n k, k < (atTo ps n).length → ∃ p, p < n ∧ startOf ps p ≤ k ∧ k < startOf ps (p + 1)
  | 0, k, h => by simp [atTo] at h
  | n + 1, k, h => by
    by_cases e : k < (atTo ps n).length
    · obtain ⟨p, hp, h1, h2⟩ := pos_owner ps n k e
      exact ⟨p, by omega, h1, h2⟩
    · exact ⟨n, by omega, by unfold startOf; omega, h⟩
theorem owTo_at (ps : List Pat) : ∀ n k p, p < n → startOf ps p ≤ k → k < startOf ps (p + 1) → iat (owTo ps n) k = (p : Int)
  | 0, k, p, h, _, _ => by omega
  | n + 1, k, p, h, h1, h2 => by
    by_cases e : p < n
    · have hk : k < (owTo ps n).length := by
        rw [owTo_len]
        have := atTo_mono ps (show p + 1 ≤ n by omega)
        unfold startOf at h2; omega
      rw [owTo, iat_app_lt hk]
      exact owTo_at ps n k p e h1 h2
    · obtain rfl : p = n := by omega
      unfold startOf at h1 h2
      rw [atTo_succ_len] at h2
      obtain ⟨j, rfl⟩ : ∃ j, k = (owTo ps p).length + j := ⟨k - (owTo ps p).length, by rw [owTo_len]; omega⟩
      rw [owTo_len] at h1 h2
      rw [owTo, iat_app_ge]
      simp [iat, show j < (tokI ps p).length + 1 by omega]
theorem atTo_at (ps : List Pat) : ∀ n p j, p < n → j < (tokI ps p).length → iat (atTo ps n) (startOf ps p + j) = iat (tokI ps p) j
  | 0, p, j, h, _ => by omega
  | n + 1, p, j, h, hj => by
    by_cases e : p < n
    · have hk : startOf ps p + j < (atTo ps n).length := by
        have := atTo_mono ps (show p + 1 ≤ n by omega)
        rw [atTo_succ_len] at this
        unfold startOf; omega
      rw [atTo, iat_app_lt hk]
      exact atTo_at ps n p j e hj
    · obtain rfl : p = n := by omega
      unfold startOf
      rw [atTo, iat_app_ge, iat_app_lt hj]
theorem atTo_end (ps : List Pat) : ∀ n p, p < n → iat (atTo ps n) (startOf ps p + (tokI ps p).length) = -1
  | 0, p, h => by omega
  | n + 1, p, h => by
    by_cases e : p < n
    · have hk : startOf ps p + (tokI ps p).length < (atTo ps n).length := by
        have := atTo_mono ps (show p + 1 ≤ n by omega)
        rw [atTo_succ_len] at this
        unfold startOf; omega
      rw [atTo, iat_app_lt hk]
      exact atTo_end ps n p e
    · obtain rfl : p = n := by omega
      unfold startOf
      have := iat_app_ge (L := tokI ps p) (M := [-1]) (k := 0)
      rw [Nat.add_zero] at this
      rw [atTo, iat_app_ge, this]; rfl
theorem startOf_succ (ps : List Pat) (p : Nat) : startOf ps (p + 1) = startOf ps p + (tokI ps p).length + 1 := atTo_succ_len ps p

/-! ### The cuts -/
def isStop (c : Int) : Bool := c == 58 || c == -2 || c == -3
theorem isStop_true {c : Int} (h : isStop c = true) : (c == 58) = true ∨ ((c == 58) = false ∧ (c == -2) = true) ∨ ((c == 58) = false ∧ (c == -2) = false ∧ (c == -3) = true) := by
  unfold isStop at h
  revert h
  cases (c == 58) <;> cases (c == -2) <;> cases (c == -3) <;> simp
theorem isStop_false {c : Int} (h : isStop c = false) : (c == 58) = false ∧ (c == -2) = false ∧ (c == -3) = false := by
  unfold isStop at h
  revert h
  cases (c == 58) <;> cases (c == -2) <;> cases (c == -3) <;> simp
/-- 'last' ahead of position k. -/
def lastAt (at' fi ow : List Int) : Nat → Int
  | 0 => -1
  | k + 1 => if isStop (iat at' k) = true then (k : Int) else if (k : Int) = iat fi (iat ow k).toNat then (k : Int) - 1 else lastAt at' fi ow k
def cutAt (at' fi ow : List Int) (k : Nat) : Int := if (k : Int) = iat fi (iat ow k).toNat then (k : Int) - 1 else lastAt at' fi ow k
theorem lastAt_succ (at' fi ow : List Int) (k : Nat) : lastAt at' fi ow (k + 1) = if isStop (iat at' k) = true then (k : Int) else cutAt at' fi ow k := rfl
theorem lastAt_bd (at' fi ow : List Int) : ∀ k, -1 ≤ lastAt at' fi ow k ∧ lastAt at' fi ow k < k
  | 0 => by simp [lastAt]
  | k + 1 => by
    have := lastAt_bd at' fi ow k
    simp only [lastAt]
    split
    · omega
    · split <;> omega
/-- Does a field's wildcard stand among the first k? -/
def fieldsTo (at' : List Int) : Nat → Bool
  | 0 => false
  | k + 1 => fieldsTo at' k || iat at' k == -5 || iat at' k == -6
def fields (at' : List Int) : Bool := fieldsTo at' at'.length

/-- The greatest group number and one, at least 0. -/
def gcTo (gs : List Int) : Nat → Int
  | 0 => 0
  | k + 1 => if iat gs k + 1 > gcTo gs k then iat gs k + 1 else gcTo gs k
theorem gcTo_nonneg (gs : List Int) : ∀ k, 0 ≤ gcTo gs k
  | 0 => by simp [gcTo]
  | k + 1 => by have := gcTo_nonneg gs k; simp only [gcTo]; split <;> omega
theorem gcTo_le (gs : List Int) (M : Int) (hM : 0 ≤ M) (h : ∀ i, i < gs.length → iat gs i ≤ M) : ∀ k, k ≤ gs.length → gcTo gs k ≤ M + 1
  | 0, _ => by simp [gcTo]; omega
  | k + 1, hk => by
    have h1 := gcTo_le gs M hM h k (by omega)
    have h2 := h k (by omega)
    simp only [gcTo]; split <;> omega
theorem gcTo_gt (gs : List Int) : ∀ k i, i < k → iat gs i < gcTo gs k
  | 0, i, h => by omega
  | k + 1, i, h => by
    by_cases e : i < k
    · have := gcTo_gt gs k i e; simp only [gcTo]; split <;> omega
    · obtain rfl : i = k := by omega
      simp only [gcTo]; split <;> omega
def gcount (gs : List Int) : Nat := (gcTo gs gs.length).toNat

end Go.Proofs.Qxb6601200a
