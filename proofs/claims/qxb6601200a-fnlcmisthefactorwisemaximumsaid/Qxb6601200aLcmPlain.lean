import Derived.Test.Qxb6601200aLcmDiv
namespace Go.Proofs.Qxb6601200a
open Go.RowKit

theorem P1_app_lt {L : List (Int × Int)} {p : Int × Int} {k : Nat} (h : k < L.length) : P1 (L ++ [p]) k = P1 L k ∧ P2 (L ++ [p]) k = P2 L k := by
  simp [P1, P2, List.getElem?_append_left h]
theorem P1_app_last {L : List (Int × Int)} {p : Int × Int} : P1 (L ++ [p]) L.length = p.1 ∧ P2 (L ++ [p]) L.length = p.2 := by
  simp [P1, P2]

/-- (c, t): c is of either list, t the greater of its times in both. -/
def Good (xs ys : List (Int × Int)) (c t : Int) : Prop :=
  (∃ i, i < xs.length ∧ P1 xs i = c ∧ P2 xs i = t ∧ ∀ j, j < ys.length → P1 ys j = c → P2 ys j ≤ t) ∨
  (∃ j, j < ys.length ∧ P1 ys j = c ∧ P2 ys j = t ∧ ∀ i, i < xs.length → P1 xs i = c → P2 xs i ≤ t)

structure PInv (xs ys : List (Int × Int)) (i j : Nat) (L : List (Int × Int)) : Prop where
  inc : Incr L
  good : ∀ k, k < L.length → Good xs ys (P1 L k) (P2 L k)
  hasX : ∀ i', i' < i → ∃ k, k < L.length ∧ P1 L k = P1 xs i'
  hasY : ∀ j', j' < j → ∃ k, k < L.length ∧ P1 L k = P1 ys j'
  lowX : ∀ k, k < L.length → i < xs.length → P1 L k < P1 xs i
  lowY : ∀ k, k < L.length → j < ys.length → P1 L k < P1 ys j
  len : L.length ≤ i + j

theorem PInv.start (xs ys : List (Int × Int)) : PInv xs ys 0 0 [] :=
  ⟨fun i h => by simp at h, fun k h => by simp at h, fun i h => by omega, fun i h => by omega, fun k h => by simp at h, fun k h => by simp at h, by simp⟩

theorem incr_snoc {L : List (Int × Int)} {p : Int × Int} (h : Incr L) (hp : ∀ k, k < L.length → P1 L k < p.1) : Incr (L ++ [p]) := by
  intro i hi
  simp only [List.length_append, List.length_cons, List.length_nil] at hi
  by_cases e : i + 1 < L.length
  · rw [(P1_app_lt (p := p) e).1, (P1_app_lt (p := p) (show i < L.length by omega)).1]
    exact h i e
  · have e2 : i + 1 = L.length := by omega
    rw [e2, P1_app_last.1, (P1_app_lt (p := p) (show i < L.length by omega)).1]
    exact hp i (by omega)

/-- What every step does. -/
theorem PInv.snoc {xs ys : List (Int × Int)} {i j i2 j2 : Nat} {L : List (Int × Int)} {p : Int × Int} (h : PInv xs ys i j L)
    (hlow : ∀ k, k < L.length → P1 L k < p.1) (hgood : Good xs ys p.1 p.2)
    (hX : ∀ i', i' < i2 → i' < i ∨ P1 xs i' = p.1) (hY : ∀ j', j' < j2 → j' < j ∨ P1 ys j' = p.1)
    (lX : i2 < xs.length → p.1 < P1 xs i2) (lY : j2 < ys.length → p.1 < P1 ys j2) (hlen : i + j < i2 + j2) : PInv xs ys i2 j2 (L ++ [p]) := by
  have hl : (L ++ [p]).length = L.length + 1 := by simp
  have low : ∀ k, k < (L ++ [p]).length → P1 (L ++ [p]) k ≤ p.1 := by
    intro k hk
    by_cases e : k < L.length
    · rw [(P1_app_lt (p := p) e).1]; have := hlow k e; omega
    · obtain rfl : k = L.length := by omega
      rw [P1_app_last.1]; exact Int.le_refl _
  refine ⟨incr_snoc h.inc hlow, fun k hk => ?_, fun i' hi' => ?_, fun j' hj' => ?_, fun k hk hi => ?_, fun k hk hj => ?_, by have := h.len; omega⟩
  · by_cases e : k < L.length
    · rw [(P1_app_lt (p := p) e).1, (P1_app_lt (p := p) e).2]; exact h.good k e
    · obtain rfl : k = L.length := by omega
      rw [P1_app_last.1, P1_app_last.2]; exact hgood
  · rcases hX i' hi' with e | e
    · obtain ⟨k, hk, ek⟩ := h.hasX i' e
      exact ⟨k, by omega, by rw [(P1_app_lt (p := p) hk).1]; exact ek⟩
    · exact ⟨L.length, by omega, by rw [P1_app_last.1]; exact e.symm⟩
  · rcases hY j' hj' with e | e
    · obtain ⟨k, hk, ek⟩ := h.hasY j' e
      exact ⟨k, by omega, by rw [(P1_app_lt (p := p) hk).1]; exact ek⟩
    · exact ⟨L.length, by omega, by rw [P1_app_last.1]; exact e.symm⟩
  · have := low k hk; have := lX hi; omega
  · have := low k hk; have := lY hj; omega

theorem PInv.stepX {xs ys : List (Int × Int)} {i j : Nat} {L : List (Int × Int)} (ix : Incr xs) (iy : Incr ys) (h : PInv xs ys i j L) (hi : i < xs.length) (hij : j < ys.length → P1 xs i < P1 ys j) :
    PInv xs ys (i + 1) j (L ++ [(P1 xs i, P2 xs i)]) := by
  refine h.snoc (fun k hk => h.lowX k hk hi) (.inl ⟨i, hi, rfl, rfl, fun j' hj' e => ?_⟩) (fun i' hi' => ?_) (fun j' hj' => .inl hj') (fun hi2 => ix i hi2) hij (by omega)
  · exfalso
    by_cases c : j' < j
    · obtain ⟨k, hk, ek⟩ := h.hasY j' c
      have := h.lowX k hk hi
      simp only at e; omega
    · have h1 := hij (by omega)
      have h2 := iy.le j j' (by omega) hj'
      simp only at e; omega
  · by_cases c : i' = i
    · subst c; exact .inr rfl
    · exact .inl (by omega)

theorem PInv.stepY {xs ys : List (Int × Int)} {i j : Nat} {L : List (Int × Int)} (ix : Incr xs) (iy : Incr ys) (h : PInv xs ys i j L) (hj : j < ys.length) (hij : i < xs.length → P1 ys j < P1 xs i) :
    PInv xs ys i (j + 1) (L ++ [(P1 ys j, P2 ys j)]) := by
  refine h.snoc (fun k hk => h.lowY k hk hj) (.inr ⟨j, hj, rfl, rfl, fun i' hi' e => ?_⟩) (fun i' hi' => .inl hi') (fun j' hj' => ?_) hij (fun hj2 => iy j hj2) (by omega)
  · exfalso
    by_cases c : i' < i
    · obtain ⟨k, hk, ek⟩ := h.hasX i' c
      have := h.lowY k hk hj
      simp only at e; omega
    · have h1 := hij (by omega)
      have h2 := ix.le i i' (by omega) hi'
      simp only at e; omega
  · by_cases c : j' = j
    · subst c; exact .inr rfl
    · exact .inl (by omega)

theorem incr_inj {xs : List (Int × Int)} (h : Incr xs) {i j : Nat} (hi : i < xs.length) (hj : j < xs.length) (e : P1 xs i = P1 xs j) : i = j := by
  rcases Nat.lt_trichotomy i j with c | c | c
  · have := h.lt i j c hj; omega
  · exact c
  · have := h.lt j i c hi; omega

/-- What Go's max of two numbers reads as. -/
def mx (x y : Int) : Int := if y > x then y else x

theorem PInv.stepB {xs ys : List (Int × Int)} {i j : Nat} {L : List (Int × Int)} (ix : Incr xs) (iy : Incr ys) (h : PInv xs ys i j L) (hi : i < xs.length) (hj : j < ys.length) (hij : P1 xs i = P1 ys j) :
    PInv xs ys (i + 1) (j + 1) (L ++ [(P1 xs i, mx (P2 xs i) (P2 ys j))]) := by
  refine h.snoc (fun k hk => h.lowX k hk hi) ?_ (fun i' hi' => ?_) (fun j' hj' => ?_) (fun hi2 => ix i hi2) (fun hj2 => by have := iy j hj2; simp only; omega) (by omega)
  · by_cases c : P2 ys j > P2 xs i
    · refine .inr ⟨j, hj, hij.symm, by simp [mx, c], fun i' hi' e => ?_⟩
      have := incr_inj ix hi' hi e
      subst this
      simp only [mx, c, if_true]; omega
    · refine .inl ⟨i, hi, rfl, by simp [mx, c], fun j' hj' e => ?_⟩
      have := incr_inj iy hj' hj (e.trans hij)
      subst this
      simp only [mx, c, if_false]; omega
  · by_cases c : i' = i
    · subst c; exact .inr rfl
    · exact .inl (by omega)
  · by_cases c : j' = j
    · subst c; exact .inr hij.symm
    · exact .inl (by omega)

/-- L lists just the factors of either list, increasing, each with the greater of its times. -/
structure IsLcm (xs ys L : List (Int × Int)) : Prop where
  inc : Incr L
  good : ∀ k, k < L.length → Good xs ys (P1 L k) (P2 L k)
  hasX : ∀ i, i < xs.length → ∃ k, k < L.length ∧ P1 L k = P1 xs i
  hasY : ∀ j, j < ys.length → ∃ k, k < L.length ∧ P1 L k = P1 ys j
  len : L.length ≤ xs.length + ys.length

theorem PInv.done {xs ys L : List (Int × Int)} (h : PInv xs ys xs.length ys.length L) : IsLcm xs ys L := ⟨h.inc, h.good, h.hasX, h.hasY, h.len⟩

theorem isLcm_left {xs ys : List (Int × Int)} (ix : Incr xs) (h : Div ys xs) : IsLcm xs ys xs := by
  refine ⟨ix, fun k hk => .inl ⟨k, hk, rfl, rfl, fun j hj e => ?_⟩, fun i hi => ⟨i, hi, rfl⟩, fun j hj => ?_, by omega⟩
  · obtain ⟨i, hi, e1, e2⟩ := h j hj
    have := incr_inj ix hi hk (e1.trans e)
    subst this; exact e2
  · obtain ⟨i, hi, e1, _⟩ := h j hj
    exact ⟨i, hi, e1⟩
theorem isLcm_right {xs ys : List (Int × Int)} (iy : Incr ys) (h : Div xs ys) : IsLcm xs ys ys := by
  refine ⟨iy, fun k hk => .inr ⟨k, hk, rfl, rfl, fun j hj e => ?_⟩, fun j hj => ?_, fun i hi => ⟨i, hi, rfl⟩, by omega⟩
  · obtain ⟨i, hi, e1, e2⟩ := h j hj
    have := incr_inj iy hi hk (e1.trans e)
    subst this; exact e2
  · obtain ⟨i, hi, e1, _⟩ := h j hj
    exact ⟨i, hi, e1⟩

theorem good_geX {xs ys : List (Int × Int)} (ix : Incr xs) {c t : Int} (h : Good xs ys c t) {i : Nat} (hi : i < xs.length) (e : P1 xs i = c) : P2 xs i ≤ t := by
  rcases h with ⟨i', hi', e1, e2, _⟩ | ⟨j', hj', e1, e2, hh⟩
  · have := incr_inj ix hi hi' (e.trans e1.symm)
    subst this; omega
  · exact hh i hi e
theorem good_geY {xs ys : List (Int × Int)} (iy : Incr ys) {c t : Int} (h : Good xs ys c t) {j : Nat} (hj : j < ys.length) (e : P1 ys j = c) : P2 ys j ≤ t := by
  rcases h with ⟨i', hi', e1, e2, hh⟩ | ⟨j', hj', e1, e2, _⟩
  · exact hh j hj e
  · have := incr_inj iy hj hj' (e.trans e1.symm)
    subst this; omega

/-- A list that is the merge and is xs itself: then ys divides xs. -/
theorem div_of_eqX {xs ys : List (Int × Int)} (iy : Incr ys) (h : IsLcm xs ys xs) : Div ys xs := by
  intro j hj
  obtain ⟨k, hk, e⟩ := h.hasY j hj
  exact ⟨k, hk, e, good_geY iy (h.good k hk) hj e.symm⟩
theorem div_of_eqY {xs ys : List (Int × Int)} (ix : Incr xs) (h : IsLcm xs ys ys) : Div xs ys := by
  intro j hj
  obtain ⟨k, hk, e⟩ := h.hasX j hj
  exact ⟨k, hk, e, good_geX ix (h.good k hk) hj e.symm⟩

/-- What lcm hands back. -/
def LcmOK (xs ys L : List (Int × Int)) (merged : Bool) : Prop := IsLcm xs ys L ∧ (merged = true ↔ L ≠ xs ∧ L ≠ ys)

theorem lcmOK_left {xs ys : List (Int × Int)} (ix : Incr xs) (h : Div ys xs) : LcmOK xs ys xs false := ⟨isLcm_left ix h, by simp⟩
theorem lcmOK_right {xs ys : List (Int × Int)} (iy : Incr ys) (h : Div xs ys) : LcmOK xs ys ys false := ⟨isLcm_right iy h, by simp⟩
theorem lcmOK_both {xs ys L : List (Int × Int)} (ix : Incr xs) (iy : Incr ys) (h1 : ¬ Div ys xs) (h2 : ¬ Div xs ys) (h : IsLcm xs ys L) : LcmOK xs ys L true :=
  ⟨h, by simp; exact ⟨fun e => h1 (div_of_eqX iy (e ▸ h)), fun e => h2 (div_of_eqY ix (e ▸ h))⟩⟩

end Go.Proofs.Qxb6601200a
