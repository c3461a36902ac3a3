import Derived.Test.Qxb6601200aRender
set_option linter.unusedSimpArgs false
set_option linter.unusedVariables false
namespace Go.Proofs.Qxb6601200a
open Go.RowKit

theorem rend_snoc (L : List Int) (x : Int) : rend (L ++ [x]) = rend L ++ rend1 x := by simp [rend]
theorem rendTo_take (at' tk : List Int) (fr : Nat) : ∀ k, k ≤ tk.length → (∀ j, j < k → iat at' (fr + j) = iat tk j) → rendTo at' fr k = rend (tk.take k)
  | 0, _, _ => by simp [rendTo, rend]
  | k + 1, hk, h => by
    have ih := rendTo_take at' tk fr k (by omega) (fun j hj => h j (by omega))
    have e : iat tk k = tk[k] := by simp [iat, List.getElem?_eq_getElem (show k < tk.length by omega)]
    rw [rendTo, ih, h k (by omega), e, List.take_succ_eq_append_getElem (by omega), rend_snoc]
theorem rendTo_tok (ps : List Pat) (n i : Nat) (h : i < n) : rendTo (atTo ps n) (startOf ps i) (tokI ps i).length = rend (tokI ps i) := by
  rw [rendTo_take (atTo ps n) (tokI ps i) (startOf ps i) _ (Nat.le_refl _) (fun j hj => atTo_at ps n i j h hj), List.take_length]

def rendPat (ps : List Pat) (i : Nat) : Pat := ⟨runesBytes (rend (tokI ps i)), pfo ps i, false⟩
def rendPs (ps : List Pat) (n : Nat) : List Pat := (List.range n).map (rendPat ps)
theorem rendPs_len (ps : List Pat) (n : Nat) : (rendPs ps n).length = n := by simp [rendPs]
theorem rendPs_at (ps : List Pat) (n i : Nat) (h : i < n) : ptx (rendPs ps n) i = runesBytes (rend (tokI ps i)) ∧ pfo (rendPs ps n) i = pfo ps i ∧ pli (rendPs ps n) i = false := by
  have : (rendPs ps n).getD i patNone = rendPat ps i := by simp [rendPs, h]
  unfold ptx pfo pli
  rw [this]
  exact ⟨rfl, rfl, rfl⟩
theorem tokI_rendPs (ps : List Pat) (n i : Nat) (h : i < n) : tokI (rendPs ps n) i = tokI ps i := by
  have h1 := rendPs_at ps n i h
  unfold tokI
  rw [h1.1, h1.2.2]
  exact toks_again (tokI_tok ps i)
theorem atTo_congr {ps qs : List Pat} : ∀ k, (∀ i, i < k → tokI qs i = tokI ps i) → atTo qs k = atTo ps k
  | 0, _ => rfl
  | k + 1, h => by rw [atTo, atTo, atTo_congr k (fun i hi => h i (by omega)), h k (by omega)]
theorem owTo_congr {ps qs : List Pat} : ∀ k, (∀ i, i < k → tokI qs i = tokI ps i) → owTo qs k = owTo ps k
  | 0, _ => rfl
  | k + 1, h => by rw [owTo, owTo, owTo_congr k (fun i hi => h i (by omega)), h k (by omega)]
theorem fiTo_congr {ps qs : List Pat} : ∀ k, (∀ i, i < k → tokI qs i = tokI ps i) → fiTo qs k = fiTo ps k
  | 0, _ => rfl
  | k + 1, h => by rw [fiTo, fiTo, fiTo_congr k (fun i hi => h i (by omega)), atTo_congr k (fun i hi => h i (by omega))]
theorem encL_len (r : Int) : (encL r).length ≤ 4 := by
  have := encode_size_le r
  unfold encL
  rw [Array.length_toList]; exact this
theorem encL_ascii (r : Int) (h : 0 ≤ r ∧ r < 128) : (encL r).length = 1 := by
  have hv : Utf8.valid r = true := by simp [Utf8.valid]; omega
  have h2 : r.toNat < 128 := by omega
  simp [encL, Utf8.encode, hv, h2]
theorem encsL_rend1 (t : Int) : (encsL (rend1 t)).length ≤ 4 := by
  unfold rend1
  repeat' split
  · simp [encsL, encL_ascii]
  · simp [encsL, encL_ascii]
  · simp [encsL, encL_ascii]
  · simp [encsL, encL_ascii]
  · simp [encsL, encL_ascii]
  · rename_i hx
    rcases hx with rfl | rfl | rfl <;> simp [encsL, encL_ascii]
  · have := encL_len t
    simp [encsL]; exact this
theorem encsL_rend (ts : List Int) : (encsL (rend ts)).length ≤ 4 * ts.length := by
  induction ts with
  | nil => simp [encsL, rend]
  | cons t ts ih =>
    have e : rend (t :: ts) = rend1 t ++ rend ts := by simp [rend]
    have e2 : encsL (rend1 t ++ rend ts) = encsL (rend1 t) ++ encsL (rend ts) := by simp [encsL]
    have := encsL_rend1 t
    rw [e, e2, List.length_append, List.length_cons]; omega
theorem rendBytes_size (ts : List Int) : (runesBytes (rend ts)).size ≤ 4 * ts.length := by
  have h := encsL_rend ts
  rw [← runesBytes_list, Array.length_toList] at h
  exact h
theorem tlenTo_rendPs (ps : List Pat) (n : Nat) : ∀ k, k ≤ n → tlenTo (rendPs ps n) k ≤ 4 * tlenTo ps k
  | 0, _ => by simp [tlenTo]
  | k + 1, hk => by
    have h1 := tlenTo_rendPs ps n k (by omega)
    have h2 := rendBytes_size (tokI ps k)
    have h3 := tokI_len ps k
    simp only [tlenTo]
    rw [(rendPs_at ps n k (by omega)).1]
    omega
theorem tlen_rendPs (ps : List Pat) (n : Nat) (h : ps.length = n) : tlen (rendPs ps n) ≤ 4 * tlen ps := by
  unfold tlen
  rw [rendPs_len, h]
  exact tlenTo_rendPs ps n n (Nat.le_refl _)
end Go.Proofs.Qxb6601200a
