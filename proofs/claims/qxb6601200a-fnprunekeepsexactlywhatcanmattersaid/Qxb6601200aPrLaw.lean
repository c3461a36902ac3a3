import Derived.Test.Qxb6601200aZZP
import Derived.Test.Qxb6601200aPrA
set_option linter.unusedSimpArgs false
set_option linter.unusedVariables false
namespace Go.Proofs.Qxb6601200a
open Go.RowKit

def ofN (L : List Nat) : List Int := L.map Int.ofNat
theorem ofN_len (L : List Nat) : (ofN L).length = L.length := by simp [ofN]
theorem ofN_at (L : List Nat) (i : Nat) : iat (ofN L) i = ((nat L i : Nat) : Int) := by
  by_cases h : i < L.length
  · simp [iat, ofN, nat, h]
  · simp [iat, ofN, nat, h]
theorem incOk_nat {m N : Nat} {zs : List Int} (hm : zs.length = m) (h : IncOk m N zs) : ∃ L : List Nat, zs = ofN L ∧ L.length = m ∧ Incs L ∧ ∀ k, k < m → nat L k < N := by
  have hl : (zs.map Int.toNat).length = m := by simp [hm]
  have e : zs = ofN (zs.map Int.toNat) := by
    refine iat_ext (by rw [ofN_len]; simp) fun i hi => ?_
    have h1 := h i (by omega)
    rw [ofN_at]
    have : nat (zs.map Int.toNat) i = (iat zs i).toNat := by simp [nat, iat, hi]
    rw [this]; omega
  refine ⟨zs.map Int.toNat, e, hl, ?_, fun k hk => ?_⟩
  · have step : ∀ b, b + 1 < m → nat (zs.map Int.toNat) b < nat (zs.map Int.toNat) (b + 1) := by
      intro b hb
      have h1 := (h (b + 1) hb).2.2 (by omega)
      rw [Nat.add_sub_cancel] at h1
      rw [e, ofN_at, ofN_at] at h1
      omega
    intro a b hab hb
    rw [hl] at hb
    induction b with
    | zero => omega
    | succ b ih =>
      have h1 := step b hb
      by_cases e : a = b
      · subst e; exact h1
      · have := ih (by omega) (by omega); omega
  · have h1 := (h k hk).2.1
    rw [e, ofN_at] at h1
    omega

theorem kept_idem (tk cu : Nat → Int) (ow gr : Nat → Nat) (L : List Nat) :
    (L.filter (keepB tk ow gr cu L)).filter (keepB tk ow gr cu (L.filter (keepB tk ow gr cu L))) = L.filter (keepB tk ow gr cu L) := by
  rw [List.filter_eq_self]
  intro x hx
  have hxk := (List.mem_filter.1 hx).2
  unfold keepB at hxk
  rw [Bool.and_eq_true] at hxk
  have hs : survB tk ow cu (L.filter (keepB tk ow gr cu L)) x = true := by
    have := hxk.1
    simp only [survB, List.all_eq_true] at this ⊢
    intro y hy
    exact this y (List.mem_filter.1 hy).1
  show (survB tk ow cu (L.filter (keepB tk ow gr cu L)) x && ownWh (whTo tk ow gr (L.filter (keepB tk ow gr cu L)) (L.filter (keepB tk ow gr cu L)).length (gr (ow x))) (ow x)) = true
  rw [hs, Bool.true_and]
  cases hw : whTo tk ow gr (L.filter (keepB tk ow gr cu L)) (L.filter (keepB tk ow gr cu L)).length (gr (ow x)) with
  | none => rfl
  | some q =>
    obtain ⟨a, ha, h1, h2, h3, _⟩ := wh_some _ hw
    have hyK := nat_mem ha
    obtain ⟨y, hy⟩ : ∃ y, nat (L.filter (keepB tk ow gr cu L)) a = y := ⟨_, rfl⟩
    rw [hy] at h1 h2 h3 hyK
    have hyL := (List.mem_filter.1 hyK).1
    have hyk := (List.mem_filter.1 hyK).2
    unfold keepB at hyk
    rw [Bool.and_eq_true] at hyk
    cases hw2 : whTo tk ow gr L L.length (gr (ow x)) with
    | none =>
      obtain ⟨b, hb, e⟩ := mem_nat hyL
      exact absurd ⟨by rw [e]; exact h1, by rw [e]; exact h2⟩ (wh_none _ hw2 b hb)
    | some r =>
      have e1 := hxk.2
      have e2 := hyk.2
      rw [h2, hw2] at e2
      rw [hw2] at e1
      simp only [ownWh, beq_iff_eq] at e1 e2 ⊢
      omega
theorem keptOf_idem (ps : List Pat) (gs : List Int) (n : Nat) (L : List Nat) : keptOf ps gs n (keptOf ps gs n L) = keptOf ps gs n L := kept_idem _ _ _ _ L

theorem PrRes.ints {wa : Option Addr} {m : Nat} {L K : List Nat} {e : Ending} {W : World} (h : PrRes wa m L K e W) : e = .returned (.slice wa K.length m) ∧ Ints .i64 W wa (ofN K) := by
  obtain ⟨A, he, hk, hr⟩ := h
  refine ⟨he, ?_⟩
  intro i hi
  rw [ofN_len] at hi
  obtain ⟨b, off, e1, e2, e3⟩ := hr i (by have := hk.len; omega)
  refine ⟨b, off, e1, e2, ?_⟩
  rw [e3]
  show some (Value.int .i64 ((A i : Nat) : Int)) = some (Value.int .i64 (iat (ofN K) i))
  rw [ofN_at, ← hk.low i hi]
theorem PosIn.of_clone {B m : Nat} {L : List Nat} {e : Ending} {w : World} (h : CloneEnd B m (ofN L) e w) : ∃ wa, e = .returned (.slice wa m m) ∧ PosIn w wa m L ∧ ∀ a, wa = some a → B ≤ a.block ∧ a.block < w.heap.size := by
  rcases h with ⟨h1, h2⟩ | ⟨g, h1, h2, h3⟩
  · subst h1; exact ⟨none, h2, .inl ⟨rfl, rfl⟩, fun a e => by cases e⟩
  · exact ⟨_, h2, .inr ⟨g, rfl, h3.congr (fun i hi => by rw [ofN_at])⟩, fun a e => by cases e; exact ⟨h1, h3.lt⟩⟩
/-- A row that lies elsewhere is as it was. -/
theorem row_away {w w' : World} {a wa : Option Addr} {n : Nat} {f : Nat → Value} (h : Row w a n f) (hw : Away wa w w') (hne : ∀ b off g, 0 < n → a = some ⟨b, off, none⟩ → wa = some g → b ≠ g.block) : Row w' a n f := by
  intro i hi
  obtain ⟨b, off, e, hb, hc⟩ := h i hi
  refine ⟨b, off, e, Nat.lt_of_lt_of_le hb hw.size, ?_⟩
  rw [World.cell?_of_block (w := w) (hw.block b hb (fun g eg => hne b off g (by omega) e eg))]
  exact hc
/-- A row of no numbers lies elsewhere than the positions. -/
theorem posIn_ne {w : World} {a wa : Option Addr} {m n : Nat} {L : List Nat} {f : Nat → Value} (hpos : PosIn w wa m L) (h : Row w a n f) (hf : ∀ v, f 0 ≠ .int .i64 v) : ∀ b off g, 0 < n → a = some ⟨b, off, none⟩ → wa = some g → b ≠ g.block := by
  intro b off g hn ha hg hbg
  rcases hpos with ⟨rfl, _⟩ | ⟨g', rfl, F, hF, hF2⟩
  · cases hg
  · cases hg
    obtain ⟨b', off', e, hb, hc⟩ := h 0 hn
    rw [ha] at e
    simp only [Option.some.injEq, Addr.mk.injEq, and_true] at e
    obtain ⟨rfl, rfl⟩ := e
    obtain ⟨c, h1, h2, h3⟩ := hF
    have hbg2 : b = g' := hbg
    subst hbg2
    simp only [World.cell?, h1, Nat.add_zero] at hc
    by_cases ho : off < m
    · rw [h3 off ho] at hc
      simp only [Option.isSome_none, Bool.false_eq_true, if_false, Option.some.injEq] at hc
      exact hf _ (hc.symm.trans (hF2 off ho))
    · rw [Array.getElem?_eq_none (by omega)] at hc
      simp at hc

end Go.Proofs.Qxb6601200a
