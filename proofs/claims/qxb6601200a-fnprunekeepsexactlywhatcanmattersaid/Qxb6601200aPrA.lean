import Derived.Test.Qxb6601200aPRead
import Derived.Test.Qxb6601200aPrPlain
import Derived.BigQuiet
set_option linter.unusedSimpArgs false
set_option linter.unusedVariables false
namespace Go.Proofs.Qxb6601200a
open Go.RowKit

def DomOk (n m : Nat) (gs : List Int) : Prop := n ≤ m ∧ ∀ k, k < m → iat gs k ≤ 65536 ∧ (k < n → 0 ≤ iat gs k)
set_option maxHeartbeats 2000000 in
theorem pruneDomain_any (a : Option Addr) (n m cap : Nat) (gs : List Int) (w : World) (HM : Hid (gs.length = m)) (hn : n ≤ 1048576) (hm : m ≤ 1048576) (hp : Ints .i64 w a gs) :
    Calls Try.prog 30 #[.int .i64 (n : Int), .slice a m cap] w fun e w' => Tells e (DomOk n m gs) ∧ w' = w := by
  by_cases hnm : n ≤ m
  · have l0 : ¬ (m : Int) < (n : Int) := by omega
    go_enter Try.func30, Try.ntmps30
    go_wp2
    go_loop [5] (fun k => ∃ j : Nat, j ≤ m ∧ k = .int .i64 j ∧ ∀ i, i < j → iat gs i ≤ 65536 ∧ (i < n → 0 ≤ iat gs i)) (fun k => m - (intOf k).toNat)
    case atStart => exact ⟨0, by omega, rfl, fun i h => by omega⟩
    case round =>
      obtain ⟨j, hj, rfl, hle⟩ := hrel
      have HLE : Hid (∀ i, i < j → iat gs i ≤ 65536 ∧ (i < n → 0 ≤ iat gs i)) := hle
      clear hle
      by_cases hlt : j < m
      · obtain ⟨b, off, rfl, hbl, d0⟩ := hp j (by have := HM.out; omega)
        have hl : (j : Int) < (m : Int) := by omega
        clear hp
        by_cases hx : iat gs j ≤ 65536
        · by_cases hjn : j < n
          · have k1 : (j : Int) < (n : Int) := by omega
            by_cases hz : 0 ≤ iat gs j
            · have k2 : decide (iat gs j < 0) = false := decide_eq_false (by omega)
              go_wp2
              go_round
              case rel => exact ⟨j + 1, by omega, by go_num, fun i hi => by
                by_cases e : i = j
                · subst e; exact ⟨hx, fun _ => hz⟩
                · exact HLE.out i (by omega)⟩
              case measure => simp [intOf]; omega
            · have k2 : iat gs j < 0 := by omega
              go_wp2
              go_ret
              exact ⟨Tells.no (fun h => by have := (h.2 j hlt).2 hjn; omega), rfl⟩
          · have k1 : ¬ (j : Int) < (n : Int) := by omega
            go_wp2
            go_round
            case rel => exact ⟨j + 1, by omega, by go_num, fun i hi => by
              by_cases e : i = j
              · subst e; exact ⟨hx, fun h => absurd h hjn⟩
              · exact HLE.out i (by omega)⟩
            case measure => simp [intOf]; omega
        · go_wp2
          go_ret
          exact ⟨Tells.no (fun h => by have := (h.2 j hlt).1; omega), rfl⟩
      · have hl : ¬ (j : Int) < (m : Int) := by omega
        obtain rfl : j = m := by omega
        go_wp2
        go_ret
        exact ⟨Tells.yes ⟨hnm, HLE.out⟩, rfl⟩
  · have l0 : (m : Int) < (n : Int) := by omega
    go_enter Try.func30, Try.ntmps30
    go_wp2
    go_ret
    exact ⟨Tells.no (fun h => hnm h.1), rfl⟩

def IncOk (m N : Nat) (zs : List Int) : Prop := ∀ k, k < m → 0 ≤ iat zs k ∧ iat zs k < N ∧ (0 < k → iat zs (k - 1) < iat zs k)
set_option maxHeartbeats 2000000 in
theorem increasing_any (a : Option Addr) (m N cap : Nat) (zs : List Int) (w : World) (HM : Hid (zs.length = m)) (hm : m ≤ 1048576) (hN : N ≤ 4194304) (hp : Ints .i64 w a zs) :
    Calls Try.prog 31 #[.slice a m cap, .int .i64 (N : Int)] w fun e w' => Tells e (IncOk m N zs) ∧ Quiet w w' := by
  go_enter Try.func31, Try.ntmps31
  go_wp2
  go_loopw [5] (fun k wr => ∃ j : Nat, j ≤ m ∧ k = .int .i64 j ∧ Quiet w wr ∧ ∀ i, i < j → 0 ≤ iat zs i ∧ iat zs i < N ∧ (0 < i → iat zs (i - 1) < iat zs i)) (fun k _ => m - (intOf k).toNat)
  case atStart => exact ⟨0, by omega, rfl, Quiet.refl _, fun i h => by omega⟩
  case round =>
    obtain ⟨j, hj, rfl, hq, hle⟩ := hrel
    have HLE : Hid (∀ i, i < j → 0 ≤ iat zs i ∧ iat zs i < N ∧ (0 < i → iat zs (i - 1) < iat zs i)) := hle
    clear hle
    by_cases hlt : j < m
    · have hbq : Below w.heap.size w wr := hq.below
      obtain ⟨b, off, rfl, hbl, d0⟩ := hp j (by have := HM.out; omega)
      have e0 := (hbq.cell hbl).trans d0
      have hl : (j : Int) < (m : Int) := by omega
      by_cases hx : 0 ≤ iat zs j
      · have k1 : decide (iat zs j < 0) = false := decide_eq_false (by omega)
        by_cases hy : iat zs j < N
        · have k2 : decide ((N : Int) ≤ iat zs j) = false := decide_eq_false (by omega)
          by_cases hj0 : 0 < j
          · obtain ⟨i, rfl⟩ : ∃ i, j = i + 1 := ⟨j - 1, by omega⟩
            obtain ⟨b', off', ee, hbl', d1⟩ := hp i (by have := HM.out; omega)
            simp only [Option.some.injEq, Addr.mk.injEq, and_true] at ee
            obtain ⟨rfl, rfl⟩ := ee
            have e1 := (hbq.cell hbl').trans d1
            have k3 : decide ((0 : Int) < (i : Int) + 1) = true := decide_eq_true (by omega)
            have k5 : (0 : Int) < (i : Int) + 1 := by omega
            have k6 : (i : Int) < (m : Int) := by omega
            clear hp d0 d1
            by_cases hs : iat zs i < iat zs (i + 1)
            · have k4 : decide (iat zs (i + 1) ≤ iat zs i) = false := decide_eq_false (by omega)
              go_upto_region 6 with (fail)
              go_quiet (fail)
              go_wp2
              go_roundw
              case rel => exact ⟨i + 2, by omega, by go_num, hq.drewN _, fun q hqq => by
                by_cases e : q = i + 1
                · subst e; exact ⟨hx, hy, fun _ => hs⟩
                · exact HLE.out q (by omega)⟩
              case measure => simp [intOf]; omega
            · have k4 : decide (iat zs (i + 1) ≤ iat zs i) = true := decide_eq_true (by omega)
              go_upto_region 6 with (fail)
              go_quiet (fail)
              go_wp2
              go_ret
              exact ⟨Tells.no (fun h => by have := (h (i + 1) hlt).2.2 (by omega); simp only [Nat.add_sub_cancel] at this; omega), hq.drewN _⟩
          · obtain rfl : j = 0 := by omega
            have k3 : decide ((0 : Int) < 0) = false := decide_eq_false (by omega)
            rw [Nat.add_zero] at e0
            clear hp d0
            go_upto_region 6 with (fail)
            go_quiet (fail)
            go_wp2
            go_roundw
            case rel => exact ⟨1, by omega, by go_num, hq.drewN _, fun q hqq => by
              obtain rfl : q = 0 := by omega
              exact ⟨hx, hy, fun h => by omega⟩⟩
            case measure => simp [intOf]; omega
        · have k2 : decide ((N : Int) ≤ iat zs j) = true := decide_eq_true (by omega)
          have k3 : (N : Int) ≤ iat zs j := by omega
          clear hp
          go_wp2
          go_ret
          exact ⟨Tells.no (fun h => by have := (h j hlt).2.1; omega), hq⟩
      · have k1 : decide (iat zs j < 0) = true := decide_eq_true (by omega)
        have k3 : iat zs j < 0 := by omega
        clear hp
        go_wp2
        go_ret
        exact ⟨Tells.no (fun h => by have := (h j hlt).1; omega), hq⟩
    · have hl : ¬ (j : Int) < (m : Int) := by omega
      obtain rfl : j = m := by omega
      clear hp
      go_wp2
      go_ret
      exact ⟨Tells.yes HLE.out, hq⟩

theorem half_nat (d : Nat) : (d : Int).tdiv 2 = ((d / 2 : Nat) : Int) := rfl
def SortedI (m : Nat) (zs : List Int) : Prop := ∀ a b, a < b → b < m → iat zs a < iat zs b
set_option maxHeartbeats 2000000 in
theorem has_any (a : Option Addr) (m cap : Nat) (zs : List Int) (v : Int) (w : World) (HM : Hid (zs.length = m)) (hm : m ≤ 1048576) (hp : Ints .i64 w a zs) (hs : Hid (SortedI m zs)) :
    Calls Try.prog 32 #[.slice a m cap, .int .i64 v] w fun e w' => Tells e (∃ k, k < m ∧ iat zs k = v) ∧ w' = w := by
  go_enter Try.func32, Try.ntmps32
  go_wp2
  go_loop [5, 6] (fun l h => ∃ lo d : Nat, lo + d ≤ m ∧ l = .int .i64 lo ∧ h = .int .i64 ((lo + d : Nat) : Int) ∧ (∀ i, i < lo → iat zs i < v) ∧ (∀ i, lo + d ≤ i → i < m → v ≤ iat zs i)) (fun l h => (intOf h).toNat - (intOf l).toNat)
  case atStart => exact ⟨0, m, by omega, rfl, by simp, fun i h => by omega, fun i h h2 => by omega⟩
  case round =>
    obtain ⟨lo, d, hd, rfl, rfl, h1, h2⟩ := hrel
    have H1 : Hid (∀ i, i < lo → iat zs i < v) := h1
    have H2 : Hid (∀ i, lo + d ≤ i → i < m → v ≤ iat zs i) := h2
    clear h1 h2
    by_cases hd0 : 0 < d
    · obtain ⟨h, hh⟩ : ∃ h, d / 2 = h := ⟨_, rfl⟩
      obtain ⟨b, off, rfl, hbl, d0⟩ := hp (lo + h) (by have := HM.out; omega)
      have hhd : h < d := by omega
      have l1 : (lo : Int) < (lo : Int) + (d : Int) := by omega
      have l2 : (lo : Int) + (d : Int) - (lo : Int) = (d : Int) := by omega
      have l3 := half_nat d
      rw [hh] at l3
      have l4 : (lo : Int) + (h : Int) < (m : Int) := by omega
      clear hp hh
      by_cases hx : iat zs (lo + h) < v
      · go_wp2
        go_round
        case rel => exact ⟨lo + h + 1, d - h - 1, by omega, by go_num, by first | rfl | (congr 1; omega), fun i hi => by
            by_cases e : i = lo + h
            · subst e; exact hx
            · have := hs.out i (lo + h) (by omega) (by omega); omega, fun i hi1 hi2 => H2.out i (by omega) hi2⟩
        case measure => simp [intOf]; omega
      · go_wp2
        go_round
        case rel => exact ⟨lo, h, by omega, rfl, by go_num, H1.out, fun i hi1 hi2 => by
            by_cases e : i = lo + h
            · subst e; omega
            · have := hs.out (lo + h) i (by omega) (by omega); omega⟩
        case measure => simp [intOf]; omega
    · obtain rfl : d = 0 := by omega
      have l1 : ¬ (lo : Int) < (lo : Int) := by omega
      by_cases hlt : lo < m
      · obtain ⟨b, off, rfl, hbl, d0⟩ := hp lo (by have := HM.out; omega)
        have l2 : (lo : Int) < (m : Int) := by omega
        clear hp
        cases hx : (iat zs lo == v) with
        | true =>
          have HX : Hid (iat zs lo = v) := beq_iff_eq.1 hx
          go_wp2
          go_ret
          exact ⟨Tells.yes ⟨lo, hlt, HX.out⟩, rfl⟩
        | false =>
          have HX : Hid (¬ iat zs lo = v) := beq_eq_false_iff_ne.1 hx
          go_wp2
          go_ret
          refine ⟨Tells.no ?_, rfl⟩
          rintro ⟨k, hk, e⟩
          have h3 := H2.out lo (by omega) hlt
          rcases Nat.lt_trichotomy k lo with c | c | c
          · have := H1.out k c; omega
          · subst c; exact HX.out e
          · have := hs.out lo k c hk; have := HX.out; omega
      · have l2 : ¬ (lo : Int) < (m : Int) := by omega
        clear hp
        go_wp2
        go_ret
        refine ⟨Tells.no ?_, rfl⟩
        rintro ⟨k, hk, e⟩
        have := H1.out k (by omega); omega
end Go.Proofs.Qxb6601200a
