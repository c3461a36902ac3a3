import Derived.Test.Qxb6601200aPMake
import Derived.Test.Qxb6601200aCPlain
set_option linter.unusedSimpArgs false
set_option linter.unusedVariables false
namespace Go.Proofs.Qxb6601200a
open Go.RowKit

/-- What cuts hands back. -/
def CutsEnd (B : Nat) (at' fi ow : List Int) (e : Ending) (w' : World) : Prop :=
  (fields at' = false ∧ e = .returned (.slice none 0 0)) ∨
  (fields at' = true ∧ ∃ g, B ≤ g ∧ e = .returned (.slice (some ⟨g, 0, none⟩) at'.length at'.length) ∧ RowN w' g 3 at'.length at'.length (fun i => .int .i64 (cutAt at' fi ow i)))

set_option maxRecDepth 100000 in
set_option maxHeartbeats 2000000 in
theorem cuts_any (gA n m c0 c1 c2 : Nat) (a0 a1 a2 : Option Addr) (at' ow fi : List Int) (w : World) (HN : Hid (at'.length = n)) (HO : Hid (ow.length = n)) (HM : Hid (fi.length = m)) (hn : n ≤ 1099511627776) (hm : m ≤ 1099511627776)
    (hA : gA < w.heap.size) (f0 : w.cell? ⟨gA, 0, none⟩ = some (.slice a0 n c0)) (f1 : w.cell? ⟨gA, 1, none⟩ = some (.slice a1 n c1)) (f2 : w.cell? ⟨gA, 2, none⟩ = some (.slice a2 m c2))
    (h0 : Ints .i32 w a0 at') (h1 : Ints .i64 w a1 ow) (h2 : Ints .i64 w a2 fi) (hin : ∀ k, k < n → 0 ≤ iat ow k ∧ iat ow k < m) :
    Calls Try.prog 42 #[.pointer (some ⟨gA, 0, none⟩)] w fun e w' => CutsEnd w.heap.size at' fi ow e w' ∧ Below w.heap.size w w' := by
  have hmk := make_run 33 3 _ 1 8 Try.underlying33 Try.info3 n (by omega) (by omega)
  simp only [Nat.mul_one] at hmk
  go_enter Try.func42, Try.ntmps42
  go_wp2
  go_loop [3, 15] (fun s i => ∃ j : Nat, j ≤ n ∧ s = .bool (fieldsTo at' j) ∧ i = .int .i64 j) (fun _ i => n - (intOf i).toNat)
  case atStart => exact ⟨0, by omega, rfl, rfl⟩
  case round =>
    obtain ⟨j, hj, rfl, rfl⟩ := hrel
    by_cases hlt : j < n
    · obtain ⟨b, off, rfl, hbl, d0⟩ := h0 j (by have := HN.out; omega)
      have hl : (j : Int) < (n : Int) := by omega
      have HS : Hid (fieldsTo at' (j + 1) = (fieldsTo at' j || iat at' j == -5 || iat at' j == -6)) := rfl
      cases hft : fieldsTo at' j with
      | true =>
        go_wp2
        go_round
        case rel => exact ⟨j + 1, by omega, by rw [HS.out, hft]; rfl, by go_num⟩
        case measure => simp [intOf]; omega
      | false =>
        cases h5 : (iat at' j == -5) with
        | true =>
          go_wp2
          go_round
          case rel => exact ⟨j + 1, by omega, by rw [HS.out, h5]; simp, by go_num⟩
          case measure => simp [intOf]; omega
        | false =>
          cases h6 : (iat at' j == -6) with
          | true =>
            go_wp2
            go_round
            case rel => exact ⟨j + 1, by omega, by rw [HS.out, h6]; simp, by go_num⟩
            case measure => simp [intOf]; omega
          | false =>
            go_wp2
            go_round
            case rel => exact ⟨j + 1, by omega, by rw [HS.out, h6, h5, hft]; rfl, by go_num⟩
            case measure => simp [intOf]; omega
    · obtain rfl : j = n := by omega
      clear hj hlt
      cases hft : fieldsTo at' j with
      | false =>
        have HF : Hid (fieldsTo at' j = false) := hft
        go_wp2
        go_ret
        exact ⟨.inl ⟨by unfold fields; rw [HN.out]; exact HF.out, rfl⟩, Below.refl _ _⟩
      | true =>
        have HF : Hid (fieldsTo at' j = true) := hft
        go_wp2
        clear hft
        go_loopw [7, 42] (fun s i wr => ∃ k : Nat, k ≤ j ∧ s = .int .i64 (lastAt at' fi ow k) ∧ i = .int .i64 k ∧ Below w.heap.size w wr ∧ RowN wr w.heap.size 3 j k (fun i => .int .i64 (cutAt at' fi ow i))) (fun _ i _ => j - (intOf i).toNat)
        case atStart => exact ⟨0, by omega, rfl, rfl, (Below.refl _ _).alloc (Nat.le_refl _) _, RowN.start _ _ _ _ _⟩
        case round =>
          obtain ⟨k, hk, rfl, rfl, hb, hf⟩ := hrel
          by_cases hlt : k < j
          · obtain ⟨b0, off0, rfl, hbl0, d0⟩ := h0 k (by have := HN.out; omega)
            obtain ⟨b1, off1, rfl, hbl1, d1⟩ := h1 k (by have := HO.out; omega)
            obtain ⟨q, hq⟩ : ∃ q : Nat, iat ow k = (q : Int) := ⟨(iat ow k).toNat, by have := hin k hlt; omega⟩
            have hqm : q < m := by have := hin k hlt; omega
            obtain ⟨b2, off2, rfl, hbl2, d2⟩ := h2 q (by have := HM.out; omega)
            replace d1 : w.cell? ⟨b1, off1 + k, none⟩ = some (.int .i64 (q : Int)) := by rw [← hq]; exact d1
            have g0 := (hb.cell hbl0).trans d0
            have g1 := (hb.cell hbl1).trans d1
            have g2 := (hb.cell hbl2).trans d2
            have e0 := (hb.cell (p := ⟨gA, 0, none⟩) hA).trans f0
            have e1 := (hb.cell (p := ⟨gA, 1, none⟩) hA).trans f1
            have e2 := (hb.cell (p := ⟨gA, 2, none⟩) hA).trans f2
            obtain ⟨u, x0⟩ := hf.cell hlt
            have z0 := hf.frozen k
            have hl : (k : Int) < (j : Int) := by omega
            have hqm' : (q : Int) < (m : Int) := by omega
            have hbd := lastAt_bd at' fi ow k
            have HC : Hid (cutAt at' fi ow k = if (k : Int) = iat fi q then (k : Int) - 1 else lastAt at' fi ow k) := by
              show _ = _; unfold cutAt; rw [hq, Int.toNat_natCast]
            have HL : Hid (lastAt at' fi ow (k + 1) = if isStop (iat at' k) = true then (k : Int) else cutAt at' fi ow k) := lastAt_succ _ _ _ _
            have fin : ∀ (wx : World) (v l' : Int), Below w.heap.size w wx → RowN wx w.heap.size 3 j k (fun i => .int .i64 (cutAt at' fi ow i)) → v = cutAt at' fi ow k → RowN (wx.setCell ⟨w.heap.size, k, none⟩ (.int .i64 v)) w.heap.size 3 j (k + 1) (fun i => .int .i64 (cutAt at' fi ow i)) := fun wx v l' _ hr hv => by rw [hv]; exact hr.step
            clear h0 h1 h2 d0 d1 d2 hq hin
            cases hs : isStop (iat at' k) with
            | true =>
              have HS : Hid (isStop (iat at' k) = true) := hs
              clear hs
              have hst := isStop_true HS.out
              by_cases hc : (k : Int) = iat fi q
              · have hcb : ((k : Int) == iat fi q) = true := by simp [hc]
                have HQ : Hid ((k : Int) = iat fi q) := hc
                clear hc
                rcases hst with s1 | ⟨s1, s2⟩ | ⟨s1, s2, s3⟩
                all_goals
                  go_wp2
                  go_quiet (fail)
                  go_wp2
                  go_roundw
                  case rel => exact ⟨k + 1, by omega, by rw [HL.out, if_pos HS.out], by go_num, (below_drewN hb _).setCell (Nat.le_refl _) _, fin _ _ 0 (below_drewN hb _) (hf.drewN _) (by rw [HC.out, if_pos HQ.out])⟩
                  case measure => simp [intOf]; omega
              · have hcb : ((k : Int) == iat fi q) = false := by simp [hc]
                have HQ : Hid (¬ (k : Int) = iat fi q) := hc
                clear hc
                rcases hst with s1 | ⟨s1, s2⟩ | ⟨s1, s2, s3⟩
                all_goals
                  go_wp2
                  go_quiet (fail)
                  go_wp2
                  go_roundw
                  case rel => exact ⟨k + 1, by omega, by rw [HL.out, if_pos HS.out], by go_num, (below_drewN hb _).setCell (Nat.le_refl _) _, fin _ _ 0 (below_drewN hb _) (hf.drewN _) (by rw [HC.out, if_neg HQ.out])⟩
                  case measure => simp [intOf]; omega
            | false =>
              have HS : Hid (¬ isStop (iat at' k) = true) := by show ¬ _; rw [hs]; simp
              have hst := isStop_false hs
              obtain ⟨s1, s2, s3⟩ := hst
              clear hs
              by_cases hc : (k : Int) = iat fi q
              · have hcb : ((k : Int) == iat fi q) = true := by simp [hc]
                have HQ : Hid ((k : Int) = iat fi q) := hc
                clear hc
                go_wp2
                go_quiet (fail)
                go_wp2
                go_roundw
                case rel => exact ⟨k + 1, by omega, by rw [HL.out, if_neg HS.out, HC.out, if_pos HQ.out], by go_num, (below_drewN hb _).setCell (Nat.le_refl _) _, fin _ _ 0 (below_drewN hb _) (hf.drewN _) (by rw [HC.out, if_pos HQ.out])⟩
                case measure => simp [intOf]; omega
              · have hcb : ((k : Int) == iat fi q) = false := by simp [hc]
                have HQ : Hid (¬ (k : Int) = iat fi q) := hc
                clear hc
                go_wp2
                go_quiet (fail)
                go_wp2
                go_roundw
                case rel => exact ⟨k + 1, by omega, by rw [HL.out, if_neg HS.out, HC.out, if_neg HQ.out], by go_num, (below_drewN hb _).setCell (Nat.le_refl _) _, fin _ _ 0 (below_drewN hb _) (hf.drewN _) (by rw [HC.out, if_neg HQ.out])⟩
                case measure => simp [intOf]; omega
          · obtain rfl : k = j := by omega
            clear h0 h1 h2
            go_wp2
            go_ret
            refine ⟨.inr ⟨by unfold fields; rw [HN.out]; exact HF.out, _, Nat.le_refl _, by rw [HN.out]; rfl, ?_⟩, hb⟩
            rw [HN.out]; exact hf
end Go.Proofs.Qxb6601200a
