import Derived.Test.Qxb6601219aTaxC
import Derived.Lib.Builder
set_option linter.unusedSimpArgs false
set_option linter.unusedVariables false
namespace Go.Proofs.Qxb6601219a
open Go.RowKit

theorem Quiet.below {B : Nat} {w w' : World} (h : Quiet w w') : Below B w w' := by
  obtain ⟨k, rfl⟩ := h
  exact below_drewN (Below.refl _ _) k

theorem run_neq_self (w : World) (x : Addr) : (binOp .neq 33 (.pointer (some x)) (.pointer (some x))).run Try.prog w = .ok (.bool false) w := by
  obtain ⟨i, hi, hz, hs, hb⟩ := info_parts Try.info42
  exact Lib.run_neq_ptr_same _ x Try.underlying33 hi

/-- The first match as the Go text keeps it: its index, or -1. -/
def fo : Option Nat → Int
  | none => -1
  | some i => (i : Int)
theorem fo_hit {rs : List (Int × ByteArray)} {r : Int} {ta : ByteArray} {j : Nat} (h1 : (kr rs j == r) = true) (h2 : ((ka rs j).toList == ta.toList) = true) :
    fo (fst' rs r ta (j + 1)) = if fo (fst' rs r ta j) < 0 then (j : Int) else fo (fst' rs r ta j) := by
  have hh : hit rs r ta j = true := by unfold hit; rw [h1, h2]; rfl
  cases hf : fst' rs r ta j with
  | none => simp [fst', hf, hh, fo]
  | some i => simp [fst', hf, fo]; omega
theorem fo_miss {rs : List (Int × ByteArray)} {r : Int} {ta : ByteArray} {j : Nat} (h : (kr rs j == r && (ka rs j).toList == ta.toList) = false) :
    fo (fst' rs r ta (j + 1)) = fo (fst' rs r ta j) := by
  have hh : hit rs r ta j = false := h
  cases hf : fst' rs r ta j with
  | none => simp [fst', hf, hh]
  | some i => simp [fst', hf]

set_option maxHeartbeats 8000000 in
theorem taxLaw_walk (a : Option Addr) (n cap : Nat) (rs : List (Int × ByteArray)) (r : Int) (ta : ByteArray) (w : World) (HN : Hid (rs.length = n)) (hp : KRows w a rs) :
    Calls Try.prog 5 #[.slice a n cap, .int .i64 r, .string ta] w fun e w' => e = .returned (.bool true) ∧ Below w.heap.size w w' := by
  go_enter Try.func5, Try.ntmps5
  go_wp2_with fail
  refine (bytes13_any a n cap rs r ta _ HN hp).mono ?_
  rintro e w' ⟨⟨b, rfl, hb0⟩, rfl⟩
  cases b with
  | false =>
    go_wp2
    go_ret
    exact ⟨rfl, Below.refl _ _⟩
  | true =>
    clear hb0
    by_cases h1 : ta.size ≤ 1048576
    · by_cases h2 : n ≤ 65536
      · have h1' : (ta.size : Int) ≤ 1048576 := by omega
        have h2' : (n : Int) ≤ 65536 := by omega
        go_wp2_with fail
        refine (rowsBytes_any a n cap rs _ HN h2 hp).mono ?_
        rintro e w1 ⟨⟨t, rfl, ht0, ht1⟩, rfl⟩
        by_cases h3 : 1048576 < t + (ta.size : Int)
        · go_wp2
          go_ret
          exact ⟨rfl, Below.refl _ _⟩
        · have h3' : t + (ta.size : Int) ≤ 1048576 := by omega
          clear h3
          go_wp2_with fail
          refine (copyRows_any a n cap rs _ HN (by omega) hp).mono ?_
          rintro e w2 ⟨⟨a2, cap2, rfl, hk2⟩, hb2⟩
          go_wp2_with fail
          refine (profOf_any a2 n cap2 rs _ HN (by omega) hk2).mono ?_
          rintro e w3 ⟨⟨p, g, rfl, hprof⟩, hb3⟩
          have hk3 := hk2.below hb3
          clear hk2
          go_wp2_with fail
          refine (look_any p g n rs r ta _ (by omega) hprof).mono ?_
          rintro e w4 ⟨he, rfl⟩
          unfold LookEnd at he
          obtain ⟨K, hK⟩ : ∃ K, (if cnt rs r ta n = 1 then kp g (lst rs r ta n) else .pointer none) = K := ⟨_, rfl⟩
          rw [hK] at he
          subst he
          have HK : Hid ((if cnt rs r ta n = 1 then kp g (lst rs r ta n) else .pointer none) = K) := hK
          clear hK
          have hbb : Below w1.heap.size w1 w4 := hb2.trans (hb3.mono hb2.size)
          clear hb2 hb3
          go_wp2
          go_loopw [10, 11, 12] (fun c f i wr => ∃ j : Nat, j ≤ n ∧ c = .int .i64 (cnt rs r ta j : Nat) ∧ f = .int .i64 (fo (fst' rs r ta j)) ∧ i = .int .i64 j ∧ wr = w4) (fun _ _ i _ => n - (intOf i).toNat)
          case atStart => exact ⟨0, by omega, rfl, rfl, rfl, rfl⟩
          case round =>
            obtain ⟨j, hj, rfl, rfl, rfl, rfl⟩ := hrel
            have hcl := cnt_le rs r ta j
            by_cases hlt : j < n
            · obtain ⟨b, off, rfl, hbl, c0, c1⟩ := hk3 j (by have := HN.out; omega)
              have hl : (j : Int) < (n : Int) := by omega
              cases t0 : (kr rs j == r) with
              | true =>
                cases t1 : ((ka rs j).toList == ta.toList) with
                | true =>
                  have HH : Hid (cnt rs r ta (j + 1) = cnt rs r ta j + 1 ∧ lst rs r ta (j + 1) = some j) := cnt_hit t0 t1
                  have HF : Hid (fo (fst' rs r ta (j + 1)) = if fo (fst' rs r ta j) < 0 then (j : Int) else fo (fst' rs r ta j)) := fo_hit t0 t1
                  by_cases hf : fo (fst' rs r ta j) < 0
                  · go_wp2
                    go_roundw
                    case rel => exact ⟨j + 1, by omega, by rw [HH.out.1]; go_num, by rw [HF.out, if_pos hf], by go_num, by first | rfl | trivial⟩
                    case measure => simp [intOf]; omega
                  · have hf' : 0 ≤ fo (fst' rs r ta j) := by omega
                    have HX : Hid (¬ fo (fst' rs r ta j) < 0) := hf
                    clear hf
                    go_wp2
                    go_roundw
                    case rel => exact ⟨j + 1, by omega, by rw [HH.out.1]; go_num, by rw [HF.out, if_neg HX.out], by go_num, by first | rfl | trivial⟩
                    case measure => simp [intOf]; omega
                | false =>
                  have HH : Hid (cnt rs r ta (j + 1) = cnt rs r ta j ∧ lst rs r ta (j + 1) = lst rs r ta j) := cnt_miss (by rw [t0, t1]; rfl)
                  have HF : Hid (fo (fst' rs r ta (j + 1)) = fo (fst' rs r ta j)) := fo_miss (by rw [t0, t1]; rfl)
                  go_wp2
                  go_roundw
                  case rel => exact ⟨j + 1, by omega, by rw [HH.out.1], by rw [HF.out], by go_num, by first | rfl | trivial⟩
                  case measure => simp [intOf]; omega
              | false =>
                have HH : Hid (cnt rs r ta (j + 1) = cnt rs r ta j ∧ lst rs r ta (j + 1) = lst rs r ta j) := cnt_miss (by rw [t0]; rfl)
                have HF : Hid (fo (fst' rs r ta (j + 1)) = fo (fst' rs r ta j)) := fo_miss (by rw [t0]; rfl)
                go_wp2
                go_roundw
                case rel => exact ⟨j + 1, by omega, by rw [HH.out.1], by rw [HF.out], by go_num, by first | rfl | trivial⟩
                case measure => simp [intOf]; omega
            · obtain rfl : j = n := by omega
              obtain ⟨hpl, h6, htr⟩ := hprof
              have hq : ∃ c : Nat, cnt rs r ta j = c ∧ ((c = 1 ∧ ∃ i, i < j ∧ fo (fst' rs r ta j) = (i : Int) ∧ K = .pointer (some ⟨g, i * 3, none⟩)) ∨ (c ≠ 1 ∧ K = .pointer none)) := by
                refine ⟨_, rfl, ?_⟩
                rcases cnt_fst rs r ta j with ⟨e1, e2, e3⟩ | ⟨e1, i, e2, e3⟩ | ⟨e1, i, e2⟩
                · exact .inr ⟨by omega, by rw [← HK.out, if_neg (by omega)]⟩
                · exact .inl ⟨e1, i, fst_lt rs r ta j i e2, by rw [e2]; rfl, by rw [← HK.out, if_pos e1, e3]; rfl⟩
                · exact .inr ⟨by omega, by rw [← HK.out, if_neg (by omega)]⟩
              clear HK
              obtain ⟨c, hc, hq⟩ := hq
              rw [hc] at hcl ⊢
              clear hc
              rcases hq with ⟨rfl, i, hij, hfo, rfl⟩ | ⟨hc1, rfl⟩
              · rw [hfo]
                clear hfo
                have hij2 : (i : Int) < (j : Int) := by omega
                have hne := fun w => run_neq_self w ⟨g, i * 3, none⟩
                go_wp2_with fail
                refine (keysAre_any p g j cap2 a2 rs _ HN (by omega) ⟨hpl, h6, htr⟩ hk3).mono ?_
                rintro e w5 ⟨rfl, hq5⟩
                go_wp2
                go_ret
                exact ⟨rfl, hbb.trans (hq5.below)⟩
              · have hc2 : ((c : Int) == 1) = false := by simp; omega
                clear hc1
                go_wp2_with fail
                refine (keysAre_any p g j cap2 a2 rs _ HN (by omega) ⟨hpl, h6, htr⟩ hk3).mono ?_
                rintro e w5 ⟨rfl, hq5⟩
                go_wp2
                go_ret
                exact ⟨rfl, hbb.trans (hq5.below)⟩
      · have h2' : 65536 < (n : Int) := by omega
        have h1' : (ta.size : Int) ≤ 1048576 := by omega
        clear h2 h1
        go_wp2
        go_ret
        exact ⟨rfl, Below.refl _ _⟩
    · have h1' : 1048576 < (ta.size : Int) := by omega
      clear h1
      go_wp2
      go_ret
      exact ⟨rfl, Below.refl _ _⟩
end Go.Proofs.Qxb6601219a
