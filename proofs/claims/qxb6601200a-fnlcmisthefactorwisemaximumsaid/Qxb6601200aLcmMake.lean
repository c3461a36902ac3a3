import Derived.Test.Qxb6601200aBase
namespace Go.Proofs.Qxb6601200a
open Go.RowKit

set_option maxHeartbeats 400000 in
theorem cloneLoops_any (a : Option Addr) (n cap : Nat) (xs : List (Int × Int)) (w : World) (hn : Hid (xs.length = n)) (hm : n ≤ 1048576) (hp : Pairs w a xs) :
    Calls Try.prog 11 #[.slice a n cap] w fun e w' => PairsEnd n xs e w' ∧ Below w.heap.size w w' := by
  have hmk := make_run 22 30 _ 2 16 Try.underlying22 Try.info30 n (by omega) (by omega)
  have hnil := fun w' => Lib.run_eql_slice_nil (P := Try.prog) w' 22 30 a n cap 0 0 Try.underlying22
  cases ha : a.isNone with
  | true =>
    have h0 : n = 0 := by
      have := hn.out
      rcases Nat.eq_zero_or_pos n with h | h
      · exact h
      · obtain ⟨b, off, e, _⟩ := hp 0 (by omega)
        rw [e] at ha; cases ha
    have HX : Hid (n = 0) := h0
    clear h0
    go_enter Try.func11, Try.ntmps11
    go_wp2
    go_ret
    refine ⟨⟨none, 0, by rw [HX.out]; rfl, fun i hi => ?_⟩, Below.refl _ _⟩
    have := hn.out; have := HX.out; omega
  | false =>
    go_enter Try.func11, Try.ntmps11
    go_wp2
    go_loopw [4] (fun k wr => ∃ j : Nat, j ≤ n ∧ k = .int .i64 j ∧ Below w.heap.size w wr ∧ PairRow wr w.heap.size 30 n j xs) (fun k _ => n - (intOf k).toNat)
    case atStart => exact ⟨0, by omega, rfl, (Below.refl _ _).alloc (Nat.le_refl _) _, PairRow.start _ _ _ _ _⟩
    case round =>
      obtain ⟨j, hjn, rfl, hb, hf⟩ := hrel
      by_cases hlt : j < n
      · obtain ⟨b, off, rfl, hbl, c0, c1⟩ := hp j (by have := hn.out; omega)
        have c0' := (hb.cell hbl).trans c0
        have c1' := (hb.cell hbl).trans c1
        obtain ⟨u, v, d0, d1⟩ := hf.cell0 hlt
        have f0 := hf.frozen (j * 2)
        have f1 := hf.frozen (j * 2 + 1)
        clear hp c0 c1
        have hl : (j : Int) < (n : Int) := by omega
        go_wp2
        go_roundw
        case rel => exact ⟨j + 1, by omega, by go_num, (hb.setCell (Nat.le_refl _) _).setCell (Nat.le_refl _) _, hf.step⟩
        case measure => simp [intOf]; omega
      · have hl : ¬ (j : Int) < (n : Int) := by omega
        obtain rfl : j = n := by omega
        clear hp
        go_wp2
        go_ret
        exact ⟨⟨_, _, rfl, hf.pairs hn.out⟩, hb⟩

set_option maxHeartbeats 400000 in
theorem zzLoops_any (a : Option Addr) (n cap : Nat) (xs : List (Int × Int)) (w : World) (hn : Hid (xs.length = n)) (hm : n ≤ 1048576) (hp : Pairs w a xs) :
    Calls Try.prog 36 #[.slice a n cap] w fun e w' => PairsEnd n xs e w' ∧ Below w.heap.size w w' := by
  have hmk := make_run 60 65 _ 2 16 Try.underlying60 Try.info65 n (by omega) (by omega)
  have hnil := fun w' => Lib.run_eql_slice_nil (P := Try.prog) w' 22 30 a n cap 0 0 Try.underlying22
  cases ha : a.isNone with
  | true =>
    have h0 : n = 0 := by
      have := hn.out
      rcases Nat.eq_zero_or_pos n with h | h
      · exact h
      · obtain ⟨b, off, e, _⟩ := hp 0 (by omega)
        rw [e] at ha; cases ha
    have HX : Hid (n = 0) := h0
    clear h0
    go_enter Try.func36, Try.ntmps36
    go_wp2
    go_ret
    refine ⟨⟨none, 0, by rw [HX.out]; rfl, fun i hi => ?_⟩, Below.refl _ _⟩
    have := hn.out; have := HX.out; omega
  | false =>
    go_enter Try.func36, Try.ntmps36
    go_wp2
    go_loopw [4] (fun k wr => ∃ j : Nat, j ≤ n ∧ k = .int .i64 j ∧ Below w.heap.size w wr ∧ PairRow wr w.heap.size 65 n j xs) (fun k _ => n - (intOf k).toNat)
    case atStart => exact ⟨0, by omega, rfl, (Below.refl _ _).alloc (Nat.le_refl _) _, PairRow.start _ _ _ _ _⟩
    case round =>
      obtain ⟨j, hjn, rfl, hb, hf⟩ := hrel
      by_cases hlt : j < n
      · obtain ⟨b, off, rfl, hbl, c0, c1⟩ := hp j (by have := hn.out; omega)
        have c0' := (hb.cell hbl).trans c0
        have c1' := (hb.cell hbl).trans c1
        obtain ⟨u, v, d0, d1⟩ := hf.cell0 hlt
        have f0 := hf.frozen (j * 2)
        have f1 := hf.frozen (j * 2 + 1)
        clear hp c0 c1
        have hl : (j : Int) < (n : Int) := by omega
        go_wp2
        go_region
        go_wp2
        go_roundw
        case rel => exact ⟨j + 1, by omega, by go_num, ((hb.setCell (Nat.le_refl _) _).setCell (Nat.le_refl _) _).drew, hf.step.drewN 1⟩
        case measure => simp [intOf]; omega
      · have hl : ¬ (j : Int) < (n : Int) := by omega
        obtain rfl : j = n := by omega
        clear hp
        go_wp2
        go_ret
        exact ⟨⟨_, _, rfl, hf.pairs hn.out⟩, hb⟩
end Go.Proofs.Qxb6601200a
