import Derived.Test.Qxb6601200aPBase
namespace Go.Proofs.Qxb6601200a
open Go.RowKit

/-- The call returns a bool; where it is true, p. -/
def TellsIf (e : Ending) (p : Prop) : Prop := ∃ r, e = .returned (.bool r) ∧ (r = true → p)
theorem TellsIf.yes {p : Prop} (h : p) : TellsIf (.returned (.bool true)) p := ⟨true, rfl, fun _ => h⟩
theorem TellsIf.no {p : Prop} : TellsIf (.returned (.bool false)) p := ⟨false, rfl, fun h => by cases h⟩
/-- The call returns a number of which p holds. -/
def NumEnd (e : Ending) (p : Int → Prop) : Prop := ∃ t, e = .returned (.int .i64 t) ∧ p t

set_option maxHeartbeats 1000000 in
theorem zzBytes16_any (a b : Option Addr) (n m cap cap' : Nat) (ps : List Pat) (w : World) (HN : Hid (ps.length = n)) (hn : n ≤ maxLen) (hm : m ≤ maxLen) (hp : Pats w a ps) (hz : ∀ i, i < n → (ptx ps i).size ≤ maxLen) :
    Calls Try.prog 16 #[.slice a n cap, .slice b m cap'] w fun e w' => TellsIf e (n + tlen ps + m ≤ 1048576) ∧ w' = w := by
  unfold maxLen at hn hm hz
  by_cases h1 : n ≤ 1048576
  · go_enter Try.func16, Try.ntmps16
    go_wp2
    go_loop [5, 6] (fun t i => ∃ j : Nat, j ≤ n ∧ n + tlenTo ps j ≤ 1048576 ∧ t = .int .i64 ((n + tlenTo ps j : Nat) : Int) ∧ i = .int .i64 j) (fun _ i => n - (intOf i).toNat)
    case atStart => exact ⟨0, by omega, by simpa [tlenTo] using h1, rfl, rfl⟩
    case round =>
      obtain ⟨j, hj, ht, rfl, rfl⟩ := hrel
      by_cases hlt : j < n
      · obtain ⟨b1, off1, rfl, _, c0, _, _⟩ := hp j (by have := HN.out; omega)
        have hz1 := hz j hlt
        clear hp hz
        have hs : tlenTo ps (j + 1) = tlenTo ps j + (ptx ps j).size := rfl
        have HS : Hid (tlenTo ps (j + 1) = tlenTo ps j + (ptx ps j).size) := hs
        clear hs
        by_cases h2 : (ptx ps j).size ≤ 1048576
        · by_cases h3 : n + tlenTo ps j + (ptx ps j).size ≤ 1048576
          · go_wp2
            go_round
            case rel => exact ⟨j + 1, by omega, by rw [HS.out]; omega, by rw [HS.out]; go_num, by go_num⟩
            case measure => simp [intOf]; omega
          · go_wp2
            go_ret
            exact ⟨TellsIf.no, rfl⟩
        · go_wp2
          go_ret
          exact ⟨TellsIf.no, rfl⟩
      · obtain rfl : j = n := by omega
        clear hp hz
        by_cases h4 : m ≤ 1048576
        · by_cases h5 : j + tlenTo ps j + m ≤ 1048576
          · go_wp2
            go_ret
            exact ⟨TellsIf.yes (by unfold tlen; rw [HN.out]; exact h5), rfl⟩
          · go_wp2
            go_ret
            exact ⟨TellsIf.no, rfl⟩
        · go_wp2
          go_ret
          exact ⟨TellsIf.no, rfl⟩
  · go_enter Try.func16, Try.ntmps16
    go_wp2
    go_ret
    exact ⟨TellsIf.no, rfl⟩

set_option maxHeartbeats 1000000 in
theorem zzBytes26_any (a b : Option Addr) (n m cap cap' : Nat) (ps : List Pat) (w : World) (HN : Hid (ps.length = n)) (hn : n ≤ maxLen) (hm : m ≤ maxLen) (hp : Pats w a ps) (hz : ∀ i, i < n → (ptx ps i).size ≤ maxLen) :
    Calls Try.prog 26 #[.slice a n cap, .slice b m cap'] w fun e w' => TellsIf e (n + tlen ps + m ≤ 1048576) ∧ w' = w := by
  unfold maxLen at hn hm hz
  by_cases h1 : n ≤ 1048576
  · go_enter Try.func26, Try.ntmps26
    go_wp2
    go_loop [5, 6] (fun t i => ∃ j : Nat, j ≤ n ∧ n + tlenTo ps j ≤ 1048576 ∧ t = .int .i64 ((n + tlenTo ps j : Nat) : Int) ∧ i = .int .i64 j) (fun _ i => n - (intOf i).toNat)
    case atStart => exact ⟨0, by omega, by simpa [tlenTo] using h1, rfl, rfl⟩
    case round =>
      obtain ⟨j, hj, ht, rfl, rfl⟩ := hrel
      by_cases hlt : j < n
      · obtain ⟨b1, off1, rfl, _, c0, _, _⟩ := hp j (by have := HN.out; omega)
        have hz1 := hz j hlt
        clear hp hz
        have hs : tlenTo ps (j + 1) = tlenTo ps j + (ptx ps j).size := rfl
        have HS : Hid (tlenTo ps (j + 1) = tlenTo ps j + (ptx ps j).size) := hs
        clear hs
        by_cases h2 : (ptx ps j).size ≤ 1048576
        · by_cases h3 : n + tlenTo ps j + (ptx ps j).size ≤ 1048576
          · go_wp2
            go_round
            case rel => exact ⟨j + 1, by omega, by rw [HS.out]; omega, by rw [HS.out]; go_num, by go_num⟩
            case measure => simp [intOf]; omega
          · go_wp2
            go_ret
            exact ⟨TellsIf.no, rfl⟩
        · go_wp2
          go_ret
          exact ⟨TellsIf.no, rfl⟩
      · obtain rfl : j = n := by omega
        clear hp hz
        by_cases h4 : m ≤ 1048576
        · by_cases h5 : j + tlenTo ps j + m ≤ 1048576
          · go_wp2
            go_ret
            exact ⟨TellsIf.yes (by unfold tlen; rw [HN.out]; exact h5), rfl⟩
          · go_wp2
            go_ret
            exact ⟨TellsIf.no, rfl⟩
        · go_wp2
          go_ret
          exact ⟨TellsIf.no, rfl⟩
  · go_enter Try.func26, Try.ntmps26
    go_wp2
    go_ret
    exact ⟨TellsIf.no, rfl⟩

set_option maxHeartbeats 1000000 in
theorem zzBytes29_any (a b : Option Addr) (n m cap cap' : Nat) (c : Option Addr) (l cap2 : Nat) (ps : List Pat) (w : World) (HN : Hid (ps.length = n)) (hn : n ≤ maxLen) (hm : m ≤ maxLen) (hl : l ≤ maxLen) (hp : Pats w a ps) (hz : ∀ i, i < n → (ptx ps i).size ≤ maxLen) :
    Calls Try.prog 29 #[.slice a n cap, .slice b m cap', .slice c l cap2] w fun e w' => TellsIf e (n + tlen ps + m + l ≤ 1048576) ∧ w' = w := by
  unfold maxLen at hn hm hl hz
  by_cases h1 : n ≤ 1048576
  · go_enter Try.func29, Try.ntmps29
    go_wp2
    go_loop [7, 8] (fun t i => ∃ j : Nat, j ≤ n ∧ n + tlenTo ps j ≤ 1048576 ∧ t = .int .i64 ((n + tlenTo ps j : Nat) : Int) ∧ i = .int .i64 j) (fun _ i => n - (intOf i).toNat)
    case atStart => exact ⟨0, by omega, by simpa [tlenTo] using h1, rfl, rfl⟩
    case round =>
      obtain ⟨j, hj, ht, rfl, rfl⟩ := hrel
      by_cases hlt : j < n
      · obtain ⟨b1, off1, rfl, _, c0, _, _⟩ := hp j (by have := HN.out; omega)
        have hz1 := hz j hlt
        clear hp hz
        have hs : tlenTo ps (j + 1) = tlenTo ps j + (ptx ps j).size := rfl
        have HS : Hid (tlenTo ps (j + 1) = tlenTo ps j + (ptx ps j).size) := hs
        clear hs
        by_cases h2 : (ptx ps j).size ≤ 1048576
        · by_cases h3 : n + tlenTo ps j + (ptx ps j).size ≤ 1048576
          · go_wp2
            go_round
            case rel => exact ⟨j + 1, by omega, by rw [HS.out]; omega, by rw [HS.out]; go_num, by go_num⟩
            case measure => simp [intOf]; omega
          · go_wp2
            go_ret
            exact ⟨TellsIf.no, rfl⟩
        · go_wp2
          go_ret
          exact ⟨TellsIf.no, rfl⟩
      · obtain rfl : j = n := by omega
        clear hp hz
        by_cases h4 : m ≤ 1048576
        · by_cases h5 : j + tlenTo ps j + m ≤ 1048576
          · by_cases h6 : l ≤ 1048576
            · by_cases h7 : j + tlenTo ps j + m + l ≤ 1048576
              · go_wp2
                go_ret
                exact ⟨TellsIf.yes (by unfold tlen; rw [HN.out]; exact h7), rfl⟩
              · go_wp2
                go_ret
                exact ⟨TellsIf.no, rfl⟩
            · go_wp2
              go_ret
              exact ⟨TellsIf.no, rfl⟩
          · go_wp2
            go_ret
            exact ⟨TellsIf.no, rfl⟩
        · go_wp2
          go_ret
          exact ⟨TellsIf.no, rfl⟩
  · go_enter Try.func29, Try.ntmps29
    go_wp2
    go_ret
    exact ⟨TellsIf.no, rfl⟩

set_option maxHeartbeats 1000000 in
theorem zzBytes34_any (a b : Option Addr) (n m cap cap' : Nat) (c : Option Addr) (l cap2 : Nat) (ps : List Pat) (w : World) (HN : Hid (ps.length = n)) (hn : n ≤ maxLen) (hm : m ≤ maxLen) (hl : l ≤ maxLen) (hp : Pats w a ps) (hz : ∀ i, i < n → (ptx ps i).size ≤ maxLen) :
    Calls Try.prog 34 #[.slice a n cap, .slice b m cap', .slice c l cap2] w fun e w' => TellsIf e (n + tlen ps + m + l ≤ 1048576) ∧ w' = w := by
  unfold maxLen at hn hm hl hz
  by_cases h1 : n ≤ 1048576
  · go_enter Try.func34, Try.ntmps34
    go_wp2
    go_loop [7, 8] (fun t i => ∃ j : Nat, j ≤ n ∧ n + tlenTo ps j ≤ 1048576 ∧ t = .int .i64 ((n + tlenTo ps j : Nat) : Int) ∧ i = .int .i64 j) (fun _ i => n - (intOf i).toNat)
    case atStart => exact ⟨0, by omega, by simpa [tlenTo] using h1, rfl, rfl⟩
    case round =>
      obtain ⟨j, hj, ht, rfl, rfl⟩ := hrel
      by_cases hlt : j < n
      · obtain ⟨b1, off1, rfl, _, c0, _, _⟩ := hp j (by have := HN.out; omega)
        have hz1 := hz j hlt
        clear hp hz
        have hs : tlenTo ps (j + 1) = tlenTo ps j + (ptx ps j).size := rfl
        have HS : Hid (tlenTo ps (j + 1) = tlenTo ps j + (ptx ps j).size) := hs
        clear hs
        by_cases h2 : (ptx ps j).size ≤ 1048576
        · by_cases h3 : n + tlenTo ps j + (ptx ps j).size ≤ 1048576
          · go_wp2
            go_round
            case rel => exact ⟨j + 1, by omega, by rw [HS.out]; omega, by rw [HS.out]; go_num, by go_num⟩
            case measure => simp [intOf]; omega
          · go_wp2
            go_ret
            exact ⟨TellsIf.no, rfl⟩
        · go_wp2
          go_ret
          exact ⟨TellsIf.no, rfl⟩
      · obtain rfl : j = n := by omega
        clear hp hz
        by_cases h4 : m ≤ 1048576
        · by_cases h5 : j + tlenTo ps j + m ≤ 1048576
          · by_cases h6 : l ≤ 1048576
            · by_cases h7 : j + tlenTo ps j + m + l ≤ 1048576
              · go_wp2
                go_ret
                exact ⟨TellsIf.yes (by unfold tlen; rw [HN.out]; exact h7), rfl⟩
              · go_wp2
                go_ret
                exact ⟨TellsIf.no, rfl⟩
            · go_wp2
              go_ret
              exact ⟨TellsIf.no, rfl⟩
          · go_wp2
            go_ret
            exact ⟨TellsIf.no, rfl⟩
        · go_wp2
          go_ret
          exact ⟨TellsIf.no, rfl⟩
  · go_enter Try.func34, Try.ntmps34
    go_wp2
    go_ret
    exact ⟨TellsIf.no, rfl⟩

set_option maxHeartbeats 1000000 in
theorem patternBytes_any (a : Option Addr) (n cap : Nat) (ps : List Pat) (w : World) (HN : Hid (ps.length = n)) (hn : n ≤ 1048576) (hp : Pats w a ps) (hz : tlen ps ≤ 1048576) :
    Calls Try.prog 17 #[.slice a n cap] w fun e w' => NumEnd e (fun t => 0 ≤ t ∧ t ≤ 1099511627776) ∧ w' = w := by
  go_enter Try.func17, Try.ntmps17
  go_wp2
  go_loop [3, 4] (fun t i => ∃ j : Nat, j ≤ n ∧ t = .int .i64 ((24 * n + tlenTo ps j : Nat) : Int) ∧ i = .int .i64 j) (fun _ i => n - (intOf i).toNat)
  case atStart => exact ⟨0, by omega, by simp [tlenTo], rfl⟩
  case round =>
    obtain ⟨j, hj, rfl, rfl⟩ := hrel
    have hle : tlenTo ps j ≤ 1048576 := by have := tlenTo_mono (ps := ps) hj; have := HN.out; unfold tlen at hz; rw [HN.out] at hz; omega
    by_cases hlt : j < n
    · obtain ⟨b1, off1, rfl, _, c0, _, _⟩ := hp j (by have := HN.out; omega)
      have hz1 := ptx_le_tlen (ps := ps) (i := j) (by have := HN.out; omega)
      have hz2 : (ptx ps j).size ≤ 1048576 := by omega
      clear hp hz1
      have HS : Hid (tlenTo ps (j + 1) = tlenTo ps j + (ptx ps j).size) := rfl
      have hl : (j : Int) < (n : Int) := by omega
      by_cases h3 : 24 * n + tlenTo ps j + (ptx ps j).size ≤ 2097152
      · go_wp2
        go_round
        case rel => exact ⟨j + 1, by omega, by rw [HS.out]; go_num, by go_num⟩
        case measure => simp [intOf]; omega
      · go_wp2
        go_ret
        exact ⟨⟨_, rfl, by omega, by omega⟩, rfl⟩
    · have hl : ¬ (j : Int) < (n : Int) := by omega
      clear hp
      go_wp2
      go_ret
      exact ⟨⟨_, rfl, by omega, by omega⟩, rfl⟩

set_option maxHeartbeats 400000 in
theorem equalInts_any (a b : Option Addr) (n m cap cap' : Nat) (xs ys : List Int) (w : World) (hn : Hid (xs.length = n)) (hm : Hid (ys.length = m)) (h1 : n ≤ 1099511627776) (h2 : m ≤ 1099511627776) (hp : Ints .i64 w a xs) (hq : Ints .i64 w b ys) :
    Calls Try.prog 23 #[.slice a n cap, .slice b m cap'] w fun e w' => Tells e (xs = ys) ∧ Quiet w w' := by
  by_cases hnm : n = m
  · subst hnm
    go_enter Try.func23, Try.ntmps23
    go_wp2
    go_loopw [5] (fun k wr => ∃ j : Nat, j ≤ n ∧ k = .int .i64 j ∧ Quiet w wr ∧ ∀ i, i < j → iat xs i = iat ys i) (fun k _ => n - (intOf k).toNat)
    case atStart => exact ⟨0, by omega, rfl, Quiet.refl w, fun i h => by omega⟩
    case round =>
      obtain ⟨j, hjn, rfl, ⟨q, rfl⟩, heq⟩ := hrel
      have HE : Hid (∀ i, i < j → iat xs i = iat ys i) := heq
      clear heq
      by_cases hlt : j < n
      · obtain ⟨b1, off1, rfl, _, c0⟩ := hp j (by have := hn.out; omega)
        obtain ⟨b2, off2, rfl, _, d0⟩ := hq j (by have := hm.out; omega)
        clear hp hq
        have hl : (j : Int) < (n : Int) := by omega
        by_cases e1 : iat xs j = iat ys j
        · have HX : Hid (iat xs j = iat ys j) := e1
          have t1 : (iat xs j != iat ys j) = false := by simp [e1]
          clear e1
          go_wp2
          go_quiet (fail)
          go_wp2
          go_roundw
          case rel => exact ⟨j + 1, by omega, by go_num, ⟨_, rfl⟩, fun k hk => by
            by_cases e : k = j
            · subst e; exact HX.out
            · exact HE.out k (by omega)⟩
          case measure => simp [intOf]; omega
        · have HX : Hid (¬ iat xs j = iat ys j) := e1
          have t1 : (iat xs j != iat ys j) = true := by simp [e1]
          clear e1
          go_wp2
          go_quiet (fail)
          go_wp2
          go_ret
          exact ⟨Tells.no (fun h => HX.out (by rw [h])), Quiet.drewN ⟨_, rfl⟩ _⟩
      · have hl : ¬ (j : Int) < (n : Int) := by omega
        clear hp hq
        go_wp2
        go_ret
        exact ⟨Tells.yes (iat_ext (hn.out.trans hm.out.symm) fun i hi => HE.out i (by have := hn.out; omega)), ⟨_, rfl⟩⟩
  · have t : ((n : Int) != (m : Int)) = true := by rw [bne_iff_ne]; omega
    go_enter Try.func23, Try.ntmps23
    go_wp2
    go_ret
    exact ⟨Tells.no (fun h => hnm (by rw [← hn.out, ← hm.out, h])), Quiet.refl _⟩

set_option maxHeartbeats 400000 in
theorem equalRunes_any (a b : Option Addr) (n m cap cap' : Nat) (xs ys : List Int) (w : World) (hn : Hid (xs.length = n)) (hm : Hid (ys.length = m)) (h1 : n ≤ 1099511627776) (h2 : m ≤ 1099511627776) (hp : Ints .i32 w a xs) (hq : Ints .i32 w b ys) :
    Calls Try.prog 28 #[.slice a n cap, .slice b m cap'] w fun e w' => Tells e (xs = ys) ∧ Quiet w w' := by
  by_cases hnm : n = m
  · subst hnm
    go_enter Try.func28, Try.ntmps28
    go_wp2
    go_loopw [5] (fun k wr => ∃ j : Nat, j ≤ n ∧ k = .int .i64 j ∧ Quiet w wr ∧ ∀ i, i < j → iat xs i = iat ys i) (fun k _ => n - (intOf k).toNat)
    case atStart => exact ⟨0, by omega, rfl, Quiet.refl w, fun i h => by omega⟩
    case round =>
      obtain ⟨j, hjn, rfl, ⟨q, rfl⟩, heq⟩ := hrel
      have HE : Hid (∀ i, i < j → iat xs i = iat ys i) := heq
      clear heq
      by_cases hlt : j < n
      · obtain ⟨b1, off1, rfl, _, c0⟩ := hp j (by have := hn.out; omega)
        obtain ⟨b2, off2, rfl, _, d0⟩ := hq j (by have := hm.out; omega)
        clear hp hq
        have hl : (j : Int) < (n : Int) := by omega
        by_cases e1 : iat xs j = iat ys j
        · have HX : Hid (iat xs j = iat ys j) := e1
          have t1 : (iat xs j != iat ys j) = false := by simp [e1]
          clear e1
          go_wp2
          go_quiet (fail)
          go_wp2
          go_roundw
          case rel => exact ⟨j + 1, by omega, by go_num, ⟨_, rfl⟩, fun k hk => by
            by_cases e : k = j
            · subst e; exact HX.out
            · exact HE.out k (by omega)⟩
          case measure => simp [intOf]; omega
        · have HX : Hid (¬ iat xs j = iat ys j) := e1
          have t1 : (iat xs j != iat ys j) = true := by simp [e1]
          clear e1
          go_wp2
          go_quiet (fail)
          go_wp2
          go_ret
          exact ⟨Tells.no (fun h => HX.out (by rw [h])), Quiet.drewN ⟨_, rfl⟩ _⟩
      · have hl : ¬ (j : Int) < (n : Int) := by omega
        clear hp hq
        go_wp2
        go_ret
        exact ⟨Tells.yes (iat_ext (hn.out.trans hm.out.symm) fun i hi => HE.out i (by have := hn.out; omega)), ⟨_, rfl⟩⟩
  · have t : ((n : Int) != (m : Int)) = true := by rw [bne_iff_ne]; omega
    go_enter Try.func28, Try.ntmps28
    go_wp2
    go_ret
    exact ⟨Tells.no (fun h => hnm (by rw [← hn.out, ← hm.out, h])), Quiet.refl _⟩

end Go.Proofs.Qxb6601200a
