import Derived.Test.Qxb6601200aBase
namespace Go.Proofs.Qxb6601200a
open Go.RowKit

set_option maxHeartbeats 400000 in
theorem loopsIncreasing_any (a : Option Addr) (n cap : Nat) (xs : List (Int × Int)) (w : World) (hn : Hid (xs.length = n)) (hm : n ≤ 1048576) (hp : Pairs w a xs) :
    Calls Try.prog 10 #[.slice a n cap] w fun e w' => Tells e (Incr xs) ∧ Quiet w w' := by
  go_enter Try.func10, Try.ntmps10
  go_wp2
  go_loopw [3] (fun k wr => ∃ j : Nat, 1 ≤ j ∧ j ≤ n + 1 ∧ k = .int .i64 j ∧ Quiet w wr ∧ ∀ i, i + 1 < j → i + 1 < n → P1 xs i < P1 xs (i + 1)) (fun k _ => n + 1 - (intOf k).toNat)
  case atStart => exact ⟨1, by omega, by omega, rfl, Quiet.refl w, fun i h _ => by omega⟩
  case round =>
    obtain ⟨j, h1, hjn, rfl, ⟨m, rfl⟩, hinc⟩ := hrel
    by_cases hlt : j < n
    · obtain ⟨i, rfl⟩ : ∃ i, j = i + 1 := ⟨j - 1, by omega⟩
      obtain ⟨b, off, rfl, _, c0, _⟩ := hp i (by have := hn.out; omega)
      have c1 := (hp.at rfl (i := i + 1) (by have := hn.out; omega)).1
      clear hp
      have hl : (i : Int) + 1 < (n : Int) := by omega
      by_cases ht : P1 xs i < P1 xs (i + 1)
      · go_wp2
        go_quiet (fail)
        go_wp2
        go_roundw
        case rel => exact ⟨i + 2, by omega, by omega, by go_num, ⟨_, rfl⟩, fun k hk _ => by
          by_cases e : k = i
          · subst e; exact ht
          · exact hinc k (by omega) (by omega)⟩
        case measure => simp [intOf]; omega
      · have ht' : P1 xs (i + 1) ≤ P1 xs i := by omega
        clear ht
        go_wp2
        go_quiet (fail)
        go_wp2
        go_ret
        exact ⟨Tells.no (fun h => by have := h i (by have := hn.out; omega); omega), Quiet.drewN ⟨_, rfl⟩ _⟩
    · have hl : ¬ (j : Int) < (n : Int) := by omega
      go_wp2
      go_ret
      exact ⟨Tells.yes (fun i hi => hinc i (by have := hn.out; omega) (by have := hn.out; omega)), ⟨_, rfl⟩⟩

set_option maxHeartbeats 400000 in
theorem zzBytes9_any (a b : Option Addr) (n m cap cap' : Nat) (w : World) (hn : n ≤ maxLen) (hm : m ≤ maxLen) :
    Calls Try.prog 9 #[.slice a n cap, .slice b m cap'] w fun e w' => Tells e (n + m ≤ 1048576) ∧ w' = w := by
  unfold maxLen at hn hm
  by_cases h1 : n ≤ 1048576
  · by_cases h2 : m ≤ 1048576
    · by_cases h3 : n + m ≤ 1048576
      · go_enter Try.func9, Try.ntmps9
        go_wp2
        go_ret
        exact ⟨Tells.yes h3, rfl⟩
      · go_enter Try.func9, Try.ntmps9
        go_wp2
        go_ret
        exact ⟨Tells.no (by omega), rfl⟩
    · go_enter Try.func9, Try.ntmps9
      go_wp2
      go_ret
      exact ⟨Tells.no (by omega), rfl⟩
  · go_enter Try.func9, Try.ntmps9
    go_wp2
    go_ret
    exact ⟨Tells.no (by omega), rfl⟩

/-- What a search for c comes to. -/
def Found (xs : List (Int × Int)) (c t : Int) (ok : Bool) : Prop :=
  (ok = true → ∃ i, i < xs.length ∧ P1 xs i = c ∧ P2 xs i = t) ∧ (ok = false → ∀ i, i < xs.length → P1 xs i ≠ c)

theorem Incr.lt {xs : List (Int × Int)} (h : Incr xs) : ∀ i j, i < j → j < xs.length → P1 xs i < P1 xs j := by
  intro i j hij
  induction j with
  | zero => omega
  | succ j ih =>
    intro hj
    have h1 := h j (by omega)
    by_cases e : i = j
    · subst e; exact h1
    · have := ih (by omega) (by omega); omega

theorem Incr.le {xs : List (Int × Int)} (h : Incr xs) (i j : Nat) (hij : i ≤ j) (hj : j < xs.length) : P1 xs i ≤ P1 xs j := by
  by_cases e : i = j
  · subst e; exact Int.le_refl _
  · have := h.lt i j (by omega) hj; omega

/-- A call that ends in two results: a number and a bool. -/
def FindEnd (xs : List (Int × Int)) (c : Int) (e : Ending) : Prop := ∃ t ok, e = .returned (.tuple #[.int .i64 t, .bool ok]) ∧ Found xs c t ok

theorem FindEnd.yes {xs : List (Int × Int)} {c : Int} {i : Nat} (hi : i < xs.length) (h : P1 xs i = c) : FindEnd xs c (.returned (.tuple #[.int .i64 (P2 xs i), .bool true])) :=
  ⟨_, _, rfl, fun _ => ⟨i, hi, h, rfl⟩, fun h => by cases h⟩
theorem FindEnd.no {xs : List (Int × Int)} {c : Int} (h : ∀ i, i < xs.length → P1 xs i ≠ c) : FindEnd xs c (.returned (.tuple #[.int .i64 0, .bool false])) :=
  ⟨_, _, rfl, fun h => by (cases h), fun _ => h⟩

set_option maxHeartbeats 400000 in
theorem findLoop_any (a : Option Addr) (n cap : Nat) (xs : List (Int × Int)) (c : Int) (w : World) (hn : Hid (xs.length = n)) (hm : n ≤ 1048576) (hp : Pairs w a xs) (hi : Hid (Incr xs)) :
    Calls Try.prog 13 #[.slice a n cap, .int .i64 c] w fun e w' => FindEnd xs c e ∧ w' = w := by
  go_enter Try.func13, Try.ntmps13
  go_wp2
  go_loop [6, 7] (fun lo hi => ∃ l h : Nat, l ≤ h ∧ h ≤ n ∧ lo = .int .i64 l ∧ hi = .int .i64 h ∧ (∀ k, k < l → P1 xs k < c) ∧ (∀ k, h ≤ k → k < n → c ≤ P1 xs k)) (fun lo hi => (intOf hi).toNat - (intOf lo).toNat)
  case atStart => exact ⟨0, n, by omega, by omega, rfl, rfl, fun k h => by omega, fun k h h' => by omega⟩
  case round =>
    obtain ⟨l, h, hlh, hhn, rfl, rfl, hlo, hhi⟩ := hrel
    by_cases hlt : l < h
    · obtain ⟨b, off, rfl, _, c0, _⟩ := hp (l + (h - l) / 2) (by have := hn.out; omega)
      have hmid : l + (h - l) / 2 < n := by omega
      clear hp
      by_cases ht : P1 xs (l + (h - l) / 2) < c
      · go_wp2
        go_round
        case rel =>
          refine ⟨l + (h - l) / 2 + 1, h, by omega, by omega, by go_num, rfl, fun k hk => ?_, hhi⟩
          have := hi.out.le k (l + (h - l) / 2) (by omega) (by have := hn.out; omega)
          omega
        case measure => simp [intOf]; omega
      · have ht' : c ≤ P1 xs (l + (h - l) / 2) := by omega
        clear ht
        go_wp2
        go_round
        case rel =>
          refine ⟨l, l + (h - l) / 2, by omega, by omega, rfl, by go_num, hlo, fun k hk hkn => ?_⟩
          have := hi.out.le (l + (h - l) / 2) k (by omega) (by have := hn.out; omega)
          omega
        case measure => simp [intOf]; omega
    · have hlh' : h = l := by omega
      subst hlh'
      by_cases hl : h < n
      · obtain ⟨b, off, rfl, _, c0, c1⟩ := hp h (by have := hn.out; omega)
        clear hp
        by_cases hc : P1 xs h = c
        · have hc' : (P1 xs h == c) = true := by simp [hc]
          have HC := hc
          have HX : Hid (P1 xs h = c) := hc
          clear hc HC
          go_wp2
          go_ret2
          exact ⟨FindEnd.yes (by have := hn.out; omega) HX.out, rfl⟩
        · have hc' : (P1 xs h == c) = false := by simp [hc]
          have HX : Hid (¬ P1 xs h = c) := hc
          clear hc
          go_wp2
          go_ret2
          refine ⟨FindEnd.no fun k hk => ?_, rfl⟩
          have hk' := hn.out
          by_cases e : k < h
          · have := hlo k e; omega
          · by_cases e2 : k = h
            · subst e2; exact HX.out
            · have := hi.out.lt h k (by omega) hk
              have := hhi h (by omega) (by omega)
              omega
      · clear hp
        go_wp2
        go_ret2
        refine ⟨FindEnd.no fun k hk => ?_, rfl⟩
        have hk' := hn.out
        have := hlo k (by omega); omega

theorem P12_ext {xs ys : List (Int × Int)} (hl : xs.length = ys.length) (h : ∀ i, i < xs.length → P1 xs i = P1 ys i ∧ P2 xs i = P2 ys i) : xs = ys := by
  refine List.ext_getElem hl fun i h1 h2 => ?_
  have := h i h1
  simp only [P1, P2, List.getD_eq_getElem?_getD, List.getElem?_eq_getElem h1, List.getElem?_eq_getElem h2, Option.getD_some] at this
  exact Prod.ext this.1 this.2

set_option maxHeartbeats 400000 in
theorem equalLoops_any (a b : Option Addr) (n m cap cap' : Nat) (xs ys : List (Int × Int)) (w : World) (hn : Hid (xs.length = n)) (hm : Hid (ys.length = m)) (h1 : n ≤ 1048576) (h2 : m ≤ 1048576) (hp : Pairs w a xs) (hq : Pairs w b ys) :
    Calls Try.prog 14 #[.slice a n cap, .slice b m cap'] w fun e w' => Tells e (xs = ys) ∧ Quiet w w' := by
  by_cases hnm : n = m
  · subst hnm
    go_enter Try.func14, Try.ntmps14
    go_wp2
    go_loopw [5] (fun k wr => ∃ j : Nat, j ≤ n ∧ k = .int .i64 j ∧ Quiet w wr ∧ ∀ i, i < j → P1 xs i = P1 ys i ∧ P2 xs i = P2 ys i) (fun k _ => n - (intOf k).toNat)
    case atStart => exact ⟨0, by omega, rfl, Quiet.refl w, fun i h => by omega⟩
    case round =>
      obtain ⟨j, hjn, rfl, ⟨q, rfl⟩, heq⟩ := hrel
      have HE : Hid (∀ i, i < j → P1 xs i = P1 ys i ∧ P2 xs i = P2 ys i) := heq
      clear heq
      by_cases hlt : j < n
      · obtain ⟨b1, off1, rfl, _, c0, c1⟩ := hp j (by have := hn.out; omega)
        obtain ⟨b2, off2, rfl, _, d0, d1⟩ := hq j (by have := hm.out; omega)
        clear hp hq
        have hl : (j : Int) < (n : Int) := by omega
        by_cases e1 : P1 xs j = P1 ys j
        · by_cases e2 : P2 xs j = P2 ys j
          · have HX : Hid (P1 xs j = P1 ys j ∧ P2 xs j = P2 ys j) := ⟨e1, e2⟩
            have t1 : (P1 xs j != P1 ys j) = false := by simp [e1]
            have t2 : (P2 xs j != P2 ys j) = false := by simp [e2]
            clear e1 e2
            go_wp2
            go_quiet (fail)
            go_wp2
            go_roundw
            case rel => exact ⟨j + 1, by omega, by go_num, ⟨_, rfl⟩, fun k hk => by
              by_cases e : k = j
              · subst e; exact HX.out
              · exact HE.out k (by omega)⟩
            case measure => simp [intOf]; omega
          · have HX : Hid (¬ P2 xs j = P2 ys j) := e2
            have t1 : (P1 xs j != P1 ys j) = false := by simp [e1]
            have t2 : (P2 xs j != P2 ys j) = true := by simp [e2]
            clear e1 e2
            go_wp2
            go_quiet (fail)
            go_wp2
            go_ret
            exact ⟨Tells.no (fun h => HX.out (by rw [h])), Quiet.drewN ⟨_, rfl⟩ _⟩
        · have HX : Hid (¬ P1 xs j = P1 ys j) := e1
          have t1 : (P1 xs j != P1 ys j) = true := by simp [e1]
          clear e1
          go_wp2
          go_quiet (fail)
          go_wp2
          go_ret
          exact ⟨Tells.no (fun h => HX.out (by rw [h])), Quiet.drewN ⟨_, rfl⟩ _⟩
      · have hl : ¬ (j : Int) < (n : Int) := by omega
        clear hp hq
        go_wp2
        go_ret
        exact ⟨Tells.yes (P12_ext (hn.out.trans hm.out.symm) fun i hi => HE.out i (by have := hn.out; omega)), ⟨_, rfl⟩⟩
  · have t : ((n : Int) != (m : Int)) = true := by rw [bne_iff_ne]; omega
    go_enter Try.func14, Try.ntmps14
    go_wp2
    go_ret
    exact ⟨Tells.no (fun h => hnm (by rw [← hn.out, ← hm.out, h])), Quiet.refl _⟩

end Go.Proofs.Qxb6601200a
