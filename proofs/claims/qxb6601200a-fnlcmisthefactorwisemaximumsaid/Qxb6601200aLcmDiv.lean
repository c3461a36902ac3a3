import Derived.Test.Qxb6601200aLcmRead
namespace Go.Proofs.Qxb6601200a
open Go.RowKit

/-- Every factor of xs is one of ys, at least as many times. -/
def Div (xs ys : List (Int × Int)) : Prop := ∀ i, i < xs.length → ∃ j, j < ys.length ∧ P1 ys j = P1 xs i ∧ P2 xs i ≤ P2 ys j

theorem not_div {xs ys : List (Int × Int)} (iy : Incr ys) {i k : Nat} (hi : i < xs.length) (low : ∀ j', j' < k → P1 ys j' < P1 xs i)
    (hk : k < ys.length → P1 xs i ≤ P1 ys k ∧ (P1 ys k = P1 xs i → P2 ys k < P2 xs i)) : ¬ Div xs ys := by
  intro h
  obtain ⟨j, hj, e1, e2⟩ := h i hi
  by_cases c : j < k
  · have := low j c; omega
  · have hkm : k < ys.length := by omega
    have h3 := hk hkm
    by_cases c2 : j = k
    · subst c2; have := h3.2 e1; omega
    · have := iy.lt k j (by omega) hj; omega

set_option maxHeartbeats 1000000 in
theorem divides_any (a b : Option Addr) (n m cap cap' : Nat) (xs ys : List (Int × Int)) (w : World) (hn : Hid (xs.length = n)) (hm : Hid (ys.length = m)) (h1 : n ≤ 1048576) (h2 : m ≤ 1048576)
    (hp : Pairs w a xs) (hq : Pairs w b ys) (ix : Hid (Incr xs)) (iy : Hid (Incr ys)) :
    Calls Try.prog 41 #[.slice a n cap, .slice b m cap'] w fun e w' => Tells e (Div xs ys) ∧ Below w.heap.size w w' := by
  go_enter Try.func41, Try.ntmps41
  go_wp2
  go_loopw [5, 10] (fun jj ii wr => ∃ i j : Nat, i ≤ n ∧ j ≤ m ∧ jj = .int .i64 j ∧ ii = .int .i64 i ∧ Below w.heap.size w wr ∧ (∀ j', j' < j → ∀ i', i ≤ i' → i' < n → P1 ys j' < P1 xs i') ∧ (∀ i', i' < i → ∃ j', j' < m ∧ P1 ys j' = P1 xs i' ∧ P2 xs i' ≤ P2 ys j')) (fun _ ii _ => n - (intOf ii).toNat)
  case atStart => exact ⟨0, 0, by omega, by omega, rfl, rfl, Below.refl _ _, fun j' h => by omega, fun i' h => by omega⟩
  case round =>
    obtain ⟨i, j, hi, hj, rfl, rfl, hb, hlow, hdone⟩ := hrel
    have HD : Hid (∀ i', i' < i → ∃ j', j' < m ∧ P1 ys j' = P1 xs i' ∧ P2 xs i' ≤ P2 ys j') := hdone
    clear hdone
    by_cases hlt : i < n
    · obtain ⟨b1, off1, rfl, hbl, c0, c1⟩ := hp i (by have := hn.out; omega)
      have c0' := (hb.cell hbl).trans c0
      have c1' := (hb.cell hbl).trans c1
      have hl : (i : Int) < (n : Int) := by omega
      clear c0 c1
      go_wp2
      obtain ⟨wo, hwo⟩ : ∃ wo : World, wo = wr := ⟨_, rfl⟩
      subst hwo
      go_loopw [5] (fun jj wr => ∃ k : Nat, j ≤ k ∧ k ≤ m ∧ jj = .int .i64 k ∧ Quiet (wo.alloc (.cells #[.int .i64 (P1 xs i), .int .i64 (P2 xs i)] 65)) wr ∧ (∀ j', j' < k → P1 ys j' < P1 xs i)) (fun jj _ => m - (intOf jj).toNat)
      case atStart => exact ⟨j, by omega, hj, rfl, Quiet.refl _, fun j' h => hlow j' h i (by omega) hlt⟩
      case round =>
        obtain ⟨k, hjk, hkm, rfl, ⟨q, rfl⟩, hlow2⟩ := hrel
        have hs := hb.size
        by_cases hk : k < m
        · obtain ⟨b2, off2, rfl, hbl2, d0, d1⟩ := hq k (by have := hm.out; omega)
          have d0' := (hb.cell hbl2).trans d0
          have d1' := (hb.cell hbl2).trans d1
          have hbl2' : b2 < wo.heap.size := by omega
          have hkl : (k : Int) < (m : Int) := by omega
          clear d0 d1
          by_cases ht : P1 ys k < P1 xs i
          · clear hp hq
            go_wp2
            go_quiet (fail)
            go_wp2
            go_roundw
            case rel => exact ⟨k + 1, by omega, by omega, by go_num, ⟨_, rfl⟩, fun j' hj' => by
              by_cases e : j' = k
              · subst e; exact ht
              · exact hlow2 j' (by omega)⟩
            case measure => simp [intOf]; omega
          · have ht' : P1 xs i ≤ P1 ys k := by omega
            clear ht hp hq
            have hne : ((k : Int) == (m : Int)) = false := beq_eq_false_iff_ne.2 (by omega)
            by_cases e1 : P1 ys k = P1 xs i
            · have t1 : (P1 ys k != P1 xs i) = false := by simp [e1]
              have HE : Hid (P1 ys k = P1 xs i) := e1
              clear e1
              by_cases e2 : P2 ys k < P2 xs i
              · go_wp2
                go_quiet (fail)
                go_wp2
                go_quiet (fail)
                go_wp2
                go_ret
                exact ⟨Tells.no (not_div iy.out (k := k) (i := i) (by have := hn.out; omega) hlow2 (fun _ => ⟨ht', fun _ => e2⟩)), below_drewN (below_drewN (below_drewN (hb.alloc hs _) _) _) _⟩
              · have e2' : P2 xs i ≤ P2 ys k := by omega
                clear e2
                go_wp2
                go_quiet (fail)
                go_wp2
                go_quiet (fail)
                go_wp2
                go_roundw
                case rel =>
                  refine ⟨i + 1, k, by omega, by omega, rfl, by go_num, below_drewN (hb.alloc hs _) _, fun j' hj' i' hi' hin => ?_, fun i' hi' => ?_⟩
                  · have := hlow2 j' hj'
                    have := ix.out.lt i i' (by omega) (by have := hn.out; omega)
                    omega
                  · by_cases e : i' = i
                    · subst e; exact ⟨k, hk, HE.out, e2'⟩
                    · exact HD.out i' (by omega)
                case measure => simp [intOf]; omega
            · have t1 : (P1 ys k != P1 xs i) = true := by simp [e1]
              have HE : Hid (¬ P1 ys k = P1 xs i) := e1
              clear e1
              go_wp2
              go_quiet (fail)
              go_wp2
              go_quiet (fail)
              go_wp2
              go_ret
              exact ⟨Tells.no (not_div iy.out (k := k) (i := i) (by have := hn.out; omega) hlow2 (fun _ => ⟨ht', fun h => absurd h HE.out⟩)), below_drewN (below_drewN (below_drewN (hb.alloc hs _) _) _) _⟩
        · have hkl : decide ((k : Int) < (m : Int)) = false := decide_eq_false (by omega)
          obtain rfl : k = m := by omega
          clear hp hq
          go_wp2
          go_quiet (fail)
          go_wp2
          go_quiet (fail)
          go_wp2
          go_ret
          exact ⟨Tells.no (not_div iy.out (k := k) (i := i) (by have := hn.out; omega) hlow2 (fun h => by have := hm.out; omega)), below_drewN (below_drewN (below_drewN (hb.alloc hs _) _) _) _⟩
    · have hl : ¬ (i : Int) < (n : Int) := by omega
      go_wp2
      go_ret
      exact ⟨Tells.yes (fun k hk => by
        have := hn.out
        obtain ⟨j', hj', r⟩ := HD.out k (by omega)
        exact ⟨j', by have := hm.out; omega, r⟩), hb⟩
end Go.Proofs.Qxb6601200a
