import Derived.Test.Qxb6601200aLcmZZ
namespace Go.Proofs.Qxb6601200a
open Go.RowKit

theorem good_AB {xs ys : List (Int × Int)} (ix : Incr xs) (iy : Incr ys) {c t ta tb : Int} (h : Good xs ys c t) (ha : Found xs c ta true) (hb : Found ys c tb true) : (ta < tb → t = tb) ∧ (¬ ta < tb → t = ta) := by
  obtain ⟨i, hi, e1, e2⟩ := ha.1 rfl
  obtain ⟨j, hj, f1, f2⟩ := hb.1 rfl
  have g1 := good_geX ix h hi e1
  have g2 := good_geY iy h hj f1
  rcases h with ⟨i', hi', k1, k2, _⟩ | ⟨j', hj', k1, k2, _⟩
  · have := incr_inj ix hi' hi (k1.trans e1.symm)
    subst this
    constructor <;> intro <;> omega
  · have := incr_inj iy hj' hj (k1.trans f1.symm)
    subst this
    constructor <;> intro <;> omega
theorem good_A {xs ys : List (Int × Int)} (ix : Incr xs) {c t ta tb : Int} (h : Good xs ys c t) (ha : Found xs c ta true) (hb : Found ys c tb false) : t = ta := by
  obtain ⟨i, hi, e1, e2⟩ := ha.1 rfl
  rcases h with ⟨i', hi', k1, k2, _⟩ | ⟨j', hj', k1, k2, _⟩
  · have := incr_inj ix hi' hi (k1.trans e1.symm)
    subst this
    omega
  · exact absurd k1 (hb.2 rfl j' hj')
theorem good_B {xs ys : List (Int × Int)} (iy : Incr ys) {c t ta tb : Int} (h : Good xs ys c t) (ha : Found xs c ta false) (hb : Found ys c tb true) : t = tb := by
  obtain ⟨i, hi, e1, e2⟩ := hb.1 rfl
  rcases h with ⟨i', hi', k1, k2, _⟩ | ⟨j', hj', k1, k2, _⟩
  · exact absurd k1 (ha.2 rfl i' hi')
  · have := incr_inj iy hj' hi (k1.trans e1.symm)
    subst this
    omega
theorem good_none {xs ys : List (Int × Int)} {c t ta tb : Int} (h : Good xs ys c t) (ha : Found xs c ta false) (hb : Found ys c tb false) : False := by
  rcases h with ⟨i', hi', k1, k2, _⟩ | ⟨j', hj', k1, k2, _⟩
  · exact ha.2 rfl i' hi' k1
  · exact hb.2 rfl j' hj' k1
theorem found_has {L : List (Int × Int)} {c t : Int} {ok : Bool} (h : Found L c t ok) (hk : ∃ k, k < L.length ∧ P1 L k = c) : ok = true := by
  cases ok with
  | true => rfl
  | false => obtain ⟨k, hk, e⟩ := hk; exact absurd e (h.2 rfl k hk)
theorem merged_iff {xs ys L : List (Int × Int)} {mg r1 r2 : Bool} (h : LcmOK xs ys L mg) (h1 : r1 = true ↔ L = xs) (h2 : r2 = true ↔ L = ys) : (mg == !(r1 || r2)) = true := by
  have h3 := h.2
  by_cases e1 : L = xs <;> by_cases e2 : L = ys <;> cases mg <;> cases r1 <;> cases r2 <;> simp_all

set_option maxRecDepth 100000 in
set_option maxHeartbeats 2000000 in
theorem lcmLaw_walk (a b : Option Addr) (n m cap cap' : Nat) (xs ys : List (Int × Int)) (w : World) (hn : Hid (xs.length = n)) (hm : Hid (ys.length = m)) (h1 : n ≤ maxLen) (h2 : m ≤ maxLen)
    (hp : Pairs w a xs) (hq : Pairs w b ys) :
    Calls Try.prog 3 #[.slice a n cap, .slice b m cap'] w fun e w' => e = .returned (.bool true) ∧ Below w.heap.size w w' := by
  go_enter Try.func3, Try.ntmps3
  go_wp2_with fail
  refine (zzBytes9_any a b n m cap cap' _ h1 h2).mono ?_
  rintro e w' ⟨⟨r, rfl, hr⟩, hw⟩
  subst hw
  unfold maxLen at h1 h2
  cases r with
  | false =>
    clear hr
    go_wp2_with fail
    go_ret
    exact ⟨rfl, Below.refl _ _⟩
  | true =>
    have hnm := hr.1 rfl
    clear hr
    by_cases hn1 : n ≤ 65536
    · by_cases hm1 : m ≤ 65536
      · by_cases hs : 16 * n + 16 * m ≤ 1048576
        · go_wp2_with fail
          refine (loopsIncreasing_any a n cap xs _ hn (by omega) hp).mono ?_
          rintro e w1 ⟨⟨r, rfl, hr⟩, ⟨q1, rfl⟩⟩
          cases r with
          | false =>
            clear hr
            go_wp2_with fail
            go_ret
            exact ⟨rfl, below_drewN (Below.refl _ _) _⟩
          | true =>
            have ix : Hid (Incr xs) := hr.1 rfl
            clear hr
            go_wp2_with fail
            refine (loopsIncreasing_any b m cap' ys _ hm (by omega) (hq.below (below_drewN (Below.refl _ _) _))).mono ?_
            rintro e w2 ⟨⟨r, rfl, hr⟩, ⟨q2, rfl⟩⟩
            cases r with
            | false =>
              clear hr
              go_wp2_with fail
              go_ret
              exact ⟨rfl, below_drewN (Below.refl _ _) _⟩
            | true =>
              have iy : Hid (Incr ys) := hr.1 rfl
              clear hr
              have hb0 : Below w'.heap.size w' (w'.drewN (q1 + q2)) := below_drewN (Below.refl _ _) _
              have hpA := hp.below hb0
              have hqA := hq.below hb0
              clear hp hq
              go_wp2_with fail
              refine (cloneLoops_any a n cap xs _ hn (by omega) hpA).mono ?_
              rintro e w3 ⟨⟨a1, c1, rfl, hp1⟩, hb1⟩
              have hq1 := hqA.below hb1
              have hb2 := hb0.trans (hb1.mono hb0.size)
              clear hpA hqA hb0 hb1
              go_wp2_with fail
              refine (cloneLoops_any b m cap' ys _ hm (by omega) hq1).mono ?_
              rintro e w4 ⟨⟨a2, c2, rfl, hq2⟩, hb3⟩
              have hp2 := hp1.below hb3
              have hb4 := hb2.trans (hb3.mono hb2.size)
              clear hp1 hq1 hb2 hb3
              go_wp2_with fail
              refine (zzLcm_any a1 a2 n m c1 c2 xs ys _ hn hm hn1 hm1 hp2 hq2 ix iy).mono ?_
              rintro e w5 ⟨⟨a3, n3, c3, L, mg, rfl, hL, hp3, hok⟩, hb5⟩
              have hp4 := hp2.below hb5
              have hq4 := hq2.below hb5
              have hb6 := hb4.trans (hb5.mono hb4.size)
              clear hp2 hq2 hb4 hb5
              have hn3 : n3 ≤ 131072 := by have := hok.1.len; have := hn.out; have := hm.out; omega
              have HL : Hid (L.length = n3) := hL
              have HO : Hid (LcmOK xs ys L mg) := hok
              have HI : Hid (Incr L) := hok.1.inc
              clear hL hok
              go_wp2_with fail
              refine (loopsIncreasing_any a3 n3 c3 L _ HL (by omega) hp3).mono ?_
              rintro e w6 ⟨⟨r, rfl, hr⟩, ⟨q3, hq3⟩⟩
              obtain rfl : r = true := hr.2 HI.out
              clear hr
              have hbq : Below w5.heap.size w5 w6 := by rw [hq3]; exact below_drewN (Below.refl _ _) _
              have hpX := hp4.below hbq
              have hpY := hq4.below hbq
              have hpL := hp3.below hbq
              have hbX := hb6.trans (hbq.mono hb6.size)
              clear hp4 hq4 hp3 hbq hb6 hq3
              go_wp2_with fail
              go_loop [7] (fun k => ∃ j : Nat, j ≤ n3 ∧ k = .int .i64 j) (fun k => n3 - (intOf k).toNat)
              case atStart => exact ⟨0, by omega, rfl⟩
              case round =>
                obtain ⟨j, hj, rfl⟩ := hrel
                by_cases hlt : j < n3
                · obtain ⟨b3, off3, rfl, hbl3, d0, d1⟩ := hpL j (by have := HL.out; omega)
                  have hl : (j : Int) < (n3 : Int) := by omega
                  go_wp2_with fail
                  refine (findLoop_any a1 n c1 xs _ _ hn (by omega) hpX ix).mono ?_
                  rintro e w7 ⟨⟨ta, okA, rfl, hfA⟩, hw7⟩
                  subst hw7
                  have HA : Hid (Found xs (P1 L j) ta okA) := hfA
                  clear hfA
                  go_wp2_with fail
                  refine (findLoop_any a2 m c2 ys _ _ hm (by omega) hpY iy).mono ?_
                  rintro e w8 ⟨⟨tb, okB, rfl, hfB⟩, hw8⟩
                  subst hw8
                  have HB : Hid (Found ys (P1 L j) tb okB) := hfB
                  clear hfB
                  have hgood := HO.out.1.good j (by have := HL.out; omega)
                  cases okA with
                  | true =>
                    cases okB with
                    | true =>
                      have hg := good_AB ix.out iy.out hgood HA.out HB.out
                      clear hgood
                      by_cases ht : ta < tb
                      · have he : (P2 L j != tb) = false := by simp [hg.1 ht]
                        clear hg
                        go_wp2
                        go_round
                        case rel => exact ⟨j + 1, by omega, by go_num⟩
                        case measure => simp [intOf]; omega
                      · have he : (P2 L j != ta) = false := by simp [hg.2 ht]
                        clear hg
                        go_wp2
                        go_round
                        case rel => exact ⟨j + 1, by omega, by go_num⟩
                        case measure => simp [intOf]; omega
                    | false =>
                      have hg := good_A ix.out hgood HA.out HB.out
                      have he : (P2 L j != ta) = false := by simp [hg]
                      clear hgood hg
                      go_wp2
                      go_round
                      case rel => exact ⟨j + 1, by omega, by go_num⟩
                      case measure => simp [intOf]; omega
                  | false =>
                    cases okB with
                    | true =>
                      have hg := good_B iy.out hgood HA.out HB.out
                      have he : (P2 L j != tb) = false := by simp [hg]
                      clear hgood hg
                      go_wp2
                      go_round
                      case rel => exact ⟨j + 1, by omega, by go_num⟩
                      case measure => simp [intOf]; omega
                    | false => exact (good_none hgood HA.out HB.out).elim
                · have hl : ¬ (j : Int) < (n3 : Int) := by omega
                  go_wp2_with fail
                  clear hj hlt hl
                  go_loop [13] (fun k => ∃ j : Nat, j ≤ n ∧ k = .int .i64 j) (fun k => n - (intOf k).toNat)
                  case atStart => exact ⟨0, by omega, rfl⟩
                  case round =>
                    obtain ⟨k, hk, rfl⟩ := hrel
                    by_cases hlt : k < n
                    · obtain ⟨b3, off3, rfl, hbl3, d0, d1⟩ := hpX k (by have := hn.out; omega)
                      have hl : (k : Int) < (n : Int) := by omega
                      go_wp2_with fail
                      refine (findLoop_any a3 n3 c3 L _ _ HL (by omega) hpL HI).mono ?_
                      rintro e w7 ⟨⟨ta, ok, rfl, hf⟩, hw7⟩
                      subst hw7
                      obtain rfl : ok = true := found_has hf (HO.out.1.hasX k (by have := hn.out; omega))
                      clear hf
                      go_wp2
                      go_round
                      case rel => exact ⟨k + 1, by omega, by go_num⟩
                      case measure => simp [intOf]; omega
                    · have hl : ¬ (k : Int) < (n : Int) := by omega
                      go_wp2_with fail
                      clear hk hlt hl
                      go_loop [16] (fun k => ∃ j : Nat, j ≤ m ∧ k = .int .i64 j) (fun k => m - (intOf k).toNat)
                      case atStart => exact ⟨0, by omega, rfl⟩
                      case round =>
                        obtain ⟨k, hk, rfl⟩ := hrel
                        by_cases hlt : k < m
                        · obtain ⟨b3, off3, rfl, hbl3, d0, d1⟩ := hpY k (by have := hm.out; omega)
                          have hl : (k : Int) < (m : Int) := by omega
                          go_wp2_with fail
                          refine (findLoop_any a3 n3 c3 L _ _ HL (by omega) hpL HI).mono ?_
                          rintro e w7 ⟨⟨ta, ok, rfl, hf⟩, hw7⟩
                          subst hw7
                          obtain rfl : ok = true := found_has hf (HO.out.1.hasY k (by have := hm.out; omega))
                          clear hf
                          go_wp2
                          go_round
                          case rel => exact ⟨k + 1, by omega, by go_num⟩
                          case measure => simp [intOf]; omega
                        · have hl : ¬ (k : Int) < (m : Int) := by omega
                          go_wp2_with fail
                          refine (equalLoops_any a3 a1 n3 n c3 c1 L xs _ HL hn (by omega) (by omega) hpL hpX).mono ?_
                          rintro e w7 ⟨⟨r1, rfl, hr1⟩, hq7⟩
                          have hb7 : Below w6.heap.size w6 w7 := hq7.below
                          have hpL7 := hpL.below hb7
                          have hpY7 := hpY.below hb7
                          have hbY := hbX.trans (hb7.mono hbX.size)
                          clear hpL hpX hpY hbX hb7 hq7
                          cases r1 with
                          | true =>
                            obtain rfl : mg = false := by
                              cases mg with
                              | false => rfl
                              | true => exact absurd (hr1.1 rfl) (HO.out.2.1 rfl).1
                            clear hr1
                            go_wp2
                            go_ret
                            exact ⟨rfl, hbY⟩
                          | false =>
                            go_wp2_with fail
                            refine (equalLoops_any a3 a2 n3 m c3 c2 L ys _ HL hm (by omega) (by omega) hpL7 hpY7).mono ?_
                            rintro e w8 ⟨⟨r2, rfl, hr2⟩, hq8⟩
                            have hbZ := hbY.trans ((hq8.below (B := w7.heap.size)).mono hbY.size)
                            have hmg := merged_iff HO.out hr1 hr2
                            clear hr1 hr2 hq8 hpL7 hpY7
                            cases mg <;> cases r2 <;> simp at hmg
                            all_goals
                              go_wp2
                              go_ret
                              exact ⟨rfl, hbZ⟩
        · go_wp2_with fail
          go_ret
          exact ⟨rfl, Below.refl _ _⟩
      · go_wp2_with fail
        go_ret
        exact ⟨rfl, Below.refl _ _⟩
    · go_wp2_with fail
      go_ret
      exact ⟨rfl, Below.refl _ _⟩
end Go.Proofs.Qxb6601200a
