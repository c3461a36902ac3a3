import Derived.Test.Qxb6601200aPrLaw
set_option linter.unusedSimpArgs false
set_option linter.unusedVariables false
namespace Go.Proofs.Qxb6601200a
open Go.RowKit

set_option maxRecDepth 100000 in
set_option maxHeartbeats 4000000 in
theorem idemLaw_walk (a ga pa : Option Addr) (n m l cap gcap pcap : Nat) (ps : List Pat) (gs zs : List Int) (w : World) (HN : Hid (ps.length = n)) (HM : Hid (gs.length = m)) (HZ : Hid (zs.length = l)) (h1 : n ≤ maxLen) (h2 : m ≤ maxLen) (h3 : l ≤ maxLen)
    (hp : Pats w a ps) (hz : ∀ i, i < n → (ptx ps i).size ≤ maxLen) (hg : Ints .i64 w ga gs) (hgw : ∀ i, i < m → -9223372036854775808 ≤ iat gs i ∧ iat gs i ≤ 9223372036854775807) (hq : Ints .i64 w pa zs) (hqw : ∀ i, i < l → -9223372036854775808 ≤ iat zs i ∧ iat zs i ≤ 9223372036854775807) :
    Calls Try.prog 8 #[.slice a n cap, .slice ga m gcap, .slice pa l pcap] w fun e w' => e = .returned (.bool true) ∧ Below w.heap.size w w' := by
  clear hqw
  go_enter Try.func8, Try.ntmps8
  go_wp2_with fail
  refine (zzBytes34_any a ga n m cap gcap pa l pcap ps _ HN h1 h2 h3 hp hz).mono ?_
  rintro e w' ⟨⟨r, rfl, hr⟩, hw⟩
  subst hw
  clear hz
  unfold maxLen at h1 h2 h3
  cases r with
  | false =>
    clear hr
    go_wp2_with fail
    go_ret
    exact ⟨rfl, Below.refl _ _⟩
  | true =>
    have hsum := hr rfl
    clear hr
    by_cases hn1 : n ≤ 65536
    · by_cases hm1 : m ≤ 65536
      · by_cases hl1 : l ≤ 65536
        · go_wp2_with fail
          refine (patternBytes_any a n cap ps _ HN (by omega) hp (by omega)).mono ?_
          rintro e w1 ⟨⟨t, rfl, ht0, ht1⟩, hw⟩
          subst hw
          by_cases hts : t + 8 * (m : Int) + 8 * (l : Int) ≤ 1048576
          · go_wp2_with fail
            refine (pruneDomain_any ga n m gcap gs _ HM (by omega) (by omega) hg).mono ?_
            rintro e w2 ⟨⟨r, rfl, hr⟩, hw⟩
            subst hw
            cases r with
            | false =>
              clear hr
              go_wp2_with fail
              go_ret
              exact ⟨rfl, Below.refl _ _⟩
            | true =>
              obtain ⟨hnm, hdom⟩ := hr.1 rfl
              have HGS : Hid (∀ i, i < m → -9223372036854775808 ≤ iat gs i ∧ iat gs i ≤ 65536) := fun i hi => ⟨(hgw i hi).1, (hdom i hi).1⟩
              have HDM : Hid (∀ k, k < n → 0 ≤ iat gs k) := fun k hk => (hdom k (by omega)).2 hk
              clear hr hdom hgw
              go_wp2_with fail
              refine (clonePatterns_any a n cap ps _ HN (by omega) hp).mono ?_
              rintro e w2 ⟨⟨a1, c1, rfl, hp1⟩, hb1⟩
              have hg1 : Ints .i64 w2 ga gs := Row.below hg hb1
              have hq1 : Ints .i64 w2 pa zs := Row.below hq hb1
              clear hp hg hq
              go_wp2_with fail
              refine (cloneInts_any ga m gcap gs _ HM (by omega) hg1).mono ?_
              rintro e w3 ⟨hce, hb2⟩
              obtain ⟨a2, rfl, hg2⟩ := hce.slice HM.out
              have hp2 := hp1.below hb2
              have hq2 : Ints .i64 w3 pa zs := Row.below hq1 hb2
              have hb3 := hb1.trans (hb2.mono hb1.size)
              clear hce hp1 hg1 hq1 hb1 hb2
              go_wp2_with fail
              refine (cloneInts_any pa l pcap zs _ HZ (by omega) hq2).mono ?_
              rintro e w4 ⟨hce, hb4⟩
              have HG3 : Hid (Ints .i64 w3 a2 gs) := hg2
              have hg4 : Ints .i64 w4 a2 gs := Row.below hg2 hb4
              have hp4 := hp2.below hb4
              have hb5 := hb3.trans (hb4.mono hb3.size)
              have hs3 := hb3.size
              obtain ⟨a3, he3, hq4⟩ := hce.slice HZ.out
              have HCE : Hid (CloneEnd w3.heap.size l zs e w4) := hce
              subst he3
              clear hce hg2 hp2 hq2 hb3
              go_wp2_with fail
              refine (split_any a1 n c1 ps _ HN (by omega) hp4).mono ?_
              rintro e w5 ⟨⟨x1, x2, x3, rfl, hs1, hs2, hs5⟩, hb6⟩
              have hg5 : Ints .i64 w5 a2 gs := Row.below hg4 hb6
              have hq5 : Ints .i64 w5 a3 zs := Row.below hq4 hb6
              have hb7 := hb5.trans (hb6.mono hb5.size)
              have HB6 : Hid (Below w4.heap.size w4 w5) := hb6
              clear hp4 hg4 hq4 hb6
              go_wp2_with fail
              refine (zzCompile_any x1 x2 x3 a2 n m n n n m ps gs _ HN HM (by omega) (by omega) (by omega) hs1 hs2 hs5 hg5 HGS.out).mono ?_
              rintro e w6 ⟨hce, hb8⟩
              obtain ⟨aat, aow, afi, afo, acu, am, ase, awh, N, cl, cc, mm, HMM, rfl, rd⟩ := hce.out
              have HML : Hid ((atTo ps n).length = mm) := HMM
              have hmm : mm ≤ 4194304 := by
                have := atTo_len ps n; have h4 : tlen ps = tlenTo ps n := by unfold tlen; rw [HN.out]
                have := HML.out; omega
              have r1 := hs1.below hb8
              have r2 := hs2.below hb8
              have r3 := hs5.below hb8
              have hg6 : Ints .i64 w6 a2 gs := Row.below hg5 hb8
              have hq6 : Ints .i64 w6 a3 zs := Row.below hq5 hb8
              have HB8 : Hid (Below w4.heap.size w4 w6) := HB6.out.trans (hb8.mono HB6.out.size)
              have hb9 := hb7.trans (hb8.mono hb7.size)
              clear hce rd HMM hs1 hs2 hs5 hg5 hq5 hb7 hb8 HB6
              go_wp2_with fail
              refine (increasing_any a3 l mm l zs _ HZ (by omega) hmm hq6).mono ?_
              rintro e w7 ⟨⟨r, rfl, hr⟩, hqu⟩
              have q7 : Below w6.heap.size w6 w7 := hqu.below
              cases r with
              | false =>
                clear hr
                go_wp2_with fail
                go_ret
                exact ⟨rfl, hb9.trans (q7.mono hb9.size)⟩
              | true =>
                obtain ⟨L, hzL, hlL, hinc, hlt⟩ := incOk_nat HZ.out (hr.1 rfl)
                clear hr hqu hq6
                subst hzL
                have HLL : Hid (L.length = l) := hlL
                have HINC : Hid (Incs L) := hinc
                have HLT : Hid (∀ k, k < l → nat L k < (atTo ps n).length) := fun k hk => by rw [HML.out]; exact hlt k hk
                clear hlL hinc hlt
                obtain ⟨wa, hew, hpos4, hwb⟩ := PosIn.of_clone HCE.out
                obtain rfl : a3 = wa := by injection hew with e1; injection e1
                have hpos7 := (hpos4.below HB8.out).below q7
                have r17 := r1.below q7
                have r27 := r2.below q7
                have r37 := r3.below q7
                have hg7 : Ints .i64 w7 a2 gs := Row.below hg6 q7
                have hb10 := hb9.trans (q7.mono hb9.size)
                have hsep : ∀ b off g, 0 < m → a2 = some ⟨b, off, none⟩ → a3 = some g → b ≠ g.block := fun b off g hm e1 e2 => by
                  obtain ⟨b', off', e3, h4, _⟩ := HG3.out 0 (by rw [HM.out]; exact hm)
                  rw [e1] at e3
                  simp only [Option.some.injEq, Addr.mk.injEq, and_true] at e3
                  obtain ⟨rfl, rfl⟩ := e3
                  have := (hwb g e2).1
                  omega
                clear hew hpos4 r1 r2 r3 hg6 q7 hb9
                go_wp2_with fail
                refine (zzPrune_any x1 x2 x3 a2 a3 n m l n n n m ps gs L _ HN HM (by omega) (by omega) (by omega) (by omega) r17 r27 r37 hg7 HGS.out hnm HDM.out HLL HINC.out HLT.out hpos7 hsep).mono ?_
                rintro e w8 ⟨hpr, haw⟩
                have HID : Hid (keptOf ps gs n (keptOf ps gs n L) = keptOf ps gs n L) := keptOf_idem ps gs n L
                have HKI : Hid (Incs (keptOf ps gs n L)) := HINC.out.filter _
                have HKM : Hid (∀ x ∈ keptOf ps gs n L, x < (atTo ps n).length) := fun x hx => by
                  obtain ⟨k, hk, e⟩ := mem_nat (List.mem_filter.1 hx).1
                  rw [← e]; exact HLT.out k (by rw [← HLL.out]; exact hk)
                have hkl := hpr.choose_spec.2.1.len
                obtain ⟨rfl, hk8⟩ := hpr.ints
                have r18 := row_away r17 haw (posIn_ne hpos7 r17 (fun v h => by cases h))
                have r28 := row_away r27 haw (posIn_ne hpos7 r27 (fun v h => by cases h))
                have r38 := row_away r37 haw (posIn_ne hpos7 r37 (fun v h => by cases h))
                have hg8 : Ints .i64 w8 a2 gs := row_away hg7 haw (fun b off g h => hsep b off g (by rw [← HM.out]; exact h))
                have hb11 := hb10.trans (haw.below hb10.size (fun g e => by have := (hwb g e).1; omega))
                generalize keptOf ps gs n L = K at *
                obtain ⟨kl, hkl2⟩ : ∃ kl, K.length = kl := ⟨_, rfl⟩
                rw [hkl2] at hkl
                rw [hkl2]
                have HKL : Hid (K.length = kl) := hkl2
                have HKO : Hid ((ofN K).length = kl) := by show _ = _; rw [ofN_len]; exact hkl2
                clear hkl2 hpr haw hpos7 r17 r27 r37 hg7 hb10
                go_wp2_with fail
                refine (cloneInts_any a3 kl l (ofN K) _ HKO (by omega) hk8).mono ?_
                rintro e w9 ⟨hce, hb12⟩
                obtain ⟨wb, rfl, hpos9, hwb9⟩ := PosIn.of_clone hce
                have r19 := r18.below hb12
                have r29 := r28.below hb12
                have r39 := r38.below hb12
                have hg9 : Ints .i64 w9 a2 gs := Row.below hg8 hb12
                have hk9 : Ints .i64 w9 a3 (ofN K) := Row.below hk8 hb12
                have hb13 := hb11.trans (hb12.mono hb11.size)
                have hsep9 : ∀ b off g, 0 < m → a2 = some ⟨b, off, none⟩ → wb = some g → b ≠ g.block := fun b off g hm e1 e2 => by
                  obtain ⟨b', off', e3, h4, _⟩ := hg8 0 (by rw [HM.out]; exact hm)
                  rw [e1] at e3
                  simp only [Option.some.injEq, Addr.mk.injEq, and_true] at e3
                  obtain ⟨rfl, rfl⟩ := e3
                  have := (hwb9 g e2).1
                  omega
                have hsepK : ∀ b off g, 0 < (ofN K).length → a3 = some ⟨b, off, none⟩ → wb = some g → b ≠ g.block := fun b off g hm e1 e2 => by
                  obtain ⟨b', off', e3, h4, _⟩ := hk8 0 hm
                  rw [e1] at e3
                  simp only [Option.some.injEq, Addr.mk.injEq, and_true] at e3
                  obtain ⟨rfl, rfl⟩ := e3
                  have := (hwb9 g e2).1
                  omega
                have hlb := hb11.size
                clear hce r18 r28 r38 hg8 hk8 hb11 hb12 hsep
                go_wp2_with fail
                refine (zzPrune_any x1 x2 x3 a2 wb n m kl n n n m ps gs K _ HN HM (by omega) (by omega) (by omega) (by omega) r19 r29 r39 hg9 HGS.out hnm HDM.out HKL HKI.out (fun k hk => HKM.out _ (nat_mem (by rw [HKL.out]; exact hk))) hpos9 hsep9).mono ?_
                rintro e w10 ⟨hpr, haw⟩
                rw [HID.out] at hpr
                obtain ⟨rfl, hk10⟩ := hpr.ints
                have hj10 : Ints .i64 w10 a3 (ofN K) := row_away hk9 haw hsepK
                have hb14 := hb13.trans (haw.below hb13.size (fun g e => by have := (hwb9 g e).1; omega))
                rw [HKL.out]
                clear hpr haw hpos9 r19 r29 r39 hg9 hk9 hb13 hsep9 hsepK
                go_wp2_with fail
                refine (equalInts_any a3 wb kl kl l kl (ofN K) (ofN K) _ HKO HKO (by omega) (by omega) hj10 hk10).mono ?_
                rintro e w11 ⟨⟨r1, rfl, hr1⟩, hq1⟩
                obtain rfl : r1 = true := hr1.2 rfl
                have b1 : Below w10.heap.size w10 w11 := hq1.below
                have hb15 := hb14.trans (b1.mono hb14.size)
                clear hr1 hq1 b1 hj10 hk10 hb14
                go_wp2
                go_ret
                exact ⟨rfl, hb15⟩
          · go_wp2_with fail
            go_ret
            exact ⟨rfl, Below.refl _ _⟩
        · go_wp2_with fail
          go_ret
          exact ⟨rfl, Below.refl _ _⟩
      · go_wp2_with fail
        go_ret
        exact ⟨rfl, Below.refl _ _⟩
    · go_wp2_with fail
      go_ret
      exact ⟨rfl, Below.refl _ _⟩
end Go.Proofs.Qxb6601200a
