import Derived.Test.Qxb6601200aRendPlain
set_option linter.unusedSimpArgs false
set_option linter.unusedVariables false
namespace Go.Proofs.Qxb6601200a
open Go.RowKit

def cutList (at' fi ow : List Int) : List Int := if fields at' = true then (List.range at'.length).map (cutAt at' fi ow) else []
theorem CutR.ints {W : World} {ao : Option Addr} {cl : Nat} {at' fi ow : List Int} (h : CutR W ao cl at' fi ow) : (cutList at' fi ow).length = cl ∧ Ints .i64 W ao (cutList at' fi ow) ∧ ao.isNone = !fields at' := by
  rcases h with ⟨h1, h2, h3⟩ | ⟨h1, h2, h3, h4⟩
  · have e : cutList at' fi ow = [] := by simp [cutList, h1]
    rw [e, h1, h2]
    exact ⟨h3.symm, fun i hi => by simp at hi, rfl⟩
  · have e : cutList at' fi ow = (List.range at'.length).map (cutAt at' fi ow) := by simp [cutList, h1]
    rw [e, h1, h2]
    refine ⟨by simp [h3], ?_, rfl⟩
    have hl : ((List.range at'.length).map (cutAt at' fi ow)).length = at'.length := by simp
    unfold Ints
    rw [hl]
    exact h4.congr fun i hi => by simp [iat, hi]

set_option maxRecDepth 100000 in
set_option maxHeartbeats 4000000 in
theorem rendLaw_walk (a ga : Option Addr) (n m cap gcap : Nat) (ps : List Pat) (gs : List Int) (w : World) (HN : Hid (ps.length = n)) (HM : Hid (gs.length = m)) (h1 : n ≤ maxLen) (h2 : m ≤ maxLen)
    (hp : Pats w a ps) (hz : ∀ i, i < n → (ptx ps i).size ≤ maxLen) (hg : Ints .i64 w ga gs) (hgw : ∀ i, i < m → -9223372036854775808 ≤ iat gs i ∧ iat gs i ≤ 9223372036854775807) :
    Calls Try.prog 6 #[.slice a n cap, .slice ga m gcap] w fun e w' => e = .returned (.bool true) ∧ Below w.heap.size w w' := by
  go_enter Try.func6, Try.ntmps6
  go_wp2_with fail
  refine (zzBytes26_any a ga n m cap gcap ps _ HN h1 h2 hp hz).mono ?_
  rintro e w' ⟨⟨r, rfl, hr⟩, hw⟩
  subst hw
  clear hz
  unfold maxLen at h1 h2
  cases r with
  | false =>
    clear hr
    go_wp2_with fail
    go_ret
    exact ⟨rfl, Below.refl _ _⟩
  | true =>
    have hsum := hr rfl
    clear hr
    by_cases hn1 : n ≤ 65536
    · by_cases hm1 : m ≤ 65536
      · go_wp2_with fail
        refine (patternBytes_any a n cap ps _ HN (by omega) hp (by omega)).mono ?_
        rintro e w1 ⟨⟨t, rfl, ht0, ht1⟩, hw⟩
        subst hw
        by_cases hts : t + 8 * (m : Int) ≤ 1048576
        · go_wp2_with fail
          go_loop [5] (fun k => ∃ j : Nat, j ≤ m ∧ k = .int .i64 j ∧ ∀ i, i < j → iat gs i ≤ 65536) (fun k => m - (intOf k).toNat)
          case atStart => exact ⟨0, by omega, rfl, fun i h => by omega⟩
          case round =>
            obtain ⟨j, hj, rfl, hle⟩ := hrel
            by_cases hlt : j < m
            · obtain ⟨b, off, rfl, hbl, d0⟩ := hg j (by have := HM.out; omega)
              have hl : (j : Int) < (m : Int) := by omega
              have HLE : Hid (∀ i, i < j → iat gs i ≤ 65536) := hle
              clear hle hp hgw
              by_cases hx : iat gs j ≤ 65536
              · go_wp2
                go_round
                case rel => exact ⟨j + 1, by omega, by go_num, fun i hi => by
                  by_cases e : i = j
                  · subst e; exact hx
                  · exact HLE.out i (by omega)⟩
                case measure => simp [intOf]; omega
              · go_wp2
                go_ret
                exact ⟨rfl, Below.refl _ _⟩
            · have hl : ¬ (j : Int) < (m : Int) := by omega
              obtain rfl : j = m := by omega
              have hgs : ∀ i, i < j → -9223372036854775808 ≤ iat gs i ∧ iat gs i ≤ 65536 := fun i hi => ⟨(hgw i hi).1, hle i hi⟩
              have HGS : Hid (∀ i, i < j → -9223372036854775808 ≤ iat gs i ∧ iat gs i ≤ 65536) := hgs
              clear hle hgw hgs hj hlt
              go_wp2_with fail
              refine (clonePatterns_any a n cap ps _ HN (by omega) hp).mono ?_
              rintro e w2 ⟨⟨a1, c1, rfl, hp1⟩, hb1⟩
              have hg1 : Ints .i64 w2 ga gs := Row.below hg hb1
              clear hp hg
              go_wp2_with fail
              refine (cloneInts_any ga j gcap gs _ HM (by omega) hg1).mono ?_
              rintro e w3 ⟨hce, hb2⟩
              obtain ⟨a2, rfl, hg2⟩ := hce.slice HM.out
              have hp2 := hp1.below hb2
              have hb3 := hb1.trans (hb2.mono hb1.size)
              clear hce hp1 hg1 hb1 hb2
              go_wp2_with fail
              refine (split_any a1 n c1 ps _ HN (by omega) hp2).mono ?_
              rintro e w4 ⟨⟨a3, a4, a5, rfl, hs1, hs2, hs3⟩, hb4⟩
              have hg4 : Ints .i64 w4 a2 gs := Row.below hg2 hb4
              have hb5 := hb3.trans (hb4.mono hb3.size)
              clear hp2 hg2 hb3 hb4
              go_wp2_with fail
              refine (zzCompile_any a3 a4 a5 a2 n j n n n j ps gs _ HN HM (by omega) (by omega) (by omega) hs1 hs2 hs3 hg4 HGS.out).mono ?_
              rintro e w5 ⟨hce, hb6⟩
              obtain ⟨aat, aow, afi, afo, acu, am, ase, awh, N, cl, cc, mm, HMM, rfl, rd⟩ := hce.out
              have hs5 : Row w5 a4 n (fun i => .bool (pfo ps i)) := hs2.below hb6
              have hg5 : Ints .i64 w5 a2 gs := Row.below hg4 hb6
              have hb7 := hb5.trans (hb6.mono hb5.size)
              clear hce hs1 hs2 hs3 hg4 hb5 hb6
              have HML : Hid ((atTo ps n).length = mm) := HMM
              clear HMM
              have htl : tlen ps = tlenTo ps n := by unfold tlen; rw [HN.out]
              have hmm : mm ≤ 4194304 := by have := atTo_len ps n; have := HML.out; omega
              have hts4 := tlen_rendPs ps n HN.out
              clear htl
              have hm1 := make_run 38 9 _ 1 16 Try.underlying38 Try.info9 n (by omega) (by omega)
              have hm2 := make_run 39 4 _ 1 1 Try.underlying39 Try.info4 n (by omega) (by omega)
              simp only [Nat.mul_one] at hm1 hm2
              go_wp2_with fail
              obtain ⟨qs, hqs⟩ : ∃ qs, qs = rendPs ps n := ⟨_, rfl⟩
              have HQ : Hid (qs = rendPs ps n) := hqs
              rw [← hqs] at hts4
              clear hqs
              have HQN : Hid (qs.length = n) := by show _ = _; rw [HQ.out]; exact rendPs_len ps n
              go_loopw [23] (fun k wr => ∃ i : Nat, i ≤ n ∧ k = .int .i64 i ∧ Below w5.heap.size w5 wr ∧ RowN wr w5.heap.size 9 n i (fun i => .string (ptx qs i)) ∧ RowN wr (w5.heap.size + 1) 4 n n (fun _ => .bool false)) (fun k _ => n - (intOf k).toNat)
              case atStart =>
                refine ⟨0, by omega, rfl, ((Below.refl _ _).alloc (Nat.le_refl _) _).alloc (by simp) _, (RowN.start _ _ _ _ _).alloc _, ?_⟩
                have := RowN.zero (w5.alloc (.cells (zeros (.string ByteArray.empty) n) 9)) (.bool false) rfl 4 n
                simpa using this
              case round =>
                obtain ⟨i, hi, rfl, hb, hrR, hrP⟩ := hrel
                by_cases hlt : i < n
                · have hat := Row.below rd.at' hb
                  have hfi := Row.below rd.fi hb
                  obtain ⟨F, hF⟩ : ∃ F, startOf ps i = F := ⟨_, rfl⟩
                  obtain ⟨E, hE⟩ : ∃ E, startOf ps (i + 1) = E := ⟨_, rfl⟩
                  have hEF : E = F + (tokI ps i).length + 1 := by rw [← hF, ← hE]; exact startOf_succ ps i
                  have hEm : E ≤ mm := by rw [← hE, ← HML.out]; exact atTo_mono ps (by omega)
                  obtain ⟨b1, off1, rfl, hbl1, d1⟩ := Ints.get hfi (i := i) (v := (F : Int)) (by rw [fiTo_len]; exact hlt) (by rw [fiTo_at ps n i hlt, hF])
                  obtain ⟨b2, off2, rfl, hbl2, d2⟩ := Ints.get hat (i := E - 1) (v := -1) (by rw [HML.out]; omega) (by
                    have e := atTo_end ps n i hlt
                    rw [hF, show F + (tokI ps i).length = E - 1 by omega] at e
                    exact e)
                  have hE1 : 1 ≤ E := by omega
                  have hFE : F < E := by omega
                  have HEF : Hid (E = F + (tokI ps i).length + 1) := hEF
                  have HF : Hid (startOf ps i = F) := hF
                  have l1 : (i : Int) < (n : Int) := by omega
                  have l2 : decide ((F : Int) < 0) = false := decide_eq_false (by omega)
                  have l3 : decide ((E : Int) ≤ (F : Int)) = false := decide_eq_false (by omega)
                  have l4 : decide ((mm : Int) < (E : Int)) = false := decide_eq_false (by omega)
                  have l5 : (1 : Int) ≤ (E : Int) := by omega
                  have hsz := hb.size
                  have htok : ∀ q, F + q < E - 1 → isTok (iat (atTo ps n) (F + q)) := fun q hq => by
                    have e := atTo_at ps n i q hlt (by omega)
                    rw [hF] at e
                    rw [e]; exact tokI_tok ps i _ (iat_mem (by omega))
                  have HRE : Hid (rendTo (atTo ps n) F (tokI ps i).length = rend (tokI ps i)) := by show _ = _; rw [← hF]; exact rendTo_tok ps n i hlt
                  have HQX : Hid (ptx qs i = runesBytes (rend (tokI ps i))) := by show _ = _; rw [HQ.out]; exact (rendPs_at ps n i hlt).1
                  have HEE : Hid (startOf ps (i + 1) = E) := hE
                  clear hF hE hEF
                  by_cases hi1 : i + 1 < n
                  · obtain ⟨b3, off3, e3, hbl3, d3⟩ := Ints.get hfi (i := i + 1) (v := (E : Int)) (by rw [fiTo_len]; exact hi1) (by rw [fiTo_at ps n (i + 1) hi1, HEE.out])
                    simp only [Option.some.injEq, Addr.mk.injEq, and_true] at e3
                    obtain ⟨rfl, rfl⟩ := e3
                    have l6 : (i : Int) + 1 < (n : Int) := by omega
                    go_upto_region 27 with (fail)
                    go_wp2_with fail
                    rw [show ((E : Int) - 1) = ((E - 1 : Nat) : Int) from by omega]
                    have hdd : Hid (E - 1 = F + (tokI ps i).length) := by show _ = _; have := HEF.out; omega
                    refine (render_any (some ⟨b2, off2, none⟩) mm N F (E - 1) (tokI ps i).length (atTo ps n) _ HML hdd (by omega) (by omega) hmm hat htok).mono ?_
                    rintro e w6 ⟨he, hb8⟩
                    rw [HRE.out, ← HQX.out] at he
                    unfold RendEnd at he
                    subst he
                    have hb9 := hb.trans (hb8.mono hb.size)
                    have hrR2 := hrR.below hb8 (by have := hrR.lt; omega)
                    have hrP2 := hrP.below hb8 (by have := hrP.lt; omega)
                    obtain ⟨u, x0⟩ := hrR2.cell hlt
                    have z0 := hrR2.frozen i
                    clear hb8 hrR hrP hat hfi htok d1 d2 d3
                    go_upto_region 32 with (fail)
                    go_wp2
                    go_roundw
                    case rel => exact ⟨i + 1, by omega, by go_num, hb9.setCell (Nat.le_refl _) _, hrR2.step, hrP2.setOther (by simp) _⟩
                    case measure => simp [intOf]; omega
                  · have l6 : ¬ (i : Int) + 1 < (n : Int) := by omega
                    obtain rfl : E = mm := by rw [← HEE.out, ← HML.out]; rw [show i + 1 = n by omega]; rfl
                    go_upto_region 27 with (fail)
                    go_upto_region 29 with (fail)
                    go_wp2_with fail
                    rw [show ((E : Int) - 1) = ((E - 1 : Nat) : Int) from by omega]
                    have hdd : Hid (E - 1 = F + (tokI ps i).length) := by show _ = _; have := HEF.out; omega
                    refine (render_any (some ⟨b2, off2, none⟩) E N F (E - 1) (tokI ps i).length (atTo ps n) _ HML hdd (by omega) (by omega) hmm hat htok).mono ?_
                    rintro e w6 ⟨he, hb8⟩
                    rw [HRE.out, ← HQX.out] at he
                    unfold RendEnd at he
                    subst he
                    have hb9 := hb.trans (hb8.mono hb.size)
                    have hrR2 := hrR.below hb8 (by have := hrR.lt; omega)
                    have hrP2 := hrP.below hb8 (by have := hrP.lt; omega)
                    obtain ⟨u, x0⟩ := hrR2.cell hlt
                    have z0 := hrR2.frozen i
                    clear hb8 hrR hrP hat hfi htok d1 d2
                    go_upto_region 32 with (fail)
                    go_wp2
                    go_roundw
                    case rel => exact ⟨i + 1, by omega, by go_num, hb9.setCell (Nat.le_refl _) _, hrR2.step, hrP2.setOther (by simp) _⟩
                    case measure => simp [intOf]; omega
                · obtain rfl : i = n := by omega
                  have l1 : ¬ (i : Int) < (i : Int) := by omega
                  have hrow1 : Row wr (some ⟨w5.heap.size, 0, none⟩) i (fun k => .string (ptx qs k)) := hrR.row (Nat.le_refl _) (Nat.le_refl _)
                  have hrow2 : Row wr a4 i (fun k => .bool (pfo qs k)) := (hs5.below hb).congr fun k hk => by rw [HQ.out, (rendPs_at ps i k hk).2.1]
                  have hrow3 : Row wr (some ⟨w5.heap.size + 1, 0, none⟩) i (fun k => .bool (pli qs k)) := (hrP.row (Nat.le_refl _) (Nat.le_refl _)).congr fun k hk => by rw [HQ.out, (rendPs_at ps i k hk).2.2]
                  have hgr : Ints .i64 wr a2 gs := Row.below hg5 hb
                  have rd2 := rd.below hb
                  have hb8 := hb7.trans (hb.mono hb7.size)
                  have HAT : Hid (atTo qs i = atTo ps i) := by show _ = _; rw [HQ.out]; exact atTo_congr i (fun k hk => tokI_rendPs ps i k hk)
                  have HOW : Hid (owTo qs i = owTo ps i) := by show _ = _; rw [HQ.out]; exact owTo_congr i (fun k hk => tokI_rendPs ps i k hk)
                  have HFI : Hid (fiTo qs i = fiTo ps i) := by show _ = _; rw [HQ.out]; exact fiTo_congr i (fun k hk => tokI_rendPs ps i k hk)
                  have hq4 : i + tlen qs ≤ 4194304 := by omega
                  clear hrR hrP rd hs5 hg5 hb7 hb hm1 hm2 hi hlt
                  go_wp2_with fail
                  refine (zzCompile_any (some ⟨w5.heap.size, 0, none⟩) a4 (some ⟨w5.heap.size + 1, 0, none⟩) a2 i j i i i j qs gs _ HQN HM hq4 (by omega) (by omega) hrow1 hrow2 hrow3 hgr HGS.out).mono ?_
                  rintro e w6 ⟨hce, hb9⟩
                  obtain ⟨aat2, aow2, afi2, afo2, acu2, am2, ase2, awh2, N2, cl2, cc2, mm2, hmm2, rfl, rd3⟩ := hce.out
                  have rd4 := rd2.below hb9
                  have hb10 := hb8.trans (hb9.mono hb8.size)
                  clear hce hrow1 hrow2 hrow3 hgr rd2 hb8 hb9
                  have hat3 := rd3.at'
                  have how3 := rd3.ow
                  have hfi3 := rd3.fi
                  have hcu3 := rd3.cut
                  rw [HAT.out] at hat3 hcu3 hmm2
                  rw [HOW.out] at how3 hcu3
                  rw [HFI.out] at hfi3 hcu3
                  obtain rfl : mm = mm2 := HML.out.symm.trans hmm2
                  have hcu4 := rd4.cut.ints
                  have hcu5 := hcu3.ints
                  obtain ⟨c1l, hc1, hn1x⟩ := hcu4
                  obtain ⟨c2l, hc2, hn2x⟩ := hcu5
                  obtain rfl : cl = cl2 := c1l.symm.trans c2l
                  have hnil1 := fun w' => Lib.run_eql_slice_nil (P := Try.prog) w' 33 3 acu cl cc 0 0 Try.underlying33
                  have hnil2 := fun w' => Lib.run_eql_slice_nil (P := Try.prog) w' 33 3 acu2 cl cc2 0 0 Try.underlying33
                  rw [hn1x] at hnil1
                  rw [hn2x] at hnil2
                  have hclm : cl ≤ 4194304 := by
                    have : cl ≤ (atTo ps i).length := by rw [← c1l]; unfold cutList; split <;> simp
                    have := HML.out; omega
                  have HC1 : Hid ((cutList (atTo ps i) (fiTo ps i) (owTo ps i)).length = cl) := c1l
                  have HC2 : Hid ((cutList (atTo ps i) (fiTo ps i) (owTo ps i)).length = cl) := c2l
                  have HOL : Hid ((owTo ps i).length = mm) := (owTo_len ps i).trans HML.out
                  have HFL : Hid ((fiTo ps i).length = i) := fiTo_len ps i
                  generalize fields (atTo ps i) = bf at hnil1 hnil2
                  clear c1l c2l hn1x hn2x hcu3 hmm2
                  have qat := rd4.at'
                  have qow := rd4.ow
                  have qfi := rd4.fi
                  clear rd3 rd4
                  go_wp2_with fail
                  refine (equalRunes_any aat aat2 mm mm N N2 (atTo ps i) (atTo ps i) _ HML HML (by omega) (by omega) qat hat3).mono ?_
                  rintro e w7 ⟨⟨r1, rfl, hr1⟩, hq1⟩
                  obtain rfl : r1 = true := hr1.2 rfl
                  have b1 : Below w6.heap.size w6 w7 := hq1.below
                  have qow1 := Row.below qow b1
                  have how1 := Row.below how3 b1
                  have qfi1 := Row.below qfi b1
                  have hfi1 := Row.below hfi3 b1
                  have hc1b := Row.below hc1 b1
                  have hc2b := Row.below hc2 b1
                  have hbb1 := hb10.trans (b1.mono hb10.size)
                  clear hr1 hq1 b1 qat hat3 qow how3 qfi hfi3 hc1 hc2 hb10
                  go_wp2_with fail
                  refine (equalInts_any aow aow2 mm mm N N2 (owTo ps i) (owTo ps i) _ HOL HOL (by omega) (by omega) qow1 how1).mono ?_
                  rintro e w8 ⟨⟨r1, rfl, hr1⟩, hq1⟩
                  obtain rfl : r1 = true := hr1.2 rfl
                  have b1 : Below w7.heap.size w7 w8 := hq1.below
                  have qfi2 := Row.below qfi1 b1
                  have hfi2 := Row.below hfi1 b1
                  have hc1c := Row.below hc1b b1
                  have hc2c := Row.below hc2b b1
                  have hbb2 := hbb1.trans (b1.mono hbb1.size)
                  clear hr1 hq1 b1 qow1 how1 qfi1 hfi1 hc1b hc2b hbb1
                  go_wp2_with fail
                  refine (equalInts_any afi afi2 i i i i (fiTo ps i) (fiTo ps i) _ HFL HFL (by omega) (by omega) qfi2 hfi2).mono ?_
                  rintro e w9 ⟨⟨r1, rfl, hr1⟩, hq1⟩
                  obtain rfl : r1 = true := hr1.2 rfl
                  have b1 : Below w8.heap.size w8 w9 := hq1.below
                  have hc1d := Row.below hc1c b1
                  have hc2d := Row.below hc2c b1
                  have hbb3 := hbb2.trans (b1.mono hbb2.size)
                  clear hr1 hq1 b1 qfi2 hfi2 hc1c hc2c hbb2
                  have hbf : ((!bf) == (!bf)) = true := by simp
                  go_wp2_with fail
                  refine (equalInts_any acu acu2 cl cl cc cc2 _ _ _ HC1 HC2 (by omega) (by omega) hc1d hc2d).mono ?_
                  rintro e w10 ⟨⟨r1, rfl, hr1⟩, hq1⟩
                  obtain rfl : r1 = true := hr1.2 rfl
                  have b1 : Below w9.heap.size w9 w10 := hq1.below
                  have hbb4 := hbb3.trans (b1.mono hbb3.size)
                  clear hr1 hq1 b1 hc1d hc2d hbb3
                  go_wp2
                  go_ret
                  exact ⟨rfl, hbb4⟩
        · go_wp2_with fail
          go_ret
          exact ⟨rfl, Below.refl _ _⟩
      · go_wp2_with fail
        go_ret
        exact ⟨rfl, Below.refl _ _⟩
    · go_wp2_with fail
      go_ret
      exact ⟨rfl, Below.refl _ _⟩
end Go.Proofs.Qxb6601200a
