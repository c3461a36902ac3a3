import Derived.Test.Qxb6601200aTokens
import Derived.Test.Qxb6601200aCutsR
set_option linter.unusedSimpArgs false
set_option linter.unusedVariables false
namespace Go.Proofs.Qxb6601200a
open Go.RowKit

theorem fieldsTo_hit {at' : List Int} {k : Nat} {t : Int} (h : iat at' k = t) (ht : (t == -5) = true ∨ (t == -6) = true) : fieldsTo at' (k + 1) = true := by
  simp only [fieldsTo, h]
  rcases ht with ht | ht <;> simp [ht]
theorem fieldsTo_miss {at' : List Int} {k : Nat} {t : Int} (h : iat at' k = t) (h5 : (t == -5) = false) (h6 : (t == -6) = false) : fieldsTo at' (k + 1) = fieldsTo at' k := by
  simp only [fieldsTo, h, h5, h6, Bool.or_false]
theorem neq_slice_nil (w : World) (t e : TypeId) (a : Option Addr) (n c n' c' : Nat) (h : Try.prog.underlying t = some (.slice e)) :
    (binOp .neq t (.slice a n c) (.slice none n' c')).run Try.prog w = .ok (.bool (!a.isNone)) w := by
  simp only [binOp]
  simp [Op.equal, Op.maxDepth, Lib.run_equalIn_slice_nil w 9999 t e a n c n' c' h]
theorem foTo_at (ps : List Pat) : ∀ k i, i < k → bat (foTo ps k) i = pfo ps i
  | 0, i, h => by omega
  | k + 1, i, h => by
    by_cases e : i < k
    · rw [foTo, bat_app_lt (by rw [foTo_len]; exact e)]; exact foTo_at ps k i e
    · obtain rfl : i = k := by omega
      have := bat_app_last (L := foTo ps i) (v := pfo ps i)
      rw [foTo_len] at this
      rw [foTo, this]

set_option maxRecDepth 100000 in
set_option maxHeartbeats 4000000 in
theorem laysLaw_walk (a ga : Option Addr) (n m cap gcap : Nat) (ps : List Pat) (gs : List Int) (w : World) (HN : Hid (ps.length = n)) (HM : Hid (gs.length = m)) (h1 : n ≤ maxLen) (h2 : m ≤ maxLen)
    (hp : Pats w a ps) (hz : ∀ i, i < n → (ptx ps i).size ≤ maxLen) (hg : Ints .i64 w ga gs) (hgw : ∀ i, i < m → -9223372036854775808 ≤ iat gs i ∧ iat gs i ≤ 9223372036854775807) :
    Calls Try.prog 5 #[.slice a n cap, .slice ga m gcap] w fun e w' => e = .returned (.bool true) ∧ Below w.heap.size w w' := by
  go_enter Try.func5, Try.ntmps5
  go_wp2_with fail
  refine (zzBytes16_any a ga n m cap gcap ps _ HN h1 h2 hp hz).mono ?_
  rintro e w' ⟨⟨r, rfl, hr⟩, hw⟩
  subst hw
  clear hz
  unfold maxLen at h1 h2
  cases r with
  | false =>
    clear hr
    go_wp2_with fail
    go_ret
    exact ⟨rfl, Below.refl _ _⟩
  | true =>
    have hsum := hr rfl
    clear hr
    by_cases hn1 : n ≤ 65536
    · by_cases hm1 : m ≤ 65536
      · go_wp2_with fail
        refine (patternBytes_any a n cap ps _ HN (by omega) hp (by omega)).mono ?_
        rintro e w1 ⟨⟨t, rfl, ht0, ht1⟩, hw⟩
        subst hw
        by_cases hts : t + 8 * (m : Int) ≤ 1048576
        · go_wp2_with fail
          go_loop [5] (fun k => ∃ j : Nat, j ≤ m ∧ k = .int .i64 j ∧ ∀ i, i < j → iat gs i ≤ 65536) (fun k => m - (intOf k).toNat)
          case atStart => exact ⟨0, by omega, rfl, fun i h => by omega⟩
          case round =>
            obtain ⟨j, hj, rfl, hle⟩ := hrel
            by_cases hlt : j < m
            · obtain ⟨b, off, rfl, hbl, d0⟩ := hg j (by have := HM.out; omega)
              have hl : (j : Int) < (m : Int) := by omega
              have HLE : Hid (∀ i, i < j → iat gs i ≤ 65536) := hle
              clear hle hp hgw
              by_cases hx : iat gs j ≤ 65536
              · go_wp2
                go_round
                case rel => exact ⟨j + 1, by omega, by go_num, fun i hi => by
                  by_cases e : i = j
                  · subst e; exact hx
                  · exact HLE.out i (by omega)⟩
                case measure => simp [intOf]; omega
              · go_wp2
                go_ret
                exact ⟨rfl, Below.refl _ _⟩
            · have hl : ¬ (j : Int) < (m : Int) := by omega
              obtain rfl : j = m := by omega
              have hgs : ∀ i, i < j → -9223372036854775808 ≤ iat gs i ∧ iat gs i ≤ 65536 := fun i hi => ⟨(hgw i hi).1, hle i hi⟩
              have HGS : Hid (∀ i, i < j → -9223372036854775808 ≤ iat gs i ∧ iat gs i ≤ 65536) := hgs
              clear hle hgw hgs hj hlt
              go_wp2_with fail
              refine (clonePatterns_any a n cap ps _ HN (by omega) hp).mono ?_
              rintro e w2 ⟨⟨a1, c1, rfl, hp1⟩, hb1⟩
              have hg1 : Ints .i64 w2 ga gs := Row.below hg hb1
              clear hp hg
              go_wp2_with fail
              refine (cloneInts_any ga j gcap gs _ HM (by omega) hg1).mono ?_
              rintro e w3 ⟨hce, hb2⟩
              obtain ⟨a2, rfl, hg2⟩ := hce.slice HM.out
              have hp2 := hp1.below hb2
              have hb3 := hb1.trans (hb2.mono hb1.size)
              clear hce hp1 hg1 hb1 hb2
              go_wp2_with fail
              refine (split_any a1 n c1 ps _ HN (by omega) hp2).mono ?_
              rintro e w4 ⟨⟨a3, a4, a5, rfl, hs1, hs2, hs3⟩, hb4⟩
              have hg4 : Ints .i64 w4 a2 gs := Row.below hg2 hb4
              have hp4 := hp2.below hb4
              have hb5 := hb3.trans (hb4.mono hb3.size)
              clear hp2 hg2 hb3 hb4
              go_wp2_with fail
              refine (zzCompile_any a3 a4 a5 a2 n j n n n j ps gs _ HN HM (by omega) (by omega) (by omega) hs1 hs2 hs3 hg4 HGS.out).mono ?_
              rintro e w5 ⟨hce, hb6⟩
              obtain ⟨aat, aow, afi, afo, acu, am, ase, awh, N, cl, cc, mm, HMM, rfl, rd⟩ := hce.out
              have hg5 : Ints .i64 w5 a2 gs := Row.below hg4 hb6
              have hp5 := hp4.below hb6
              have hb7 := hb5.trans (hb6.mono hb5.size)
              clear hce hs1 hs2 hs3 hg4 hp4 hb5 hb6
              have HML : Hid ((atTo ps n).length = mm) := HMM
              clear HMM
              have htl : tlen ps = tlenTo ps n := by unfold tlen; rw [HN.out]
              have hmm : mm ≤ 4194304 := by have := atTo_len ps n; have := HML.out; omega
              have hgc : gcount gs ≤ 65537 := by
                have := gcTo_le gs 65536 (by omega) (fun i hi => (HGS.out i (by have := HM.out; omega)).2) gs.length (Nat.le_refl _)
                unfold gcount; omega
              have HTL : Hid (∀ i, i < n → (ptx ps i).size ≤ 4194304) := fun i hi => by have := ptx_le_tlen (ps := ps) (i := i) (by have := HN.out; omega); omega
              clear htl
              go_wp2_with fail
              go_loopw [21, 22, 23, 24] (fun p af fl k wr => ∃ i : Nat, i ≤ n ∧ p = .int .i64 ((startOf ps i : Nat) : Int) ∧ af = .bool (clTo ps i) ∧ fl = .bool (fieldsTo (atTo ps n) (startOf ps i)) ∧ k = .int .i64 i ∧ Below w5.heap.size w5 wr) (fun _ _ _ k _ => n - (intOf k).toNat)
              case atStart => exact ⟨0, by omega, rfl, rfl, rfl, rfl, Below.refl _ _⟩
              case round =>
                obtain ⟨i, hi, rfl, rfl, rfl, rfl, hb⟩ := hrel
                by_cases hlt : i < n
                · obtain ⟨F, hF⟩ : ∃ F, startOf ps i = F := ⟨_, rfl⟩
                  obtain ⟨E, hE⟩ : ∃ E, startOf ps (i + 1) = E := ⟨_, rfl⟩
                  have hEF : E = F + (tokI ps i).length + 1 := by rw [← hF, ← hE]; exact startOf_succ ps i
                  have hEm : E ≤ mm := by rw [← hE, ← HML.out]; exact atTo_mono ps (by omega)
                  have HF : Hid (startOf ps i = F) := hF
                  have HEE : Hid (startOf ps (i + 1) = E) := hE
                  rw [hF]
                  clear hF hE
                  obtain ⟨b, off, rfl, hbl, d0, d1, d2⟩ := hp5 i (by have := HN.out; omega)
                  have e0 := (hb.cell hbl).trans d0
                  have e1 := (hb.cell hbl).trans d1
                  have e2 := (hb.cell hbl).trans d2
                  have hz := HTL.out i hlt
                  have l1 : (i : Int) < (n : Int) := by omega
                  obtain ⟨af, haf⟩ : ∃ af, clTo ps i = af := ⟨_, rfl⟩
                  have HAF : Hid (clTo ps (i + 1) = (af && pfo ps i)) := by show _ = _; rw [← haf]; rfl
                  rw [haf]
                  clear haf
                  obtain ⟨fl0, hfl0⟩ : ∃ fl0, fieldsTo (atTo ps n) F = fl0 := ⟨_, rfl⟩
                  have HFL0 : Hid (fieldsTo (atTo ps n) F = fl0) := hfl0
                  rw [hfl0]
                  clear hfl0
                  go_upto_region 25 with (fail)
                  go_cut [25] (fun s25 wx => ∃ ta tn tc, s25 = .slice ta tn tc ∧ (tokI ps i).length = tn ∧ Ints .i32 wx ta (tokI ps i) ∧ Below wr.heap.size wr wx)
                  case first =>
                    have hs := hb.size
                    go_region_with (go_at_call 22; refine (tokens_any (ptx ps i) (pli ps i) _ hz).mono ?_; rintro e w6 ⟨⟨ta, tn, tc, rfl, q1, q2⟩, q3⟩)
                    all_goals
                      go_wp2_with fail
                      go_meet
                      case rel => exact ⟨ta, tn, tc, rfl, q1, q2, by first | exact q3 | exact (below_drewN (Below.refl _ _) _).trans q3 | exact ((Below.refl _ _).drew).trans q3⟩
                  case rest =>
                    obtain ⟨ta, tn, tc, rfl, htn, htk, hb2⟩ := hcut
                    have hb3 := hb.trans (hb2.mono hb.size)
                    rw [htn] at hEF
                    have HTN : Hid ((tokI ps i).length = tn) := htn
                    have f1 := (hb3.cell hbl).trans d1
                    clear htn hb2 hb e0 e1 e2 d0 d1 d2 hz
                    have hat := Row.below rd.at' hb3
                    have how := Row.below rd.ow hb3
                    have hfi := Row.below rd.fi hb3
                    have hfo := Row.below rd.fo hb3
                    obtain ⟨b1, off1, rfl, hbl1, g1⟩ := Ints.get hfi (i := i) (v := (F : Int)) (by rw [fiTo_len]; exact hlt) (by rw [fiTo_at ps n i hlt, HF.out])
                    have l2 : ((F : Int) != (F : Int)) = false := by simp
                    have l3 : decide ((mm : Int) ≤ (F : Int) + (tn : Int)) = false := decide_eq_false (by omega)
                    go_upto_region 28 with (fail)
                    clear g1 hfi
                    go_wp2_with fail
                    go_loopw [23, 26] (fun fl k wx => ∃ q : Nat, q ≤ tn ∧ fl = .bool (fieldsTo (atTo ps n) (F + q)) ∧ k = .int .i64 q ∧ Below wc.heap.size wc wx) (fun _ k _ => tn - (intOf k).toNat)
                    case atStart => exact ⟨0, by omega, by rw [Nat.add_zero, HFL0.out], rfl, Below.refl _ _⟩
                    case round =>
                      obtain ⟨q, hq, rfl, rfl, hb4⟩ := hrel
                      by_cases hql : q < tn
                      · obtain ⟨t, ht⟩ : ∃ t, iat (tokI ps i) q = t := ⟨_, rfl⟩
                        have hta : iat (atTo ps n) (F + q) = t := by rw [← HF.out, atTo_at ps n i q hlt (by rw [HTN.out]; exact hql), ht]
                        have hto : iat (owTo ps n) (F + q) = (i : Int) := owTo_at ps n (F + q) i hlt (by rw [HF.out]; omega) (by rw [HEE.out]; omega)
                        obtain ⟨b2, off2, rfl, hbl2, g2⟩ := Ints.get hat (i := F + q) (by rw [HML.out]; omega) hta
                        obtain ⟨b3, off3, rfl, hbl3, g3⟩ := Ints.get how (i := F + q) (by rw [owTo_len, HML.out]; omega) hto
                        obtain ⟨b4, off4, rfl, hbl4, g4⟩ := Ints.get htk (i := q) (by rw [HTN.out]; exact hql) ht
                        have k2 := (hb4.cell hbl2).trans g2
                        have k3 := (hb4.cell hbl3).trans g3
                        have k4 := (hb4.cell hbl4).trans g4
                        have m1 : (q : Int) < (tn : Int) := by omega
                        have m2 : (F : Int) + (q : Int) < (mm : Int) := by omega
                        have m3 : F + q < mm := by omega
                        have HTA : Hid (iat (atTo ps n) (F + q) = t) := hta
                        obtain ⟨fl1, hfl1⟩ : ∃ fl1, fieldsTo (atTo ps n) (F + q) = fl1 := ⟨_, rfl⟩
                        have HFL1 : Hid (fieldsTo (atTo ps n) (F + q) = fl1) := hfl1
                        rw [hfl1]
                        clear hfl1 ht hta hto g2 g3 g4 hat how htk hfo
                        go_upto_region 31 with (fail)
                        go_quiet (fail)
                        cases h5 : (t == -5) with
                        | true =>
                          have HH : Hid (fieldsTo (atTo ps n) (F + (q + 1)) = true) := fieldsTo_hit HTA.out (.inl h5)
                          go_wp2
                          go_roundw
                          case rel => exact ⟨q + 1, by omega, by rw [HH.out], by go_num, below_drewN hb4 _⟩
                          case measure => simp [intOf]; omega
                        | false =>
                          cases h6 : (t == -6) with
                          | true =>
                            have HH : Hid (fieldsTo (atTo ps n) (F + (q + 1)) = true) := fieldsTo_hit HTA.out (.inr h6)
                            go_wp2
                            go_roundw
                            case rel => exact ⟨q + 1, by omega, by rw [HH.out], by go_num, below_drewN hb4 _⟩
                            case measure => simp [intOf]; omega
                          | false =>
                            have HH : Hid (fieldsTo (atTo ps n) (F + (q + 1)) = fl1) := (fieldsTo_miss HTA.out h5 h6).trans HFL1.out
                            go_wp2
                            go_roundw
                            case rel => exact ⟨q + 1, by omega, by rw [HH.out], by go_num, below_drewN hb4 _⟩
                            case measure => simp [intOf]; omega
                      · obtain rfl : q = tn := by omega
                        have m1 : ¬ (q : Int) < (q : Int) := by omega
                        have hta : iat (atTo ps n) (F + q) = -1 := by rw [← HF.out, ← HTN.out]; exact atTo_end ps n i hlt
                        have hto : iat (owTo ps n) (F + q) = (i : Int) := owTo_at ps n (F + q) i hlt (by rw [HF.out]; omega) (by rw [HEE.out]; omega)
                        obtain ⟨b2, off2, rfl, hbl2, g2⟩ := Ints.get hat (i := F + q) (by rw [HML.out]; omega) hta
                        obtain ⟨b3, off3, rfl, hbl3, g3⟩ := Ints.get how (i := F + q) (by rw [owTo_len, HML.out]; omega) hto
                        obtain ⟨b4, off4, rfl, hbl4, g4⟩ := hfo i (by rw [foTo_len]; exact hlt)
                        replace g4 : wc.cell? ⟨b4, off4 + i, none⟩ = some (.bool (pfo ps i)) := by rw [← foTo_at ps n i hlt]; exact g4
                        have k2 := (hb4.cell hbl2).trans g2
                        have k3 := (hb4.cell hbl3).trans g3
                        have k4 := (hb4.cell hbl4).trans g4
                        have hblc : b < wc.heap.size := Nat.lt_of_lt_of_le hbl hb3.size
                        have k5 := (hb4.cell hblc).trans f1
                        have m2 : (F : Int) + (q : Int) < (mm : Int) := by omega
                        have m3 : F + q < mm := by omega
                        have HFN : Hid (fieldsTo (atTo ps n) E = fieldsTo (atTo ps n) (F + q)) := by show _ = _; rw [hEF]; exact fieldsTo_miss hta rfl rfl
                        have hb5 := hb3.trans (hb4.mono hb3.size)
                        have HEFI : Hid ((E : Int) = (F : Int) + ((q : Int) + 1)) := by show _ = _; omega
                        obtain ⟨fl1, hfl1⟩ : ∃ fl1, fieldsTo (atTo ps n) (F + q) = fl1 := ⟨_, rfl⟩
                        rw [hfl1] at HFN ⊢
                        clear hfl1 hta hto g2 g3 g4 hat how htk hfo f1 hb3 hb4 hEF
                        generalize hpf : pfo ps i = pf at k4 k5
                        have HPF : Hid (pfo ps i = pf) := hpf
                        clear hpf
                        go_upto_region 38 with (fail)
                        cases pf with
                        | true =>
                          go_quiet (fail)
                          cases af with
                          | true =>
                            go_wp2
                            go_roundw
                            case rel => exact ⟨i + 1, by omega, by rw [HEE.out, HEFI.out], by rw [HAF.out, HPF.out]; first | rfl | trivial, by rw [HEE.out, HFN.out], by go_num, below_drewN hb5 _⟩
                            case measure => simp [intOf]; omega
                          | false =>
                            go_wp2
                            go_roundw
                            case rel => exact ⟨i + 1, by omega, by rw [HEE.out, HEFI.out], by rw [HAF.out, HPF.out]; first | rfl | trivial, by rw [HEE.out, HFN.out], by go_num, below_drewN hb5 _⟩
                            case measure => simp [intOf]; omega
                        | false =>
                          go_quiet (fail)
                          cases af with
                          | true =>
                            go_wp2
                            go_roundw
                            case rel => exact ⟨i + 1, by omega, by rw [HEE.out, HEFI.out], by rw [HAF.out, HPF.out]; first | rfl | trivial, by rw [HEE.out, HFN.out], by go_num, below_drewN hb5 _⟩
                            case measure => simp [intOf]; omega
                          | false =>
                            go_wp2
                            go_roundw
                            case rel => exact ⟨i + 1, by omega, by rw [HEE.out, HEFI.out], by rw [HAF.out, HPF.out]; first | rfl | trivial, by rw [HEE.out, HFN.out], by go_num, below_drewN hb5 _⟩
                            case measure => simp [intOf]; omega
                · obtain rfl : i = n := by omega
                  have l1 : ¬ (i : Int) < (i : Int) := by omega
                  have hst : startOf ps i = mm := HML.out
                  have hfs : fieldsTo (atTo ps i) (startOf ps i) = fields (atTo ps i) := rfl
                  rw [hfs, hst]
                  clear hfs hst
                  obtain ⟨cb, hcb⟩ : ∃ cb, clTo ps i = cb := ⟨_, rfl⟩
                  rw [hcb]
                  clear hcb
                  have l2 : ((mm : Int) != (mm : Int)) = false := by simp
                  have l3 : (cb != cb) = false := by simp
                  have rd2 := rd.below hb
                  have hgr : Ints .i64 wr a2 gs := Row.below hg5 hb
                  have hb6 := hb7.trans (hb.mono hb7.size)
                  clear rd hg5 hp5 hb7 hb
                  go_wp2_with fail
                  refine (equalInts_any a2 a2 j j j j gs gs _ HM HM (by omega) (by omega) hgr hgr).mono ?_
                  rintro e w7 ⟨⟨r1, rfl, hr1⟩, hq1⟩
                  obtain rfl : r1 = true := hr1.2 rfl
                  have b1 : Below wr.heap.size wr w7 := hq1.below
                  have rd3 := rd2.below b1
                  have hg7 : Ints .i64 w7 a2 gs := Row.below hgr b1
                  have hbb := hb6.trans (b1.mono hb6.size)
                  clear hr1 hq1 b1 rd2 hgr hb6
                  rcases rd3.cut with ⟨c1, rfl, rfl⟩ | ⟨c1, c2, rfl, c4⟩
                  · rw [c1]
                    have hnil := fun w' => neq_slice_nil w' 33 3 none 0 cc 0 0 Try.underlying33
                    have hmk := rd3.mark
                    have hse := rd3.sett
                    have hwh := rd3.whole
                    have hg8 := hg7
                    have hb8 := hbb
                    clear rd3 hg7 hbb c1
                    go_wp2_with fail
                    refine (groupCount_any a2 j j gs _ HM (by omega) hg8 HGS.out).mono ?_
                    rintro e w9 ⟨rfl, hw9⟩
                    subst hw9
                    have n1 : ((mm : Int) != (mm : Int)) = false := by simp
                    have n2 : (((gcount gs : Nat) : Int) != ((gcount gs : Nat) : Int)) = false := by simp
                    clear hg8
                    generalize gcount gs = gc at hgc hse hwh n2 ⊢
                    go_wp2_with fail
                    go_loop [28] (fun k => ∃ q : Nat, q ≤ mm ∧ k = .int .i64 q) (fun k => mm - (intOf k).toNat)
                    case atStart => exact ⟨0, by omega, rfl⟩
                    case round =>
                      obtain ⟨q, hq, rfl⟩ := hrel
                      by_cases hql : q < mm
                      · obtain ⟨b2, off2, rfl, hbl2, g2⟩ := hmk q hql
                        have m1 : (q : Int) < (mm : Int) := by omega
                        clear hmk hse hwh
                        go_wp2
                        go_round
                        case rel => exact ⟨q + 1, by omega, by go_num⟩
                        case measure => simp [intOf]; omega
                      · obtain rfl : q = mm := by omega
                        have m1 : ¬ (q : Int) < (q : Int) := by omega
                        clear hmk
                        go_wp2_with fail
                        go_loop [29] (fun k => ∃ p : Nat, p ≤ gc ∧ k = .int .i64 p) (fun k => gc - (intOf k).toNat)
                        case atStart => exact ⟨0, by omega, rfl⟩
                        case round =>
                          obtain ⟨p, hpc, rfl⟩ := hrel
                          by_cases hpl : p < gc
                          · obtain ⟨b2, off2, rfl, hbl2, g2⟩ := hse p hpl
                            obtain ⟨b3, off3, rfl, hbl3, g3⟩ := hwh p hpl
                            have m1 : (p : Int) < (gc : Int) := by omega
                            clear hse hwh
                            go_wp2
                            go_round
                            case rel => exact ⟨p + 1, by omega, by go_num⟩
                            case measure => simp [intOf]; omega
                          · have m1 : ¬ (p : Int) < (gc : Int) := by omega
                            clear hse hwh
                            go_wp2
                            go_ret
                            exact ⟨rfl, hb8⟩
                  · rw [c1]
                    have hat := rd3.at'
                    have hfi := rd3.fi
                    have c5 : Row w7 acu mm (fun k => .int .i64 (cutAt (atTo ps i) (fiTo ps i) (owTo ps i) k)) := by rw [← HML.out]; exact c4
                    clear c1 c4
                    rw [HML.out]
                    go_wp2_with fail
                    refine (cutsRight_any aat afi acu i mm N i cc ps _ HML (by omega) hmm hat hfi c5).mono ?_
                    rintro e w8 ⟨rfl, b8⟩
                    have rd4 := rd3.below b8
                    have hmk := rd4.mark
                    have hse := rd4.sett
                    have hwh := rd4.whole
                    have hg8 : Ints .i64 w8 a2 gs := Row.below hg7 b8
                    have hb8 := hbb.trans (b8.mono hbb.size)
                    clear rd3 rd4 hg7 hbb b8 hat hfi c5
                    go_wp2_with fail
                    refine (groupCount_any a2 j j gs _ HM (by omega) hg8 HGS.out).mono ?_
                    rintro e w9 ⟨rfl, hw9⟩
                    subst hw9
                    have n1 : ((mm : Int) != (mm : Int)) = false := by simp
                    have n2 : (((gcount gs : Nat) : Int) != ((gcount gs : Nat) : Int)) = false := by simp
                    clear hg8
                    generalize gcount gs = gc at hgc hse hwh n2 ⊢
                    go_wp2_with fail
                    go_loop [28] (fun k => ∃ q : Nat, q ≤ mm ∧ k = .int .i64 q) (fun k => mm - (intOf k).toNat)
                    case atStart => exact ⟨0, by omega, rfl⟩
                    case round =>
                      obtain ⟨q, hq, rfl⟩ := hrel
                      by_cases hql : q < mm
                      · obtain ⟨b2, off2, rfl, hbl2, g2⟩ := hmk q hql
                        have m1 : (q : Int) < (mm : Int) := by omega
                        clear hmk hse hwh
                        go_wp2
                        go_round
                        case rel => exact ⟨q + 1, by omega, by go_num⟩
                        case measure => simp [intOf]; omega
                      · obtain rfl : q = mm := by omega
                        have m1 : ¬ (q : Int) < (q : Int) := by omega
                        clear hmk
                        go_wp2_with fail
                        go_loop [29] (fun k => ∃ p : Nat, p ≤ gc ∧ k = .int .i64 p) (fun k => gc - (intOf k).toNat)
                        case atStart => exact ⟨0, by omega, rfl⟩
                        case round =>
                          obtain ⟨p, hpc, rfl⟩ := hrel
                          by_cases hpl : p < gc
                          · obtain ⟨b2, off2, rfl, hbl2, g2⟩ := hse p hpl
                            obtain ⟨b3, off3, rfl, hbl3, g3⟩ := hwh p hpl
                            have m1 : (p : Int) < (gc : Int) := by omega
                            clear hse hwh
                            go_wp2
                            go_round
                            case rel => exact ⟨p + 1, by omega, by go_num⟩
                            case measure => simp [intOf]; omega
                          · have m1 : ¬ (p : Int) < (gc : Int) := by omega
                            clear hse hwh
                            go_wp2
                            go_ret
                            exact ⟨rfl, hb8⟩
        · go_wp2_with fail
          go_ret
          exact ⟨rfl, Below.refl _ _⟩
      · go_wp2_with fail
        go_ret
        exact ⟨rfl, Below.refl _ _⟩
    · go_wp2_with fail
      go_ret
      exact ⟨rfl, Below.refl _ _⟩
end Go.Proofs.Qxb6601200a
