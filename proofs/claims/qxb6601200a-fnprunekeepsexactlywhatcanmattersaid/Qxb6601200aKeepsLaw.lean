import Derived.Test.Qxb6601200aKeepsMid
import Derived.Test.Qxb6601200aCutsR
import Derived.Deep.DeepCutAuto
import Derived.Deep.RegionHeld3
import Derived.Deep.CutBlock
import Derived.BigQuiet
set_option linter.unusedSimpArgs false
set_option linter.unusedVariables false
namespace Go.Proofs.Qxb6601200a
open Go.RowKit

set_option maxRecDepth 100000 in
set_option maxHeartbeats 4000000 in
theorem keepsLaw_walk (a ga pa : Option Addr) (n m l cap gcap pcap : Nat) (ps : List Pat) (gs zs : List Int) (w : World) (HN : Hid (ps.length = n)) (HM : Hid (gs.length = m)) (HZ : Hid (zs.length = l)) (h1 : n ≤ maxLen) (h2 : m ≤ maxLen) (h3 : l ≤ maxLen)
    (hp : Pats w a ps) (hz : ∀ i, i < n → (ptx ps i).size ≤ maxLen) (hg : Ints .i64 w ga gs) (hgw : ∀ i, i < m → -9223372036854775808 ≤ iat gs i ∧ iat gs i ≤ 9223372036854775807) (hq : Ints .i64 w pa zs) (hqw : ∀ i, i < l → -9223372036854775808 ≤ iat zs i ∧ iat zs i ≤ 9223372036854775807) :
    Calls Try.prog 7 #[.slice a n cap, .slice ga m gcap, .slice pa l pcap] w fun e w' => e = .returned (.bool true) ∧ Below w.heap.size w w' := by
  clear hqw
  go_enter Try.func7, Try.ntmps7
  go_wp2_with fail
  refine (zzBytes29_any a ga n m cap gcap pa l pcap ps _ HN h1 h2 h3 hp hz).mono ?_
  rintro e w' ⟨⟨r, rfl, hr⟩, hw⟩
  subst hw
  clear hz
  unfold maxLen at h1 h2 h3
  cases r with
  | false =>
    clear hr
    go_wp2_with fail
    go_ret
    exact ⟨rfl, Below.refl _ _⟩
  | true =>
    have hsum := hr rfl
    clear hr
    by_cases hn1 : n ≤ 65536
    · by_cases hm1 : m ≤ 65536
      · by_cases hl1 : l ≤ 65536
        · go_wp2_with fail
          refine (patternBytes_any a n cap ps _ HN (by omega) hp (by omega)).mono ?_
          rintro e w1 ⟨⟨t, rfl, ht0, ht1⟩, hw⟩
          subst hw
          by_cases hts : t + 8 * (m : Int) + 8 * (l : Int) ≤ 1048576
          · go_wp2_with fail
            refine (pruneDomain_any ga n m gcap gs _ HM (by omega) (by omega) hg).mono ?_
            rintro e w0 ⟨⟨r, rfl, hr⟩, hw⟩
            subst hw
            cases r with
            | false =>
              clear hr
              go_wp2_with fail
              go_ret
              exact ⟨rfl, Below.refl _ _⟩
            | true =>
              obtain ⟨hnm, hdom⟩ := hr.1 rfl
              have HGS : Hid (∀ i, i < m → -9223372036854775808 ≤ iat gs i ∧ iat gs i ≤ 65536) := fun i hi => ⟨(hgw i hi).1, (hdom i hi).1⟩
              have HDM : Hid (∀ k, k < n → 0 ≤ iat gs k) := fun k hk => (hdom k (by omega)).2 hk
              clear hr hdom hgw
              go_wp2_with fail
              refine (clonePatterns_any a n cap ps _ HN (by omega) hp).mono ?_
              rintro e w2 ⟨⟨a1, c1, rfl, hp1⟩, hb1⟩
              have hg1 : Ints .i64 w2 ga gs := Row.below hg hb1
              have hq1 : Ints .i64 w2 pa zs := Row.below hq hb1
              clear hp hg hq
              go_wp2_with fail
              refine (cloneInts_any ga m gcap gs _ HM (by omega) hg1).mono ?_
              rintro e w3 ⟨hce, hb2⟩
              obtain ⟨a2, rfl, hg2⟩ := hce.slice HM.out
              have hp2 := hp1.below hb2
              have hq2 : Ints .i64 w3 pa zs := Row.below hq1 hb2
              have hb3 := hb1.trans (hb2.mono hb1.size)
              clear hce hp1 hg1 hq1 hb1 hb2
              go_wp2_with fail
              refine (cloneInts_any pa l pcap zs _ HZ (by omega) hq2).mono ?_
              rintro e w4 ⟨hce, hb4⟩
              have HG3 : Hid (Ints .i64 w3 a2 gs) := hg2
              have hg4 : Ints .i64 w4 a2 gs := Row.below hg2 hb4
              have hp4 := hp2.below hb4
              have hb5 := hb3.trans (hb4.mono hb3.size)
              have hs3 := hb3.size
              obtain ⟨a3, he3, hq4⟩ := hce.slice HZ.out
              have HCE : Hid (CloneEnd w3.heap.size l zs e w4) := hce
              subst he3
              clear hce hg2 hp2 hq2 hb3
              go_wp2_with fail
              refine (split_any a1 n c1 ps _ HN (by omega) hp4).mono ?_
              rintro e w5 ⟨⟨x1, x2, x3, rfl, hs1, hs2, hs5⟩, hb6⟩
              have hg5 : Ints .i64 w5 a2 gs := Row.below hg4 hb6
              have hq5 : Ints .i64 w5 a3 zs := Row.below hq4 hb6
              have hb7 := hb5.trans (hb6.mono hb5.size)
              have HB6 : Hid (Below w4.heap.size w4 w5) := hb6
              clear hp4 hg4 hq4 hb6
              go_wp2_with fail
              refine (zzCompile_any x1 x2 x3 a2 n m n n n m ps gs _ HN HM (by omega) (by omega) (by omega) hs1 hs2 hs5 hg5 HGS.out).mono ?_
              rintro e w6 ⟨hce, hb8⟩
              obtain ⟨aat, aow, afi, afo, acu, am, ase, awh, N, cl, cc, mm, HMM, rfl, rd⟩ := hce.out
              have HML : Hid ((atTo ps n).length = mm) := HMM
              have hmm : mm ≤ 4194304 := by
                have := atTo_len ps n; have h4 : tlen ps = tlenTo ps n := by unfold tlen; rw [HN.out]
                have := HML.out; omega
              have r1 := hs1.below hb8
              have r2 := hs2.below hb8
              have r3 := hs5.below hb8
              have hg6 : Ints .i64 w6 a2 gs := Row.below hg5 hb8
              have hq6 : Ints .i64 w6 a3 zs := Row.below hq5 hb8
              have HB8 : Hid (Below w4.heap.size w4 w6) := HB6.out.trans (hb8.mono HB6.out.size)
              have hb9 := hb7.trans (hb8.mono hb7.size)
              have rd6 := rd
              clear hce rd HMM hs1 hs2 hs5 hg5 hq5 hb7 hb8 HB6
              go_wp2_with fail
              refine (increasing_any a3 l mm l zs _ HZ (by omega) hmm hq6).mono ?_
              rintro e w7 ⟨⟨r, rfl, hr⟩, hqu⟩
              have q7 : Below w6.heap.size w6 w7 := hqu.below
              cases r with
              | false =>
                clear hr
                go_wp2_with fail
                go_ret
                exact ⟨rfl, hb9.trans (q7.mono hb9.size)⟩
              | true =>
                obtain ⟨L, hzL, hlL, hinc, hlt⟩ := incOk_nat HZ.out (hr.1 rfl)
                clear hr hqu
                subst hzL
                have HLL : Hid (L.length = l) := hlL
                have HINC : Hid (Incs L) := hinc
                have HLT : Hid (∀ k, k < l → nat L k < (atTo ps n).length) := fun k hk => by rw [HML.out]; exact hlt k hk
                clear hlL hinc hlt
                have hq7 : Ints .i64 w7 a3 (ofN L) := Row.below hq6 q7
                have r17 := r1.below q7
                have r27 := r2.below q7
                have r37 := r3.below q7
                have hg7 : Ints .i64 w7 a2 gs := Row.below hg6 q7
                have rd7 := rd6.below q7
                have hb10 := hb9.trans (q7.mono hb9.size)
                have HSO : Hid (SortedI l (ofN L)) := fun i j hij hj => by
                  have := HINC.out i j hij (by rw [HLL.out]; exact hj)
                  rw [ofN_at, ofN_at]; omega
                clear r1 r2 r3 hg6 hq6 q7 hb9 rd6 HCE HG3 HB8
                have hgc : gcount gs ≤ 65537 := by
                  have := gcTo_le gs 65536 (by omega) (fun i hi => (HGS.out i (by have := HM.out; omega)).2) gs.length (Nat.le_refl _)
                  unfold gcount; omega
                have HGR : Hid (∀ p, p < n → iat gs p = ((grF gs p : Nat) : Int) ∧ grF gs p < gcount gs) := fun p hp => by
                  have h1 := HDM.out p hp
                  have h2 := gcTo_gt gs gs.length p (by have := HM.out; omega)
                  have h3 := gcTo_cast gs
                  have h4 : iat gs p = ((grF gs p : Nat) : Int) := by unfold grF; omega
                  exact ⟨h4, by omega⟩
                go_wp2_with fail
                refine (groupCount_any a2 m m gs _ HM (by omega) hg7 HGS.out).mono ?_
                rintro e w8 ⟨rfl, hw⟩
                subst hw
                generalize gcount gs = gc at hgc HGR ⊢
                have hmk := make_run 33 3 _ 1 8 Try.underlying33 Try.info3 gc (by omega) (by omega)
                simp only [Nat.mul_one] at hmk
                go_wp2_with fail
                go_loopw [24] (fun k wr => ∃ i : Nat, i ≤ gc ∧ k = .int .i64 i ∧ Below w8.heap.size w8 wr ∧ RowN wr w8.heap.size 3 gc i (fun _ => .int .i64 (-1))) (fun k _ => gc - (intOf k).toNat)
                case atStart => exact ⟨0, by omega, rfl, (Below.refl _ _).alloc (Nat.le_refl _) _, RowN.start _ _ _ _ _⟩
                case round =>
                  obtain ⟨i, hi, rfl, hb, hrow⟩ := hrel
                  by_cases hig : i < gc
                  · obtain ⟨u, d0⟩ := hrow.cell hig
                    have z0 := hrow.frozen i
                    have l1 : (i : Int) < (gc : Int) := by omega
                    go_wp2
                    go_roundw
                    case rel => exact ⟨i + 1, by omega, by go_num, hb.setCell (Nat.le_refl _) _, hrow.step⟩
                    case measure => simp [intOf]; omega
                  · obtain rfl : i = gc := by omega
                    have l1 : ¬ (i : Int) < (i : Int) := by omega
                    go_wp2_with fail
                    go_loopw [25] (fun k wr => ∃ p : Nat, p ≤ n ∧ k = .int .i64 p ∧ Below w8.heap.size w8 wr ∧ RowN wr w8.heap.size 3 i i (fun g => .int .i64 (wv (woTo (stB ps n L) (grF gs) p g)))) (fun k _ => n - (intOf k).toNat)
                    case atStart => exact ⟨0, by omega, rfl, hb, hrow.congr (fun _ _ => rfl)⟩
                    case round =>
                      clear hb hrow hmk
                      obtain ⟨p, hp, rfl, hb, hrow⟩ := hrel
                      by_cases hpn : p < n
                      · obtain ⟨F, hF⟩ : ∃ F, startOf ps p = F := ⟨_, rfl⟩
                        obtain ⟨E, hE⟩ : ∃ E, startOf ps (p + 1) = E := ⟨_, rfl⟩
                        obtain ⟨t, ht⟩ : ∃ t, (tokI ps p).length = t := ⟨_, rfl⟩
                        have hEF : E = F + t + 1 := by rw [← hF, ← hE, ← ht]; exact startOf_succ ps p
                        have hEm : E ≤ mm := by rw [← hE, ← HML.out]; exact atTo_mono ps (by omega)
                        have hat := Row.below rd7.at' hb
                        have hfi := Row.below rd7.fi hb
                        obtain ⟨b1, off1, rfl, hbl1, d1⟩ := Ints.get hfi (i := p) (v := (F : Int)) (by rw [fiTo_len]; exact hpn) (by rw [fiTo_at ps n p hpn, hF])
                        have HF : Hid (startOf ps p = F) := hF
                        have HE : Hid (startOf ps (p + 1) = E) := hE
                        have HT : Hid ((tokI ps p).length = t) := ht
                        have l2 : (p : Int) < (n : Int) := by omega
                        have hE1 : F + t + 1 ≤ E := by omega
                        have HE2 : Hid (E ≤ F + t + 1) := by show _ ≤ _; omega
                        clear hF hE ht hEF
                        go_upto_if 144 with (fail)
                        go_cut [26] (fun s26 wx => s26 = .int .i64 (E : Int) ∧ wx = wr)
                        case first =>
                          by_cases hp1 : p + 1 < n
                          · have l3 : (p : Int) + 1 < (n : Int) := by omega
                            obtain ⟨b3, off3, e3, hbl3, d3⟩ := Ints.get hfi (i := p + 1) (v := (E : Int)) (by rw [fiTo_len]; exact hp1) (by rw [fiTo_at ps n (p + 1) hp1, HE.out])
                            simp only [Option.some.injEq, Addr.mk.injEq, and_true] at e3
                            obtain ⟨rfl, rfl⟩ := e3
                            go_wp2
                            go_meet
                            case rel => exact ⟨rfl, rfl⟩
                          · have l3 : ¬ (p : Int) + 1 < (n : Int) := by omega
                            have HMM2 : Hid (mm = E) := by show _ = _; rw [← HE.out, ← HML.out]; rw [show p + 1 = n by omega]; rfl
                            go_wp2
                            go_meet
                            case rel => exact ⟨by rw [HMM2.out], rfl⟩
                        case rest =>
                          obtain ⟨rfl, rfl⟩ := hcut
                          by_cases ht0 : t = 0
                          · have l3 : decide ((F : Int) ≤ (E : Int) - 2) = false := decide_eq_false (by have := HE2.out; omega)
                            have HS : Hid (stB ps n L p = false) := by show _ = _; unfold stB; rw [HT.out, ht0]; rfl
                            go_wp2
                            go_roundw
                            case rel => exact ⟨p + 1, by omega, by go_num, hb, hrow.congr (fun g _ => by rw [wo_miss HS.out])⟩
                            case measure => simp [intOf]; omega
                          · obtain ⟨s, hs⟩ : ∃ s, E = s + 2 := ⟨E - 2, by omega⟩
                            have HS2 : Hid (startOf ps (p + 1) - 2 = s) := by show _ = _; rw [HE.out]; omega
                            subst hs
                            have hsm : s < mm := by omega
                            obtain ⟨b2, off2, rfl, hbl2, d2⟩ := Ints.get hat (i := s) (v := tkF ps n s) (by rw [HML.out]; omega) rfl
                            have l3 : decide ((F : Int) ≤ (s : Int)) = true := decide_eq_true (by omega)
                            have l4 : (F : Int) ≤ (s : Int) := by omega
                            have l5 : (s : Int) < (mm : Int) := by omega
                            have HTP : Hid (decide (0 < (tokI ps p).length) = true) := by show _ = _; rw [HT.out]; exact decide_eq_true (by omega)
                            clear hat hfi
                            cases t2 : (tkF ps n s == -2) with
                            | false =>
                              have HS : Hid (stB ps n L p = false) := by show _ = _; unfold stB; rw [HTP.out, HS2.out, t2]; rfl
                              go_wp2
                              go_roundw
                              case rel => exact ⟨p + 1, by omega, by go_num, hb, hrow.congr (fun g _ => by rw [wo_miss HS.out])⟩
                              case measure => simp [intOf]; omega
                            | true =>
                              have hqr : Ints .i64 wc a3 (ofN L) := Row.below hq7 hb
                              go_wp2_with fail
                              refine (has_any a3 l l (ofN L) (s : Int) _ HZ (by omega) hqr HSO).mono ?_
                              rintro e w9 ⟨⟨r, rfl, hr⟩, hw⟩
                              subst hw
                              cases r with
                              | false =>
                                have HS : Hid (stB ps n L p = false) := by
                                  show _ = _; unfold stB; rw [HTP.out, HS2.out, t2]
                                  simp only [Bool.true_and, decide_eq_false_iff_not]
                                  intro hmem
                                  obtain ⟨k, hk, e⟩ := mem_nat hmem
                                  have := hr.2 ⟨k, by rw [← HLL.out]; exact hk, by rw [ofN_at, e]⟩
                                  cases this
                                clear hr
                                go_wp2
                                go_roundw
                                case rel => exact ⟨p + 1, by omega, by go_num, hb, hrow.congr (fun g _ => by rw [wo_miss HS.out])⟩
                                case measure => simp [intOf]; omega
                              | true =>
                                have HS : Hid (stB ps n L p = true) := by
                                  show _ = _; unfold stB; rw [HTP.out, HS2.out, t2]
                                  simp only [Bool.true_and, decide_eq_true_eq]
                                  obtain ⟨k, hk, e⟩ := hr.1 rfl
                                  rw [ofN_at] at e
                                  have e2 : nat L k = s := by omega
                                  rw [← e2]; exact nat_mem (by rw [HLL.out]; exact hk)
                                clear hr
                                obtain ⟨g, hg⟩ : ∃ g, grF gs p = g := ⟨_, rfl⟩
                                have hgg := HGR.out p hpn
                                rw [hg] at hgg
                                have hgr : Ints .i64 w9 a2 gs := Row.below hg7 hb
                                obtain ⟨b4, off4, rfl, hbl4, d4⟩ := Ints.get hgr (i := p) (v := (g : Int)) (by rw [HM.out]; omega) hgg.1
                                have hgi := hgg.2
                                have d5 : w9.cell? ⟨w8.heap.size, g, none⟩ = some (.int .i64 (wv (woTo (stB ps n L) (grF gs) p g))) := hrow.cellAt hgi hgi
                                have z5 := hrow.frozen g
                                have l6 : (p : Int) < (m : Int) := by omega
                                have l7 : (g : Int) < (i : Int) := by omega
                                have HG : Hid (grF gs p = g) := hg
                                clear hg hgg hgr
                                cases hw : woTo (stB ps n L) (grF gs) p g with
                                | some q =>
                                  have HW : Hid (woTo (stB ps n L) (grF gs) p (grF gs p) = some q) := by show _ = _; rw [HG.out]; exact hw
                                  rw [hw] at d5
                                  replace d5 : w9.cell? ⟨w8.heap.size, g, none⟩ = some (.int .i64 (q : Int)) := d5
                                  have l8 : decide ((q : Int) < 0) = false := decide_eq_false (by omega)
                                  clear hw
                                  go_wp2
                                  go_roundw
                                  case rel => exact ⟨p + 1, by omega, by go_num, hb, hrow.congr (fun g _ => by rw [wo_set HW.out])⟩
                                  case measure => simp [intOf]; omega
                                | none =>
                                  have HW : Hid (woTo (stB ps n L) (grF gs) p (grF gs p) = none) := by show _ = _; rw [HG.out]; exact hw
                                  rw [hw] at d5
                                  replace d5 : w9.cell? ⟨w8.heap.size, g, none⟩ = some (.int .i64 (-1)) := d5
                                  clear hw
                                  go_wp2
                                  go_roundw
                                  case rel => exact ⟨p + 1, by omega, by go_num, hb.setCell (Nat.le_refl _) _, hrow.upd (fun g' _ => by
                                    rw [wo_new HS.out HW.out, HG.out]
                                    split <;> rfl)⟩
                                  case measure => simp [intOf]; omega
                      · obtain rfl : p = n := by omega
                        rename World => W9
                        have l1 : ¬ (p : Int) < (p : Int) := by omega
                        have HLTM : Hid (∀ k, k < L.length → nat L k < mm) := fun k hk => by rw [← HML.out]; exact HLT.out k (by rw [← HLL.out]; exact hk)
                        obtain ⟨wh, hwh⟩ : ∃ wh, whTo (tkF ps p) (owF ps p) (grF gs) L L.length = wh := ⟨_, rfl⟩
                        have hrow2 : RowN W9 w8.heap.size 3 i i (fun g => .int .i64 (wv (wh g))) := hrow.congr (fun g _ => by rw [wo_eq_wh ps gs p L HINC.out (fun k hk => by rw [HML.out]; exact HLTM.out k hk) g, hwh])
                        obtain ⟨f, hf⟩ : ∃ f, keepB (tkF ps p) (owF ps p) (grF gs) (cuF ps p) L = f := ⟨_, rfl⟩
                        have HF : Hid (keepB (tkF ps p) (owF ps p) (grF gs) (cuF ps p) L = f) := hf
                        have HKB : Hid (∀ c, c < l → f (nat L c) = ((!(ssAt (tkF ps p) (owF ps p) (cuF ps p) mm (owF ps p (nat L c)) (L.drop (c + 1))) && decide (((nat L c : Nat) : Int) ≤ mcAt (tkF ps p) (owF ps p) (cuF ps p) mm (owF ps p (nat L c)) (L.drop (c + 1)))) && ownWh (wh (grF gs (owF ps p (nat L c)))) (owF ps p (nat L c)))) := fun c hc => by
                          rw [← hf]
                          unfold keepB
                          rw [survB_stt HINC.out HLTM.out (fun i j hij hj => owF_mono ps p i j hij (by rw [HML.out]; exact hj)) (by rw [HLL.out]; exact hc), hwh]
                        have hmk2 := make_run 39 4 _ 1 1 Try.underlying39 Try.info4 l (by omega) (by omega)
                        simp only [Nat.mul_one] at hmk2
                        have rd9 := rd7.below hb
                        have hq9 : Ints .i64 W9 a3 (ofN L) := Row.below hq7 hb
                        have r19 := r17.below hb
                        have r29 := r27.below hb
                        have r39 := r37.below hb
                        have hg9 : Ints .i64 W9 a2 gs := Row.below hg7 hb
                        have hb11 := hb10.trans (hb.mono hb10.size)
                        clear hrow hb hb10 rd7 hq7 r17 r27 r37 hg7 hwh hf
                        go_upto_region 34 with (fail)
                        go_cut [28] (fun s28 wz => s28 = .slice (some ⟨W9.heap.size, 0, none⟩) l l ∧ Below W9.heap.size W9 wz ∧ RowHi wz W9.heap.size 4 l l (fun i => .bool (f (nat L i))))
                        case first =>
                          go_wp2_with fail
                          go_meet
                          case rel =>
                            refine ⟨rfl, (Below.refl _ _).alloc (Nat.le_refl _) _, ?_⟩
                            obtain ⟨F, hF⟩ := zeros_row W9 (.bool false) l 4
                            exact ⟨F, hF, fun i h1 h2 => by omega⟩
                        case rest =>
                          obtain ⟨rfl, hbW, hrk⟩ := hcut
                          rename_i hK
                          refine hK _ _ ?_
                          exact keeps_mid x1 x2 x3 a2 a3 aat aow acu p m l i mm N cl cc w8.heap.size ps gs L f wh w0 W9 wc HN HM HZ HLL HINC HSO hsum hn1 hm1 hl1 hnm hmm hgc HML HLT HLTM HGS HDM HGR HF HKB rd9.at' rd9.ow rd9.cut hq9 r19 r29 r39 hg9 hrow2 hb11 hbW hrk _ _ _ _ _ _ _ _ _ _ _ _ _ _ _ _ _ _ _ _ _ _ _ _ _ _ _ _ _ _ _ _ _ _ _ _ _ _ _ _ _ _ _ _ _ _ _ _ _ _ _ _ _ _ _ _ _ _ _ _ _ _ _ _ _ _ _ _ _ _ _ _ _ _ _ _ _ _ _ _ _ _ _ _ _ _ _ _ _ _ _ _ _ _ _ _ _ _ _ _ _ _ _ _ _ _ _ _ _ _ _ _ _ _ _ _ _ _ _ _ _ _ _ _ _ _ _ _ _ _ _ _ _ _ _ _ _ _ _ _ _ _ _ _ _ _ _ _ _ _ _ _ _ _ _ _ _ _ _ _ _ _ _ _ _ _ _ _ _ _ _ _ _ _ _ _ _ _ _ _ _ _ _ _ _ _ _ _ _ _ _ _ _ _ _ _ _ _ _ _ _ _ _ _ _ _ _ _ _ _ _ _ _ _ _ _ _ _ _ _ _ _ _ _ _ _ _ _ _ _ _ _ _ _ _ _ _ _ _ _ _ _ _ _ _ _ _ _ _ _ _ _ _ _ _ _ _ _ _ _ _ _ _ _ _ _ _ _ _ _ _ _ _ _ _ _ _ _ _ _ _ _ _ _ _ _ _ _ _ _ _ _ _ _ _ _ _ _ _ _ _ _ _ _ _ _ _ _ _ _ _ _ _ _ _ _ _ _ _ _ _ _ _ _ _ _ _ _ _ _ _ _ _ _ _ _
          · go_wp2_with fail
            go_ret
            exact ⟨rfl, Below.refl _ _⟩
        · go_wp2_with fail
          go_ret
          exact ⟨rfl, Below.refl _ _⟩
      · go_wp2_with fail
        go_ret
        exact ⟨rfl, Below.refl _ _⟩
    · go_wp2_with fail
      go_ret
      exact ⟨rfl, Below.refl _ _⟩
end Go.Proofs.Qxb6601200a
