import Derived.Test.Qxb6601200aPrKeep
import Derived.Test.Qxb6601200aAfter
import Derived.BigQuiet
set_option linter.unusedSimpArgs false
set_option linter.unusedVariables false
namespace Go.Proofs.Qxb6601200a
open Go.RowKit

noncomputable def afterK : Code := (Try.f7.body.bind (afterRegion 54)).getD .skip

set_option maxRecDepth 100000 in
set_option maxHeartbeats 4000000 in
theorem keeps_rest (a3 wa : Option Addr) (l kl gk : Nat) (L : List Nat) (f : Nat → Bool) (A : Nat → Nat) (w0 w12 : World) (HZ : Hid ((ofN L).length = l)) (HLL : Hid (L.length = l)) (HINC : Hid (Incs L)) (HSO : Hid (SortedI l (ofN L))) (hl1 : l ≤ 65536)
    (HKL : Hid ((L.filter f).length = kl)) (hkll : kl ≤ l) (HKP : Hid (Kp L l (L.filter f) l A)) (hq12 : Ints .i64 w12 a3 (ofN L)) (hk12 : RowN w12 gk 4 l l (fun i => .bool (f (nat L i)))) (hwork : Row w12 wa l (fun i => .int .i64 ((A i : Nat) : Int))) (hb15 : Below w0.heap.size w0 w12)
    (u0 u1 u3 u4 u5 u7 u8 u9 u10 u11 u12 u13 u14 u15 u16 u17 u18 u19 u20 u21 u22 u23 u24 u25 u26 u27 u29 u30 u31 u32 u33 u34 u35 u38 u39 u40 u41 u42 u43 u44 u45 u46 u47 u48 u49 u50 u51 u52 u53 u54 u55 u56 u57 u58 u59 u60 u61 u62 u63 u64 u65 u66 u67 u68 u69 u70 u71 u72 u73 u74 u75 u76 u77 u78 u79 u80 u81 u82 u83 u84 u85 u86 u87 u88 u89 u90 u91 u92 u93 u94 u95 u96 u97 u98 u99 u100 u101 u102 u103 u104 u105 u106 u107 u108 u109 u110 u111 u112 u113 u114 u115 u116 u117 u118 u119 u120 u121 u122 u123 u124 u125 u126 u127 u128 u129 u130 u131 u132 u133 u134 u135 u136 u137 u138 u139 u140 u141 u142 u143 u144 u145 u146 u147 u148 u149 u150 u151 u152 u153 u154 u155 u156 u157 u158 u159 u160 u161 u162 u163 u164 u165 u166 u167 u168 u169 u170 u171 u172 u173 u174 u175 u176 u177 u178 u179 u180 u181 u182 u183 u184 u185 u186 u187 u188 u189 u190 u191 u192 u193 u194 u195 u196 u197 u198 u199 u200 u201 u202 u203 u204 u205 u206 u207 u208 u209 u210 u211 u212 u213 u214 u215 u216 u217 u218 u219 u220 u221 u222 u223 u224 u225 u226 u227 u228 u229 u230 u231 u232 u233 u234 u235 u236 u237 u238 u239 u240 u241 u242 u243 u244 u245 u246 u247 u248 u249 u250 u251 u252 u253 u254 u255 u256 u257 u258 u259 u260 u261 u262 u263 u264 u265 u266 u267 u268 u269 u270 u271 u272 u273 u274 u275 u276 u277 u278 u279 u280 u281 u282 u283 u284 u285 u286 u287 u288 u289 u290 u291 u292 u293 u294 u295 u296 u297 u298 u299 u300 u301 u302 u303 u304 u305 u306 u307 u308 u309 u310 u311 u312 u313 u314 u315 u316 u317 u318 u319 u320 u321 u322 u323 u324 u325 u326 u327 u328 u329 u330 u331 u332 u333 u334 u335 u336 u337 u338 u339 u340 u341 u342 u343 u344 u345 u346 : Value) :
    Code.wp Try.prog afterK (bodyPost Try.prog Try.f7 fun e w' => e = .returned (.bool true) ∧ Below w0.heap.size w0 w') ⟨#[u0, u1, .slice a3 l l, u3, u4, u5, .bool false, u7, u8, u9, u10, u11, u12, u13, u14, u15, u16, u17, u18, u19, u20, u21, u22, u23, u24, u25, u26, u27, .slice (some ⟨gk, 0, none⟩) l l, u29, u30, u31, u32, u33, u34, u35, .slice wa l l, .slice wa kl l, u38, u39, u40, u41, u42, u43, u44, u45, u46, u47, u48, u49, u50, u51, u52, u53, u54, u55, u56, u57, u58, u59, u60, u61, u62, u63, u64, u65, u66, u67, u68, u69, u70, u71, u72, u73, u74, u75, u76, u77, u78, u79, u80, u81, u82, u83, u84, u85, u86, u87, u88, u89, u90, u91, u92, u93, u94, u95, u96, u97, u98, u99, u100, u101, u102, u103, u104, u105, u106, u107, u108, u109, u110, u111, u112, u113, u114, u115, u116, u117, u118, u119, u120, u121, u122, u123, u124, u125, u126, u127, u128, u129, u130, u131, u132, u133, u134, u135, u136, u137, u138, u139, u140, u141, u142, u143, u144, u145, u146, u147, u148, u149, u150, u151, u152, u153, u154, u155, u156, u157, u158, u159, u160, u161, u162, u163, u164, u165, u166, u167, u168, u169, u170, u171, u172, u173, u174, u175, u176, u177, u178, u179, u180, u181, u182, u183, u184, u185, u186, u187, u188, u189, u190, u191, u192, u193, u194, u195, u196, u197, u198, u199, u200, u201, u202, u203, u204, u205, u206, u207, u208, u209, u210, u211, u212, u213, u214, u215, u216, u217, u218, u219, u220, u221, u222, u223, u224, u225, u226, u227, u228, u229, u230, u231, u232, u233, u234, u235, u236, u237, u238, u239, u240, u241, u242, u243, u244, u245, u246, u247, u248, u249, u250, u251, u252, u253, u254, u255, u256, u257, u258, u259, u260, u261, u262, u263, u264, u265, u266, u267, u268, u269, u270, u271, u272, u273, u274, u275, u276, u277, u278, u279, u280, u281, u282, u283, u284, u285, u286, u287, u288, u289, u290, u291, u292, u293, u294, u295, u296, u297, u298, u299, u300, u301, u302, u303, u304, u305, u306, u307, u308, u309, u310, u311, u312, u313, u314, u315, u316, u317, u318, u319, u320, u321, u322, u323, u324, u325, u326, u327, u328, u329, u330, u331, u332, u333, u334, u335, u336, u337, u338, u339, u340, u341, u342, u343, u344, u345, u346], []⟩ w12 := by
  conv => arg 2; whnf
  go_wp2_with fail
  go_loopw [38, 39] (fun s38 s39 wx => ∃ k : Nat, k ≤ l ∧ s39 = .int .i64 k ∧ s38 = .int .i64 ((cntK f L k : Nat) : Int) ∧ Below w12.heap.size w12 wx) (fun _ s39 _ => l - (intOf s39).toNat)
  case atStart => exact ⟨0, by omega, rfl, by simp [cntK], Below.refl _ _⟩
  case round =>
    obtain ⟨k, hk, rfl, rfl, hb⟩ := hrel
    by_cases hkl2 : k < l
    · obtain ⟨x, hx⟩ : ∃ x, nat L k = x := ⟨_, rfl⟩
      have hkL : k < L.length := by rw [HLL.out]; exact hkl2
      have d0 : wr.cell? ⟨gk, k, none⟩ = some (.bool (f x)) := by rw [← hx]; exact (hk12.below hb hk12.lt).cellAt hkl2 hkl2
      have hqr := Row.below hq12 hb
      obtain ⟨b1, off1, rfl, hbl1, d1⟩ := Ints.get hqr (i := k) (v := (x : Int)) (by rw [ofN_len, HLL.out]; exact hkl2) (by rw [ofN_at, hx])
      have m1 : (k : Int) < (l : Int) := by omega
      have HX : Hid (nat L k = x) := hx
      clear hx hqr
      cases hfx : f x with
      | false =>
        have HCN : Hid (cntK f L (k + 1) = cntK f L k) := cntK_miss hkL (by rw [HX.out]; exact hfx)
        rw [hfx] at d0
        clear hfx
        go_wp2
        go_roundw
        case rel => exact ⟨k + 1, by omega, by go_num, by rw [HCN.out], hb⟩
        case measure => simp [intOf]; omega
      | true =>
        have HCN : Hid (cntK f L (k + 1) = cntK f L k + 1) := cntK_hit hkL (by rw [HX.out]; exact hfx)
        have hca := cntK_at hkL (f := f) (by rw [HX.out]; exact hfx)
        rw [HX.out, HKL.out] at hca
        rw [hfx] at d0
        obtain ⟨j, hj⟩ : ∃ j, cntK f L k = j := ⟨_, rfl⟩
        rw [hj] at hca
        have HJ : Hid (cntK f L k = j) := hj
        rw [hj]
        have hjk : j < kl := hca.1
        have hAj : A j = x := by rw [HKP.out.low j (by rw [HKL.out]; exact hjk)]; exact hca.2
        obtain ⟨b2, off2, rfl, hbl2, d2⟩ := (hwork.below hb) j (by omega)
        replace d2 : wr.cell? ⟨b2, off2 + j, none⟩ = some (.int .i64 (x : Int)) := by rw [← hAj]; exact d2
        have m2 : decide ((kl : Int) ≤ (j : Int)) = false := decide_eq_false (by omega)
        have m3 : (j : Int) < (kl : Int) := by omega
        have m4 : ((x : Int) != (x : Int)) = false := by simp
        clear hfx hca hj hAj
        go_upto_region 60 with (fail)
        go_quiet (fail)
        go_wp2
        go_roundw
        case rel => exact ⟨k + 1, by omega, by go_num, by rw [HCN.out, HJ.out]; go_num, below_drewN hb _⟩
        case measure => simp [intOf]; omega
    · obtain rfl : k = l := by omega
      have HCE : Hid (cntK f L k = kl) := by show _ = _; rw [← HKL.out, ← cntK_end, HLL.out]
      rw [HCE.out]
      have m1 : ¬ (k : Int) < (k : Int) := by omega
      have m2 : ((kl : Int) != (kl : Int)) = false := by simp
      have m3 : ((k : Int) != (k : Int)) = false := by simp
      clear hk12
      have hb16 := hb15.trans (hb.mono hb15.size)
      have hq13 : Ints .i64 wr a3 (ofN L) := Row.below hq12 hb
      have hw13 := hwork.below hb
      clear hq12 hwork hb15 hb
      rename World => W13
      go_wp2_with fail
      go_loopw [40] (fun s40 wx => ∃ c : Nat, c ≤ k ∧ s40 = .int .i64 c ∧ Below W13.heap.size W13 wx) (fun s40 _ => k - (intOf s40).toNat)
      case atStart => exact ⟨0, by omega, rfl, Below.refl _ _⟩
      case round =>
        obtain ⟨c, hc, rfl, hb⟩ := hrel
        by_cases hck : c < k
        · obtain ⟨y, hy⟩ : ∃ y, A c = y := ⟨_, rfl⟩
          obtain ⟨b2, off2, rfl, hbl2, d2⟩ := (hw13.below hb) c hck
          replace d2 : wr.cell? ⟨b2, off2 + c, none⟩ = some (.int .i64 (y : Int)) := by rw [← hy]; exact d2
          have n1 : (c : Int) < (k : Int) := by omega
          by_cases hckl : c < kl
          · have n2 : (c : Int) < (kl : Int) := by omega
            have n3 : ((y : Int) != (y : Int)) = false := by simp
            clear hy
            go_upto_region 69 with (fail)
            go_quiet (fail)
            go_wp2
            go_roundw
            case rel => exact ⟨c + 1, by omega, by go_num, below_drewN hb _⟩
            case measure => simp [intOf]; omega
          · have n2 : ¬ (c : Int) < (kl : Int) := by omega
            obtain ⟨h, hh1, hh2, hh3⟩ := HKP.out.all c hck
            rw [hy] at hh3
            obtain ⟨x, hx⟩ : ∃ x, nat L c = x := ⟨_, rfl⟩
            have hxy : x ≤ y := by rw [← hx, hh3]; exact HINC.out.le hh1 (by rw [HLL.out]; exact hh2)
            have HHAS : Hid (∃ j, j < k ∧ iat (ofN L) j = (y : Int)) := ⟨h, hh2, by rw [ofN_at, ← hh3]⟩
            have hqr : Ints .i64 wr a3 (ofN L) := Row.below hq13 hb
            obtain ⟨b1, off1, rfl, hbl1, d1⟩ := Ints.get hqr (i := c) (v := (x : Int)) (by rw [ofN_len, HLL.out]; exact hck) (by rw [ofN_at, hx])
            have n3 : decide ((y : Int) < (x : Int)) = false := decide_eq_false (by omega)
            have HQR : Hid (Ints .i64 wr (some ⟨b1, off1, none⟩) (ofN L)) := hqr
            have hkk : k ≤ 1048576 := by omega
            have HCALL : Hid (∀ nn, Calls Try.prog 32 #[.slice (some ⟨b1, off1, none⟩) k k, .int .i64 (y : Int)] (wr.drewN nn) fun e w' => e = .returned (.bool true) ∧ w' = wr.drewN nn) := fun nn => by
              refine (has_any (some ⟨b1, off1, none⟩) k k (ofN L) (y : Int) (wr.drewN nn) HZ hkk (Row.below HQR.out (below_drewN (Below.refl _ _) nn)) HSO).mono ?_
              rintro e w14 ⟨⟨r, rfl, hr⟩, hw⟩
              obtain rfl : r = true := hr.2 HHAS.out
              exact ⟨rfl, hw⟩
            clear hy hx hh1 hh2 hh3 hqr
            go_upto_region 71 with (fail)
            go_quiet ((go_at_call 32; exact Calls.quiet_of_same (HCALL.out _)))
            go_wp2
            go_roundw
            case rel => exact ⟨c + 1, by omega, by go_num, below_drewN hb _⟩
            case measure => simp [intOf]; omega
        · obtain rfl : c = k := by omega
          have n1 : ¬ (c : Int) < (c : Int) := by omega
          go_wp2
          go_ret
          exact ⟨rfl, hb16.trans (hb.mono hb16.size)⟩
end Go.Proofs.Qxb6601200a
