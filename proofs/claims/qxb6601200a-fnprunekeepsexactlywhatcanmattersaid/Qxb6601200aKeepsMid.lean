import Derived.Test.Qxb6601200aKeepsRest
import Derived.Deep.DeepCutAuto
import Derived.Deep.RegionHeld3
import Derived.Deep.CutBlock
import Derived.BigQuiet
set_option linter.unusedSimpArgs false
set_option linter.unusedVariables false
namespace Go.Proofs.Qxb6601200a
open Go.RowKit

def stP (tk : Nat → Int) (ow : Nat → Nat) (cu : Nat → Int) (mm : Nat) (L : List Nat) (c : Nat) : Int := (stt tk ow cu mm (L.drop c)).1
def stS (tk : Nat → Int) (ow : Nat → Nat) (cu : Nat → Int) (mm : Nat) (L : List Nat) (c : Nat) : Bool := (stt tk ow cu mm (L.drop c)).2.1
def stM (tk : Nat → Int) (ow : Nat → Nat) (cu : Nat → Int) (mm : Nat) (L : List Nat) (c : Nat) : Int := (stt tk ow cu mm (L.drop c)).2.2
section
variable {tk : Nat → Int} {ow : Nat → Nat} {cu : Nat → Int} {mm : Nat} {L : List Nat} {c : Nat}
theorem stP_end : stP tk ow cu mm L L.length = -1 := by simp [stP, stt]
theorem stS_end : stS tk ow cu mm L L.length = false := by simp [stS, stt]
theorem stM_end : stM tk ow cu mm L L.length = (mm : Int) := by simp [stM, stt]
theorem st_step (h : c < L.length) : stP tk ow cu mm L c = (ow (nat L c) : Int) ∧ stS tk ow cu mm L c = (ssAt tk ow cu mm (ow (nat L c)) (L.drop (c + 1)) || tk (nat L c) == -2) ∧
    stM tk ow cu mm L c = if (tk (nat L c) == -5) = true ∧ cu (nat L c) < mcAt tk ow cu mm (ow (nat L c)) (L.drop (c + 1)) then cu (nat L c) else mcAt tk ow cu mm (ow (nat L c)) (L.drop (c + 1)) := by
  unfold stP stS stM
  rw [drop_nat h, stt_cons]
  exact ⟨rfl, rfl, rfl⟩
end
theorem RowHi.put {w : World} {g : Nat} {e : TypeId} {n c : Nat} {f : Nat → Value} {v : Value} (h : RowHi w g e n (c + 1) f) (hv : f c = v) : RowHi (w.setCell ⟨g, c, none⟩ v) g e n c f := by
  subst hv; exact h.step


noncomputable def afterM : Code := (Try.f7.body.bind (afterRegion 34)).getD .skip

set_option maxRecDepth 100000 in
set_option maxHeartbeats 4000000 in
theorem keeps_mid (x1 x2 x3 a2 a3 aat aow acu : Option Addr) (p m l i mm N cl cc gw : Nat) (ps : List Pat) (gs : List Int) (L : List Nat) (f : Nat → Bool) (wh : Nat → Option Nat) (w0 W9 W : World) (HN : Hid (ps.length = p)) (HM : Hid (gs.length = m)) (HZ : Hid ((ofN L).length = l)) (HLL : Hid (L.length = l)) (HINC : Hid (Incs L)) (HSO : Hid (SortedI l (ofN L)))
    (hsum : p + tlen ps + m + l ≤ 1048576) (hn1 : p ≤ 65536) (hm1 : m ≤ 65536) (hl1 : l ≤ 65536) (hnm : p ≤ m) (hmm : mm ≤ 4194304) (hgc : i ≤ 65537) (HML : Hid ((atTo ps p).length = mm)) (HLT : Hid (∀ k, k < l → nat L k < (atTo ps p).length)) (HLTM : Hid (∀ k, k < L.length → nat L k < mm))
    (HGS : Hid (∀ i, i < m → -9223372036854775808 ≤ iat gs i ∧ iat gs i ≤ 65536)) (HDM : Hid (∀ k, k < p → 0 ≤ iat gs k)) (HGR : Hid (∀ q, q < p → iat gs q = ((grF gs q : Nat) : Int) ∧ grF gs q < i))
    (HF : Hid (keepB (tkF ps p) (owF ps p) (grF gs) (cuF ps p) L = f))
    (HKB : Hid (∀ c, c < l → f (nat L c) = ((!(ssAt (tkF ps p) (owF ps p) (cuF ps p) mm (owF ps p (nat L c)) (L.drop (c + 1))) && decide (((nat L c : Nat) : Int) ≤ mcAt (tkF ps p) (owF ps p) (cuF ps p) mm (owF ps p (nat L c)) (L.drop (c + 1)))) && ownWh (wh (grF gs (owF ps p (nat L c)))) (owF ps p (nat L c)))))
    (hat9 : Ints .i32 W9 aat (atTo ps p)) (how9 : Ints .i64 W9 aow (owTo ps p)) (hcu9 : CutR W9 acu cl (atTo ps p) (fiTo ps p) (owTo ps p)) (hq9 : Ints .i64 W9 a3 (ofN L)) (r19 : Row W9 x1 p (fun i => .string (ptx ps i))) (r29 : Row W9 x2 p (fun i => .bool (pfo ps i))) (r39 : Row W9 x3 p (fun i => .bool (pli ps i))) (hg9 : Ints .i64 W9 a2 gs)
    (hrow2 : RowN W9 gw 3 i i (fun g => .int .i64 (wv (wh g)))) (hb11 : Below w0.heap.size w0 W9) (hbW : Below W9.heap.size W9 W) (hrk : RowHi W W9.heap.size 4 l l (fun i => .bool (f (nat L i))))
    (u0 u3 u4 u5 u12 u13 u14 u15 u17 u18 u19 u20 u21 u22 u24 u25 u26 u27 u29 u30 u31 u32 u33 u34 u35 u36 u37 u38 u39 u40 u41 u42 u43 u44 u45 u46 u47 u48 u49 u50 u51 u52 u53 u54 u55 u56 u57 u58 u59 u60 u61 u62 u63 u64 u65 u66 u67 u68 u69 u70 u71 u72 u73 u74 u75 u76 u77 u78 u79 u80 u81 u82 u83 u84 u85 u86 u87 u88 u89 u90 u91 u92 u93 u94 u95 u96 u97 u98 u99 u100 u101 u102 u103 u104 u105 u106 u107 u108 u109 u110 u111 u112 u113 u114 u115 u116 u117 u118 u119 u120 u121 u122 u123 u124 u125 u126 u127 u128 u129 u130 u131 u132 u133 u134 u135 u136 u137 u138 u139 u140 u141 u142 u143 u144 u145 u146 u147 u148 u149 u150 u151 u152 u153 u154 u155 u156 u157 u158 u159 u160 u161 u162 u163 u164 u165 u166 u167 u168 u169 u170 u171 u172 u173 u174 u175 u176 u177 u178 u179 u180 u181 u182 u183 u184 u185 u186 u187 u188 u189 u190 u191 u192 u193 u194 u195 u196 u197 u198 u199 u200 u201 u202 u203 u204 u205 u206 u207 u208 u209 u210 u211 u212 u213 u214 u215 u216 u217 u218 u219 u220 u221 u222 u223 u224 u225 u226 u227 u228 u229 u230 u231 u232 u233 u234 u235 u236 u237 u238 u239 u240 u241 u242 u243 u244 u245 u246 u247 u248 u249 u250 u251 u252 u253 u254 u255 u256 u257 u258 u259 u260 u261 u262 u263 u264 u265 u266 u267 u268 u269 u270 u271 u272 u273 u274 u275 u276 u277 u278 u279 u280 u281 u282 u283 u284 u285 u286 u287 u288 u289 u290 u291 u292 u293 u294 u295 u296 u297 u298 u299 u300 u301 u302 u303 u304 u305 u306 u307 u308 u309 u310 u311 u312 u313 u314 u315 u316 u317 u318 u319 u320 u321 u322 u323 u324 u325 u326 u327 u328 u329 u330 u331 u332 u333 u334 u335 u336 u337 u338 u339 u340 u341 u342 u343 u344 u345 u346 : Value) :
    Code.wp Try.prog afterM (bodyPost Try.prog Try.f7 fun e w' => e = .returned (.bool true) ∧ Below w0.heap.size w0 w') ⟨#[u0, .slice a2 m m, .slice a3 l l, u3, u4, u5, .bool false, .slice x1 p p, .slice x2 p p, .slice x3 p p, .slice aat mm N, .slice aow mm N, u12, u13, u14, u15, .slice acu cl cc, u17, u18, u19, u20, u21, u22, .slice (some ⟨gw, 0, none⟩) i i, u24, u25, u26, u27, .slice (some ⟨W9.heap.size, 0, none⟩) l l, u29, u30, u31, u32, u33, u34, u35, u36, u37, u38, u39, u40, u41, u42, u43, u44, u45, u46, u47, u48, u49, u50, u51, u52, u53, u54, u55, u56, u57, u58, u59, u60, u61, u62, u63, u64, u65, u66, u67, u68, u69, u70, u71, u72, u73, u74, u75, u76, u77, u78, u79, u80, u81, u82, u83, u84, u85, u86, u87, u88, u89, u90, u91, u92, u93, u94, u95, u96, u97, u98, u99, u100, u101, u102, u103, u104, u105, u106, u107, u108, u109, u110, u111, u112, u113, u114, u115, u116, u117, u118, u119, u120, u121, u122, u123, u124, u125, u126, u127, u128, u129, u130, u131, u132, u133, u134, u135, u136, u137, u138, u139, u140, u141, u142, u143, u144, u145, u146, u147, u148, u149, u150, u151, u152, u153, u154, u155, u156, u157, u158, u159, u160, u161, u162, u163, u164, u165, u166, u167, u168, u169, u170, u171, u172, u173, u174, u175, u176, u177, u178, u179, u180, u181, u182, u183, u184, u185, u186, u187, u188, u189, u190, u191, u192, u193, u194, u195, u196, u197, u198, u199, u200, u201, u202, u203, u204, u205, u206, u207, u208, u209, u210, u211, u212, u213, u214, u215, u216, u217, u218, u219, u220, u221, u222, u223, u224, u225, u226, u227, u228, u229, u230, u231, u232, u233, u234, u235, u236, u237, u238, u239, u240, u241, u242, u243, u244, u245, u246, u247, u248, u249, u250, u251, u252, u253, u254, u255, u256, u257, u258, u259, u260, u261, u262, u263, u264, u265, u266, u267, u268, u269, u270, u271, u272, u273, u274, u275, u276, u277, u278, u279, u280, u281, u282, u283, u284, u285, u286, u287, u288, u289, u290, u291, u292, u293, u294, u295, u296, u297, u298, u299, u300, u301, u302, u303, u304, u305, u306, u307, u308, u309, u310, u311, u312, u313, u314, u315, u316, u317, u318, u319, u320, u321, u322, u323, u324, u325, u326, u327, u328, u329, u330, u331, u332, u333, u334, u335, u336, u337, u338, u339, u340, u341, u342, u343, u344, u345, u346], []⟩ W := by
  conv => arg 2; whnf
  go_wp2_with fail
  go_loopw [29, 30, 31, 32] (fun s29 s30 s31 s32 wx => ∃ c : Nat, c ≤ l ∧ s32 = .int .i64 ((c : Int) - 1) ∧ s29 = .int .i64 (stP (tkF ps p) (owF ps p) (cuF ps p) mm L c) ∧ s30 = .bool (stS (tkF ps p) (owF ps p) (cuF ps p) mm L c) ∧ s31 = .int .i64 (stM (tkF ps p) (owF ps p) (cuF ps p) mm L c) ∧ Below W9.heap.size W9 wx ∧ RowHi wx W9.heap.size 4 l c (fun i => .bool (f (nat L i)))) (fun _ _ _ s32 _ => (intOf s32 + 1).toNat)
  case atStart =>
    refine ⟨l, by omega, by first | rfl | trivial, ?_, ?_, ?_, hbW, hrk⟩
    · rw [← HLL.out, stP_end]
    · rw [← HLL.out, stS_end]
    · rw [← HLL.out, stM_end]
  case round =>
    obtain ⟨c, hc, rfl, rfl, rfl, rfl, hb, hrow⟩ := hrel
    by_cases hc0 : 0 < c
    · obtain ⟨d, rfl⟩ : ∃ d, c = d + 1 := ⟨c - 1, by omega⟩
      rw [show (((d + 1 : Nat) : Int) - 1) = (d : Int) by omega]
      have hdl : d < l := by omega
      obtain ⟨x, hx⟩ : ∃ x, nat L d = x := ⟨_, rfl⟩
      have hxm : x < mm := by rw [← hx]; exact HLTM.out d (by rw [HLL.out]; exact hdl)
      have hxa : x < (atTo ps p).length := by rw [HML.out]; exact hxm
      have hsp := owF_spec ps p x hxa
      obtain ⟨q, hq⟩ : ∃ q, owF ps p x = q := ⟨_, rfl⟩
      rw [hq] at hsp
      have hqn : q < p := hsp.1
      obtain ⟨g, hg⟩ : ∃ g, grF gs q = g := ⟨_, rfl⟩
      have hgg := HGR.out q hqn
      rw [hg] at hgg
      have hgi := hgg.2
      obtain ⟨hs1, hs2, hs3⟩ := st_step (tk := tkF ps p) (ow := owF ps p) (cu := cuF ps p) (mm := mm) (L := L) (c := d) (by rw [HLL.out]; exact hdl)
      have hkb := HKB.out d hdl
      rw [hx, hq, hg] at hkb
      rw [hx, hq] at hs1 hs2 hs3
      have hss1 : ssAt (tkF ps p) (owF ps p) (cuF ps p) mm q (L.drop (d + 1)) = if (q : Int) = stP (tkF ps p) (owF ps p) (cuF ps p) mm L (d + 1) then stS (tkF ps p) (owF ps p) (cuF ps p) mm L (d + 1) else false := rfl
      have hmc1 : mcAt (tkF ps p) (owF ps p) (cuF ps p) mm q (L.drop (d + 1)) = if (q : Int) = stP (tkF ps p) (owF ps p) (cuF ps p) mm L (d + 1) then stM (tkF ps p) (owF ps p) (cuF ps p) mm L (d + 1) else (mm : Int) := rfl
      generalize ssAt (tkF ps p) (owF ps p) (cuF ps p) mm q (L.drop (d + 1)) = ss at hs2 hkb hss1
      generalize mcAt (tkF ps p) (owF ps p) (cuF ps p) mm q (L.drop (d + 1)) = mc at hs3 hkb hmc1
      generalize stP (tkF ps p) (owF ps p) (cuF ps p) mm L (d + 1) = P0 at hss1 hmc1 ⊢
      generalize stS (tkF ps p) (owF ps p) (cuF ps p) mm L (d + 1) = S0 at hss1 ⊢
      generalize stM (tkF ps p) (owF ps p) (cuF ps p) mm L (d + 1) = M0 at hmc1 ⊢
      have HS1 : Hid (stP (tkF ps p) (owF ps p) (cuF ps p) mm L d = (q : Int)) := hs1
      have HS2 : Hid (stS (tkF ps p) (owF ps p) (cuF ps p) mm L d = (ss || tkF ps p x == -2)) := hs2
      have HS3 : Hid (stM (tkF ps p) (owF ps p) (cuF ps p) mm L d = if (tkF ps p x == -5) = true ∧ cuF ps p x < mc then cuF ps p x else mc) := hs3
      have HV : Hid (f (nat L d) = (!ss && decide ((x : Int) ≤ mc) && ownWh (wh g) q)) := by show _ = _; rw [hx]; exact hkb
      have HSS : Hid (ss = if (q : Int) = P0 then S0 else false) := hss1
      have HMC : Hid (mc = if (q : Int) = P0 then M0 else (mm : Int)) := hmc1
      have hbq := Row.below hq9 hb
      obtain ⟨b1, off1, rfl, hbl1, d1⟩ := Ints.get hbq (i := d) (v := (x : Int)) (by rw [ofN_len, HLL.out]; exact hdl) (by rw [ofN_at, hx])
      have hbo := Row.below how9 hb
      obtain ⟨b2, off2, rfl, hbl2, d2⟩ := Ints.get hbo (i := x) (v := (q : Int)) (by rw [owTo_len]; exact hxa) hsp.2.2.2
      have m1 : (d : Int) < (l : Int) := by omega
      have m2 : (x : Int) < (mm : Int) := by omega
      have m3 : (q : Int) < (m : Int) := by omega
      have m4 : (g : Int) < (i : Int) := by omega
      have m5 : (0 : Int) ≤ (d : Int) := by omega
      have HX : Hid (nat L d = x) := hx
      have HGG : Hid (iat gs q = (g : Int)) := hgg.1
      clear hs1 hs2 hs3 hkb hss1 hmc1 hx hq hg hgg hsp hbq hbo
      go_upto_if 209 with (fail)
      go_cut [29, 30, 31] (fun s29 s30 s31 wz => s29 = .int .i64 (q : Int) ∧ s30 = .bool ss ∧ s31 = .int .i64 mc ∧ wz = wr)
      case first =>
        cases hne : ((q : Int) != P0) with
        | true =>
          have hne2 : ¬ (q : Int) = P0 := by simpa using hne
          have HA : Hid (ss = false ∧ mc = (mm : Int)) := by have h1 := HSS.out; have h2 := HMC.out; rw [if_neg hne2] at h1 h2; exact ⟨h1, h2⟩
          clear hne2
          go_wp2
          go_meet
          case rel => exact ⟨rfl, by rw [HA.out.1], by rw [HA.out.2], rfl⟩
        | false =>
          have hne2 : (q : Int) = P0 := by simpa using hne
          have HA : Hid (ss = S0 ∧ mc = M0) := by have h1 := HSS.out; have h2 := HMC.out; rw [if_pos hne2] at h1 h2; exact ⟨h1, h2⟩
          have HA2 : Hid ((q : Int) = P0) := hne2
          clear hne2
          go_wp2
          go_meet
          case rel => exact ⟨by rw [HA2.out], by rw [HA.out.1], by rw [HA.out.2], rfl⟩
      case rest =>
        obtain ⟨rfl, rfl, rfl, rfl⟩ := hcut
        have hbg : Ints .i64 wc a2 gs := Row.below hg9 hb
        obtain ⟨b3, off3, rfl, hbl3, d3⟩ := Ints.get hbg (i := q) (v := (g : Int)) (by rw [HM.out]; omega) HGG.out
        have d4 : wc.cell? ⟨gw, g, none⟩ = some (.int .i64 (wv (wh g))) := (hrow2.below hb hrow2.lt).cellAt hgi hgi
        obtain ⟨u5, d5⟩ := hrow.cell hdl
        have z5 := hrow.frozen d
        go_upto_region 48 with (fail)
        clear hbg d1 d2 d3
        go_cut [] (fun wz => Below W9.heap.size W9 wz ∧ RowHi wz W9.heap.size 4 l d (fun i => .bool (f (nat L i))))
        case first =>
          cases ss with
          | true =>
            have HV2 : Hid (f (nat L d) = false) := by show _ = _; rw [HV.out]; rfl
            go_wp2
            go_meet
            case rel => exact ⟨hb.setCell (Nat.le_refl _) _, hrow.put (by rw [HV2.out])⟩
          | false =>
            by_cases hxc : (x : Int) ≤ mc
            · have n1 : decide ((x : Int) ≤ mc) = true := decide_eq_true hxc
              cases hw : wh g with
              | none =>
                have HV2 : Hid (f (nat L d) = true) := by show _ = _; rw [HV.out, n1, hw]; rfl
                rw [hw] at d4
                replace d4 : wc.cell? ⟨gw, g, none⟩ = some (.int .i64 (-1)) := d4
                clear hw
                go_wp2
                go_meet
                case rel => exact ⟨hb.setCell (Nat.le_refl _) _, hrow.put (by rw [HV2.out])⟩
              | some o =>
                rw [hw] at d4
                replace d4 : wc.cell? ⟨gw, g, none⟩ = some (.int .i64 (o : Int)) := d4
                have n2 : decide ((o : Int) < 0) = false := decide_eq_false (by omega)
                cases hoq : ((o : Int) == (q : Int)) with
                | true =>
                  have HV2 : Hid (f (nat L d) = true) := by
                    have : o = q := by have := beq_iff_eq.1 hoq; omega
                    show _ = _; rw [HV.out, n1, hw, this]; simp [ownWh]
                  clear hw
                  go_wp2
                  go_meet
                  case rel => exact ⟨hb.setCell (Nat.le_refl _) _, hrow.put (by rw [HV2.out])⟩
                | false =>
                  have HV2 : Hid (f (nat L d) = false) := by
                    have : ¬ o = q := by have := beq_eq_false_iff_ne.1 hoq; omega
                    show _ = _; rw [HV.out, n1, hw]; simp [ownWh, this]
                  clear hw
                  go_wp2
                  go_meet
                  case rel => exact ⟨hb.setCell (Nat.le_refl _) _, hrow.put (by rw [HV2.out])⟩
            · have n1 : decide ((x : Int) ≤ mc) = false := decide_eq_false hxc
              have HV2 : Hid (f (nat L d) = false) := by show _ = _; rw [HV.out, n1]; rfl
              go_wp2
              go_meet
              case rel => exact ⟨hb.setCell (Nat.le_refl _) _, hrow.put (by rw [HV2.out])⟩
        case rest =>
          clear d4 d5 z5 hb hrow HV
          obtain ⟨hb, hrow⟩ := hcut
          have hba := Row.below hat9 hb
          obtain ⟨b6, off6, rfl, hbl6, d6⟩ := Ints.get hba (i := x) (v := tkF ps p x) hxa rfl
          clear hba
          cases t2 : (tkF ps p x == -2) with
          | true =>
            have t5 : (tkF ps p x == -5) = false := by rw [beq_iff_eq.1 t2]; rfl
            have HN2 : Hid (stS (tkF ps p) (owF ps p) (cuF ps p) mm L d = true) := by show _ = _; rw [HS2.out, t2, Bool.or_true]
            have HN3 : Hid (stM (tkF ps p) (owF ps p) (cuF ps p) mm L d = mc) := by show _ = _; rw [HS3.out, if_neg]; rw [t5]; simp
            go_wp2
            go_roundw
            case rel => exact ⟨d, by omega, by first | rfl | trivial | go_num, by rw [HS1.out], by rw [HN2.out], by rw [HN3.out], hb, hrow⟩
            case measure => simp [intOf]
          | false =>
            have HN2 : Hid (stS (tkF ps p) (owF ps p) (cuF ps p) mm L d = ss) := by show _ = _; rw [HS2.out, t2, Bool.or_false]
            cases t5 : (tkF ps p x == -5) with
            | false =>
              have HN3 : Hid (stM (tkF ps p) (owF ps p) (cuF ps p) mm L d = mc) := by show _ = _; rw [HS3.out, if_neg]; rw [t5]; simp
              go_wp2
              go_roundw
              case rel => exact ⟨d, by omega, by first | rfl | trivial | go_num, by rw [HS1.out], by rw [HN2.out], by rw [HN3.out], hb, hrow⟩
              case measure => simp [intOf]
            | true =>
              have hfe := fields_of_tok hxa (beq_iff_eq.1 t5)
              have hcut2 := hcu9
              rcases hcut2 with ⟨e1, _⟩ | ⟨e1, e2, e3, e4⟩
              · rw [e1] at hfe; cases hfe
              · obtain ⟨b7, off7, rfl, hbl7, d7⟩ := (e4.below hb) x hxa
                rw [HML.out] at e3
                have m6 : (x : Int) < (cl : Int) := by omega
                replace d7 : wc.cell? ⟨b7, off7 + x, none⟩ = some (.int .i64 (cuF ps p x)) := d7
                clear e1 e2 e3 e4 hfe
                by_cases hcm : cuF ps p x < mc
                · have HN3 : Hid (stM (tkF ps p) (owF ps p) (cuF ps p) mm L d = cuF ps p x) := by show _ = _; rw [HS3.out, if_pos ⟨t5, hcm⟩]
                  have n3 : decide (cuF ps p x < mc) = true := decide_eq_true hcm
                  go_wp2
                  go_roundw
                  case rel => exact ⟨d, by omega, by first | rfl | trivial | go_num, by rw [HS1.out], by rw [HN2.out], by rw [HN3.out], hb, hrow⟩
                  case measure => simp [intOf]
                · have HN3 : Hid (stM (tkF ps p) (owF ps p) (cuF ps p) mm L d = mc) := by show _ = _; rw [HS3.out, if_neg (fun h => hcm h.2)]
                  have n3 : decide (cuF ps p x < mc) = false := decide_eq_false hcm
                  go_wp2
                  go_roundw
                  case rel => exact ⟨d, by omega, by first | rfl | trivial | go_num, by rw [HS1.out], by rw [HN2.out], by rw [HN3.out], hb, hrow⟩
                  case measure => simp [intOf]
    · obtain rfl : c = 0 := by omega
      have hkeep : RowN wr W9.heap.size 4 l l (fun i => .bool (f (nat L i))) := hrow.all
      have hq10 : Ints .i64 wr a3 (ofN L) := Row.below hq9 hb
      have r110 := r19.below hb
      have r210 := r29.below hb
      have r310 := r39.below hb
      have hg10 : Ints .i64 wr a2 gs := Row.below hg9 hb
      have hb12 := hb11.trans (hb.mono hb11.size)
      clear hrow hb hb11 hat9 how9 hcu9 hq9 r19 r29 r39 hg9 hrow2 HKB
      go_wp2_with fail
      refine (cloneInts_any a3 l l (ofN L) _ HZ (by omega) hq10).mono ?_
      rintro e w11 ⟨hce, hb13⟩
      obtain ⟨wa, rfl, hpos, hwa⟩ := PosIn.of_clone hce
      have hk11 : RowN w11 W9.heap.size 4 l l (fun i => .bool (f (nat L i))) := hkeep.below hb13 hkeep.lt
      have hq11 : Ints .i64 w11 a3 (ofN L) := Row.below hq10 hb13
      have r111 := r110.below hb13
      have r211 := r210.below hb13
      have r311 := r310.below hb13
      have hg11 : Ints .i64 w11 a2 gs := Row.below hg10 hb13
      have hb14 := hb12.trans (hb13.mono hb12.size)
      have hs12 := hb12.size
      have hsep : ∀ b off g, 0 < m → a2 = some ⟨b, off, none⟩ → wa = some g → b ≠ g.block := fun b off g hm e1 e2 => by
        obtain ⟨b', off', e3, h4, _⟩ := hg10 0 (by rw [HM.out]; exact hm)
        rw [e1] at e3
        simp only [Option.some.injEq, Addr.mk.injEq, and_true] at e3
        obtain ⟨rfl, rfl⟩ := e3
        have := (hwa g e2).1
        omega
      have hsepq : ∀ b off g, 0 < (ofN L).length → a3 = some ⟨b, off, none⟩ → wa = some g → b ≠ g.block := fun b off g hm e1 e2 => by
        obtain ⟨b', off', e3, h4, _⟩ := hq10 0 hm
        rw [e1] at e3
        simp only [Option.some.injEq, Addr.mk.injEq, and_true] at e3
        obtain ⟨rfl, rfl⟩ := e3
        have := (hwa g e2).1
        omega
      have hklt := hkeep.lt
      clear hce hkeep hq10 r110 r210 r310 hg10 hb12 hb13
      go_upto_region 54 with (fail)
      go_cut [37] (fun s37 wz => ∃ (A : Nat → Nat) (kl : Nat), s37 = .slice wa kl l ∧ Hid ((L.filter f).length = kl) ∧ kl ≤ l ∧ Hid (Kp L l (L.filter f) l A) ∧ Ints .i64 wz a3 (ofN L) ∧ RowN wz W9.heap.size 4 l l (fun i => .bool (f (nat L i))) ∧ Row wz wa l (fun i => .int .i64 ((A i : Nat) : Int)) ∧ Below w0.heap.size w0 wz)
      case first =>
        go_wp2_with fail
        refine (zzPrune_any x1 x2 x3 a2 wa p m l p p p m ps gs L _ HN HM (by omega) (by omega) (by omega) (by omega) r111 r211 r311 hg11 HGS.out hnm HDM.out HLL HINC.out HLT.out hpos hsep).mono ?_
        rintro e w12 ⟨⟨A, rfl, hkp, hwork⟩, haw⟩
        have hq12 : Ints .i64 w12 a3 (ofN L) := row_away hq11 haw hsepq
        have hk12 : RowN w12 W9.heap.size 4 l l (fun i => .bool (f (nat L i))) := hk11.of_block (haw.block _ hk11.lt (fun g e => by have := (hwa g e).1; omega))
        have hb15 := hb14.trans (haw.below hb14.size (fun g e => by have := (hwa g e).1; omega))
        have HKO : Hid (keptOf ps gs p L = L.filter f) := by show _ = _; unfold keptOf; rw [HF.out]
        rw [HKO.out] at hkp
        rw [HKO.out]
        obtain ⟨kl, hkl⟩ : ∃ kl, (L.filter f).length = kl := ⟨_, rfl⟩
        have HKL : Hid ((L.filter f).length = kl) := hkl
        have hkll : kl ≤ l := by rw [← hkl]; exact hkp.len
        have HKP : Hid (Kp L l (L.filter f) l A) := hkp
        rw [hkl]
        clear hkl hkp haw hq11 hk11 r111 r211 r311 hg11 hb14 hsep hsepq hpos hklt
        go_wp2
        go_meet
        case rel => exact ⟨A, kl, rfl, HKL, hkll, HKP, hq12, hk12, hwork, hb15⟩
      case rest =>
        obtain ⟨A, kl, rfl, HKL, hkll, HKP, hq12, hk12, hwork, hb15⟩ := hcut
        rename_i hK
        refine hK _ _ ?_
        exact keeps_rest a3 wa l kl _ L f A _ wc HZ HLL HINC HSO hl1 HKL hkll HKP hq12 hk12 hwork hb15 _ _ _ _ _ _ _ _ _ _ _ _ _ _ _ _ _ _ _ _ _ _ _ _ _ _ _ _ _ _ _ _ _ _ _ _ _ _ _ _ _ _ _ _ _ _ _ _ _ _ _ _ _ _ _ _ _ _ _ _ _ _ _ _ _ _ _ _ _ _ _ _ _ _ _ _ _ _ _ _ _ _ _ _ _ _ _ _ _ _ _ _ _ _ _ _ _ _ _ _ _ _ _ _ _ _ _ _ _ _ _ _ _ _ _ _ _ _ _ _ _ _ _ _ _ _ _ _ _ _ _ _ _ _ _ _ _ _ _ _ _ _ _ _ _ _ _ _ _ _ _ _ _ _ _ _ _ _ _ _ _ _ _ _ _ _ _ _ _ _ _ _ _ _ _ _ _ _ _ _ _ _ _ _ _ _ _ _ _ _ _ _ _ _ _ _ _ _ _ _ _ _ _ _ _ _ _ _ _ _ _ _ _ _ _ _ _ _ _ _ _ _ _ _ _ _ _ _ _ _ _ _ _ _ _ _ _ _ _ _ _ _ _ _ _ _ _ _ _ _ _ _ _ _ _ _ _ _ _ _ _ _ _ _ _ _ _ _ _ _ _ _ _ _ _ _ _ _ _ _ _ _ _ _ _ _ _ _ _ _ _ _ _ _ _ _ _ _ _ _ _ _ _ _ _ _ _ _ _ _ _ _ _ _ _ _ _ _ _ _ _ _ _ _ _ _ _ _ _ _ _ _ _ _ _ _ _ _ _ _ _ _
end Go.Proofs.Qxb6601200a
