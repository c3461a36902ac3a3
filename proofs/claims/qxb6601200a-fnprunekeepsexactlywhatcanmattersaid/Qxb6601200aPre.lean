import Derived.Test.Qxb6601200aAfter
set_option linter.unusedSimpArgs false
set_option linter.unusedVariables false
namespace Go.Proofs.Qxb6601200a
open Go.RowKit

set_option maxRecDepth 100000 in
set_option maxHeartbeats 4000000 in
theorem compile_pre (a ga : Option Addr) (n m cap gcap : Nat) (ps : List Pat) (gs : List Int) (w : World) (Post : Ending → World → Prop) (HN : Hid (ps.length = n)) (hn : n + tlen ps ≤ 4194304)
    (hp : Pats w a ps)
    (hrest : ∀ (N : Nat) (u7 u8 u20 u21 u22 u23 u24 u25 u26 u27 u28 u29 u30 u31 u32 u33 u34 u35 u36 u37 u38 u39 u40 u41 u42 u46 u47 u48 u49 u50 u51 u52 u53 u54 u55 u56 u57 u58 u59 u60 u61 u62 u63 u64 u65 u68 u69 u71 u72 u73 u74 u75 u77 u78 u79 u80 u81 u83 u84 u85 u86 u87 u89 u90 u91 u92 u93 u95 u96 u98 u99 u101 u102 u103 u104 u105 u106 u107 u108 u109 u110 u111 u112 u113 u114 u115 u116 u117 u118 u119 u120 u121 u122 u123 u124 u125 u126 u127 u128 u129 u130 u131 u132 u133 u134 u135 u136 u137 u138 u139 u140 u141 u142 u143 u144 u145 u146 u147 u148 u149 u150 u151 u152 u153 u154 u155 u156 u157 u158 u159 u160 u161 u162 u163 u164 u165 u166 u167 u168 u169 u170 u171 u172 u173 u174 u175 u176 u177 u178 u182 u183 u184 u185 u186 u187 u188 u189 u190 u191 u192 u193 u194 u195 u196 u197 u198 u199 u200 : Value) (wc : World), N ≤ 4194304 → Hid (tlenTo ps n + n = N) → Laid w w.heap.size N n (.slice ga m gcap) u8 wc → Code.wp Try.prog afterRegion7 (bodyPost Try.prog Try.f37 Post) ⟨#[Value.slice a n cap, Value.slice ga m gcap, undef, undef, Value.pointer none, Value.int IntKind.i64 (N : Int), undef, u7, u8, undef, undef, undef, undef, undef, undef, undef, undef, Value.slice a n cap, Value.int IntKind.i64 (n : Int), Value.int IntKind.i64 (n : Int), u20, u21, u22, u23, u24, u25, u26, u27, u28, u29, u30, u31, u32, u33, u34, u35, u36, u37, u38, u39, u40, u41, u42, undef, undef, undef, u46, u47, u48, u49, u50, u51, u52, u53, u54, u55, u56, u57, u58, u59, u60, u61, u62, u63, u64, u65, undef, undef, u68, u69, undef, u71, u72, u73, u74, u75, undef, u77, u78, u79, u80, u81, undef, u83, u84, u85, u86, u87, undef, u89, u90, u91, u92, u93, undef, u95, u96, undef, u98, u99, undef, u101, u102, u103, u104, u105, u106, u107, u108, u109, u110, u111, u112, u113, u114, u115, u116, u117, u118, u119, u120, u121, u122, u123, u124, u125, u126, u127, u128, u129, u130, u131, u132, u133, u134, u135, u136, u137, u138, u139, u140, u141, u142, u143, u144, u145, u146, u147, u148, u149, u150, u151, u152, u153, u154, u155, u156, u157, u158, u159, u160, u161, u162, u163, u164, u165, u166, u167, u168, u169, u170, u171, u172, u173, u174, u175, u176, u177, u178, undef, undef, undef, u182, u183, u184, u185, u186, u187, u188, u189, u190, u191, u192, u193, u194, u195, u196, u197, u198, u199, u200], []⟩ wc) :
    Calls Try.prog 37 #[.slice a n cap, .slice ga m gcap] w Post := by
  have HT : Hid (tlen ps = tlenTo ps n) := by show _ = _; unfold tlen; rw [HN.out]
  go_enter Try.func37, Try.ntmps37
  go_wp2
  go_loopw [5, 19] (fun s i wr => ∃ j : Nat, j ≤ n ∧ s = .int .i64 ((tlenTo ps j + j : Nat) : Int) ∧ i = .int .i64 j ∧ Below w.heap.size w wr) (fun _ i _ => n - (intOf i).toNat)
  case atStart => exact ⟨0, by omega, rfl, rfl, Below.refl _ _⟩
  case round =>
    obtain ⟨j, hj, rfl, rfl, hb⟩ := hrel
    have hs := hb.size
    have hle : tlenTo ps j ≤ 4194304 := by have := tlenTo_mono (ps := ps) hj; have := HT.out; omega
    by_cases hlt : j < n
    · obtain ⟨b, off, rfl, hbl, d0, d1, d2⟩ := hp j (by have := HN.out; omega)
      have e0 := (hb.cell hbl).trans d0
      have e1 := (hb.cell hbl).trans d1
      have e2 := (hb.cell hbl).trans d2
      have hz2 := ptx_le_tlen (ps := ps) (i := j) (by have := HN.out; omega)
      have hz3 : (ptx ps j).size ≤ 4194304 := by omega
      have HS : Hid (tlenTo ps (j + 1) = tlenTo ps j + (ptx ps j).size) := rfl
      have hl : (j : Int) < (n : Int) := by omega
      clear hp d0 d1 d2 hz2
      go_wp2
      go_roundw
      case rel => exact ⟨j + 1, by omega, by rw [HS.out]; go_num, by go_num, hb.alloc hs _⟩
      case measure => simp [intOf]; omega
    · obtain rfl : j = n := by omega
      clear hj hlt
      have hc : tlenTo ps j + j ≤ 4194304 := by have := HT.out; omega
      obtain ⟨N, hN⟩ : ∃ N : Nat, tlenTo ps j + j = N := ⟨_, rfl⟩
      rw [hN] at hc
      rw [hN]
      have HNN : Hid (tlenTo ps j + j = N) := hN
      clear hN
      have k1 := make0_run 42 21 _ 4 Try.underlying42 Try.info21 N (by omega) (by omega)
      have k2 := make0_run 33 3 _ 8 Try.underlying33 Try.info3 N (by omega) (by omega)
      have k3 := make0_run 33 3 _ 8 Try.underlying33 Try.info3 j (by omega) (by omega)
      have k4 := make0_run 39 4 _ 1 Try.underlying39 Try.info4 j (by omega) (by omega)
      go_upto_region 7 with (fail)
      go_cut [8] (fun s8 wx => Laid w w.heap.size N j (.slice ga m gcap) s8 wx)
      case first =>
        go_region
        all_goals
          go_wp2
          go_meet
          case rel =>
            apply laid_mk
            iterate 4 (first | exact five0 _ _ _ _ _ _ | exact five1 _ _ _ _ _ _ | exact five2 _ _ _ _ _ _ | exact five3 _ _ _ _ _ _)
            · exact five4 _ _ _ _ _ _
            · constructor <;> omega
            · exact (five_below wr _ _ _ _ _ hb hs).drew
      case rest =>
        rename_i hK
        refine hK _ _ ?_
        exact hrest _ _ _ _ _ _ _ _ _ _ _ _ _ _ _ _ _ _ _ _ _ _ _ _ _ _ _ _ _ _ _ _ _ _ _ _ _ _ _ _ _ _ _ _ _ _ _ _ _ _ _ _ _ _ _ _ _ _ _ _ _ _ _ _ _ _ _ _ _ _ _ _ _ _ _ _ _ _ _ _ _ _ _ _ _ _ _ _ _ _ _ _ _ _ _ _ _ _ _ _ _ _ _ _ _ _ _ _ _ _ _ _ _ _ _ _ _ _ _ _ _ _ _ _ _ _ _ _ _ _ _ _ _ _ _ _ _ _ _ _ _ _ _ _ _ _ _ _ _ _ _ _ _ _ _ _ _ _ _ _ _ _ _ _ _ _ _ _ _ _ hc HNN hcut
end Go.Proofs.Qxb6601200a
