import Derived.Test.Qxb6601200aAfter
set_option linter.unusedSimpArgs false
set_option linter.unusedVariables false
namespace Go.Proofs.Qxb6601200a
open Go.RowKit

set_option maxRecDepth 100000 in
set_option maxHeartbeats 40000000 in
theorem compile_rest (a ga : Option Addr) (j m cap gcap : Nat) (ps : List Pat) (gs : List Int) (w : World) (HM : Hid (gs.length = m)) (hm : m ≤ 1048576)
    (hp : Pats w a ps) (hg : Ints .i64 w ga gs) (hgs : ∀ i, i < m → -9223372036854775808 ≤ iat gs i ∧ iat gs i ≤ 65536) (HN : Hid (ps.length = j)) (hn : j + tlen ps ≤ 4194304) (HT : Hid (tlen ps = tlenTo ps j))
    (N : Nat) (u7 u8 u20 u21 u22 u23 u24 u25 u26 u27 u28 u29 u30 u31 u32 u33 u34 u35 u36 u37 u38 u39 u40 u41 u42 u46 u47 u48 u49 u50 u51 u52 u53 u54 u55 u56 u57 u58 u59 u60 u61 u62 u63 u64 u65 u68 u69 u71 u72 u73 u74 u75 u77 u78 u79 u80 u81 u83 u84 u85 u86 u87 u89 u90 u91 u92 u93 u95 u96 u98 u99 u101 u102 u103 u104 u105 u106 u107 u108 u109 u110 u111 u112 u113 u114 u115 u116 u117 u118 u119 u120 u121 u122 u123 u124 u125 u126 u127 u128 u129 u130 u131 u132 u133 u134 u135 u136 u137 u138 u139 u140 u141 u142 u143 u144 u145 u146 u147 u148 u149 u150 u151 u152 u153 u154 u155 u156 u157 u158 u159 u160 u161 u162 u163 u164 u165 u166 u167 u168 u169 u170 u171 u172 u173 u174 u175 u176 u177 u178 u182 u183 u184 u185 u186 u187 u188 u189 u190 u191 u192 u193 u194 u195 u196 u197 u198 u199 u200 : Value) (wc : World) (hc : N ≤ 4194304) (HNN : Hid (tlenTo ps j + j = N)) (hcut : Laid w w.heap.size N j (.slice ga m gcap) u8 wc) :
    Code.wp Try.prog afterRegion7 (bodyPost Try.prog Try.f37 fun e w' => AutoEnd w.heap.size j ps (.slice ga m gcap) gs e w' ∧ Below w.heap.size w w') ⟨#[Value.slice a j cap, Value.slice ga m gcap, undef, undef, Value.pointer none, Value.int IntKind.i64 (N : Int), undef, u7, u8, undef, undef, undef, undef, undef, undef, undef, undef, Value.slice a j cap, Value.int IntKind.i64 (j : Int), Value.int IntKind.i64 (j : Int), u20, u21, u22, u23, u24, u25, u26, u27, u28, u29, u30, u31, u32, u33, u34, u35, u36, u37, u38, u39, u40, u41, u42, undef, undef, undef, u46, u47, u48, u49, u50, u51, u52, u53, u54, u55, u56, u57, u58, u59, u60, u61, u62, u63, u64, u65, undef, undef, u68, u69, undef, u71, u72, u73, u74, u75, undef, u77, u78, u79, u80, u81, undef, u83, u84, u85, u86, u87, undef, u89, u90, u91, u92, u93, undef, u95, u96, undef, u98, u99, undef, u101, u102, u103, u104, u105, u106, u107, u108, u109, u110, u111, u112, u113, u114, u115, u116, u117, u118, u119, u120, u121, u122, u123, u124, u125, u126, u127, u128, u129, u130, u131, u132, u133, u134, u135, u136, u137, u138, u139, u140, u141, u142, u143, u144, u145, u146, u147, u148, u149, u150, u151, u152, u153, u154, u155, u156, u157, u158, u159, u160, u161, u162, u163, u164, u165, u166, u167, u168, u169, u170, u171, u172, u173, u174, u175, u176, u177, u178, undef, undef, undef, u182, u183, u184, u185, u186, u187, u188, u189, u190, u191, u192, u193, u194, u195, u196, u197, u198, u199, u200], []⟩ wc := by
  conv => arg 2; whnf
  obtain ⟨gA, gat, gow, gfi, gfo, rfl, ly, st⟩ := hcut
  have l1 := ly.l1
  have l2 := ly.l2
  have l3 := ly.l3
  have l4 := ly.l4
  have hbA : w.heap.size ≤ gA := by have := ly.b1; omega
  go_wp2
  go_loopw [45] (fun ii wr => ∃ i : Nat, i ≤ j ∧ ii = .int .i64 i ∧ CS w w.heap.size gA gat gow gfi gfo N j (.slice ga m gcap) wr (atTo ps i) (owTo ps i) (fiTo ps i) (foTo ps i) (clTo ps i)) (fun ii _ => j - (intOf ii).toNat)
  case atStart => exact ⟨0, by omega, rfl, st⟩
  case round =>
    clear st
    obtain ⟨i, hi, rfl, st⟩ := hrel
    by_cases hlt : i < j
    · obtain ⟨b, off, rfl, hbl, d0, d1, d2⟩ := hp i (by have := HN.out; omega)
      have e0 := (st.below.cell hbl).trans d0
      have e1 := (st.below.cell hbl).trans d1
      have e2 := (st.below.cell hbl).trans d2
      have hl : (i : Int) < (j : Int) := by omega
      have hAw := st.ltA
      clear hp d0 d1 d2
      go_upto_region 11 with (fail)
      refine abs_world (p := fun W => Code.wp Try.prog _ _ _ W) (q := CSB w w.heap.size gA gat gow gfi gfo N j (.slice ga m gcap) wr.heap.size (.cells #[.string (ptx ps i), .bool (pfo ps i), .bool (pli ps i)] 75 (0, 0)) (atTo ps i) (owTo ps i) (fiTo ps i) (foTo ps i) (clTo ps i)) ⟨st.alloc ly _, heap_alloc_new _ _⟩ ?_
      clear st e0 e1 e2
      obtain ⟨gp, hgp⟩ : ∃ gp, wr.heap.size = gp := ⟨_, rfl⟩
      rw [hgp] at hAw ⊢
      clear hgp
      rintro W1 ⟨st, hbox⟩
      have hlen := atTo_len ps i
      have hcap : tlenTo ps (i + 1) + (i + 1) ≤ N := by have := tlenTo_mono (ps := ps) (show i + 1 ≤ j by omega); have := HNN.out; omega
      have hgpW : gp < W1.heap.size := lt_of_block hbox
      go_cut [] (fun wx => CSB w w.heap.size gA gat gow gfi gfo N j (.slice ga m gcap) gp (.cells #[.string (ptx ps i), .bool (pfo ps i), .bool (pli ps i)] 75 (0, 0)) (atTo ps i) (owTo ps i) (fiTo ps (i + 1)) (foTo ps i) (clTo ps i) wx)
      case first =>
        have c0 : W1.cell? ⟨gA, 0, none⟩ = some (.slice (some ⟨gat, 0, none⟩) (atTo ps i).length N) := st.sa.cell 0 (by omega)
        have c2 : W1.cell? ⟨gA, 2, none⟩ = some (.slice (some ⟨gfi, 0, none⟩) (fiTo ps i).length j) := st.sa.cell 2 (by omega)
        have z2 := st.sa.frozen 2
        have hAW := st.ltA
        have hfl := fiTo_len ps i
        have HFL : Hid ((fiTo ps i).length = i) := hfl
        clear hfl
        go_region_law (refine step_append_row rfl _ _ 33 rfl Try.underlying33 Try.info3 (by exact st.rfi.alloc _) (by simp [Act.eval, Act.put]) (by rw [HFL.out]; exact hlt) W1.heap.size (.int .i64 ((atTo ps i).length : Int)) (by simp [Act.eval, Act.put]) (by exact heap_alloc_new W1 _) rfl ?_)
        all_goals
          go_wp2
          go_meet
          case rel => exact ⟨((st.alloc ly _).pushFi ly _).drewN ly 1, ((above_two (gA := gA) (by omega) (by simp; omega) (by simp) _ _).trans (Below.heap_alloc _ _ _ hgpW)).trans hbox⟩
      case rest =>
        clear st hbox hgpW W1
        obtain ⟨st, hbox⟩ := hcut
        have hgpW : gp < wc.heap.size := lt_of_block hbox
        have bx0 : wc.cell? ⟨gp, 0, none⟩ = some (.string (ptx ps i)) := by simp [World.cell?, hbox]
        go_upto_block 4 with (fail)
        refine abs_world (p := fun W => Code.wp Try.prog _ _ _ W) (q := CSI w w.heap.size gA gat gow gfi gfo N j (.slice ga m gcap) gp (.cells #[.string (ptx ps i), .bool (pfo ps i), .bool (pli ps i)] 75 (0, 0)) wc.heap.size (ptx ps i) 0 (atTo ps i) (owTo ps i) (fiTo ps (i + 1)) (foTo ps i) (clTo ps i)) ⟨st.alloc ly _, (Below.heap_alloc _ _ _ hgpW).trans hbox, heap_alloc_new _ _⟩ ?_
        have hitgp : gp < wc.heap.size := hgpW
        obtain ⟨it, hit⟩ : ∃ it, wc.heap.size = it := ⟨_, rfl⟩
        rw [hit] at hitgp ⊢
        clear hit st hbox bx0 hgpW
        clear wc
        have hsz : (ptx ps i).size ≤ 4194304 := by have := ptx_le_tlen (ps := ps) (i := i) (by have := HN.out; omega); omega
        have HTK : Hid (tokI ps i = ((runesLeft (ptx ps i) 0).foldl (tstep (pli ps i)) (false, [])).2) := rfl
        have HTS : Hid (tlenTo ps (i + 1) = tlenTo ps i + (ptx ps i).size) := rfl
        have HTL : Hid ((tokI ps i).length ≤ (ptx ps i).size) := tokI_len ps i
        generalize ptx ps i = tx at *
        generalize pli ps i = lt at *
        rintro W2 st2
        go_cut [] (fun wx => CSB w w.heap.size gA gat gow gfi gfo N j (.slice ga m gcap) gp (.cells #[.string tx, .bool (pfo ps i), .bool lt] 75 (0, 0)) (atTo ps i ++ tokI ps i) (owTo ps i ++ List.replicate (tokI ps i).length (i : Int)) (fiTo ps (i + 1)) (foTo ps i) (clTo ps i) wx)
        case first =>
          go_wp2
          go_loopg [11] tx.size (fun k esc wr => ∃ (pos : Nat) (e : Bool) (tk : List Int), k = tx.size - pos ∧ esc = .bool e ∧ tk.length ≤ pos ∧ tk.length ≤ tx.size ∧ ((runesLeft tx pos).foldl (tstep lt) (e, tk)).2 = tokI ps i ∧ CSI w w.heap.size gA gat gow gfi gfo N j (.slice ga m gcap) gp (.cells #[.string tx, .bool (pfo ps i), .bool lt] 75 (0, 0)) it tx pos (atTo ps i ++ tk) (owTo ps i ++ List.replicate tk.length (i : Int)) (fiTo ps (i + 1)) (foTo ps i) (clTo ps i) wr)
          case atStart => exact ⟨0, false, [], by omega, rfl, by simp, by simp, HTK.out.symm, by simpa using st2⟩
          case round =>
            clear st2
            obtain ⟨pos, e, tk, rfl, rfl, hk1, hk2, hfold, st, hbox, hiter⟩ := hrel
            have HF : Hid (((runesLeft tx pos).foldl (tstep lt) (e, tk)).2 = tokI ps i) := hfold
            clear hfold
            by_cases hpos : pos < tx.size
            · obtain ⟨r, wd, hd⟩ : ∃ r wd, Utf8.decode tx pos = (r, wd) := ⟨_, _, rfl⟩
              have hnx := fun ty => Lib.run_next_any_at (P := Try.prog) wr it tx pos ty hiter hpos
              rw [hd] at hnx
              simp only at hnx
              have hwd : 1 ≤ wd := by have := dec_pos tx pos; rw [hd] at this; exact this
              have HF2 : Hid (((runesLeft tx (pos + wd)).foldl (tstep lt) (tstep lt (e, tk) (r : Int))).2 = tokI ps i) := by
                have := HF.out; rw [runesLeft_step hpos, hd] at this; exact this
              clear hd
              go_upto_block 6 with (fail)
              refine abs_world (p := fun W => Code.wp Try.prog _ _ _ W) (q := CSI w w.heap.size gA gat gow gfi gfo N j (.slice ga m gcap) gp (.cells #[.string tx, .bool (pfo ps i), .bool lt] 75 (0, 0)) it tx (pos + wd) (atTo ps i ++ tk) (owTo ps i ++ List.replicate tk.length (i : Int)) (fiTo ps (i + 1)) (foTo ps i) (clTo ps i)) ⟨st.iterAt ly (by omega) _ _, (Lib.iterAt_other _ _ _ _ _ (by omega)).trans hbox, Lib.iterAt_heap _ _ _ _ _ hiter⟩ ?_
              clear st hbox hiter hnx
              rintro W3 ⟨st, hbox, hiter⟩
              go_cut [11, 13] (fun s11 s13 wx => ∃ t : Int, s11 = .bool false ∧ s13 = .int .i32 t ∧ tstep lt (e, tk) (r : Int) = (false, tk ++ [t]) ∧ CSI w w.heap.size gA gat gow gfi gfo N j (.slice ga m gcap) gp (.cells #[.string tx, .bool (pfo ps i), .bool lt] 75 (0, 0)) it tx (pos + wd) (atTo ps i ++ tk) (owTo ps i ++ List.replicate tk.length (i : Int)) (fiTo ps (i + 1)) (foTo ps i) (clTo ps i) wx)
              case first =>
                have bx2 : W3.cell? ⟨gp, 2, none⟩ = some (.bool lt) := by simp [World.cell?, hbox]
                cases e with
                | true =>
                  cases t40 : ((r : Int) == 40) with
                  | true =>
                    have HT4 : Hid ((r : Int) = 40) := beq_iff_eq.1 t40
                    go_wp2
                    go_meet
                    case rel => exact ⟨-4, rfl, rfl, by simp [tstep, HT4.out], st, hbox, hiter⟩
                  | false =>
                    have HT4 : Hid (¬ (r : Int) = 40) := beq_eq_false_iff_ne.1 t40
                    cases t123 : ((r : Int) == 123) with
                    | true =>
                      have HT5 : Hid ((r : Int) = 123) := beq_iff_eq.1 t123
                      go_wp2
                      go_meet
                      case rel => exact ⟨-5, rfl, rfl, by simp [tstep, HT5.out], st, hbox, hiter⟩
                    | false =>
                      have HT5 : Hid (¬ (r : Int) = 123) := beq_eq_false_iff_ne.1 t123
                      cases t125 : ((r : Int) == 125) with
                      | true =>
                        have HT6 : Hid ((r : Int) = 125) := beq_iff_eq.1 t125
                        go_wp2
                        go_meet
                        case rel => exact ⟨-6, rfl, rfl, by simp [tstep, HT6.out], st, hbox, hiter⟩
                      | false =>
                        have HT6 : Hid (¬ (r : Int) = 125) := beq_eq_false_iff_ne.1 t125
                        cases lt with
                        | true =>
                          go_wp2
                          go_meet
                          case rel => exact ⟨(r : Int), rfl, rfl, by simp [tstep, HT4.out, HT5.out, HT6.out], st, hbox, hiter⟩
                        | false =>
                          go_wp2
                          go_meet
                          case rel => exact ⟨(r : Int), rfl, rfl, by simp [tstep, HT4.out, HT5.out, HT6.out], st, hbox, hiter⟩
                | false =>
                  cases lt with
                  | true =>
                    go_wp2
                    go_meet
                    case rel => exact ⟨(r : Int), rfl, rfl, by simp [tstep], st, hbox, hiter⟩
                  | false =>
                    cases t92 : ((r : Int) == 92) with
                    | true =>
                      have HT9 : Hid ((r : Int) = 92) := beq_iff_eq.1 t92
                      go_wp2
                      go_roundg (tx.size - (pos + wd))
                      case rel => exact ⟨pos + wd, true, tk, rfl, rfl, by omega, by omega, by have := HF2.out; simpa [tstep, HT9.out] using this, st, hbox, hiter⟩
                      case measure => omega
                    | false =>
                      have HT9 : Hid (¬ (r : Int) = 92) := beq_eq_false_iff_ne.1 t92
                      cases t42 : ((r : Int) == 42) with
                      | true =>
                        have HT2 : Hid ((r : Int) = 42) := beq_iff_eq.1 t42
                        go_wp2
                        go_meet
                        case rel => exact ⟨-2, rfl, rfl, by simp [tstep, HT2.out], st, hbox, hiter⟩
                      | false =>
                        have HT2 : Hid (¬ (r : Int) = 42) := beq_eq_false_iff_ne.1 t42
                        cases t63 : ((r : Int) == 63) with
                        | true =>
                          have HT3 : Hid ((r : Int) = 63) := beq_iff_eq.1 t63
                          go_wp2
                          go_meet
                          case rel => exact ⟨-3, rfl, rfl, by simp [tstep, HT3.out], st, hbox, hiter⟩
                        | false =>
                          have HT3 : Hid (¬ (r : Int) = 63) := beq_eq_false_iff_ne.1 t63
                          go_wp2
                          go_meet
                          case rel => exact ⟨(r : Int), rfl, rfl, by simp [tstep, HT9.out, HT2.out, HT3.out], st, hbox, hiter⟩
              case rest =>
                clear st hbox hiter
                clear W3
                obtain ⟨t, rfl, rfl, hstep, st, hbox, hiter⟩ := hcut
                have HST : Hid (tstep lt (e, tk) (r : Int) = (false, tk ++ [t])) := hstep
                clear hstep
                have hA1 : (atTo ps i ++ tk).length < N := by have := hlen; have := HTS.out; have := hcap; simp; omega
                have hO1 : (owTo ps i ++ List.replicate tk.length (i : Int)).length < N := by have := owTo_len ps i; have := HTS.out; have := hcap; simp at hA1 ⊢; omega
                have HAE : Hid (atTo ps i ++ (tk ++ [t]) = (atTo ps i ++ tk) ++ [t]) := by show _ = _; simp
                have HOE : Hid (owTo ps i ++ List.replicate (tk ++ [t]).length (i : Int) = (owTo ps i ++ List.replicate tk.length (i : Int)) ++ [(i : Int)]) := by show _ = _; simp [List.replicate_succ']
                generalize atTo ps i ++ tk = A at st hA1 HAE
                generalize owTo ps i ++ List.replicate tk.length (i : Int) = O at st hO1 HOE
                have c0 : wc.cell? ⟨gA, 0, none⟩ = some (.slice (some ⟨gat, 0, none⟩) A.length N) := st.sa.cell 0 (by omega)
                have z0 := st.sa.frozen 0
                have hAW := st.ltA
                go_upto_region 31 with (at_builtin; refine append_row rfl _ _ 42 rfl Try.underlying42 Try.info21 (by exact st.rat.alloc _) (by simp [Act.eval, Act.put]) hA1 wc.heap.size (.int .i32 t) (by simp [Act.eval, Act.put]) (by exact heap_alloc_new wc _) rfl ?_)
                refine abs_world (p := fun W => Code.wp Try.prog _ _ _ W) (q := CSI w w.heap.size gA gat gow gfi gfo N j (.slice ga m gcap) gp (.cells #[.string tx, .bool (pfo ps i), .bool lt] 75 (0, 0)) it tx (pos + wd) (A ++ [t]) O (fiTo ps (i + 1)) (foTo ps i) (clTo ps i)) ⟨(st.alloc ly _).pushAt ly _, ((above_two (gA := gA) (by omega) (by simp; omega) (by simp) _ _).trans (Below.heap_alloc _ _ _ (lt_of_block hbox))).trans hbox, ((above_two (gA := gA) (by omega) (by simp; omega) (by simp) _ _).trans (Below.heap_alloc _ _ _ (lt_of_block hiter))).trans hiter⟩ ?_
                clear st hbox hiter c0 z0 hAW
                rintro W4 ⟨st, hbox, hiter⟩
                have c1 : W4.cell? ⟨gA, 1, none⟩ = some (.slice (some ⟨gow, 0, none⟩) O.length N) := st.sa.cell 1 (by omega)
                have z1 := st.sa.frozen 1
                have hAW := st.ltA
                go_wp2_with (at_builtin; refine append_row rfl _ _ 33 rfl Try.underlying33 Try.info3 (by exact st.row.alloc _) (by simp [Act.eval, Act.put]) hO1 W4.heap.size (.int .i64 (i : Int)) (by simp [Act.eval, Act.put]) (by exact heap_alloc_new W4 _) rfl ?_)
                go_roundg (tx.size - (pos + wd))
                case rel =>
                  refine ⟨pos + wd, false, tk ++ [t], rfl, rfl, by simp; omega, by simp; omega, by have := HF2.out; rw [HST.out] at this; exact this, ?_⟩
                  rw [HAE.out, HOE.out]
                  exact ⟨(st.alloc ly _).pushOw ly _, ((above_two (gA := gA) (by omega) (by simp; omega) (by simp) _ _).trans (Below.heap_alloc _ _ _ (lt_of_block hbox))).trans hbox, ((above_two (gA := gA) (by omega) (by simp; omega) (by simp) _ _).trans (Below.heap_alloc _ _ _ (lt_of_block hiter))).trans hiter⟩
                case measure => omega
            · have hnx := fun ty => Lib.run_next_end_at (P := Try.prog) wr it tx pos ty hiter hpos
              go_wp2
              go_meet
              case rel =>
                have : tk = tokI ps i := by rw [← HF.out, runesLeft_end hpos]; rfl
                rw [this] at st
                exact ⟨st, hbox⟩
        case rest =>
          clear st2 W2
          obtain ⟨st, hbox⟩ := hcut
          have HAE : Hid (atTo ps (i + 1) = (atTo ps i ++ tokI ps i) ++ [-1]) := by show _ = _; simp [atTo]
          have HOE : Hid (owTo ps (i + 1) = (owTo ps i ++ List.replicate (tokI ps i).length (i : Int)) ++ [(i : Int)]) := by show _ = _; simp [owTo, List.replicate_succ']
          have hA1 : (atTo ps i ++ tokI ps i).length < N := by have := HTL.out; have := HTS.out; simp; omega
          have hO1 : (owTo ps i ++ List.replicate (tokI ps i).length (i : Int)).length < N := by have := owTo_len ps i; simp at hA1 ⊢; omega
          generalize atTo ps i ++ tokI ps i = A at st hA1 HAE
          generalize owTo ps i ++ List.replicate (tokI ps i).length (i : Int) = O at st hO1 HOE
          have c0 : wc.cell? ⟨gA, 0, none⟩ = some (.slice (some ⟨gat, 0, none⟩) A.length N) := st.sa.cell 0 (by omega)
          have z0 := st.sa.frozen 0
          have hAW := st.ltA
          go_upto_region 33 with (at_builtin; refine append_row rfl _ _ 42 rfl Try.underlying42 Try.info21 (by exact st.rat.alloc _) (by simp [Act.eval, Act.put]) hA1 wc.heap.size (.int .i32 (-1)) (by simp [Act.eval, Act.put]) (by exact heap_alloc_new wc _) rfl ?_)
          refine abs_world (p := fun W => Code.wp Try.prog _ _ _ W) (q := CSB w w.heap.size gA gat gow gfi gfo N j (.slice ga m gcap) gp (.cells #[.string tx, .bool (pfo ps i), .bool lt] 75 (0, 0)) (A ++ [-1]) O (fiTo ps (i + 1)) (foTo ps i) (clTo ps i)) ⟨(st.alloc ly _).pushAt ly _, ((above_two (gA := gA) (by omega) (by simp; omega) (by simp) _ _).trans (Below.heap_alloc _ _ _ (lt_of_block hbox))).trans hbox⟩ ?_
          clear st hbox c0 z0 hAW
          rintro W4 ⟨st, hbox⟩
          have c1 : W4.cell? ⟨gA, 1, none⟩ = some (.slice (some ⟨gow, 0, none⟩) O.length N) := st.sa.cell 1 (by omega)
          have z1 := st.sa.frozen 1
          have hAW := st.ltA
          go_upto_region 34 with (at_builtin; refine append_row rfl _ _ 33 rfl Try.underlying33 Try.info3 (by exact st.row.alloc _) (by simp [Act.eval, Act.put]) hO1 W4.heap.size (.int .i64 (i : Int)) (by simp [Act.eval, Act.put]) (by exact heap_alloc_new W4 _) rfl ?_)
          refine abs_world (p := fun W => Code.wp Try.prog _ _ _ W) (q := CSB w w.heap.size gA gat gow gfi gfo N j (.slice ga m gcap) gp (.cells #[.string tx, .bool (pfo ps i), .bool lt] 75 (0, 0)) (A ++ [-1]) (O ++ [(i : Int)]) (fiTo ps (i + 1)) (foTo ps i) (clTo ps i)) ⟨(st.alloc ly _).pushOw ly _, ((above_two (gA := gA) (by omega) (by simp; omega) (by simp) _ _).trans (Below.heap_alloc _ _ _ (lt_of_block hbox))).trans hbox⟩ ?_
          clear st hbox c1 z1 hAW
          rw [← HAE.out, ← HOE.out]
          rintro W5 ⟨st, hbox⟩
          go_cut [] (fun wx => CSB w w.heap.size gA gat gow gfi gfo N j (.slice ga m gcap) gp (.cells #[.string tx, .bool (pfo ps i), .bool lt] 75 (0, 0)) (atTo ps (i + 1)) (owTo ps (i + 1)) (fiTo ps (i + 1)) (foTo ps (i + 1)) (clTo ps i) wx)
          case first =>
            have c4 : W5.cell? ⟨gA, 4, none⟩ = some (.slice (some ⟨gfo, 0, none⟩) (foTo ps i).length j) := st.sa.cell 4 (by omega)
            have bx1 : W5.cell? ⟨gp, 1, none⟩ = some (.bool (pfo ps i)) := by simp [World.cell?, hbox]
            have z4 := st.sa.frozen 4
            have hAW := st.ltA
            have hgpW := lt_of_block hbox
            have HFL : Hid ((foTo ps i).length = i) := foTo_len ps i
            go_region_law (refine step_append_row rfl _ _ 39 rfl Try.underlying39 Try.info4 (by exact st.rfo.alloc _) (by simp [Act.eval, Act.put]) (by rw [HFL.out]; exact hlt) W5.heap.size (.bool (pfo ps i)) (by simp [Act.eval, Act.put]) (by exact heap_alloc_new W5 _) rfl ?_)
            all_goals
              go_wp2
              go_meet
              case rel => exact ⟨((st.alloc ly _).pushFo ly _).drewN ly 1, ((above_two (gA := gA) (by omega) (by simp; omega) (by simp) _ _).trans (Below.heap_alloc _ _ _ hgpW)).trans hbox⟩
          case rest =>
            clear st hbox W5
            obtain ⟨st, hbox⟩ := hcut
            have c5 : wc.cell? ⟨gA, 5, none⟩ = some (.bool (clTo ps i)) := st.sa.cell 5 (by omega)
            have bx1 : wc.cell? ⟨gp, 1, none⟩ = some (.bool (pfo ps i)) := by simp [World.cell?, hbox]
            have z5 := st.sa.frozen 5
            have HCL : Hid (clTo ps (i + 1) = (clTo ps i && pfo ps i)) := rfl
            cases hcl : clTo ps i with
            | true =>
              go_wp2
              go_roundw
              case rel => exact ⟨i + 1, by omega, by go_num, by rw [HCL.out, hcl]; exact st.setCl ly _⟩
              case measure => simp [intOf]; omega
            | false =>
              go_wp2
              go_roundw
              case rel => exact ⟨i + 1, by omega, by go_num, by rw [HCL.out, hcl]; exact st.setCl ly _⟩
              case measure => simp [intOf]; omega
    · obtain rfl : i = j := by omega
      clear hi hlt
      have hal := atTo_len ps i
      have hA3 : (atTo ps i).length ≤ 4194304 := by have := HNN.out; omega
      obtain ⟨mm, hmm⟩ : ∃ mm, (atTo ps i).length = mm := ⟨_, rfl⟩
      have HMM : Hid ((atTo ps i).length = mm) := hmm
      have HOL : Hid ((owTo ps i).length = mm) := (owTo_len ps i).trans hmm
      have HFL : Hid ((fiTo ps i).length = i) := fiTo_len ps i
      rw [hmm] at hA3
      clear hmm hal
      have hAW := st.ltA
      have f0 : wr.cell? ⟨gA, 0, none⟩ = some (.slice (some ⟨gat, 0, none⟩) mm N) := by rw [← HMM.out]; exact st.sa.cell 0 (by omega)
      have f1 : wr.cell? ⟨gA, 1, none⟩ = some (.slice (some ⟨gow, 0, none⟩) mm N) := by rw [← HOL.out]; exact st.sa.cell 1 (by omega)
      have f2 : wr.cell? ⟨gA, 2, none⟩ = some (.slice (some ⟨gfi, 0, none⟩) i i) := by have := st.sa.cell 2 (by omega); rw [HFL.out] at this; exact this
      have hNm : mm ≤ N := by have := atTo_len ps i; have := HNN.out; have := HMM.out; omega
      have r0 : Ints .i32 wr (some ⟨gat, 0, none⟩) (atTo ps i) := st.rat.row (Nat.le_refl _) (by rw [HMM.out]; exact hNm)
      have r1 : Ints .i64 wr (some ⟨gow, 0, none⟩) (owTo ps i) := st.row.row (Nat.le_refl _) (by rw [HOL.out]; exact hNm)
      have r2 : Ints .i64 wr (some ⟨gfi, 0, none⟩) (fiTo ps i) := st.rfi.row (Nat.le_refl _) (by rw [HFL.out]; exact Nat.le_refl _)
      have hin : ∀ k, k < mm → 0 ≤ iat (owTo ps i) k ∧ iat (owTo ps i) k < (i : Int) := by
        intro k hk
        obtain ⟨p, hp1, hp2, hp3⟩ := pos_owner ps i k (by rw [HMM.out]; exact hk)
        rw [owTo_at ps i k p hp1 hp2 hp3]; omega
      go_wp2_with fail
      refine (cuts_any gA mm i N N i (some ⟨gat, 0, none⟩) (some ⟨gow, 0, none⟩) (some ⟨gfi, 0, none⟩) (atTo ps i) (owTo ps i) (fiTo ps i) _ HMM HOL HFL (by omega) (by omega) hAW f0 f1 f2 r0 r1 r2 hin).mono ?_
      rintro e w1 ⟨hce, hb1⟩
      have hce2 : ∃ cv : Value, e = .returned cv ∧ (∃ ao l c, cv = .slice ao l c) ∧ ((fields (atTo ps i) = false ∧ cv = .slice none 0 0) ∨ (fields (atTo ps i) = true ∧ ∃ g, wr.heap.size ≤ g ∧ cv = .slice (some ⟨g, 0, none⟩) (atTo ps i).length (atTo ps i).length ∧ RowN w1 g 3 (atTo ps i).length (atTo ps i).length (fun k => .int .i64 (cutAt (atTo ps i) (fiTo ps i) (owTo ps i) k)))) := by
        rcases hce with ⟨h1, rfl⟩ | ⟨h1, g, hg, rfl, hr⟩
        · exact ⟨_, rfl, ⟨_, _, _, rfl⟩, .inl ⟨h1, rfl⟩⟩
        · exact ⟨_, rfl, ⟨_, _, _, rfl⟩, .inr ⟨h1, g, hg, rfl, hr⟩⟩
      obtain ⟨cv, rfl, ⟨ao, cl1, cc1, hcv⟩, hcuts⟩ := hce2
      have HCU : Hid ((fields (atTo ps i) = false ∧ cv = .slice none 0 0) ∨ (fields (atTo ps i) = true ∧ ∃ g, wr.heap.size ≤ g ∧ cv = .slice (some ⟨g, 0, none⟩) (atTo ps i).length (atTo ps i).length ∧ RowN w1 g 3 (atTo ps i).length (atTo ps i).length (fun k => .int .i64 (cutAt (atTo ps i) (fiTo ps i) (owTo ps i) k)))) := hcuts
      clear hce hcuts r0 r1 r2 hin
      subst hcv
      have hsz1 := hb1.size
      have sA1 : SA w1 gA _ := st.sa.of_block (hb1.block gA hAW)
      have g0 := (hb1.cell (p := ⟨gA, 0, none⟩) hAW).trans f0
      have g6 : w1.cell? ⟨gA, 6, none⟩ = some (.slice none 0 0) := sA1.cell 6 (by omega)
      have g7 : w1.cell? ⟨gA, 7, none⟩ = some (.slice none 0 0) := sA1.cell 7 (by omega)
      have g8 : w1.cell? ⟨gA, 8, none⟩ = some (.slice none 0 0) := sA1.cell 8 (by omega)
      have g9 : w1.cell? ⟨gA, 9, none⟩ = some (.slice none 0 0) := sA1.cell 9 (by omega)
      have y6 := sA1.frozen 6
      have y7 := sA1.frozen 7
      have y8 := sA1.frozen 8
      have y9 := sA1.frozen 9
      have hAw1 : gA < w1.heap.size := by omega
      have kk1 := make_run 43 44 _ 1 4 Try.underlying43 Try.info44 mm (by omega) (by omega)
      simp only [Nat.mul_one] at kk1
      clear f0 f1 f2 sA1
      have hgc : ∀ k, k ≤ m → 0 ≤ gcTo gs k ∧ gcTo gs k ≤ 65537 := fun k hk => ⟨gcTo_nonneg gs k, gcTo_le gs 65536 (by omega) (fun i hi => (hgs i (by have := HM.out; omega)).2) k (by have := HM.out; omega)⟩
      go_wp2
      refine abs_world (p := fun W => Code.wp Try.prog _ _ _ W) (q := Mid w w1 w.heap.size i gA mm ps (.slice ga m gcap) (.slice ao cl1 cc1) gat gow gfi gfo N) (mid_mk ly st hb1 HCU.out HMM.out.symm) ?_
      clear g0 g6 g7 g8 g9 y6 y7 y8 y9 st hb1
      rintro W2 md
      have hgW := md.below
      have g8 : W2.cell? ⟨gA, 8, none⟩ = some (.slice none 0 0) := md.sa.cell 8 (by omega)
      have g9 : W2.cell? ⟨gA, 9, none⟩ = some (.slice none 0 0) := md.sa.cell 9 (by omega)
      have y8 := md.sa.frozen 8
      have y9 := md.sa.frozen 9
      have hAW2 := md.sa.lt
      go_loop [14, 181] (fun s k => ∃ q : Nat, q ≤ m ∧ s = .int .i64 (gcTo gs q) ∧ k = .int .i64 q) (fun _ k => m - (intOf k).toNat)
      case atStart => exact ⟨0, by omega, rfl, rfl⟩
      case round =>
        obtain ⟨q, hq, rfl, rfl⟩ := hrel
        have hgq := hgc q hq
        by_cases hlt : q < m
        · obtain ⟨b, off, rfl, hbl, d0⟩ := hg q (by have := HM.out; omega)
          have e0 := (hgW.cell hbl).trans d0
          have hb2 := hgs q hlt
          have hbA2 : b < gA := by omega
          have hl : (q : Int) < (m : Int) := by omega
          have HG : Hid (gcTo gs (q + 1) = if iat gs q + 1 > gcTo gs q then iat gs q + 1 else gcTo gs q) := rfl
          clear d0 hg hgc hgs
          by_cases hx : gcTo gs q < iat gs q + 1
          · go_wp2
            go_round
            case rel => exact ⟨q + 1, by omega, by rw [HG.out, if_pos hx], by go_num⟩
            case measure => simp [intOf]; omega
          · have hx' : iat gs q + 1 ≤ gcTo gs q := by omega
            have HX : Hid (¬ iat gs q + 1 > gcTo gs q) := hx
            clear hx
            go_wp2
            go_round
            case rel => exact ⟨q + 1, by omega, by rw [HG.out, if_neg HX.out], by go_num⟩
            case measure => simp [intOf]; omega
        · obtain rfl : q = m := by omega
          obtain ⟨cc, hcc⟩ : ∃ cc : Nat, gcTo gs q = (cc : Int) := ⟨(gcTo gs q).toNat, by omega⟩
          have HCC : Hid (cc = gcount gs) := by show _ = _; unfold gcount; rw [HM.out, hcc]; simp
          rw [hcc] at hgq ⊢
          clear hcc hgc
          have kk2 := make_run 43 44 _ 1 4 Try.underlying43 Try.info44 cc (by omega) (by omega)
          have kk3 := make_run 33 3 _ 1 8 Try.underlying33 Try.info3 cc (by omega) (by omega)
          simp only [Nat.mul_one] at kk2 kk3
          clear hlt
          go_wp2
          go_ret
          have fin := auto_mk (gs := gs) (cc := cc) (mm := mm) ly md HCC.out
          exact ⟨⟨_, _, _, _, _, _, _, _, _, _, rfl, by rw [HMM.out]; exact hNm, fin.1⟩, fin.2⟩
end Go.Proofs.Qxb6601200a
