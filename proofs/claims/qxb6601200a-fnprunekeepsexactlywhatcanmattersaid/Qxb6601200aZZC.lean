import Derived.Test.Qxb6601200aCompile
set_option linter.unusedSimpArgs false
set_option linter.unusedVariables false
namespace Go.Proofs.Qxb6601200a
open Go.RowKit

theorem Ints.get {k : IntKind} {w : World} {a : Option Addr} {zs : List Int} (h : Ints k w a zs) {i : Nat} (hi : i < zs.length) {v : Int} (hv : iat zs i = v) : ∃ b off, a = some ⟨b, off, none⟩ ∧ b < w.heap.size ∧ w.cell? ⟨b, off + i, none⟩ = some (.int k v) := by
  obtain ⟨b, off, h1, h2, h3⟩ := h i hi
  exact ⟨b, off, h1, h2, by rw [h3, ← hv]⟩
theorem Auto.lt {B n : Nat} {ps : List Pat} {grp : Value} {gs : List Int} {gA gat gow gfi gfo gm gse gwh N : Nat} {cv : Value} {st : Int} {W : World} (h : Auto B n ps grp gs gA gat gow gfi gfo gm gse gwh N cv st W) : gwh < W.heap.size := h.whole.lt
theorem Auto.below {B n : Nat} {ps : List Pat} {grp : Value} {gs : List Int} {gA gat gow gfi gfo gm gse gwh N : Nat} {cv : Value} {st : Int} {W W' : World} (h : Auto B n ps grp gs gA gat gow gfi gfo gm gse gwh N cv st W) (hb : Below W.heap.size W W') : Auto B n ps grp gs gA gat gow gfi gfo gm gse gwh N cv st W' := by
  have hl := h.lt
  have l1 := h.ly.l1; have l2 := h.ly.l2; have l3 := h.ly.l3; have l4 := h.ly.l4
  have m1 := h.m1; have m2 := h.m2; have m3 := h.m3
  refine ⟨h.ly, h.m1, h.m2, h.m3, h.sa.of_block (hb.block _ (by omega)), h.rat.below hb (by omega), h.row.below hb (by omega), h.rfi.below hb (by omega), h.rfo.below hb (by omega), ?_, h.mark.below hb (by omega), h.sett.below hb (by omega), h.whole.below hb (by omega)⟩
  rcases h.cut with h1 | ⟨h1, g, h2, h3, h4, h5⟩
  · exact .inl h1
  · exact .inr ⟨h1, g, h2, h3, h4, h5.below hb (by omega)⟩
theorem Auto.drewN {B n : Nat} {ps : List Pat} {grp : Value} {gs : List Int} {gA gat gow gfi gfo gm gse gwh N : Nat} {cv : Value} {st : Int} {W : World} (h : Auto B n ps grp gs gA gat gow gfi gfo gm gse gwh N cv st W) (m : Nat) : Auto B n ps grp gs gA gat gow gfi gfo gm gse gwh N cv st (W.drewN m) :=
  h.below (below_drewN (Below.refl _ _) m)

/-- What ZZCompile hands back. -/
def CompEnd (B n : Nat) (ps : List Pat) (grp : Value) (gs : List Int) (e : Ending) (W : World) : Prop :=
  ∃ gA gat gow gfi gfo gm gse gwh N ao cl cc, e = .returned (.tuple #[.slice (some ⟨gat, 0, none⟩) (atTo ps n).length N, .slice (some ⟨gow, 0, none⟩) (owTo ps n).length N, .slice (some ⟨gfi, 0, none⟩) (fiTo ps n).length n, grp, .slice (some ⟨gfo, 0, none⟩) (foTo ps n).length n, .bool (clTo ps n), .slice ao cl cc,
    .slice (some ⟨gm, 0, none⟩) (atTo ps n).length (atTo ps n).length, .slice (some ⟨gse, 0, none⟩) (gcount gs) (gcount gs), .slice (some ⟨gwh, 0, none⟩) (gcount gs) (gcount gs), .int .u32 0]) ∧ (atTo ps n).length ≤ N ∧ Auto B n ps grp gs gA gat gow gfi gfo gm gse gwh N (.slice ao cl cc) 0 W

/-- The cuts as they are read. -/
def CutR (W : World) (ao : Option Addr) (cl : Nat) (at' fi ow : List Int) : Prop :=
  (fields at' = false ∧ ao = none ∧ cl = 0) ∨ (fields at' = true ∧ ao.isNone = false ∧ cl = at'.length ∧ Row W ao at'.length (fun i => .int .i64 (cutAt at' fi ow i)))
theorem CutR.below {W W' : World} {ao : Option Addr} {cl : Nat} {at' fi ow : List Int} (h : CutR W ao cl at' fi ow) (hb : Below W.heap.size W W') : CutR W' ao cl at' fi ow := by
  rcases h with h | ⟨h1, h2, h3, h4⟩
  · exact .inl h
  · exact .inr ⟨h1, h2, h3, h4.below hb⟩
/-- What a caller that only reads wants of ZZCompile's eleven results. -/
structure Read (n mm : Nat) (ps : List Pat) (gs : List Int) (aat aow afi afo acu am ase awh : Option Addr) (cl : Nat) (W : World) : Prop where
  at' : Ints .i32 W aat (atTo ps n)
  ow : Ints .i64 W aow (owTo ps n)
  fi : Ints .i64 W afi (fiTo ps n)
  fo : Bools W afo (foTo ps n)
  cut : CutR W acu cl (atTo ps n) (fiTo ps n) (owTo ps n)
  mark : Row W am mm (fun _ => .int .u32 0)
  sett : Row W ase (gcount gs) (fun _ => .int .u32 0)
  whole : Row W awh (gcount gs) (fun _ => .int .i64 0)
theorem Read.below {n mm : Nat} {ps : List Pat} {gs : List Int} {aat aow afi afo acu am ase awh : Option Addr} {cl : Nat} {W W' : World} (h : Read n mm ps gs aat aow afi afo acu am ase awh cl W) (hb : Below W.heap.size W W') : Read n mm ps gs aat aow afi afo acu am ase awh cl W' :=
  ⟨Row.below h.at' hb, Row.below h.ow hb, Row.below h.fi hb, Row.below h.fo hb, h.cut.below hb, h.mark.below hb, h.sett.below hb, h.whole.below hb⟩
def ReadEnd (n : Nat) (ps : List Pat) (grp : Value) (gs : List Int) (e : Ending) (W : World) : Prop :=
  ∃ aat aow afi afo acu am ase awh N cl cc mm, (atTo ps n).length = mm ∧ e = .returned (.tuple #[.slice aat mm N, .slice aow mm N, .slice afi n n, grp, .slice afo n n, .bool (clTo ps n), .slice acu cl cc, .slice am mm mm, .slice ase (gcount gs) (gcount gs), .slice awh (gcount gs) (gcount gs), .int .u32 0]) ∧ Read n mm ps gs aat aow afi afo acu am ase awh cl W
theorem CompEnd.out {B n : Nat} {ps : List Pat} {grp : Value} {gs : List Int} {e : Ending} {W : World} (h : CompEnd B n ps grp gs e W) : ReadEnd n ps grp gs e W := by
  obtain ⟨gA, gat, gow, gfi, gfo, gm, gse, gwh, N, ao, cl, cc, he, hcap, au⟩ := h
  refine ⟨_, _, _, _, ao, _, _, _, N, cl, cc, _, rfl, by rw [he, owTo_len, fiTo_len, foTo_len], ?_⟩
  refine ⟨au.rat.row (Nat.le_refl _) hcap, au.row.row (Nat.le_refl _) (by rw [owTo_len]; exact hcap), au.rfi.row (Nat.le_refl _) (by rw [fiTo_len]; exact Nat.le_refl _), au.rfo.row (Nat.le_refl _) (by rw [foTo_len]; exact Nat.le_refl _), ?_, au.mark.row (Nat.le_refl _) (Nat.le_refl _), au.sett.row (Nat.le_refl _) (Nat.le_refl _), au.whole.row (Nat.le_refl _) (Nat.le_refl _)⟩
  rcases au.cut with ⟨h1, h2⟩ | ⟨h1, g, h2, h3, h4, h5⟩
  · cases h2; exact .inl ⟨h1, rfl, rfl⟩
  · cases h4; exact .inr ⟨h1, rfl, rfl, h5.row (Nat.le_refl _) (Nat.le_refl _)⟩


theorem cutVal_slice {W : World} {gA gm : Nat} {at' fi ow : List Int} {cv : Value} (h : CutVal W gA gm at' fi ow cv) : ∃ ao cl cc, cv = .slice ao cl cc := by
  rcases h with ⟨_, h⟩ | ⟨_, g, _, _, h, _⟩
  · exact ⟨_, _, _, h⟩
  · exact ⟨_, _, _, h⟩

set_option maxRecDepth 100000 in
set_option maxHeartbeats 2000000 in
theorem zzCompile_any (a b c ga : Option Addr) (n m capa capb capc gcap : Nat) (ps : List Pat) (gs : List Int) (w : World) (HN : Hid (ps.length = n)) (HM : Hid (gs.length = m)) (hn : n + tlen ps ≤ 4194304) (hn2 : n ≤ 1048576) (hm : m ≤ 1048576)
    (hp : Row w a n (fun i => .string (ptx ps i))) (hq : Row w b n (fun i => .bool (pfo ps i))) (hr : Row w c n (fun i => .bool (pli ps i))) (hg : Ints .i64 w ga gs) (hgs : ∀ i, i < m → -9223372036854775808 ≤ iat gs i ∧ iat gs i ≤ 65536) :
    Calls Try.prog 21 #[.slice a n capa, .slice b n capb, .slice c n capc, .slice ga m gcap] w fun e w' => CompEnd w.heap.size n ps (.slice ga m gcap) gs e w' ∧ Below w.heap.size w w' := by
  go_enter Try.func21, Try.ntmps21
  go_wp2_with fail
  refine (zzPatterns_any a b c n capa capb capc ps _ HN hn2 hp hq hr).mono ?_
  rintro e w1 ⟨⟨a1, c1, rfl, hp1⟩, hb1⟩
  have hg1 : Ints .i64 w1 ga gs := Row.below hg hb1
  clear hp hq hr hg
  go_wp2_with fail
  refine (compile_any a1 ga n m c1 gcap ps gs _ HN HM hn hm hp1 hg1 hgs).mono ?_
  rintro e w2 ⟨⟨gA, gat, gow, gfi, gfo, gm, gse, gwh, N, cv, rfl, hcap, au⟩, hb2⟩
  have HCP : Hid ((atTo ps n).length ≤ N) := hcap
  clear hcap
  obtain ⟨ao, cl, cc, rfl⟩ := cutVal_slice au.cut
  have hb3 := hb1.trans (hb2.mono hb1.size)
  have hl := au.lt
  have au2 : Auto w.heap.size n ps (.slice ga m gcap) gs gA gat gow gfi gfo gm gse gwh N (.slice ao cl cc) 0 w2 :=
    { au with ly := { au.ly with b1 := Nat.le_trans hb1.size au.ly.b1, b2 := Nat.le_trans hb1.size au.ly.b2, b3 := Nat.le_trans hb1.size au.ly.b3, b4 := Nat.le_trans hb1.size au.ly.b4 } }
  have c0 := au.sa.cell 0 (by omega)
  have c1 := au.sa.cell 1 (by omega)
  have c2 := au.sa.cell 2 (by omega)
  have c3 := au.sa.cell 3 (by omega)
  have c4 := au.sa.cell 4 (by omega)
  have c5 := au.sa.cell 5 (by omega)
  have c6 := au.sa.cell 6 (by omega)
  have c7 := au.sa.cell 7 (by omega)
  have c8 := au.sa.cell 8 (by omega)
  have c9 := au.sa.cell 9 (by omega)
  have c10 := au.sa.cell 10 (by omega)
  simp only [List.getD_cons_zero, List.getD_cons_succ] at c0 c1 c2 c3 c4 c5 c6 c7 c8 c9 c10
  have HA : Hid (Auto w.heap.size n ps (.slice ga m gcap) gs gA gat gow gfi gfo gm gse gwh N (.slice ao cl cc) 0 w2) := au2
  clear au au2
  go_wp2
  go_quiet (fail)
  go_wp2
  refine bodyPost_ret (v := .tuple #[.slice (some ⟨gat, 0, none⟩) (atTo ps n).length N, .slice (some ⟨gow, 0, none⟩) (owTo ps n).length N, .slice (some ⟨gfi, 0, none⟩) (fiTo ps n).length n, .slice ga m gcap, .slice (some ⟨gfo, 0, none⟩) (foTo ps n).length n, .bool (clTo ps n), .slice ao cl cc,
    .slice (some ⟨gm, 0, none⟩) (atTo ps n).length (atTo ps n).length, .slice (some ⟨gse, 0, none⟩) (gcount gs) (gcount gs), .slice (some ⟨gwh, 0, none⟩) (gcount gs) (gcount gs), .int .u32 0]) (by simp [results, Try.results21, go_sem]) rfl ?_
  exact ⟨⟨gA, gat, gow, gfi, gfo, gm, gse, gwh, N, ao, cl, cc, rfl, HCP.out, HA.out.drewN _⟩, below_drewN hb3 _⟩
end Go.Proofs.Qxb6601200a
