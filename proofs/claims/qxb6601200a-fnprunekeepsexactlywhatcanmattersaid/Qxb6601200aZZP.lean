import Derived.Test.Qxb6601200aPrune
import Derived.Test.Qxb6601200aZZC
set_option linter.unusedSimpArgs false
set_option linter.unusedVariables false
namespace Go.Proofs.Qxb6601200a
open Go.RowKit

def tkF (ps : List Pat) (n i : Nat) : Int := iat (atTo ps n) i
def owF (ps : List Pat) (n i : Nat) : Nat := (iat (owTo ps n) i).toNat
def grF (gs : List Int) (p : Nat) : Nat := (iat gs p).toNat
def cuF (ps : List Pat) (n i : Nat) : Int := cutAt (atTo ps n) (fiTo ps n) (owTo ps n) i
theorem owF_spec (ps : List Pat) (n i : Nat) (h : i < (atTo ps n).length) : owF ps n i < n ∧ startOf ps (owF ps n i) ≤ i ∧ i < startOf ps (owF ps n i + 1) ∧ iat (owTo ps n) i = ((owF ps n i : Nat) : Int) := by
  obtain ⟨p, hp, h1, h2⟩ := pos_owner ps n i h
  have e := owTo_at ps n i p hp h1 h2
  have e2 : owF ps n i = p := by unfold owF; rw [e]; rfl
  rw [e2]; exact ⟨hp, h1, h2, e⟩
theorem owF_mono (ps : List Pat) (n i j : Nat) (hij : i ≤ j) (hj : j < (atTo ps n).length) : owF ps n i ≤ owF ps n j := by
  have h1 := owF_spec ps n i (by omega)
  have h2 := owF_spec ps n j hj
  rcases Nat.lt_or_ge (owF ps n j) (owF ps n i) with h | h
  · have h3 : startOf ps (owF ps n j + 1) ≤ startOf ps (owF ps n i) := atTo_mono ps h
    omega
  · exact h
theorem tk_last (ps : List Pat) (n i : Nat) (h : i < (atTo ps n).length) (ht : tkF ps n i = -2) : i + 1 < startOf ps (owF ps n i + 1) := by
  have h1 := owF_spec ps n i h
  have h2 := startOf_succ ps (owF ps n i)
  rcases Nat.lt_or_ge (i + 1) (startOf ps (owF ps n i + 1)) with h3 | h3
  · exact h3
  · have e : i = startOf ps (owF ps n i) + (tokI ps (owF ps n i)).length := by omega
    have e2 := atTo_end ps n (owF ps n i) h1.1
    rw [← e] at e2
    unfold tkF at ht
    rw [e2] at ht
    exact absurd ht (by decide)
theorem start_le (ps : List Pat) (n p : Nat) (h : p < n) : startOf ps (p + 1) ≤ (atTo ps n).length := atTo_mono ps h

/-- The positions' slice: nil, or a row of its own. -/
def PosIn (w : World) (wa : Option Addr) (m : Nat) (L : List Nat) : Prop :=
  (wa = none ∧ m = 0) ∨ ∃ g, wa = some ⟨g, 0, none⟩ ∧ RowN w g 3 m m (fun i => .int .i64 ((nat L i : Nat) : Int))
theorem PosIn.below {w w' : World} {wa : Option Addr} {m : Nat} {L : List Nat} (h : PosIn w wa m L) (hb : Below w.heap.size w w') : PosIn w' wa m L := by
  rcases h with h | ⟨g, h1, h2⟩
  · exact .inl h
  · exact .inr ⟨g, h1, h2.below hb h2.lt⟩
/-- All is as it was but the slice's own block. -/
structure Away (wa : Option Addr) (w w' : World) : Prop where
  os : w'.os = w.os
  tape : w'.tape = w.tape
  output : w'.output = w.output
  size : w.heap.size ≤ w'.heap.size
  block : ∀ k, k < w.heap.size → (∀ a, wa = some a → k ≠ a.block) → w'.heap[k]? = w.heap[k]?
theorem Away.below {wa : Option Addr} {w w' : World} (h : Away wa w w') {B : Nat} (hB : B ≤ w.heap.size) (ha : ∀ a, wa = some a → B ≤ a.block) : Below B w w' :=
  ⟨h.os, h.tape, h.output, h.size, fun k hk => h.block k (by omega) (fun a e => by have := ha a e; omega)⟩
theorem away_of_below {wa : Option Addr} {w w' : World} (h : Below w.heap.size w w') : Away wa w w' := ⟨h.os, h.tape, h.output, h.size, fun k hk _ => h.block k hk⟩
def PrRes (wa : Option Addr) (m : Nat) (L K : List Nat) (e : Ending) (W : World) : Prop :=
  ∃ A, e = .returned (.slice wa K.length m) ∧ Kp L m K m A ∧ Row W wa m (fun i => .int .i64 ((A i : Nat) : Int))
def keptOf (ps : List Pat) (gs : List Int) (n : Nat) (L : List Nat) : List Nat := L.filter (keepB (tkF ps n) (owF ps n) (grF gs) (cuF ps n) L)
theorem keptOf_nil (ps : List Pat) (gs : List Int) (n : Nat) : keptOf ps gs n [] = [] := rfl

set_option maxRecDepth 100000 in
set_option maxHeartbeats 2000000 in
theorem prune_nil (gA : Nat) (w : World) :
    Calls Try.prog 40 #[.pointer (some ⟨gA, 0, none⟩), .slice none 0 0] w fun e w' => e = .returned (.slice none 0 0) ∧ w' = w := by
  go_enter Try.func40, Try.ntmps40
  go_wp2
  go_loop [17] (fun ii => ii = .int .i64 0) (fun _ => 0)
  case atStart => rfl
  case round =>
    obtain rfl := hrel
    go_wp2
    go_loop [8, 9] (fun k ii => k = .slice none 0 0 ∧ ii = .int .i64 0) (fun _ _ => 0)
    case atStart => exact ⟨rfl, rfl⟩
    case round =>
      obtain ⟨rfl, rfl⟩ := hrel
      go_wp2
      go_ret
      exact ⟨rfl, rfl⟩

theorem fields_of_tok {at' : List Int} {i : Nat} (h : i < at'.length) (ht : iat at' i = -5) : fields at' = true := by
  have : ∀ k, i < k → fieldsTo at' k = true := by
    intro k
    induction k with
    | zero => intro h; omega
    | succ k ih =>
      intro hk
      simp only [fieldsTo]
      by_cases e : i = k
      · subst e; rw [ht]; simp
      · rw [ih (by omega)]; simp
  exact this _ h

/-- The world as prune finds it. -/
theorem prune_state {B n m mg gcap N : Nat} {ps : List Pat} {gs : List Int} {ga acu : Option Addr} {gA gat gow gfi gfo gm gse gwh gp cl cc : Nat} {W : World} {L : List Nat}
    (au : Auto B n ps (.slice ga mg gcap) gs gA gat gow gfi gfo gm gse gwh N (.slice acu cl cc) 0 W) (hcap : (atTo ps n).length ≤ N) (hmm : (atTo ps n).length ≤ 4194304) (hmg : mg ≤ 1048576) (hm : m ≤ 1048576) (HM : gs.length = mg) (hnm : n ≤ mg) (hgs : ∀ k, k < mg → iat gs k ≤ 65536 ∧ (k < n → 0 ≤ iat gs k))
    (hgp : gp < B) (hg : ∀ k, k < mg → ∃ b off, ga = some ⟨b, off, none⟩ ∧ b < B ∧ b ≠ gp ∧ W.cell? ⟨b, off + k, none⟩ = some (.int .i64 (iat gs k))) (hpo : RowN W gp 3 m m (fun i => .int .i64 ((nat L i : Nat) : Int))) :
    PBd ⟨(atTo ps n).length, mg, n, gcount gs, m, gA, gat, gow, gse, gwh, gp, N, gcap, cl, cc, ga, acu, tkF ps n, cuF ps n, owF ps n, grF gs⟩ ∧
    PSt ⟨(atTo ps n).length, mg, n, gcount gs, m, gA, gat, gow, gse, gwh, gp, N, gcap, cl, cc, ga, acu, tkF ps n, cuF ps n, owF ps n, grF gs⟩ (W.setCell ⟨gA, 10, none⟩ (.int .u32 1)) (fun _ => 0) (fun _ => 0) (nat L) (W.setCell ⟨gA, 10, none⟩ (.int .u32 1)) := by
  have b1 := au.ly.b1
  have b2 := au.ly.b2
  have l1 := au.ly.l1
  have l2 := au.ly.l2
  have m1 := au.m1
  have m2 := au.m2
  have m3 := au.m3
  have hgrn : ∀ p, p < n → iat gs p = ((grF gs p : Nat) : Int) := fun p hp => by
    have := (hgs p (by omega)).2 hp
    unfold grF; omega
  have hbd : PBd ⟨(atTo ps n).length, mg, n, gcount gs, m, gA, gat, gow, gse, gwh, gp, N, gcap, cl, cc, ga, acu, tkF ps n, cuF ps n, owF ps n, grF gs⟩ := by
    refine ⟨hmm, hmg, hnm, ?_, hm, fun i hi => (owF_spec ps n i hi).1, fun p hp => ?_, fun i hi ht => ?_, fun i j hij hj => owF_mono ps n i j hij hj, ?_, ?_, ?_, ?_, ?_, ?_, ?_, ?_, ?_, ?_, ?_, ?_⟩
    · have := gcTo_le gs 65536 (by omega) (fun i hi => (hgs i (by omega)).1) gs.length (Nat.le_refl _)
      show gcount gs ≤ 1048576
      unfold gcount; omega
    · have h1 := gcTo_gt gs gs.length p (by have : p < n := hp; omega)
      have h2 := hgrn p hp
      have h3 := gcTo_cast gs
      show grF gs p < gcount gs
      omega
    · have h1 := tk_last ps n i hi ht
      have h2 := start_le ps n _ (owF_spec ps n i hi).1
      show i + 1 < (atTo ps n).length
      omega
    all_goals (show _ ≠ _; first | omega | (simp only; omega))
  have hsa := SA.set au.sa rfl 10 (.int .u32 1) (by omega)
  have nA : ∀ k, k ≠ gA → (W.setCell ⟨gA, 10, none⟩ (.int .u32 1)).heap[k]? = W.heap[k]? := fun k hk => Below.heap_setCell _ _ _ _ (by simpa using hk)
  refine ⟨hbd, ?_, Chg.refl _ _ _ _, au.sett.of_block (nA _ (by omega)), au.whole.of_block (nA _ (by omega)), hpo.of_block (nA _ (by omega))⟩
  have s0 := hsa.cell 0 (by omega)
  have s1 := hsa.cell 1 (by omega)
  have s3 := hsa.cell 3 (by omega)
  have s6 := hsa.cell 6 (by omega)
  have s8 := hsa.cell 8 (by omega)
  have s9 := hsa.cell 9 (by omega)
  have s10 := hsa.cell 10 (by omega)
  rw [owTo_len] at s1
  refine ⟨s0, s1, s3, s6, s8, s9, s10, fun i hi => ?_, fun i hi => ?_, fun p hp => ?_, fun i hi ht => ?_⟩
  · have := (au.rat.of_block (nA _ (by omega))).cellAt (i := i) hi (Nat.lt_of_lt_of_le hi hcap)
    exact this
  · have := (au.row.of_block (nA _ (by omega))).cellAt (i := i) (by rw [owTo_len]; exact hi) (Nat.lt_of_lt_of_le hi hcap)
    rw [this]
    show some (Value.int .i64 (iat (owTo ps n) i)) = _
    rw [(owF_spec ps n i hi).2.2.2]
  · have hp' : p < n := hp
    obtain ⟨b, off, e, hb, hbp, hc⟩ := hg p (by omega)
    refine ⟨b, off, e, ?_, ?_⟩
    · refine ⟨?_, ?_, ?_⟩
      · show b ≠ gse; omega
      · show b ≠ gwh; omega
      · exact hbp
    · rw [World.cell?_of_block (w := W) (nA b (by omega)), hc]
      show some (Value.int .i64 (iat gs p)) = _
      rw [hgrn p hp']
  · have hf := fields_of_tok hi ht
    rcases au.cut with ⟨h1, _⟩ | ⟨h1, g, h2, h3, h4, h5⟩
    · rw [h1] at hf; cases hf
    · cases h4
      refine ⟨rfl, g, 0, rfl, ⟨?_, ?_, ?_⟩, ?_⟩
      · show g ≠ gse; omega
      · show g ≠ gwh; omega
      · show g ≠ gp; omega
      · rw [Nat.zero_add]
        exact (h5.of_block (nA _ (by omega))).cellAt hi hi

set_option maxRecDepth 100000 in
set_option maxHeartbeats 2000000 in
theorem zzPrune_any (a b c ga wa : Option Addr) (n mg m capa capb capc gcap : Nat) (ps : List Pat) (gs : List Int) (L : List Nat) (w : World) (HN : Hid (ps.length = n)) (HM : Hid (gs.length = mg)) (hn : n + tlen ps ≤ 4194304) (hn2 : n ≤ 1048576) (hmg : mg ≤ 1048576) (hm : m ≤ 1048576)
    (hp : Row w a n (fun i => .string (ptx ps i))) (hq : Row w b n (fun i => .bool (pfo ps i))) (hr : Row w c n (fun i => .bool (pli ps i))) (hg : Ints .i64 w ga gs) (hgs : ∀ i, i < mg → -9223372036854775808 ≤ iat gs i ∧ iat gs i ≤ 65536)
    (hnm : n ≤ mg) (hdom : ∀ k, k < n → 0 ≤ iat gs k) (HL : Hid (L.length = m)) (hinc : Incs L) (hlt : ∀ k, k < m → nat L k < (atTo ps n).length) (hpos : PosIn w wa m L) (hsep : ∀ b off g, 0 < mg → ga = some ⟨b, off, none⟩ → wa = some g → b ≠ g.block) :
    Calls Try.prog 33 #[.slice a n capa, .slice b n capb, .slice c n capc, .slice ga mg gcap, .slice wa m m] w fun e w' => PrRes wa m L (keptOf ps gs n L) e w' ∧ Away wa w w' := by
  have HGS : Hid (∀ i, i < mg → -9223372036854775808 ≤ iat gs i ∧ iat gs i ≤ 65536) := hgs
  have HDM : Hid (∀ k, k < n → 0 ≤ iat gs k) := hdom
  have HINC : Hid (Incs L) := hinc
  have HLT : Hid (∀ k, k < m → nat L k < (atTo ps n).length) := hlt
  have HPOS : Hid (PosIn w wa m L) := hpos
  have HSEP : Hid (∀ b off g, 0 < mg → ga = some ⟨b, off, none⟩ → wa = some g → b ≠ g.block) := hsep
  clear hgs hdom hinc hlt hpos hsep
  go_enter Try.func33, Try.ntmps33
  go_wp2_with fail
  refine (zzPatterns_any a b c n capa capb capc ps _ HN hn2 hp hq hr).mono ?_
  rintro e w1 ⟨⟨a1, c1, rfl, hp1⟩, hb1⟩
  have HG0 : Hid (Ints .i64 w ga gs) := hg
  have hg1 : Ints .i64 w1 ga gs := Row.below hg hb1
  clear hp hq hr hg
  go_wp2_with fail
  refine (compile_any a1 ga n mg c1 gcap ps gs _ HN HM hn hmg hp1 hg1 HGS.out).mono ?_
  rintro e w2 ⟨⟨gA, gat, gow, gfi, gfo, gm, gse, gwh, N, cv, rfl, hcap, au⟩, hb2⟩
  have HCP : Hid ((atTo ps n).length ≤ N) := hcap
  clear hcap
  obtain ⟨acu, cl, cc, rfl⟩ := cutVal_slice au.cut
  obtain ⟨x0, hx0⟩ : ∃ u, w2.cell? ⟨gA, 10, none⟩ = some u := ⟨_, au.sa.cell 10 (by omega)⟩
  have hz0 := au.sa.frozen 10
  have HAU : Hid (Auto w1.heap.size n ps (.slice ga mg gcap) gs gA gat gow gfi gfo gm gse gwh N (.slice acu cl cc) 0 w2) := au
  have hmm : (atTo ps n).length ≤ 4194304 := by
    have h1 := atTo_len ps n
    have h2 : tlen ps = tlenTo ps n := by unfold tlen; rw [HN.out]
    omega
  have HMMB : Hid ((atTo ps n).length ≤ 4194304) := hmm
  clear au hp1 hmm
  go_wp2_with fail
  rcases HPOS.out with ⟨rfl, rfl⟩ | ⟨gp, rfl, hpo⟩
  · refine (prune_nil gA _).mono ?_
    rintro e w3 ⟨rfl, hw⟩
    subst hw
    go_wp2
    go_ret
    have hL : L = [] := List.eq_nil_of_length_eq_zero HL.out
    subst hL
    exact ⟨⟨nat [], rfl, Kp.start [] 0, fun i hi => by omega⟩, away_of_below (((hb1.trans (hb2.mono hb1.size))).setCell (by have := HAU.out.ly.b1; have := HAU.out.ly.l1; have := hb1.size; simp; omega) _)⟩
  · have hgpw := hpo.lt
    have hpo2 := (hpo.below hb1 hgpw).below hb2 (by have := hb1.size; omega)
    have hst := prune_state (m := m) (L := L) HAU.out HCP.out HMMB.out hmg hm HM.out hnm (fun k hk => ⟨(HGS.out k hk).2, HDM.out k⟩) (by have := hb1.size; omega) (fun k hk => by
      obtain ⟨b, off, e, hb, hc⟩ := HG0.out k (by rw [HM.out]; exact hk)
      refine ⟨b, off, e, by have := hb1.size; omega, HSEP.out b off _ (by omega) e rfl, ?_⟩
      rw [hb2.cell (by have := hb1.size; simp; omega), hb1.cell (by simpa using hb)]
      exact hc) hpo2
    refine (prune_row _ L _ hst.1 HL HINC.out HLT.out hst.2).mono ?_
    rintro e w3 ⟨⟨A, rfl, hkp, hrow⟩, hchg⟩
    clear hst hpo2
    go_wp2
    go_ret
    have ek : keptTo (tkF ps n) (owF ps n) (grF gs) (cuF ps n) L L.length = keptOf ps gs n L := by simp [keptTo, keptOf]
    have hs := HAU.out.ly
    have h1 := hs.b1; have h2 := hs.l1; have h3 := HAU.out.m1; have h4 := HAU.out.m2; have h5 := HAU.out.m3; have h6 := hb1.size; have h7 := hb2.size
    refine ⟨⟨A, ?_, ?_, ?_⟩, ⟨?_, ?_, ?_, ?_, ?_⟩⟩
    · rw [← ek]; rfl
    · rw [← ek]; exact hkp
    · exact hrow.row (Nat.le_refl _) (Nat.le_refl _)
    · exact hchg.os.trans (hb2.os.trans hb1.os)
    · exact hchg.tape.trans (hb2.tape.trans hb1.tape)
    · exact hchg.output.trans (hb2.output.trans hb1.output)
    · have := hchg.size
      simp only [World.setCell, Array.size_modify] at this
      omega
    · intro k hk hne
      have hkg : k ≠ gp := hne _ rfl
      rw [hchg.block k (by simp only [World.setCell, Array.size_modify]; omega) (by show k ≠ gse; omega) (by show k ≠ gwh; omega) hkg, Below.heap_setCell _ _ _ _ (by show k ≠ gA; omega), hb2.block k (by omega), hb1.block k hk]
end Go.Proofs.Qxb6601200a
