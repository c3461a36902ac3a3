import Derived.Test.Qxb6601200aCPlain
import Derived.Lib.TrimUEq
import Derived.Laws.Cover4
set_option linter.unusedSimpArgs false
set_option linter.unusedVariables false
namespace Go.Proofs.Qxb6601200a
open Go.RowKit

/-! ### UTF-8: what is encoded is decoded -/
def encL (r : Int) : List UInt8 := (Utf8.encode r).data.toList
def encsL (rs : List Int) : List UInt8 := rs.flatMap encL
theorem runesBytes_list (rs : List Int) : (runesBytes rs).data.toList = encsL rs := by
  have : ∀ (rs : List Int) (s : ByteArray), (rs.foldl (fun r n => r ++ Utf8.encode n) s).data.toList = s.data.toList ++ encsL rs := by
    intro rs
    induction rs with
    | nil => intro s; simp [encsL]
    | cons r rs ih => intro s; rw [List.foldl_cons, ih]; simp [encsL, encL]
  have h := this rs ByteArray.empty
  unfold runesBytes
  rw [h]; rfl
theorem toNat_ofNat (n : Nat) (h : n < 256) : (UInt8.ofNat n).toNat = n := by
  simp [UInt8.toNat_ofNat]; omega
theorem getD_at (pre l suf : List UInt8) (k : Nat) (h : k < l.length) : (pre ++ (l ++ suf)).getD (pre.length + k) 0 = l.getD k 0 := by
  simp [List.getD, List.getElem?_append_right, List.getElem?_append_left h]
set_option maxRecDepth 100000 in
set_option maxHeartbeats 1000000 in
theorem decode_encode (s : ByteArray) (pre suf : List UInt8) (r : Nat) (hv : Utf8.valid (r : Int) = true) (hs : s.data.toList = pre ++ (encL r ++ suf)) : Utf8.decode s pre.length = (r, (encL r).length) ∧ 1 ≤ (encL r).length := by
  have hv2 : r < 55296 ∨ (57344 ≤ r ∧ r ≤ 1114111) := by simp [Utf8.valid] at hv; omega
  have hlen : s.data.toList.length - pre.length = (encL r).length + suf.length := by rw [hs]; simp
  rw [Lib.decode_N, hlen, hs]
  by_cases c1 : r < 128
  · have e : encL r = [UInt8.ofNat r] := by simp [encL, Utf8.encode, hv, c1]
    have g0 := getD_at pre (encL r) suf 0 (by rw [e]; simp)
    rw [Nat.add_zero] at g0
    rw [g0, e]
    have : (UInt8.ofNat r).toNat = r := toNat_ofNat r (by omega)
    simp [Lib.decodeN, this, c1]
  · by_cases c2 : r < 2048
    · have e : encL r = [UInt8.ofNat (192 + r / 64), UInt8.ofNat (128 + r % 64)] := by simp [encL, Utf8.encode, hv, c1, c2]
      have g0 := getD_at pre (encL r) suf 0 (by rw [e]; simp)
      have g1 := getD_at pre (encL r) suf 1 (by rw [e]; simp)
      rw [Nat.add_zero] at g0
      rw [g0, g1, e]
      have t0 : (UInt8.ofNat (192 + r / 64)).toNat = 192 + r / 64 := toNat_ofNat _ (by omega)
      have t1 : (UInt8.ofNat (128 + r % 64)).toNat = 128 + r % 64 := toNat_ofNat _ (by omega)
      simp only [List.getD_cons_zero, List.getD_cons_succ, t0, t1, List.length_cons, List.length_nil]
      generalize List.getD _ _ _ = x2
      generalize List.getD _ _ _ = x3
      unfold Lib.decodeN
      rw [if_neg (by omega), if_pos (by omega), if_pos (by omega)]
      exact ⟨by apply Prod.ext <;> simp only; omega, by omega⟩
    · by_cases c3 : r < 65536
      · have e : encL r = [UInt8.ofNat (224 + r / 4096), UInt8.ofNat (128 + r / 64 % 64), UInt8.ofNat (128 + r % 64)] := by simp [encL, Utf8.encode, hv, c1, c2, c3]
        have g0 := getD_at pre (encL r) suf 0 (by rw [e]; simp)
        have g1 := getD_at pre (encL r) suf 1 (by rw [e]; simp)
        have g2 := getD_at pre (encL r) suf 2 (by rw [e]; simp)
        rw [Nat.add_zero] at g0
        rw [g0, g1, g2, e]
        have t0 : (UInt8.ofNat (224 + r / 4096)).toNat = 224 + r / 4096 := toNat_ofNat _ (by omega)
        have t1 : (UInt8.ofNat (128 + r / 64 % 64)).toNat = 128 + r / 64 % 64 := toNat_ofNat _ (by omega)
        have t2 : (UInt8.ofNat (128 + r % 64)).toNat = 128 + r % 64 := toNat_ofNat _ (by omega)
        simp only [List.getD_cons_zero, List.getD_cons_succ, t0, t1, t2, List.length_cons, List.length_nil]
        generalize List.getD _ _ _ = x3
        unfold Lib.decodeN
        rw [if_neg (by omega), if_neg (by omega), if_pos (by omega), if_pos (by omega)]
        exact ⟨by apply Prod.ext <;> simp only; omega, by omega⟩
      · have e : encL r = [UInt8.ofNat (240 + r / 262144), UInt8.ofNat (128 + r / 4096 % 64), UInt8.ofNat (128 + r / 64 % 64), UInt8.ofNat (128 + r % 64)] := by simp [encL, Utf8.encode, hv, c1, c2, c3]
        have g0 := getD_at pre (encL r) suf 0 (by rw [e]; simp)
        have g1 := getD_at pre (encL r) suf 1 (by rw [e]; simp)
        have g2 := getD_at pre (encL r) suf 2 (by rw [e]; simp)
        have g3 := getD_at pre (encL r) suf 3 (by rw [e]; simp)
        rw [Nat.add_zero] at g0
        rw [g0, g1, g2, g3, e]
        have t0 : (UInt8.ofNat (240 + r / 262144)).toNat = 240 + r / 262144 := toNat_ofNat _ (by omega)
        have t1 : (UInt8.ofNat (128 + r / 4096 % 64)).toNat = 128 + r / 4096 % 64 := toNat_ofNat _ (by omega)
        have t2 : (UInt8.ofNat (128 + r / 64 % 64)).toNat = 128 + r / 64 % 64 := toNat_ofNat _ (by omega)
        have t3 : (UInt8.ofNat (128 + r % 64)).toNat = 128 + r % 64 := toNat_ofNat _ (by omega)
        simp only [List.getD_cons_zero, List.getD_cons_succ, t0, t1, t2, t3, List.length_cons, List.length_nil]
        unfold Lib.decodeN
        rw [if_neg (by omega), if_neg (by omega), if_neg (by omega), if_pos (by omega), if_pos (by omega)]
        exact ⟨by apply Prod.ext <;> simp only; omega, by omega⟩

theorem runesLeft_encs (s : ByteArray) : ∀ (rs : List Int) (pre : List UInt8), (∀ r ∈ rs, Utf8.valid r = true) → s.data.toList = pre ++ encsL rs → runesLeft s pre.length = rs
  | [], pre, _, hs => by
    apply runesLeft_end
    have h1 : s.size = s.data.toList.length := by rw [Array.length_toList]; rfl
    rw [h1, hs]; simp [encsL]
  | r :: rs, pre, hv, hs => by
    have hr : Utf8.valid r = true := hv r (by simp)
    have h0 : 0 ≤ r := by simp [Utf8.valid] at hr; omega
    obtain ⟨n, rfl⟩ := Int.eq_ofNat_of_zero_le h0
    have hs2 : s.data.toList = pre ++ (encL (n : Int) ++ encsL rs) := by rw [hs]; simp only [encsL, List.flatMap_cons]
    have hd := decode_encode s pre (encsL rs) n hr hs2
    have h1 : s.size = s.data.toList.length := by rw [Array.length_toList]; rfl
    have hlt : pre.length < s.size := by rw [h1, hs2, List.length_append, List.length_append]; omega
    rw [runesLeft_step hlt, hd.1]
    have ih := runesLeft_encs s rs (pre ++ encL (n : Int)) (fun x hx => hv x (by simp [hx])) (by rw [hs2, List.append_assoc])
    rw [List.length_append] at ih
    simp only [ih]
theorem runes_runesBytes (rs : List Int) (hv : ∀ r ∈ rs, Utf8.valid r = true) : runes (runesBytes rs) = rs := by
  have := runesLeft_encs (runesBytes rs) rs [] hv (by rw [runesBytes_list]; rfl)
  exact this

set_option maxHeartbeats 1000000 in
theorem decode_valid (s : ByteArray) (pos : Nat) : Utf8.valid ((Utf8.decode s pos).1 : Int) = true := by
  rw [Lib.decode_at]
  unfold Lib.decodeN Utf8.valid
  have h0 := (s.get! pos).toNat_lt
  repeat' split
  all_goals simp only [Bool.or_eq_true, Bool.and_eq_true, decide_eq_true_eq] at *
  all_goals omega
theorem runesAt_valid (s : ByteArray) : ∀ f pos, ∀ r ∈ runesAt s f pos, Utf8.valid r = true
  | 0, pos, r, h => by simp [runesAt] at h
  | f + 1, pos, r, h => by
    simp only [runesAt] at h
    split at h
    · rcases List.mem_cons.1 h with rfl | h
      · exact decode_valid s pos
      · exact runesAt_valid s f _ r h
    · simp at h
theorem runes_valid (s : ByteArray) : ∀ r ∈ runes s, Utf8.valid r = true := runesAt_valid s _ _

/-! ### Tokens, and how they are written back -/
def isTok (t : Int) : Prop := t = -2 ∨ t = -3 ∨ t = -4 ∨ t = -5 ∨ t = -6 ∨ Utf8.valid t = true
theorem tstep_tok (lit : Bool) (st : Bool × List Int) (r : Int) (hr : Utf8.valid r = true) (h : ∀ t ∈ st.2, isTok t) : ∀ t ∈ (tstep lit st r).2, isTok t := by
  unfold tstep
  have base : ∀ v : Int, isTok v → ∀ t ∈ st.2 ++ [v], isTok t := by
    intro v hv t ht
    rcases List.mem_append.1 ht with ht | ht
    · exact h t ht
    · simp at ht; subst ht; exact hv
  have hrt : isTok r := .inr (.inr (.inr (.inr (.inr hr))))
  repeat' split
  · exact base _ (.inr (.inr (.inl rfl)))
  · exact base _ (.inr (.inr (.inr (.inl rfl))))
  · exact base _ (.inr (.inr (.inr (.inr (.inl rfl)))))
  · exact base _ hrt
  · exact h
  · exact base _ (.inl rfl)
  · exact base _ (.inr (.inl rfl))
  · exact base _ hrt
theorem tfold_tok (lit : Bool) (rs : List Int) (hv : ∀ r ∈ rs, Utf8.valid r = true) : ∀ st : Bool × List Int, (∀ t ∈ st.2, isTok t) → ∀ t ∈ (rs.foldl (tstep lit) st).2, isTok t := by
  induction rs with
  | nil => intro st h; exact h
  | cons r rs ih =>
    intro st h
    exact ih (fun x hx => hv x (by simp [hx])) (tstep lit st r) (tstep_tok lit st r (hv r (by simp)) h)
theorem tokI_tok (ps : List Pat) (k : Nat) : ∀ t ∈ tokI ps k, isTok t := tfold_tok _ _ (runes_valid _) _ (by simp)

def rend1 (t : Int) : List Int :=
  if t = -2 then [42] else if t = -3 then [63] else if t = -4 then [92, 40] else if t = -5 then [92, 123] else if t = -6 then [92, 125]
  else if t = 42 ∨ t = 63 ∨ t = 92 then [92, t] else [t]
def rend (ts : List Int) : List Int := ts.flatMap rend1
theorem rend1_len (t : Int) : (rend1 t).length ≤ 2 := by
  unfold rend1
  repeat' split
  all_goals simp
theorem rend1_valid {t : Int} (h : isTok t) : ∀ r ∈ rend1 t, Utf8.valid r = true := by
  unfold rend1
  repeat' split
  all_goals intro r hr
  all_goals simp at hr
  · subst hr; rfl
  · subst hr; rfl
  · rcases hr with rfl | rfl <;> rfl
  · rcases hr with rfl | rfl <;> rfl
  · rcases hr with rfl | rfl <;> rfl
  · rename_i hx
    rcases hr with rfl | rfl
    · rfl
    · rcases hx with rfl | rfl | rfl <;> rfl
  · subst hr
    rcases h with h | h | h | h | h | h
    · contradiction
    · contradiction
    · contradiction
    · contradiction
    · contradiction
    · exact h
theorem rend_valid {ts : List Int} (h : ∀ t ∈ ts, isTok t) : ∀ r ∈ rend ts, Utf8.valid r = true := by
  intro r hr
  obtain ⟨t, ht, hr⟩ := List.mem_flatMap.1 hr
  exact rend1_valid (h t ht) r hr
theorem tstep_rend1 {t : Int} (h : isTok t) (L : List Int) : (rend1 t).foldl (tstep false) (false, L) = (false, L ++ [t]) := by
  have hv : Utf8.valid t = true → 0 ≤ t := by intro h; simp [Utf8.valid] at h; omega
  unfold rend1
  repeat' split
  · subst_vars; simp [tstep]
  · subst_vars; simp [tstep]
  · subst_vars; simp [tstep]
  · subst_vars; simp [tstep]
  · subst_vars; simp [tstep]
  · rename_i hx
    rcases hx with rfl | rfl | rfl <;> simp [tstep]
  · rename_i h1 h2 h3 h4 h5 h6
    have a1 : ¬ t = 42 := fun e => h6 (.inl e)
    have a2 : ¬ t = 63 := fun e => h6 (.inr (.inl e))
    have a3 : ¬ t = 92 := fun e => h6 (.inr (.inr e))
    simp [tstep, a1, a2, a3]
theorem toks_rend_from {ts : List Int} (h : ∀ t ∈ ts, isTok t) : ∀ L, (rend ts).foldl (tstep false) (false, L) = (false, L ++ ts) := by
  induction ts with
  | nil => intro L; simp [rend]
  | cons t ts ih =>
    intro L
    have e : rend (t :: ts) = rend1 t ++ rend ts := by simp [rend]
    rw [e, List.foldl_append, tstep_rend1 (h t (by simp)), ih (fun x hx => h x (by simp [hx]))]
    simp
theorem toks_rend {ts : List Int} (h : ∀ t ∈ ts, isTok t) : toks false (rend ts) = ts := by
  unfold toks
  rw [toks_rend_from h]; rfl
/-- A pattern written back is read again as it was. -/
theorem toks_again {ts : List Int} (h : ∀ t ∈ ts, isTok t) : toks false (runes (runesBytes (rend ts))) = ts := by
  rw [runes_runesBytes _ (rend_valid h), toks_rend h]

end Go.Proofs.Qxb6601200a
