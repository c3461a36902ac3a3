import Derived.Test.Qxb6601219aTaxB
set_option linter.unusedSimpArgs false
set_option linter.unusedVariables false
namespace Go.Proofs.Qxb6601219a
open Go.RowKit

/-- A pointer to key o of block g. -/
def kp (g : Nat) : Option Nat → Value
  | none => .pointer none
  | some i => .pointer (some ⟨g, i * 3, none⟩)
def LookEnd (g n : Nat) (rs : List (Int × ByteArray)) (r : Int) (ta : ByteArray) (e : Ending) : Prop :=
  e = .returned (.tuple #[if cnt rs r ta n = 1 then kp g (lst rs r ta n) else .pointer none, .int .i64 (cnt rs r ta n : Nat)])
theorem cnt_hit {rs : List (Int × ByteArray)} {r : Int} {ta : ByteArray} {j : Nat} (h1 : (kr rs j == r) = true) (h2 : ((ka rs j).toList == ta.toList) = true) : cnt rs r ta (j + 1) = cnt rs r ta j + 1 ∧ lst rs r ta (j + 1) = some j := by
  have : hit rs r ta j = true := by unfold hit; rw [h1, h2]; rfl
  simp [cnt, lst, this]
theorem cnt_miss {rs : List (Int × ByteArray)} {r : Int} {ta : ByteArray} {j : Nat} (h : (kr rs j == r && (ka rs j).toList == ta.toList) = false) : cnt rs r ta (j + 1) = cnt rs r ta j ∧ lst rs r ta (j + 1) = lst rs r ta j := by
  have : hit rs r ta j = false := h
  simp [cnt, lst, this]

set_option maxHeartbeats 4000000 in
theorem look_any (p g n : Nat) (rs : List (Int × ByteArray)) (r : Int) (ta : ByteArray) (w : World) (hm : n ≤ 1048576) (hp : Prof w p g n rs) :
    Calls Try.prog 17 #[.pointer (some ⟨p, 0, none⟩), .int .i64 r, .string ta] w fun e w' => LookEnd g n rs r ta e ∧ w' = w := by
  obtain ⟨hpl, h6, ht⟩ := hp
  go_enter Try.func17, Try.ntmps17
  go_wp2
  go_loopw [6, 7, 15] (fun k c i wr => ∃ j : Nat, j ≤ n ∧ k = kp g (lst rs r ta j) ∧ c = .int .i64 (cnt rs r ta j : Nat) ∧ i = .int .i64 j ∧ wr = w) (fun _ _ i _ => n - (intOf i).toNat)
  case atStart => exact ⟨0, by omega, rfl, rfl, rfl, rfl⟩
  case round =>
    obtain ⟨j, hj, rfl, rfl, rfl, rfl⟩ := hrel
    have hcl := cnt_le rs r ta j
    by_cases hlt : j < n
    · obtain ⟨c0, c1, c2⟩ := ht.at hlt hlt
      have hl : (j : Int) < (n : Int) := by omega
      cases t0 : (kr rs j == r) with
      | true =>
        cases t1 : ((ka rs j).toList == ta.toList) with
        | true =>
          have HC := cnt_hit t0 t1
          have HH : Hid (cnt rs r ta (j + 1) = cnt rs r ta j + 1 ∧ lst rs r ta (j + 1) = some j) := HC
          clear HC
          go_wp2
          go_roundw
          case rel => exact ⟨j + 1, by omega, by rw [HH.out.2]; rfl, by rw [HH.out.1]; go_num, by go_num, by first | rfl | trivial⟩
          case measure => simp [intOf]; omega
        | false =>
          have HH : Hid (cnt rs r ta (j + 1) = cnt rs r ta j ∧ lst rs r ta (j + 1) = lst rs r ta j) := cnt_miss (by rw [t0, t1]; rfl)
          go_wp2
          go_roundw
          case rel => exact ⟨j + 1, by omega, by rw [HH.out.2], by rw [HH.out.1], by go_num, by first | rfl | trivial⟩
          case measure => simp [intOf]; omega
      | false =>
        have HH : Hid (cnt rs r ta (j + 1) = cnt rs r ta j ∧ lst rs r ta (j + 1) = lst rs r ta j) := cnt_miss (by rw [t0]; rfl)
        go_wp2
        go_roundw
        case rel => exact ⟨j + 1, by omega, by rw [HH.out.2], by rw [HH.out.1], by go_num, by first | rfl | trivial⟩
        case measure => simp [intOf]; omega
    · obtain rfl : j = n := by omega
      cases tc : (cnt rs r ta j == 1) with
      | true =>
        have HE : Hid (cnt rs r ta j = 1) := beq_iff_eq.1 tc
        obtain ⟨c, hc⟩ : ∃ c, cnt rs r ta j = c := ⟨_, rfl⟩
        have HC : Hid (cnt rs r ta j = c) := hc
        rw [hc] at tc ⊢
        obtain rfl : c = 1 := beq_iff_eq.1 tc
        clear hc tc
        go_wp2
        go_ret2
        exact ⟨by unfold LookEnd; rw [HC.out]; rfl, by first | rfl | trivial⟩
      | false =>
        have HE : Hid (¬ cnt rs r ta j = 1) := beq_eq_false_iff_ne.1 tc
        have tc' : ((cnt rs r ta j : Int) == 1) = false := by have := HE.out; simp; omega
        have tc2 : ((cnt rs r ta j : Int) != 1) = true := by have := HE.out; simp; omega
        clear tc
        go_wp2
        go_ret2
        exact ⟨by unfold LookEnd; rw [if_neg HE.out]; rfl, by first | rfl | trivial⟩

theorem run_neq_map (w : World) : (binOp .neq 40 (.map none) (.map none)).run Try.prog w = .ok (.bool false) w := by
  have h : ∀ d : Nat, (Op.equalIn (d + 1) 40 (.map none) (.map none)).run Try.prog w = .ok true w := fun d => by
    simp [Op.equalIn, run_underlying Try.underlying40]
  simp only [binOp]
  simp [Op.equal, Op.maxDepth, h 9999]

set_option maxHeartbeats 8000000 in
theorem keysAre_any (p g n cap : Nat) (a : Option Addr) (rs : List (Int × ByteArray)) (w : World) (HN : Hid (rs.length = n)) (hm : n ≤ 1048576) (hp : Prof w p g n rs) (hk : KRows w a rs) :
    Calls Try.prog 18 #[.pointer (some ⟨p, 0, none⟩), .slice a n cap] w fun e w' => e = .returned (.bool true) ∧ Quiet w w' := by
  obtain ⟨hpl, h6, ht⟩ := hp
  have hmap : ∀ w : World, (binOp .neq 40 (.map none) (.map none)).run Try.prog w = .ok (.bool false) w := fun w => run_neq_map w
  go_enter Try.func18, Try.ntmps18
  go_wp2
  go_loopw [5] (fun i wr => ∃ j : Nat, j ≤ n ∧ i = .int .i64 j ∧ Quiet w wr) (fun i _ => n - (intOf i).toNat)
  case atStart => exact ⟨0, by omega, rfl, Quiet.refl _⟩
  case round =>
    obtain ⟨j, hj, rfl, hq⟩ := hrel
    obtain ⟨q, rfl⟩ := hq
    by_cases hlt : j < n
    · obtain ⟨c0, c1, c2⟩ := ht.at hlt hlt
      obtain ⟨b, off, rfl, hbl, d0, d1⟩ := hk j (by have := HN.out; omega)
      have hl : (j : Int) < (n : Int) := by omega
      clear hk ht
      go_wp2
      go_quiet (fail)
      all_goals go_wp2
      go_roundw
      case rel => exact ⟨j + 1, by omega, by go_num, ⟨_, rfl⟩⟩
      case measure => simp [intOf]; omega
    · obtain rfl : j = n := by omega
      go_wp2
      go_ret
      exact ⟨rfl, ⟨_, rfl⟩⟩
end Go.Proofs.Qxb6601219a
