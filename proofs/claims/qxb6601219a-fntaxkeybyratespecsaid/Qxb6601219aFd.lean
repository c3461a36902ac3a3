import Derived.Test.Qxb6601219aProg
import Derived.WalkKit
import Derived.WalkSpells
import Derived.WalkLawsBesides
import Derived.Deep.QuietTactic
import Derived.BigQuiet
import Derived.Deep.LoopGhost
import Derived.Deep.Light
import Derived.Deep.DeepMust
set_option linter.unusedSimpArgs false
set_option linter.unusedVariables false
namespace Go.Proofs.Qxb6601219a
open Go.RowKit

/-- k bytes '0'. -/
def zs : Nat → ByteArray
  | 0 => ⟨#[]⟩
  | k + 1 => ⟨#[48]⟩ ++ zs k
theorem zs_size : ∀ k, (zs k).size = k
  | 0 => rfl
  | k + 1 => by rw [zs, ByteArray.size_append, zs_size k]; show 1 + k = k + 1; omega
theorem zs_step (k : Nat) (d : ByteArray) : (⟨#[48]⟩ : ByteArray) ++ (zs k ++ d) = zs (k + 1) ++ d := by rw [zs, ByteArray.append_assoc]

/-- The digits with as many zeros ahead as places want. -/
def pad (d : ByteArray) (p : Nat) : ByteArray := zs (p + 1 - d.size) ++ d
def sgn (neg : Bool) : ByteArray := if neg then ⟨#[45]⟩ else ⟨#[]⟩
def fd (neg : Bool) (d : ByteArray) (p : Nat) (m : Int) : ByteArray :=
  ((sgn neg ++ (pad d p).extract 0 ((pad d p).size - p)) ++ Utf8.encode m) ++ (pad d p).extract ((pad d p).size - p) (pad d p).size
theorem enc_size (m : Int) : (Utf8.encode m).size ≤ 4 := by
  unfold Utf8.encode
  dsimp only
  generalize (if Utf8.valid m = true then m.toNat else Utf8.runeError) = c
  by_cases h1 : c < 128
  · rw [if_pos h1]; show 1 ≤ 4; omega
  · rw [if_neg h1]
    by_cases h2 : c < 2048
    · rw [if_pos h2]; show 2 ≤ 4; omega
    · rw [if_neg h2]
      by_cases h3 : c < 65536
      · rw [if_pos h3]; show 3 ≤ 4; omega
      · rw [if_neg h3]; show 4 ≤ 4; omega

/-- Only draws were made. -/
def Quiet (w w' : World) : Prop := ∃ m, w' = w.drewN m
theorem Quiet.refl (w : World) : Quiet w w := ⟨0, rfl⟩
theorem Quiet.drewN {w w' : World} (h : Quiet w w') (m : Nat) : Quiet w (w'.drewN m) := by
  obtain ⟨k, rfl⟩ := h
  exact ⟨k + m, World.drewN_drewN _ _ _⟩
theorem Quiet.drew {w w' : World} (h : Quiet w w') : Quiet w w'.drew := h.drewN 1

def Says (s : ByteArray) (e : Ending) : Prop := e = .returned (.string s)

set_option maxHeartbeats 4000000 in
theorem fd_any (neg : Bool) (d : ByteArray) (p : Nat) (m : Int) (hd : d.size ≤ 1048577) (hp : p ≤ 65536) (w : World) :
    Calls Try.prog 21 #[.bool neg, .string d, .int .i64 p, .int .u8 m] w fun e w' => Says (fd neg d p m) e ∧ Quiet w w' := by
  go_enter Try.func21, Try.ntmps21
  go_wp2
  go_loopg [1] (p + 1 - d.size) (fun k s wr => ∃ (j : Nat) (X : ByteArray), k = p + 1 - d.size - j ∧ j ≤ p + 1 - d.size ∧ s = .string X ∧ X = zs j ++ d ∧ X.size = j + d.size ∧ wr = w)
  case atStart => exact ⟨0, d, by omega, by omega, rfl, by rw [zs]; exact (ByteArray.empty_append).symm, by omega, rfl⟩
  case round =>
    obtain ⟨j, X, rfl, hj, rfl, hX, hs, rfl⟩ := hrel
    have HX : Hid (X = zs j ++ d) := hX
    have HS : Hid (X.size = j + d.size) := hs
    have hx : X.size ≤ 1200000 := by omega
    clear hX
    by_cases ht : X.size ≤ p
    · have ht2 : (X.size : Int) ≤ (p : Int) := by omega
      have h1 : (⟨#[48]⟩ : ByteArray).size = 1 := rfl
      have h2 : (⟨#[48]⟩ : ByteArray).size + X.size ≤ 9223372036854775807 := by omega
      have hj2 : j + 1 ≤ p + 1 - d.size := by omega
      clear hs
      go_wp2
      go_roundg (p + 1 - d.size - (j + 1))
      case rel => exact ⟨j + 1, _, rfl, by omega, rfl, by rw [HX.out, zs_step], by rw [ByteArray.size_append, h1, HS.out]; omega, rfl⟩
      case measure => omega
    · have ht2 : ¬ (X.size : Int) ≤ (p : Int) := by omega
      have HP : Hid (X = pad d p) := by show _ = _; rw [HX.out]; unfold pad; rw [show j = p + 1 - d.size from by omega]
      have c0 : 0 ≤ (X.size : Int) - (p : Int) := by omega
      have c1 : (X.size : Int) - (p : Int) ≤ X.size := by omega
      have hcut : ((X.size : Int) - (p : Int)).toNat = X.size - p := by omega
      have he := enc_size m
      clear hs
      cases neg with
      | true =>
        go_wp2
        go_quiet (fail)
        all_goals go_wp2
        go_ret
        exact ⟨by unfold Says fd; rw [← HP.out]; rfl, (Quiet.refl _).drewN _⟩
      | false =>
        go_wp2
        go_quiet (fail)
        all_goals go_wp2
        go_ret
        exact ⟨by unfold Says fd; rw [← HP.out]; rfl, (Quiet.refl _).drewN _⟩

theorem fd_shim (neg : Bool) (d : ByteArray) (p : Nat) (m : Int) (hd : d.size ≤ 1048577) (hp : p ≤ 65536) (w : World) :
    Calls Try.prog 8 #[.bool neg, .string d, .int .i64 p, .int .u8 m] w fun e w' => Says (fd neg d p m) e ∧ Quiet w w' := by
  go_enter Try.func8, Try.ntmps8
  go_wp2_with fail
  refine (fd_any neg d p m hd hp _).mono ?_
  rintro e w1 ⟨rfl, hq⟩
  go_wp2
  go_ret
  exact ⟨rfl, hq⟩

theorem sgn_any (neg : Bool) (w : World) : Calls Try.prog 10 #[.bool neg] w fun e w' => Says (sgn neg) e ∧ w' = w := by
  cases neg with
  | true =>
    go_enter Try.func10, Try.ntmps10
    go_wp2
    go_ret
    exact ⟨rfl, rfl⟩
  | false =>
    go_enter Try.func10, Try.ntmps10
    go_wp2
    go_ret
    exact ⟨rfl, rfl⟩

/-- The call answers a bool, and true only where p. -/
def Bounds (p : Prop) (e : Ending) : Prop := ∃ r, e = .returned (.bool r) ∧ (r = true → p)

theorem bytes12_any (neg : Bool) (d : ByteArray) (p m : Int) (w : World) : Calls Try.prog 12 #[.bool neg, .string d, .int .i64 p, .int .u8 m] w fun e w' => Bounds (d.size ≤ 1048576) e ∧ w' = w := by
  by_cases h : d.size ≤ 1048576
  · have h1 : (d.size : Int) ≤ 1048576 := by omega
    go_enter Try.func12, Try.ntmps12
    go_wp2
    go_ret
    exact ⟨⟨_, rfl, fun _ => h⟩, rfl⟩
  · have h1 : ¬ (d.size : Int) ≤ 1048576 := by omega
    go_enter Try.func12, Try.ntmps12
    go_wp2
    go_ret
    exact ⟨⟨_, rfl, fun h => by cases h⟩, rfl⟩
theorem bytes7_any (neg : Bool) (d : ByteArray) (p m : Int) (w : World) : Calls Try.prog 7 #[.bool neg, .string d, .int .i64 p, .int .u8 m] w fun e w' => Bounds (d.size ≤ 1048576) e ∧ w' = w := by
  by_cases h : d.size ≤ 1048576
  · have h1 : (d.size : Int) ≤ 1048576 := by omega
    go_enter Try.func7, Try.ntmps7
    go_wp2
    go_ret
    exact ⟨⟨_, rfl, fun _ => h⟩, rfl⟩
  · have h1 : ¬ (d.size : Int) ≤ 1048576 := by omega
    go_enter Try.func7, Try.ntmps7
    go_wp2
    go_ret
    exact ⟨⟨_, rfl, fun h => by cases h⟩, rfl⟩
end Go.Proofs.Qxb6601219a
