import Derived.Test.Qxb6601219aFd
namespace Go.Proofs.Qxb6601219a

theorem zs_comm (k : Nat) : zs k ++ (⟨#[48]⟩ : ByteArray) = zs (k + 1) := by
  induction k with
  | zero => rfl
  | succ k ih => rw [zs, ByteArray.append_assoc, ih]; rfl
theorem z1_size (d : ByteArray) : ((⟨#[48]⟩ : ByteArray) ++ d).size = 1 + d.size := by rw [ByteArray.size_append]; rfl
theorem pad_short {d : ByteArray} {p : Nat} (h : d.size ≤ p) : pad ((⟨#[48]⟩ : ByteArray) ++ d) p = pad d p := by
  unfold pad
  rw [z1_size, show p + 1 - d.size = (p - d.size) + 1 from by omega, show p + 1 - (1 + d.size) = p - d.size from by omega, ← zs_comm, ByteArray.append_assoc]
theorem pad_long {d : ByteArray} {p : Nat} (h : p < d.size) : pad d p = d := by
  unfold pad
  rw [show p + 1 - d.size = 0 from by omega]
  exact ByteArray.empty_append
theorem fd_short (neg : Bool) {d : ByteArray} {p : Nat} (m : Int) (h : d.size ≤ p) : fd neg ((⟨#[48]⟩ : ByteArray) ++ d) p m = fd neg d p m := by
  unfold fd; rw [pad_short h]
theorem fd_long_eq (neg : Bool) {d : ByteArray} {p : Nat} (m : Int) (h : p < d.size) : fd neg d p m = ((sgn neg ++ d.extract 0 (d.size - p)) ++ Utf8.encode m) ++ d.extract (d.size - p) d.size := by
  unfold fd; rw [pad_long h]
theorem fd_long (neg : Bool) {d : ByteArray} {p : Nat} (m : Int) (h : p < d.size) :
    fd neg ((⟨#[48]⟩ : ByteArray) ++ d) p m = (sgn neg ++ (⟨#[48]⟩ : ByteArray)) ++ (fd neg d p m).extract (sgn neg).size (fd neg d p m).size := by
  have h1 : (⟨#[48]⟩ : ByteArray).size = 1 := rfl
  have hA : fd neg d p m = sgn neg ++ (d.extract 0 (d.size - p) ++ (Utf8.encode m ++ d.extract (d.size - p) d.size)) := by
    rw [fd_long_eq neg m h]; simp only [ByteArray.append_assoc]
  rw [hA, ByteArray.extract_append_eq_right rfl (by rw [ByteArray.size_append])]
  rw [fd_long_eq neg m (by rw [z1_size]; omega), z1_size]
  have e1 : ((⟨#[48]⟩ : ByteArray) ++ d).extract (1 + d.size - p) (1 + d.size) = d.extract (d.size - p) d.size := by
    rw [show 1 + d.size - p = (⟨#[48]⟩ : ByteArray).size + (d.size - p) from by omega]
    exact ByteArray.extract_append_size_add
  have e0 : ((⟨#[48]⟩ : ByteArray) ++ d).extract 0 (1 + d.size - p) = (⟨#[48]⟩ : ByteArray) ++ d.extract 0 (d.size - p) := by
    rw [ByteArray.extract_append, h1]
    rw [show 1 + d.size - p - 1 = d.size - p from by omega, show 0 - 1 = 0 from rfl]
    congr 1
    rw [show 1 + d.size - p = (d.size - p) + 1 from by omega]
    apply ByteArray.ext
    rw [ByteArray.data_extract]
    simp
  rw [e1, e0]
  simp only [ByteArray.append_assoc]
theorem fd_sgn_le (neg : Bool) (d : ByteArray) (p : Nat) (m : Int) : (sgn neg).size ≤ (fd neg d p m).size := by
  unfold fd; simp only [ByteArray.size_append]; omega
theorem fd_size (neg : Bool) (d : ByteArray) (p : Nat) (m : Int) : (fd neg d p m).size ≤ p + d.size + 8 := by
  have := enc_size m
  have hs : (sgn neg).size ≤ 1 := by cases neg <;> decide
  unfold fd; simp only [ByteArray.size_append, ByteArray.size_extract]
  have : (pad d p).size = (p + 1 - d.size) + d.size := by unfold pad; rw [ByteArray.size_append, zs_size]
  omega
theorem Quiet.trans {a b c : World} (h : Quiet a b) (g : Quiet b c) : Quiet a c := by
  obtain ⟨k, rfl⟩ := g
  exact h.drewN k
theorem drewN_grown (w : World) : ∀ m, Go.RowKit.Grown w (w.drewN m)
  | 0 => Go.RowKit.Grown.refl w
  | m + 1 => (drewN_grown w m)
theorem Quiet.grown {w w' : World} (h : Quiet w w') : Go.RowKit.Grown w w' := by
  obtain ⟨k, rfl⟩ := h
  exact drewN_grown w k
end Go.Proofs.Qxb6601219a
