import Derived.Test.YbulkapquB3
namespace Go.Proofs.Ybulkapqu

/-! ### The ring of M values -/
def up (k v : Nat) : Nat := (v + M - k) % M
def dn (k v : Nat) : Nat := (k + M - v) % M
def rank (k v : Nat) : Nat := min (2 * up k v) (2 * dn k v + 1)

theorem M_pos : 0 < M := by unfold M; omega
theorem up_val (k v : Nat) (hk : k < M) (hv : v < M) : up k v = if k ≤ v then v - k else v + M - k := by
  unfold up
  by_cases h : k ≤ v
  · rw [if_pos h, show v + M - k = (v - k) + M by omega, Nat.add_mod_right, Nat.mod_eq_of_lt (by omega)]
  · rw [if_neg h, Nat.mod_eq_of_lt (by omega)]
theorem dn_val (k v : Nat) (hk : k < M) (hv : v < M) : dn k v = if v ≤ k then k - v else k + M - v := by
  unfold dn
  by_cases h : v ≤ k
  · rw [if_pos h, show k + M - v = (k - v) + M by omega, Nat.add_mod_right, Nat.mod_eq_of_lt (by omega)]
  · rw [if_neg h, Nat.mod_eq_of_lt (by omega)]
theorem rank_inj (k a b : Nat) (hk : k < M) (ha : a < M) (hb : b < M) (h : rank k a = rank k b) : a = b := by
  unfold rank at h
  rw [up_val k a hk ha, up_val k b hk hb, dn_val k a hk ha, dn_val k b hk hb] at h
  generalize M = m at *
  split at h <;> split at h <;> split at h <;> split at h <;> omega
/-- nearer's test in the ring. -/
theorem near_rank (k a b : Nat) (hk : k < M) (ha : a < M) (hb : b < M) :
    (if min (dn k a) (up k a) = min (dn k b) (up k b) then (a ≠ b ∧ up k a = min (dn k a) (up k a)) else min (dn k a) (up k a) < min (dn k b) (up k b)) ↔ rank k a < rank k b := by
  unfold rank
  rw [up_val k a hk ha, up_val k b hk hb, dn_val k a hk ha, dn_val k b hk hb]
  generalize M = m at *
  repeat' split
  all_goals omega
theorem rank_half (k a : Nat) : rank k a / 2 = min (up k a) (dn k a) := by unfold rank; omega
end Go.Proofs.Ybulkapqu
