import Derived.Lib.Bytealg
import Derived.Lib.EndianMore
namespace Go.Proofs.Ybulkapqu
open Go.Lib

theorem beFrom_split : ∀ (l : List UInt8) (acc : Nat), beFrom acc l = acc * 256 ^ l.length + beNat l
  | [], acc => by simp [beNat, beFrom]
  | a :: as, acc => by
    have h1 := beFrom_split as (acc * 256 + a.toNat)
    have h2 := beFrom_split as (0 * 256 + a.toNat)
    simp only [beNat, beFrom] at h1 h2 ⊢
    rw [h1, h2, List.length_cons, Nat.pow_succ]
    simp only [Nat.zero_mul, Nat.zero_add, Nat.add_mul]
    rw [Nat.mul_assoc, Nat.mul_comm 256, ← Nat.mul_assoc, Nat.mul_assoc, Nat.add_assoc]

theorem beNat_cons (a : UInt8) (as : List UInt8) : beNat (a :: as) = a.toNat * 256 ^ as.length + beNat as := by
  have := beFrom_split as (0 * 256 + a.toNat)
  simp only [Nat.zero_mul, Nat.zero_add] at this
  simpa [beNat, beFrom] using this

theorem beNat_lt : ∀ l : List UInt8, beNat l < 256 ^ l.length
  | [] => by simp [beNat, beFrom]
  | a :: as => by
    rw [beNat_cons, List.length_cons, Nat.pow_succ]
    have h1 := beNat_lt as
    have h2 : a.toNat ≤ 255 := by have := a.toNat_lt; omega
    have h3 : a.toNat * 256 ^ as.length ≤ 255 * 256 ^ as.length := Nat.mul_le_mul_right _ h2
    omega

theorem cmp_val : ∀ (la lb : List UInt8), la.length = lb.length → compareBytes la lb = if beNat la < beNat lb then -1 else if beNat lb < beNat la then 1 else 0
  | [], [], _ => by simp [compareBytes]
  | [], _ :: _, h => by simp at h
  | _ :: _, [], h => by simp at h
  | a :: as, b :: bs, h => by
    have hl : as.length = bs.length := by simpa using h
    have ih := cmp_val as bs hl
    have ha := beNat_lt as
    have hb := beNat_lt bs
    rw [hl] at ha
    rw [compareBytes, ih, beNat_cons, beNat_cons, hl]
    generalize 256 ^ bs.length = M at *
    have lab : (a < b) ↔ a.toNat < b.toNat := UInt8.lt_iff_toNat_lt
    have lba : (b < a) ↔ b.toNat < a.toNat := UInt8.lt_iff_toNat_lt
    have key : ∀ x y p q : Nat, p < M → q < M → x < y → x * M + p < y * M + q := fun x y p q hp _ hxy => by
      have : (x + 1) * M ≤ y * M := Nat.mul_le_mul_right _ hxy
      rw [Nat.add_mul] at this
      omega
    by_cases h1 : a < b
    · have := key _ _ _ _ ha hb (lab.1 h1)
      rw [if_pos h1, if_pos this]
    · rw [if_neg h1]
      by_cases h2 : b < a
      · have := key _ _ _ _ hb ha (lba.1 h2)
        rw [if_pos h2, if_neg (by omega), if_pos this]
      · rw [if_neg h2]
        have e : a.toNat = b.toNat := by
          have n1 := mt lab.2 h1
          have n2 := mt lba.2 h2
          omega
        rw [e]
        simp

theorem beNat_inj : ∀ (la lb : List UInt8), la.length = lb.length → beNat la = beNat lb → la = lb
  | [], [], _, _ => rfl
  | [], _ :: _, h, _ => by simp at h
  | _ :: _, [], h, _ => by simp at h
  | a :: as, b :: bs, h, he => by
    have hl : as.length = bs.length := by simpa using h
    have ha := beNat_lt as
    have hb := beNat_lt bs
    rw [hl] at ha
    rw [beNat_cons, beNat_cons, hl] at he
    generalize 256 ^ bs.length = M at *
    have e1 : a.toNat = b.toNat := by
      have hM : 0 < M := by omega
      have := congrArg (· / M) he
      simpa [Nat.mul_comm _ M, Nat.mul_add_div hM, Nat.div_eq_of_lt ha, Nat.div_eq_of_lt hb] using this
    have e2 : beNat as = beNat bs := by rw [e1] at he; omega
    rw [beNat_inj as bs hl e2, UInt8.toNat_inj.1 e1]

theorem cmp_lt (la lb : List UInt8) (h : la.length = lb.length) : compareBytes la lb < 0 ↔ beNat la < beNat lb := by
  rw [cmp_val la lb h]; repeat split <;> omega
theorem cmp_zero (la lb : List UInt8) (h : la.length = lb.length) : compareBytes la lb = 0 ↔ beNat la = beNat lb := by
  rw [cmp_val la lb h]; repeat split <;> omega
theorem cmp_gt (la lb : List UInt8) (h : la.length = lb.length) : 0 < compareBytes la lb ↔ beNat lb < beNat la := by
  rw [cmp_val la lb h]; repeat split <;> omega
end Go.Proofs.Ybulkapqu
