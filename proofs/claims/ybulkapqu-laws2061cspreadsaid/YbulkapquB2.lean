import Derived.Test.YbulkapquB1
import Derived.Laws.BitsAllLaws
import Derived.Shelf.Spec.BitsCarry
namespace Go.Proofs.Ybulkapqu
open Go.RowKit Go.Sort

theorem bit31 (n : Nat) (h : n < 4294967296) : n / 2147483648 = if n.testBit 31 then 1 else 0 := by
  rw [Nat.testBit_eq_decide_div_mod_eq]
  have e : (2:Nat) ^ 31 = 2147483648 := by decide
  rw [e]
  by_cases hb : n / 2147483648 % 2 = 1
  · rw [decide_eq_true hb]; simp; omega
  · rw [decide_eq_false hb]; simp; omega
theorem tb31 (n : Nat) (h : n < 4294967296) : n.testBit 31 = decide (2147483648 ≤ n) := by
  rw [Nat.testBit_eq_decide_div_mod_eq]
  have e : (2:Nat) ^ 31 = 2147483648 := by decide
  rw [e]
  exact decide_eq_decide.2 (by omega)

theorem borrow32 (x y : Nat) (hx : x < 4294967296) (hy : y < 4294967296) :
    (((4294967295 ^^^ x) &&& y) ||| ((4294967295 ^^^ (x ^^^ y)) &&& ((x + 4294967296 - y) % 4294967296))) / 2147483648 = if x < y then 1 else 0 := by
  have hd : (x + 4294967296 - y) % 4294967296 < 4294967296 := Nat.mod_lt _ (by decide)
  have e : (4294967296 : Nat) = 2 ^ 32 := by decide
  have h1 : (4294967295 ^^^ x) &&& y < 4294967296 := Nat.lt_of_le_of_lt Nat.and_le_right hy
  have h2 : (4294967295 ^^^ (x ^^^ y)) &&& ((x + 4294967296 - y) % 4294967296) < 4294967296 := Nat.lt_of_le_of_lt Nat.and_le_right hd
  have h3 : ((4294967295 ^^^ x) &&& y) ||| ((4294967295 ^^^ (x ^^^ y)) &&& ((x + 4294967296 - y) % 4294967296)) < 4294967296 := by
    rw [e] at h1 h2 ⊢
    exact Nat.or_lt_two_pow h1 h2
  rw [bit31 _ h3, Nat.testBit_or, Nat.testBit_and, Nat.testBit_and, Nat.testBit_xor, Nat.testBit_xor, Nat.testBit_xor, tb31 x hx, tb31 y hy, tb31 _ hd, tb31 4294967295 (by decide)]
  generalize hD : (x + 4294967296 - y) % 4294967296 = D at *
  by_cases a : 2147483648 ≤ x <;> by_cases b : 2147483648 ≤ y <;> by_cases c : 2147483648 ≤ D <;> by_cases d : x < y <;> simp [a, b, c, d] <;> omega

set_option maxRecDepth 100000 in
theorem sub32_calls (x y : Nat) (hx : x < 4294967296) (hy : y < 4294967296) (w : World) : Calls Yba.prog 51 #[.int .u32 (x : Int), .int .u32 (y : Int), .int .u32 0] w fun e w' =>
    e = .returned (.tuple #[.int .u32 (((x + 4294967296 - y) % 4294967296 : Nat) : Int), .int .u32 ((if x < y then 1 else 0 : Nat) : Int)]) ∧ w' = w := by
  obtain ⟨D, hD⟩ : ∃ D : Nat, D = (x + 4294967296 - y) % 4294967296 := ⟨_, rfl⟩
  obtain ⟨Br, hBr⟩ : ∃ Br : Nat, Br = if x < y then 1 else 0 := ⟨_, rfl⟩
  have hDz : ((x : Int) - (y : Int)) % 4294967296 = (D : Int) := by omega
  have hD2 : D < 4294967296 := by rw [hD]; exact Nat.mod_lt _ (by decide)
  have hxor : x ^^^ y < 4294967296 := by
    have e : (4294967296 : Nat) = 2 ^ 32 := by decide
    rw [e] at hx hy ⊢
    exact Nat.xor_lt_two_pow hx hy
  have hx1 : 4294967295 ^^^ x < 4294967296 := by
    have e : (4294967296 : Nat) = 2 ^ 32 := by decide
    rw [e] at hx ⊢
    exact Nat.xor_lt_two_pow (by decide) hx
  have hx2 : 4294967295 ^^^ (x ^^^ y) < 4294967296 := by
    have e : (4294967296 : Nat) = 2 ^ 32 := by decide
    rw [e] at hxor ⊢
    exact Nat.xor_lt_two_pow (by decide) hxor
  have hB : bits .or .u32 (bits .and .u32 (bits .xor .u32 IntKind.u32.max (x : Int)) (y : Int)) (bits .and .u32 (bits .xor .u32 IntKind.u32.max (bits .xor .u32 (x : Int) (y : Int))) (D : Int)) / 2147483648 = (Br : Int) := by
    rw [show IntKind.u32.max = ((4294967295 : Nat) : Int) from rfl, u32_xor_nat _ _ (by decide) hx, u32_xor_nat _ _ hx hy, u32_xor_nat _ _ (by decide) hxor, u32_and_nat _ _ hx1 hy, u32_and_nat _ _ hx2 hD2,
      u32_or_nat _ _ (Nat.lt_of_le_of_lt Nat.and_le_right hy) (Nat.lt_of_le_of_lt Nat.and_le_right hD2)]
    have := borrow32 x y hx hy
    rw [← hD, ← hBr] at this
    rw [← this]
    rfl
  rw [← hD, ← hBr]
  have HB := hide hB
  have HD := hide hDz
  clear hB hDz hD hBr hD2 hxor hx1 hx2
  go_enter Yba.func51, Yba.ntmps51
  go_wp2
  go_ret2
  rw [← HB.out, ← HD.out]
  exact ⟨rfl, rfl⟩

theorem run_sub64' (x y b : Nat) (hb : b ≤ 1) (w : World) :
    (callFunc 54 #[.int .u64 x, .int .u64 y, .int .u64 b]).run Yba.prog w =
      .ok (.value (.tuple #[.int .u64 (((x + 18446744073709551616 - y - b) % 18446744073709551616 : Nat) : Int), .int .u64 ((if x < y + b then 1 else 0 : Nat) : Int)])) w := by
  rw [run_callFunc_extern Yba.func54 (by kernel_rfl) (by kernel_rfl) (by kernel_rfl) (e := sub64Entry) (by kernel_rfl), run_sub64 x y b hb]
  rfl
end Go.Proofs.Ybulkapqu
