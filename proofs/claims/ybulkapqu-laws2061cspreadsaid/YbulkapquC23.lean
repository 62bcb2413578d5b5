import Derived.Test.YbulkapquC22
import Derived.Test.YbulkapquC12
namespace Go.Proofs.Ybulkapqu
open Go.RowKit Go.Sort

/-! ### The notice, the message of a death -/
def notV (stamp : Int) (r h : Nat → Bool) : Array Value := #[.int .u64 stamp, .int .i64 0, .bool (r 0), .bool (r 1), .bool (h 0), .bool (h 1), .int .u64 0, .int .u64 0, .pointer none, .int .u16 0]
def twoV (f : Nat → Bool) : Array Value := #[.bool (f 0), .bool (f 1)]
theorem two_cell {w : World} {B : Nat} {f : Nat → Bool} {t : TypeId} (h : At w B (twoV f) t) (d : Nat) (hd : d < 2) : w.cell? ⟨B, d, none⟩ = some (.bool (f d)) := by
  rw [h.cell]
  obtain rfl | rfl : d = 0 ∨ d = 1 := by omega
  · rfl
  · rfl
theorem not_rel {w : World} {B : Nat} {stamp : Int} {r h : Nat → Bool} (a : At w B (notV stamp r h) 114) (d : Nat) (hd : d < 2) : w.cell? ⟨B, 2 + d, none⟩ = some (.bool (r d)) := by
  rw [a.cell]
  obtain rfl | rfl : d = 0 ∨ d = 1 := by omega
  · rfl
  · rfl
theorem not_hand {w : World} {B : Nat} {stamp : Int} {r h : Nat → Bool} (a : At w B (notV stamp r h) 114) (d : Nat) (hd : d < 2) : w.cell? ⟨B, 4 + d, none⟩ = some (.bool (h d)) := by
  rw [a.cell]
  obtain rfl | rfl : d = 0 ∨ d = 1 := by omega
  · rfl
  · rfl
theorem two_set (f : Nat → Bool) (d : Nat) (hd : d < 2) (f' : Nat → Bool) (h1 : f' d = true) (h2 : ∀ r, r ≠ d → f' r = f r) : (twoV f).setIfInBounds d (.bool true) = twoV f' := by
  obtain rfl | rfl : d = 0 ∨ d = 1 := by omega
  · simp [twoV, h1, h2 1]
  · simp [twoV, h1, h2 0]
theorem not_set (stamp : Int) (f h : Nat → Bool) (d : Nat) (hd : d < 2) (f' : Nat → Bool) (h1 : f' d = true) (h2 : ∀ r, r ≠ d → f' r = f r) : (notV stamp f h).setIfInBounds (2 + d) (.bool true) = notV stamp f' h := by
  obtain rfl | rfl : d = 0 ∨ d = 1 := by omega
  · simp [notV, h1, h2 1]
  · simp [notV, h1, h2 0]

set_option maxHeartbeats 4000000 in
set_option maxRecDepth 1000000 in
theorem wentDown_calls (w : World) (NB : Nat) (stamp : Int) (r h : Nat → Bool) (hN : At w NB (notV stamp r h) 114) (d : Nat) (hd : d < 2) : Calls Yba.prog 44 #[.pointer (some ⟨NB, 0, none⟩), .int .i64 (d : Int)] w fun e w' => e = .returned (.bool (r d || h d)) ∧ Gr w w' := by
  have c1 := not_rel hN d hd
  have c2 := not_hand hN d hd
  have hdz : (d : Int) < 2 := by omega
  have hdz0 : (0 : Int) ≤ (d : Int) := by omega
  clear hN
  generalize r d = a at *
  generalize h d = b at *
  cases a with
  | true =>
    go_enter Yba.func44, Yba.ntmps44
    go_wp2
    go_ret
    exact ⟨rfl, Gr.refl _⟩
  | false =>
    go_enter Yba.func44, Yba.ntmps44
    go_wp2
    go_ret
    exact ⟨by simp, Gr.refl _⟩

def z20 : List UInt8 := List.replicate 20 0
def msgT (stamp : Int) : List Value := idV z20 ++ [.int .u64 0, .int .i64 0, .int .i64 0, .int .i64 0, .int .i64 0, .int .i64 0, .int .i64 0, .int .i64 0, .int .i64 0, .int .i64 0, .int .u64 0, .int .u64 0, .int .u64 0, .pointer none, .int .u16 0, .slice none 0 0, .slice none 0 0, .int .u64 stamp, .int .u64 0, .int .u64 0, .int .u64 0, .int .u64 0, .int .u64 0, .int .u64 0, .int .u64 0, .int .u64 0, .int .u64 0, .int .u64 0, .int .u64 0, .int .u64 0, .int .u64 0, .int .u64 0, .int .u64 0, .int .u64 0, .int .u16 0, .slice none 0 0, .int .u64 0]
def msgH (ring : Int) : List Value := [.int .u8 19, .int .i64 ring] ++ idV z20
def msgV (ring : Int) (key : List UInt8) (stamp : Int) : List Value := msgH ring ++ (idV key ++ msgT stamp)
set_option maxRecDepth 100000 in
theorem built94' (ring stamp : Int) (b0 b1 b2 b3 b4 b5 b6 b7 b8 b9 b10 b11 b12 b13 b14 b15 b16 b17 b18 b19 : UInt8) : Yba.prog.built 94 [(0, .int .u8 19), (1, .int .i64 ring), (3, .agg (idV [b0, b1, b2, b3, b4, b5, b6, b7, b8, b9, b10, b11, b12, b13, b14, b15, b16, b17, b18, b19]).toArray), (16, .int .u64 stamp)] = some (msgV ring [b0, b1, b2, b3, b4, b5, b6, b7, b8, b9, b10, b11, b12, b13, b14, b15, b16, b17, b18, b19] stamp).toArray := by kernel_rfl
theorem built94 (ring stamp : Int) (l : List UInt8) (hl : l.length = 20) : Yba.prog.built 94 [(0, .int .u8 19), (1, .int .i64 ring), (3, .agg (idV l).toArray), (16, .int .u64 stamp)] = some (msgV ring l stamp).toArray := by
  match l, hl with
  | [b0, b1, b2, b3, b4, b5, b6, b7, b8, b9, b10, b11, b12, b13, b14, b15, b16, b17, b18, b19], _ => exact built94' ring stamp b0 b1 b2 b3 b4 b5 b6 b7 b8 b9 b10 b11 b12 b13 b14 b15 b16 b17 b18 b19
theorem msgV_is (ring stamp : Int) (key : List UInt8) (hk : key.length = 20) : Msg ring key stamp (msgV ring key stamp) := by
  have hH : (msgH ring).length = 22 := rfl
  have hT : (msgT stamp).length = 57 := rfl
  refine ⟨?_, rfl, rfl, fun j x hx => ?_, ?_, fun v hv => ?_⟩
  · rw [msgV, List.length_append, List.length_append, hH, hT, length_idV, hk]
  · have hj : j < (idV key).length := (List.getElem?_eq_some_iff.1 hx).1
    rw [msgV, List.getElem?_append_right (by rw [hH]; omega), hH, show 22 + j - 22 = j by omega, List.getElem?_append_left hj, hx]
  · rw [msgV, List.getElem?_append_right (by rw [hH]; omega), hH, List.getElem?_append_right (by rw [length_idV, hk]; omega), length_idV, hk]
    rfl
  · have hid : ∀ l : List UInt8, ∀ v ∈ idV l, v.oneCell' = true := fun l v hv => by
      unfold idV at hv
      obtain ⟨b, _, rfl⟩ := List.mem_map.1 hv
      rfl
    rcases List.mem_append.1 hv with h | h
    · rcases List.mem_append.1 h with h | h
      · simp at h; rcases h with rfl | rfl <;> rfl
      · exact hid _ v h
    · rcases List.mem_append.1 h with h | h
      · exact hid _ v h
      · rcases List.mem_append.1 h with h | h
        · exact hid _ v h
        · simp at h
          rcases h with h | h | h | h | h | h | h | h | h | h | h <;> subst h <;> rfl
theorem msgV_level (ring stamp : Int) (key : List UInt8) (hk : key.length = 20) : (msgV ring key stamp)[64]? = some (.int .i64 0) := by
  have hH : (msgH ring).length = 22 := rfl
  rw [msgV, List.getElem?_append_right (by rw [hH]; omega), hH, List.getElem?_append_right (by rw [length_idV, hk]; omega), length_idV, hk]
  rfl
end Go.Proofs.Ybulkapqu
