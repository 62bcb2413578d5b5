import Derived.Test.YbulkapquB2
import Derived.Test.YbulkapquA5
namespace Go.Proofs.Ybulkapqu
open Go.RowKit Go.Sort

theorem Gr.drawn {a b : World} (h : Gr a b) : a.drawn ≤ b.drawn := by
  obtain ⟨q, os, rfl⟩ := h
  exact Nat.le_add_right _ _
theorem gr_of {a b : World} (h : Below a.heap.size a b) (hd : a.drawn ≤ b.drawn) : Gr a b := by
  refine ⟨b.drawn - a.drawn, b.heap.extract a.heap.size b.heap.size, ?_⟩
  obtain ⟨bh, bt, bd, bo, bp⟩ := b
  have e1 : bo = a.os := h.os
  have e2 : bt = a.tape := h.tape
  have e3 : bp = a.output := h.output
  have e4 : bd = a.drawn + (bd - a.drawn) := by have : a.drawn ≤ bd := hd; omega
  have e5 : bh = a.heap ++ bh.extract a.heap.size bh.size := by
    apply Array.ext_getElem?
    intro k
    by_cases hk : k < a.heap.size
    · rw [Array.getElem?_append_left hk]
      exact h.block k hk
    · rw [Array.getElem?_append_right (by omega), Array.getElem?_extract]
      have hs : a.heap.size ≤ bh.size := h.size
      by_cases hb : k < bh.size
      · rw [if_pos (by omega), show a.heap.size + (k - a.heap.size) = k by omega]
      · rw [if_neg (by omega), Array.getElem?_eq_none (by omega)]
  subst e1 e2 e3
  show World.mk bh a.tape bd a.os a.output = World.mk (a.heap ++ bh.extract a.heap.size bh.size) a.tape (a.drawn + (bd - a.drawn)) a.os a.output
  rw [← e5, ← e4]
theorem Gr.setCell {a b : World} (h : Gr a b) (x : Addr) (v : Value) (hx : a.heap.size ≤ x.block) : Gr a (b.setCell x v) :=
  gr_of ((h.below _ (Nat.le_refl _)).setCell hx v) h.drawn
theorem Gr.setCells {a : World} (g : Nat) (hg : a.heap.size ≤ g) : ∀ (vs : List Value) (o : Nat) (b : World), Gr a b → Gr a (b.setCells g o vs)
  | [], _, _, h => h
  | v :: r, o, _, h => Gr.setCells g hg r (o + 1) _ (h.setCell ⟨g, o, none⟩ v hg)

theorem At.rangeAt {w : World} {b : Nat} {l : List Value} {t : TypeId} (h : At w b l.toArray t) (o n : Nat) : w.rangeAt b o ((l.drop o).take n) := fun j v hv => by
  rw [h.cell]
  have hj : j < n := by
    have := (List.getElem?_eq_some_iff.1 hv).1
    simp at this
    omega
  rw [List.getElem?_take_of_lt hj, List.getElem?_drop] at hv
  simpa using hv
theorem At.ids {w : World} {b : Nat} {l : List UInt8} {t : TypeId} (h : At w b (idV l).toArray t) (o n : Nat) : w.rangeAt b o (idV ((l.drop o).take n)) := by
  have := h.rangeAt o n
  rwa [idV, ← List.map_drop, ← List.map_take] at this
theorem At.there {w : World} {b : Nat} {l : List Value} {t : TypeId} (h : At w b l.toArray t) (o n : Nat) (hn : o + n ≤ l.length) : w.there b o n := fun j hj => by
  refine ⟨?_, h.frozen _⟩
  rw [h.cell]
  simp
  omega

theorem uint32_at (g o n c : Nat) (l : List UInt8) (w : World) (hl : l.length = 4) (hn : 4 ≤ n) (h : w.rangeAt g o (idV l)) :
    Calls Yba.prog 52 #[.agg #[], .slice (some ⟨g, o, none⟩) n c] w fun e w' => e = .returned (.int .u32 (Lib.beNat l)) ∧ Gr w w' := by
  match l, hl with
  | [b0, b1, b2, b3], _ => exact uint32_calls g o n c b0 b1 b2 b3 w hn (h 0 _ rfl) (h 1 _ rfl) (h 2 _ rfl) (h 3 _ rfl)
theorem uint64_at (g o n c : Nat) (l : List UInt8) (w : World) (hl : l.length = 8) (hn : 8 ≤ n) (h : w.rangeAt g o (idV l)) :
    Calls Yba.prog 55 #[.agg #[], .slice (some ⟨g, o, none⟩) n c] w fun e w' => e = .returned (.int .u64 (Lib.beNat l)) ∧ Gr w w' := by
  match l, hl with
  | [b0, b1, b2, b3, b4, b5, b6, b7], _ => exact uint64_calls g o n c b0 b1 b2 b3 b4 b5 b6 b7 w hn (h 0 _ rfl) (h 1 _ rfl) (h 2 _ rfl) (h 3 _ rfl) (h 4 _ rfl) (h 5 _ rfl) (h 6 _ rfl) (h 7 _ rfl)

theorem At.some {w : World} {b : Nat} {l : List Value} {t : TypeId} (h : At w b l.toArray t) (j : Nat) (hj : j < l.length) : w.cell? ⟨b, j, none⟩ = some l[j] := by
  rw [h.cell]
  simp [hj]
theorem put32_at (g o n c v : Nat) (l : List Value) (t : TypeId) (w : World) (hv : v < 4294967296) (hn : 4 ≤ n) (h : At w g l.toArray t) (ho : o + 4 ≤ l.length) :
    Calls Yba.prog 53 #[.agg #[], .slice (some ⟨g, o, none⟩) n c, .int .u32 v] w fun e w' => e = .returned (.tuple #[]) ∧ w' = (w.alloc (.cells #[] 147)).setCells g o (idV (Lib.beBytes 4 v)) :=
  Yba.binary_BE_PutUint32 g o n c v hv _ _ _ _ w hn (h.some _ (by omega)) (h.some _ (by omega)) (h.some _ (by omega)) (h.some _ (by omega)) (h.frozen _) (h.frozen _) (h.frozen _) (h.frozen _)
theorem put64_at (g o n c v : Nat) (l : List Value) (t : TypeId) (w : World) (hv : v < 18446744073709551616) (hn : 8 ≤ n) (h : At w g l.toArray t) (ho : o + 8 ≤ l.length) :
    Calls Yba.prog 56 #[.agg #[], .slice (some ⟨g, o, none⟩) n c, .int .u64 v] w fun e w' => e = .returned (.tuple #[]) ∧ w' = (w.alloc (.cells #[] 147)).setCells g o (idV (Lib.beBytes 8 v)) :=
  Yba.binary_BE_PutUint64 g o n c v hv _ _ _ _ _ _ _ _ w hn (h.some _ (by omega)) (h.some _ (by omega)) (h.some _ (by omega)) (h.some _ (by omega)) (h.some _ (by omega)) (h.some _ (by omega)) (h.some _ (by omega)) (h.some _ (by omega)) (h.frozen _) (h.frozen _) (h.frozen _) (h.frozen _) (h.frozen _) (h.frozen _) (h.frozen _) (h.frozen _)

/-! ### sub, in plain words -/
def lo32 (l : List UInt8) : Nat := Lib.beNat ((l.drop 16).take 4)
def mid64 (l : List UInt8) : Nat := Lib.beNat ((l.drop 8).take 8)
def hi64 (l : List UInt8) : Nat := Lib.beNat ((l.drop 0).take 8)
def M : Nat := 1461501637330902918203684832716283019655932542976
def subLo (la lb : List UInt8) : Nat := (lo32 la + 4294967296 - lo32 lb) % 4294967296
def bor1 (la lb : List UInt8) : Nat := if lo32 la < lo32 lb then 1 else 0
def subMid (la lb : List UInt8) : Nat := (mid64 la + 18446744073709551616 - mid64 lb - bor1 la lb) % 18446744073709551616
def bor2 (la lb : List UInt8) : Nat := if mid64 la < mid64 lb + bor1 la lb then 1 else 0
def subHi (la lb : List UInt8) : Nat := (hi64 la + 18446744073709551616 - hi64 lb - bor2 la lb) % 18446744073709551616
def subL (la lb : List UInt8) : List UInt8 := Lib.beBytes 8 (subHi la lb) ++ Lib.beBytes 8 (subMid la lb) ++ Lib.beBytes 4 (subLo la lb)

theorem beNat_append (a b : List UInt8) : Lib.beNat (a ++ b) = Lib.beNat a * 256 ^ b.length + Lib.beNat b := by
  induction a with
  | nil => simp [Lib.beNat, Lib.beFrom]
  | cons x r ih =>
    rw [List.cons_append, beNat_cons, beNat_cons, ih, List.length_append, Nat.pow_add, Nat.add_mul, Nat.mul_assoc]
    omega
theorem beNat_split (l : List UInt8) (hl : l.length = 20) : Lib.beNat l = hi64 l * 79228162514264337593543950336 + mid64 l * 4294967296 + lo32 l := by
  have e : l = (l.drop 0).take 8 ++ ((l.drop 8).take 8 ++ (l.drop 16).take 4) := by
    have h1 : (l.drop 16).take 4 = l.drop 16 := List.take_of_length_le (by simp; omega)
    have h2 : (l.drop 8).take 8 ++ l.drop 16 = l.drop 8 := by
      have := List.take_append_drop 8 (l.drop 8)
      rwa [List.drop_drop] at this
    rw [h1, h2, List.drop_zero, List.take_append_drop]
  have h4 : ((l.drop 16).take 4).length = 4 := by simp; omega
  have h8 : ((l.drop 8).take 8).length = 8 := by simp; omega
  conv => lhs; rw [e]
  rw [beNat_append, beNat_append, List.length_append, h4, h8]
  show hi64 l * 256 ^ 12 + (mid64 l * 256 ^ 4 + lo32 l) = _
  rw [show (256 : Nat) ^ 12 = 79228162514264337593543950336 by decide, show (256 : Nat) ^ 4 = 4294967296 by decide]
  omega
theorem parts_lt (l : List UInt8) (hl : l.length = 20) : hi64 l < 18446744073709551616 ∧ mid64 l < 18446744073709551616 ∧ lo32 l < 4294967296 := by
  have h1 := beNat_lt ((l.drop 0).take 8)
  have h2 := beNat_lt ((l.drop 8).take 8)
  have h3 := beNat_lt ((l.drop 16).take 4)
  rw [show ((l.drop 0).take 8).length = 8 by simp; omega] at h1
  rw [show ((l.drop 8).take 8).length = 8 by simp; omega] at h2
  rw [show ((l.drop 16).take 4).length = 4 by simp; omega] at h3
  rw [show (256 : Nat) ^ 8 = 18446744073709551616 by decide] at h1 h2
  rw [show (256 : Nat) ^ 4 = 4294967296 by decide] at h3
  exact ⟨h1, h2, h3⟩
theorem length_beBytes (k v : Nat) : (Lib.beBytes k v).length = k := by
  unfold Lib.beBytes
  rw [List.length_reverse]
  induction k generalizing v with
  | zero => rfl
  | succ k ih => simp [Lib.leBytes, ih]
theorem length_subL (la lb : List UInt8) : (subL la lb).length = 20 := by simp [subL, length_beBytes]
theorem beNat_lt20 (l : List UInt8) (hl : l.length = 20) : Lib.beNat l < M := by
  have := beNat_lt l
  rw [hl, show (256 : Nat) ^ 20 = 1461501637330902918203684832716283019655932542976 by decide] at this
  exact this
theorem sub_val (la lb : List UInt8) (ha : la.length = 20) (hb : lb.length = 20) : Lib.beNat (subL la lb) = (Lib.beNat la + M - Lib.beNat lb) % M := by
  obtain ⟨a1, a2, a3⟩ := parts_lt la ha
  obtain ⟨b1, b2, b3⟩ := parts_lt lb hb
  have hs : Lib.beNat (subL la lb) = subHi la lb * 79228162514264337593543950336 + subMid la lb * 4294967296 + subLo la lb := by
    rw [subL, beNat_append, beNat_append, length_beBytes, length_beBytes, Lib.beNat_beBytes 8 _ (by rw [show (256 : Nat) ^ 8 = 18446744073709551616 by decide]; exact Nat.mod_lt _ (by decide)),
      Lib.beNat_beBytes 8 _ (by rw [show (256 : Nat) ^ 8 = 18446744073709551616 by decide]; exact Nat.mod_lt _ (by decide)), Lib.beNat_beBytes 4 _ (by rw [show (256 : Nat) ^ 4 = 4294967296 by decide]; exact Nat.mod_lt _ (by decide)),
      show (256 : Nat) ^ 8 = 18446744073709551616 by decide, show (256 : Nat) ^ 4 = 4294967296 by decide]
    omega
  rw [hs, beNat_split la ha, beNat_split lb hb]
  unfold subHi subMid subLo bor2 bor1 M
  generalize hi64 la = x1 at *
  generalize mid64 la = x2 at *
  generalize lo32 la = x3 at *
  generalize hi64 lb = y1 at *
  generalize mid64 lb = y2 at *
  generalize lo32 lb = y3 at *
  by_cases c1 : x3 < y3
  · rw [if_pos c1]
    by_cases c2 : x2 < y2 + 1
    · rw [if_pos c2]; omega
    · rw [if_neg c2]; omega
  · rw [if_neg c1]
    by_cases c2 : x2 < y2 + 0
    · rw [if_pos c2]; omega
    · rw [if_neg c2]; omega
end Go.Proofs.Ybulkapqu
