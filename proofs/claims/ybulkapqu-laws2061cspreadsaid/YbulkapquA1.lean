import Derived.Test.YbulkapquRows
import Derived.Test.YbulkapquShelf
import Derived.WalkKit
import Derived.ProofKit
import Derived.WalkLawsBesides
import Derived.Deep.QuietTactic
import Derived.BigQuiet
import Derived.Deep.MidRow
import Derived.Lib.BytesEntry
import Derived.Lib.Bytealg
namespace Go.Proofs.Ybulkapqu
open Go.RowKit

theorem hide {p : Prop} (h : p) : Hid p := h

/-- An identifier's cells. -/
def idV (l : List UInt8) : List Value := l.map fun b => Value.int .u8 (b.toNat : Int)
theorem length_idV (l : List UInt8) : (idV l).length = l.length := by simp [idV]
theorem idV_get (l : List UInt8) (j : Nat) (x : UInt8) (h : l[j]? = some x) : (idV l)[j]? = some (.int .u8 (x.toNat : Int)) := by simp [idV, h]

theorem run_compare_rows {P : Program} (w : World) (a b : Addr) (n m c d : Nat) (la lb : List UInt8) (hla : la.length = n) (hlb : lb.length = m)
    (ha : ∀ j x, la[j]? = some x → w.cell? (a.add j) = some (.int .u8 x.toNat)) (hb : ∀ j x, lb[j]? = some x → w.cell? (b.add j) = some (.int .u8 x.toNat)) :
    (Extern.BytealgCompare.compare #[.slice (some a) n c, .slice (some b) m d]).run P w = .ok (.int .i64 (Lib.compareBytes la lb)) w := by
  subst hla hlb
  change Sem.run P (do pure (goInt (Extern.BytealgCompare.cmp (← Extern.Bytes.bytesOf (.slice (some a) la.length c)) (← Extern.Bytes.bytesOf (.slice (some b) lb.length d))))) w = _
  have key : ∀ (l : List UInt8) (a : Addr), (∀ j x, l[j]? = some x → w.cell? (a.add j) = some (.int .u8 x.toNat)) → (Extern.Bytes.loadBytes a l.length .empty).run P w = .ok ⟨l.toArray⟩ w := fun l a h => by
    have h1 := Lib.run_loadBytesX (P := P) w (l.map fun x => (x.toNat : Int)) a .empty (fun j x hx => by
      rw [List.getElem?_map] at hx
      cases hl : l[j]? with
      | none => rw [hl] at hx; cases hx
      | some y =>
        rw [hl] at hx
        have : (y.toNat : Int) = x := by simpa using hx
        rw [← this]
        exact h j y hl)
    have e : Lib.bytesOf (l.map fun x => (x.toNat : Int)) = l := by
      simp [Lib.bytesOf, Function.comp_def]
    rw [List.length_map, e] at h1
    rw [h1]
    simp
  simp only [Extern.Bytes.bytesOf, Sem.run_bind, key la a ha, key lb b hb, Sem.run_pure, Result.andThen]
  rw [Lib.cmp_eq]
  rfl

set_option maxHeartbeats 400000 in
set_option maxRecDepth 100000 in
theorem compare_calls (w : World) (a b : Addr) (n m c d : Nat) (la lb : List UInt8) (hla : la.length = n) (hlb : lb.length = m)
    (ha : ∀ j x, la[j]? = some x → w.cell? (a.add j) = some (.int .u8 x.toNat)) (hb : ∀ j x, lb[j]? = some x → w.cell? (b.add j) = some (.int .u8 x.toNat)) :
    Calls Yba.prog 34 #[.slice (some a) n c, .slice (some b) m d] w fun e w' => e = .returned (.int .i64 (Lib.compareBytes la lb)) ∧ w' = w := by
  have hr := run_compare_rows (P := Yba.prog) w a b n m c d la lb hla hlb ha hb
  have Hr := hide hr
  clear hr ha hb hla hlb
  go_enter Yba.func34, Yba.ntmps34
  go_wp2
  rw [run_callFunc_extern Yba.func57 (by kernel_rfl) (by kernel_rfl) (by kernel_rfl) (e := Extern.BytealgCompare.compare) (by kernel_rfl), Hr.out]
  simp only [Result.andThen]
  rw [Oper.upon_value]
  go_wp2
  go_ret
  exact ⟨rfl, rfl⟩

set_option maxHeartbeats 400000 in
set_option maxRecDepth 100000 in
theorem cmp_calls (w : World) (la lb : List UInt8) (hla : la.length = 20) (hlb : lb.length = 20) :
    Calls Yba.prog 17 #[.agg (idV la).toArray, .agg (idV lb).toArray] w fun e w' => e = .returned (.int .i64 (Lib.compareBytes la lb)) ∧
      ∃ q, w' = ((w.alloc (.cells (idV la).toArray 37)).alloc (.cells (idV lb).toArray 37)).drewN q := by
  have hA : ∀ q, (((w.alloc (.cells (idV la).toArray 37)).alloc (.cells (idV lb).toArray 37)).drewN q).heap[w.heap.size]? = some (.cells (idV la).toArray 37 (0, 0)) := fun q =>
    (Below.heap_alloc (w.alloc (.cells (idV la).toArray 37)) _ _ (by simp)).trans (heap_alloc_new w _)
  have hB : ∀ q, (((w.alloc (.cells (idV la).toArray 37)).alloc (.cells (idV lb).toArray 37)).drewN q).heap[w.heap.size + 1]? = some (.cells (idV lb).toArray 37 (0, 0)) := fun q => by
    have := heap_alloc_new (w.alloc (.cells (idV la).toArray 37)) (.cells (idV lb).toArray 37)
    rw [World.size_alloc] at this
    exact this
  have hcmp := fun q => compare_calls (((w.alloc (.cells (idV la).toArray 37)).alloc (.cells (idV lb).toArray 37)).drewN q) ⟨w.heap.size, 0, none⟩ ⟨w.heap.size + 1, 0, none⟩ 20 20 20 20 la lb hla hlb
    (fun j x hx => by rw [Addr.add_mid, cell_of_row _ _ _ _ _ _ (hA q)]; simpa using idV_get la j x hx)
    (fun j x hx => by rw [Addr.add_mid, cell_of_row _ _ _ _ _ _ (hB q)]; simpa using idV_get lb j x hx)
  have Hcmp := hide hcmp
  clear hcmp hA hB
  go_enter Yba.func17, Yba.ntmps17
  go_wp2_with fail
  go_quiet ((go_at_call 34; exact Calls.quiet_of_same (Hcmp.out _)))
  go_wp2
  go_ret
  exact ⟨rfl, _, rfl⟩
end Go.Proofs.Ybulkapqu
