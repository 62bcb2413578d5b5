import Derived.Test.YbulkapquA4
import Derived.BigRegion
namespace Go.Proofs.Ybulkapqu
open Go.RowKit Go.Sort

theorem IdsAt.set {w : World} {B : Nat} {ids : List (List UInt8)} (h : IdsAt w B ids) (i j : Nat) (l : List UInt8) (hl : ids[i]? = some l) (hj : j < 20) (b : UInt8) (v : Int) (hv : v = (b.toNat : Int)) :
    IdsAt (w.setCell ⟨B, i * 20 + j, none⟩ (.int .u8 v)) B (ids.set i (l.set j b)) := by
  subst hv
  obtain ⟨C, hC⟩ := h.blk
  have hil : i < ids.length := (List.getElem?_eq_some_iff.1 hl).1
  have hl20 : l.length = 20 := h.len l (List.mem_of_getElem? hl)
  refine ⟨⟨_, hC.set _ _⟩, fun m hm => ?_, fun i' l' hl' j' v' hv' => ?_⟩
  · rcases List.mem_or_eq_of_mem_set hm with h1 | rfl
    · exact h.len m h1
    · simpa using hl20
  · by_cases e : i = i'
    · subst e
      rw [List.getElem?_set_self hil] at hl'
      obtain rfl := Option.some.inj hl'
      by_cases e2 : j = j'
      · subst e2
        have : v' = .int .u8 (b.toNat : Int) := by
          simp only [idV, List.getElem?_map] at hv'
          rw [List.getElem?_set_self (by omega)] at hv'
          simpa using hv'.symm
        rw [this]
        exact World.cell?_setCell_same' _ _ _ (by
          have h0 := h.row i l hl j (.int .u8 (l[j].toNat : Int)) (by simp [idV, List.getElem?_eq_getElem (show j < l.length by omega)])
          rw [h0]; rfl)
      · have hv2 : (idV l)[j']? = some v' := by
          simp only [idV, List.getElem?_map] at hv' ⊢
          rwa [List.getElem?_set_ne (by omega)] at hv'
        rw [World.cell?_setCell_other _ _ _ _ (by intro q; simp only [Addr.mk.injEq] at q; omega)]
        exact h.row i l hl j' v' hv2
    · rw [List.getElem?_set_ne (by omega)] at hl'
      have hj' : j' < 20 := by
        have := (List.getElem?_eq_some_iff.1 hv').1
        rw [length_idV, h.len l' (List.mem_of_getElem? hl')] at this
        exact this
      rw [World.cell?_setCell_other _ _ _ _ (by intro q; simp only [Addr.mk.injEq] at q; omega)]
      exact h.row i' l' hl' j' v' hv'

def zero20 : List UInt8 := List.replicate 20 0
theorem info37 : (Yba.prog.info? 37).map (fun i => (i.zero, i.size, i.bytes)) = some (some (.agg (List.replicate 20 (.int .u8 0)).toArray), 20, 20) := by kernel_rfl

theorem rep_get (v : Value) (m q : Nat) (h : q < m) : (List.replicate m v).toArray[q]! = v := by
  rw [getElem!_pos _ _ (by simpa using h)]
  simp

theorem mk_ids (n : Nat) (hn : n ≤ 1000000) : ∃ Z : Array Value, (∀ j, j < n * 20 → Z[j]? = some (.int .u8 0)) ∧
    ∀ w, (Instr.makeSlice 24 (.int .i64 (n : Int)) (.int .i64 (n : Int))).run Yba.prog w = .ok (.slice (some ⟨w.heap.size, 0, none⟩) n n) (w.alloc (.cells Z 37)) := by
  obtain ⟨i0, hi0, hz0, hz1, hz2⟩ := info_parts info37
  refine ⟨madeCells (Value.cells (.agg (List.replicate 20 (.int .u8 0)).toArray)) (n * 20), fun j hj => ?_, fun w => ?_⟩
  · simp only [madeCells, Array.getElem?_map]
    rw [Array.getElem?_eq_getElem (by simpa using hj)]
    simp only [Option.map_some, Array.getElem_range, Value.cells]
    rw [show (List.replicate 20 (Value.int .u8 0)).toArray.size = 20 from rfl, rep_get _ 20 _ (Nat.mod_lt _ (by decide))]
  · have h := run_make (P := Yba.prog) w 24 37 i0 _ Yba.underlying24 hi0 hz0 .i64 .i64 n n (by omega) (by omega) (by rw [hz2]; omega) (by omega)
    rw [hz1] at h
    simp only [Int.toNat_natCast] at h
    exact h
theorem ids_zero (w : World) (n : Nat) (Z : Array Value) (hz : ∀ j, j < n * 20 → Z[j]? = some (.int .u8 0)) : IdsAt (w.alloc (.cells Z 37)) w.heap.size (List.replicate n zero20) := by
  refine ⟨⟨Z, At.new w Z 37⟩, fun l hl => by rw [(List.mem_replicate.1 hl).2]; rfl, fun i l hl j v hv => ?_⟩
  rw [(At.new w Z 37).cell]
  obtain ⟨hi, rfl⟩ : i < n ∧ zero20 = l := by
    have h1 : i < n := by simpa using (List.getElem?_eq_some_iff.1 hl).1
    rw [List.getElem?_replicate, if_pos h1] at hl
    exact ⟨h1, Option.some.inj hl⟩
  have hj : j < 20 := by have := (List.getElem?_eq_some_iff.1 hv).1; simpa [length_idV, zero20] using this
  have : v = .int .u8 0 := by
    simp only [idV, zero20, List.getElem?_map, List.getElem?_replicate, if_pos hj] at hv
    simpa using hv.symm
  rw [this]
  exact hz _ (by omega)

/-- The identifier of peer j with key k, below 256 peers. -/
def mkId (k : Int) (j : Nat) : List UInt8 := (((zero20.set 0 (UInt8.ofNat k.toNat)).set 18 0).set 19 (UInt8.ofNat j))
def mkIds (zs : List Int) (n : Nat) : List (List UInt8) := (List.range n).map fun j => mkId (zs.getD j 0) j
/-- After k rounds. -/
def partIds (zs : List Int) (n k : Nat) : List (List UInt8) := (List.range n).map fun j => if j < k then mkId (zs.getD j 0) j else zero20
theorem partIds_zero (zs : List Int) (n : Nat) : partIds zs n 0 = List.replicate n zero20 := by
  apply List.ext_getElem
  · simp [partIds]
  · intro i h1 h2; simp [partIds]
theorem partIds_all (zs : List Int) (n : Nat) : partIds zs n n = mkIds zs n := by
  apply List.ext_getElem
  · simp [partIds, mkIds]
  · intro i h1 h2
    have : i < n := by simpa [partIds] using h1
    simp [partIds, mkIds, this]
theorem partIds_get (zs : List Int) (n k : Nat) (hk : k < n) : (partIds zs n k)[k]? = some zero20 := by
  simp [partIds, hk]
theorem partIds_step (zs : List Int) (n k : Nat) : (partIds zs n k).set k (mkId (zs.getD k 0) k) = partIds zs n (k + 1) := by
  apply List.ext_getElem
  · simp [partIds]
  · intro i h1 h2
    rw [List.getElem_set]
    by_cases e : k = i
    · subst e
      simp [partIds]
    · simp only [if_neg e, partIds, List.getElem_map, List.getElem_range]
      have : (i < k) ↔ (i < k + 1) := by omega
      simp [this]

theorem add_block (x : Addr) (k : Nat) : (x.add k).block = x.block := by unfold Addr.add; split <;> rfl
def IdInv (w : World) (zs : List Int) (n k : Nat) (wr : World) : Prop := IdsAt wr w.heap.size (partIds zs n k) ∧ Below w.heap.size w wr
theorem IdInv.step {w : World} {zs : List Int} {n k : Nat} {wr : World} (h : IdInv w zs n k wr) (hk : k < n) (hn : n ≤ 256) (z : Int) (hz : zs.getD k 0 = z) (h0 : 0 ≤ z) (h1 : z ≤ 255) (q : Nat) :
    IdInv w zs n (k + 1) (((((wr.drewN q).setCell ⟨w.heap.size, k * 20, none⟩ (.int .u8 z)).setCell ⟨w.heap.size, k * 20 + 18, none⟩ (.int .u8 0)).setCell ⟨w.heap.size, k * 20 + 19, none⟩ (.int .u8 (k : Int)))) := by
  have hkl : k < (partIds zs n k).length := by simpa [partIds] using hk
  have a1 : IdsAt ((wr.drewN q).setCell ⟨w.heap.size, k * 20, none⟩ (.int .u8 z)) w.heap.size _ := (h.1.gr ((Gr.refl wr).drewN q)).set k 0 zero20 (partIds_get zs n k hk) (by decide) (UInt8.ofNat z.toNat) z (by rw [UInt8.toNat_ofNat']; omega)
  have a2 := a1.set k 18 _ (List.getElem?_set_self hkl) (by decide) 0 0 rfl
  have a3 := a2.set k 19 _ (List.getElem?_set_self (by simpa using hkl)) (by decide) (UInt8.ofNat k) (k : Int) (by rw [UInt8.toNat_ofNat']; omega)
  rw [List.set_set, List.set_set] at a3
  have e : ((zero20.set 0 (UInt8.ofNat z.toNat)).set 18 0).set 19 (UInt8.ofNat k) = mkId (zs.getD k 0) k := by rw [hz]; rfl
  rw [e, partIds_step] at a3
  have b0 : Below w.heap.size w (wr.drewN q) := ⟨h.2.os, h.2.tape, h.2.output, h.2.size, h.2.block⟩
  exact ⟨a3, ((b0.setCell (p := ⟨w.heap.size, k * 20, none⟩) (Nat.le_refl _) _).setCell (p := ⟨w.heap.size, k * 20 + 18, none⟩) (Nat.le_refl _) _).setCell (p := ⟨w.heap.size, k * 20 + 19, none⟩) (Nat.le_refl _) _⟩

set_option maxHeartbeats 4000000 in
set_option maxRecDepth 1000000 in
theorem aids_calls (w : World) (x : Addr) (n cap : Nat) (zs : List Int) (hnz : n ≤ zs.length) (hn : n ≤ 256) (hc : ∀ i, i < zs.length → w.cell? (x.add i) = some (.int .u8 (zs.getD i 0))) (hb : x.block < w.heap.size)
    (hz : ∀ i, i < zs.length → 0 ≤ zs.getD i 0 ∧ zs.getD i 0 ≤ 255) :
    Calls Yba.prog 8 #[.slice (some x) n cap] w fun e w' => e = .returned (.slice (some ⟨w.heap.size, 0, none⟩) n n) ∧ IdsAt w' w.heap.size (mkIds zs n) ∧ Below w.heap.size w w' := by
  have mixed : Yba.prog.follows .mixedOrders = true := by kernel_rfl
  obtain ⟨Z, hZ, hmk⟩ := mk_ids n (by omega)
  have HI : Hid (IdInv w zs n 0 (w.alloc (.cells Z 37))) := ⟨by rw [partIds_zero]; exact ids_zero w n Z hZ, (Below.refl _ _).alloc (Nat.le_refl _) _⟩
  have HC := hide hc
  have HZ := hide hz
  clear hc hz hZ
  go_enter Yba.func8, Yba.ntmps8
  go_wp2
  have HI' := HI.out
  clear HI hmk
  generalize w.alloc (Obj.cells Z 37) = W0 at HI' ⊢
  obtain ⟨S, hS⟩ : ∃ S, S = w.heap.size := ⟨_, rfl⟩
  rw [← hS]
  have HSz := hide hS
  clear hS
  go_loopg [4] n (fun g s4 wr => ∃ k : Nat, s4 = .int .i64 k ∧ k ≤ n ∧ n - k ≤ g ∧ Aside (IdInv w zs n k wr))
  case atStart => exact ⟨0, rfl, Nat.zero_le _, by omega, HI'⟩
  case round =>
    obtain ⟨k, rfl, hkn, hg, J⟩ := hrel
    by_cases hk : k < n
    · have hkz : (k : Int) < (n : Int) := by omega
      have hkz0 : (0:Int) ≤ (k : Int) := by omega
      obtain ⟨z, hz⟩ : ∃ z, zs.getD k 0 = z := ⟨_, rfl⟩
      have hz01 := HZ.out k (by omega)
      rw [hz] at hz01
      have ck : wr.cell? (x.add k) = some (.int .u8 z) := by rw [J.out.2.cell (by rw [add_block]; exact hb), HC.out k (by omega), hz]
      have J2 := fun q => hide (J.out.step hk hn z hz hz01.1 hz01.2 q)
      have JB := J.out.1.row k zero20 (partIds_get zs n k hk)
      rw [← HSz.out] at JB
      have JF : ∀ j, wr.frozen? ⟨S, j, none⟩ = false := fun j => by rw [HSz.out]; obtain ⟨C, hC⟩ := J.out.1.blk; exact hC.frozen j
      have c0 : wr.cell? ⟨S, k * 20, none⟩ = some (.int .u8 0) := JB 0 _ rfl
      have c18 : wr.cell? ⟨S, k * 20 + 18, none⟩ = some (.int .u8 0) := JB 18 _ rfl
      have c19 : wr.cell? ⟨S, k * 20 + 19, none⟩ = some (.int .u8 0) := JB 19 _ rfl
      have f0 := JF (k * 20)
      have f18 := JF (k * 20 + 18)
      have f19 := JF (k * 20 + 19)
      have Hz := hide hz
      clear JB JF HI' J hz
      go_wp2_with fail
      go_big_region_o
      go_wp2
      go_roundg (n - (k + 1))
      case measure => omega
      case rel =>
        refine ⟨k + 1, by go_num, by omega, Nat.le_refl _, ?_⟩
        rw [show (k : Int) / 256 = 0 by omega, HSz.out]
        exact (J2 1).out
    · obtain rfl : k = n := by omega
      have e := J.out.1
      rw [partIds_all] at e
      have A : Aside (IdsAt wr w.heap.size (mkIds zs k) ∧ Below w.heap.size w wr) := ⟨e, J.out.2⟩
      clear e J HI'
      go_wp2
      go_ret
      exact ⟨by rw [← HSz.out]; rfl, A.out⟩
end Go.Proofs.Ybulkapqu
