import Derived.Test.YbulkapquA7
namespace Go.Proofs.Ybulkapqu
open Go.RowKit Go.Sort

/-! ### What the law wants, in plain words -/
def hit (zs : List Int) (hs : List Bool) (v j : Nat) : Bool := decide (zs.getD j 0 = (v : Int)) && hs.getD j false
def rowL (zs : List Int) (hs : List Bool) (v j : Nat) : List Nat := (List.range j).filter (hit zs hs v)
def wantL (zs : List Int) (hs : List Bool) (n V : Nat) : List Nat := (List.range V).flatMap fun v => rowL zs hs v n
theorem rowL_zero (zs : List Int) (hs : List Bool) (v : Nat) : rowL zs hs v 0 = [] := rfl
theorem rowL_hit (zs : List Int) (hs : List Bool) (v j : Nat) (h : hit zs hs v j = true) : rowL zs hs v (j + 1) = rowL zs hs v j ++ [j] := by
  rw [rowL, List.range_succ, List.filter_append]
  simp [h, rowL]
theorem rowL_miss (zs : List Int) (hs : List Bool) (v j : Nat) (h : hit zs hs v j = false) : rowL zs hs v (j + 1) = rowL zs hs v j := by
  rw [rowL, List.range_succ, List.filter_append]
  simp [h, rowL]
theorem wantL_zero (zs : List Int) (hs : List Bool) (n : Nat) : wantL zs hs n 0 = [] := rfl
theorem wantL_succ (zs : List Int) (hs : List Bool) (n V : Nat) : wantL zs hs n (V + 1) = wantL zs hs n V ++ rowL zs hs V n := by
  rw [wantL, List.range_succ, List.flatMap_append]
  simp [wantL]
theorem length_rowL (zs : List Int) (hs : List Bool) (v j : Nat) : (rowL zs hs v j).length ≤ j := by
  have := List.length_filter_le (hit zs hs v) (List.range j)
  simpa [rowL] using this
theorem length_wantL (zs : List Int) (hs : List Bool) (n : Nat) : ∀ V, (wantL zs hs n V).length ≤ V * n
  | 0 => by simp [wantL_zero]
  | V + 1 => by
    rw [wantL_succ, List.length_append, Nat.succ_mul]
    have := length_wantL zs hs n V
    have := length_rowL zs hs V n
    omega

theorem sorted_eq (f : Nat → Nat) : ∀ xs ys : List Nat, xs.Pairwise (fun a b => f a < f b) → ys.Pairwise (fun a b => f a < f b) → (∀ x, x ∈ xs ↔ x ∈ ys) → xs = ys
  | [], [], _, _, _ => rfl
  | [], y :: ys, _, _, h => by have := (h y).2 (List.mem_cons_self ..); simp at this
  | x :: xs, [], _, _, h => by have := (h x).1 (List.mem_cons_self ..); simp at this
  | x :: xs, y :: ys, hx, hy, h => by
    obtain ⟨a1, a2⟩ := List.pairwise_cons.1 hx
    obtain ⟨b1, b2⟩ := List.pairwise_cons.1 hy
    have e : x = y := by
      rcases List.mem_cons.1 ((h x).1 (List.mem_cons_self ..)) with e | e
      · exact e
      · rcases List.mem_cons.1 ((h y).2 (List.mem_cons_self ..)) with e' | e'
        · exact e'.symm
        · have := a1 y e'
          have := b1 x e
          omega
    subst e
    rw [sorted_eq f xs ys a2 b2 (fun z => ?_)]
    have hz := h z
    simp only [List.mem_cons] at hz
    constructor
    · intro hm
      have := a1 z hm
      rcases hz.1 (.inr hm) with e | e
      · subst e; omega
      · exact e
    · intro hm
      have := b1 z hm
      rcases hz.2 (.inr hm) with e | e
      · subst e; omega
      · exact e

theorem mkId_val (k : Int) (j : Nat) (h0 : 0 ≤ k) (h1 : k ≤ 255) (hj : j < 256) : Lib.beNat (mkId k j) = k.toNat * 256 ^ 19 + j := by
  have e : mkId k j = UInt8.ofNat k.toNat :: (List.replicate 18 0 ++ [UInt8.ofNat j]) := rfl
  have hap : ∀ (a : List UInt8) (b : UInt8), Lib.beNat (a ++ [b]) = Lib.beNat a * 256 + b.toNat := fun a b => by
    induction a with
    | nil => simp [Lib.beNat, Lib.beFrom]
    | cons x r ih =>
      rw [List.cons_append, beNat_cons, beNat_cons, ih, List.length_append, Nat.pow_add, Nat.add_mul, Nat.mul_assoc]
      simp
      omega
  have hz : Lib.beNat (List.replicate 18 0) = 0 := by decide
  rw [e, beNat_cons, hap, hz, UInt8.toNat_ofNat', UInt8.toNat_ofNat']
  have e1 : k.toNat % 2 ^ 8 = k.toNat := Nat.mod_eq_of_lt (by omega)
  have e2 : j % 2 ^ 8 = j := Nat.mod_eq_of_lt (by omega)
  rw [e1, e2]
  simp
theorem want_eq (zs : List Int) (hs : List Bool) (n : Nat) (hn : n ≤ 256) (hz : ∀ i, i < n → 0 ≤ zs.getD i 0 ∧ zs.getD i 0 ≤ 255) (xs : List Nat) (nd : xs.Nodup) (pw : xs.Pairwise (fun a b => val (mkIds zs n) a ≤ val (mkIds zs n) b))
    (hlt : ∀ x ∈ xs, x < n) (hm : ∀ x, x < n → (x ∈ xs ↔ hs.getD x false = true)) : xs = wantL zs hs n 256 := by
  have hv : ∀ i, i < n → val (mkIds zs n) i = (zs.getD i 0).toNat * 256 ^ 19 + i := fun i hi => by
    rw [val, mkIds_get zs n i hi, mkId_val _ _ (hz i hi).1 (hz i hi).2 (by omega)]
  have hp : (256 : Nat) ^ 19 = 5708990770823839524233143877797980545530986496 := by decide
  have hmem : ∀ v j, j ∈ rowL zs hs v n ↔ j < n ∧ zs.getD j 0 = (v : Int) ∧ hs.getD j false = true := fun v j => by
    simp [rowL, hit, List.mem_filter]
  refine sorted_eq (val (mkIds zs n)) xs _ ?_ ?_ (fun x => ?_)
  · have h := pw.and nd
    refine List.Pairwise.imp_of_mem (fun {a b} ha hb hab => ?_) h
    rcases Nat.lt_or_eq_of_le hab.1 with h1 | h1
    · exact h1
    · exact absurd (mkIds_inj zs n hn a b (hlt a ha) (hlt b hb) h1) hab.2
  · rw [wantL, List.pairwise_flatMap]
    constructor
    · intro v _
      have h : (List.range n).Pairwise (· < ·) := List.pairwise_lt_range
      refine List.Pairwise.imp_of_mem (fun {a b} ha hb hab => ?_) (h.filter (hit zs hs v))
      have ha' := (hmem v a).1 ha
      have hb' := (hmem v b).1 hb
      rw [hv a ha'.1, hv b hb'.1, ha'.2.1, hb'.2.1]
      omega
    · refine List.Pairwise.imp (fun {v u} hvu x hx y hy => ?_) (List.pairwise_lt_range (n := 256))
      have ha' := (hmem v x).1 hx
      have hb' := (hmem u y).1 hy
      rw [hv x ha'.1, hv y hb'.1, ha'.2.1, hb'.2.1, hp]
      simp only [Int.toNat_natCast]
      omega
  · rw [wantL, List.mem_flatMap]
    constructor
    · intro hx
      have hxn := hlt x hx
      have := hz x hxn
      exact ⟨(zs.getD x 0).toNat, List.mem_range.2 (by omega), (hmem _ x).2 ⟨hxn, by omega, (hm x hxn).1 hx⟩⟩
    · rintro ⟨v, _, hx⟩
      obtain ⟨h1, _, h3⟩ := (hmem v x).1 hx
      exact (hm x h1).2 h3

/-! ### The walk -/
def AInv (W : World) (l : List Nat) (v : Value) (wr : World) : Prop := Own wr W.heap.size v l ∧ Below W.heap.size W wr
theorem ainv_start (W : World) : AInv W [] (.slice (some ⟨W.heap.size, 0, none⟩) 0 0) (W.alloc (.cells #[] 3)) :=
  ⟨⟨by simp, .inr ⟨W.heap.size, 0, #[], rfl, Nat.le_refl _, At.new W _ _, Nat.le_refl _, Nat.zero_le _, rfl, by simp⟩⟩, (Below.refl _ _).alloc (Nat.le_refl _) _⟩
theorem ainv_push {W : World} {l : List Nat} {wr w1 : World} {x : Nat} {v v' : Value} {n : Nat} (h : AInv W l v wr) (o : Obj)
    (hn : n = l.length) (ho : w1.ownsRow W.heap.size 3 1 v' (n + 1) (l.map nv ++ [.int .i64 (x : Int)]))
    (hg : (wr.alloc o).grownBy w1 v.ownBlock) (hv : ∀ g, v.ownBlock = some g → W.heap.size ≤ g) : AInv W (l ++ [x]) v' w1 := by
  refine ⟨?_, (h.2.alloc h.2.size o).grown hg (by rw [World.size_alloc]; have := h.2.size; omega) (fun k hk => hv k hk)⟩
  show w1.ownsRow _ _ _ _ _ _
  rw [List.length_append, List.map_append, ← hn]
  exact ho
theorem AInv.blk {W : World} {l : List Nat} {v : Value} {wr : World} (h : AInv W l v wr) : ∀ g, v.ownBlock = some g → W.heap.size ≤ g := fun g hg => by
  rcases h.1.2 with ⟨rfl, _⟩ | ⟨g', cap, cur, rfl, e2, _⟩
  · simp [Value.ownBlock] at hg
  · simp [Value.ownBlock] at hg
    omega

set_option maxHeartbeats 4000000 in
set_option maxRecDepth 1000000 in
theorem want_calls (w : World) (x : Addr) (n cap H : Nat) (zs : List Int) (hs : List Bool) (hnz : n ≤ zs.length) (hn : n ≤ 256) (hc : ∀ i, i < zs.length → w.cell? (x.add i) = some (.int .u8 (zs.getD i 0))) (hb : x.block < w.heap.size)
    (hz : ∀ i, i < zs.length → 0 ≤ zs.getD i 0 ∧ zs.getD i 0 ≤ 255) (hH : At w H (hs.map Value.bool).toArray 4) (hhl : hs.length = n) :
    Calls Yba.prog 13 #[.slice (some x) n cap, .slice (some ⟨H, 0, none⟩) n n] w fun e w' => (∃ v, e = .returned v ∧ Own w' w.heap.size v (wantL zs hs n 256)) ∧ Below w.heap.size w w' := by
  have HI := hide (ainv_start w)
  have HC := hide hc
  have HZ := hide hz
  have HH := hide hH
  obtain ⟨i0, hi0, hz0, hz1, hz2⟩ := info_parts info3
  clear hc hz hH
  go_enter Yba.func13, Yba.ntmps13
  go_wp2
  have HI' := HI.out
  clear HI
  generalize w.alloc (Obj.cells #[] 3) = W0 at HI' ⊢
  generalize hS : w.heap.size = S at *
  have HS := hide hS
  clear hS
  go_loopg [5, 6, 7] 256 (fun gg s5 s6 s7 wr => ∃ v : Nat, s6 = .int .i64 v ∧ v ≤ 256 ∧ 256 - v ≤ gg ∧ Aside (AInv w (wantL zs hs n v) s5 wr))
  case atStart => exact ⟨0, rfl, Nat.zero_le _, by omega, HI'⟩
  case round =>
    clear HI'
    obtain ⟨v, rfl, hvn, hg, J⟩ := hrel
    by_cases hv : v < 256
    · have hvz : (v : Int) < 256 := by omega
      have J0 : AInv w (wantL zs hs n v ++ rowL zs hs v 0) u5 wr := by rw [rowL_zero, List.append_nil]; exact J.out
      clear J
      go_wp2
      go_loopg [5, 7] n (fun gg s5 s7 wr => ∃ j : Nat, s7 = .int .i64 j ∧ j ≤ n ∧ n - j ≤ gg ∧ Aside (AInv w (wantL zs hs n v ++ rowL zs hs v j) s5 wr))
      case atStart => exact ⟨0, rfl, Nat.zero_le _, by omega, J0⟩
      case round =>
        clear J0
        obtain ⟨j, rfl, hjn, hg2, J⟩ := hrel
        by_cases hj : j < n
        · have hjz : (j : Int) < (n : Int) := by omega
          have hjz0 : (0:Int) ≤ (j : Int) := by omega
          obtain ⟨z, hz⟩ : ∃ z, zs.getD j 0 = z := ⟨_, rfl⟩
          have hz01 := HZ.out j (by omega)
          rw [hz] at hz01
          have ck : wr.cell? (x.add j) = some (.int .u8 z) := by rw [J.out.2.cell (by rw [add_block, HS.out]; exact hb), HC.out j (by omega), hz]
          obtain ⟨q, hq⟩ : ∃ q, hs.getD j false = q := ⟨_, rfl⟩
          have cq : wr.cell? ⟨H, j, none⟩ = some (.bool q) := by
            rw [J.out.2.cell (p := ⟨H, j, none⟩) HH.out.lt, HH.out.cell j]
            have : hs[j]? = some q := by
              rw [← hq, List.getD_eq_getElem?_getD, List.getElem?_eq_getElem (by omega)]; rfl
            simp [this]
          by_cases e : z = (v : Int)
          · cases q with
            | false =>
              have J2 : Aside (AInv w (wantL zs hs n v ++ rowL zs hs v (j + 1)) u5 wr) := by
                rw [rowL_miss zs hs v j (by unfold hit; rw [hq, Bool.and_false])]; exact J.out
              subst e
              clear hz hq J
              go_wp2
              go_roundg (n - (j + 1))
              case measure => omega
              case rel => exact ⟨j + 1, by go_num, by omega, Nat.le_refl _, J2⟩
            | true =>
              have HE : Hid (wantL zs hs n v ++ rowL zs hs v (j + 1) = (wantL zs hs n v ++ rowL zs hs v j) ++ [j]) := by
                show _ = _
                rw [rowL_hit zs hs v j (by unfold hit; rw [hq, hz, e]; simp), List.append_assoc]
              have hfl2 : (wantL zs hs n v ++ rowL zs hs v j).length ≤ 100000 := by
                have h1 := length_wantL zs hs n v
                have h2 := length_rowL zs hs v j
                have h3 : v * n ≤ 256 * 256 := Nat.mul_le_mul (by omega) hn
                rw [List.length_append]
                omega
              generalize hl : wantL zs hs n v ++ rowL zs hs v j = l at *
              have Hl := hide hl
              obtain ⟨fl, hfl⟩ : ∃ fl, fl = l.length := ⟨_, rfl⟩
              have hfl3 : fl ≤ 100000 := by omega
              have hown : wr.ownsRow S 3 1 u5 fl (l.map nv) := by
                rw [hfl, ← HS.out]; exact J.out.1
              have Hfl := hide hfl
              have hsz : S ≤ wr.heap.size := by rw [← HS.out]; exact J.out.2.size
              generalize hfx : l.map nv = fx at hown
              have Hfx := hide hfx
              subst e
              clear hz hq hl hfl hfx hfl2
              go_wp2_with (first
                | (at_builtin; refine wpList_append_own _ rfl _ _ 26 rfl S 3 i0 (.int .i64 0) 1 8 Yba.underlying26 hi0 hz0 hz1 hz2 rfl (by decide) _ _ _ rfl (hown.alloc _) ⟨wr.heap.size, 0, none⟩ 1 1 [.int .i64 (j : Int)] rfl rfl (fun j u hj => ?c1) (fun u hu => ?c2) ?c3 ?c4 ?c5 ?_)
                | fail)
              case c1 =>
                match j, hj with
                | 0, hj => simp at hj; subst hj; simp [Addr.add]
              case c2 => simp at hu; subst hu; rfl
              case c3 => unfold maxLen; omega
              case c4 => omega
              case c5 => rw [World.size_alloc]; omega
              · intro v' w5 hown' hgrow _
                have J2 : Aside (AInv w (wantL zs hs n v ++ rowL zs hs v (j + 1)) v' w5) := by
                  show AInv _ _ _ _
                  rw [HE.out]
                  exact ainv_push J.out _ Hfl.out (by rw [HS.out, Hfx.out]; exact hown') hgrow J.out.blk
                clear hown hown' hgrow J
                go_wp2
                go_roundg (n - (j + 1))
                case measure => omega
                case rel => exact ⟨j + 1, by go_num, by omega, Nat.le_refl _, J2⟩
          · have J2 : Aside (AInv w (wantL zs hs n v ++ rowL zs hs v (j + 1)) u5 wr) := by
              show AInv _ _ _ _
              rw [rowL_miss zs hs v j (by unfold hit; rw [hz]; simp [e])]; exact J.out
            have e2 : (z == (v : Int)) = false := by simpa using e
            clear hz hq J
            go_wp2
            go_roundg (n - (j + 1))
            case measure => omega
            case rel => exact ⟨j + 1, by go_num, by omega, Nat.le_refl _, J2⟩
        · obtain rfl : j = n := by omega
          have J2 : Aside (AInv w (wantL zs hs j (v + 1)) u5 wr) := by
            show AInv _ _ _ _
            rw [wantL_succ]; exact J.out
          clear J
          go_wp2
          go_roundg (256 - (v + 1))
          case measure => omega
          case rel => exact ⟨v + 1, by go_num, by omega, Nat.le_refl _, J2⟩
    · obtain rfl : v = 256 := by omega
      go_wp2
      go_ret
      exact ⟨⟨_, rfl, J.out.1⟩, J.out.2⟩
end Go.Proofs.Ybulkapqu
