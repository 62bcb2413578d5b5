import Derived.Test.YbulkapquA5
import Derived.Test.YbulkapquA6
import Derived.Test.YbulkapquShelf2
import Derived.OwnWalk
namespace Go.Proofs.Ybulkapqu
open Go.RowKit Go.Sort

theorem length_mkId (k : Int) (j : Nat) : (mkId k j).length = 20 := by simp [mkId, zero20]
theorem mkIds_get (zs : List Int) (n i : Nat) (hi : i < n) : (mkIds zs n).getD i [] = mkId (zs.getD i 0) i := by
  simp [mkIds, List.getD_eq_getElem?_getD, hi]
theorem mkIds_inj (zs : List Int) (n : Nat) (hn : n ≤ 256) (x y : Nat) (hx : x < n) (hy : y < n) (h : val (mkIds zs n) x = val (mkIds zs n) y) : x = y := by
  rw [val, val, mkIds_get zs n x hx, mkIds_get zs n y hy] at h
  have e := beNat_inj _ _ ((length_mkId _ _).trans (length_mkId _ _).symm) h
  have e2 := congrArg (fun l : List UInt8 => l[19]?) e
  simp [mkId, zero20] at e2
  have e3 := congrArg UInt8.toNat e2
  rw [UInt8.toNat_ofNat', UInt8.toNat_ofNat'] at e3
  omega

theorem Ring.below {w w' : World} {O B R n c cap : Nat} {ids : List (List UInt8)} {xs : List Nat} (h : Ring w O B R n c cap ids xs) {S : Nat} (b : Below S w w') (hS : w.heap.size ≤ S) : Ring w' O B R n c cap ids xs :=
  ⟨h.hO.of_heap (b.block _ (Nat.lt_of_lt_of_le h.hO.lt hS)), h.hI.of_heap (b.block _ (Nat.lt_of_lt_of_le h.hI.lt hS)), h.hR.of_heap (b.block _ (Nat.lt_of_lt_of_le h.hR.lt hS)), h.hlen, h.hin⟩

/-- A slice owns the numbers. -/
def Own (w : World) (base : Nat) (v : Value) (ys : List Nat) : Prop := w.ownsRow base 3 1 v ys.length (ys.map nv)

theorem Own.kept {w w' : World} {base : Nat} {v : Value} {ys : List Nat} (h : Own w base v ys) (hb : ∀ k, base ≤ k → k < w.heap.size → w'.heap[k]? = w.heap[k]?) : Own w' base v ys := by
  obtain ⟨h1, h2⟩ := h
  refine ⟨h1, ?_⟩
  rcases h2 with h2 | ⟨g, cap, cur, e1, e2, e3, e4, e5, e6, e7⟩
  · exact .inl h2
  · exact .inr ⟨g, cap, cur, e1, e2, (hb g e2 (Array.getElem?_eq_some_iff.1 e3).1).trans e3, e4, e5, e6, e7⟩

theorem getD_cast (ys : List Nat) (j : Nat) (hj : j < ys.length) : (ys.map fun x : Nat => (x : Int)).getD j 0 = ((ys[j] : Nat) : Int) := by
  simp [List.getD_eq_getElem?_getD, hj]

theorem equal_calls (w : World) (R cap base : Nat) (v : Value) (ys : List Nat) (hr : RowAt w R ys cap) (ho : Own w base v ys) (hl : ys.length ≤ 1000000) :
    Calls Yba.prog 12 #[.slice (some ⟨R, 0, none⟩) ys.length cap, v] w fun e w' => e = .returned (.bool true) ∧ ∃ q, w' = w.drewN q := by
  obtain ⟨h1, h2⟩ := ho
  rcases h2 with ⟨rfl, h2⟩ | ⟨g, cap', cur, rfl, e2, e3, e4, e5, e6, e7⟩
  · rw [h2]
    exact (Yba.slices_Equal_int_empty (some ⟨R, 0, none⟩) none cap 0 0 w (by decide)).mono fun e w' ⟨h, h'⟩ => ⟨by rw [h]; rfl, 0, h'⟩
  · refine (Yba.slices_Equal_int R 0 ys.length cap g 0 ys.length cap' (ys.map fun x : Nat => (x : Int)) (ys.map fun x : Nat => (x : Int)) w (by simp) (by simp) (by omega) (by omega) (fun j hj => ?_) (fun j hj => ?_)).mono fun e w' ⟨h, h'⟩ => ⟨by rw [h]; simp, h'⟩
    · have hj' : j < ys.length := by simpa using hj
      rw [getD_cast ys j hj']
      exact hr.cell j _ (List.getElem?_eq_getElem hj')
    · have hj' : j < ys.length := by simpa using hj
      rw [getD_cast ys j hj', cell_of_row w g (0 + j) cur 3 _ e3, Nat.zero_add]
      have : (cur.toList.take (ys.length * 1))[j]? = some (nv ys[j]) := by rw [e7]; simp [hj']
      rw [Nat.mul_one, List.getElem?_take_of_lt hj'] at this
      simpa [nv] using this

/-- The loop of 'want': after k rounds. -/
def WInv (W : World) (before : List Nat) (i k : Nat) (v : Value) (wr : World) : Prop := Own wr W.heap.size v ((before.take k).filter (fun x => x != i)) ∧ Below W.heap.size W wr
theorem filter_take_succ (xs : List Nat) (k x : Nat) (hx : xs[k]? = some x) (p : Nat → Bool) : (xs.take (k + 1)).filter p = (xs.take k).filter p ++ (if p x then [x] else []) := by
  rw [List.take_add_one, hx, List.filter_append]
  by_cases h : p x = true
  · simp [h]
  · simp [h]

theorem winv_start (W : World) (before : List Nat) (i : Nat) : WInv W before i 0 (.slice (some ⟨W.heap.size, 0, none⟩) 0 0) (W.alloc (.cells #[] 3)) := by
  refine ⟨⟨by simp, .inr ⟨W.heap.size, 0, #[], rfl, Nat.le_refl _, At.new W _ _, Nat.le_refl _, Nat.zero_le _, rfl, by simp⟩⟩, (Below.refl _ _).alloc (Nat.le_refl _) _⟩
theorem winv_drop {W : World} {before : List Nat} {i k : Nat} {v : Value} {wr : World} (h : WInv W before i k v wr) (hx : before[k]? = some i) : WInv W before i (k + 1) v wr := by
  refine ⟨?_, h.2⟩
  rw [filter_take_succ _ _ _ hx]
  simpa using h.1
theorem winv_keep {W : World} {before : List Nat} {i k : Nat} {wr w1 : World} {x : Nat} {v v' : Value} {n : Nat} (h : WInv W before i k v wr) (hx : before[k]? = some x) (hne : x ≠ i) (o : Obj)
    (hn : n = ((before.take k).filter (fun x => x != i)).length) (ho : w1.ownsRow W.heap.size 3 1 v' (n + 1) (((before.take k).filter (fun x => x != i)).map nv ++ [.int .i64 (x : Int)]))
    (hg : (wr.alloc o).grownBy w1 v.ownBlock) (hv : ∀ g, v.ownBlock = some g → W.heap.size ≤ g) : WInv W before i (k + 1) v' w1 := by
  have e : (before.take (k + 1)).filter (fun x => x != i) = (before.take k).filter (fun x => x != i) ++ [x] := by
    rw [filter_take_succ _ _ _ hx, if_pos (by simpa using hne)]
  refine ⟨?_, (h.2.alloc h.2.size o).grown hg (by rw [World.size_alloc]; have := h.2.size; omega) (fun k hk => hv k hk)⟩
  show w1.ownsRow _ _ _ _ _ _
  rw [e, List.length_append, List.map_append, ← hn]
  exact ho
theorem WInv.blk {W : World} {before : List Nat} {i k : Nat} {v : Value} {wr : World} (h : WInv W before i k v wr) : ∀ g, v.ownBlock = some g → W.heap.size ≤ g := fun g hg => by
  rcases h.1.2 with ⟨rfl, _⟩ | ⟨g', cap, cur, rfl, e2, _⟩
  · simp [Value.ownBlock] at hg
  · simp [Value.ownBlock] at hg
    omega

set_option maxHeartbeats 4000000 in
set_option maxRecDepth 1000000 in
theorem one_main (w : World) (x : Addr) (n cap : Nat) (zs : List Int) (a1 : Int) (hn0 : 0 < n) (hn : n ≤ 256) (hnz : n ≤ zs.length) (hc : ∀ i, i < zs.length → w.cell? (x.add i) = some (.int .u8 (zs.getD i 0)))
    (hz : ∀ i, i < zs.length → 0 ≤ zs.getD i 0 ∧ zs.getD i 0 ≤ 255) (h0 : 0 ≤ a1) (h1 : a1 ≤ 65535) :
    Calls Yba.prog 4 #[.slice (some x) n cap, .int .u16 a1] w fun e w' => e = .returned (.bool true) ∧ Below w.heap.size w w' := by
  have mixed : Yba.prog.follows .mixedOrders = true := by kernel_rfl
  have hb : x.block < w.heap.size := by
    have := World.block_lt_of_cell? _ _ (hc 0 (by omega))
    rwa [add_block] at this
  obtain ⟨i, hi⟩ : ∃ i : Nat, a1.tmod (n : Int) = (i : Int) := ⟨(a1.tmod (n : Int)).toNat, by
    have := Int.tmod_nonneg (n : Int) h0
    omega⟩
  have hin : i < n := by
    have := Int.tmod_lt_of_pos a1 (show (0:Int) < (n : Int) by omega)
    omega
  have HA := hide (aids_calls w x n cap zs hnz hn hc hb hz)
  clear hc hz
  have hn0z : ((n : Int) == 0) = false := by simp; omega
  have hn0z' : ¬ ((n : Int) = 0) := by omega
  have hnz1 : ¬ ((n : Int) > 256) := by omega
  have hnz2 : ¬ ((256 : Int) < (n : Int)) := by omega
  go_enter Yba.func4, Yba.ntmps4
  go_wp2_with fail
  refine HA.out.mono ?_
  rintro e w1 ⟨rfl, I1, b1⟩
  have HN := hide (newRing_calls w1 w.heap.size n n (mkIds zs n) I1 (by simp [mkIds]) hn0 (by omega))
  have HI1 := hide I1
  have HB1 := hide b1
  clear I1 b1 HA
  generalize hS : w.heap.size = S at *
  have HS := hide hS
  clear hS
  go_wp2_with fail
  refine HN.out.mono ?_
  rintro e w2 ⟨R, xs, rfl, hR, b2, rowR, hxl, perm, pw⟩
  have hin' : ∀ y ∈ xs, y < n := fun y hy => by simpa using (perm.mem_iff).1 hy
  have G3 : Ring (w2.alloc (.cells #[.slice (some ⟨S, 0, none⟩) n n, .slice (some ⟨R, 0, none⟩) n n] 28)) w2.heap.size S R n n n (mkIds zs n) xs := by
    refine ⟨by rw [hxl]; exact At.new w2 _ _, (HI1.out.of_heap (b2.block _ HI1.out.lt)).alloc _, ⟨[], by simpa using rowR.alloc _, by simp [hxl]⟩, by simp [mkIds], hin'⟩
  have nd : xs.Nodup := perm.nodup_iff.2 List.nodup_range
  have bel : Below S w (w2.alloc (.cells #[.slice (some ⟨S, 0, none⟩) n n, .slice (some ⟨R, 0, none⟩) n n] 28)) := by
    have h := HB1.out.trans (b2.mono (by have := HB1.out.size; have := HS.out; omega))
    exact h.alloc (by have := h.size; have := HS.out; omega) _
  have hOR : S ≤ w2.heap.size ∧ S ≤ R := by
    have := HB1.out.size; have := HS.out; have := b2.size; omega
  have HG3 := hide G3
  have HX : Hid (xs.length = n ∧ xs.Nodup ∧ xs.Pairwise (fun a b => val (mkIds zs n) a ≤ val (mkIds zs n) b) ∧ Below S w (w2.alloc (.cells #[.slice (some ⟨S, 0, none⟩) n n, .slice (some ⟨R, 0, none⟩) n n] 28)) ∧ S ≤ w2.heap.size ∧ S ≤ R) := ⟨hxl, nd, pw, bel, hOR.1, hOR.2⟩
  clear HI1 HB1 HN hR b2 rowR hxl perm pw hin' nd bel hOR G3
  generalize hO : w2.heap.size = O at *
  have HO := hide hO
  clear hO
  go_wp2_with fail
  rw [HO.out]
  generalize w2.alloc (.cells #[.slice (some ⟨S, 0, none⟩) n n, .slice (some ⟨R, 0, none⟩) n n] 28) = W3 at *
  have hxl := HX.out.1
  refine (Yba.slices_Clone_int R 0 n n (xs.map fun x : Nat => (x : Int)) W3 (by simp [hxl]) (by omega) (fun j hj => by
    have hj' : j < xs.length := by simpa using hj
    rw [getD_cast xs j hj']
    exact HG3.out.hR.cell j _ (List.getElem?_eq_getElem hj'))).mono ?_
  rintro e W4 ⟨vb, rfl, hown, hnil, b4⟩
  obtain ⟨g, cb, cur, rfl, hcur⟩ : ∃ g cb cur, vb = .slice (some ⟨g, 0, none⟩) n cb ∧ (At W4 g cur 3 ∧ n ≤ cb ∧ cur.toList.take n = xs.map nv) := by
    rcases hown.2 with ⟨rfl, _⟩ | ⟨g, cb, cur, e1, e2, e3, e4, e5, e6, e7⟩
    · exact absurd rfl hnil
    · refine ⟨g, cb, cur, e1, e3, e4, ?_⟩
      rw [Nat.mul_one] at e7
      rw [e7, List.take_of_length_le (by simp [hxl])]
      simp [nv, Function.comp_def]
  have HCur := hide hcur
  have HG4 := hide (HG3.out.below b4 (Nat.le_refl _))
  have HB4 : Hid (Below S w W4) := HX.out.2.2.2.1.trans (b4.mono (by have := HX.out.2.2.2.1.size; have := HS.out; omega))
  have HX4 : Hid (xs.length = n ∧ xs.Nodup ∧ xs.Pairwise (fun a b => val (mkIds zs n) a ≤ val (mkIds zs n) b) ∧ S ≤ O ∧ S ≤ R) := ⟨HX.out.1, HX.out.2.1, HX.out.2.2.1, HX.out.2.2.2.2⟩
  clear hcur hown hnil b4 HG3 HX hxl HO w2 W3 w1
  have HW := hide (winv_start W4 xs i)
  obtain ⟨i0, hi0, hz0, hz1, hz2⟩ := info_parts info3
  go_wp2_with fail
  generalize hS4 : W4.heap.size = S4 at *
  have HS4 := hide hS4
  clear hS4
  have HW' := HW.out
  clear HW
  go_loopg [9, 10] n (fun gg s9 s10 wr => ∃ k : Nat, s10 = .int .i64 k ∧ k ≤ n ∧ n - k ≤ gg ∧ Aside (WInv W4 xs i k s9 wr))
  case atStart => exact ⟨0, rfl, Nat.zero_le _, by omega, HW'⟩
  case round =>
    clear HW'
    obtain ⟨k, rfl, hkn, hg, J⟩ := hrel
    by_cases hk : k < n
    · have hkz : (k : Int) < (n : Int) := by omega
      have hkz0 : (0:Int) ≤ (k : Int) := by omega
      obtain ⟨y, hy⟩ : ∃ y, xs[k]? = some y := ⟨_, List.getElem?_eq_getElem (by have := HX4.out.1; omega)⟩
      have ck : wr.cell? ⟨g, k, none⟩ = some (.int .i64 (y : Int)) := by
        rw [J.out.2.cell (p := ⟨g, k, none⟩) HCur.out.1.lt, HCur.out.1.cell k]
        have : (cur.toList.take n)[k]? = some (nv y) := by rw [HCur.out.2.2]; simp [hy]
        rw [List.getElem?_take_of_lt hk] at this
        simpa [nv] using this
      have Hy := hide hy
      by_cases e : y = i
      · subst e
        have J2 : Aside (WInv W4 xs y (k + 1) u9 wr) := winv_drop J.out hy
        clear hy J
        go_wp2
        go_roundg (n - (k + 1))
        case measure => omega
        case rel => exact ⟨k + 1, by go_num, by omega, Nat.le_refl _, J2⟩
      · have e1 : ¬ ((y : Int) = (i : Int)) := by omega
        have e2 : ((y : Int) != (i : Int)) = true := by simpa using e1
        obtain ⟨fl, hfl⟩ : ∃ fl, fl = ((xs.take k).filter (fun x => x != i)).length := ⟨_, rfl⟩
        have hfl2 : fl ≤ 256 := by
          have h1 := List.length_filter_le (fun x => x != i) (xs.take k)
          have h2 : (xs.take k).length ≤ k := by simp; omega
          omega
        have hown : wr.ownsRow S4 3 1 u9 fl (((xs.take k).filter (fun x => x != i)).map nv) := by
          rw [hfl, ← HS4.out]; exact J.out.1
        have Hfl := hide hfl
        have hsz : S4 ≤ wr.heap.size := by rw [← HS4.out]; exact J.out.2.size
        have HE := hide e
        generalize hfx : ((xs.take k).filter (fun x => x != i)).map nv = fx at hown
        have Hfx := hide hfx
        clear hy e hfl hfx
        go_wp2_with (first
          | (at_builtin; refine wpList_append_own _ rfl _ _ 26 rfl S4 3 i0 (.int .i64 0) 1 8 Yba.underlying26 hi0 hz0 hz1 hz2 rfl (by decide) _ _ _ rfl (hown.alloc _) ⟨wr.heap.size, 0, none⟩ 1 1 [.int .i64 (y : Int)] rfl rfl (fun j u hj => ?c1) (fun u hu => ?c2) ?c3 ?c4 ?c5 ?_)
          | fail)
        case c1 =>
          match j, hj with
          | 0, hj => simp at hj; subst hj; simp [Addr.add]
        case c2 => simp at hu; subst hu; rfl
        case c3 => unfold maxLen; omega
        case c4 => omega
        case c5 => rw [World.size_alloc]; omega
        · intro v' w5 hown' hgrow _
          have J2 : Aside (WInv W4 xs i (k + 1) v' w5) := winv_keep J.out Hy.out HE.out _ Hfl.out (by rw [HS4.out, Hfx.out]; exact hown') hgrow J.out.blk
          clear hown hown' hgrow J
          go_wp2
          go_roundg (n - (k + 1))
          case measure => omega
          case rel => exact ⟨k + 1, by go_num, by omega, Nat.le_refl _, J2⟩
    · obtain rfl : k = n := by omega
      have hown : Own wr S4 u9 (xs.filter (fun x => x != i)) := by
        have := J.out.1
        rw [List.take_of_length_le (by rw [HX4.out.1]; exact Nat.le_refl _), HS4.out] at this
        exact this
      have G5 := HG4.out.below J.out.2 (Nat.le_refl _)
      have B5 : Below S w wr := HB4.out.trans (J.out.2.mono (by have := HB4.out.size; have := HS.out; omega))
      have hR5 := hide (remove_calls wr O S R k k k (mkIds zs k) xs G5 (by omega) i hin (fun x y => mkIds_inj zs k hn x y) HX4.out.2.1 HX4.out.2.2.1)
      have hlt : O < S4 ∧ R < S4 := by rw [← HS4.out]; exact ⟨HG4.out.hO.lt, HG4.out.hR.lt⟩
      have hwS : w.heap.size ≤ wr.heap.size := B5.size
      have HH : Hid (Own wr S4 u9 (xs.filter (fun x => x != i)) ∧ Below S w wr ∧ O < S4 ∧ R < S4) := ⟨hown, B5, hlt⟩
      clear hown G5 B5 hlt HG4 HB4 J HCur hg
      go_wp2_with fail
      refine hR5.out.mono ?_
      rintro e w6 ⟨rfl, G6, K6⟩
      have hl6 : (xs.filter (fun x => x != i)).length ≤ k := by have := List.length_filter_le (fun x => x != i) xs; have := HX4.out.1; omega
      have own6 : Own w6 S4 u9 (xs.filter (fun x => x != i)) := HH.out.1.kept fun b hb hb' => K6.block b hb' (by have := HH.out.2.2.1; omega) (by have := HH.out.2.2.2; omega)
      have B6 : Below S w w6 := HH.out.2.1.trans (K6.below (by have := HS.out; omega) HX4.out.2.2.2.1 HX4.out.2.2.2.2)
      have hE6 := hide (equal_calls w6 R k S4 u9 _ G6.hR own6 (by omega))
      have pw6 : (xs.filter (fun x => x != i)).Pairwise (fun a b => val (mkIds zs k) a ≤ val (mkIds zs k) b) := HX4.out.2.2.1.filter _
      have nd6 : (xs.filter (fun x => x != i)).Nodup := HX4.out.2.1.filter _
      have hff : (xs.filter (fun x => x != i)).filter (fun x => x != i) = xs.filter (fun x => x != i) := by rw [List.filter_filter]; simp
      generalize xs.filter (fun x => x != i) = ys at *
      have c6 := G6.hO.cell 1
      simp at c6
      have HH6 : Hid (Own w6 S4 u9 ys ∧ Below S w w6 ∧ O < S4 ∧ R < S4 ∧ Ring w6 O S R k k k (mkIds zs k) ys ∧ ys.Pairwise (fun a b => val (mkIds zs k) a ≤ val (mkIds zs k) b) ∧ ys.Nodup ∧ ys.filter (fun x => x != i) = ys) := ⟨own6, B6, HH.out.2.2.1, HH.out.2.2.2, G6, pw6, nd6, hff⟩
      clear own6 B6 G6 pw6 nd6 hff K6 HH hR5
      go_wp2_with fail
      refine hE6.out.mono ?_
      rintro e w7 ⟨rfl, q, rfl⟩
      have g67 : Gr w6 (w6.drewN q) := (Gr.refl w6).drewN q
      have hR7 := hide (remove_calls (w6.drewN q) O S R k k k (mkIds zs k) ys (HH6.out.2.2.2.2.1.gr g67) (by omega) i hin (fun x y => mkIds_inj zs k hn x y) HH6.out.2.2.2.2.2.2.1 HH6.out.2.2.2.2.2.1)
      rw [HH6.out.2.2.2.2.2.2.2] at hR7
      have HH7 : Hid (Own (w6.drewN q) S4 u9 ys ∧ Below S w (w6.drewN q) ∧ O < S4 ∧ R < S4) := ⟨HH6.out.1, HH6.out.2.1.trans (g67.below S (by have := HH6.out.2.1.size; have := HS.out; omega)), HH6.out.2.2.1, HH6.out.2.2.2.1⟩
      clear HH6 hE6 c6 g67
      generalize w6.drewN q = w7 at *
      clear w6 q
      go_wp2_with fail
      refine hR7.out.mono ?_
      rintro e w8 ⟨rfl, G8, K8⟩
      have own8 : Own w8 S4 u9 ys := HH7.out.1.kept fun b hb hb' => K8.block b hb' (by have := HH7.out.2.2.1; omega) (by have := HH7.out.2.2.2; omega)
      have B8 : Below S w w8 := HH7.out.2.1.trans (K8.below (by have := HS.out; have := HH7.out.2.1.size; omega) HX4.out.2.2.2.1 HX4.out.2.2.2.2)
      have hE8 := hide (equal_calls w8 R k S4 u9 _ G8.hR own8 (by omega))
      have c8 := G8.hO.cell 1
      simp at c8
      have HB8 := hide B8
      clear G8 K8 own8 B8 HH7 hR7
      go_wp2_with fail
      refine hE8.out.mono ?_
      rintro e w9 ⟨rfl, q, rfl⟩
      have HB9 : Hid (Below S w (w8.drewN q)) := HB8.out.trans (((Gr.refl w8).drewN q).below S (by have := HB8.out.size; have := HS.out; omega))
      clear hE8 c8 HB8
      go_wp2
      go_ret
      exact ⟨rfl, by rw [HS.out]; exact HB9.out⟩
end Go.Proofs.Ybulkapqu
