import Derived.Test.YbulkapquC2
namespace Go.Proofs.Ybulkapqu
open Go.RowKit Go.Sort

set_option maxHeartbeats 4000000 in
set_option maxRecDepth 1000000 in
theorem together_calls (w : World) (x f t : Int) (la lb : List UInt8) (hla : la.length = 20) (hlb : lb.length = 20) (n : Nat) (hx : x = (n : Int)) (hn : n ≤ 160) :
    Calls Yba.prog 71 #[.agg (layV x f t), .agg (idV la).toArray, .agg (idV lb).toArray] w fun e w' => e = .returned (.bool (decide (prefY la lb n = 0))) ∧ Gr w w' := by
  subst hx
  obtain ⟨S, hS⟩ : ∃ S, S = w.heap.size := ⟨_, rfl⟩
  obtain ⟨w1, hw1⟩ : ∃ w1, w1 = ((w.alloc (.cells (layV n f t) 51)).alloc (.cells (idV la).toArray 37)).alloc (.cells (idV lb).toArray 37) := ⟨_, rfl⟩
  have s1 : (w.alloc (.cells (layV n f t) 51)).heap.size = S + 1 := by rw [World.size_alloc, hS]
  have s2 : ((w.alloc (.cells (layV n f t) 51)).alloc (.cells (idV la).toArray 37)).heap.size = S + 1 + 1 := by rw [World.size_alloc, s1]
  have aL : At w1 S (layV n f t) 51 := by rw [hw1, hS]; exact ((At.new w _ _).alloc _).alloc _
  have aA : At w1 (S + 1) (idV la).toArray 37 := by
    have := At.new (w.alloc (.cells (layV n f t) 51)) (idV la).toArray 37
    rw [s1] at this
    rw [hw1]; exact this.alloc _
  have aB : At w1 (S + 1 + 1) (idV lb).toArray 37 := by
    have := At.new ((w.alloc (.cells (layV n f t) 51)).alloc (.cells (idV la).toArray 37)) (idV lb).toArray 37
    rw [s2] at this
    rw [hw1]; exact this
  have g1 : Gr w w1 := by rw [hw1]; exact (((Gr.refl w).alloc _).alloc _).alloc _
  have c0 : w1.cell? ⟨S, 0, none⟩ = some (.int .i64 (n : Int)) := aL.cell 0
  have LA := hide (idload aA.all hla)
  have LB := hide (idload aB.all hlb)
  have hp := prefix_calls w1 la lb hla hlb n hn
  obtain ⟨y, hy⟩ : ∃ y, prefY la lb n = y := ⟨_, rfl⟩
  rw [hy] at hp ⊢
  have HP := hide hp
  have HW := hide hw1
  have HS := hide hS
  have HG := hide g1
  have hbe : (y == 0) = decide (y = 0) := rfl
  have HBE := hide hbe
  clear hw1 hS aL aA aB g1 hp hy s1 s2 hbe
  generalize layV n f t = L at *
  go_enter Yba.func71, Yba.ntmps71
  go_upto_region 1 with fail
  rw [← HW.out, ← HS.out]
  go_wp2_with (first | refine wpList_load_run rfl 37 _ rfl (S + 1) 0 rfl _ LA.out ?_ | refine wpList_load_run rfl 37 _ rfl (S + 1 + 1) 0 rfl _ LB.out ?_)
  refine HP.out.mono ?_
  rintro e w2 ⟨rfl, g2⟩
  have HG2 := hide (HG.out.trans g2)
  clear HP HG HW g2 LA LB c0
  go_wp2
  go_ret
  exact ⟨rfl, HG2.out⟩

/-! ### rotate -/
def byteAt (l : List UInt8) (j : Nat) : Int := ((l.getD j 0).toNat : Int)
theorem byteAt_range (l : List UInt8) (j : Nat) : 0 ≤ byteAt l j ∧ byteAt l j ≤ 255 := by
  unfold byteAt
  have := (l.getD j 0).toNat_lt
  omega
structure RSt (w : World) (l : List UInt8) (C : Array Value) (W : World) : Prop where
  gr : Gr w W
  hA : At W w.heap.size (idV l).toArray 37
  hR : At W (w.heap.size + 1) zeroA 37
  hB : At W (w.heap.size + 1 + 1) C 37
theorem RSt.step {w : World} {l : List UInt8} {C : Array Value} {W W' : World} (h : RSt w l C W) (g : Gr W W') : RSt w l C W' := ⟨h.gr.trans g, h.hA.gr g, h.hR.gr g, h.hB.gr g⟩
theorem rSt_start (w : World) (l : List UInt8) : RSt w l zeroA (((w.alloc (.cells (idV l).toArray 37)).alloc (.cells zeroA 37)).alloc (.cells zeroA 37)) := by
  refine ⟨(((Gr.refl w).alloc _).alloc _).alloc _, ((At.new w _ _).alloc _).alloc _, ?_, ?_⟩
  · have := At.new (w.alloc (.cells (idV l).toArray 37)) zeroA 37
    rw [World.size_alloc] at this
    exact this.alloc _
  · have := At.new ((w.alloc (.cells (idV l).toArray 37)).alloc (.cells zeroA 37)) zeroA 37
    rw [World.size_alloc, World.size_alloc] at this
    exact this

def rotB (l : List UInt8) (q r i : Nat) : Int := bits BinOp.or IntKind.u8 (byteAt l ((i + q) % 20) * 2 ^ r % 256) (byteAt l ((i + q + 1) % 20) / 2 ^ (8 - r))
theorem rotB_range (l : List UInt8) (q r i : Nat) : 0 ≤ rotB l q r i ∧ rotB l q r i ≤ 255 := u8_range (wf_bits _ _ _ _)
def rotP (l : List UInt8) (q r k : Nat) : List UInt8 := (List.range 20).map fun j => if j < k then UInt8.ofNat (rotB l q r j).toNat else 0
theorem length_rotP (l : List UInt8) (q r k : Nat) : (rotP l q r k).length = 20 := by simp [rotP]
theorem rotP_zero (l : List UInt8) (q r : Nat) : (idV (rotP l q r 0)).toArray = zeroA := by
  have : rotP l q r 0 = List.replicate 20 0 := by simp [rotP]; decide
  rw [this, zeroA]
theorem rotP_step (l : List UInt8) (q r k : Nat) : (idV (rotP l q r k)).toArray.setIfInBounds k (.int .u8 (rotB l q r k)) = (idV (rotP l q r (k + 1))).toArray := by
  have e : rotP l q r (k + 1) = (rotP l q r k).set k (UInt8.ofNat (rotB l q r k).toNat) := by
    apply List.ext_getElem
    · simp [rotP]
    · intro i h1 h2
      rw [List.getElem_set]
      by_cases e : k = i
      · subst e
        simp [rotP]
      · simp only [if_neg e, rotP, List.getElem_map, List.getElem_range]
        have : (i < k) ↔ (i < k + 1) := by omega
        simp [this]
  rw [e, List.setIfInBounds_toArray]
  congr 1
  rw [idV, idV, List.map_set, byte_back _ (rotB_range l q r k).1 (rotB_range l q r k).2]
theorem RSt.put {w : World} {l : List UInt8} {C : Array Value} {W : World} (h : RSt w l C W) (k : Nat) (v : Value) : RSt w l (C.setIfInBounds k v) (W.setCell ⟨w.heap.size + 1 + 1, k, none⟩ v) :=
  ⟨h.gr.setCell _ _ (by simp; omega), h.hA.setOther _ _ (by simp; omega), h.hR.setOther _ _ (by simp), h.hB.set k v⟩

set_option maxHeartbeats 4000000 in
set_option maxRecDepth 1000000 in
theorem rotate_bits (w : World) (l : List UInt8) (hl : l.length = 20) (n : Nat) (hn : n ≤ 160) (hr : ¬ n % 8 = 0) :
    Calls Yba.prog 38 #[.agg (idV l).toArray, .int .i64 (n : Int)] w fun e w' => e = .returned (.agg (idV (rotP l (n / 8) (n % 8) 20)).toArray) ∧ Gr w w' := by
  have mixed : Yba.prog.follows .mixedOrders = true := by kernel_rfl
  obtain ⟨S, hS⟩ : ∃ S, S = w.heap.size := ⟨_, rfl⟩
  obtain ⟨w1, hw1⟩ : ∃ w1, w1 = ((w.alloc (.cells (idV l).toArray 37)).alloc (.cells zeroA 37)).alloc (.cells zeroA 37) := ⟨_, rfl⟩
  have P1 : RSt w l zeroA w1 := hw1 ▸ rSt_start w l
  obtain ⟨q, hq⟩ : ∃ q, q = n / 8 := ⟨_, rfl⟩
  obtain ⟨r, hrr⟩ : ∃ r, r = n % 8 := ⟨_, rfl⟩
  rw [← hq, ← hrr]
  have hq19 : q < 20 := by omega
  have hr8 : r < 8 := by omega
  have hr0 : 0 < r := by omega
  have HQN : Hid ((n : Int) / 8 = (q : Int)) := by show _ = _; rw [hq]; omega
  have HRN : Hid ((n : Int) % 8 = (r : Int)) := by show _ = _; rw [hrr]; omega
  have hrz : ¬ ((r : Int) = 0) := by omega
  have hrz' : ((r : Int) == 0) = false := by simpa using hrz
  rw [← rotP_zero l q r] at P1
  have J0 : Aside (RSt w l (idV (rotP l q r 0)).toArray w1) := P1
  have HW := hide hw1
  have HS := hide hS
  have HZ := hide zeroA_eq
  have hn' : (n : Int) ≤ 160 := by omega
  clear hw1 hS P1 hq hrr hr
  go_enter Yba.func38, Yba.ntmps38
  go_upto_region 2 with fail
  rw [← HZ.out, ← HW.out, ← HS.out]
  go_upto_region 3 with fail
  rw [HQN.out, HRN.out]
  go_wp2
  go_loopg [29, 8, 9, 10] 20 (fun gg s29 s8 s9 s10 wr => ∃ i : Nat, s29 = .int .i64 i ∧ i ≤ 20 ∧ 20 - i ≤ gg ∧ Aside (RSt w l (idV (rotP l q r i)).toArray wr))
  case atStart => exact ⟨0, rfl, Nat.zero_le _, by omega, J0⟩
  case round =>
    clear J0
    obtain ⟨i, rfl, hi20, hg, J⟩ := hrel
    by_cases hi : i < 20
    · have hiz : (i : Int) < 20 := by omega
      obtain ⟨j1, hj1⟩ : ∃ j, j = (i + q) % 20 := ⟨_, rfl⟩
      obtain ⟨j2, hj2⟩ : ∃ j, j = (i + q + 1) % 20 := ⟨_, rfl⟩
      have e1 : ((i : Int) + (q : Int)).tmod 20 = (j1 : Int) := by rw [hj1, Int.tmod_eq_emod_of_nonneg (by omega)]; omega
      have e2 : ((i : Int) + (q : Int) + 1).tmod 20 = (j2 : Int) := by rw [hj2, Int.tmod_eq_emod_of_nonneg (by omega)]; omega
      have e3 : IntKind.i64.wrap ((i : Int) + (q : Int)) = (i : Int) + (q : Int) := by rw [IntKind.wrap_i64]; omega
      have e4 : IntKind.i64.wrap ((i : Int) + (q : Int) + 1) = (i : Int) + (q : Int) + 1 := by rw [IntKind.wrap_i64]; omega
      have hb3 : (0 : Int) ≤ (j1 : Int) := by omega
      have hb4 : (0 : Int) ≤ (j2 : Int) := by omega
      have hb1 : (j1 : Int) < 20 := by omega
      have hb2 : (j2 : Int) < 20 := by omega
      have hbb : rotB l q r i = bits BinOp.or IntKind.u8 (byteAt l j1 * 2 ^ r % 256) (byteAt l j2 / 2 ^ (8 - r)) := by rw [rotB, hj1, hj2]
      have ca : ∀ k os, (grow (wr.drewN k) os).cell? ⟨S, j1, none⟩ = some (.int .u8 (byteAt l j1)) := fun k os => by
        rw [HS.out]; exact byte_cell ((J.out.step ((Gr.refl wr).grown k os)).hA) j1 (by omega)
      have cb : ∀ k os, (grow (wr.drewN k) os).cell? ⟨S, j2, none⟩ = some (.int .u8 (byteAt l j2)) := fun k os => by
        rw [HS.out]; exact byte_cell ((J.out.step ((Gr.refl wr).grown k os)).hA) j2 (by omega)
      have r1 := byteAt_range l j1
      have r2 := byteAt_range l j2
      generalize byteAt l j1 = b1 at *
      generalize byteAt l j2 = b2 at *
      have HBB := hide hbb
      clear hj1 hj2 hbb
      go_wp2_with fail
      refine wp_region_quiet_grown (by assumption) (by kernel_rfl) ?_
      repeat (quiet_step (fail))
      refine wpQuiet_nil ?_
      intro _ hw'
      obtain ⟨⟨nq, osq⟩, hw''⟩ := hw'
      subst hw''
      have J3 := hide (J.out.step ((Gr.refl wr).grown nq osq))
      generalize grow (wr.drewN nq) osq = w3 at *
      clear ca cb J
      obtain ⟨c, c3⟩ : ∃ c, w3.cell? ⟨S + 1 + 1, i, none⟩ = some c := by
        rw [HS.out, J3.out.hB.cell]; exact ⟨_, Array.getElem?_eq_getElem (by simp [length_idV, length_rotP]; omega)⟩
      have f3 : w3.frozen? ⟨S + 1 + 1, i, none⟩ = false := by rw [HS.out]; exact J3.out.hB.frozen i
      have J4 : Aside (RSt w l (idV (rotP l q r (i + 1))).toArray (w3.setCell ⟨S + 1 + 1, i, none⟩ (.int .u8 (bits BinOp.or IntKind.u8 (b1 * 2 ^ r % 256) (b2 / 2 ^ (8 - r)))))) := by
        show RSt _ _ _ _
        rw [← HBB.out, ← rotP_step l q r i, HS.out]
        exact J3.out.put i _
      clear J3
      go_wp2
      go_roundg (20 - (i + 1))
      case measure => omega
      case rel => exact ⟨i + 1, by go_num, by omega, Nat.le_refl _, J4⟩
    · obtain rfl : i = 20 := by omega
      obtain ⟨lr, hlr⟩ : ∃ lr, rotP l q r 20 = lr := ⟨_, rfl⟩
      have hlr20 : lr.length = 20 := by rw [← hlr]; exact length_rotP _ _ _ _
      rw [hlr] at J
      have hst := J.out
      have L2 := hide (idload hst.hB.all hlr20)
      have T2 := hide (hst.hR.zthere hlr20)
      have F2 := hide (hst.hR.zput hlr20)
      have g3 : Hid (Gr w (wr.setCells (w.heap.size + 1) 0 (idV lr).toArray.toList)) := Gr.setCells (w.heap.size + 1) (by omega) _ _ _ hst.gr
      have HO := hide (id_one lr)
      have HN := hide (id_info hlr20)
      have HLR := hide hlr
      rw [← HS.out] at L2 T2 F2 g3
      clear hst J hlr
      go_wp2_with (first | refine wpList_load_run rfl 37 _ rfl (S + 1 + 1) 0 rfl _ L2.out ?_ | refine wpList_store_mid rfl 37 _ _ rfl (S + 1) 0 _ rfl rfl T2.out HN.out HO.out ?_)
      refine bodyPost_ret_by (results_cell_row (P := Yba.prog) (p := 4) (ty := 37) rfl _ _ (S + 1) 37 (idV lr).toArray _ _ rfl F2.out Yba.underlying37 rfl HN.out) rfl ?_
      exact ⟨by rw [HLR.out], g3.out⟩
end Go.Proofs.Ybulkapqu
