import Derived.Test.YbulkapquRows
import Derived.Test.YbulkapquC36
import Derived.WalkKit
import Derived.ProofKit
import Derived.OpenShut
import Derived.ShutString
import Derived.ChangeOld
import Derived.Below
import Derived.Deep.Slices
namespace Go.Proofs.Ybulkapqu.lawS2061CSpread
open Go.ChangeShapes Go.WideShapes Go.ChangeAt Go.RowKit
open Go.ChangeMaps (open_string shut_string)
set_option linter.unusedVariables false

theorem own : ownKnob Yba.prog.godebug = none := by kernel_rfl
theorem laidOut : laidOutB Yba.prog = true := by kernel_rfl
theorem cells49 : Yba.prog.cellsOf 49 = 2 := by kernel_rfl
theorem cells4 : Yba.prog.cellsOf 4 = 1 := by kernel_rfl

/-- A slice of bytes that came in: nil, or a row of cells. -/
def IsRow (k : IntKind) (w : World) (a : Option Addr) (len cap : Nat) (zs : List Int) : Prop :=
  (a = none ∧ len = 0 ∧ cap = 0 ∧ zs = []) ∨
  ∃ x, a = some x ∧ len ≤ cap ∧ cap ≤ maxLen ∧ zs.length = cap ∧ (∀ i, i < zs.length → w.cell? (x.add i) = some (.int k (zs.getD i 0))) ∧ ∀ n ∈ zs, (Lit.int k n).wf = true
theorem bytes_of {w : World} {a : Option Addr} {len cap : Nat} {zs : List Int} (h : IsRow .u8 w a len cap zs) : BytesAt w a len := by
  intro i hi
  rcases h with ⟨rfl, rfl, rfl, rfl⟩ | ⟨x, rfl, hl, hm, hz, hc, hwz⟩
  · omega
  · have hil : i < zs.length := by omega
    have hmem : zs.getD i 0 ∈ zs := by rw [List.getD_eq_getElem?_getD, List.getElem?_eq_getElem hil]; exact List.getElem_mem hil
    have hw := bounds_u8 (hwz _ hmem)
    have hcell := hc i hil
    obtain ⟨b, o, spot⟩ := x
    have hspot : spot = none := by
      have h0 := hc 0 (by omega)
      have h00 : w.cell? ⟨b, o, spot⟩ = some (.int .u8 (zs.getD 0 0)) := by simpa [Addr.add] using h0
      simpa using World.cell?_spot h00
    subst hspot
    refine ⟨b, o, (zs.getD i 0).toNat, rfl, by omega, ?_⟩
    rw [Addr.add_mid] at hcell
    rw [hcell, Int.toNat_of_nonneg hw.1]
/-- Two truth values opened. -/
theorem open_two {H : Type} {enc : TypeId × Value → H} {w : World} {base : Nat} {sp : Nat → Bool} {held : Bool} {n : Nat} {cs : List Value} {x : DataW H × List MemPlace}
    (h : DataW.trod enc Yba.prog w base sp held n 49 cs = some x) : ∃ f : Nat → Bool, cs = (twoV f).toList := by
  obtain ⟨xs, m, _, _, hl, hlen, hf⟩ := DataW.trod_array Yba.underlying49 h
  rw [cells49] at hl
  rw [cells4] at hf
  have each : ∀ i, i < 2 → ∃ b : Bool, cs[i]? = some (.bool b) := fun i hi => by
    have h1 := hf i hi
    rw [List.getElem?_eq_getElem (by omega)] at h1
    obtain ⟨b, e, _⟩ := DataW.trod_bool Yba.underlying4 h1
    refine ⟨b, ?_⟩
    have e2 := congrArg (fun l : List Value => l[0]?) e
    simpa only [Nat.mul_one, List.getElem?_take_of_lt (show 0 < 1 by omega), List.getElem?_drop, Nat.add_zero, List.getElem?_cons_zero] using e2
  obtain ⟨b0, h0⟩ := each 0 (by omega)
  obtain ⟨b1, h1⟩ := each 1 (by omega)
  refine ⟨fun i => if i = 0 then b0 else b1, List.ext_getElem? fun i => ?_⟩
  by_cases e0 : i = 0
  · subst e0; rw [h0]; simp [twoV]
  · by_cases e1 : i = 1
    · subst e1; rw [h1]; simp [twoV]
    · rw [List.getElem?_eq_none (by omega), List.getElem?_eq_none (by simp [twoV]; omega)]

set_option maxHeartbeats 4000000 in
set_option maxRecDepth 1000000 in
theorem spread_big (w : World) (n0 n1 m9 m10 stamp : Int) (dead : Bool) (rel hand wat : Nat → Bool) (ax af : Option Addr) (lx cx lf cf : Nat) (h : 1024 < lx ∨ 1024 < lf) :
    Calls Yba.prog 7 #[.int .u8 n0, .int .u8 n1, .slice ax lx cx, .slice af lf cf, .bool dead, .int .u64 stamp, .agg (twoV rel), .agg (twoV hand), .agg (twoV wat), .int .u8 m9, .int .u8 m10] w fun e w' => e = .returned (.bool true) ∧ Below w.heap.size w w' := by
  have g : Hid (Below w.heap.size w (((w.alloc (.cells (twoV rel) 49)).alloc (.cells (twoV hand) 49)).alloc (.cells (twoV wat) 49))) := ((((Gr.refl w).alloc _).alloc _).alloc _).below _ (Nat.le_refl _)
  by_cases hx : 1024 < lx
  · have e1 : (lx : Int) > 1024 := by omega
    have e1' : decide ((lx : Int) > 1024) = true := decide_eq_true e1
    go_enter Yba.func7, Yba.ntmps7
    go_wp2
    go_ret
    exact ⟨rfl, g.out⟩
  · have e1 : ¬ (lx : Int) > 1024 := by omega
    have e1' : decide ((lx : Int) > 1024) = false := decide_eq_false e1
    have e2 : (lf : Int) > 1024 := by omega
    have e2' : decide ((lf : Int) > 1024) = true := decide_eq_true e2
    go_enter Yba.func7, Yba.ntmps7
    go_wp2
    go_ret
    exact ⟨rfl, g.out⟩
theorem walk (w : World) (n0 n1 m9 m10 stamp : Int) (dead : Bool) (rel hand wat : Nat → Bool) (ax af : Option Addr) (lx cx lf cf : Nat) (h0 : (Lit.int .u8 n0).wf = true) (h1 : (Lit.int .u8 n1).wf = true) (h9 : (Lit.int .u8 m9).wf = true) (h10 : (Lit.int .u8 m10).wf = true) (hX : BytesAt w ax lx) (hF : BytesAt w af lf) :
    Calls Yba.prog 7 #[.int .u8 n0, .int .u8 n1, .slice ax lx cx, .slice af lf cf, .bool dead, .int .u64 stamp, .agg (twoV rel), .agg (twoV hand), .agg (twoV wat), .int .u8 m9, .int .u8 m10] w fun e w' => e = .returned (.bool true) ∧ Below w.heap.size w w' := by
  by_cases hx : lx ≤ 1024
  · by_cases hf : lf ≤ 1024
    · have r0 := bounds_u8 h0
      have r1 := bounds_u8 h1
      have r9 := bounds_u8 h9
      have r10 := bounds_u8 h10
      have := spread_main w n0.toNat n1.toNat m9.toNat m10.toNat stamp dead rel hand wat ax af lx cx lf cf hx hf (by omega) (by omega) hX hF
      rwa [Int.toNat_of_nonneg r0.1, Int.toNat_of_nonneg r1.1, Int.toNat_of_nonneg r9.1, Int.toNat_of_nonneg r10.1] at this
    · exact spread_big w n0 n1 m9 m10 stamp dead rel hand wat ax af lx cx lf cf (.inr (by omega))
  · exact spread_big w n0 n1 m9 m10 stamp dead rel hand wat ax af lx cx lf cf (.inl (by omega))

/-! ### THE ROW's STEP -/
set_option maxRecDepth 100000 in
theorem lifted (os : Os) (started : os.Started) (H : Type) (enc : TypeId × Value → H) :
    ReturnsInHanded {} Yba.checked os 7 .any (Rows.lawS2061CSpreadSpec.pre6 enc Yba.prog Yba.f7 Rows.lawS2061CSpreadRow.domain false) (Rows.lawS2061CSpreadSpec.post enc Yba.prog Yba.f7 false true false false) := by
  refine returnsInHanded_of_change (C := Yba.checked) own started (by kernel_rfl) Yba.func7
    (ChangeSpec.witness6 (enc := enc) (C := Yba.checked) false ⟨#[], #[.int .u8 0, .int .u8 0, .slice none 0 0, .slice none 0 0, .bool false, .int .u64 0, .agg #[.bool false, .bool false], .agg #[.bool false, .bool false], .agg #[.bool false, .bool false], .int .u8 0, .int .u8 0], []⟩ 8 (by kernel_rfl) (by kernel_rfl) (by kernel_rfl) (by kernel_rfl)) ?_
  intro W base args ds gs before hval0 hW hcnd _
  have hval : ∀ (j : Nat) t v, Yba.f7.params[j]? = some t → args[j]? = some v → Value.okWide Yba.prog W .any base t v := hval0
  have hW' := hW
  obtain ⟨p, q, hA0, hV, rfl, hfz, hnd⟩ := hW
  have hA : DataW.TrodAll enc Yba.prog W 0 (fun _ => true) true Yba.f7.params.toList args.toList ds p := hA0
  rw [Yba.params7] at hA hval
  obtain ⟨v0, vs0, d0, ds0, p0, q0, hargs, rfl, rfl, h0, r0⟩ := trodAll_cons hA
  obtain ⟨v1, vs1, d1, ds1, p1, q1, rfl, rfl, rfl, h1, r1⟩ := trodAll_cons r0
  obtain ⟨v2, vs2, d2, ds2, p2, q2, rfl, rfl, rfl, h2, r2⟩ := trodAll_cons r1
  obtain ⟨v3, vs3, d3, ds3, p3, q3, rfl, rfl, rfl, h3, r3⟩ := trodAll_cons r2
  obtain ⟨v4, vs4, d4, ds4, p4, q4, rfl, rfl, rfl, h4, r4⟩ := trodAll_cons r3
  obtain ⟨v5, vs5, d5, ds5, p5, q5, rfl, rfl, rfl, h5, r5⟩ := trodAll_cons r4
  obtain ⟨v6, vs6, d6, ds6, p6, q6, rfl, rfl, rfl, h6, r6⟩ := trodAll_cons r5
  obtain ⟨v7, vs7, d7, ds7, p7, q7, rfl, rfl, rfl, h7, r7⟩ := trodAll_cons r6
  obtain ⟨v8, vs8, d8, ds8, p8, q8, rfl, rfl, rfl, h8, r8⟩ := trodAll_cons r7
  obtain ⟨v9, vs9, d9, ds9, p9, q9, rfl, rfl, rfl, h9, r9⟩ := trodAll_cons r8
  obtain ⟨v10, vs10, d10, ds10, p10, q10, rfl, rfl, rfl, h10, r10⟩ := trodAll_cons r9
  obtain ⟨rfl, rfl, rfl⟩ := trodAll_nil r10
  obtain rfl : args = #[v0, v1, v2, v3, v4, v5, v6, v7, v8, v9, v10] := by cases args; simp_all
  obtain ⟨rfl, rfl⟩ := trodVars_none hV
  have k0 := h0
  have lt0 : ∀ x ∈ p0, x.block < W.heap.size := by obtain ⟨m, hm⟩ := k0; exact DataW.trod_lt m _ _ _ hm
  obtain ⟨n0, rfl, _, _, wf0⟩ := open_int Yba.underlying5 (hval 0 5 v0 rfl rfl) h0
  have k1 := h1
  have lt1 : ∀ x ∈ p1, x.block < W.heap.size := by obtain ⟨m, hm⟩ := k1; exact DataW.trod_lt m _ _ _ hm
  obtain ⟨n1, rfl, _, _, wf1⟩ := open_int Yba.underlying5 (hval 1 5 v1 rfl rfl) h1
  have k2 := h2
  have lt2 : ∀ x ∈ p2, x.block < W.heap.size := by obtain ⟨m, hm⟩ := k2; exact DataW.trod_lt m _ _ _ hm
  obtain ⟨a2, len2, cap2, rfl⟩ := okWide_slice Yba.underlying22 (hval 2 22 v2 rfl rfl)
  obtain ⟨z2, w2⟩ : ∃ zs, IsRow .u8 W a2 len2 cap2 zs := by
    obtain ⟨fuel, hf⟩ := h2
    rcases open_ints Yba.underlying22 Yba.underlying5 (by kernel_rfl) hf with ⟨hcs, _⟩ | ⟨x, l, c, zs, hcs, _, hl, hm, hz, _, hcell, hwz⟩
    · simp [Value.cells] at hcs
      obtain ⟨rfl, rfl, rfl⟩ := hcs
      exact ⟨[], .inl ⟨rfl, rfl, rfl, rfl⟩⟩
    · simp [Value.cells] at hcs
      obtain ⟨rfl, rfl, rfl⟩ := hcs
      exact ⟨zs, .inr ⟨_, rfl, hl, hm, by simpa using hz, hcell, hwz⟩⟩
  have k3 := h3
  have lt3 : ∀ x ∈ p3, x.block < W.heap.size := by obtain ⟨m, hm⟩ := k3; exact DataW.trod_lt m _ _ _ hm
  obtain ⟨a3, len3, cap3, rfl⟩ := okWide_slice Yba.underlying22 (hval 3 22 v3 rfl rfl)
  obtain ⟨z3, w3⟩ : ∃ zs, IsRow .u8 W a3 len3 cap3 zs := by
    obtain ⟨fuel, hf⟩ := h3
    rcases open_ints Yba.underlying22 Yba.underlying5 (by kernel_rfl) hf with ⟨hcs, _⟩ | ⟨x, l, c, zs, hcs, _, hl, hm, hz, _, hcell, hwz⟩
    · simp [Value.cells] at hcs
      obtain ⟨rfl, rfl, rfl⟩ := hcs
      exact ⟨[], .inl ⟨rfl, rfl, rfl, rfl⟩⟩
    · simp [Value.cells] at hcs
      obtain ⟨rfl, rfl, rfl⟩ := hcs
      exact ⟨zs, .inr ⟨_, rfl, hl, hm, by simpa using hz, hcell, hwz⟩⟩
  have k4 := h4
  have lt4 : ∀ x ∈ p4, x.block < W.heap.size := by obtain ⟨m, hm⟩ := k4; exact DataW.trod_lt m _ _ _ hm
  obtain ⟨n4, rfl, _, _⟩ := open_bool Yba.underlying4 (hval 4 4 v4 rfl rfl) h4
  have k5 := h5
  have lt5 : ∀ x ∈ p5, x.block < W.heap.size := by obtain ⟨m, hm⟩ := k5; exact DataW.trod_lt m _ _ _ hm
  obtain ⟨n5, rfl, _, _, wf5⟩ := open_int Yba.underlying48 (hval 5 48 v5 rfl rfl) h5
  have k6 := h6
  have lt6 : ∀ x ∈ p6, x.block < W.heap.size := by obtain ⟨m, hm⟩ := k6; exact DataW.trod_lt m _ _ _ hm
  have o6 := hval 6 49 v6 rfl rfl
  simp only [Value.okWide, Yba.underlying49] at o6
  obtain ⟨cs6, rfl, _, _⟩ := o6
  obtain ⟨f6, rfl⟩ : ∃ f : Nat → Bool, cs6 = twoV f := by
    obtain ⟨fuel, hf⟩ := h6
    obtain ⟨f, e⟩ := open_two hf
    refine ⟨f, ?_⟩
    have e' : cs6.toList = (twoV f).toList := e
    exact Array.toList_inj.1 e'
  have k7 := h7
  have lt7 : ∀ x ∈ p7, x.block < W.heap.size := by obtain ⟨m, hm⟩ := k7; exact DataW.trod_lt m _ _ _ hm
  have o7 := hval 7 49 v7 rfl rfl
  simp only [Value.okWide, Yba.underlying49] at o7
  obtain ⟨cs7, rfl, _, _⟩ := o7
  obtain ⟨f7, rfl⟩ : ∃ f : Nat → Bool, cs7 = twoV f := by
    obtain ⟨fuel, hf⟩ := h7
    obtain ⟨f, e⟩ := open_two hf
    refine ⟨f, ?_⟩
    have e' : cs7.toList = (twoV f).toList := e
    exact Array.toList_inj.1 e'
  have k8 := h8
  have lt8 : ∀ x ∈ p8, x.block < W.heap.size := by obtain ⟨m, hm⟩ := k8; exact DataW.trod_lt m _ _ _ hm
  have o8 := hval 8 49 v8 rfl rfl
  simp only [Value.okWide, Yba.underlying49] at o8
  obtain ⟨cs8, rfl, _, _⟩ := o8
  obtain ⟨f8, rfl⟩ : ∃ f : Nat → Bool, cs8 = twoV f := by
    obtain ⟨fuel, hf⟩ := h8
    obtain ⟨f, e⟩ := open_two hf
    refine ⟨f, ?_⟩
    have e' : cs8.toList = (twoV f).toList := e
    exact Array.toList_inj.1 e'
  have k9 := h9
  have lt9 : ∀ x ∈ p9, x.block < W.heap.size := by obtain ⟨m, hm⟩ := k9; exact DataW.trod_lt m _ _ _ hm
  obtain ⟨n9, rfl, _, _, wf9⟩ := open_int Yba.underlying5 (hval 9 5 v9 rfl rfl) h9
  have k10 := h10
  have lt10 : ∀ x ∈ p10, x.block < W.heap.size := by obtain ⟨m, hm⟩ := k10; exact DataW.trod_lt m _ _ _ hm
  obtain ⟨n10, rfl, _, _, wf10⟩ := open_int Yba.underlying5 (hval 10 5 v10 rfl rfl) h10
  clear hA0 hval0
  refine (walk W n0 n1 n9 n10 n5 n4 f6 f7 f8 a2 a3 len2 cap2 len3 cap3 wf0 wf1 wf9 wf10 (bytes_of w2) (bytes_of w3)).mono fun e W' ⟨he, bel⟩ => ?_
  subst he
  exact ⟨_, rfl, _, _, _, [], _, [], hW', trodAll_mk1 (shut_bool Yba.underlying4 _), (trodAll_cons_mk (Below.trod laidOut (by kernel_rfl) (of_decide_eq_true (by kernel_rfl)) k0 bel lt0) (trodAll_cons_mk (Below.trod laidOut (by kernel_rfl) (of_decide_eq_true (by kernel_rfl)) k1 bel lt1) (trodAll_cons_mk (Below.trod laidOut (by kernel_rfl) (of_decide_eq_true (by kernel_rfl)) k2 bel lt2) (trodAll_cons_mk (Below.trod laidOut (by kernel_rfl) (of_decide_eq_true (by kernel_rfl)) k3 bel lt3) (trodAll_cons_mk (Below.trod laidOut (by kernel_rfl) (of_decide_eq_true (by kernel_rfl)) k4 bel lt4) (trodAll_cons_mk (Below.trod laidOut (by kernel_rfl) (of_decide_eq_true (by kernel_rfl)) k5 bel lt5) (trodAll_cons_mk (Below.trod laidOut (by kernel_rfl) (of_decide_eq_true (by kernel_rfl)) k6 bel lt6) (trodAll_cons_mk (Below.trod laidOut (by kernel_rfl) (of_decide_eq_true (by kernel_rfl)) k7 bel lt7) (trodAll_cons_mk (Below.trod laidOut (by kernel_rfl) (of_decide_eq_true (by kernel_rfl)) k8 bel lt8) (trodAll_cons_mk (Below.trod laidOut (by kernel_rfl) (of_decide_eq_true (by kernel_rfl)) k9 bel lt9) (trodAll_cons_mk (Below.trod laidOut (by kernel_rfl) (of_decide_eq_true (by kernel_rfl)) k10 bel lt10) trodAll_mk0))))))))))), rfl, bel.frame _, fun h => by cases h⟩

theorem over : Rows.lawS2061CSpreadRow.holds Yba.pinned (OpenSpec.ofChange Rows.lawS2061CSpreadSpec) :=
  OpenClaim.holds_of_wide 7 Yba.f7 rfl rfl rfl rfl rfl rfl rfl ⟨rfl, rfl, rfl, rfl, rfl⟩ rfl rfl rfl rfl rfl (by kernel_rfl) Yba.func7 (by kernel_rfl)
    (of_decide_eq_true (by kernel_rfl)) (by unfold Func.isWrapper; first | (rw [if_pos (by decide +kernel)]; kernel_rfl) | (rw [if_neg (by decide +kernel)]; exact ⟨rfl, rfl⟩))
    (fun os started H enc _ => lifted os started H enc)

/-- ████ THE STATEMENT ████ -/
theorem proved : Rows.LawS2061CSpreadSaid := over
end Go.Proofs.Ybulkapqu.lawS2061CSpread
