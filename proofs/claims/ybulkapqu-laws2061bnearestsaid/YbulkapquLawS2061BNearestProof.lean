import Derived.Test.YbulkapquRows
import Derived.Test.YbulkapquB13
import Derived.WalkKit
import Derived.ProofKit
import Derived.OpenShut
import Derived.ShutString
import Derived.ChangeOld
import Derived.Below
import Derived.Deep.Slices
namespace Go.Proofs.Ybulkapqu.lawS2061BNearest
open Go.ChangeShapes Go.WideShapes Go.ChangeAt Go.RowKit
open Go.ChangeMaps (open_string shut_string)
set_option linter.unusedVariables false

theorem own : ownKnob Yba.prog.godebug = none := by kernel_rfl
theorem laidOut : laidOutB Yba.prog = true := by kernel_rfl
theorem cells36 : Yba.prog.cellsOf 36 = 20 := by kernel_rfl
theorem cells5 : Yba.prog.cellsOf 5 = 1 := by kernel_rfl
theorem under36 : Yba.prog.underlying 36 = some (.array 20 5) := by kernel_rfl

/-- Twenty cells opened: twenty bytes. -/
theorem open_id {H : Type} {enc : TypeId × Value → H} {w : World} {base : Nat} {sp : Nat → Bool} {held : Bool} {n : Nat} {cs : List Value} {x : DataW H × List MemPlace}
    (h : DataW.trod enc Yba.prog w base sp held n 36 cs = some x) : ∃ l : List UInt8, l.length = 20 ∧ cs = idV l := by
  obtain ⟨xs, m, _, _, hl, hlen, hf⟩ := DataW.trod_array under36 h
  rw [cells36] at hl
  rw [cells5] at hf
  have each : ∀ i, i < 20 → ∃ b : UInt8, cs[i]? = some (.int .u8 (b.toNat : Int)) := fun i hi => by
    have h1 := hf i hi
    rw [List.getElem?_eq_getElem (by omega)] at h1
    obtain ⟨z, e, _, wf⟩ := DataW.trod_int Yba.underlying5 h1
    have hz : 0 ≤ z ∧ z ≤ 255 := by
      simp only [Lit.wf, Bool.and_eq_true, decide_eq_true_eq] at wf
      exact wf
    refine ⟨UInt8.ofNat z.toNat, ?_⟩
    have e2 := congrArg (fun l : List Value => l[0]?) e
    simp only [Nat.mul_one, List.getElem?_take_of_lt (show 0 < 1 by omega), List.getElem?_drop, Nat.add_zero, List.getElem?_cons_zero] at e2
    rw [e2, UInt8.toNat_ofNat', show z.toNat % 2 ^ 8 = z.toNat from Nat.mod_eq_of_lt (by omega), Int.toNat_of_nonneg hz.1]
  have ex : ∃ f : Nat → UInt8, ∀ i, i < 20 → cs[i]? = some (.int .u8 ((f i).toNat : Int)) := by
    classical
    refine ⟨fun i => if hi : i < 20 then Classical.choose (each i hi) else 0, fun i hi => ?_⟩
    simp only [dif_pos hi]
    exact Classical.choose_spec (each i hi)
  obtain ⟨f, hf'⟩ := ex
  refine ⟨(List.range 20).map f, by simp, List.ext_getElem? fun i => ?_⟩
  by_cases hi : i < 20
  · rw [hf' i hi]
    simp [idV, hi]
  · rw [List.getElem?_eq_none (by omega), List.getElem?_eq_none (by simp [idV]; omega)]

/-- The slice of twenty bytes each, opened. -/
theorem open_raw {H : Type} {enc : TypeId × Value → H} {w : World} {sp : Nat → Bool} {held : Bool} {n : Nat} {a : Option Addr} {len cap : Nat} {x : DataW H × List MemPlace}
    (h : DataW.trod enc Yba.prog w 0 sp held n 41 [.slice a len cap] = some x) : (a = none ∧ len = 0 ∧ cap = 0) ∨ (∃ a', a = some a' ∧ len = 0) ∨
    ∃ b o, a = some ⟨b, o, none⟩ ∧ 0 < len ∧ b < w.heap.size ∧ ∃ raw : List (List UInt8), raw.length = len ∧ (∀ l ∈ raw, l.length = 20) ∧ ∀ (i : Nat) (l : List UInt8), raw[i]? = some l → w.rangeAt b (o + i * 20) (idV l) := by
  rcases Go.Deep.open_slice Yba.underlying41 h with ⟨hcs, _⟩ | ⟨a', len', cap', m, k, D, Pl, hcs, _, hl, hm, hmm, _, hel⟩
  · simp at hcs
    obtain ⟨rfl, rfl, rfl⟩ := hcs
    exact .inl ⟨rfl, rfl, rfl⟩
  · simp at hcs
    obtain ⟨rfl, rfl, rfl⟩ := hcs
    by_cases h0 : len = 0
    · exact .inr (.inl ⟨_, rfl, h0⟩)
    refine .inr (.inr ?_)
    have hlm : len ≤ m := by rw [hmm]; split <;> omega
    rw [cells36] at hel
    have each : ∀ i, i < len → ∃ l : List UInt8, l.length = 20 ∧ w.cells? 0 (a'.add (i * 20)) 20 = some (idV l) := fun i hi => by
      obtain ⟨cs', h1, h2⟩ := hel i (by omega)
      obtain ⟨l, h3, rfl⟩ := open_id h2
      exact ⟨l, h3, h1⟩
    have ex : ∃ f : Nat → List UInt8, ∀ i, i < len → (f i).length = 20 ∧ w.cells? 0 (a'.add (i * 20)) 20 = some (idV (f i)) := by
      classical
      refine ⟨fun i => if hi : i < len then Classical.choose (each i hi) else [], fun i hi => ?_⟩
      simp only [dif_pos hi]
      exact Classical.choose_spec (each i hi)
    obtain ⟨f, hf⟩ := ex
    obtain ⟨b, o, spot⟩ := a'
    have hget : ∀ i, i < len → ∀ (j : Nat) (v : Value), (idV (f i))[j]? = some v → w.cell? (((⟨b, o, spot⟩ : Addr).add (i * 20)).add j) = some v := fun i hi j v hv => by
      obtain ⟨_, hcl, hc⟩ := World.cells?_some (hf i hi).2
      have hj : j < (idV (f i)).length := (List.getElem?_eq_some_iff.1 hv).1
      have hj' : j < 20 := by rwa [length_idV, (hf i hi).1] at hj
      rw [hc j (by omega)]
      simpa using hv
    have hspot : spot = none := by
      have h00 := hget 0 (by omega) 0 _ (List.getElem?_eq_getElem (by rw [length_idV, (hf 0 (by omega)).1]; omega))
      have : w.cell? ⟨b, o, spot⟩ = some ((idV (f 0))[0]'(by rw [length_idV, (hf 0 (by omega)).1]; omega)) := by simpa [Addr.add] using h00
      simpa using World.cell?_spot this
    subst hspot
    have e : ∀ i j, ((⟨b, o, none⟩ : Addr).add (i * 20)).add j = ⟨b, o + i * 20 + j, none⟩ := fun i j => by rw [Addr.add_mid, Addr.add_mid]
    refine ⟨b, o, rfl, by omega, ?_, (List.range len).map f, by simp, fun l hl => ?_, fun i l hi j v hv => ?_⟩
    · have h00 := hget 0 (by omega) 0 _ (List.getElem?_eq_getElem (by rw [length_idV, (hf 0 (by omega)).1]; omega))
      rw [e] at h00
      exact World.block_lt_of_cell? _ _ h00
    · simp only [List.mem_map, List.mem_range] at hl
      obtain ⟨i, hi, rfl⟩ := hl
      exact (hf i hi).1
    · have hi' : i < len := by simpa using (List.getElem?_eq_some_iff.1 hi).1
      have hl' : f i = l := by simpa [hi'] using hi
      subst hl'
      have := hget i hi' j v hv
      rwa [e] at this

theorem walk (w : World) (a : Option Addr) (len cap : Nat) (lk : List UInt8) (hlk : lk.length = 20)
    (h : (a = none ∧ len = 0 ∧ cap = 0) ∨ (∃ a', a = some a' ∧ len = 0) ∨ ∃ b o, a = some ⟨b, o, none⟩ ∧ 0 < len ∧ b < w.heap.size ∧ ∃ raw : List (List UInt8), raw.length = len ∧ (∀ l ∈ raw, l.length = 20) ∧ ∀ (i : Nat) (l : List UInt8), raw[i]? = some l → w.rangeAt b (o + i * 20) (idV l)) :
    Calls Yba.prog 5 #[.slice a len cap, .agg (idV lk).toArray] w fun e w' => e = .returned (.bool true) ∧ Below w.heap.size w w' := by
  rcases h with ⟨rfl, rfl, rfl⟩ | ⟨a', rfl, rfl⟩ | ⟨b, o, rfl, h0, hb, raw, hl, h20, hr⟩
  · exact nst_zero w none 0 lk hlk
  · exact nst_zero w _ cap lk hlk
  · by_cases hn : len ≤ 1024
    · exact nst_main w b o len cap raw hl h20 hr hb h0 hn lk hlk
    · exact nst_big w _ len cap lk hlk (by omega)

/-! ### THE ROW's STEP -/
set_option maxRecDepth 100000 in
theorem lifted (os : Os) (started : os.Started) (H : Type) (enc : TypeId × Value → H) :
    ReturnsInHanded {} Yba.checked os 5 .any (Rows.lawS2061BNearestSpec.pre6 enc Yba.prog Yba.f5 Rows.lawS2061BNearestRow.domain false) (Rows.lawS2061BNearestSpec.post enc Yba.prog Yba.f5 false true false false) := by
  refine returnsInHanded_of_change (C := Yba.checked) own started (by kernel_rfl) Yba.func5
    (ChangeSpec.witness6 (enc := enc) (C := Yba.checked) false ⟨#[], #[.slice none 0 0, .agg #[.int .u8 0, .int .u8 0, .int .u8 0, .int .u8 0, .int .u8 0, .int .u8 0, .int .u8 0, .int .u8 0, .int .u8 0, .int .u8 0, .int .u8 0, .int .u8 0, .int .u8 0, .int .u8 0, .int .u8 0, .int .u8 0, .int .u8 0, .int .u8 0, .int .u8 0, .int .u8 0]], []⟩ 8 (by kernel_rfl) (by kernel_rfl) (by kernel_rfl) (by kernel_rfl)) ?_
  intro W base args ds gs before hval0 hW hcnd _
  have hval : ∀ (j : Nat) t v, Yba.f5.params[j]? = some t → args[j]? = some v → Value.okWide Yba.prog W .any base t v := hval0
  have hW' := hW
  obtain ⟨p, q, hA0, hV, rfl, hfz, hnd⟩ := hW
  have hA : DataW.TrodAll enc Yba.prog W 0 (fun _ => true) true Yba.f5.params.toList args.toList ds p := hA0
  rw [Yba.params5] at hA hval
  obtain ⟨v0, vs0, d0, ds0, p0, q0, hargs, rfl, rfl, h0, r0⟩ := trodAll_cons hA
  obtain ⟨v1, vs1, d1, ds1, p1, q1, rfl, rfl, rfl, h1, r1⟩ := trodAll_cons r0
  obtain ⟨rfl, rfl, rfl⟩ := trodAll_nil r1
  obtain rfl : args = #[v0, v1] := by cases args; simp_all
  obtain ⟨rfl, rfl⟩ := trodVars_none hV
  obtain ⟨a0, len0, cap0, rfl⟩ := okWide_slice Yba.underlying41 (hval 0 41 v0 rfl rfl)
  have k0 := h0
  have lt0 : ∀ x ∈ p0, x.block < W.heap.size := by obtain ⟨m, hm⟩ := k0; exact DataW.trod_lt m _ _ _ hm
  have w0 : (a0 = none ∧ len0 = 0 ∧ cap0 = 0) ∨ (∃ a', a0 = some a' ∧ len0 = 0) ∨ ∃ b o, a0 = some ⟨b, o, none⟩ ∧ 0 < len0 ∧ b < W.heap.size ∧ ∃ raw : List (List UInt8), raw.length = len0 ∧ (∀ l ∈ raw, l.length = 20) ∧ ∀ (i : Nat) (l : List UInt8), raw[i]? = some l → W.rangeAt b (o + i * 20) (idV l) := by
    obtain ⟨fuel, hf⟩ := h0
    exact open_raw hf
  have o1 := hval 1 36 v1 rfl rfl
  simp only [Value.okWide, under36] at o1
  obtain ⟨cs1, rfl, _, _⟩ := o1
  have k1 := h1
  have lt1 : ∀ x ∈ p1, x.block < W.heap.size := by obtain ⟨m, hm⟩ := k1; exact DataW.trod_lt m _ _ _ hm
  obtain ⟨lk, hlk, rfl⟩ : ∃ lk : List UInt8, lk.length = 20 ∧ cs1 = (idV lk).toArray := by
    obtain ⟨fuel, hf⟩ := h1
    obtain ⟨l, hl, e⟩ := open_id hf
    refine ⟨l, hl, ?_⟩
    have e' : cs1.toList = idV l := e
    rw [← e']
  clear hA0 hval0
  refine (walk W a0 len0 cap0 lk hlk w0).mono fun e W' ⟨he, bel⟩ => ?_
  subst he
  exact ⟨_, rfl, _, _, _, [], _, [], hW', trodAll_mk1 (shut_bool Yba.underlying4 _), (trodAll_cons_mk (Below.trod laidOut (by kernel_rfl) (of_decide_eq_true (by kernel_rfl)) k0 bel lt0) (trodAll_cons_mk (Below.trod laidOut (by kernel_rfl) (of_decide_eq_true (by kernel_rfl)) k1 bel lt1) trodAll_mk0)), rfl, bel.frame _, fun h => by cases h⟩

theorem over : Rows.lawS2061BNearestRow.holds Yba.pinned (OpenSpec.ofChange Rows.lawS2061BNearestSpec) :=
  OpenClaim.holds_of_wide 5 Yba.f5 rfl rfl rfl rfl rfl rfl rfl ⟨rfl, rfl, rfl, rfl, rfl⟩ rfl rfl rfl rfl rfl (by kernel_rfl) Yba.func5 (by kernel_rfl)
    (of_decide_eq_true (by kernel_rfl)) (by unfold Func.isWrapper; first | (rw [if_pos (by decide +kernel)]; kernel_rfl) | (rw [if_neg (by decide +kernel)]; exact ⟨rfl, rfl⟩))
    (fun os started H enc _ => lifted os started H enc)

/-- ████ THE STATEMENT ████ -/
theorem proved : Rows.LawS2061BNearestSaid := over
end Go.Proofs.Ybulkapqu.lawS2061BNearest
