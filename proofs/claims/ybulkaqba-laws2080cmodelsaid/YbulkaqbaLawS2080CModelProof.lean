/-
  THE SHELL OF A PROOF OF 'Rows.LawS2080CModelSaid' ('example.com/seamcutter/seamcutter/proxy.LawS2080CModel'), WRITTEN BY PROGRAM (proof-skeleton.mjs, third state) off the guide's own print for that function. Not trusted: Lean checks it.
  ALL ELSE IS THE GUIDE's OWN WAY (howto/template/XProofs.lean; Derived/Test/ChunkProofs.lean for 'Below') at this function's number and types: leave it.
-/
import Derived.Test.YbulkaqbaRows
import Derived.WalkKit
import Derived.ProofKit
import Derived.OpenShut
import Derived.ShutString
import Derived.ChangeOld
import Derived.Below
namespace Go.Proofs.Ybulkaqba.lawS2080CModel
open Go.ChangeShapes Go.WideShapes Go.ChangeAt Go.RowKit
open Go.ChangeMaps (open_string shut_string)
set_option linter.unusedVariables false

theorem own : ownKnob Yba.prog.godebug = none := by kernel_rfl
theorem laidOut : laidOutB Yba.prog = true := by kernel_rfl

/-- WHAT THE WALK IS TOLD OF A SLICE OF INTEGERS THAT CAME IN: it is nil; or it leads to a row of 'cap' cells, the numbers 'zs' (the first 'len' are its elements, the rest its spare room), each fitting its kind. -/
def IsRow (k : IntKind) (w : World) (a : Option Addr) (len cap : Nat) (zs : List Int) : Prop :=
  (a = none ∧ len = 0 ∧ cap = 0 ∧ zs = []) ∨
  ∃ x, a = some x ∧ len ≤ cap ∧ cap ≤ maxLen ∧ zs.length = cap ∧ (∀ i, i < zs.length → w.cell? (x.add i) = some (.int k (zs.getD i 0))) ∧ ∀ n ∈ zs, (Lit.int k n).wf = true

/-! ### STEP 1: THE WALK: the Go text returns true, and writes nothing that was there. -/
/-- May this byte stand in a field's value? -/
def okB (z : Int) : Bool := decide (z = 9 ∨ (32 ≤ z ∧ z ≤ 126) ∨ 128 ≤ z)

theorem okB_true {z : Int} (h : z = 9 ∨ (32 ≤ z ∧ z ≤ 126) ∨ 128 ≤ z) : okB z = true := decide_eq_true h
theorem okB_false {z : Int} (h : ¬ (z = 9 ∨ (32 ≤ z ∧ z ≤ 126) ∨ 128 ≤ z)) : okB z = false := decide_eq_false h

theorem ok_calls (c : Int) (h0 : 0 ≤ c) (h1 : c ≤ 255) (w : World) : Calls Yba.prog 8 #[.int .u8 c] w fun e w' => e = .returned (.bool (okB c)) ∧ w' = w := by
  by_cases c1 : c = 9
  · have e1 : okB c = true := okB_true (by omega)
    rw [e1]
    subst c1
    clear e1
    go_enter Yba.func8, Yba.ntmps8
    go_wp2
    go_ret
    exact ⟨rfl, rfl⟩
  · have b1 : (c == 9) = false := by simpa using c1
    by_cases c2 : 32 ≤ c
    · by_cases c3 : c ≤ 126
      · have e1 : okB c = true := okB_true (by omega)
        rw [e1]
        clear e1
        go_enter Yba.func8, Yba.ntmps8
        go_wp2
        go_ret
        exact ⟨rfl, rfl⟩
      · by_cases c4 : 128 ≤ c
        · have e1 : okB c = true := okB_true (by omega)
          rw [e1]
          clear e1
          go_enter Yba.func8, Yba.ntmps8
          go_wp2
          go_ret
          exact ⟨rfl, rfl⟩
        · have e1 : okB c = false := okB_false (by omega)
          rw [e1]
          clear e1
          go_enter Yba.func8, Yba.ntmps8
          go_wp2
          go_ret
          exact ⟨rfl, rfl⟩
    · have e1 : okB c = false := okB_false (by omega)
      have c4 : ¬ 128 ≤ c := by omega
      have d2 : decide (32 ≤ c) = false := by simpa using c2
      rw [e1]
      clear e1
      go_enter Yba.func8, Yba.ntmps8
      go_wp2
      go_ret
      exact ⟨rfl, rfl⟩

theorem all_take_succ (zs : List Int) (k : Nat) (h : k < zs.length) : (zs.take (k + 1)).all okB = ((zs.take k).all okB && okB (zs.getD k 0)) := by
  rw [List.take_succ_eq_append_getElem h, List.all_append]
  simp [List.getD, h]

theorem wf_u8 {zs : List Int} (hw : ∀ n ∈ zs, (Lit.int .u8 n).wf = true) (k : Nat) (h : k < zs.length) : 0 ≤ zs.getD k 0 ∧ zs.getD k 0 ≤ 255 := by
  have := hw (zs.getD k 0) (by simp [List.getD, h])
  have := bounds_u8 this
  omega

theorem all_take_false (zs : List Int) (k len : Nat) (h : k < len) (hl : len ≤ zs.length) (hf : okB (zs.getD k 0) = false) : (zs.take len).all okB = false := by
  rw [List.all_eq_false]
  refine ⟨zs.getD k 0, ?_, by rw [hf]; decide⟩
  rw [List.mem_take_iff_getElem]
  exact ⟨k, by omega, by simp [List.getD, show k < zs.length by omega]⟩

set_option maxHeartbeats 400000 in
theorem fv_calls (b o len cap : Nat) (zs : List Int) (w : World) (hl : len ≤ zs.length) (hlen : len ≤ 4096) (hc : ∀ i, i < zs.length → w.cell? ⟨b, o + i, none⟩ = some (.int .u8 (zs.getD i 0))) (hw : ∀ n ∈ zs, (Lit.int .u8 n).wf = true) :
    Calls Yba.prog 9 #[.slice (some ⟨b, o, none⟩) len cap] w fun e w' => e = .returned (.bool ((zs.take len).all okB)) ∧ w' = w := by
  go_enter Yba.func9, Yba.ntmps9
  go_wp2
  go_loop [7] (fun i => ∃ k : Nat, k ≤ len ∧ i = .int .i64 k ∧ (zs.take k).all okB = true) (fun i => len - (intOf i).toNat)
  case atStart => exact ⟨0, Nat.zero_le _, rfl, rfl⟩
  case round =>
    obtain ⟨k, hk, rfl, hall⟩ := hrel
    by_cases hlt : k < len
    · have c0 := hc k (by omega)
      obtain ⟨z0, z1⟩ := wf_u8 hw k (by omega)
      have hsucc := all_take_succ zs k (by omega)
      have hfal := all_take_false zs k len hlt hl
      generalize zs.getD k 0 = z at *
      have Hall : Hid ((zs.take k).all okB = true) := hall
      have Hsucc : Hid ((zs.take (k + 1)).all okB = ((zs.take k).all okB && okB z)) := hsucc
      have Hfal : Hid (okB z = false → (zs.take len).all okB = false) := hfal
      clear hall hsucc hfal hc hw
      by_cases c1 : z < 32
      · by_cases c2 : z = 9
        · subst c2
          go_wp2
          go_round
          case rel => exact ⟨k + 1, by omega, by go_num, by rw [Hsucc.out, Hall.out]; exact okB_true (by omega)⟩
          case measure => simp [intOf]; omega
        · have b1 : (z != 9) = true := by simpa using c2
          have Hf : Hid (okB z = false) := okB_false (by omega)
          go_wp2
          go_ret
          exact ⟨by rw [Hfal.out Hf.out]; rfl, rfl⟩
      · have d1 : decide (z < 32) = false := by simpa using c1
        by_cases c2 : z = 127
        · subst c2
          have Hf : Hid (okB 127 = false) := okB_false (by omega)
          go_wp2
          go_ret
          exact ⟨by rw [Hfal.out Hf.out]; rfl, rfl⟩
        · have b1 : (z == 127) = false := by simpa using c2
          go_wp2
          go_round
          case rel => exact ⟨k + 1, by omega, by go_num, by rw [Hsucc.out, Hall.out]; exact okB_true (by omega)⟩
          case measure => simp [intOf]; omega
    · have hkn : k = len := by omega
      subst hkn
      have Hall : Hid ((zs.take k).all okB = true) := hall
      clear hall
      go_wp2
      go_ret
      exact ⟨by rw [Hall.out]; rfl, rfl⟩

set_option maxHeartbeats 400000 in
theorem walk_long (a0 : Option Addr) (len0 cap0 : Nat) (w : World) (h : 4096 < len0) (hm : len0 ≤ maxLen) :
    Calls Yba.prog 5 #[.slice a0 len0 cap0] w fun e w' => e = .returned (.bool true) ∧ Below w.heap.size w w' := by
  unfold maxLen at hm
  go_enter Yba.func5, Yba.ntmps5
  go_wp2
  go_ret
  exact ⟨rfl, Below.refl _ _⟩

set_option maxHeartbeats 400000 in
theorem walk_nil (a : Option Addr) (cap : Nat) (w : World) : Calls Yba.prog 5 #[.slice a 0 cap] w fun e w' => e = .returned (.bool true) ∧ Below w.heap.size w w' := by
  go_enter Yba.func5, Yba.ntmps5
  go_wp2
  refine wp_loop_rounds 1 ?_
  rw [rounds_succ]
  go_wp2
  refine wp_loop_rounds 1 ?_
  rw [rounds_succ]
  go_wp2
  go_ret
  exact ⟨rfl, Below.refl _ _⟩

set_option maxHeartbeats 400000 in
theorem walk_row (b o len cap : Nat) (zs : List Int) (w : World) (hl : len ≤ zs.length) (hlen : len ≤ 4096) (hc : ∀ i, i < zs.length → w.cell? ⟨b, o + i, none⟩ = some (.int .u8 (zs.getD i 0))) (hw : ∀ n ∈ zs, (Lit.int .u8 n).wf = true) :
    Calls Yba.prog 5 #[.slice (some ⟨b, o, none⟩) len cap] w fun e w' => e = .returned (.bool true) ∧ Below w.heap.size w w' := by
  have Hfv : Hid (Calls Yba.prog 9 #[.slice (some ⟨b, o, none⟩) len cap] w fun e w' => e = .returned (.bool ((zs.take len).all okB)) ∧ w' = w) := fv_calls b o len cap zs w hl hlen hc hw
  go_enter Yba.func5, Yba.ntmps5
  go_wp2_with fail
  go_loop [4, 3] (fun i want => ∃ k : Nat, k ≤ len ∧ i = .int .i64 k ∧ want = .bool ((zs.take k).all okB)) (fun i _ => len - (intOf i).toNat)
  case atStart => exact ⟨0, Nat.zero_le _, rfl, rfl⟩
  case round =>
    obtain ⟨k, hk, rfl, rfl⟩ := hrel
    by_cases hlt : k < len
    · have c0 := hc k (by omega)
      obtain ⟨z0, z1⟩ := wf_u8 hw k (by omega)
      have hsucc := all_take_succ zs k (by omega)
      generalize zs.getD k 0 = z at *
      have Hsucc : Hid ((zs.take (k + 1)).all okB = ((zs.take k).all okB && okB z)) := hsucc
      clear hsucc hc hw
      generalize (zs.take k).all okB = A at *
      cases hz : okB z
      · have Hz : Hid (okB z = false) := hz
        clear hz
        go_wp2_with (first | (go_at_call 8; refine (ok_calls z z0 z1 _).mono ?_; rintro e w' ⟨rfl, rfl⟩; rw [Hz.out]))
        go_round
        case rel => exact ⟨k + 1, by omega, by go_num, by rw [Hsucc.out, Hz.out]; simp⟩
        case measure => simp [intOf]; omega
      · have Hz : Hid (okB z = true) := hz
        clear hz
        go_wp2_with (first | (go_at_call 8; refine (ok_calls z z0 z1 _).mono ?_; rintro e w' ⟨rfl, rfl⟩; rw [Hz.out]))
        go_round
        case rel => exact ⟨k + 1, by omega, by go_num, by rw [Hsucc.out, Hz.out]; simp⟩
        case measure => simp [intOf]; omega
    · have hkn : k = len := by omega
      subst hkn
      generalize (zs.take k).all okB = A at *
      have hA : (A == A) = true := by simp
      clear hc hw
      go_wp2_with (first | (go_at_call 9; refine Hfv.out.mono ?_; rintro e w' ⟨rfl, rfl⟩))
      go_ret
      exact ⟨by simp, Below.refl _ _⟩

theorem walk (a0 : Option Addr) (len0 cap0 : Nat) (z0 : List Int) (w : World) (w0 : IsRow .u8 w a0 len0 cap0 z0) :
    Calls Yba.prog 5 #[.slice a0 len0 cap0] w fun e w' => e = .returned (.bool true) ∧ Below w.heap.size w w' := by
  rcases w0 with ⟨rfl, rfl, rfl, _⟩ | ⟨x, rfl, hlc, hm, hzl, hc, hw⟩
  · exact walk_nil _ _ w
  · by_cases hb : len0 ≤ 4096
    · by_cases h0 : len0 = 0
      · subst h0; exact walk_nil _ _ w
      · obtain ⟨b, o, spot⟩ := x
        have hspot : spot = none := by
          have := hc 0 (by omega)
          simpa [Addr.add] using World.cell?_spot this
        subst hspot
        exact walk_row b o len0 cap0 z0 w (by omega) hb (fun i hi => by have := hc i hi; rwa [add_plain] at this) hw
    · exact walk_long _ len0 cap0 w (by omega) (by omega)

/-! ### THE ROW's STEP: WRITTEN OUT: LEAVE IT -/
set_option maxRecDepth 100000 in
theorem lifted (os : Os) (started : os.Started) (H : Type) (enc : TypeId × Value → H) :
    ReturnsInHanded {} Yba.checked os 5 .any (Rows.lawS2080CModelSpec.pre6 enc Yba.prog Yba.f5 Rows.lawS2080CModelRow.domain false) (Rows.lawS2080CModelSpec.post enc Yba.prog Yba.f5 false true false false) := by
  refine returnsInHanded_of_change (C := Yba.checked) own started (by kernel_rfl) Yba.func5
    (ChangeSpec.witness6 (enc := enc) (C := Yba.checked) false ⟨#[], #[.slice none 0 0], []⟩ 8 (by kernel_rfl) (by kernel_rfl) (by kernel_rfl) (by kernel_rfl)) ?_
  intro W base args ds gs before hval0 hW hcnd _
  have hval : ∀ (j : Nat) t v, Yba.f5.params[j]? = some t → args[j]? = some v → Value.okWide Yba.prog W .any base t v := hval0
  have hW' := hW
  obtain ⟨p, q, hA0, hV, rfl, hfz, hnd⟩ := hW
  have hA : DataW.TrodAll enc Yba.prog W 0 (fun _ => true) true Yba.f5.params.toList args.toList ds p := hA0
  rw [Yba.params5] at hA hval
  obtain ⟨v0, vs0, d0, ds0, p0, q0, hargs, rfl, rfl, h0, r0⟩ := trodAll_cons hA
  obtain ⟨rfl, rfl, rfl⟩ := trodAll_nil r0
  obtain rfl : args = #[v0] := by cases args; simp_all
  obtain ⟨rfl, rfl⟩ := trodVars_none hV
  obtain ⟨a0, len0, cap0, rfl⟩ := okWide_slice Yba.underlying22 (hval 0 22 v0 rfl rfl)
  have k0 := h0
  have lt0 : ∀ x ∈ p0, x.block < W.heap.size := by obtain ⟨m, hm⟩ := k0; exact DataW.trod_lt m _ _ _ hm
  obtain ⟨z0, w0⟩ : ∃ zs, IsRow .u8 W a0 len0 cap0 zs := by
    obtain ⟨fuel, hf⟩ := h0
    rcases open_ints Yba.underlying22 Yba.underlying5 (by kernel_rfl) hf with ⟨hcs, _⟩ | ⟨x, l, c, zs, hcs, _, hl, hm, hz, _, hcell, hwz⟩
    · simp [Value.cells] at hcs
      obtain ⟨rfl, rfl, rfl⟩ := hcs
      exact ⟨[], .inl ⟨rfl, rfl, rfl, rfl⟩⟩
    · simp [Value.cells] at hcs
      obtain ⟨rfl, rfl, rfl⟩ := hcs
      exact ⟨zs, .inr ⟨_, rfl, hl, hm, by simpa using hz, hcell, hwz⟩⟩
  clear hA0 hval0
  refine (walk a0 len0 cap0 z0 W w0).mono fun e W' ⟨he, bel⟩ => ?_
  subst he
  exact ⟨_, rfl, _, _, _, [], _, [], hW', trodAll_mk1 (shut_bool Yba.underlying4 _), (trodAll_cons_mk (Below.trod laidOut (by kernel_rfl) (of_decide_eq_true (by kernel_rfl)) k0 bel lt0) trodAll_mk0), rfl, bel.frame _, fun h => by cases h⟩

theorem over : Rows.lawS2080CModelRow.holds Yba.pinned (OpenSpec.ofChange Rows.lawS2080CModelSpec) :=
  OpenClaim.holds_of_wide 5 Yba.f5 rfl rfl rfl rfl rfl rfl rfl ⟨rfl, rfl, rfl, rfl, rfl⟩ rfl rfl rfl rfl rfl (by kernel_rfl) Yba.func5 (by kernel_rfl)
    (of_decide_eq_true (by kernel_rfl)) (by unfold Func.isWrapper; first | (rw [if_pos (by decide +kernel)]; kernel_rfl) | (rw [if_neg (by decide +kernel)]; exact ⟨rfl, rfl⟩))
    (fun os started H enc _ => lifted os started H enc)

/-- ████ THE STATEMENT ████ -/
theorem proved : Rows.LawS2080CModelSaid := over
#print axioms proved
end Go.Proofs.Ybulkaqba.lawS2080CModel
