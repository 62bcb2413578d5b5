import Derived.Test.YbulkapoqDoorW6
import Derived.Test.YbulkapoqDoorTie
import Derived.Test.YbulkapoqDoorCards
import Derived.WalkKit
import Derived.ProofKit
import Derived.OpenShut
import Derived.ShutString
import Derived.ChangeOld
import Derived.Below
import Derived.OpenVars
import Derived.LaidMore
import Derived.Stop.Joined
import Derived.SevenTiedAt
import Derived.Deep.Slices
namespace Go.Proofs.YbulkapoqDoor.recs
open Go.ChangeShapes Go.WideShapes Go.ChangeAt Go.RowKit
open Go.ChangeMaps (open_string shut_string)
set_option linter.unusedVariables false

theorem own : ownKnob Ybad.prog.godebug = none := by kernel_rfl
theorem laidOut : laidOutB Ybad.prog = true := by kernel_rfl
theorem rowed : varsRowed Ybad.prog Rows.lawS2057ARecordsSpec.vars = true := by kernel_rfl
theorem cells24 : Ybad.prog.cellsOf 24 = 5 := by kernel_rfl
theorem cells9 : Ybad.prog.cellsOf 9 = 1 := by kernel_rfl
theorem cells21 : Ybad.prog.cellsOf 21 = 1 := by kernel_rfl
theorem cells5 : Ybad.prog.cellsOf 5 = 1 := by kernel_rfl

set_option maxRecDepth 100000 in
/-- One element opened: five cells. -/
theorem open_step {H : Type} {enc : TypeId × Value → H} {w : World} {base : Nat} {sp : Nat → Bool} {held : Bool} {n : Nat} {cs : List Value} {x : DataW H × List MemPlace}
    (h : DataW.trod enc Ybad.prog w base sp held n 24 cs = some x) : ∃ st : Step, cs = [.string st.name, .int .i32 st.p, .int .i32 st.f, .int .i32 st.q, .int .u8 st.t] := by
  obtain ⟨xs, m, _, _, hl, hlen, hf⟩ := DataW.trod_struct Ybad.underlying24 h
  rw [cells24] at hl
  match cs, hl with
  | [v0, v1, v2, v3, v4], _ =>
    match xs, hlen with
    | [y0, y1, y2, y3, y4], _ =>
      have t0 := hf 0 _ rfl
      have t1 := hf 1 _ rfl
      have t2 := hf 2 _ rfl
      have t3 := hf 3 _ rfl
      have t4 := hf 4 _ rfl
      simp [cells9] at t0
      simp [cells21] at t1 t2 t3
      simp [cells5] at t4
      obtain ⟨s, e0, _, _⟩ := DataW.trod_string Ybad.underlying9 t0
      obtain ⟨p, e1, _, _⟩ := DataW.trod_int Ybad.underlying21 t1
      obtain ⟨f, e2, _, _⟩ := DataW.trod_int Ybad.underlying21 t2
      obtain ⟨q, e3, _, _⟩ := DataW.trod_int Ybad.underlying21 t3
      obtain ⟨t, e4, _, _⟩ := DataW.trod_int Ybad.underlying5 t4
      simp at e0 e1 e2 e3 e4
      subst e0 e1 e2 e3 e4
      exact ⟨⟨s, p, f, q, t⟩, rfl⟩

/-- The slice of steps opened. -/
theorem open_steps {H : Type} {enc : TypeId × Value → H} {w : World} {sp : Nat → Bool} {held : Bool} {n : Nat} {a : Option Addr} {len cap : Nat} {x : DataW H × List MemPlace}
    (h : DataW.trod enc Ybad.prog w 0 sp held n 22 [.slice a len cap] = some x) : len ≤ maxLen ∧ ∃ xs : List Step, xs.length = len ∧ IsSteps w a xs := by
  rcases Go.Deep.open_slice Ybad.underlying22 h with ⟨hcs, _⟩ | ⟨a', len', cap', m, k, D, Pl, hcs, _, hl, hm, hmm, _, hel⟩
  · simp at hcs
    obtain ⟨rfl, rfl, rfl⟩ := hcs
    exact ⟨Nat.zero_le _, [], rfl, .inl rfl⟩
  · simp at hcs
    obtain ⟨rfl, rfl, rfl⟩ := hcs
    refine ⟨Nat.le_trans hl hm, ?_⟩
    have hlm : len ≤ m := by rw [hmm]; split <;> omega
    rw [cells24] at hel
    have each : ∀ i, i < len → ∃ st : Step, w.cells? 0 (a'.add (i * 5)) 5 = some [.string st.name, .int .i32 st.p, .int .i32 st.f, .int .i32 st.q, .int .u8 st.t] := fun i hi => by
      obtain ⟨cs', h1, h2⟩ := hel i (by omega)
      obtain ⟨st, rfl⟩ := open_step h2
      exact ⟨st, h1⟩
    have ex : ∃ f : Nat → Step, ∀ i, i < len → w.cells? 0 (a'.add (i * 5)) 5 = some [.string (f i).name, .int .i32 (f i).p, .int .i32 (f i).f, .int .i32 (f i).q, .int .u8 (f i).t] := by
      classical
      refine ⟨fun i => if hi : i < len then Classical.choose (each i hi) else step0, fun i hi => ?_⟩
      simp only [dif_pos hi]
      exact Classical.choose_spec (each i hi)
    obtain ⟨f, hf⟩ := ex
    refine ⟨(List.range len).map f, by simp, ?_⟩
    by_cases h0 : len = 0
    · subst h0; exact .inl rfl
    right
    obtain ⟨b, o, spot⟩ := a'
    have c0 := (World.cells?_some (hf 0 (by omega))).2.2 0 (by omega)
    have hspot : spot = none := by
      have : w.cell? ⟨b, o, spot⟩ = some (.string (f 0).name) := by simpa [Addr.add] using c0
      simpa using World.cell?_spot this
    subst hspot
    refine ⟨b, o, rfl, fun i hi => ?_⟩
    have hi' : i < len := by simpa using hi
    have hg : ((List.range len).map f).getD i step0 = f i := by simp [List.getD, hi']
    rw [hg]
    obtain ⟨_, _, hc⟩ := World.cells?_some (hf i hi')
    have e : ∀ j, ((⟨b, o, none⟩ : Addr).add (i * 5)).add j = ⟨b, o + i * 5 + j, none⟩ := fun j => by rw [Addr.add_mid, Addr.add_mid]
    have k0 := hc 0 (by omega)
    have k1 := hc 1 (by omega)
    have k2 := hc 2 (by omega)
    have k3 := hc 3 (by omega)
    have k4 := hc 4 (by omega)
    rw [e] at k0 k1 k2 k3 k4
    exact ⟨k0, k1, k2, k3, k4⟩

/-- The door's own heap meets the condition. -/
theorem door_met (os : Os) (args : Array Value) : laidMetH Ybad.prog Rows.lawS2057ARecordsRow.laid ((World.doorLaid Ybad.prog 28 os).forCall (fun _ _ => 0) ⟨#[], args, []⟩).memory :=
  laidMetH_of_parts3 (fuel := 8) (laidMet_of_run' 8 (by kernel_rfl) (by kernel_rfl)) (by kernel_rfl) (by kernel_rfl)

set_option maxRecDepth 100000 in
theorem lifted (os : Os) (started : os.Started) (H : Type) (enc : TypeId × Value → H) :
    ReturnsInHanded {} Ybad.checked os 3 .any (fun w args => (Rows.lawS2057ARecordsSpec.pre enc Ybad.prog Ybad.f3 [] false w args ∧ laidMetH Ybad.prog Rows.lawS2057ARecordsRow.laid w) ∧ sizedMet enc Ybad.prog Ybad.f3 (OpenSpec.ofChange Rows.lawS2057ARecordsSpec) false w args)
      (Rows.lawS2057ARecordsSpec.post enc Ybad.prog Ybad.f3 false true false false) := by
  refine returnsInHanded_of_change_and (C := Ybad.checked) (X := fun w _ => laidMetH Ybad.prog Rows.lawS2057ARecordsRow.laid w) (fun _ _ _ hh h => h.of_heap hh) own started (by kernel_rfl) Ybad.func3
    (ChangeSpec.witness_shaped (enc := enc) (C := Ybad.checked) (os := os) (X := fun w _ => laidMetH Ybad.prog Rows.lawS2057ARecordsRow.laid w) false (World.doorLaid Ybad.prog 28 os) #[.slice none 0 0] 8 rfl (World.shaped_of_RefB (by kernel_rfl) (by kernel_rfl)) (by kernel_rfl) (by kernel_rfl) (by kernel_rfl) (door_met os _)) ?_
  intro W base args ds gs before hval0 hW _ _ hL _
  have hval : ∀ (j : Nat) t v, Ybad.f3.params[j]? = some t → args[j]? = some v → Value.okWide Ybad.prog W .any base t v := hval0
  have hW' := hW
  obtain ⟨p, q, hA0, hV0, rfl, hfz, hnd⟩ := hW
  have hA : DataW.TrodAll enc Ybad.prog W 0 (fun _ => true) true Ybad.f3.params.toList args.toList ds p := hA0
  have hV : DataW.TrodVars enc Ybad.prog W (fun _ => true) Rows.lawS2057ARecordsSpec.vars gs q := hV0
  rw [Ybad.params3] at hA hval
  obtain ⟨v0, vs0, d0, ds0, p0, q0, hargs, rfl, rfl, h0, r0⟩ := trodAll_cons hA
  obtain ⟨rfl, rfl, rfl⟩ := trodAll_nil r0
  obtain rfl : args = #[v0] := by cases args; simp_all
  obtain ⟨a0, len0, cap0, rfl⟩ := okWide_slice Ybad.underlying22 (hval 0 22 v0 rfl rfl)
  have k0 := h0
  have lt0 : ∀ x ∈ p0, x.block < W.heap.size := by obtain ⟨m, hm⟩ := k0; exact DataW.trod_lt m _ _ _ hm
  obtain ⟨hml, xs, hxl, hxs⟩ : len0 ≤ maxLen ∧ ∃ xs : List Step, xs.length = len0 ∧ IsSteps W a0 xs := by
    obtain ⟨fuel, hf⟩ := h0
    exact open_steps (by simpa [Value.cells] using hf)
  clear hA0 hval0
  obtain ⟨g1, rfl⟩ : ∃ g1, gs = [g1] := by
    match gs, hV with
    | [g], _ => exact ⟨g, rfl⟩
  have fin : ∀ W', Below W.heap.size W W' → Rows.lawS2057ARecordsSpec.post enc Ybad.prog Ybad.f3 false true false false W #[.slice a0 len0 cap0] (.bool true) W' := fun W' bel =>
    ⟨_, _, _, [], _, _, hW', trodAll_mk1 (shut_bool Ybad.underlying4 _), trodAll_cons_mk (Below.trod laidOut (by kernel_rfl) (of_decide_eq_true (by kernel_rfl)) k0 bel lt0) trodAll_mk0,
      Below.trodVars laidOut bel rowed hV, bel.frame _, fun h => by cases h⟩
  by_cases hs : len0 ≤ 256
  · subst hxl
    refine (rec_walk W a0 cap0 xs hxs hs).mono fun e W' ⟨he, bel⟩ => ?_
    subst he
    exact ⟨_, rfl, fin W' bel⟩
  · refine (rec_many W a0 len0 cap0 (by omega) hml).mono fun e W' ⟨he, bel⟩ => ?_
    subst he
    exact ⟨_, rfl, fin W' bel⟩

theorem row_holds : Rows.LawS2057ARecordsSaid :=
  OpenClaim.holds_of_wide 3 Ybad.f3 rfl rfl rfl rfl rfl rfl rfl ⟨rfl, rfl, rfl, rfl, rfl⟩ rfl rfl rfl rfl rfl (by kernel_rfl) Ybad.func3 (by kernel_rfl)
    (of_decide_eq_true (by kernel_rfl)) (by unfold Func.isWrapper; first | (rw [if_pos (by decide +kernel)]; kernel_rfl) | (rw [if_neg (by decide +kernel)]; exact ⟨rfl, rfl⟩))
    (fun os started H enc _ => lifted os started H enc)

/-- ████ THE TIED CARD ████ -/
theorem proved : Rows.LawS2057ARecordsCardSaid :=
  Claim7.holds_tied_plain_at .later [] [.sentinel] true (true, "5bd225052ffb66b508a31b3812a7d3c43f4e1bcf628a4566b5a1b36ecc347312") false
    row_holds (fun _ h => by cases h) (by kernel_rfl) (fun _ h => by cases h) lawS2057ARecords_row_tie rfl ⟨rfl, rfl⟩ (by kernel_rfl) rfl
    (fun f fn hf hfn => by
      obtain rfl : f = 3 := Option.some.inj ((show Ybad.prog.funcNamed Rows.lawS2057ARecordsRow.func = some 3 by kernel_rfl).symm.trans hf) |>.symm
      obtain rfl : fn = Ybad.f3 := (Option.some.inj (Ybad.func3.symm.trans hfn)).symm
      exact ⟨by kernel_rfl, fun j t ht => by
        rw [Ybad.params3] at ht
        have hm : t ∈ [22] := by simpa using Array.mem_of_getElem? ht
        have hall : ([22].all fun u => !Ybad.prog.wantsStandIn u) = true := by kernel_rfl
        exact (show Ybad.prog.wantsStandIn t = false by simpa using List.all_eq_true.1 hall t hm)⟩)
    (by kernel_rfl)
#print axioms proved
end Go.Proofs.YbulkapoqDoor.recs
