import Derived.Test.YbulkapoqDoorW5
namespace Go.Proofs.YbulkapoqDoor
open Go.RowKit

/-- One step of the law's input. -/
structure Step where
  name : ByteArray
  p : Int
  f : Int
  q : Int
  t : Int
def step0 : Step := ⟨⟨#[]⟩, 0, 0, 0, 0⟩

/-- What the walk is told of the slice of steps that came in. -/
def IsSteps (w : World) (a : Option Addr) (xs : List Step) : Prop :=
  xs = [] ∨ ∃ b o, a = some ⟨b, o, none⟩ ∧ ∀ i, i < xs.length →
    w.cell? ⟨b, o + i * 5, none⟩ = some (.string (xs.getD i step0).name) ∧ w.cell? ⟨b, o + i * 5 + 1, none⟩ = some (.int .i32 (xs.getD i step0).p) ∧ w.cell? ⟨b, o + i * 5 + 2, none⟩ = some (.int .i32 (xs.getD i step0).f) ∧
    w.cell? ⟨b, o + i * 5 + 3, none⟩ = some (.int .i32 (xs.getD i step0).q) ∧ w.cell? ⟨b, o + i * 5 + 4, none⟩ = some (.int .u8 (xs.getD i step0).t)

/-- Where the text ends behind k steps. -/
def eK (xs : List Step) : Nat → Nat
  | 0 => 0
  | k + 1 => endOf (eK xs k) (xs.getD k step0).name.size
def aK (xs : List Step) (k : Nat) : Nat := atOf (eK xs k) (xs.getD k step0).name.size

theorem atOf_le (e L : Nat) : e ≤ atOf e L ∧ atOf e L ≤ e + 65536 := by
  unfold atOf
  split
  · omega
  · split <;> omega
theorem eK_mono (xs : List Step) (j : Nat) : ∀ k, j ≤ k → eK xs j ≤ eK xs k
  | 0, h => by have : j = 0 := by omega
               subst this; exact Nat.le_refl _
  | k + 1, h => by
    by_cases e : j = k + 1
    · subst e; exact Nat.le_refl _
    · have := eK_mono xs j k (by omega)
      have := (atOf_le (eK xs k) (xs.getD k step0).name.size).1
      simp only [eK, endOf]; omega
theorem eK_le (xs : List Step) (hs : ∀ j, j < xs.length → (xs.getD j step0).name.size ≤ 1024) : ∀ k, k ≤ xs.length → eK xs k ≤ k * 66560
  | 0, _ => Nat.le_refl _
  | k + 1, h => by
    have := eK_le xs hs k (by omega)
    have := (atOf_le (eK xs k) (xs.getD k step0).name.size).2
    have := hs k (by omega)
    simp only [eK, endOf]; omega

/-- After k steps. -/
def InvR (xs : List Step) (w : World) (k : Nat) (wr : World) : Prop :=
  ∃ np tp, Rep w.heap.size w.heap.size np tp k (eK xs k) wr ∧ Below w.heap.size w wr ∧
    ∀ j, j < k → NodeAt np wr j (recOf (aK xs j) (xs.getD j step0).name.size (xs.getD j step0).p (xs.getD j step0).f (xs.getD j step0).q (xs.getD j step0).t) ∧ TextAt tp wr (aK xs j) (xs.getD j step0).name

theorem invR_start (xs : List Step) (w : World) : InvR xs w 0 (w.alloc (.cells tree0 44)) := ⟨[], [], rep0 w, (Below.refl _ _).alloc (Nat.le_refl _) _, fun j hj => by omega⟩
theorem InvR.alloc {xs : List Step} {w wr : World} {k : Nat} (h : InvR xs w k wr) (o : Obj) : InvR xs w k (wr.alloc o) := by
  obtain ⟨np, tp, R, b, hj⟩ := h
  exact ⟨np, tp, R.alloc o, b.alloc b.size o, fun j hk => ⟨(hj j hk).1.alloc R o, (hj j hk).2.alloc R o⟩⟩
theorem invR_step {xs : List Step} {w wr : World} {k : Nat} (h : InvR xs w k wr) (hk : k < xs.length) (hx : xs.length ≤ 256) (hs : ∀ j, j < xs.length → (xs.getD j step0).name.size ≤ 1024) (C : Array Value) (hC : C.size = 5) :
    Calls Ybad.prog 5 #[.pointer (some ⟨w.heap.size, 0, none⟩), .string (xs.getD k step0).name, .int .i32 (xs.getD k step0).p, .int .i32 (xs.getD k step0).f, .int .i32 (xs.getD k step0).q, .int .u8 (xs.getD k step0).t] (wr.alloc (.cells C 24)) fun e w' =>
      e = .returned (.tuple #[.int .i32 k, .nilIface]) ∧ InvR xs w (k + 1) w' ∧ w'.heap[wr.heap.size]? = some (.cells C 24 (0, 0)) := by
  have he := eK_le xs hs k (by omega)
  obtain ⟨np, tp, R, b, hj⟩ := h.alloc (.cells C 24)
  have f := R.fitT
  refine (newNode_calls R _ (hs k hk) (by omega) (by omega) _ _ _ _).mono ?_
  rintro e w' ⟨rfl, np', tp', P⟩
  refine ⟨rfl, ⟨np', tp', P.rep, b.trans P.bel, fun j hjk => ?_⟩, ?_⟩
  · by_cases e : j = k
    · subst e; exact ⟨P.new, P.txt⟩
    · have hlt : j < k := by omega
      refine ⟨P.old _ _ hlt (hj j hlt).1, P.oldT _ _ ?_ (hj j hlt).2⟩
      have := eK_mono xs (j + 1) k (by omega)
      exact this
  · have hb : Blk (wr.alloc (.cells C 24)) wr.heap.size 24 5 := ⟨C, heap_alloc_new wr _, hC⟩
    rw [P.far _ _ _ hb (by decide) (by decide) (by decide) (by decide) (by decide)]
    exact heap_alloc_new wr _
/-- Record j, and where it lies. -/
theorem invR_node {xs : List Step} {w wr : World} {K : Nat} (h : InvR xs w K wr) (j : Nat) (hj : j < K) (hK : K ≤ 256) : ∃ pg,
    Hid (Calls Ybad.prog 6 #[.pointer (some ⟨w.heap.size, 0, none⟩), .int .i32 j] wr fun e' w' => e' = .returned (.pointer (some ⟨pg, j % 4096 * 7, none⟩)) ∧ w' = wr) ∧
    wr.cell? ⟨pg, j % 4096 * 7, none⟩ = some (.int .u32 (aK xs j)) ∧ wr.cell? ⟨pg, j % 4096 * 7 + 1, none⟩ = some (.int .u32 (xs.getD j step0).name.size) ∧ wr.cell? ⟨pg, j % 4096 * 7 + 2, none⟩ = some (.int .i32 (xs.getD j step0).p) ∧
    wr.cell? ⟨pg, j % 4096 * 7 + 3, none⟩ = some (.int .i32 (xs.getD j step0).f) ∧ wr.cell? ⟨pg, j % 4096 * 7 + 4, none⟩ = some (.int .i32 (xs.getD j step0).q) ∧ wr.cell? ⟨pg, j % 4096 * 7 + 5, none⟩ = some (.int .u8 (xs.getD j step0).t) ∧ wr.cell? ⟨pg, j % 4096 * 7 + 6, none⟩ = some (.int .u8 0) := by
  obtain ⟨np, tp, R, b, hjj⟩ := h
  obtain ⟨_, _, hr⟩ := (hjj j hj).1
  exact ⟨np.getD (j / 4096) 0, at_calls R j _ hj (by omega) rfl, hr 0 _ rfl, hr 1 _ rfl, hr 2 _ rfl, hr 3 _ rfl, hr 4 _ rfl, hr 5 _ rfl, hr 6 _ rfl⟩

/-- One round of the law's second loop, its end. -/
theorem eK_succ (xs : List Step) (k : Nat) : eK xs (k + 1) = aK xs k + (xs.getD k step0).name.size := rfl

theorem InvR.drewN {xs : List Step} {w wr : World} {k : Nat} (h : InvR xs w k wr) (q : Nat) : InvR xs w k (wr.drewN q) := by
  obtain ⟨np, tp, R, b, hj⟩ := h
  exact ⟨np, tp, R.drewN q, below_drewN b q, fun j hk => ⟨(hj j hk).1, (hj j hk).2⟩⟩
theorem InvR.holds {xs : List Step} {w wr : World} {k : Nat} (h : InvR xs w k wr) (j : Nat) (hj : j < k) (hk : k ≤ xs.length) (hx : xs.length ≤ 256) (hs : ∀ j, j < xs.length → (xs.getD j step0).name.size ≤ 1024) :
    Calls Ybad.prog 7 #[.pointer (some ⟨w.heap.size, 0, none⟩), .int .u32 (aK xs j), .string (xs.getD j step0).name] wr fun e' w' => e' = .returned (.bool true) ∧ w' = wr := by
  have he := eK_le xs hs k hk
  have hA := (atOf_le (eK xs j) (xs.getD j step0).name.size).2
  have hm := eK_mono xs j k (by omega)
  obtain ⟨np, tp, R, b, hjj⟩ := h
  have f := R.fitT
  refine holds_calls R (by omega) (aK xs j) ?_ _ (hjj j hj).2
  show atOf _ _ < _
  omega

set_option maxHeartbeats 1000000 in
set_option maxRecDepth 100000 in
theorem rec_many (w : World) (a : Option Addr) (n cap : Nat) (h : 256 < n) (hm : n ≤ maxLen) :
    Calls Ybad.prog 3 #[.slice a n cap] w fun e w' => e = .returned (.bool true) ∧ Below w.heap.size w w' := by
  unfold maxLen at hm
  have d0 : decide (256 < (n : Int)) = true := by simp; omega
  go_enter Ybad.func3, Ybad.ntmps3
  go_wp2
  go_ret
  exact ⟨rfl, Below.refl _ _⟩

set_option maxHeartbeats 1000000 in
set_option maxRecDepth 100000 in
theorem rec_walk (w : World) (a : Option Addr) (cap : Nat) (xs : List Step) (hx : IsSteps w a xs) (h : xs.length ≤ 256) :
    Calls Ybad.prog 3 #[.slice a xs.length cap] w fun e w' => e = .returned (.bool true) ∧ Below w.heap.size w w' := by
  have d0 : decide (256 < (xs.length : Int)) = false := by simp; omega
  go_enter Ybad.func3, Ybad.ntmps3
  go_wp2_with fail
  go_loop [20] (fun i => ∃ k : Nat, k ≤ xs.length ∧ i = .int .i64 k ∧ ∀ j, j < k → (xs.getD j step0).name.size ≤ 1024) (fun i => xs.length - (intOf i).toNat)
  case atStart => exact ⟨0, Nat.zero_le _, rfl, fun j hj => by omega⟩
  case round =>
    obtain ⟨k, hk, rfl, hsz⟩ := hrel
    by_cases hlt : k < xs.length
    · rcases hx with rfl | ⟨b, o, rfl, hc⟩
      · simp at hlt
      obtain ⟨c0, _, _, _, _⟩ := hc k hlt
      generalize hst : xs.getD k step0 = st at *
      by_cases hbig : 1024 < st.name.size
      · have d1 : decide (1024 < (st.name.size : Int)) = true := by simp; omega
        clear hst hsz hc
        go_wp2
        go_ret
        exact ⟨rfl, Below.refl _ _⟩
      · have d1 : decide (1024 < (st.name.size : Int)) = false := by simp; omega
        have Hst := hide hst
        have Hsz := hide hsz
        clear hst hsz hc
        go_wp2
        go_round
        case rel => exact ⟨k + 1, by omega, by go_num, fun j hj => by
          by_cases e : j = k
          · subst e; rw [Hst.out]; omega
          · exact Hsz.out j (by omega)⟩
        case measure => simp [intOf]; omega
    · have hkn : k = xs.length := by omega
      subst hkn
      have Hsz := hide hsz
      clear hsz
      go_wp2_with fail
      go_loopw [35, 5] (fun i en wr => ∃ k : Nat, k ≤ xs.length ∧ i = .int .i64 k ∧ en = .int .u64 (eK xs k) ∧ InvR xs w k wr) (fun i _ _ => xs.length - (intOf i).toNat)
      case atStart => exact ⟨0, Nat.zero_le _, rfl, rfl, invR_start xs w⟩
      case round =>
        obtain ⟨k, hk, rfl, rfl, hI⟩ := hrel
        by_cases hlt : k < xs.length
        · rcases hx with rfl | ⟨b, o, rfl, hc⟩
          · simp at hlt
          obtain ⟨c0, c1, c2, c3, c4⟩ := hc k hlt
          have hbw : b < w.heap.size := World.block_lt_of_cell? w _ c0
          have hbel : Below w.heap.size w wr := by obtain ⟨_, _, _, hb, _⟩ := hI; exact hb
          rw [← hbel.cell (p := ⟨b, _, none⟩) hbw] at c0 c1 c2 c3 c4
          have hl := Hsz.out k hlt
          have he := eK_le xs Hsz.out k (by omega)
          have hE := eK_succ xs k
          have hAA : aK xs k = atOf (eK xs k) (xs.getD k step0).name.size := rfl
          have hcall := fun C hC => invR_step hI hlt h Hsz.out C hC
          have hnode := fun w1 (hI1 : InvR xs w (k + 1) w1) => invR_node hI1 k (by omega) (by omega)
          generalize hst : xs.getD k step0 = st at *
          generalize hee : eK xs k = e at *
          generalize haa : aK xs k = A at *
          have HE := hide hE
          have HAA := hide hAA
          have Hcall := hide hcall
          have Hnode := hide hnode
          clear hE hAA hcall hnode hst hee haa hI hc hbel
          have hkn : k < 256 := by omega
          go_wp2_with fail
          refine (Hcall.out _ rfl).mono ?_
          rintro er w1 ⟨rfl, hI1, hsb⟩
          obtain ⟨pg, hat, n0, n1, n2, n3, n4, n5, n6⟩ := Hnode.out w1 hI1
          have hsl : wr.heap.size < w1.heap.size := (Array.getElem?_eq_some_iff.1 hsb).1
          have g0 : w1.cell? ⟨wr.heap.size, 0, none⟩ = some (.string st.name) := cell_of_row w1 _ 0 _ _ _ hsb
          have g1 : w1.cell? ⟨wr.heap.size, 1, none⟩ = some (.int .i32 st.p) := cell_of_row w1 _ 1 _ _ _ hsb
          have g2 : w1.cell? ⟨wr.heap.size, 2, none⟩ = some (.int .i32 st.f) := cell_of_row w1 _ 2 _ _ _ hsb
          have g3 : w1.cell? ⟨wr.heap.size, 3, none⟩ = some (.int .i32 st.q) := cell_of_row w1 _ 3 _ _ _ hsb
          have g4 : w1.cell? ⟨wr.heap.size, 4, none⟩ = some (.int .u8 st.t) := cell_of_row w1 _ 4 _ _ _ hsb
          have HI1 := hide hI1
          have hpl : pg < w1.heap.size := World.block_lt_of_cell? w1 _ n0
          clear hI1 hsb Hnode Hcall c0 c1 c2 c3 c4
          by_cases l0 : st.name.size = 0
          · have HA : Hid (A = e) := by unfold Hid; rw [HAA.out]; unfold atOf; rw [if_pos l0]
            have d1 : ¬ 0 < st.name.size := by omega
            rw [HA.out] at n0
            have Hl0 := hide l0
            clear l0
            go_wp2_with (first | (go_at_call 6; refine hat.out.mono ?_; rintro e w' ⟨rfl, rfl⟩))
            go_roundw
            case rel => exact ⟨k + 1, by omega, by go_num, by rw [HE.out, HA.out]; rw [Hl0.out]; simp, HI1.out.alloc _⟩
            case measure => simp [intOf]; omega
          · have d1 : 0 < st.name.size := by omega
            by_cases i0 : e % 65536 = 0
            · have b0 : ((e : Int) % 65536 != 0) = false := by simp; omega
              have HA : Hid (A = e) := by unfold Hid; rw [HAA.out]; unfold atOf; rw [if_neg l0, if_neg (by omega)]
              rw [HA.out] at n0
              have Hi0 := hide i0
              clear i0
              go_wp2_with (first | (go_at_call 6; refine hat.out.mono ?_; rintro e w' ⟨rfl, rfl⟩))
              go_roundw
              case rel => exact ⟨k + 1, by omega, by go_num, by rw [HE.out, HA.out]; simp, HI1.out.alloc _⟩
              case measure => simp [intOf]; omega
            · have b0 : ((e : Int) % 65536 != 0) = true := by simp; omega
              by_cases i1 : 65536 < e % 65536 + st.name.size
              · have b2 : 65536 < (e : Int) % 65536 + (st.name.size : Int) := by omega
                have HA : Hid (A = e + (65536 - e % 65536)) := by unfold Hid; rw [HAA.out]; unfold atOf; rw [if_neg l0, if_pos ⟨i0, i1⟩]; omega
                have n0' : w1.cell? ⟨pg, k % 4096 * 7, none⟩ = some (.int .u32 ((e : Int) + (65536 - (e : Int) % 65536))) := by rw [n0, HA.out]; congr 2; omega
                clear n0
                go_wp2_with (first | (go_at_call 6; refine hat.out.mono ?_; rintro e w' ⟨rfl, rfl⟩))
                go_roundw
                case rel => exact ⟨k + 1, by omega, by go_num, by rw [HE.out, HA.out]; (congr 1; omega), HI1.out.alloc _⟩
                case measure => simp [intOf]; omega
              · have b2 : ¬ 65536 < (e : Int) % 65536 + (st.name.size : Int) := by omega
                have HA : Hid (A = e) := by unfold Hid; rw [HAA.out]; unfold atOf; rw [if_neg l0, if_neg (by omega)]
                rw [HA.out] at n0
                go_wp2_with (first | (go_at_call 6; refine hat.out.mono ?_; rintro e w' ⟨rfl, rfl⟩))
                go_roundw
                case rel => exact ⟨k + 1, by omega, by go_num, by rw [HE.out, HA.out]; simp, HI1.out.alloc _⟩
                case measure => simp [intOf]; omega
        · have hkn : k = xs.length := by omega
          subst hkn
          have h1 : wr.cell? ⟨w.heap.size, 1, none⟩ = some (.int .i64 xs.length) := by obtain ⟨_, _, R, _, _⟩ := hI; exact R.core.c1
          have b1 : ((xs.length : Int) != (xs.length : Int)) = false := by simp
          have HI := hide hI
          clear hI
          go_wp2_with fail
          go_loopw [158] (fun i wr => ∃ k : Nat, k ≤ xs.length ∧ i = .int .i64 k ∧ InvR xs w xs.length wr) (fun i _ => xs.length - (intOf i).toNat)
          case atStart => exact ⟨0, Nat.zero_le _, rfl, HI.out⟩
          case round =>
            obtain ⟨k, hk, rfl, hI⟩ := hrel
            clear HI h1
            by_cases hlt : k < xs.length
            · rcases hx with rfl | ⟨b, o, rfl, hc⟩
              · simp at hlt
              obtain ⟨c0, _, _, _, _⟩ := hc k hlt
              have hbw : b < w.heap.size := World.block_lt_of_cell? w _ c0
              have hbel : Below w.heap.size w wr := by obtain ⟨_, _, _, hb, _⟩ := hI; exact hb
              rw [← hbel.cell (p := ⟨b, _, none⟩) hbw] at c0
              obtain ⟨pg, hat, n0, _⟩ := invR_node hI k hlt h
              have hh := fun q => (hI.drewN q).holds k hlt (Nat.le_refl _) h Hsz.out
              generalize hst : xs.getD k step0 = st at *
              generalize haa : aK xs k = A at *
              have Hh := hide hh
              have HI := hide hI
              have hkn : k < 256 := by omega
              clear hh hI hst haa hc hbel
              go_wp2_with (first | (go_at_call 6; refine hat.out.mono ?_; rintro e w' ⟨rfl, rfl⟩))
              go_quiet ((go_at_call 7; exact Calls.quiet_of_same (Hh.out _)))
              go_wp2
              go_roundw
              case rel => exact ⟨k + 1, by omega, by go_num, HI.out.drewN _⟩
              case measure => simp [intOf]; omega
            · have hbel : Below w.heap.size w wr := by obtain ⟨_, _, _, hb, _⟩ := hI; exact hb
              clear hI
              go_wp2
              go_ret
              exact ⟨rfl, hbel⟩
end Go.Proofs.YbulkapoqDoor
