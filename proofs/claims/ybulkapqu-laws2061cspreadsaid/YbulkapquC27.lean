import Derived.Test.YbulkapquC26
import Derived.Laws.MakeOwn
import Derived.WideMake
namespace Go.Proofs.Ybulkapqu
open Go.RowKit Go.Sort

/-! ### Many makes in one region that draws its order -/
def upd {α : Type} (f : Nat → α) (i : Nat) (v : α) : Nat → α := fun k => if k = i then v else f k
theorem wpAnyH_more {P : Program} {md : Region.Mode} {ops : Array Oper} {Q : Exit → Act → World → Prop} {S : World → Prop} : ∀ {n m : Nat} {listed : Array Bool} {a : Act} {w : World}, n ≤ m → wpAnyH P md ops Q S n listed a w → wpAnyH P md ops Q S m listed a w := by
  intro n
  induction n with
  | zero =>
    intro m listed a w _ h
    cases m with
    | zero => exact h
    | succ m => exact ⟨fun _ => h.2, fun i hi => by rw [h.1] at hi; cases hi⟩
  | succ n ih =>
    intro m listed a w hm h
    cases m with
    | zero => omega
    | succ m => exact ⟨h.1, fun i hi => wpOp_mono (fun a' w' h' => ⟨h'.1, ih (by omega) h'.2⟩) (h.2 i hi)⟩
theorem countP_lt_of {α : Type} (M : List α) (p q : α → Bool) (h : ∀ x ∈ M, p x = true → q x = true) (x : α) (hx : x ∈ M) (hp : p x = false) (hq : q x = true) : M.countP p < M.countP q := by
  induction M with
  | nil => cases hx
  | cons y r ih =>
    have hle : r.countP p ≤ r.countP q := List.countP_mono_left (fun z hz hz' => h z (List.mem_cons_of_mem _ hz) hz')
    rcases List.mem_cons.1 hx with rfl | hx
    · rw [List.countP_cons, List.countP_cons, hp, hq]; simp; omega
    · have := ih (fun z hz => h z (List.mem_cons_of_mem _ hz)) hx
      rw [List.countP_cons, List.countP_cons]
      have hy := h y (List.mem_cons_self ..)
      cases hpy : p y with
      | false => simp; cases q y <;> simp <;> omega
      | true => rw [hy hpy]; simp; omega
theorem wp_makeMap {P : Program} {o : Oper} {a : Act} {w : World} {K : Act → World → Prop} {Q : Exit → Act → World → Prop} (t : TypeId) (ho : o.op = .makeMap t none) (h : K (a.put o.dst (.map (some w.heap.size))) (w.alloc (.map #[] 0))) : o.wp P a w K Q := by
  unfold Oper.wp execOp
  simp only [ho, Option.map_none, Sem.run_bind, Sem.run_pure, Result.andThen_ok, run_makeMap_plain]
  exact h
theorem wp_makeSlice {P : Program} {o : Oper} {a : Act} {w : World} {K : Act → World → Prop} {Q : Exit → Act → World → Prop} (t : TypeId) (x : Operand) (ho : o.op = .makeSlice t x x) (n : Nat) (hx : a.eval x = .int .i64 (n : Int)) (C : Array Value) (e : TypeId)
    (hr : (Instr.makeSlice t (.int .i64 (n : Int)) (.int .i64 (n : Int))).run P w = .ok (.slice (some ⟨w.heap.size, 0, none⟩) n n) (w.alloc (.cells C e))) (h : K (a.put o.dst (.slice (some ⟨w.heap.size, 0, none⟩) n n)) (w.alloc (.cells C e))) : o.wp P a w K Q := by
  unfold Oper.wp execOp
  simp only [ho, hx, Sem.run_bind, Sem.run_pure, Result.andThen_ok, hr]
  exact h
theorem makes_ind {P : Program} {md : Region.Mode} {ops : Array Oper} {Q : Exit → Act → World → Prop} {S : World → Prop} (M : List Nat) (I : (Nat → Bool) → Act → World → Prop) (lst : (Nat → Bool) → Array Bool)
    (hset : ∀ B i, i ∈ M → (lst B).setIfInBounds i true = lst (upd B i true))
    (hready : ∀ B, (∃ i, i ∈ M ∧ B i = false) → (∀ i ∈ Region.ready md ops (lst B), i ∈ M ∧ B i = false) ∧ Region.ready md ops (lst B) ≠ [])
    (hS : ∀ B a W, I B a W → S W)
    (hstep : ∀ B a W i, I B a W → i ∈ M → B i = false → ∀ K : Act → World → Prop, (∀ a' W', I (upd B i true) a' W' → K a' W') → wpOp P ops Q i K a W)
    (k : Nat) (hdone : ∀ B a W, (∀ i ∈ M, B i = true) → I B a W → wpAnyH P md ops Q S k (lst B) a W) :
    ∀ n B a W, (M.filter (fun i => !B i)).length ≤ n → I B a W → wpAnyH P md ops Q S (n + k) (lst B) a W := by
  intro n
  induction n with
  | zero =>
    intro B a W hn hI
    have hall : ∀ i ∈ M, B i = true := fun i hi => by
      by_cases h : B i = true
      · exact h
      · have : i ∈ M.filter (fun i => !B i) := List.mem_filter.2 ⟨hi, by simpa using h⟩
        have e : M.filter (fun i => !B i) = [] := List.eq_nil_of_length_eq_zero (by omega)
        rw [e] at this
        simp at this
    rw [Nat.zero_add]
    exact hdone B a W hall hI
  | succ n ih =>
    intro B a W hn hI
    by_cases hall : ∀ i ∈ M, B i = true
    · have := hdone B a W hall hI
      exact wpAnyH_more (by omega) this
    · have hex : ∃ i, i ∈ M ∧ B i = false := by
        by_cases h : ∃ i, i ∈ M ∧ B i = false
        · exact h
        · exact absurd (fun i hi => by
            by_cases h' : B i = true
            · exact h'
            · exact absurd ⟨i, hi, by simpa using h'⟩ h) hall
      obtain ⟨hr1, hr2⟩ := hready B hex
      rw [show n + 1 + k = (n + k) + 1 by omega]
      refine ⟨fun e => absurd e hr2, fun i hi => ?_⟩
      obtain ⟨him, hB⟩ := hr1 i hi
      refine hstep B a W i hI him hB _ (fun a' W' hI' => ⟨hS _ _ _ hI', ?_⟩)
      rw [hset B i him]
      refine ih _ _ _ ?_ hI'
      have hlt : (M.filter (fun j => !(upd B i true) j)).length < (M.filter (fun j => !B j)).length := by
        rw [← List.countP_eq_length_filter, ← List.countP_eq_length_filter]
        refine countP_lt_of M _ _ (fun j _ h => ?_) i him ?_ ?_
        · unfold upd at h
          by_cases e : j = i
          · simp [e] at h
          · simpa [e] using h
        · simp [upd]
        · simp [hB]
      omega

/-! ### newKeeping -/
def z79 : List Value := [.int .i64 0, .map none, .map none, .map none, .map none, .slice none 0 0, .slice none 0 0, .slice none 0 0, .slice none 0 0, .slice none 0 0, .slice none 0 0, .map none, .map none, .slice none 0 0, .slice none 0 0, .map none, .bool false] ++ (idV z20 ++ [.bool false, .slice none 0 0])
theorem z79_eq : (z79).toArray = #[.int .i64 0, .map none, .map none, .map none, .map none, .slice none 0 0, .slice none 0 0, .slice none 0 0, .slice none 0 0, .slice none 0 0, .slice none 0 0, .map none, .map none, .slice none 0 0, .slice none 0 0, .map none, .bool false, .int .u8 0, .int .u8 0, .int .u8 0, .int .u8 0, .int .u8 0, .int .u8 0, .int .u8 0, .int .u8 0, .int .u8 0, .int .u8 0, .int .u8 0, .int .u8 0, .int .u8 0, .int .u8 0, .int .u8 0, .int .u8 0, .int .u8 0, .int .u8 0, .int .u8 0, .int .u8 0, .bool false, .slice none 0 0] := rfl
def lst36 (B : Nat → Bool) : Array Bool := #[B 0, B 1, B 2, B 3, true, B 5, true, B 7, B 8, B 9, true, B 11, false, false]
def act36 (nr S : Nat) (σ : Nat → Value) : Act := { tmps := #[.int .i64 (nr : Int), undef, .pointer (some ⟨S, 0, none⟩), σ 0, σ 1, σ 2, σ 3, .int .i64 (nr : Int), σ 5, .int .i64 (nr : Int), σ 7, σ 8, σ 9, .int .i64 (nr : Int), σ 11, undef], defers := [] }
structure KI (w : World) (nr S : Nat) (B : Nat → Bool) (σ : Nat → Value) (W : World) : Prop where
  gr : Gr w W
  box : At W S (z79).toArray 79
  maps : ∀ i, i ∈ [0, 1, 2, 3, 8, 9] → B i = true → ∃ b, σ i = .map (some b) ∧ w.heap.size < b ∧ W.heap[b]? = some (.map #[] 0)
  slcs : ∀ i, i ∈ [5, 7, 11] → B i = true → ∃ b, σ i = .slice (some ⟨b, 0, none⟩) nr nr
  apart : ∀ i j, i ∈ [0, 1, 2, 3, 8, 9] → j ∈ [0, 1, 2, 3, 8, 9] → i ≠ j → B i = true → B j = true → σ i ≠ σ j
theorem KI.map {w : World} {nr S : Nat} {B : Nat → Bool} {σ : Nat → Value} {W : World} (h : KI w nr S B σ W) (hS : S = w.heap.size) (i : Nat) (hi : i ∈ [0, 1, 2, 3, 8, 9]) : KI w nr S (upd B i true) (upd σ i (.map (some W.heap.size))) (W.alloc (.map #[] 0)) := by
  have hlt := h.box.lt
  have hold : ∀ (b : Nat) (o : Obj), W.heap[b]? = some o → b < W.heap.size := fun b o hb => (Array.getElem?_eq_some_iff.1 hb).1
  refine ⟨h.gr.alloc _, h.box.alloc _, fun j hj hB => ?_, fun j hj hB => ?_, fun j k hj hk hne hBj hBk => ?_⟩
  · by_cases e : j = i
    · subst e
      exact ⟨W.heap.size, by simp [upd], by omega, heap_alloc_new W _⟩
    · obtain ⟨b, h1, h2, h3⟩ := h.maps j hj (by simpa [upd, e] using hB)
      exact ⟨b, by simpa [upd, e] using h1, h2, (Below.heap_alloc W _ b (hold b _ h3)).trans h3⟩
  · have e : j ≠ i := by rintro rfl; simp at hi hj; omega
    simpa [upd, e] using h.slcs j hj (by simpa [upd, e] using hB)
  · by_cases ej : j = i
    · subst ej
      have ek : k ≠ j := fun e => hne e.symm
      obtain ⟨b, h1, h2, h3⟩ := h.maps k hk (by simpa [upd, ek] using hBk)
      have := hold b _ h3
      simp only [upd, if_pos, if_neg ek, h1]
      intro e; injection e with e; injection e with e; omega
    · by_cases ek : k = i
      · subst ek
        obtain ⟨b, h1, h2, h3⟩ := h.maps j hj (by simpa [upd, ej] using hBj)
        have := hold b _ h3
        simp only [upd, if_pos, if_neg ej, h1]
        intro e; injection e with e; injection e with e; omega
      · simpa [upd, ej, ek] using h.apart j k hj hk hne (by simpa [upd, ej] using hBj) (by simpa [upd, ek] using hBk)
theorem KI.slc {w : World} {nr S : Nat} {B : Nat → Bool} {σ : Nat → Value} {W : World} (h : KI w nr S B σ W) (i : Nat) (hi : i ∈ [5, 7, 11]) (C : Array Value) (t : TypeId) : KI w nr S (upd B i true) (upd σ i (.slice (some ⟨W.heap.size, 0, none⟩) nr nr)) (W.alloc (.cells C t)) := by
  have hold : ∀ (b : Nat) (o : Obj), W.heap[b]? = some o → b < W.heap.size := fun b o hb => (Array.getElem?_eq_some_iff.1 hb).1
  have hmi : ∀ j, j ∈ [0, 1, 2, 3, 8, 9] → j ≠ i := fun j hj => by rintro rfl; simp at hi hj; omega
  refine ⟨h.gr.alloc _, h.box.alloc _, fun j hj hB => ?_, fun j hj hB => ?_, fun j k hj hk hne hBj hBk => ?_⟩
  · have e := hmi j hj
    obtain ⟨b, h1, h2, h3⟩ := h.maps j hj (by simpa [upd, e] using hB)
    exact ⟨b, by simpa [upd, e] using h1, h2, (Below.heap_alloc W _ b (hold b _ h3)).trans h3⟩
  · by_cases e : j = i
    · subst e; exact ⟨W.heap.size, by simp [upd]⟩
    · simpa [upd, e] using h.slcs j hj (by simpa [upd, e] using hB)
  · have ej := hmi j hj
    have ek := hmi k hk
    simpa [upd, ej, ek] using h.apart j k hj hk hne (by simpa [upd, ej] using hBj) (by simpa [upd, ek] using hBk)
def keepV (nr st de su wa p5 p7 e8 i9 s11 : Nat) (rv : List UInt8) : List Value := [.int .i64 0, .map (some st), .map (some de), .map (some su), .map (some wa), .slice none 0 0, .slice (some ⟨p5, 0, none⟩) nr nr, .slice (some ⟨p7, 0, none⟩) nr nr, .slice none 0 0, .slice none 0 0, .slice none 0 0, .map (some e8), .map (some i9), .slice none 0 0, .slice none 0 0, .map none, .bool false] ++ (idV rv ++ [.bool false, .slice (some ⟨s11, 0, none⟩) nr nr])
set_option maxRecDepth 100000 in
theorem built79 (nr st de su wa p5 p7 e8 i9 s11 : Nat) : Yba.prog.built 79 [(1, .map (some st)), (2, .map (some de)), (3, .map (some su)), (4, .map (some wa)), (6, .slice (some ⟨p5, 0, none⟩) nr nr), (7, .slice (some ⟨p7, 0, none⟩) nr nr), (11, .map (some e8)), (12, .map (some i9)), (19, .slice (some ⟨s11, 0, none⟩) nr nr)] = some (keepV nr st de su wa p5 p7 e8 i9 s11 z20).toArray := by kernel_rfl
theorem keepV_one (nr st de su wa p5 p7 e8 i9 s11 : Nat) (rv : List UInt8) : ∀ v ∈ keepV nr st de su wa p5 p7 e8 i9 s11 rv, v.oneCell' = true := fun v hv => by
  rcases List.mem_append.1 hv with h | h
  · simp only [List.mem_cons, List.not_mem_nil, or_false] at h
    rcases h with h | h | h | h | h | h | h | h | h | h | h | h | h | h | h | h | h <;> subst h <;> rfl
  · rcases List.mem_append.1 h with h | h
    · exact idV_one _ v h
    · simp only [List.mem_cons, List.not_mem_nil, or_false] at h
      rcases h with h | h <;> subst h <;> rfl
set_option maxRecDepth 100000 in
theorem length_keepV (nr st de su wa p5 p7 e8 i9 s11 : Nat) (rv : List UInt8) (hr : rv.length = 20) : (keepV nr st de su wa p5 p7 e8 i9 s11 rv).length = 39 := by unfold keepV; rw [List.length_append, List.length_append, length_idV, hr]; rfl
theorem info79 : (Yba.prog.info? 79).map (·.size) = some 39 := by kernel_rfl
theorem map_new {w : World} {b : Nat} (h : w.heap[b]? = some (.map #[] 0)) : MapAt w b [] := ⟨by simp, [], 0, h, rfl⟩
theorem mk_run (t e : TypeId) (i : TypeInfo) (z : Value) (ht : Yba.prog.underlying t = some (.slice e)) (hi : Yba.prog.info? e = some i) (hz : i.zero = some z) (hs : i.size ≤ 100) (hb : i.bytes ≤ 1000) (nr : Nat) (hnr : nr ≤ 2) (W : World) : ∃ C, (Instr.makeSlice t (.int .i64 (nr : Int)) (.int .i64 (nr : Int))).run Yba.prog W = .ok (.slice (some ⟨W.heap.size, 0, none⟩) nr nr) (W.alloc (.cells C e)) := by
  have h1 : nr * i.size ≤ 2 * 100 := Nat.mul_le_mul hnr hs
  have h2 : i.bytes * nr ≤ 1000 * 2 := Nat.mul_le_mul hb hnr
  have h2' : (i.bytes : Int) * (nr : Int) ≤ 2000 := by
    rw [← Int.natCast_mul]
    generalize i.bytes * nr = q at h2
    omega
  have := run_makeSlice (P := Yba.prog) W t e i z ht hi hz .i64 .i64 (nr : Int) (nr : Int) (by omega) (Int.le_refl _) (by rw [Int.toNat_natCast]; omega) (by omega) (by omega)
  rw [Int.toNat_natCast] at this
  exact ⟨_, this⟩
theorem mk_info (e : TypeId) (h : ((Yba.prog.info? e).map fun i => (i.zero.isSome && decide (i.size ≤ 100) && decide (i.bytes ≤ 1000))) = some true) : ∃ i z, Yba.prog.info? e = some i ∧ i.zero = some z ∧ i.size ≤ 100 ∧ i.bytes ≤ 1000 := by
  obtain ⟨i, hi, h⟩ := Option.map_eq_some_iff.1 h
  simp at h
  obtain ⟨⟨h1, h2⟩, h3⟩ := h
  obtain ⟨z, hz⟩ := Option.isSome_iff_exists.1 h1
  exact ⟨i, z, hi, hz, h2, h3⟩
set_option maxHeartbeats 4000000 in
set_option maxRecDepth 1000000 in
theorem newKeeping_calls (w : World) (nr : Nat) (hnr : nr ≤ 2) : Calls Yba.prog 36 #[.int .i64 (nr : Int)] w fun e w' => ∃ st de su wa p5 p7 e8 i9 s11, e = .returned (.agg (keepV nr st de su wa p5 p7 e8 i9 s11 z20).toArray) ∧ Gr w w' ∧ MapAt w' st [] ∧ MapAt w' de [] ∧ MapAt w' su [] ∧ MapAt w' wa [] ∧ w.heap.size < st ∧ w.heap.size < de ∧ w.heap.size < su ∧ w.heap.size < wa ∧ st ≠ de ∧ st ≠ su ∧ st ≠ wa ∧ de ≠ su ∧ de ≠ wa ∧ su ≠ wa := by
  have mixed : Yba.prog.follows .mixedOrders = true := by kernel_rfl
  obtain ⟨S, hS⟩ : ∃ S, S = w.heap.size := ⟨_, rfl⟩
  obtain ⟨w1, hw1⟩ : ∃ w1, w1 = w.alloc (.cells (z79).toArray 79) := ⟨_, rfl⟩
  have K0 : KI w nr S (fun _ => false) (fun _ => undef) w1.drew := by
    refine ⟨by rw [hw1]; exact ((Gr.refl w).alloc _).drew, ?_, by simp, by simp, by simp⟩
    rw [hw1, hS]; exact At.new w _ _
  obtain ⟨i69, y69, hi69, hz69, hs69, hb69⟩ := mk_info 235 (by kernel_rfl)
  obtain ⟨i26, y26, hi26, hz26, hs26, hb26⟩ := mk_info 3 (by kernel_rfl)
  obtain ⟨i77, y77, hi77, hz77, hs77, hb77⟩ := mk_info 91 (by kernel_rfl)
  have r69 := mk_run 69 235 i69 y69 Yba.underlying69 hi69 hz69 hs69 hb69 nr hnr
  have r26 := mk_run 26 3 i26 y26 Yba.underlying26 hi26 hz26 hs26 hb26 nr hnr
  have r77 := mk_run 77 91 i77 y77 Yba.underlying77 hi77 hz77 hs77 hb77 nr hnr
  have HM := hide (And.intro r69 (And.intro r26 r77))
  have HW := hide hw1
  have HS := hide hS
  have HZ := hide z79_eq
  have HK0 := hide K0
  clear hw1 hS K0 r69 r26 r77
  go_enter Yba.func36, Yba.ntmps36
  go_upto_region 1 with fail
  rw [← HZ.out, ← HW.out, ← HS.out]
  refine wp_region_held_drew (S := fun _ => True) (by kernel_rfl) trivial (fun hHeld => ?_)
  refine wpAnyH_take (i := 4) (v := ?_) rfl (by kernel_rfl) (by kernel_rfl) (by kernel_rfl) (fun _ _ _ h => h) (Or.inl ⟨by rfl, ?_⟩) (by assumption) ?_
  rotate_left
  · intro w hSw; go_simp; try with_reducible rfl
  refine wpAnyH_take (i := 6) (v := ?_) rfl (by kernel_rfl) (by kernel_rfl) (by kernel_rfl) (fun _ _ _ h => h) (Or.inl ⟨by rfl, ?_⟩) (by assumption) ?_
  rotate_left
  · intro w hSw; go_simp; try with_reducible rfl
  refine wpAnyH_take (i := 10) (v := ?_) rfl (by kernel_rfl) (by kernel_rfl) (by kernel_rfl) (fun _ _ _ h => h) (Or.inl ⟨by rfl, ?_⟩) (by assumption) ?_
  rotate_left
  · intro w hSw; go_simp; try with_reducible rfl
  simp only [Act.put, List.getElem_toArray, List.getElem_cons_succ, List.getElem_cons_zero, List.setIfInBounds_toArray, List.set_cons_zero, List.set_cons_succ]
  refine makes_ind [0, 1, 2, 3, 5, 7, 8, 9, 11] (fun B a W => ∃ σ, a = act36 nr S σ ∧ KI w nr S B σ W) lst36 ?_ ?_ (fun _ _ _ _ => trivial) ?_ 2 ?_ 9 (fun _ => false) _ _ (by decide) ⟨fun _ => undef, rfl, HK0.out⟩
  · intro B i hi
    simp at hi
    rcases hi with rfl | rfl | rfl | rfl | rfl | rfl | rfl | rfl | rfl <;> rfl
  · intro B hex
    refine ⟨fun i hi => ?_, fun e => ?_⟩
    · obtain ⟨h1, h2⟩ := List.mem_filter.1 hi
      have h3 : i < 14 := by simpa using h1
      obtain ⟨j, hj, hBj⟩ := hex
      have hc : i = 0 ∨ i = 1 ∨ i = 2 ∨ i = 3 ∨ i = 4 ∨ i = 5 ∨ i = 6 ∨ i = 7 ∨ i = 8 ∨ i = 9 ∨ i = 10 ∨ i = 11 ∨ i = 12 ∨ i = 13 := by omega
      rcases hc with rfl | rfl | rfl | rfl | rfl | rfl | rfl | rfl | rfl | rfl | rfl | rfl | rfl | rfl
      all_goals simp [lst36, Region.binds] at h2
      all_goals first
        | exact ⟨by simp, h2⟩
        | (exfalso; simp at hj; rcases hj with rfl | rfl | rfl | rfl | rfl | rfl | rfl | rfl | rfl <;> simp_all)
    · obtain ⟨j, hj, hBj⟩ := hex
      have : j ∈ ([] : List Nat) := by
        rw [← e]
        refine List.mem_filter.2 ⟨?_, ?_⟩
        · simp at hj ⊢; omega
        · simp at hj
          rcases hj with rfl | rfl | rfl | rfl | rfl | rfl | rfl | rfl | rfl <;> simp [lst36, hBj, Region.binds]
      simp at this
  · rintro B a W i ⟨σ, rfl, hK⟩ hi hB K hcont
    simp at hi
    rcases hi with rfl | rfl | rfl | rfl | rfl | rfl | rfl | rfl | rfl
    · refine wpOp_step rfl (fun K' hK' => ?_)
      rw [if_pos (by rfl)]
      refine wp_makeMap 65 rfl (hK' _ _ (hcont _ _ ⟨upd σ 0 (.map (some W.heap.size)), rfl, hK.map HS.out 0 (by simp)⟩))
    · refine wpOp_step rfl (fun K' hK' => ?_)
      rw [if_pos (by rfl)]
      refine wp_makeMap 66 rfl (hK' _ _ (hcont _ _ ⟨upd σ 1 (.map (some W.heap.size)), rfl, hK.map HS.out 1 (by simp)⟩))
    · refine wpOp_step rfl (fun K' hK' => ?_)
      rw [if_pos (by rfl)]
      refine wp_makeMap 66 rfl (hK' _ _ (hcont _ _ ⟨upd σ 2 (.map (some W.heap.size)), rfl, hK.map HS.out 2 (by simp)⟩))
    · refine wpOp_step rfl (fun K' hK' => ?_)
      rw [if_pos (by rfl)]
      refine wp_makeMap 67 rfl (hK' _ _ (hcont _ _ ⟨upd σ 3 (.map (some W.heap.size)), rfl, hK.map HS.out 3 (by simp)⟩))
    · obtain ⟨C, hC⟩ := HM.out.1 W
      refine wpOp_step rfl (fun K' hK' => ?_)
      rw [if_pos (by rfl)]
      refine wp_makeSlice 69 _ rfl nr rfl C _ hC (hK' _ _ (hcont _ _ ⟨upd σ 5 (.slice (some ⟨W.heap.size, 0, none⟩) nr nr), rfl, hK.slc 5 (by simp) C _⟩))
    · obtain ⟨C, hC⟩ := HM.out.2.1 W
      refine wpOp_step rfl (fun K' hK' => ?_)
      rw [if_pos (by rfl)]
      refine wp_makeSlice 26 _ rfl nr rfl C _ hC (hK' _ _ (hcont _ _ ⟨upd σ 7 (.slice (some ⟨W.heap.size, 0, none⟩) nr nr), rfl, hK.slc 7 (by simp) C _⟩))
    · refine wpOp_step rfl (fun K' hK' => ?_)
      rw [if_pos (by rfl)]
      refine wp_makeMap 72 rfl (hK' _ _ (hcont _ _ ⟨upd σ 8 (.map (some W.heap.size)), rfl, hK.map HS.out 8 (by simp)⟩))
    · refine wpOp_step rfl (fun K' hK' => ?_)
      rw [if_pos (by rfl)]
      refine wp_makeMap 73 rfl (hK' _ _ (hcont _ _ ⟨upd σ 9 (.map (some W.heap.size)), rfl, hK.map HS.out 9 (by simp)⟩))
    · obtain ⟨C, hC⟩ := HM.out.2.2 W
      refine wpOp_step rfl (fun K' hK' => ?_)
      rw [if_pos (by rfl)]
      refine wp_makeSlice 77 _ rfl nr rfl C _ hC (hK' _ _ (hcont _ _ ⟨upd σ 11 (.slice (some ⟨W.heap.size, 0, none⟩) nr nr), rfl, hK.slc 11 (by simp) C _⟩))
  · rintro B a W hall ⟨σ, rfl, hK⟩
    obtain ⟨st, e0, l0, m0⟩ := hK.maps 0 (by simp) (hall 0 (by simp))
    obtain ⟨de, e1, l1, m1⟩ := hK.maps 1 (by simp) (hall 1 (by simp))
    obtain ⟨su, e2, l2, m2⟩ := hK.maps 2 (by simp) (hall 2 (by simp))
    obtain ⟨wa, e3, l3, m3⟩ := hK.maps 3 (by simp) (hall 3 (by simp))
    obtain ⟨e8, e8e, l8, m8⟩ := hK.maps 8 (by simp) (hall 8 (by simp))
    obtain ⟨i9, e9, l9, m9⟩ := hK.maps 9 (by simp) (hall 9 (by simp))
    obtain ⟨p5, e5⟩ := hK.slcs 5 (by simp) (hall 5 (by simp))
    obtain ⟨p7, e7⟩ := hK.slcs 7 (by simp) (hall 7 (by simp))
    obtain ⟨s11, e11⟩ := hK.slcs 11 (by simp) (hall 11 (by simp))
    have n01 : st ≠ de := fun e => hK.apart 0 1 (by simp) (by simp) (by simp) (hall 0 (by simp)) (hall 1 (by simp)) (by rw [e0, e1, e])
    have n02 : st ≠ su := fun e => hK.apart 0 2 (by simp) (by simp) (by simp) (hall 0 (by simp)) (hall 2 (by simp)) (by rw [e0, e2, e])
    have n03 : st ≠ wa := fun e => hK.apart 0 3 (by simp) (by simp) (by simp) (hall 0 (by simp)) (hall 3 (by simp)) (by rw [e0, e3, e])
    have n12 : de ≠ su := fun e => hK.apart 1 2 (by simp) (by simp) (by simp) (hall 1 (by simp)) (hall 2 (by simp)) (by rw [e1, e2, e])
    have n13 : de ≠ wa := fun e => hK.apart 1 3 (by simp) (by simp) (by simp) (hall 1 (by simp)) (hall 3 (by simp)) (by rw [e1, e3, e])
    have n23 : su ≠ wa := fun e => hK.apart 2 3 (by simp) (by simp) (by simp) (hall 2 (by simp)) (hall 3 (by simp)) (by rw [e2, e3, e])
    have hB : lst36 B = #[true, true, true, true, true, true, true, true, true, true, true, true, false, false] := by
      unfold lst36
      rw [hall 0 (by simp), hall 1 (by simp), hall 2 (by simp), hall 3 (by simp), hall 5 (by simp), hall 7 (by simp), hall 8 (by simp), hall 9 (by simp), hall 11 (by simp)]
    have hact : act36 nr S σ = { tmps := #[.int .i64 (nr : Int), undef, .pointer (some ⟨S, 0, none⟩), .map (some st), .map (some de), .map (some su), .map (some wa), .int .i64 (nr : Int), .slice (some ⟨p5, 0, none⟩) nr nr, .int .i64 (nr : Int), .slice (some ⟨p7, 0, none⟩) nr nr, .map (some e8), .map (some i9), .int .i64 (nr : Int), .slice (some ⟨s11, 0, none⟩) nr nr, undef], defers := [] } := by
      unfold act36
      rw [e0, e1, e2, e3, e5, e7, e8e, e9, e11]
    rw [hB, hact]
    have HBu := hide (built79 nr st de su wa p5 p7 e8 i9 s11)
    obtain ⟨V, hV⟩ : ∃ V, V = keepV nr st de su wa p5 p7 e8 i9 s11 z20 := ⟨_, rfl⟩
    have hVl : V.length = 39 := by rw [hV]; exact length_keepV _ _ _ _ _ _ _ _ _ _ _ rfl
    have hVo : ∀ v ∈ V, v.oneCell' = true := by rw [hV]; exact keepV_one _ _ _ _ _ _ _ _ _ _ _
    rw [← hV] at HBu
    have hz : (z79).length = 39 := rfl
    have T1 : W.there S 0 V.toArray.size := by
      have := At.there hK.box 0 39 (by rw [hz]; omega)
      simpa [hVl] using this
    have HN : (Yba.prog.info? 79).map (·.size) = some V.toArray.size := by
      have e : V.toArray.size = 39 := by simp [hVl]
      rw [e]; exact info79
    have hR : At (W.setCells S 0 V) S V.toArray 79 := hK.box.lput (by rw [hVl, hz])
    have hG : Gr w (W.setCells S 0 V) := Gr.setCells _ (by rw [HS.out]; exact Nat.le_refl _) _ _ _ hK.gr
    have hMap : ∀ b, w.heap.size < b → W.heap[b]? = some (.map #[] 0) → MapAt (W.setCells S 0 V) b [] := fun b hb h => map_new ((heap_setCells_other _ _ (by rw [HS.out]; omega) _ _ _).trans h)
    have HF : Hid (Gr w (W.setCells S 0 V) ∧ MapAt (W.setCells S 0 V) st [] ∧ MapAt (W.setCells S 0 V) de [] ∧ MapAt (W.setCells S 0 V) su [] ∧ MapAt (W.setCells S 0 V) wa [] ∧ w.heap.size < st ∧ w.heap.size < de ∧ w.heap.size < su ∧ w.heap.size < wa ∧ st ≠ de ∧ st ≠ su ∧ st ≠ wa ∧ de ≠ su ∧ de ≠ wa ∧ su ≠ wa) := ⟨hG, hMap _ l0 m0, hMap _ l1 m1, hMap _ l2 m2, hMap _ l3 m3, l0, l1, l2, l3, n01, n02, n03, n12, n13, n23⟩
    have HR := hide hR
    have HT1 := hide T1
    have HNn := hide HN
    have HVo := hide (all_oneCell_toArray hVo)
    have HVe := hide hV
    clear hR hG hMap T1 HN hVo hB hact hall hK e0 e1 e2 e3 e5 e7 e8e e9 e11 l0 l1 l2 l3 l8 l9 m0 m1 m2 m3 m8 m9 n01 n02 n03 n12 n13 n23 hV
    refine wpAnyH_ready (rs := [12]) (by kernel_rfl) (by simp) ?_
    refine AllReadyH.cons rfl (fun K hK => ?_) AllReadyH.nil
    rw [if_pos (by rfl)]
    refine wp_build_run 79 _ rfl [(1, .map (some st)), (2, .map (some de)), (3, .map (some su)), (4, .map (some wa)), (6, .slice (some ⟨p5, 0, none⟩) nr nr), (7, .slice (some ⟨p7, 0, none⟩) nr nr), (11, .map (some e8)), (12, .map (some i9)), (19, .slice (some ⟨s11, 0, none⟩) nr nr)] (by simp [Act.eval]) _ HBu.out ?_
    refine hK.out _ _ trivial (fun _ => ?_)
    clear hK K
    refine wpAnyH_ready (rs := [13]) (by kernel_rfl) (by simp) ?_
    refine AllReadyH.cons rfl (fun K hK => ?_) AllReadyH.nil
    rw [if_pos (by rfl)]
    refine wp_store_mid 79 _ _ rfl S 0 _ rfl rfl HT1.out HNn.out HVo.out ?_
    refine hK.out _ _ trivial (fun _ => ?_)
    clear hK K
    refine wpAnyH_done (by kernel_rfl) ?_ _
    go_wp2
    refine bodyPost_ret_by (results_cell_row (P := Yba.prog) (p := 2) (ty := 79) rfl _ _ S 79 V.toArray _ _ rfl HR.out Yba.underlying79 rfl HNn.out) rfl ?_
    rw [HVe.out] at HF ⊢
    exact ⟨st, de, su, wa, ⟨p5, p7, e8, i9, s11, rfl⟩, HF.out⟩
end Go.Proofs.Ybulkapqu
