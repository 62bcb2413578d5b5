import Derived.Test.YbulkapquC5
import Derived.Test.YbulkapquB6
import Derived.MapKept
import Derived.RangeFuncRecord
namespace Go.Proofs.Ybulkapqu
open Go.RowKit Go.Sort

/-! ### Maps keyed by identifiers -/
theorem run_check5 (em : Bool) (n : Nat) (v : Int) (w : World) : (Instr.checkKey em (n + 1) 5 (.int .u8 v)).run Yba.prog w = .ok () w := by
  simp [Instr.checkKey, run_underlying Yba.underlying5]
theorem run_check_list (em : Bool) (n : Nat) (l : List UInt8) : ∀ (is : List Nat) (w : World), (∀ i ∈ is, i < l.length) →
    (forIn (m := Sem) is PUnit.unit (fun i _ => do
      Instr.checkKey em (n + 1) 5 (← part 5 (idV l).toArray (i * (← sizeOf 5)))
      pure (ForInStep.yield PUnit.unit))).run Yba.prog w = .ok PUnit.unit w
  | [], w, _ => by simp
  | i :: is, w, h => by
    have h1 := run_part5 l i (h i (List.mem_cons_self ..)) w
    have ih := run_check_list em n l is w (fun j hj => h j (List.mem_cons_of_mem _ hj))
    rw [List.forIn_cons]
    simp only [Sem.run_bind, Yba.sizeOf5, Result.andThen_ok, h1, run_check5, Sem.run_pure]
    exact ih
theorem run_check_id (em : Bool) (l : List UInt8) (hl : l.length = 20) (w : World) : (Instr.checkKey em 10000 37 (.agg (idV l).toArray)).run Yba.prog w = .ok () w := by
  have hu : Yba.prog.underlying 37 = some (.array 20 5) := by kernel_rfl
  rw [show (10000 : Nat) = 9998 + 1 + 1 from rfl]
  unfold Instr.checkKey
  simp only [Sem.run_bind, run_underlying hu, Result.andThen_ok]
  rw [Std.Legacy.Range.forIn_eq_forIn_range']
  have := run_check_list em 9998 l (List.range' 0 20) w (fun i hi => by rw [hl]; obtain ⟨j, h1, h2⟩ := List.mem_range'.1 hi; omega)
  rw [show (forIn (m := Sem) (List.range' [:20].start [:20].size [:20].step) PUnit.unit (fun i _ => do
      Instr.checkKey em (9998 + 1) 5 (← part 5 (idV l).toArray (i * (← sizeOf 5)))
      pure (ForInStep.yield PUnit.unit))).run Yba.prog w = .ok PUnit.unit w from this]
  rfl

/-- What a block holds of a map keyed by identifiers: the keys and the values. -/
def MapAt (w : World) (r : Nat) (es : List (List UInt8 × Value)) : Prop := (∀ e ∈ es, e.1.length = 20) ∧ ∃ (ms : List MapEntry) (clock : Nat), w.heap[r]? = some (.map ms.toArray clock) ∧ ms.map (fun m => (m.key, m.val)) = es.map fun e => (.agg (idV e.1).toArray, e.2)
def findE (k : List UInt8) : List (List UInt8 × Value) → Value
  | [] => .pointer none
  | e :: es => if k = e.1 then e.2 else findE k es
theorem MapAt.lt {w : World} {r : Nat} {es : List (List UInt8 × Value)} (h : MapAt w r es) : r < w.heap.size := by
  obtain ⟨_, ms, c, h1, _⟩ := h
  exact (Array.getElem?_eq_some_iff.1 h1).1
theorem MapAt.of_heap {w w' : World} {r : Nat} {es : List (List UInt8 × Value)} (h : MapAt w r es) (e : w'.heap[r]? = w.heap[r]?) : MapAt w' r es := by
  obtain ⟨h0, ms, c, h1, h2⟩ := h
  exact ⟨h0, ms, c, e.trans h1, h2⟩
theorem MapAt.gr {w w' : World} {r : Nat} {es : List (List UInt8 × Value)} (h : MapAt w r es) (g : Gr w w') : MapAt w' r es := h.of_heap (g.heap h.lt)

/-- Where the key is found: its place and value. -/
def findI (k : List UInt8) : List (List UInt8 × Value) → Nat → Option (Nat × Value)
  | [], _ => none
  | e :: es, i => if k = e.1 then some (i, e.2) else findI k es (i + 1)
theorem findE_eq (k : List UInt8) : ∀ (es : List (List UInt8 × Value)) (i : Nat), findE k es = ((findI k es i).map (·.2)).getD (.pointer none)
  | [], _ => rfl
  | e :: es, i => by
    unfold findE findI
    split
    · rfl
    · exact findE_eq k es (i + 1)
theorem run_findAsking (k : List UInt8) (hk : k.length = 20) : ∀ (ms : List MapEntry) (es : List (List UInt8 × Value)) (i : Nat) (w : World), (∀ e ∈ es, e.1.length = 20) → ms.map (fun m => (m.key, m.val)) = es.map (fun e => (.agg (idV e.1).toArray, e.2)) →
    (Instr.findAsking 37 (.agg (idV k).toArray) ms i).run Yba.prog w = .ok (findI k es i) w
  | [], [], i, w, _, _ => by simp [Instr.findAsking, findI]
  | [], e :: es, _, _, _, h => by simp at h
  | m :: ms, [], _, _, _, h => by simp at h
  | m :: ms, e :: es, i, w, h20, h => by
    simp only [List.map_cons, List.cons.injEq, Prod.mk.injEq] at h
    obtain ⟨⟨h1, h2⟩, h3⟩ := h
    have he := run_eqIds k e.1 hk (h20 e (List.mem_cons_self ..)) w
    have ih := run_findAsking k hk ms es (i + 1) w (fun x hx => h20 x (List.mem_cons_of_mem _ hx)) h3
    unfold Instr.findAsking findI
    rw [h1, h2]
    simp only [Sem.run_bind, Op.equal]
    rw [show Op.maxDepth = 10000 from rfl, he]
    simp only [Result.andThen_ok]
    by_cases e1 : k = e.1
    · rw [if_pos e1, decide_eq_true e1]
      simp
    · rw [if_neg e1, decide_eq_false e1]
      simpa using ih
theorem run_findKey (k : List UInt8) (hk : k.length = 20) (ms : List MapEntry) (es : List (List UInt8 × Value)) (w : World) (h20 : ∀ e ∈ es, e.1.length = 20) (h : ms.map (fun m => (m.key, m.val)) = es.map (fun e => (.agg (idV e.1).toArray, e.2))) :
    (Instr.findKey 37 (.agg (idV k).toArray) ms).run Yba.prog w = .ok (findI k es 0) w := by
  have hu : Yba.prog.underlying 37 = some (.array 20 5) := by kernel_rfl
  unfold Instr.findKey
  simp only [Sem.run_bind, run_underlying hu, Result.andThen_ok]
  cases ms with
  | nil =>
    have : es = [] := by simpa using h.symm
    subst this
    simp [Instr.findNow, findI]
  | cons m ms =>
    have : Instr.findNow (.array 20 5) (.agg (idV k).toArray) (m :: ms) 0 = none := by simp [Instr.findNow, Instr.sameNow]
    rw [this]
    exact run_findAsking k hk _ es 0 w h20 h

/-- The look-up. -/
theorem run_lookup {w : World} {r : Nat} {es : List (List UInt8 × Value)} (h : MapAt w r es) (mt et : TypeId) (hm : Yba.prog.underlying mt = some (.map 37 et)) (hz : ∀ w, (zeroValue et).run Yba.prog w = .ok (.pointer none) w) (k : List UInt8) (hk : k.length = 20) :
    (Instr.lookup mt (.map (some r)) (.agg (idV k).toArray) false).run Yba.prog w = .ok (findE k es) w := by
  obtain ⟨h20, ms, c, h1, h2⟩ := h
  have hg : (getObj r).run Yba.prog w = .ok (.map ms.toArray c) w := by simp [getObj, Sem.run, h1]
  unfold Instr.lookup
  simp only [Sem.run_bind, run_underlying hm, Result.andThen_ok, hg, Sem.run_pure, run_check_id _ k hk]
  rw [run_findKey k hk ms es w h20 h2, findE_eq k es 0]
  cases findI k es 0 with
  | none => simp [hz]
  | some p => simp

/-! ### The update -/
def updE (k : List UInt8) (v : Value) (es : List (List UInt8 × Value)) : List (List UInt8 × Value) :=
  match findI k es 0 with
  | some (i, _) => es.modify i fun e => (e.1, v)
  | none => es ++ [(k, v)]
theorem sameBits_id (n : Nat) : ∀ l : List UInt8, ((idV l).zip (idV l)).all (fun (x, y) => Instr.sameBits n x y) = true
  | [] => rfl
  | b :: l => by
    have := sameBits_id n l
    simp only [idV, List.map_cons, List.zip_cons_cons, List.all_cons]
    cases n <;> simpa [Instr.sameBits, idV] using this
theorem findI_spec (k : List UInt8) : ∀ (es : List (List UInt8 × Value)) (i j : Nat) (v : Value), findI k es i = some (j, v) → i ≤ j ∧ ∃ e, es[j - i]? = some e ∧ e.1 = k ∧ e.2 = v
  | [], _, _, _, h => by simp [findI] at h
  | e :: es, i, j, v, h => by
    unfold findI at h
    split at h
    · rename_i hk
      obtain ⟨rfl, rfl⟩ : i = j ∧ e.2 = v := by simpa using h
      exact ⟨Nat.le_refl _, e, by simp, hk.symm, rfl⟩
    · obtain ⟨h1, e', h2, h3⟩ := findI_spec k es (i + 1) j v h
      refine ⟨by omega, e', ?_, h3⟩
      rw [show j - i = (j - (i + 1)) + 1 by omega, List.getElem?_cons_succ]
      exact h2
theorem map_modify' {α β : Type} (f : α → β) (g : α → α) (g' : β → β) (h : ∀ a, f (g a) = g' (f a)) : ∀ (l : List α) (i : Nat), (l.modify i g).map f = (l.map f).modify i g'
  | [], i => by simp
  | a :: l, 0 => by simp [h]
  | a :: l, i + 1 => by simpa using map_modify' f g g' h l i

theorem run_update {w : World} {r : Nat} {es : List (List UInt8 × Value)} (h : MapAt w r es) (mt et : TypeId) (hm : Yba.prog.underlying mt = some (.map 37 et)) (k : List UInt8) (hk : k.length = 20) (v : Value) :
    ∃ o, (Instr.mapUpdate mt (.map (some r)) (.agg (idV k).toArray) v).run Yba.prog w = .ok () (w.putObj r o) ∧ MapAt (w.putObj r o) r (updE k v es) := by
  have hlt := h.lt
  obtain ⟨h20, ms, c, h1, h2⟩ := h
  have hg : (getObj r).run Yba.prog w = .ok (.map ms.toArray c) w := by simp [getObj, Sem.run, h1]
  have hs : ∀ o, (setObj r o).run Yba.prog w = .ok () (w.putObj r o) := fun o => by simp [setObj, Sem.run, h1, World.putObj]
  have hget : ∀ o, (w.putObj r o).heap[r]? = some o := fun o => by simp [World.putObj, hlt]
  have hf := run_findKey k hk ms es w h20 h2
  unfold Instr.mapUpdate
  simp only [Sem.run_bind, run_underlying hm, Result.andThen_ok, hg, run_check_id _ k hk]
  rw [hf]
  unfold updE
  cases hc : findI k es 0 with
  | none =>
    simp only [Result.andThen_ok, hs]
    refine ⟨_, rfl, ?_, ms ++ [{ key := .agg (idV k).toArray, val := v, born := c }], c + 1, by rw [hget]; simp, by simp [h2]⟩
    intro e he
    rcases List.mem_append.1 he with h | h
    · exact h20 e h
    · simp at h; subst h; exact hk
  | some p =>
    obtain ⟨i, u⟩ := p
    obtain ⟨_, e, he, hek, _⟩ := findI_spec k es 0 i u hc
    rw [Nat.sub_zero] at he
    have hm1 : (ms.map (fun m => (m.key, m.val)))[i]? = some (.agg (idV k).toArray, e.2) := by rw [h2]; simp [he, hek]
    obtain ⟨m, hmi, hmk⟩ : ∃ m, ms[i]? = some m ∧ m.key = .agg (idV k).toArray := by
      rw [List.getElem?_map] at hm1
      cases hq : ms[i]? with
      | none => rw [hq] at hm1; simp at hm1
      | some m => rw [hq] at hm1; simp at hm1; exact ⟨m, rfl, hm1.1⟩
    have hkey : ((ms.toArray[i]?).map (·.key)).getD (.agg (idV k).toArray) = .agg (idV k).toArray := by simp [hmi, hmk]
    have hsb : Instr.sameBits 10000 (.agg (idV k).toArray) (.agg (idV k).toArray) = true := by
      rw [show (10000 : Nat) = 9999 + 1 from rfl]
      unfold Instr.sameBits
      simpa using sameBits_id 9999 k
    simp only [Result.andThen_ok, Sem.run_bind, hkey, Instr.keyThatStays, hsb, if_true, Sem.run_pure, hs]
    refine ⟨_, rfl, ?_, ms.modify i fun m => { m with key := .agg (idV k).toArray, val := v }, c, by rw [hget]; simp, ?_⟩
    · intro e' he'
      obtain ⟨j, hj⟩ := List.mem_iff_getElem?.1 he'
      rw [List.getElem?_modify] at hj
      cases hq : es[j]? with
      | none => rw [hq] at hj; simp at hj
      | some e2 =>
        rw [hq] at hj
        have h3 := h20 e2 (List.mem_of_getElem? hq)
        simp at hj
        split at hj <;> (subst hj; exact h3)
    · apply List.ext_getElem?
      intro j
      have h3 := congrArg (fun l => l[j]?) h2
      simp only [List.getElem?_map, List.getElem?_modify] at h3 ⊢
      by_cases e1 : i = j
      · subst e1
        rw [hmi, he] at *
        simp [hek]
      · simp only [if_neg e1]
        cases hq : ms[j]? with
        | none => rw [hq] at h3; cases hp : es[j]? <;> simp_all
        | some m2 => rw [hq] at h3; cases hp : es[j]? <;> simp_all
end Go.Proofs.Ybulkapqu
