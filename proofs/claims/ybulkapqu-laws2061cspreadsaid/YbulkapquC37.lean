import Derived.Test.YbulkapquC35
namespace Go.Proofs.Ybulkapqu
open Go.RowKit Go.Sort

/-! ### The law's own reckoning -/
def frD (c : Cfg) (did : List UInt8) (rel hand wat : Nat → Bool) (d r : Nat) : Bool := decide (r < d) && fre c did rel hand wat r
theorem frD_same (c : Cfg) (did : List UInt8) (rel hand wat : Nat → Bool) (d : Nat) (h : fre c did rel hand wat d = false) : frD c did rel hand wat (d + 1) = frD c did rel hand wat d := by
  funext r
  unfold frD
  by_cases e : r = d
  · subst e; simp [h]
  · have : (r < d + 1) = (r < d) := by apply propext; omega
    simp only [this]
theorem frD_other (c : Cfg) (did : List UInt8) (rel hand wat : Nat → Bool) (d r : Nat) (h : r ≠ d) : frD c did rel hand wat (d + 1) r = frD c did rel hand wat d r := by
  unfold frD
  have : (r < d + 1) = (r < d) := by apply propext; omega
  simp only [this]
theorem frD_put (c : Cfg) (did : List UInt8) (rel hand wat : Nat → Bool) (d : Nat) (h : fre c did rel hand wat d = true) : frD c did rel hand wat (d + 1) d = true := by unfold frD; simp [h]
theorem SW.set49 {k : Kc} {ds : List (List UInt8 × Value)} {v : Nat → Value} {ids : Nat → List (List UInt8)} {sus : List (List UInt8 × Value)} {W : World} (h : SW k 2 ds v ids sus W) {b : Nat} {C : Array Value} (a : At W b C 49) (hC : C.size ≤ 20) (hb : k.S0 + 1 + 1 < b) (hbase : k.base ≤ b) (o : Nat) (u : Value) : SW k 2 ds v ids sus (W.setCell ⟨b, o, none⟩ u) := by
  have f := h.fix
  obtain ⟨A, s1, s2, s3⟩ := f.seen
  refine ⟨h.mb.keep fun q hq => Below.heap_setCell _ _ _ _ (h.mb.other a (by decide) (by decide) (by decide) hq), fun i hi => (h.rows i hi).kept fun q hq => Below.heap_setCell _ _ _ _ ?_, fun i hi => ?_, h.apart, h.len, h.l20, h.sus, ⟨f.r.setOther _ _ (by show k.S0 ≠ b; omega), f.h.setOther _ _ (by show k.S0 + 1 ≠ b; omega), f.wt.setOther _ _ (by show k.S0 + 1 + 1 ≠ b; omega), f.tr.setOther _ _ (f.tr.ne a (by decide)), f.did.setOther _ _ (f.did.ne a (by decide)), ⟨A, s1, s2, s3.setOther _ _ (s3.ne a (by decide))⟩⟩, h.fr.setCell (by exact hbase) _⟩
  · obtain ⟨C', a'⟩ := (h.rows i hi).at hq
    exact a'.ne a (by decide)
  · obtain ⟨b', cap, p1, p2, p3⟩ := h.done i hi
    refine ⟨b', cap, p1.keep fun hne => Below.heap_setCell _ _ _ _ fun e => ?_, p2, fun hne => ⟨(p3 hne).1, by rw [World.size_setCell]; exact (p3 hne).2⟩⟩
    obtain ⟨q, x, hq, hc⟩ := p1.far hne
    have e' : b' = b := e
    rw [e', a.cell, Array.getElem?_eq_none (by omega)] at hc
    simp at hc
structure DS (k : Kc) (ds : List (List UInt8 × Value)) (v : Nat → Value) (ids : Nat → List (List UInt8)) (sus : List (List UInt8 × Value)) (stamp : Int) (NB WL d : Nat) (W : World) : Prop where
  sw : SW k 2 ds v ids sus W
  nb : At W NB (notV stamp k.rel k.hand) 114
  wl : At W WL (twoV (lfD (k.cf sus ids) k.did k.rel k.hand k.wat d)) 49
  fh : At W (WL + 1) (twoV (frD (k.cf sus ids) k.did k.rel k.hand k.wat d)) 49
  wr : At W (WL + 1 + 1) (twoV (rlD (k.cf sus ids) k.did k.rel k.hand k.wat d)) 49
  lt : k.S0 + 1 + 1 < WL
  le : k.base ≤ WL
theorem DS.gr {k : Kc} {ds : List (List UInt8 × Value)} {v : Nat → Value} {ids : Nat → List (List UInt8)} {sus : List (List UInt8 × Value)} {stamp : Int} {NB WL d : Nat} {W W' : World} (h : DS k ds v ids sus stamp NB WL d W) (ok : k.Ok) (g : Gr W W') : DS k ds v ids sus stamp NB WL d W' :=
  ⟨h.sw.gr ok g, h.nb.gr g, h.wl.gr g, h.fh.gr g, h.wr.gr g, h.lt, h.le⟩
theorem DS.skip {k : Kc} {ds : List (List UInt8 × Value)} {v : Nat → Value} {ids : Nat → List (List UInt8)} {sus : List (List UInt8 × Value)} {stamp : Int} {NB WL d : Nat} {W : World} (h : DS k ds v ids sus stamp NB WL d W) (h1 : fre (k.cf sus ids) k.did k.rel k.hand k.wat d = false) (h2 : lef (k.cf sus ids) k.did k.rel k.hand k.wat d = false) : DS k ds v ids sus stamp NB WL (d + 1) W :=
  ⟨h.sw, h.nb, by rw [lfD_same _ _ _ _ _ _ h2]; exact h.wl, by rw [frD_same _ _ _ _ _ _ h1]; exact h.fh, by rw [rlD_same _ _ _ _ _ _ h1]; exact h.wr, h.lt, h.le⟩
theorem DS.left {k : Kc} {ds : List (List UInt8 × Value)} {v : Nat → Value} {ids : Nat → List (List UInt8)} {sus : List (List UInt8 × Value)} {stamp : Int} {NB WL d : Nat} {W : World} (h : DS k ds v ids sus stamp NB WL d W) (hd : d < 2) (h1 : fre (k.cf sus ids) k.did k.rel k.hand k.wat d = false) (h2 : lef (k.cf sus ids) k.did k.rel k.hand k.wat d = true) : DS k ds v ids sus stamp NB WL (d + 1) (W.setCell ⟨WL, d, none⟩ (.bool true)) := by
  refine ⟨h.sw.set49 h.wl (by simp [twoV]) h.lt h.le _ _, h.nb.setOther _ _ (h.nb.ne h.wl (by decide)), ?_, ?_, ?_, h.lt, h.le⟩
  · have := h.wl.set d (.bool true)
    rwa [two_set _ d hd _ (lfD_put _ _ _ _ _ _ h2) (fun r hr => lfD_other _ _ _ _ _ _ _ hr)] at this
  · rw [frD_same _ _ _ _ _ _ h1]; exact h.fh.setOther _ _ (by show WL + 1 ≠ WL; omega)
  · rw [rlD_same _ _ _ _ _ _ h1]; exact h.wr.setOther _ _ (by show WL + 1 + 1 ≠ WL; omega)
theorem DS.fresh {k : Kc} {ds : List (List UInt8 × Value)} {v : Nat → Value} {ids : Nat → List (List UInt8)} {sus : List (List UInt8 × Value)} {stamp : Int} {NB WL d : Nat} {W : World} (h : DS k ds v ids sus stamp NB WL d W) (hd : d < 2) (h1 : fre (k.cf sus ids) k.did k.rel k.hand k.wat d = true) (h2 : lef (k.cf sus ids) k.did k.rel k.hand k.wat d = false) :
    DS k ds v ids sus stamp NB WL (d + 1) ((W.setCell ⟨WL + 1 + 1, d, none⟩ (.bool true)).setCell ⟨WL + 1, d, none⟩ (.bool true)) := by
  have hlt := h.lt
  have hle := h.le
  have s1 := h.sw.set49 h.wr (by simp [twoV]) (by omega) (by omega) d (.bool true)
  have f1 := h.fh.setOther ⟨WL + 1 + 1, d, none⟩ (.bool true) (by show WL + 1 ≠ WL + 1 + 1; omega)
  refine ⟨s1.set49 f1 (by simp [twoV]) (by omega) (by omega) _ _, (h.nb.setOther _ _ (h.nb.ne h.wr (by decide))).setOther _ _ (h.nb.ne h.fh (by decide)), ?_, ?_, ?_, h.lt, h.le⟩
  · rw [lfD_same _ _ _ _ _ _ h2]; exact (h.wl.setOther _ _ (by show WL ≠ WL + 1 + 1; omega)).setOther _ _ (by show WL ≠ WL + 1; omega)
  · have := f1.set d (.bool true)
    rwa [two_set _ d hd _ (frD_put _ _ _ _ _ _ h1) (fun r hr => frD_other _ _ _ _ _ _ _ hr)] at this
  · have := (h.wr.set d (.bool true)).setOther ⟨WL + 1, d, none⟩ (.bool true) (by show WL + 1 + 1 ≠ WL + 1; omega)
    rwa [two_set _ d hd _ (rlD_put _ _ _ _ _ _ h1) (fun r hr => rlD_other _ _ _ _ _ _ _ hr)] at this
/-- What stands as the loop begins. -/
theorem ds_start {k : Kc} {ds : List (List UInt8 × Value)} {v : Nat → Value} {ids : Nat → List (List UInt8)} {sus : List (List UInt8 × Value)} {stamp : Int} {NB : Nat} {W : World} (h : SW k 2 ds v ids sus W) (ok : k.Ok) (hn : At W NB (notV stamp k.rel k.hand) 114) :
    DS k ds v ids sus stamp NB W.heap.size 0 (((W.alloc (.cells #[.bool false, .bool false] 49)).alloc (.cells #[.bool false, .bool false] 49)).alloc (.cells #[.bool (k.rel 0), .bool (k.rel 1)] 49)) := by
  have g : Gr W (((W.alloc (.cells #[.bool false, .bool false] 49)).alloc (.cells #[.bool false, .bool false] 49)).alloc (.cells #[.bool (k.rel 0), .bool (k.rel 1)] 49)) := (((Gr.refl W).alloc _).alloc _).alloc _
  have z1 : twoV (lfD (k.cf sus ids) k.did k.rel k.hand k.wat 0) = #[.bool false, .bool false] := by simp [twoV, lfD]
  have z2 : twoV (frD (k.cf sus ids) k.did k.rel k.hand k.wat 0) = #[.bool false, .bool false] := by simp [twoV, frD]
  have z3 : twoV (rlD (k.cf sus ids) k.did k.rel k.hand k.wat 0) = #[.bool (k.rel 0), .bool (k.rel 1)] := by simp [twoV, rlD]
  refine ⟨h.gr ok g, hn.gr g, ?_, ?_, ?_, h.fix.wt.lt, h.size ok⟩
  · rw [z1]; exact ((At.new W _ _).alloc _).alloc _
  · rw [z2]
    have := At.new (W.alloc (.cells #[.bool false, .bool false] 49)) #[.bool false, .bool false] 49
    rw [World.size_alloc] at this
    exact this.alloc _
  · rw [z3]
    have := At.new ((W.alloc (.cells #[.bool false, .bool false] 49)).alloc (.cells #[.bool false, .bool false] 49)) #[.bool (k.rel 0), .bool (k.rel 1)] 49
    rw [World.size_alloc, World.size_alloc] at this
    exact this

/-! ### The log, message by message -/
theorem flat_get99 : ∀ (ms : List (List Value)) (i : Nat) (m : List Value), (∀ m ∈ ms, m.length = 99) → ms[i]? = some m → ∀ (j : Nat) (x : Value), m[j]? = some x → ms.flatten[i * 99 + j]? = some x
  | [], i, m, _, h, _, _, _ => by simp at h
  | a :: r, 0, m, _, h, j, x, hx => by
    obtain rfl : a = m := by simpa using h
    have hj : j < a.length := (List.getElem?_eq_some_iff.1 hx).1
    rw [List.flatten_cons, Nat.zero_mul, Nat.zero_add, List.getElem?_append_left hj]
    exact hx
  | a :: r, i + 1, m, h99, h, j, x, hx => by
    have ha := h99 a (List.mem_cons_self ..)
    rw [List.flatten_cons, List.getElem?_append_right (by omega), ha, show (i + 1) * 99 + j - 99 = i * 99 + j by omega]
    exact flat_get99 r i m (fun m hm => h99 m (List.mem_cons_of_mem _ hm)) (by simpa using h) j x hx
theorem LogAt.form {W : World} {TR base : Nat} {ob : Option Nat} {ms : List (List Value)} (h : LogAt W TR base ob ms) (h99 : ∀ m ∈ ms, m.length = 99) : ∃ va vc, At W TR #[.slice va ms.length vc] 55 ∧ ∀ i m, ms[i]? = some m → ∃ g : Nat, va = some ⟨g, 0, none⟩ ∧ W.rangeAt g (i * 99) m := by
  obtain ⟨v, a, hv, ho⟩ := h.tr
  rcases ho.2 with ⟨e, hn⟩ | ⟨g, cap, cur, e, hb, hg, h1, h2, h3, h4⟩
  · refine ⟨none, 0, by rw [e] at a; rw [hn]; exact a, fun i m hm => ?_⟩
    have : ms = [] := List.eq_nil_of_length_eq_zero hn
    subst this
    simp at hm
  · refine ⟨some ⟨g, 0, none⟩, cap, by rw [e] at a; exact a, fun i m hm => ⟨g, rfl, fun j x hx => ?_⟩⟩
    have := ho.cells (g := g) (by rw [e]; rfl) (i * 99 + j) x (flat_get99 ms i m h99 hm j x hx)
    simpa [Addr.add_mid] using this
theorem size94 : (Yba.zeroCells94).toList.length = 99 := by kernel_rfl
theorem box94 (w : World) (m : List Value) (hm : m.length = 99) : (w.alloc (.cells Yba.zeroCells94 94)).there w.heap.size 0 m.toArray.size ∧ Gr w ((w.alloc (.cells Yba.zeroCells94 94)).setCells w.heap.size 0 m) ∧ At ((w.alloc (.cells Yba.zeroCells94 94)).setCells w.heap.size 0 m) w.heap.size m.toArray 94 := by
  have a := At.new w Yba.zeroCells94 94
  refine ⟨?_, Gr.setCells _ (Nat.le_refl _) _ _ _ ((Gr.refl w).alloc _), ?_⟩
  · rw [show m.toArray.size = 99 by simp [hm]]
    exact At.there (l := Yba.zeroCells94.toList) a 0 99 (by rw [size94]; omega)
  · exact At.lput (l0 := Yba.zeroCells94.toList) a (by rw [hm, size94])
theorem load94 {w : World} {B o : Nat} {m : List Value} (h : w.rangeAt B o m) (hm : m.length = 99) : (loadVar 94 ⟨B, o, none⟩).run Yba.prog w = .ok (.agg m.toArray) w :=
  run_loadVar_mid _ B o 94 m _ h Yba.underlying94 rfl (by rw [hm]; kernel_rfl)
theorem info94s (m : List Value) (hm : m.length = 99) : (Yba.prog.info? 94).map (·.size) = some m.toArray.size := by
  rw [show m.toArray.size = 99 by simp [hm]]; kernel_rfl
end Go.Proofs.Ybulkapqu
