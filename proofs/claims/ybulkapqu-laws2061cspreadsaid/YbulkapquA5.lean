import Derived.Test.YbulkapquA4
namespace Go.Proofs.Ybulkapqu
open Go.RowKit Go.Sort

theorem sorted_cut (f : Nat → Nat) (v : Nat) : ∀ xs : List Nat, xs.Pairwise (fun a b => f a ≤ f b) → ∃ p, p ≤ xs.length ∧ ∀ (j x : Nat), xs[j]? = some x → (j < p ↔ f x < v)
  | [], _ => ⟨0, Nat.le_refl _, fun j x h => by simp at h⟩
  | a :: r, h => by
    obtain ⟨h1, h2⟩ := List.pairwise_cons.1 h
    by_cases hv : f a < v
    · obtain ⟨p, hp, hc⟩ := sorted_cut f v r h2
      refine ⟨p + 1, by simpa using hp, fun j x hj => ?_⟩
      cases j with
      | zero => simp at hj; subst hj; simp [hv]
      | succ j => rw [List.getElem?_cons_succ] at hj; have := hc j x hj; omega
    · refine ⟨0, Nat.zero_le _, fun j x hj => ?_⟩
      have : f a ≤ f x := by
        cases j with
        | zero => simp at hj; subst hj; exact Nat.le_refl _
        | succ j => rw [List.getElem?_cons_succ] at hj; exact h1 x (List.mem_of_getElem? hj)
      omega

/-- What a world holds of a ring's order. -/
structure Ring (w : World) (O B R n c cap : Nat) (ids : List (List UInt8)) (xs : List Nat) : Prop where
  hO : At w O #[.slice (some ⟨B, 0, none⟩) n c, .slice (some ⟨R, 0, none⟩) xs.length cap] 28
  hI : IdsAt w B ids
  hR : RowAt w R xs cap
  hlen : ids.length = n
  hin : ∀ x ∈ xs, x < n
theorem RowAt.of_heap {w w' : World} {R cap : Nat} {xs : List Nat} (h : RowAt w R xs cap) (e : w'.heap[R]? = w.heap[R]?) : RowAt w' R xs cap := by
  obtain ⟨sp, h1, h2⟩ := h
  exact ⟨sp, h1.of_heap e, h2⟩
theorem RowAt.lt {w : World} {R cap : Nat} {xs : List Nat} (h : RowAt w R xs cap) : R < w.heap.size := by
  obtain ⟨sp, h1, h2⟩ := h
  exact h1.lt
theorem RowAt.cell {w : World} {R cap : Nat} {xs : List Nat} (h : RowAt w R xs cap) (j x : Nat) (hx : xs[j]? = some x) : w.cell? ⟨R, 0 + j, none⟩ = some (.int .i64 (x : Int)) := by
  obtain ⟨sp, h1, h2⟩ := h
  rw [h1.cell, Nat.zero_add]
  have hj : j < xs.length := (List.getElem?_eq_some_iff.1 hx).1
  simp only [List.getElem?_toArray]
  rw [List.getElem?_append_left (by simpa using hj), List.getElem?_map, hx]
  rfl
theorem Ring.gr {w w' : World} {O B R n c cap : Nat} {ids : List (List UInt8)} {xs : List Nat} (h : Ring w O B R n c cap ids xs) (g : Gr w w') : Ring w' O B R n c cap ids xs :=
  ⟨h.hO.gr g, h.hI.gr g, h.hR.of_heap (g.heap h.hR.lt), h.hlen, h.hin⟩
theorem getD_of {ids : List (List UInt8)} {x : Nat} {l : List UInt8} (h : ids[x]? = some l) : ids.getD x [] = l := by rw [List.getD_eq_getElem?_getD, h]; rfl

set_option maxHeartbeats 4000000 in
set_option maxRecDepth 1000000 in
/-- find, in a ring in order: the target's place. -/
theorem find_calls (w : World) (O B R n c cap : Nat) (ids : List (List UInt8)) (xs : List Nat) (G : Ring w O B R n c cap ids xs) (hbig : xs.length < 4611686018427387904) (lb : List UInt8) (hlb : lb.length = 20)
    (p : Nat) (hp : p ≤ xs.length) (hc : ∀ (j x : Nat), xs[j]? = some x → (j < p ↔ val ids x < Lib.beNat lb)) :
    Calls Yba.prog 30 #[.pointer (some ⟨O, 0, none⟩), .agg (idV lb).toArray] w fun e w' => (∃ b : Bool, e = .returned (.tuple #[.int .i64 (p : Int), .bool b]) ∧ (b = true ↔ ∃ x, xs[p]? = some x ∧ val ids x = Lib.beNat lb)) ∧ Gr w w' := by
  have mixed : Yba.prog.follows .mixedOrders = true := by kernel_rfl
  obtain ⟨S, hS⟩ : ∃ S, S = w.heap.size := ⟨_, rfl⟩
  obtain ⟨w1, hw1⟩ : ∃ w1, w1 = w.alloc (.cells #[.pointer (some ⟨O, 0, none⟩)] 122) := ⟨_, rfl⟩
  obtain ⟨w2, hw2⟩ : ∃ w2, w2 = w1.alloc (.cells (idV lb).toArray 37) := ⟨_, rfl⟩
  have G2 : Gr w w2 := hw2 ▸ hw1 ▸ ((Gr.refl w).alloc _).alloc _
  have s1 : w1.heap.size = S + 1 := by rw [hw1, World.size_alloc, hS]
  have aK : At w2 S #[.pointer (some ⟨O, 0, none⟩)] 122 := by rw [hw2, hw1, hS]; exact (At.new w _ _).alloc _
  have aT : w2.rangeAt (S + 1) 0 (idV lb) := by rw [hw2, ← s1]; exact rangeAt_new w1 _ _
  have sT : S + 1 < w2.heap.size := by rw [hw2, World.size_alloc, s1]; omega
  obtain ⟨f, hf⟩ : ∃ f : Nat → Int, f = fun j => Lib.compareBytes (ids.getD (xs.getD j 0) []) lb := ⟨_, rfl⟩
  have hx : ∀ (j x : Nat), xs[j]? = some x → ∃ l, ids[x]? = some l ∧ l.length = 20 ∧ f j = Lib.compareBytes l lb ∧ val ids x = Lib.beNat l := fun j x hj => by
    have hxn := G.hin x (List.mem_of_getElem? hj)
    have hxl : x < ids.length := by have := G.hlen; omega
    have hl : ids[x]? = some ids[x] := List.getElem?_eq_getElem hxl
    refine ⟨_, hl, G.hI.len _ (List.mem_of_getElem? hl), ?_, ?_⟩
    · rw [hf]
      show Lib.compareBytes (ids.getD (xs.getD j 0) []) lb = _
      rw [List.getD_eq_getElem?_getD (l := xs), hj]
      show Lib.compareBytes (ids.getD x []) lb = _
      rw [getD_of hl]
    · rw [val, getD_of hl]
  have hcl : ∀ wr, Gr w2 wr → ∀ (j x : Nat), xs[j]? = some x → Calls Yba.prog 48 #[.int .i64 (x : Int), .agg (idV lb).toArray, .pointer (some ⟨S, 0, none⟩)] wr fun e w' => e = .returned (.int .i64 (f j)) ∧ Gr wr w' := fun wr hwr j x hj => by
    obtain ⟨l, h1, h2, h3, h4⟩ := hx j x hj
    have Gw := G.gr (G2.trans hwr)
    rw [h3]
    exact fclo_calls wr S O B n c ids G.hlen G.hI.len (aK.gr hwr).lt Gw.hO.lt Gw.hI.lt ((aK.gr hwr).cell 0) (Gw.hO.cell 0) Gw.hI.row x l lb h1 hlb
  have hb := fun k os => bsf_calls (grow (w2.drewN k) os) R 0 xs.length cap xs rfl hbig (G.gr (G2.grown k os)).hR.lt (fun j x hj => (G.gr (G2.grown k os)).hR.cell j x hj) lb hlb S f (fun wr hwr => hcl wr (((Gr.refl w2).grown k os).trans hwr)) p hp
    (fun j hj => by
      obtain ⟨l, h1, h2, h3, h4⟩ := hx j _ (List.getElem?_eq_getElem (by omega))
      rw [h3, cmp_lt _ _ (h2.trans hlb.symm), ← h4]
      exact (hc j _ (List.getElem?_eq_getElem (by omega))).1 hj)
    (fun j hj hjm => by
      obtain ⟨l, h1, h2, h3, h4⟩ := hx j _ (List.getElem?_eq_getElem hjm)
      have hn1 : ¬ f j < 0 := by
        rw [h3, cmp_lt _ _ (h2.trans hlb.symm), ← h4, ← hc j _ (List.getElem?_eq_getElem hjm)]
        omega
      omega)
  have HB := hide hb
  have HF : Aside (decide (p < xs.length ∧ f p = 0) = true ↔ ∃ x, xs[p]? = some x ∧ val ids x = Lib.beNat lb) := by
    show decide (p < xs.length ∧ f p = 0) = true ↔ _
    rw [decide_eq_true_iff]
    constructor
    · rintro ⟨h1, h2⟩
      obtain ⟨l, e1, e2, e3, e4⟩ := hx p _ (List.getElem?_eq_getElem h1)
      rw [e3, cmp_zero _ _ (e2.trans hlb.symm)] at h2
      exact ⟨_, List.getElem?_eq_getElem h1, e4.trans h2⟩
    · rintro ⟨x, h1, h2⟩
      obtain ⟨l, e1, e2, e3, e4⟩ := hx p x h1
      refine ⟨(List.getElem?_eq_some_iff.1 h1).1, ?_⟩
      rw [e3, cmp_zero _ _ (e2.trans hlb.symm), ← e4, h2]
  have ck := fun k os => ((Gr.refl w2).cells (x := ⟨S, 0, none⟩) aK.lt (aK.cell 0) k os)
  have c1 := fun k os => (((G.gr G2).gr ((Gr.refl w2).grown k os)).hO.cell 1)
  simp at ck c1
  have L1 : Aside (∀ k os, (loadVar 37 ⟨S + 1, 0, none⟩).run Yba.prog (grow (w2.drewN k) os) = .ok (.agg (idV lb).toArray) (grow (w2.drewN k) os)) := fun k os =>
    idload (((Gr.refl w2).grown k os).rangeAt sT aT) hlb
  generalize f p = y at *
  generalize decide (p < xs.length ∧ y = 0) = bb at *
  have HG := hide G2
  have HS := hide hS
  have HW : Hid (w2 = (w.alloc (.cells #[.pointer (some ⟨O, 0, none⟩)] 122)).alloc (.cells (idV lb).toArray 37)) := by rw [← hw1]; exact hw2
  clear hb hcl hx hf G hc G2 s1 aK aT sT hw2 hw1 hlb
  generalize xs.length = m at *
  go_enter Yba.func30, Yba.ntmps30
  go_wp2_with fail
  rw [← HW.out, ← HS.out]
  clear hS
  refine wp_region_quiet_grown (by assumption) (by kernel_rfl) ?_
  repeat (first
    | refine wpQuiet_load_mid rfl 37 _ rfl _ _ rfl _ (fun w' hw' => by obtain ⟨p, rfl⟩ := hw'; exact L1.out _ _) ?_
    | quiet_step (first | (go_at_call 47; refine Calls.grown_of' (HB.out _ _))))
  refine wpQuiet_nil ?_
  intro _ hw'
  obtain ⟨⟨nq, osq⟩, hw''⟩ := hw'
  subst hw''
  go_wp2
  go_ret2
  exact ⟨⟨bb, rfl, HF.out⟩, HG.out.grown nq osq⟩

/-- The second world is the first one with nothing old turned but the blocks O and R. -/
structure Kp (O R : Nat) (w w' : World) : Prop where
  os : w'.os = w.os
  tape : w'.tape = w.tape
  output : w'.output = w.output
  size : w.heap.size ≤ w'.heap.size
  block : ∀ k, k < w.heap.size → k ≠ O → k ≠ R → w'.heap[k]? = w.heap[k]?
theorem Kp.below {O R : Nat} {w w' : World} (h : Kp O R w w') {S : Nat} (hS : S ≤ w.heap.size) (hO : S ≤ O) (hR : S ≤ R) : Below S w w' :=
  ⟨h.os, h.tape, h.output, h.size, fun k hk => h.block k (by omega) (by omega) (by omega)⟩
theorem Kp.of_gr {O R : Nat} {w w' : World} (h : Gr w w') : Kp O R w w' := by
  have b := h.below w.heap.size (Nat.le_refl _)
  exact ⟨b.os, b.tape, b.output, b.size, fun k hk _ _ => h.heap hk⟩
theorem Kp.trans {O R : Nat} {a b c : World} (h : Kp O R a b) (k : Kp O R b c) : Kp O R a c :=
  ⟨k.os.trans h.os, k.tape.trans h.tape, k.output.trans h.output, Nat.le_trans h.size k.size, fun i hi hO hR => (k.block i (Nat.lt_of_lt_of_le hi h.size) hO hR).trans (h.block i hi hO hR)⟩

theorem wpList_load_run {P : Program} {ops : Array Oper} {rest : List Oper} {op : Oper} {a : Act} {w : World} {Q : Exit → Act → World → Prop} (hgd : op.guard = none) (ty : TypeId) (x : Operand) (ho : op.op = .load ty x)
    (b o : Nat) (hx : a.eval x = .pointer (some ⟨b, o, none⟩)) (v : Value) (hr : (loadVar ty ⟨b, o, none⟩).run P w = .ok v w) (h : wpList P ops Q rest (a.put op.dst v) w) : wpList P ops Q (op :: rest) a w :=
  wpList_plain hgd fun _ hK => by
    unfold Oper.wp execOp
    simp only [ho, hx, Instr.loadAt, Instr.sureAddr, Sem.run_bind, Sem.run_pure, Result.andThen_ok, hr]
    exact hK _ _ h

theorem filter_none (i : Nat) (xs : List Nat) (h : i ∉ xs) : xs.filter (fun x => x != i) = xs :=
  List.filter_eq_self.2 fun a ha => by
    simp only [bne_iff_ne, ne_eq]
    rintro rfl
    exact h ha
theorem filter_cut (i : Nat) : ∀ (xs : List Nat) (p : Nat), xs.Nodup → xs[p]? = some i → xs.take p ++ xs.drop (p + 1) = xs.filter (fun x => x != i)
  | [], p, _, h => by simp at h
  | a :: r, 0, hn, h => by
    simp at h
    subst h
    simp only [List.take_zero, List.nil_append, List.drop_succ_cons, List.drop_zero]
    rw [List.filter_cons_of_neg (by simp), filter_none _ _ (List.nodup_cons.1 hn).1]
  | a :: r, p + 1, hn, h => by
    rw [List.getElem?_cons_succ] at h
    have hne : a ≠ i := by
      rintro rfl
      exact (List.nodup_cons.1 hn).1 (List.mem_of_getElem? h)
    rw [List.take_succ_cons, List.drop_succ_cons, List.cons_append, filter_cut i r p (List.nodup_cons.1 hn).2 h, List.filter_cons_of_pos (by simpa using hne)]

theorem At.setCells {b : Nat} {t : TypeId} : ∀ (vs : List Value) (o : Nat) (w : World) (l : List Value), At w b l.toArray t → o + vs.length ≤ l.length → At (w.setCells b o vs) b (l.take o ++ vs ++ l.drop (o + vs.length)).toArray t
  | [], o, w, l, h, _ => by simpa [World.setCells] using h
  | v :: r, o, w, l, h, hl => by
    simp only [List.length_cons] at hl
    have h1 := h.set o v
    rw [List.setIfInBounds_toArray] at h1
    have h2 := At.setCells r (o + 1) _ _ h1 (by simp; omega)
    have e1 : (l.set o v).take (o + 1) = l.take o ++ [v] := by
      rw [List.set_eq_take_append_cons_drop, if_pos (by omega), List.take_append]
      simp [List.take_take]
      have : o + 1 - min o l.length = 1 := by omega
      rw [this]
      simp
    have e2 : (l.set o v).drop (o + 1 + r.length) = l.drop (o + (r.length + 1)) := by
      rw [List.drop_set_of_lt (by omega)]
      congr 1
      omega
    rw [e1, e2] at h2
    simpa [World.setCells] using h2
theorem heap_setCells_other (b k : Nat) (h : k ≠ b) : ∀ (vs : List Value) (o : Nat) (w : World), (w.setCells b o vs).heap[k]? = w.heap[k]?
  | [], _, _ => rfl
  | v :: r, o, w => by rw [World.setCells, heap_setCells_other b k h r, Below.heap_setCell _ _ _ _ h]
theorem size_setCells (b : Nat) : ∀ (vs : List Value) (o : Nat) (w : World), (w.setCells b o vs).heap.size = w.heap.size
  | [], _, _ => rfl
  | v :: r, o, w => by rw [World.setCells, size_setCells b r, World.size_setCell]
theorem kp_setCell {O R : Nat} (w : World) (a : Addr) (v : Value) (ha : a.block = O ∨ a.block = R) : Kp O R w (w.setCell a v) :=
  ⟨rfl, rfl, rfl, by simp, fun k _ hO hR => Below.heap_setCell _ _ _ _ (by rcases ha with e | e <;> rw [e] <;> assumption)⟩
theorem kp_setCells {O R : Nat} (b : Nat) (hb : b = O ∨ b = R) : ∀ (vs : List Value) (o : Nat) (w : World), Kp O R w (w.setCells b o vs)
  | [], _, w => Kp.of_gr (Gr.refl w)
  | v :: r, o, w => (kp_setCell w ⟨b, o, none⟩ v hb).trans (kp_setCells b hb r (o + 1) _)

set_option maxHeartbeats 4000000 in
set_option maxRecDepth 1000000 in
theorem delete_row {w : World} {R cap : Nat} {xs : List Nat} (h : RowAt w R xs cap) (hcap : cap < 4611686018427387904) (p : Nat) (hp : p < xs.length) :
    Calls Yba.prog 31 #[.slice (some ⟨R, 0, none⟩) xs.length cap, .int .i64 (p : Int), .int .i64 ((p : Int) + 1)] w fun e w' => e = .returned (.slice (some ⟨R, 0, none⟩) (xs.take p ++ xs.drop (p + 1)).length cap) ∧ RowAt w' R (xs.take p ++ xs.drop (p + 1)) cap ∧
      ∃ q vs, w' = (w.drewN q).setCells R 0 vs := by
  have hlen : (xs.take p ++ xs.drop (p + 1)).length = xs.length - 1 := by simp; omega
  obtain ⟨sp, h1, h2⟩ := h
  have hz : ∀ j, ((xs.map fun x : Nat => (x : Int)).getD j 0) = ((xs.getD j 0 : Nat) : Int) := fun j => by
    simp only [List.getD_eq_getElem?_getD, List.getElem?_map]
    cases xs[j]? <;> rfl
  have hd := Yba.slices_Delete_int_cells R 0 xs.length cap p (p + 1) (xs.map fun x : Nat => (x : Int)) w (by simp) (by omega) (by omega) (by omega) (by omega)
    (fun j hj => by
      rw [hz j]
      have hj' : j < xs.length := by simpa using hj
      have hx : xs[j]? = some (xs.getD j 0) := by rw [List.getD_eq_getElem?_getD, List.getElem?_eq_getElem hj']; rfl
      exact RowAt.cell ⟨sp, h1, h2⟩ j _ hx)
    (fun j _ => h1.frozen _)
  rw [show ((p + 1 : Nat) : Int) = (p : Int) + 1 by omega] at hd
  refine hd.mono ?_
  rintro e w' ⟨rfl, q, rfl⟩
  have e1 : xs.length - (p + 1 - p) = (xs.take p ++ xs.drop (p + 1)).length := by rw [hlen]; omega
  refine ⟨by rw [e1], ⟨nv 0 :: sp, ?_, by simp only [List.length_cons]; rw [hlen]; omega⟩, q, _, rfl⟩
  have hv : (List.take p (List.take xs.length (xs.map fun x : Nat => (x : Int))) ++ List.drop (p + 1) (List.take xs.length (xs.map fun x : Nat => (x : Int))) ++ List.replicate (p + 1 - p) 0).map (Value.int .i64) =
      (xs.take p ++ xs.drop (p + 1)).map nv ++ [nv 0] := by
    have hT : List.take xs.length (xs.map fun x : Nat => (x : Int)) = xs.map fun x : Nat => (x : Int) := List.take_of_length_le (by simp)
    rw [hT, show p + 1 - p = 1 by omega]
    simp [List.map_take, List.map_drop, Function.comp_def, nv]
    rfl
  rw [hv]
  have := At.setCells ((xs.take p ++ xs.drop (p + 1)).map nv ++ [nv 0]) 0 (w.drewN q) (xs.map nv ++ sp) h1 (by rw [List.length_append, List.length_map, hlen]; simp; omega)
  have hl : 0 + ((xs.take p ++ xs.drop (p + 1)).map nv ++ [nv 0]).length = (xs.map nv).length := by rw [List.length_append, List.length_map, hlen]; simp; omega
  rw [hl, List.drop_left] at this
  simpa using this

set_option maxHeartbeats 4000000 in
set_option maxRecDepth 1000000 in
theorem remove_calls (w : World) (O B R n c cap : Nat) (ids : List (List UInt8)) (xs : List Nat) (G : Ring w O B R n c cap ids xs) (hcap : cap < 4611686018427387904) (i : Nat) (hi : i < n)
    (hinj : ∀ x y, x < n → y < n → val ids x = val ids y → x = y) (hnd : xs.Nodup) (hpw : xs.Pairwise (fun a b => val ids a ≤ val ids b)) :
    Calls Yba.prog 10 #[.pointer (some ⟨O, 0, none⟩), .int .i64 (i : Int)] w fun e w' => e = .returned (.tuple #[]) ∧ Ring w' O B R n c cap ids (xs.filter (fun x => x != i)) ∧ Kp O R w w' := by
  have mixed : Yba.prog.follows .mixedOrders = true := by kernel_rfl
  obtain ⟨la, hla⟩ : ∃ la, ids[i]? = some la := ⟨_, List.getElem?_eq_getElem (by have := G.hlen; omega)⟩
  have hl20 : la.length = 20 := G.hI.len _ (List.mem_of_getElem? hla)
  obtain ⟨p, hp, hc⟩ := sorted_cut (val ids) (Lib.beNat la) xs hpw
  have hval : val ids i = Lib.beNat la := by rw [val, getD_of hla]
  have hle : xs.length ≤ cap := by obtain ⟨sp, _, h⟩ := G.hR; omega
  have hfind := find_calls w O B R n c cap ids xs G (by omega) la hl20 p hp hc
  have HF := hide hfind
  have c0 := G.hO.cell 0
  simp at c0
  have L1 : Aside ((loadVar 37 ⟨B, i * 20, none⟩).run Yba.prog w = .ok (.agg (idV la).toArray) w) := idload (G.hI.row i la hla) hl20
  have hiz : (0:Int) ≤ (i:Int) := by omega
  have hin : (i:Int) < (n:Int) := by omega
  have HG := hide G
  clear hfind G hla
  go_enter Yba.func10, Yba.ntmps10
  go_wp2_with (first | refine wpList_load_run rfl 37 _ rfl B (i * 20) rfl _ L1.out ?_)
  refine HF.out.mono ?_
  rintro e w1 ⟨⟨b, rfl, hb⟩, gr⟩
  have G1 := HG.out.gr gr
  cases b with
  | false =>
    have hni : i ∉ xs := fun hmem => by
      obtain ⟨j, hj⟩ := List.mem_iff_getElem?.1 hmem
      have h1 := hc j i hj
      have hjp : p ≤ j := by omega
      have hjl : j < xs.length := (List.getElem?_eq_some_iff.1 hj).1
      have hpx : xs[p]? = some xs[p] := List.getElem?_eq_getElem (by omega)
      have h2 := hc p _ hpx
      have h3 : val ids xs[p] ≤ val ids i := by
        by_cases e : p = j
        · subst e; rw [hpx] at hj; rw [Option.some.inj hj]; exact Nat.le_refl _
        · have := (List.pairwise_iff_getElem.1 hpw) p j (by omega) hjl (by omega)
          rw [(List.getElem?_eq_some_iff.1 hj).2] at this
          exact this
      have h4 : val ids xs[p] = Lib.beNat la := by omega
      have := hb.2 ⟨_, hpx, h4⟩
      simp at this
    have HE : Hid (xs.filter (fun x => x != i) = xs) := filter_none i xs hni
    have K1 : Hid (Kp O R w w1) := Kp.of_gr gr
    have HG1 := hide G1
    clear G1 gr hni hb HG HF L1 c0 hc hpw hnd hinj
    go_wp2
    refine bodyPost_end (results_none rfl _ _ _) rfl ?_
    exact ⟨rfl, by rw [HE.out]; exact HG1.out, K1.out⟩
  | true =>
    obtain ⟨x, hx, hv⟩ := hb.1 rfl
    obtain rfl : x = i := hinj x i (HG.out.hin x (List.mem_of_getElem? hx)) hi (hv.trans hval.symm)
    have hpl : p < xs.length := (List.getElem?_eq_some_iff.1 hx).1
    have HE : Hid (xs.take p ++ xs.drop (p + 1) = xs.filter (fun y => y != x)) := filter_cut x xs p hnd hx
    have HD := hide (delete_row G1.hR hcap p hpl)
    have c1 := G1.hO.cell 1
    simp at c1
    have K1 : Hid (Kp O R w w1) := Kp.of_gr gr
    have HG1 := hide G1
    clear G1 gr hb HG HF L1 c0 hc hpw hnd hinj hx hv
    rw [HE.out] at HD
    go_wp2_with fail
    refine HD.out.mono ?_
    rintro e w2 ⟨rfl, hrow, q, vs, hw2⟩
    have g1 := HG1.out
    have hOR : O ≠ R := by obtain ⟨sp, h, _⟩ := g1.hR; exact g1.hO.ne h (by decide)
    have hBR : B ≠ R := by obtain ⟨sp, h, _⟩ := g1.hR; obtain ⟨C, hC⟩ := g1.hI.blk; exact hC.ne h (by decide)
    have hBO : B ≠ O := by obtain ⟨C, hC⟩ := g1.hI.blk; exact hC.ne g1.hO (by decide)
    have hO2 : At w2 O _ 28 := g1.hO.of_heap (by rw [hw2, heap_setCells_other R O hOR]; rfl)
    have hI2 : IdsAt w2 B ids := g1.hI.of_heap (by rw [hw2, heap_setCells_other R B hBR]; rfl)
    have K2 : Kp O R w w2 := K1.out.trans (by rw [hw2]; exact (Kp.of_gr ((Gr.refl w1).drewN q)).trans (kp_setCells R (.inr rfl) _ _ _))
    have d1 := hO2.cell 1
    have f1 := hO2.frozen 1
    simp at d1
    have A : Aside (Ring (w2.setCell ⟨O, 1, none⟩ (.slice (some ⟨R, 0, none⟩) (xs.filter (fun y => y != x)).length cap)) O B R n c cap ids (xs.filter (fun y => y != x)) ∧ Kp O R w (w2.setCell ⟨O, 1, none⟩ (.slice (some ⟨R, 0, none⟩) (xs.filter (fun y => y != x)).length cap))) := by
      refine ⟨⟨by simpa using hO2.set 1 _, hI2.of_heap (Below.heap_setCell _ _ _ _ hBO), hrow.of_heap (Below.heap_setCell _ _ _ _ hOR.symm), g1.hlen, fun y hy => g1.hin y (List.mem_filter.1 hy).1⟩, K2.trans (kp_setCell _ _ _ (.inl rfl))⟩
    generalize hys : (xs.filter (fun y => y != x)) = ys at *
    have HY := hide hys
    clear hys
    clear hrow hw2 g1 hO2 hI2 K2 HG1 HD HE K1
    go_wp2
    refine bodyPost_end (results_none rfl _ _ _) rfl ?_
    exact ⟨rfl, by rw [HY.out]; exact A.out⟩
end Go.Proofs.Ybulkapqu
