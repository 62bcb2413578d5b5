import Derived.Test.YbulkapquB9
import Derived.Test.YbulkapquB10
import Derived.Deep.DeepCutAuto
namespace Go.Proofs.Ybulkapqu
open Go.RowKit Go.Sort

theorem pick_t (ra rb rx : Nat) (h1 : min ra rb ≤ rx) (h2 : rb < ra) : rb ≤ rx := by omega
theorem pick_f (ra rb rx : Nat) (h1 : min ra rb ≤ rx) (h2 : ¬ rb < ra) : ra ≤ rx := by omega
set_option maxHeartbeats 4000000 in
set_option maxRecDepth 1000000 in
theorem root_calls (w : World) (O B R n c cap : Nat) (ids : List (List UInt8)) (xs : List Nat) (G : Ring w O B R n c cap ids xs) (hm : 0 < xs.length) (hbig : xs.length ≤ 1000000) (pw : xs.Pairwise (fun a b => val ids a ≤ val ids b))
    (lk : List UInt8) (hlk : lk.length = 20) :
    Calls Yba.prog 15 #[.pointer (some ⟨O, 0, none⟩), .agg (idV lk).toArray] w fun e w' => (∃ r : Nat, e = .returned (.int .i64 (r : Int)) ∧ r ∈ xs ∧ ∀ x ∈ xs, rank (Lib.beNat lk) (val ids r) ≤ rank (Lib.beNat lk) (val ids x)) ∧ Gr w w' := by
  have mixed : Yba.prog.follows .mixedOrders = true := by kernel_rfl
  obtain ⟨p, hp, hc⟩ := sorted_cut (val ids) (Lib.beNat lk) xs pw
  obtain ⟨ia, hia⟩ : ∃ i, i = p % xs.length := ⟨_, rfl⟩
  obtain ⟨ib, hib⟩ : ∃ i, i = (p + xs.length - 1) % xs.length := ⟨_, rfl⟩
  have hial : ia < xs.length := hia ▸ Nat.mod_lt _ hm
  have hibl : ib < xs.length := hib ▸ Nat.mod_lt _ hm
  obtain ⟨a, ha⟩ : ∃ a, xs[ia]? = some a := ⟨_, List.getElem?_eq_getElem hial⟩
  obtain ⟨b, hb⟩ : ∃ b, xs[ib]? = some b := ⟨_, List.getElem?_eq_getElem hibl⟩
  have xlt : ∀ x ∈ xs, x < ids.length := fun x hx => by have := G.hin x hx; have := G.hlen; omega
  have hlen20 : ∀ x ∈ xs, (ids.getD x []).length = 20 := fun x hx => by
    rw [List.getD_eq_getElem?_getD, List.getElem?_eq_getElem (xlt x hx)]
    exact G.hI.len _ (List.getElem_mem _)
  have hrk := root_rank (val ids) xs (Lib.beNat lk) p (beNat_lt20 lk hlk) (fun x hx => beNat_lt20 _ (hlen20 x hx)) hp hm pw hc a b (hia ▸ ha) (hib ▸ hb)
  have hax := List.mem_of_getElem? ha
  have hbx := List.mem_of_getElem? hb
  have hida : ids[a]? = some (ids.getD a []) := by rw [List.getD_eq_getElem?_getD, List.getElem?_eq_getElem (xlt a hax)]; rfl
  have hidb : ids[b]? = some (ids.getD b []) := by rw [List.getD_eq_getElem?_getD, List.getElem?_eq_getElem (xlt b hbx)]; rfl
  have hnear := near_val lk (ids.getD b []) (ids.getD a []) hlk (hlen20 b hbx) (hlen20 a hax)
  have han := G.hin a hax
  have hbn := G.hin b hbx
  obtain ⟨S, hS⟩ : ∃ S, S = w.heap.size := ⟨_, rfl⟩
  obtain ⟨w1, hw1⟩ : ∃ w1, w1 = w.alloc (.cells (idV lk).toArray 37) := ⟨_, rfl⟩
  have g1 : Gr w w1 := hw1 ▸ (Gr.refl w).alloc _
  have aK : At w1 S (idV lk).toArray 37 := by rw [hw1, hS]; exact At.new w _ _
  have LK1 := hide (idload aK.all hlk)
  have c1 := ((G.gr g1).hO.cell 1)
  simp at c1
  have HF := hide (find_calls w1 O B R n c cap ids xs (G.gr g1) (by omega) lk hlk p hp hc)
  have HG := hide (G.gr g1)
  have HK := hide aK
  have HW := hide hw1
  have HS := hide hS
  have Hg1 := hide g1
  have HL : Hid (xs[ia]? = some a ∧ xs[ib]? = some b ∧ ids[a]? = some (ids.getD a []) ∧ ids[b]? = some (ids.getD b []) ∧ (ids.getD a []).length = 20 ∧ (ids.getD b []).length = 20) := ⟨ha, hb, hida, hidb, hlen20 a hax, hlen20 b hbx⟩
  have HRK := hide hrk
  have HNr := hide hnear
  have HM := hide (And.intro hax hbx)
  have hr1 : (p : Int).tmod (xs.length : Int) = (ia : Int) := by rw [hia]; rfl
  have hr2 : ((p : Int) - 1 + (xs.length : Int)).tmod (xs.length : Int) = (ib : Int) := by
    rw [hib, show (p : Int) - 1 + (xs.length : Int) = ((p + xs.length - 1 : Nat) : Int) by omega]
    rfl
  have hmz : ¬ ((xs.length : Int) = 0) := by omega
  have hm0 : ¬ (xs.length = 0) := by omega
  have hmz' : ((xs.length : Int) == 0) = false := by simpa using hmz
  have hw2 : IntKind.i64.wrap ((p : Int) - 1) = (p : Int) - 1 := by rw [IntKind.wrap_i64]; omega
  have hw3 : IntKind.i64.wrap ((p : Int) - 1 + (xs.length : Int)) = (p : Int) - 1 + (xs.length : Int) := by rw [IntKind.wrap_i64]; omega
  clear G hc ha hb hax hbx hida hidb hrk hnear hw1 hS g1 aK hlen20 xlt hia hib pw
  generalize hxm : xs.length = m at *
  have HXm := hide hxm
  clear hxm
  go_enter Yba.func15, Yba.ntmps15
  go_upto_region 1 with fail
  rw [← HW.out, ← HS.out]
  go_wp2_with (first | refine wpList_load_run rfl 37 _ rfl S 0 rfl _ LK1.out ?_)
  refine HF.out.mono ?_
  rintro e w2 ⟨⟨bf, rfl, _⟩, g2⟩
  have G2 := HG.out.gr g2
  have gW : Gr w w2 := Hg1.out.trans g2
  have aK2 := HK.out.gr g2
  have o0 := fun k os => (G2.gr ((Gr.refl w2).grown k os)).hO.cell 0
  have o1 := fun k os => (G2.gr ((Gr.refl w2).grown k os)).hO.cell 1
  have ra := fun k os => (G2.gr ((Gr.refl w2).grown k os)).hR.cell ia a HL.out.1
  have rb := fun k os => (G2.gr ((Gr.refl w2).grown k os)).hR.cell ib b HL.out.2.1
  simp at o0 o1 ra rb
  rw [HXm.out] at o1
  have HG2 := hide (And.intro G2 (And.intro gW aK2))
  have HO0 := hide o0
  clear g2 G2 gW aK2 HG HK HF LK1 c1 Hg1 HW w1 o0
  go_wp2_with fail
  refine wp_region_quiet_grown (by assumption) (by kernel_rfl) ?_
  repeat (quiet_step (fail))
  refine wpQuiet_nil ?_
  intro _ hw'
  obtain ⟨⟨nq, osq⟩, hw''⟩ := hw'
  subst hw''
  obtain ⟨w3, hw3e⟩ : ∃ w3, w3 = grow (w2.drewN nq) osq := ⟨_, rfl⟩
  rw [← hw3e]
  have g3 : Gr w2 w3 := hw3e ▸ ((Gr.refl w2).grown nq osq)
  have G3 := HG2.out.1.gr g3
  have o0 := fun k os => (G3.gr ((Gr.refl w3).grown k os)).hO.cell 0
  simp at o0
  obtain ⟨la, hla⟩ : ∃ la, ids.getD a [] = la := ⟨_, rfl⟩
  obtain ⟨lb, hlb⟩ : ∃ lb, ids.getD b [] = lb := ⟨_, rfl⟩
  have hl := HL.out
  have hnr := HNr.out
  have hva : val ids a = Lib.beNat la := by rw [val, hla]
  have hvb : val ids b = Lib.beNat lb := by rw [val, hlb]
  rw [hla, hlb] at hl hnr
  have LK := hide (fun k os => idload (((HG2.out.2.2.gr g3).gr ((Gr.refl w3).grown k os)).all) hlk)
  have LA := hide (fun k os => idload ((G3.gr ((Gr.refl w3).grown k os)).hI.row a la hl.2.2.1) hl.2.2.2.2.1)
  have LB := hide (fun k os => idload ((G3.gr ((Gr.refl w3).grown k os)).hI.row b lb hl.2.2.2.1) hl.2.2.2.2.2)
  have hnc := fun k os => near_calls (grow (w3.drewN k) os) lk lb la hlk hl.2.2.2.2.2 hl.2.2.2.2.1
  obtain ⟨nb, hnb⟩ : ∃ nb, nearL lk lb la = nb := ⟨_, rfl⟩
  rw [hnb] at hnc hnr
  have HNC := hide hnc
  have HGW := hide (HG2.out.2.1.trans g3)
  have HF : Hid (∀ x ∈ xs, rank (Lib.beNat lk) (val ids (if nb then b else a)) ≤ rank (Lib.beNat lk) (val ids x)) := fun x hx => by
    have h1 := HRK.out x hx
    rw [hva, hvb] at h1
    cases nb with
    | true =>
      have h2 : rank (Lib.beNat lk) (Lib.beNat lb) < rank (Lib.beNat lk) (Lib.beNat la) := by simpa using hnr.symm
      show rank _ (val ids b) ≤ _
      rw [hvb]
      exact pick_t _ _ _ h1 h2
    | false =>
      have h2 : ¬ rank (Lib.beNat lk) (Lib.beNat lb) < rank (Lib.beNat lk) (Lib.beNat la) := by simpa using hnr.symm
      show rank _ (val ids a) ≤ _
      rw [hva]
      exact pick_f _ _ _ h1 h2
  have haz : (0:Int) ≤ (a : Int) := by omega
  have hbz : (0:Int) ≤ (b : Int) := by omega
  have haz2 : (a : Int) < (n : Int) := by omega
  have hbz2 : (b : Int) < (n : Int) := by omega
  clear hnc hnr hl hva hvb g3 G3 hw3e HG2 HO0 o1 ra rb HL HNr hla hlb hnb HRK
  go_wp2_with fail
  refine wp_region_quiet_grown (by assumption) (by kernel_rfl) ?_
  refine wpQuiet_load_mid rfl 37 _ rfl _ _ rfl _ (fun w' hw' => by obtain ⟨p, rfl⟩ := hw'; exact LK.out _ _) ?_
  iterate 6 quiet_step (fail)
  refine wpQuiet_load_mid rfl 37 _ rfl _ _ rfl _ (fun w' hw' => by obtain ⟨p, rfl⟩ := hw'; exact LB.out _ _) ?_
  iterate 6 quiet_step (fail)
  refine wpQuiet_load_mid rfl 37 _ rfl _ _ rfl _ (fun w' hw' => by obtain ⟨p, rfl⟩ := hw'; exact LA.out _ _) ?_
  quiet_step ((go_at_call 19; refine Calls.grown_of' (HNC.out _ _)))
  refine wpQuiet_nil ?_
  intro _ hw'
  obtain ⟨⟨nq2, osq2⟩, hw''⟩ := hw'
  subst hw''
  have HGW2 := hide (HGW.out.grown nq2 osq2)
  clear o0 LK LA LB HNC HGW
  generalize grow (w3.drewN nq2) osq2 = w4 at *
  cases nb with
  | false =>
    go_wp2
    go_ret
    exact ⟨⟨a, rfl, HM.out.1, HF.out⟩, HGW2.out⟩
  | true =>
    go_wp2
    go_ret
    exact ⟨⟨b, rfl, HM.out.2, HF.out⟩, HGW2.out⟩
end Go.Proofs.Ybulkapqu
