import Derived.Test.YbulkapquC24
import Derived.Ground.SlsfProg
import Derived.Shelf.SlSortCmp.NoneTotal
namespace Go.Proofs
open Go.Shelf
def Yba.laysPeer_ren : Go.Shelf.Ren := ⟨fun | 6 => 23 | 15 => 40 | 14 => 39 | 28 => 68 | 29 => 69 | 20 => 60 | 21 => 61 | 22 => 62 | 23 => 63 | 24 => 64 | 25 => 65 | 26 => 66 | 27 => 67 | 46 => 93 | 47 => 94 | 48 => 95 | 49 => 96 | 50 => 97 | 57 => 109 | n => n, fun | 22 => 70 | 24 => 110 | 25 => 116 | 3 => 3 | 39 => 32 | 0 => 0 | 53 => 143 | 55 => 48 | 4 => 4 | 46 => 158 | 45 => 157 | 50 => 123 | 5 => 5 | 9 => 9 | 66 => 182 | 70 => 186 | 76 => 206 | 77 => 207 | n => n, fun | n => n⟩
theorem Yba.laysPeer : Go.Proofs.SlLaysF0.n6 Yba.prog Yba.laysPeer_ren := {
  mixed := by kernel_rfl
  f6 := ⟨Yba.f23.name, by decide, Yba.func23.trans (congrArg some (by kernel_rfl))⟩
  f14 := ⟨Yba.f39.name, by decide, Yba.func39.trans (congrArg some (by kernel_rfl))⟩
  f15 := Yba.func40.trans (congrArg some (by kernel_rfl))
  f20 := ⟨Yba.f60.name, by decide, Yba.func60.trans (congrArg some (by kernel_rfl))⟩
  f21 := ⟨Yba.f61.name, by decide, Yba.func61.trans (congrArg some (by kernel_rfl))⟩
  f22 := ⟨Yba.f62.name, by decide, Yba.func62.trans (congrArg some (by kernel_rfl))⟩
  f23 := ⟨Yba.f63.name, by decide, Yba.func63.trans (congrArg some (by kernel_rfl))⟩
  f24 := ⟨Yba.f64.name, by decide, Yba.func64.trans (congrArg some (by kernel_rfl))⟩
  f25 := ⟨Yba.f65.name, by decide, Yba.func65.trans (congrArg some (by kernel_rfl))⟩
  f26 := ⟨Yba.f66.name, by decide, Yba.func66.trans (congrArg some (by kernel_rfl))⟩
  f27 := ⟨Yba.f67.name, by decide, Yba.func67.trans (congrArg some (by kernel_rfl))⟩
  f28 := Yba.func68.trans (congrArg some (by kernel_rfl))
  f29 := Yba.func69.trans (congrArg some (by kernel_rfl))
  f46 := ⟨Yba.f93.name, by decide, Yba.func93.trans (congrArg some (by kernel_rfl))⟩
  f47 := Yba.func94.trans (congrArg some (by kernel_rfl))
  f48 := Yba.func95.trans (congrArg some (by kernel_rfl))
  f49 := ⟨Yba.f96.name, by decide, Yba.func96.trans (congrArg some (by kernel_rfl))⟩
  f50 := ⟨Yba.f97.name, by decide, Yba.func97.trans (congrArg some (by kernel_rfl))⟩
  f57 := ⟨Yba.f109.name, by decide, Yba.func109.trans (congrArg some (by kernel_rfl))⟩
  t0 := Yba.underlying0
  a0 := Yba.isAgg0
  z0 := Yba.sizeOf0
  v0 := Yba.zeroValue0
  t3 := Yba.underlying3
  a3 := Yba.isAgg3
  z3 := Yba.sizeOf3
  v3 := Yba.zeroValue3
  t4 := Yba.underlying4
  a4 := Yba.isAgg4
  z4 := Yba.sizeOf4
  v4 := Yba.zeroValue4
  t5 := Yba.underlying5
  a5 := Yba.isAgg5
  z5 := Yba.sizeOf5
  v5 := Yba.zeroValue5
  t9 := Yba.underlying9
  a9 := Yba.isAgg9
  z9 := Yba.sizeOf9
  v9 := Yba.zeroValue9
  t22 := Yba.underlying70
  a22 := Yba.isAgg70
  z22 := Yba.sizeOf70
  v22 := Yba.zeroValue70
  t25 := Yba.underlying116
  a25 := Yba.isAgg116
  z25 := Yba.sizeOf116
  v25 := Yba.zeroValue116
  t39 := Yba.underlying32
  a39 := Yba.isAgg32
  z39 := Yba.sizeOf32
  v39 := Yba.zeroValue32
  t45 := Yba.underlying157
  a45 := Yba.isAgg157
  z45 := Yba.sizeOf157
  v45 := Yba.zeroValue157
  t46 := Yba.underlying158
  a46 := Yba.isAgg158
  z46 := Yba.sizeOf158
  v46 := Yba.zeroValue158
  t50 := Yba.underlying123
  a50 := Yba.isAgg123
  z50 := Yba.sizeOf123
  v50 := Yba.zeroValue123
  t53 := Yba.underlying143
  a53 := Yba.isAgg143
  z53 := Yba.sizeOf143
  v53 := Yba.zeroValue143
  t55 := Yba.underlying48
  a55 := Yba.isAgg48
  z55 := Yba.sizeOf48
  v55 := Yba.zeroValue48
  t66 := Yba.underlying182
  a66 := Yba.isAgg182
  z66 := Yba.sizeOf182
  v66 := Yba.zeroValue182
  t70 := Yba.underlying186
  a70 := Yba.isAgg186
  z70 := Yba.sizeOf186
  v70 := Yba.zeroValue186
  t76 := Yba.underlying206
  a76 := Yba.isAgg206
  z76 := Yba.sizeOf206
  v76 := Yba.zeroValue206
  t77 := Yba.underlying207
  a77 := Yba.isAgg207
  z77 := Yba.sizeOf207
  v77 := Yba.zeroValue207 }
end Go.Proofs
namespace Go.Proofs.Ybulkapqu
open Go.RowKit Go.Sort

abbrev Id20 := {l : List UInt8 // l.length = 20}
instance : Inhabited Id20 := ⟨⟨z20, rfl⟩⟩
def encP (x : Id20) : List Value := peerV x.val
def cfP (x y : Id20) : Int := Lib.compareBytes x.val y.val
theorem swoP : SWO (ltOf cfP) := by
  have key : ∀ x y : Id20, ltOf cfP x y = decide (Lib.beNat x.val < Lib.beNat y.val) := fun x y => by
    unfold ltOf cfP
    exact decide_eq_decide.2 (cmp_lt _ _ (x.2.trans y.2.symm))
  refine ⟨fun x => ?_, fun x y z => ?_, fun x y z => ?_⟩
  · rw [key]; simp
  · rw [key, key, key]; simp only [decide_eq_true_eq]; omega
  · rw [key, key, key]; simp only [decide_eq_false_iff_not]; omega

set_option maxHeartbeats 4000000 in
set_option maxRecDepth 1000000 in
theorem ccmp_calls (w : World) (la lb : List UInt8) (hla : la.length = 20) (hlb : lb.length = 20) : Calls Yba.prog 24 #[.agg (peerV la).toArray, .agg (peerV lb).toArray] w fun e w' => e = .returned (.int .i64 (Lib.compareBytes la lb)) ∧ Gr w w' := by
  obtain ⟨S, hS⟩ : ∃ S, S = w.heap.size := ⟨_, rfl⟩
  obtain ⟨w1, hw1⟩ : ∃ w1, w1 = (w.alloc (.cells (peerV la).toArray 110)).alloc (.cells (peerV lb).toArray 110) := ⟨_, rfl⟩
  have g1 : Gr w w1 := by rw [hw1]; exact ((Gr.refl w).alloc _).alloc _
  have aA : At w1 S (peerV la).toArray 110 := by rw [hw1, hS]; exact (At.new w _ _).alloc _
  have aB : At w1 (S + 1) (peerV lb).toArray 110 := by
    have := At.new (w.alloc (.cells (peerV la).toArray 110)) (peerV lb).toArray 110
    rw [World.size_alloc, ← hS] at this
    rw [hw1]; exact this
  have LA := hide (idload (range_pre aA.pall) hla)
  have LB := hide (idload (range_pre aB.pall) hlb)
  have HC := hide (cmp_calls w1 la lb hla hlb)
  have HW := hide hw1
  have HS := hide hS
  have HG := hide g1
  clear hw1 hS g1 aA aB
  generalize Lib.compareBytes la lb = z at *
  go_enter Yba.func24, Yba.ntmps24
  go_upto_region 1 with fail
  rw [← HW.out, ← HS.out]
  go_wp2_with (first | refine wpList_load_run rfl 37 _ rfl S 0 rfl _ LA.out ?_ | refine wpList_load_run rfl 37 _ rfl (S + 1) 0 rfl _ LB.out ?_)
  refine HC.out.mono ?_
  rintro e w2 ⟨rfl, q, hq⟩
  have g2 : Hid (Gr w w2) := HG.out.trans (by rw [hq]; exact (((Gr.refl w1).alloc _).alloc _).drewN q)
  clear HC LA LB hq
  go_wp2
  go_ret
  exact ⟨rfl, g2.out⟩

/-- Peers' rows sorted: other peers, as many. -/
theorem sortPeers_calls (w : World) (v : Value) (ids : List (List UInt8)) (b o cap : Nat) (hp : PeersAt w v ids b o cap) (hfr : ids ≠ [] → ∃ C, At w b C 110) (hlen : ids.length ≤ 100000) :
    Calls Yba.prog 23 #[v, .func (.func 24) #[] #[]] w fun e w' => e = .returned (.tuple #[]) ∧ ∃ ids', ids'.length = ids.length ∧ PeersAt w' v ids' b o cap ∧ w.grownBy w' (some b) := by
  cases ids with
  | nil =>
    obtain ⟨a, c, rfl⟩ : ∃ a c, v = .slice a 0 c := by
      rcases hp.val with h | ⟨h, _⟩
      · exact ⟨_, _, h⟩
      · exact ⟨_, _, h⟩
    refine (AnyF.slices_SortFunc_none Yba.laysPeer a c (.func (.func 24) #[] #[]) w).mono ?_
    rintro e w' ⟨rfl, rfl⟩
    exact ⟨rfl, [], rfl, hp, rfl, rfl, rfl, Nat.le_refl _, fun _ _ _ => rfl⟩
  | cons l0 r0 =>
    obtain ⟨C, hC⟩ := hfr (by simp)
    generalize hids : l0 :: r0 = ids at *
    have hne : ids ≠ [] := by rw [← hids]; simp
    clear hids
    have hv : v = .slice (some ⟨b, o, none⟩) ids.length cap := by
      rcases hp.val with h | ⟨_, h⟩
      · exact h
      · exact absurd h hne
    obtain ⟨d, hd⟩ : ∃ d : Array Id20, d = (ids.attach.map fun l => (⟨l.val, hp.len l.val l.property⟩ : Id20)).toArray := ⟨_, rfl⟩
    have hds : d.size = ids.length := by simp [hd]
    have hdg : ∀ i l, ids[i]? = some l → ∃ h, d[i]! = (⟨l, h⟩ : Id20) := fun i l hl => by
      have hi := (List.getElem?_eq_some_iff.1 hl).1
      refine ⟨hp.len l (List.mem_of_getElem? hl), ?_⟩
      rw [getElem!_pos d i (by omega)]
      apply Subtype.ext
      simp [hd]
      exact (List.getElem?_eq_some_iff.1 hl).2
    have hH : HoldsK encP 24 w b o d := fun j hj => by
      rw [size_flatK, hds] at hj
      rw [get_flatK _ _ _ _ (by rw [hds]; exact hj)]
      have hi : j / 24 < ids.length := by omega
      obtain ⟨l, hl⟩ : ∃ l, ids[j / 24]? = some l := ⟨_, List.getElem?_eq_getElem hi⟩
      obtain ⟨h20, e⟩ := hdg _ _ hl
      rw [e]
      have hc := hp.row _ l hl (j % 24) ((peerV l)[j % 24]!) (by
        rw [List.getElem?_eq_getElem (by rw [length_peerV l h20]; omega), getElem!_pos (peerV l) (j % 24) (by rw [length_peerV l h20]; omega)])
      rw [show o + j / 24 * 24 + j % 24 = o + j by omega] at hc
      exact ⟨hc, hC.frozen _⟩
    have h := AnyQ.slices_SortFunc (P := Yba.prog) (ρ := Yba.laysPeer_ren) Yba.laysPeer 24 Yba.isAgg110 Yba.sizeOf110 encP (fun x => length_peerV x.val x.2) (fun x v hv => by
      have := peer_one x.val
      rw [Array.all_eq_true_iff_forall_mem] at this
      exact this v (by simpa [encP] using hv)) cfP swoP 24 #[] b o cap d w (enters_of Yba.func24 (by kernel_rfl) rfl) (fun m os dk hs x y => ccmp_calls _ x.val y.val x.2 y.2) hH hC.lt (by omega)
    rw [hv, ← hds]
    refine Calls.mono h ?_
    rintro e w' ⟨rfl, d', q, os, hpm, hsd, rfl⟩
    have hs' : d'.size = d.size := hpm.1
    have hH' : HoldsK encP 24 (sortWorldK encP 24 w b o q d' os) b o d' := by
      unfold sortWorldK
      refine holdsK_grow encP 24 _ _ _ _ _ ?_ (holdsK_putRowK encP 24 _ _ _ d d' (holdsK_ahead encP 24 _ _ _ _ _ hH) hs')
      have := hC.lt
      simpa [putRowK, putRow, mapBlock, Sort.ahead] using this
    refine ⟨rfl, d'.toList.map (·.val), by simp [hs'], ⟨.inl (by simp [hs']), fun l hl => ?_, fun i l hl j v hj => ?_⟩, sortWorld_grownBy id w b o q (flatK encP 24 d') os⟩
    · obtain ⟨x, _, rfl⟩ := List.mem_map.1 hl
      exact x.2
    · rw [List.getElem?_map] at hl
      obtain ⟨x, hx, rfl⟩ := Option.map_eq_some_iff.1 hl
      have hi : i < d'.size := by have := (List.getElem?_eq_some_iff.1 hx).1; simpa using this
      have hj' : j < 24 := by have := (List.getElem?_eq_some_iff.1 hj).1; rw [length_peerV x.val x.2] at this; exact this
      have := (hH'.cell hi hj').1
      have ex : d'[i]! = x := by
        rw [getElem!_pos d' i hi]
        have := (List.getElem?_eq_some_iff.1 hx).2
        simpa using this
      rw [ex] at this
      rw [this, encP, getElem!_pos (peerV x.val) j (by rw [length_peerV x.val x.2]; exact hj')]
      have := (List.getElem?_eq_some_iff.1 hj).2
      rw [this]
end Go.Proofs.Ybulkapqu
