import Derived.Test.YbulkapquC23
namespace Go.Proofs.Ybulkapqu
open Go.RowKit Go.Sort

structure Env (w w' : World) : Prop where
  os : w'.os = w.os
  tape : w'.tape = w.tape
  output : w'.output = w.output
theorem Env.refl (w : World) : Env w w := ⟨rfl, rfl, rfl⟩
theorem Env.trans {a b c : World} (h : Env a b) (h' : Env b c) : Env a c := ⟨h'.os.trans h.os, h'.tape.trans h.tape, h'.output.trans h.output⟩
theorem Gr.env {w w' : World} (g : Gr w w') : Env w w' := by
  have b := g.below w.heap.size (Nat.le_refl _)
  exact ⟨b.os, b.tape, b.output⟩
theorem Step.env {TR : Nat} {ob ob' : Option Nat} {w w' : World} (s : Step TR ob w ob' w') : Env w w' := ⟨s.fr.os, s.fr.tape, s.fr.output⟩
theorem Env.set {w w' : World} (h : Env w w') (a : Addr) (u : Value) : Env w (w'.setCell a u) := ⟨h.os, h.tape, h.output⟩

/-! ### standIn -/
section
variable (c : Cfg) (did : List UInt8) (rel hand wat : Nat → Bool)
def skp (r : Nat) : Bool := rel r || hand r || !(inG c r (viewL c.f r did))
def lef (r : Nat) : Bool := !(skp c did rel hand r) && (wat r && spkB c r did)
def fre (r : Nat) : Bool := !(skp c did rel hand r) && !(wat r && spkB c r did)
def rlD (d r : Nat) : Bool := rel r || (decide (r < d) && fre c did rel hand wat r)
def lfD (d r : Nat) : Bool := decide (r < d) && lef c did rel hand wat r
theorem rlD_same (d : Nat) (h : fre c did rel hand wat d = false) : rlD c did rel hand wat (d + 1) = rlD c did rel hand wat d := by
  funext r
  unfold rlD
  by_cases e : r = d
  · subst e; simp [h]
  · have : (r < d + 1) = (r < d) := by apply propext; omega
    simp only [this]
theorem lfD_same (d : Nat) (h : lef c did rel hand wat d = false) : lfD c did rel hand wat (d + 1) = lfD c did rel hand wat d := by
  funext r
  unfold lfD
  by_cases e : r = d
  · subst e; simp [h]
  · have : (r < d + 1) = (r < d) := by apply propext; omega
    simp only [this]
theorem rlD_other (d r : Nat) (h : r ≠ d) : rlD c did rel hand wat (d + 1) r = rlD c did rel hand wat d r := by
  unfold rlD
  have : (r < d + 1) = (r < d) := by apply propext; omega
  simp only [this]
theorem lfD_other (d r : Nat) (h : r ≠ d) : lfD c did rel hand wat (d + 1) r = lfD c did rel hand wat d r := by
  unfold lfD
  have : (r < d + 1) = (r < d) := by apply propext; omega
  simp only [this]
theorem rlD_self (d : Nat) : rlD c did rel hand wat d d = rel d := by unfold rlD; simp
theorem rlD_put (d : Nat) (h : fre c did rel hand wat d = true) : rlD c did rel hand wat (d + 1) d = true := by unfold rlD; simp [h]
theorem lfD_put (d : Nat) (h : lef c did rel hand wat d = true) : lfD c did rel hand wat (d + 1) d = true := by unfold lfD; simp [h]
end
structure SI (c : Cfg) (did : List UInt8) (rel hand wat : Nat → Bool) (TR NB base : Nat) (w0 : World) (stamp : Int) (d : Nat) (ob : Option Nat) (ms : List (List Value)) (W : World) : Prop where
  rs : RS TR NB base w0 ob ms W
  env : Env w0 W
  msgs : ∀ m ∈ ms, ∃ r, r < 2 ∧ fre c did rel hand wat r = true ∧ r < c.nr ∧ Msg (r : Int) did stamp m
  len : ms.length ≤ 640 * d
  nb : At W NB (notV stamp (rlD c did rel hand wat d) hand) 114
  a4 : At W w0.heap.size (idV did).toArray 37
  a5 : At W (w0.heap.size + 1) (twoV wat) 49
  a6 : At W (w0.heap.size + 1 + 1) (twoV (lfD c did rel hand wat d)) 49
theorem SI.gr {c : Cfg} {did : List UInt8} {rel hand wat : Nat → Bool} {TR NB base : Nat} {w0 : World} {stamp : Int} {d : Nat} {ob : Option Nat} {ms : List (List Value)} {W W' : World} (h : SI c did rel hand wat TR NB base w0 stamp d ob ms W) (g : Gr W W') : SI c did rel hand wat TR NB base w0 stamp d ob ms W' :=
  ⟨h.rs.gr g, h.env.trans g.env, h.msgs, h.len, h.nb.gr g, h.a4.gr g, h.a5.gr g, h.a6.gr g⟩
theorem SI.skip {c : Cfg} {did : List UInt8} {rel hand wat : Nat → Bool} {TR NB base : Nat} {w0 : World} {stamp : Int} {d : Nat} {ob : Option Nat} {ms : List (List Value)} {W : World} (h : SI c did rel hand wat TR NB base w0 stamp d ob ms W) (h1 : fre c did rel hand wat d = false) (h2 : lef c did rel hand wat d = false) : SI c did rel hand wat TR NB base w0 stamp (d + 1) ob ms W :=
  ⟨h.rs, h.env, h.msgs, by have := h.len; omega, by rw [rlD_same _ _ _ _ _ _ h1]; exact h.nb, h.a4, h.a5, by rw [lfD_same _ _ _ _ _ _ h2]; exact h.a6⟩
theorem SI.left {c : Cfg} {did : List UInt8} {rel hand wat : Nat → Bool} {TR NB base : Nat} {w0 : World} {stamp : Int} {d : Nat} {ob : Option Nat} {ms : List (List Value)} {W : World} (h : SI c did rel hand wat TR NB base w0 stamp d ob ms W) (hNB : NB < w0.heap.size) (hd : d < 2) (h1 : fre c did rel hand wat d = false) (h2 : lef c did rel hand wat d = true) : SI c did rel hand wat TR NB base w0 stamp (d + 1) ob ms (W.setCell ⟨w0.heap.size + 1 + 1, d, none⟩ (.bool true)) := by
  have hT : w0.heap.size + 1 + 1 ≠ TR := by obtain ⟨v, a, _⟩ := h.rs.log.tr; exact At.ne h.a6 a (by decide)
  refine ⟨h.rs.set _ _ (by show w0.heap.size ≤ w0.heap.size + 1 + 1; omega) hT (h.rs.log.apart h.a6 (by decide)), h.env.set _ _, h.msgs, by have := h.len; omega, ?_, h.a4.setOther _ _ (by show w0.heap.size ≠ w0.heap.size + 1 + 1; omega), h.a5.setOther _ _ (by show w0.heap.size + 1 ≠ w0.heap.size + 1 + 1; omega), ?_⟩
  · rw [rlD_same _ _ _ _ _ _ h1]; exact h.nb.setOther _ _ (by show NB ≠ w0.heap.size + 1 + 1; omega)
  · have := h.a6.set d (.bool true)
    rwa [two_set _ d hd _ (lfD_put _ _ _ _ _ _ h2) (fun r hr => lfD_other _ _ _ _ _ _ _ hr)] at this
theorem RS.setNB {TR NB base : Nat} {w0 : World} {ob : Option Nat} {ms : List (List Value)} {w : World} (h : RS TR NB base w0 ob ms w) (o : Nat) (u : Value) (h1 : NB ≠ TR) (h2 : ob ≠ some NB) : RS TR NB base w0 ob ms (w.setCell ⟨NB, o, none⟩ u) :=
  ⟨by rw [World.size_setCell]; exact h.size, fun k hk x y => by rw [Below.heap_setCell _ _ _ _ (by exact y), h.keep k hk x y], h.log.setOther _ u h1 h2, h.hob⟩
/-- The notice is marked ahead of the relay. -/
theorem SI.mark {c : Cfg} {did : List UInt8} {rel hand wat : Nat → Bool} {TR NB base : Nat} {w0 : World} {stamp : Int} {d : Nat} {ob : Option Nat} {ms : List (List Value)} {W : World} (h : SI c did rel hand wat TR NB base w0 stamp d ob ms W) (hNB : NB < w0.heap.size) (hd : d < 2) (h1 : fre c did rel hand wat d = true) (h2 : lef c did rel hand wat d = false) :
    RS TR NB base w0 ob ms (W.setCell ⟨NB, 2 + d, none⟩ (.bool true)) ∧ SI c did rel hand wat TR NB base w0 stamp (d + 1) ob ms (W.setCell ⟨NB, 2 + d, none⟩ (.bool true)) := by
  have hT : NB ≠ TR := by obtain ⟨v, a, _⟩ := h.rs.log.tr; exact At.ne h.nb a (by decide)
  have r := h.rs.setNB (2 + d) (.bool true) hT (h.rs.log.apart h.nb (by decide))
  refine ⟨r, r, h.env.set _ _, h.msgs, by have := h.len; omega, ?_, h.a4.setOther _ _ (by show w0.heap.size ≠ NB; omega), h.a5.setOther _ _ (by show w0.heap.size + 1 ≠ NB; omega), ?_⟩
  · have := h.nb.set (2 + d) (.bool true)
    rwa [not_set _ _ _ d hd _ (rlD_put _ _ _ _ _ _ h1) (fun r hr => rlD_other _ _ _ _ _ _ _ hr)] at this
  · rw [lfD_same _ _ _ _ _ _ h2]; exact h.a6.setOther _ _ (by show w0.heap.size + 1 + 1 ≠ NB; omega)
theorem SI.sent {c : Cfg} {did : List UInt8} {rel hand wat : Nat → Bool} {TR NB base : Nat} {w0 : World} {stamp : Int} {d : Nat} {ob ob' : Option Nat} {ms ms' : List (List Value)} {W W' : World} (h : SI c did rel hand wat TR NB base w0 stamp (d + 1) ob ms W) (hl : ms.length ≤ 640 * d) (hd : d < 2) (hdn : d < c.nr) (h1 : fre c did rel hand wat d = true) (s : Step TR ob W ob' W') (l : LogAt W' TR base ob' (ms ++ ms')) (hm : ∀ m' ∈ ms', Msg (d : Int) did stamp m') (hl' : ms'.length ≤ 640) : SI c did rel hand wat TR NB base w0 stamp (d + 1) ob' (ms ++ ms') W' := by
  have hT : ∀ {b : Nat} {C : Array Value} {t : TypeId}, At W b C t → t ≠ 55 → t ≠ 94 → At W' b C t := fun {b C t} a h1 h2 => by
    obtain ⟨v, a', _⟩ := h.rs.log.tr
    exact s.at a (At.ne a a' h1) (h.rs.log.apart a h2)
  refine ⟨h.rs.step s l, h.env.trans s.env, fun m hm' => ?_, by rw [List.length_append]; omega, hT h.nb (by decide) (by decide), hT h.a4 (by decide) (by decide), hT h.a5 (by decide) (by decide), hT h.a6 (by decide) (by decide)⟩
  rcases List.mem_append.1 hm' with h' | h'
  · exact h.msgs m h'
  · exact ⟨d, hd, h1, hdn, hm m h'⟩

theorem zeroTwo (f : Nat → Bool) (h0 : f 0 = false) (h1 : f 1 = false) : #[Value.bool false, Value.bool false] = twoV f := by simp [twoV, h0, h1]
set_option maxHeartbeats 4000000 in
set_option maxRecDepth 1000000 in
theorem standIn_calls (c : Cfg) (ok : Ok c) (g : Nat → List (List UInt8)) (TR NB base D : Nat) (w0 : World) (hB : Base c g TR NB base w0) (did : List UInt8) (hdid : did.length = 20) (rel hand wat : Nat → Bool) (stamp : Int)
    (hD : w0.cell? ⟨c.MB, 28, none⟩ = some (.map (some D))) (hmap : MapAt w0 D [(did, .pointer (some ⟨NB, 0, none⟩))]) (hN : At w0 NB (notV stamp rel hand) 114) (hlog : LogAt w0 TR base none []) (hgl : ∀ r, r < 2 → (g r).length ≤ 100000) (hcl : ∀ r, r < c.nr → (c.cw r).length ≤ 100000) (h20 : ∀ r, r < c.nr → ∀ l ∈ c.cw r, l.length = 20) :
    Calls Yba.prog 27 #[.pointer (some ⟨c.MB, 0, none⟩), .agg (idV did).toArray, .agg (twoV wat)] w0 fun e w' => e = .returned (.agg (twoV (lfD c did rel hand wat c.nr))) ∧ ∃ ob ms, RS TR NB base w0 ob ms w' ∧ Env w0 w' ∧ (∀ m ∈ ms, ∃ r, r < 2 ∧ fre c did rel hand wat r = true ∧ r < c.nr ∧ Msg (r : Int) did stamp m) ∧ ms.length ≤ 1280 ∧ At w' NB (notV stamp (rlD c did rel hand wat c.nr) hand) 114 := by
  have mixed : Yba.prog.follows .mixedOrders = true := by kernel_rfl
  obtain ⟨S, hS⟩ : ∃ S, S = w0.heap.size := ⟨_, rfl⟩
  obtain ⟨w1, hw1⟩ : ∃ w1, w1 = ((w0.alloc (.cells (idV did).toArray 37)).alloc (.cells (twoV wat) 49)).alloc (.cells #[.bool false, .bool false] 49) := ⟨_, rfl⟩
  have g1 : Gr w0 w1 := by rw [hw1]; exact (((Gr.refl w0).alloc _).alloc _).alloc _
  have J1 : SI c did rel hand wat TR NB base w0 stamp 0 none [] w1 := by
    refine ⟨⟨g1.size, fun k hk _ _ => g1.heap hk, hlog.gr g1, by simp⟩, g1.env, by simp, by simp, ?_, ?_, ?_, ?_⟩
    · have : rlD c did rel hand wat 0 = rel := by funext r; unfold rlD; simp
      rw [this]; exact hN.gr g1
    · rw [hw1]; exact ((At.new w0 _ _).alloc _).alloc _
    · have := At.new (w0.alloc (.cells (idV did).toArray 37)) (twoV wat) 49
      rw [World.size_alloc] at this
      rw [hw1]; exact this.alloc _
    · have := At.new ((w0.alloc (.cells (idV did).toArray 37)).alloc (.cells (twoV wat) 49)) #[.bool false, .bool false] 49
      rw [World.size_alloc, World.size_alloc] at this
      rw [← zeroTwo _ (by simp [lfD]) (by simp [lfD]), hw1]; exact this
  have HNB := hide hN.lt
  have aV := J1.a4
  rw [← hS] at aV
  have LV := hide (fun k os => idload ((aV.gr ((Gr.refl w1).grown k os)).all) hdid)
  have HK := hide (fun k os => run_lookup (hmap.gr (g1.grown k os)) 66 112 Yba.underlying66 Yba.zeroValue112 did hdid)
  have h1 := fun k os => cell_gr (g1.grown k os) hD
  have hf : findE did [(did, .pointer (some ⟨NB, 0, none⟩))] = .pointer (some ⟨NB, 0, none⟩) := by simp [findE]
  rw [hf] at HK
  have HJ := hide J1
  have HB := hide hB
  have HOk := hide ok
  have HGl := hide hgl
  have HCl := hide (And.intro hcl h20)
  have HW := hide hw1
  have HS := hide hS
  have hu37 := Yba.underlying37
  have hidid : (Yba.prog.info? 37).map (·.size) = some (idV did).length := by rw [length_idV, hdid]; kernel_rfl
  obtain ⟨nr, hnr⟩ : ∃ nr, nr = c.nr := ⟨_, rfl⟩
  have hnr2 : nr ≤ 2 := by rw [hnr]; exact ok.nr2
  have HNr := hide hnr
  have HRi : Hid (∀ ob ms W, RS TR NB base w0 ob ms W → W.cell? ⟨c.MB, 21, none⟩ = some (.slice (some ⟨c.RB, 0, none⟩) nr nr)) := fun ob ms W h => by rw [hnr]; exact (h.rel hB).mem.rings
  clear hD hmap hN hlog hgl hcl h20 hB ok hw1 hS g1 J1 aV hf hnr
  go_enter Yba.func27, Yba.ntmps27
  go_upto_region 1 with fail
  rw [show (((w0.alloc (.cells (idV did).toArray 37)).alloc (.cells (twoV wat) 49)).alloc (.cells #[.bool false, .bool false] 49)) = w1 from HW.out.symm, ← HS.out]
  refine wp_region_quiet_grown (by assumption) (by kernel_rfl) ?_
  iterate 5 quiet_step (fail)
  refine wpQuiet_load_mid rfl 37 _ rfl _ _ rfl _ (fun w' hw' => by obtain ⟨p, rfl⟩ := hw'; exact LV.out _ _) ?_
  simp only [Act.put, List.setIfInBounds_toArray, List.set_cons_zero, List.set_cons_succ]
  go_big_quiet_want
  refine quiet_lookup_run 66 _ _ rfl _ _ rfl rfl _ (fun w' hw' => by obtain ⟨p, rfl⟩ := hw'; exact HK.out _ _) ?_
  simp only [Act.put, List.setIfInBounds_toArray, List.set_cons_zero, List.set_cons_succ]
  go_big_quiet_on
  quiet_step (fail)
  refine wpQuiet_nil ?_
  intro _ hw'
  obtain ⟨⟨nq, osq⟩, hw''⟩ := hw'
  subst hw''
  have J2 := HJ.out.gr ((Gr.refl w1).grown nq osq)
  clear LV HK h1 HJ HW
  generalize grow (w1.drewN nq) osq = w2 at *
  have h1 := HRi.out _ _ _ J2.rs
  have HJ2 := hide J2
  clear J2
  go_wp2
  clear h1
  have J2 : Aside (SI c did rel hand wat TR NB base w0 stamp 0 none [] w2) := HJ2.out
  clear HJ2
  go_loopg [24] nr (fun gg s24 wr => ∃ d : Nat, s24 = .int .i64 d ∧ d ≤ nr ∧ nr - d ≤ gg ∧ ∃ ob ms, Aside (SI c did rel hand wat TR NB base w0 stamp d ob ms wr))
  case atStart => exact ⟨0, rfl, Nat.zero_le _, by omega, none, [], J2⟩
  case round =>
    clear J2
    obtain ⟨d, rfl, hdle, hg0, ob, ms, J⟩ := hrel
    by_cases hdn' : d < nr
    · have hd2 : d < 2 := by omega
      have hdn : d < c.nr := by have := HNr.out; omega
      have hdz : (d : Int) < (nr : Int) := by omega
      have hdz2 : (d : Int) < 2 := by omega
      have hdz0 : (0 : Int) ≤ (d : Int) := by omega
      have H44 := hide (wentDown_calls wr NB stamp _ hand J.out.nb d hd2)
      rw [rlD_self] at H44
      have LDd : Hid (∀ W, Gr wr W → (loadVar 37 ⟨S, 0, none⟩).run Yba.prog W = .ok (.agg (idV did).toArray) W) := fun W hW => by rw [HS.out]; exact idload (J.out.a4.gr hW).all hdid
      have gw : Gr wr wr := Gr.refl wr
      obtain ⟨wd, hwd⟩ : ∃ wd, (rel d || hand d) = wd := ⟨_, rfl⟩
      rw [hwd] at H44
      cases wd with
      | true =>
        have hfre : fre c did rel hand wat d = false := by unfold fre skp; rw [hwd]; simp
        have hlef : lef c did rel hand wat d = false := by unfold lef skp; rw [hwd]; simp
        go_wp2_with fail
        refine H44.out.mono ?_
        rintro e w3 ⟨rfl, g3⟩
        have JN : Aside (SI c did rel hand wat TR NB base w0 stamp (d + 1) ob ms w3) := (J.out.gr g3).skip hfre hlef
        clear H44 LDd gw g3 J hfre hlef hwd
        go_wp2
        go_roundg (nr - (d + 1))
        case measure => omega
        case rel => exact ⟨d + 1, by go_num, by omega, Nat.le_refl _, ob, ms, JN⟩
      | false =>
        go_wp2_with fail
        refine H44.out.mono ?_
        rintro e w3 ⟨rfl, g3⟩
        clear gw
        have gw := g3
        have J3 := J.out.gr g3
        have H25 := hide (inGroup_calls c HOk.out w3 (J3.rs.rel HB.out).mem d hdn did hdid)
        obtain ⟨ig, hig⟩ : ∃ ig, inG c d (viewL c.f d did) = ig := ⟨_, rfl⟩
        rw [hig] at H25
        clear H44 g3
        go_wp2_with (first | refine wpList_load_want 37 _ rfl S 0 rfl _ (LDd.out _ (by assumption)) (by kernel_rfl) ?_)
        refine H25.out.mono ?_
        rintro e w4 ⟨rfl, g4⟩
        have gw2 := gw.trans g4
        clear gw
        have gw := gw2
        clear gw2
        have J4 : Aside (SI c did rel hand wat TR NB base w0 stamp d ob ms w4) := J3.gr g4
        clear J J3 g4 H25
        have J := J4
        clear J4
        cases ig with
        | false =>
          have hfre : fre c did rel hand wat d = false := by unfold fre skp; rw [hig]; simp
          have hlef : lef c did rel hand wat d = false := by unfold lef skp; rw [hig]; simp
          have JN : Aside (SI c did rel hand wat TR NB base w0 stamp (d + 1) ob ms w4) := J.out.skip hfre hlef
          clear LDd gw J hfre hlef hwd hig
          go_wp2
          go_roundg (nr - (d + 1))
          case measure => omega
          case rel => exact ⟨d + 1, by go_num, by omega, Nat.le_refl _, ob, ms, JN⟩
        | true =>
          have hskp : skp c did rel hand d = false := by unfold skp; rw [hwd, hig]; rfl
          have q5 := two_cell J.out.a5 d hd2
          rw [← HS.out] at q5
          obtain ⟨wt, hwt⟩ : ∃ wt, wat d = wt := ⟨_, rfl⟩
          rw [hwt] at q5
          cases wt with
          | false =>
            have hfre : fre c did rel hand wat d = true := by unfold fre; rw [hskp, hwt]; rfl
            have hlef : lef c did rel hand wat d = false := by unfold lef; rw [hskp, hwt]; rfl
            clear hskp hwt hig hwd
            obtain ⟨w6, hw6⟩ : ∃ w6, w6 = w4.setCell ⟨NB, 2 + d, none⟩ (.bool true) := ⟨_, rfl⟩
            have hmk := J.out.mark HNB.out hd2 hfre hlef
            rw [← hw6] at hmk
            have qn := not_rel J.out.nb d hd2
            have fn := J.out.nb.frozen (2 + d)
            have hlen := J.out.len
            obtain ⟨V0, hV0⟩ : ∃ V0, V0 = w6.drew := ⟨_, rfl⟩
            have gV0 : Gr w6 V0 := by rw [hV0]; exact (Gr.refl w6).drew
            have HR := hide (relay_calls c HOk.out g TR NB base w0 HB.out V0 ob ms (hmk.1.gr gV0) d hd2 did hdid stamp (msgV (d : Int) did stamp) (msgV_is _ _ _ hdid) (msgV_level _ _ _ hdid) (by omega) (HGl.out d hd2))
            have HSI := hide (hmk.2.gr gV0)
            have HBu := hide (built94 (d : Int) stamp did hdid)
            have hS8 : V0.rangeAt w0.heap.size 0 (idV did) ∧ V0.cell? ⟨NB, 0, none⟩ = some (.int .u64 stamp) := ⟨HSI.out.a4.all, by have := HSI.out.nb.cell 0; simpa [notV] using this⟩
            rw [← HS.out] at hS8
            have HS8 := hide hS8
            have HLN := hide hlen
            have HW6 := hide hw6
            have HV0 := hide hV0
            clear hmk hlen hw6 hV0 gV0 hS8 J
            go_upto_region 8 with (first | refine wpList_load_want 37 _ rfl S 0 rfl _ (LDd.out _ (by assumption)) (by kernel_rfl) ?_ | refine wpList_load_run rfl 37 _ rfl S 0 rfl _ (LDd.out _ (by assumption)) ?_)
            rw [← HW6.out]
            clear qn fn HW6
            refine wp_region_held_drew (S := fun W => W.rangeAt S 0 (idV did) ∧ W.cell? ⟨NB, 0, none⟩ = some (.int .u64 stamp)) (by kernel_rfl) (by rw [← HV0.out]; exact HS8.out) (fun hHeld => ?_)
            rw [← HV0.out] at hHeld ⊢
            refine wpAnyH_take (i := 0) (v := ?_) rfl (by kernel_rfl) (by kernel_rfl) (by kernel_rfl) (fun _ _ _ h => h) (Or.inl ⟨by rfl, ?_⟩) (by assumption) ?_
            rotate_left
            · intro w hSw; go_simp; try with_reducible rfl
            refine wpAnyH_take (i := 1) (v := ?_) rfl (by kernel_rfl) (by kernel_rfl) (by kernel_rfl) (fun _ _ _ h => h) (Or.inl ⟨by rfl, ?_⟩) (by assumption) ?_
            rotate_left
            · intro w hSw; go_simp; try with_reducible rfl
            simp only [Act.put, List.getElem_toArray, List.getElem_cons_succ, List.getElem_cons_zero, List.setIfInBounds_toArray, List.set_cons_zero, List.set_cons_succ]
            refine wpAnyH_take (i := 2) (v := _) rfl (by kernel_rfl) (by kernel_rfl) (by kernel_rfl) (fun _ _ _ h => h) (yieldsIf_load_mid (by rfl) 37 _ rfl S 0 rfl (idV did) _ (fun W h => h.1) hu37 rfl hidid) (by assumption) ?_
            refine wpAnyH_take (i := 3) (v := ?_) rfl (by kernel_rfl) (by kernel_rfl) (by kernel_rfl) (fun _ _ _ h => h) (Or.inl ⟨by rfl, ?_⟩) (by assumption) ?_
            rotate_left
            · intro w hSw; go_simp; try with_reducible rfl
            refine wpAnyH_take (i := 4) (v := ?_) rfl (by kernel_rfl) (by kernel_rfl) (by kernel_rfl) (fun _ _ _ h => h) (Or.inl ⟨by rfl, ?_⟩) (by assumption) ?_
            rotate_left
            · intro w hSw; go_simp; try with_reducible rfl
            refine wpAnyH_take (i := 5) (v := ?_) rfl (by kernel_rfl) (by kernel_rfl) (by kernel_rfl) (fun _ _ _ h => h) (Or.inl ⟨by rfl, ?_⟩) (by assumption) ?_
            rotate_left
            · intro w hSw; go_simp; try with_reducible rfl
            refine wpAnyH_take (i := 6) (v := ?_) rfl (by kernel_rfl) (by kernel_rfl) (by kernel_rfl) (fun _ _ _ h => h) (Or.inl ⟨by rfl, ?_⟩) (by assumption) ?_
            rotate_left
            · intro w hSw; have q6 := hSw.2; go_simp; try with_reducible rfl
            simp only [Act.put, List.getElem_toArray, List.getElem_cons_succ, List.getElem_cons_zero, List.setIfInBounds_toArray, List.set_cons_zero, List.set_cons_succ]
            refine wpAnyH_ready (rs := [7]) (by kernel_rfl) (by simp) ?_
            refine AllReadyH.cons rfl (fun K hK => ?_) AllReadyH.nil
            rw [if_pos (by rfl)]
            refine wp_build_run 94 _ rfl [(0, .int .u8 19), (1, .int .i64 (d : Int)), (3, .agg (idV did).toArray), (16, .int .u64 stamp)] (by simp [Act.eval]) _ HBu.out ?_
            refine hK.out _ _ hHeld (fun hHeld2 => ?_)
            clear hHeld hK K
            refine wpAnyH_ready (rs := [8]) (by kernel_rfl) (by simp) ?_
            refine AllReadyH.cons rfl (fun K hK => ?_) AllReadyH.nil
            go_simp
            go_at_call 45
            refine HR.out.mono ?_
            rintro e w7 ⟨rfl, ob2, ms2, hst, hlog, hmsg, hl2⟩
            have J7 : Aside (SI c did rel hand wat TR NB base w0 stamp (d + 1) ob2 (ms ++ ms2) w7) := HSI.out.sent HLN.out hd2 hdn hfre hst hlog hmsg hl2
            have hS9 : w7.rangeAt S 0 (idV did) ∧ w7.cell? ⟨NB, 0, none⟩ = some (.int .u64 stamp) := ⟨by rw [HS.out]; exact J7.out.a4.all, by have := J7.out.nb.cell 0; simpa [notV] using this⟩
            refine hK.out _ _ hS9 (fun _ => ?_)
            clear hHeld2 hK K hS9 hst hlog hmsg hl2 HR HSI HBu HS8 HLN HV0
            refine wpAnyH_done (by kernel_rfl) ?_ _
            go_wp2
            go_roundg (nr - (d + 1))
            case measure => omega
            case rel => exact ⟨d + 1, by go_num, by omega, Nat.le_refl _, ob2, _, J7⟩
          | true =>
            have H26 := hide (speaksFor_calls c HOk.out w4 (J.out.rs.rel HB.out).mem d hdn did hdid (HCl.out.1 d hdn) (HCl.out.2 d hdn))
            obtain ⟨sp, hsp⟩ : ∃ sp, spkB c d did = sp := ⟨_, rfl⟩
            rw [hsp] at H26
            go_wp2_with (first | refine wpList_load_want 37 _ rfl S 0 rfl _ (LDd.out _ (by assumption)) (by kernel_rfl) ?_)
            refine H26.out.mono ?_
            rintro e w5 ⟨rfl, g5⟩
            have gw2 := gw.trans g5
            clear gw
            have gw := gw2
            clear gw2
            have J5 : Aside (SI c did rel hand wat TR NB base w0 stamp d ob ms w5) := J.out.gr g5
            clear J g5 H26 q5
            have J := J5
            clear J5
            cases sp with
            | false =>
              have hfre : fre c did rel hand wat d = true := by unfold fre; rw [hskp, hwt, hsp]; rfl
              have hlef : lef c did rel hand wat d = false := by unfold lef; rw [hskp, hwt, hsp]; rfl
              clear hskp hwt hig hwd hsp
              obtain ⟨w6, hw6⟩ : ∃ w6, w6 = w5.setCell ⟨NB, 2 + d, none⟩ (.bool true) := ⟨_, rfl⟩
              have hmk := J.out.mark HNB.out hd2 hfre hlef
              rw [← hw6] at hmk
              have qn := not_rel J.out.nb d hd2
              have fn := J.out.nb.frozen (2 + d)
              have hlen := J.out.len
              obtain ⟨V0, hV0⟩ : ∃ V0, V0 = w6.drew := ⟨_, rfl⟩
              have gV0 : Gr w6 V0 := by rw [hV0]; exact (Gr.refl w6).drew
              have HR := hide (relay_calls c HOk.out g TR NB base w0 HB.out V0 ob ms (hmk.1.gr gV0) d hd2 did hdid stamp (msgV (d : Int) did stamp) (msgV_is _ _ _ hdid) (msgV_level _ _ _ hdid) (by omega) (HGl.out d hd2))
              have HSI := hide (hmk.2.gr gV0)
              have HBu := hide (built94 (d : Int) stamp did hdid)
              have hS8 : V0.rangeAt w0.heap.size 0 (idV did) ∧ V0.cell? ⟨NB, 0, none⟩ = some (.int .u64 stamp) := ⟨HSI.out.a4.all, by have := HSI.out.nb.cell 0; simpa [notV] using this⟩
              rw [← HS.out] at hS8
              have HS8 := hide hS8
              have HLN := hide hlen
              have HW6 := hide hw6
              have HV0 := hide hV0
              clear hmk hlen hw6 hV0 gV0 hS8 J
              go_upto_region 8 with (first | refine wpList_load_want 37 _ rfl S 0 rfl _ (LDd.out _ (by assumption)) (by kernel_rfl) ?_ | refine wpList_load_run rfl 37 _ rfl S 0 rfl _ (LDd.out _ (by assumption)) ?_)
              rw [← HW6.out]
              clear qn fn HW6
              refine wp_region_held_drew (S := fun W => W.rangeAt S 0 (idV did) ∧ W.cell? ⟨NB, 0, none⟩ = some (.int .u64 stamp)) (by kernel_rfl) (by rw [← HV0.out]; exact HS8.out) (fun hHeld => ?_)
              rw [← HV0.out] at hHeld ⊢
              refine wpAnyH_take (i := 0) (v := ?_) rfl (by kernel_rfl) (by kernel_rfl) (by kernel_rfl) (fun _ _ _ h => h) (Or.inl ⟨by rfl, ?_⟩) (by assumption) ?_
              rotate_left
              · intro w hSw; go_simp; try with_reducible rfl
              refine wpAnyH_take (i := 1) (v := ?_) rfl (by kernel_rfl) (by kernel_rfl) (by kernel_rfl) (fun _ _ _ h => h) (Or.inl ⟨by rfl, ?_⟩) (by assumption) ?_
              rotate_left
              · intro w hSw; go_simp; try with_reducible rfl
              simp only [Act.put, List.getElem_toArray, List.getElem_cons_succ, List.getElem_cons_zero, List.setIfInBounds_toArray, List.set_cons_zero, List.set_cons_succ]
              refine wpAnyH_take (i := 2) (v := _) rfl (by kernel_rfl) (by kernel_rfl) (by kernel_rfl) (fun _ _ _ h => h) (yieldsIf_load_mid (by rfl) 37 _ rfl S 0 rfl (idV did) _ (fun W h => h.1) hu37 rfl hidid) (by assumption) ?_
              refine wpAnyH_take (i := 3) (v := ?_) rfl (by kernel_rfl) (by kernel_rfl) (by kernel_rfl) (fun _ _ _ h => h) (Or.inl ⟨by rfl, ?_⟩) (by assumption) ?_
              rotate_left
              · intro w hSw; go_simp; try with_reducible rfl
              refine wpAnyH_take (i := 4) (v := ?_) rfl (by kernel_rfl) (by kernel_rfl) (by kernel_rfl) (fun _ _ _ h => h) (Or.inl ⟨by rfl, ?_⟩) (by assumption) ?_
              rotate_left
              · intro w hSw; go_simp; try with_reducible rfl
              refine wpAnyH_take (i := 5) (v := ?_) rfl (by kernel_rfl) (by kernel_rfl) (by kernel_rfl) (fun _ _ _ h => h) (Or.inl ⟨by rfl, ?_⟩) (by assumption) ?_
              rotate_left
              · intro w hSw; go_simp; try with_reducible rfl
              refine wpAnyH_take (i := 6) (v := ?_) rfl (by kernel_rfl) (by kernel_rfl) (by kernel_rfl) (fun _ _ _ h => h) (Or.inl ⟨by rfl, ?_⟩) (by assumption) ?_
              rotate_left
              · intro w hSw; have q6 := hSw.2; go_simp; try with_reducible rfl
              simp only [Act.put, List.getElem_toArray, List.getElem_cons_succ, List.getElem_cons_zero, List.setIfInBounds_toArray, List.set_cons_zero, List.set_cons_succ]
              refine wpAnyH_ready (rs := [7]) (by kernel_rfl) (by simp) ?_
              refine AllReadyH.cons rfl (fun K hK => ?_) AllReadyH.nil
              rw [if_pos (by rfl)]
              refine wp_build_run 94 _ rfl [(0, .int .u8 19), (1, .int .i64 (d : Int)), (3, .agg (idV did).toArray), (16, .int .u64 stamp)] (by simp [Act.eval]) _ HBu.out ?_
              refine hK.out _ _ hHeld (fun hHeld2 => ?_)
              clear hHeld hK K
              refine wpAnyH_ready (rs := [8]) (by kernel_rfl) (by simp) ?_
              refine AllReadyH.cons rfl (fun K hK => ?_) AllReadyH.nil
              go_simp
              go_at_call 45
              refine HR.out.mono ?_
              rintro e w7 ⟨rfl, ob2, ms2, hst, hlog, hmsg, hl2⟩
              have J7 : Aside (SI c did rel hand wat TR NB base w0 stamp (d + 1) ob2 (ms ++ ms2) w7) := HSI.out.sent HLN.out hd2 hdn hfre hst hlog hmsg hl2
              have hS9 : w7.rangeAt S 0 (idV did) ∧ w7.cell? ⟨NB, 0, none⟩ = some (.int .u64 stamp) := ⟨by rw [HS.out]; exact J7.out.a4.all, by have := J7.out.nb.cell 0; simpa [notV] using this⟩
              refine hK.out _ _ hS9 (fun _ => ?_)
              clear hHeld2 hK K hS9 hst hlog hmsg hl2 HR HSI HBu HS8 HLN HV0
              refine wpAnyH_done (by kernel_rfl) ?_ _
              go_wp2
              go_roundg (nr - (d + 1))
              case measure => omega
              case rel => exact ⟨d + 1, by go_num, by omega, Nat.le_refl _, ob2, _, J7⟩
            | true =>
              have hfre : fre c did rel hand wat d = false := by unfold fre; rw [hskp, hwt, hsp]; rfl
              have hlef : lef c did rel hand wat d = true := by unfold lef; rw [hskp, hwt, hsp]; rfl
              have q6 := two_cell J.out.a6 d hd2
              have f6 := J.out.a6.frozen d
              rw [← HS.out] at q6 f6
              have JN : Aside (SI c did rel hand wat TR NB base w0 stamp (d + 1) ob ms (w5.setCell ⟨S + 1 + 1, d, none⟩ (.bool true))) := by rw [HS.out]; exact J.out.left HNB.out hd2 hfre hlef
              clear hskp hwt hig hwd hsp LDd gw J hfre hlef
              go_wp2
              go_roundg (nr - (d + 1))
              case measure => omega
              case rel => exact ⟨d + 1, by go_num, by omega, Nat.le_refl _, ob, ms, JN⟩
    · obtain rfl : d = nr := by omega
      have hdz : ¬ ((d : Int) < (d : Int)) := by omega
      obtain ⟨F, hF⟩ : ∃ F, F = lfD c did rel hand wat d := ⟨_, rfl⟩
      have a6 := J.out.a6
      rw [← HS.out, ← hF] at a6
      have z0 := two_cell a6 0 (by omega)
      have z1 := two_cell a6 1 (by omega)
      have f0 := a6.frozen 0
      have f1 := a6.frozen 1
      have a8 : At ((wr.setCell ⟨S + 1 + 1, 0, none⟩ (.bool (F 0))).setCell ⟨S + 1 + 1, 1, none⟩ (.bool (F 1))) (S + 1 + 1) (twoV F) 49 := by
        have := (a6.set 0 (.bool (F 0))).set 1 (.bool (F 1))
        simpa [twoV] using this
      have hT : S + 1 + 1 ≠ TR := by obtain ⟨v, a, _⟩ := J.out.rs.log.tr; exact At.ne a6 a (by decide)
      have hO : ob ≠ some (S + 1 + 1) := J.out.rs.log.apart a6 (by decide)
      have r8 : RS TR NB base w0 ob ms ((wr.setCell ⟨S + 1 + 1, 0, none⟩ (.bool (F 0))).setCell ⟨S + 1 + 1, 1, none⟩ (.bool (F 1))) := by
        have hle : w0.heap.size ≤ S + 1 + 1 := by rw [HS.out]; omega
        exact (J.out.rs.set _ _ hle hT hO).set _ _ hle hT hO
      have hne : NB ≠ S + 1 + 1 := by have := HNB.out; rw [HS.out]; omega
      have HF8 := hide (And.intro r8 (And.intro ((J.out.env.set ⟨S + 1 + 1, 0, none⟩ (.bool (F 0))).set ⟨S + 1 + 1, 1, none⟩ (.bool (F 1))) (And.intro J.out.msgs (And.intro J.out.len ((J.out.nb.setOther ⟨S + 1 + 1, 0, none⟩ (.bool (F 0)) hne).setOther ⟨S + 1 + 1, 1, none⟩ (.bool (F 1)) hne)))))
      have HA8 := hide a8
      have HFe := hide hF
      have HI49 : Hid ((Yba.prog.info? 49).map (·.size) = some (twoV F).size) := by show (Yba.prog.info? 49).map (·.size) = some 2; kernel_rfl
      clear a6 a8 hT hO r8 hne J hF
      go_wp2
      refine bodyPost_ret_by (results_cell_row (P := Yba.prog) (p := 6) (ty := 49) rfl _ _ (S + 1 + 1) 49 (twoV F) _ _ rfl HA8.out Yba.underlying49 rfl HI49.out) rfl ?_
      obtain ⟨x1, x2, x3, x4, x5⟩ := HF8.out
      rw [HFe.out] at *
      have hn := HNr.out
      subst hn
      exact ⟨rfl, ob, ms, x1, x2, x3, by omega, x5⟩
end Go.Proofs.Ybulkapqu
