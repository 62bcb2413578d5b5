import Derived.Test.YbulkapquC16
namespace Go.Proofs.Ybulkapqu
open Go.RowKit Go.Sort

/-! ### group -/
set_option maxHeartbeats 4000000 in
set_option maxRecDepth 1000000 in
theorem group_calls (c : Cfg) (ok : Ok c) (w : World) (h : Mem c w) (r : Nat) : Calls Yba.prog 78 #[.pointer (some ⟨c.MB, 0, none⟩), .int .i64 (r : Int)] w fun e w' => e = .returned (.pointer (some ⟨c.RB, if r = 0 then 45 else 46, none⟩)) ∧ Gr w w' := by
  have HG := hide (hasGroups_calls c ok w h)
  have HM := hide h
  have hn := ok.nr
  have hn' : ¬ c.nr = 0 := by omega
  clear h
  by_cases hr : r = 0
  · subst hr
    rw [if_pos rfl]
    go_enter Yba.func78, Yba.ntmps78
    go_wp2_with fail
    refine HG.out.mono ?_
    rintro e w2 ⟨rfl, g2⟩
    have h1 := (HM.out.gr g2).rings
    have HG2 := hide g2
    clear HG HM g2
    go_wp2
    go_ret
    exact ⟨rfl, HG2.out⟩
  · rw [if_neg hr]
    have hrz : ¬ ((r : Int) = 0) := by omega
    have hrz' : ((r : Int) == 0) = false := by simpa using hrz
    go_enter Yba.func78, Yba.ntmps78
    go_wp2_with fail
    refine HG.out.mono ?_
    rintro e w2 ⟨rfl, g2⟩
    have h1 := (HM.out.gr g2).rings
    have HG2 := hide g2
    clear HG HM g2
    go_wp2
    go_ret
    exact ⟨rfl, HG2.out⟩
end Go.Proofs.Ybulkapqu
