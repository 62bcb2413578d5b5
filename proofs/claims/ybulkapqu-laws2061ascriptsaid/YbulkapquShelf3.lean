/-
  The shelf's contract of slices.Insert at []int, laid at this dump by hand (the record as the kit's lay-shelf.mjs would type it).
-/
import Derived.Shelf.Spec.SlicesInsert
import Derived.Test.YbulkapquProg
namespace Go.Proofs
open Go.Shelf
def Yba.laysIns_ren : Go.Shelf.Ren := ⟨fun | 21 => 32 | 27 => 49 | 28 => 50 | 35 => 92 | 39 => 108 | n => n, fun | 0 => 0 | 3 => 3 | 4 => 4 | 22 => 26 | n => n, fun | n => n⟩
theorem Yba.laysIns : Go.Proofs.Lays2.n21 Yba.prog Yba.laysIns_ren := {
  mixed := by kernel_rfl
  f21 := Yba.func32.trans (congrArg some (by kernel_rfl))
  f27 := Yba.func49.trans (congrArg some (by kernel_rfl))
  f28 := Yba.func50.trans (congrArg some (by kernel_rfl))
  f35 := Yba.func92.trans (congrArg some (by kernel_rfl))
  f39 := Yba.func108.trans (congrArg some (by kernel_rfl))
  t0 := Yba.underlying0
  a0 := Yba.isAgg0
  z0 := Yba.sizeOf0
  v0 := Yba.zeroValue0
  t3 := Yba.underlying3
  a3 := Yba.isAgg3
  z3 := Yba.sizeOf3
  v3 := Yba.zeroValue3
  t4 := Yba.underlying4
  a4 := Yba.isAgg4
  z4 := Yba.sizeOf4
  v4 := Yba.zeroValue4
  t22 := Yba.underlying26
  a22 := Yba.isAgg26
  z22 := Yba.sizeOf26
  v22 := Yba.zeroValue26
  i3 := by kernel_rfl }
theorem Yba.slices_Insert_shift (b off n c i vb voff m vc : Nat) (cs vs : List Value) (w : World) (hi : i < n) (hm : 0 < m) (hroom : n + m ≤ c) (hc63 : c ≤ 9223372036854775807) (hvb : vb ≠ b)
    (hcl : cs.length = n) (hvl : vs.length = m)
    (hcs : ∀ j v, cs[j]? = some v → w.cell? ⟨b, off + j, none⟩ = some v) (hsp : ∀ j, j < n + m → (w.cell? ⟨b, off + j, none⟩).isSome = true) (hfz : ∀ j, j < n + m → w.frozen? ⟨b, off + j, none⟩ = false)
    (hvs : ∀ j v, vs[j]? = some v → w.cell? ⟨vb, voff + j, none⟩ = some v) (h1c : ∀ v ∈ cs, v.oneCell' = true) (h1v : ∀ v ∈ vs, v.oneCell' = true)
    (tA tB : TypeId) (kA kB : Nat) (hsa : w.shape? vb = some (tA, kA)) (hsb : w.shape? b = some (tB, kB)) (hkB : kB ≠ 0) (hfa : w.frozen? ⟨vb, voff, none⟩ = false) (hfe : w.frozen? ⟨vb, kA, none⟩ = false) :
    Calls Yba.prog 32 #[.slice (some ⟨b, off, none⟩) n c, .int .i64 i, .slice (some ⟨vb, voff, none⟩) m vc] w fun e w' =>
      e = .returned (.slice (some ⟨b, off, none⟩) (n + m) c) ∧ w' = (w.drew.setCells b (off + (i + m)) (cs.drop i)).setCells b (off + i) vs :=
  Any2.slices_Insert_int_shift Yba.laysIns b off n c i vb voff m vc cs vs w hi hm hroom hc63 hvb hcl hvl hcs hsp hfz hvs h1c h1v tA tB kA kB hsa hsb hkB hfa hfe
theorem Yba.slices_Insert_end (b off n c vb voff m vc : Nat) (vs : List Value) (w : World) (hm : 0 < m) (hroom : n + m ≤ c) (hc63 : c ≤ 9223372036854775807)
    (hvl : vs.length = m) (hsp : ∀ j, j < m → (w.cell? ⟨b, off + n + j, none⟩).isSome = true) (hfz : ∀ j, j < m → w.frozen? ⟨b, off + n + j, none⟩ = false)
    (hvs : ∀ j v, vs[j]? = some v → w.cell? ⟨vb, voff + j, none⟩ = some v) (h1v : ∀ v ∈ vs, v.oneCell' = true) :
    Calls Yba.prog 32 #[.slice (some ⟨b, off, none⟩) n c, .int .i64 n, .slice (some ⟨vb, voff, none⟩) m vc] w fun e w' =>
      e = .returned (.slice (some ⟨b, off, none⟩) (n + m) c) ∧ w' = w.setCells b (off + n) vs :=
  Any2.slices_Insert_int_end_room Yba.laysIns b off n c vb voff m vc vs w hm hroom hc63 hvl hsp hfz hvs h1v
end Go.Proofs
