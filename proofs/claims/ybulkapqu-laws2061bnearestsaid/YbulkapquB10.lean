import Derived.Test.YbulkapquB8
namespace Go.Proofs.Ybulkapqu

theorem rank_le (k a b x : Nat) (hk : k < M) (ha : a < M) (hb : b < M) (hx : x < M)
    (h1 : k ≤ x → k ≤ a ∧ a ≤ x) (h2 : x < k → (k ≤ a ∨ a ≤ x)) (h3 : x < k → x ≤ b ∧ b < k) (h4 : k ≤ x → (b < k ∨ x ≤ b)) : min (rank k a) (rank k b) ≤ rank k x := by
  unfold rank
  rw [up_val k a hk ha, up_val k b hk hb, up_val k x hk hx, dn_val k a hk ha, dn_val k b hk hb, dn_val k x hk hx]
  generalize M = m at *
  by_cases c : k ≤ x
  · have := h1 c
    have := h4 c
    repeat' split
    all_goals omega
  · have := h2 (by omega)
    have := h3 (by omega)
    repeat' split
    all_goals omega

/-- Of the two next to the key one is nearest of all. -/
theorem root_rank (f : Nat → Nat) (xs : List Nat) (k p : Nat) (hk : k < M) (hf : ∀ x ∈ xs, f x < M) (hp : p ≤ xs.length) (hm : 0 < xs.length) (hs : xs.Pairwise (fun a b => f a ≤ f b))
    (hc : ∀ (j x : Nat), xs[j]? = some x → (j < p ↔ f x < k)) (a b : Nat) (ha : xs[p % xs.length]? = some a) (hb : xs[(p + xs.length - 1) % xs.length]? = some b) (x : Nat) (hx : x ∈ xs) :
    min (rank k (f a)) (rank k (f b)) ≤ rank k (f x) := by
  obtain ⟨j, hj⟩ := List.mem_iff_getElem?.1 hx
  have hjl : j < xs.length := (List.getElem?_eq_some_iff.1 hj).1
  have mono : ∀ i i' y y' : Nat, xs[i]? = some y → xs[i']? = some y' → i ≤ i' → f y ≤ f y' := fun i i' y y' h1 h2 h => by
    obtain ⟨l1, e1⟩ := List.getElem?_eq_some_iff.1 h1
    obtain ⟨l2, e2⟩ := List.getElem?_eq_some_iff.1 h2
    by_cases e : i = i'
    · subst e; rw [← e1, ← e2]; exact Nat.le_refl _
    · rw [← e1, ← e2]; exact (List.pairwise_iff_getElem.1 hs) i i' l1 l2 (by omega)
  have cj := hc j x hj
  have ca := hc _ a ha
  have cb := hc _ b hb
  by_cases hpm : p = xs.length
  · have e1 : p % xs.length = 0 := by rw [hpm, Nat.mod_self]
    have e2 : (p + xs.length - 1) % xs.length = xs.length - 1 := by
      rw [show p + xs.length - 1 = (xs.length - 1) + xs.length by omega, Nat.add_mod_right, Nat.mod_eq_of_lt (by omega)]
    rw [e1] at ha ca
    rw [e2] at hb cb
    refine rank_le k (f a) (f b) (f x) hk (hf a (List.mem_of_getElem? ha)) (hf b (List.mem_of_getElem? hb)) (hf x hx) (fun h => by omega) (fun _ => .inr (mono 0 j a x ha hj (Nat.zero_le _))) (fun _ => ⟨mono j _ x b hj hb (by omega), by omega⟩) (fun h => by omega)
  · have e1 : p % xs.length = p := Nat.mod_eq_of_lt (by omega)
    rw [e1] at ha ca
    by_cases hp0 : p = 0
    · subst hp0
      have e2 : (0 + xs.length - 1) % xs.length = xs.length - 1 := by rw [Nat.zero_add, Nat.mod_eq_of_lt (by omega)]
      rw [e2] at hb cb
      refine rank_le k (f a) (f b) (f x) hk (hf a (List.mem_of_getElem? ha)) (hf b (List.mem_of_getElem? hb)) (hf x hx) (fun h => ⟨by omega, mono 0 j a x ha hj (Nat.zero_le _)⟩) (fun h => by omega) (fun h => by omega) (fun h => .inr (mono j _ x b hj hb (by omega)))
    · have e2 : (p + xs.length - 1) % xs.length = p - 1 := by
        rw [show p + xs.length - 1 = (p - 1) + xs.length by omega, Nat.add_mod_right, Nat.mod_eq_of_lt (by omega)]
      rw [e2] at hb cb
      refine rank_le k (f a) (f b) (f x) hk (hf a (List.mem_of_getElem? ha)) (hf b (List.mem_of_getElem? hb)) (hf x hx) (fun h => ⟨by omega, mono p j a x ha hj (by omega)⟩) (fun h => .inl (by omega)) (fun h => ⟨mono j _ x b hj hb (by omega), by omega⟩) (fun h => .inl (by omega))
end Go.Proofs.Ybulkapqu
