/-
  THE PLAIN LAWS ON THE TAIL OF A PATH: no Go in sight.
-/
import Derived.KernelRfl
namespace Go.Proofs.Qxb6618065a

/-- d is the place of the last c in zs, or -1. -/
def LI (zs : List Int) (c d : Int) : Prop :=
  (d = -1 ∧ zs.count c = 0) ∨ ∃ k : Nat, d = (k : Int) ∧ k < zs.length ∧ zs.getD k 0 = c ∧ (zs.drop (k + 1)).count c = 0

/-- t is the longest end of zs that holds at most one slash. -/
def IsTail (zs t : List Int) : Prop :=
  (t = zs ∧ zs.count 47 ≤ 1) ∨ ∃ k : Nat, k < zs.length ∧ zs.getD k 0 = 47 ∧ t = zs.drop (k + 1) ∧ t.count 47 = 1

theorem count_parts (zs : List Int) (k : Nat) (hk : k < zs.length) (c : Int) : zs.count c = (zs.take k).count c + ((if zs.getD k 0 = c then 1 else 0) + (zs.drop (k + 1)).count c) := by
  conv => lhs; rw [← List.take_append_drop k zs, List.count_append, List.drop_eq_getElem_cons hk, List.count_cons]
  have e : zs.getD k 0 = zs[k] := by simp [List.getD, hk]
  rw [e]
  by_cases h : zs[k] = c
  · simp [h]; omega
  · simp [h]

theorem tail_whole {zs : List Int} (h : LI zs 47 (-1)) : IsTail zs zs := by
  rcases h with ⟨_, h⟩ | ⟨k, h, _⟩
  · exact .inl ⟨rfl, by omega⟩
  · omega

theorem tail_cut {zs : List Int} {k : Nat} {d : Int} (h1 : LI zs 47 (k : Int)) (h2 : LI (zs.take k) 47 d) : 0 ≤ d + 1 ∧ (d + 1).toNat ≤ k ∧ IsTail zs (zs.drop (d + 1).toNat) := by
  rcases h1 with ⟨h, _⟩ | ⟨k', hk', hkl, hz, hc⟩
  · omega
  · obtain rfl : k = k' := by omega
    have hcp := count_parts zs k hkl 47
    rw [if_pos hz] at hcp
    rcases h2 with ⟨rfl, h2⟩ | ⟨j, rfl, hj, hjz, hjc⟩
    · exact ⟨by omega, by simp, .inl ⟨by simp, by omega⟩⟩
    · have hjk : j < k := by rw [List.length_take] at hj; omega
      have hjz' : zs.getD j 0 = 47 := by
        rw [← hjz]
        simp [List.getD, hjk]
      have e : ((j : Int) + 1).toNat = j + 1 := by omega
      rw [e]
      refine ⟨by omega, by omega, .inr ⟨j, by omega, hjz', rfl, ?_⟩⟩
      have h3 := count_parts (zs.drop (j + 1)) (k - (j + 1)) (by rw [List.length_drop]; omega) 47
      have e1 : (zs.drop (j + 1)).getD (k - (j + 1)) 0 = zs.getD k 0 := by
        simp only [List.getD, List.getElem?_drop]
        rw [show j + 1 + (k - (j + 1)) = k by omega]
      have e2 : (zs.drop (j + 1)).drop (k - (j + 1) + 1) = zs.drop (k + 1) := by
        rw [List.drop_drop]; congr 1; omega
      have e3 : (zs.drop (j + 1)).take (k - (j + 1)) = (zs.take k).drop (j + 1) := by
        rw [List.drop_take]
      rw [e1, e2, e3, if_pos hz, hjc, hc] at h3
      exact h3

theorem tail_again {zs t : List Int} (h : IsTail zs t) (hc : zs.count 47 ≤ 1) : t = zs := by
  rcases h with ⟨h, _⟩ | ⟨k, hk, hz, rfl, h1⟩
  · exact h
  · have := count_parts zs k hk 47
    rw [if_pos hz] at this
    omega

theorem tail_count {zs t : List Int} (h : IsTail zs t) : t.count 47 ≤ 1 := by
  rcases h with ⟨rfl, h⟩ | ⟨k, hk, hz, rfl, h1⟩
  · exact h
  · omega

theorem tail_length {zs t : List Int} (h : IsTail zs t) : t.length ≤ zs.length := by
  rcases h with ⟨rfl, h⟩ | ⟨k, hk, hz, rfl, h1⟩
  · omega
  · rw [List.length_drop]; omega

theorem tail_end {zs t : List Int} (h : IsTail zs t) : zs.drop (zs.length - t.length) = t := by
  rcases h with ⟨rfl, h⟩ | ⟨k, hk, hz, rfl, h1⟩
  · simp
  · rw [List.length_drop, show zs.length - (zs.length - (k + 1)) = k + 1 by omega]

/-- Where the tail is not all: it holds one slash, and one stands just before it. -/
theorem tail_less {zs t : List Int} (h : IsTail zs t) (hl : t.length ≠ zs.length) : t.count 47 = 1 ∧ ∃ k : Nat, k + 1 + t.length = zs.length ∧ zs.getD k 0 = 47 := by
  rcases h with ⟨rfl, h⟩ | ⟨k, hk, hz, rfl, h1⟩
  · exact absurd rfl hl
  · exact ⟨h1, k, by rw [List.length_drop]; omega, hz⟩

end Go.Proofs.Qxb6618065a
