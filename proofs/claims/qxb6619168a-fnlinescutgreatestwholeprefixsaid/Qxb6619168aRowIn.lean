/-
  FROM WHAT A ROW's STEP TELLS OF A SLICE OF BYTES THAT CAME IN TO 'Rd'.
-/
import Derived.Test.Qxb6619168aBuf
import Derived.OpenShut
namespace Go.Proofs.Qxb6619168a
open Go.RowKit

theorem rd_of_row {w : World} {a : Option Addr} {len cap : Nat} {zs : List Int}
    (h : (a = none ∧ len = 0 ∧ cap = 0 ∧ zs = []) ∨
      ∃ x, a = some x ∧ len ≤ cap ∧ cap ≤ maxLen ∧ zs.length = cap ∧ (∀ i, i < zs.length → w.cell? (x.add i) = some (.int .u8 (zs.getD i 0))) ∧ ∀ n ∈ zs, (Lit.int .u8 n).wf = true) :
    Rd w a len (zs.take len) ∧ len ≤ 9223372036854775807 := by
  rcases h with ⟨rfl, rfl, rfl, rfl⟩ | ⟨x, rfl, hl, hm, hz, hc, hw⟩
  · exact ⟨⟨rfl, by simp, fun h => by omega⟩, by omega⟩
  · unfold maxLen at hm
    refine ⟨⟨by rw [List.length_take]; omega, fun z hz => ?_, fun h0 => ?_⟩, by omega⟩
    · have := hw z (List.mem_of_mem_take hz)
      have := bounds_u8 this
      omega
    · obtain ⟨b, off, spot⟩ := x
      have hs : spot = none := by simpa [Addr.add] using World.cell?_spot (hc 0 (by omega))
      subst hs
      refine ⟨b, off, rfl, fun i hi => ?_⟩
      have := hc i (by omega)
      rw [Addr.add_lit] at this
      rw [this]
      simp [List.getD, hi]

end Go.Proofs.Qxb6619168a
