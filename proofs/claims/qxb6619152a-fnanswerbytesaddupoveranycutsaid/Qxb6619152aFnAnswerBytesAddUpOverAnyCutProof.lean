/-
  THE PROOF OF 'Rows.FnAnswerBytesAddUpOverAnyCutSaid': the frame after the shells of this guide, the walk out of the contracts.
-/
import Derived.Test.Qxb6619152aRows
import Derived.WalkKit
import Derived.ProofKit
import Derived.OpenShut
import Derived.ShutString
import Derived.ChangeOld
import Derived.Below
import Derived.Test.Qxb6619152aLaw3
import Derived.Test.Qxb6619152aIn3
namespace Go.Proofs.Qxb6619152a.fnAnswerBytesAddUpOverAnyCut
open Go.ChangeShapes Go.WideShapes Go.ChangeAt Go.RowKit
open Go.ChangeMaps (open_string shut_string)
set_option linter.unusedVariables false

theorem own : ownKnob Try.prog.godebug = none := by kernel_rfl
theorem laidOut : laidOutB Try.prog = true := by kernel_rfl

set_option maxRecDepth 100000 in
theorem lifted (os : Os) (started : os.Started) (H : Type) (enc : TypeId × Value → H) :
    ReturnsInHanded {} Try.checked os 3 .any (Rows.fnAnswerBytesAddUpOverAnyCutSpec.pre6 enc Try.prog Try.f3 Rows.fnAnswerBytesAddUpOverAnyCutRow.domain false) (Rows.fnAnswerBytesAddUpOverAnyCutSpec.post enc Try.prog Try.f3 false true false false) := by
  refine returnsInHanded_of_change (C := Try.checked) own started (by kernel_rfl) Try.func3
    (ChangeSpec.witness6 (enc := enc) (C := Try.checked) false ⟨#[], #[.string ByteArray.empty, .bool false, .string ByteArray.empty, .slice none 0 0, .slice none 0 0, .slice none 0 0, .int .i64 0, .int .i64 0], []⟩ 8 (by kernel_rfl) (by kernel_rfl) (by kernel_rfl) (by kernel_rfl)) ?_
  intro W base args ds gs before hval0 hW hcnd _
  have hval : ∀ (j : Nat) t v, Try.f3.params[j]? = some t → args[j]? = some v → Value.okWide Try.prog W .any base t v := hval0
  have hW' := hW
  obtain ⟨p, q, hA0, hV, rfl, hfz, hnd⟩ := hW
  have hA : DataW.TrodAll enc Try.prog W 0 (fun _ => true) true Try.f3.params.toList args.toList ds p := hA0
  rw [Try.params3] at hA hval
  obtain ⟨v0, vs0, d0, ds0, p0, q0, hargs, rfl, rfl, h0, r0⟩ := trodAll_cons hA
  obtain ⟨v1, vs1, d1, ds1, p1, q1, rfl, rfl, rfl, h1, r1⟩ := trodAll_cons r0
  obtain ⟨v2, vs2, d2, ds2, p2, q2, rfl, rfl, rfl, h2, r2⟩ := trodAll_cons r1
  obtain ⟨v3, vs3, d3, ds3, p3, q3, rfl, rfl, rfl, h3, r3⟩ := trodAll_cons r2
  obtain ⟨v4, vs4, d4, ds4, p4, q4, rfl, rfl, rfl, h4, r4⟩ := trodAll_cons r3
  obtain ⟨v5, vs5, d5, ds5, p5, q5, rfl, rfl, rfl, h5, r5⟩ := trodAll_cons r4
  obtain ⟨v6, vs6, d6, ds6, p6, q6, rfl, rfl, rfl, h6, r6⟩ := trodAll_cons r5
  obtain ⟨v7, vs7, d7, ds7, p7, q7, rfl, rfl, rfl, h7, r7⟩ := trodAll_cons r6
  obtain ⟨rfl, rfl, rfl⟩ := trodAll_nil r7
  obtain rfl : args = #[v0, v1, v2, v3, v4, v5, v6, v7] := by cases args; simp_all
  obtain ⟨rfl, rfl⟩ := trodVars_none hV
  obtain ⟨id, rfl, rfl, rfl, s0⟩ := open_string Try.underlying9 (hval 0 9 v0 rfl rfl) h0
  obtain ⟨hb, rfl, rfl, rfl⟩ := open_bool Try.underlying4 (hval 1 4 v1 rfl rfl) h1
  obtain ⟨cm, rfl, rfl, rfl, s2⟩ := open_string Try.underlying9 (hval 2 9 v2 rfl rfl) h2
  obtain ⟨a3, len3, cap3, rfl⟩ := okWide_slice Try.underlying22 (hval 3 22 v3 rfl rfl)
  have k3 := h3
  have lt3 : ∀ x ∈ p3, x.block < W.heap.size := by obtain ⟨m, hm⟩ := k3; exact DataW.trod_lt m _ _ _ hm
  obtain ⟨zs, o3, l3⟩ : ∃ zs : Nat → Int, Dg W a3 len3 zs ∧ len3 ≤ 9223372036854775807 := by
    obtain ⟨fuel, hf⟩ := h3
    rcases open_ints Try.underlying22 Try.underlying5 (by kernel_rfl) hf with ⟨hcs, _⟩ | ⟨x, l, c, zs, hcs, _, hl, hm, hz, _, hcell, hwz⟩
    · simp [Value.cells] at hcs
      obtain ⟨rfl, rfl, rfl⟩ := hcs
      exact ⟨fun _ => 0, fun h => absurd h (Nat.lt_irrefl 0), by omega⟩
    · simp [Value.cells] at hcs
      obtain ⟨rfl, rfl, rfl⟩ := hcs
      unfold maxLen at hm
      have hz' : zs.length = cap3 := by simpa using hz
      refine ⟨fun i => zs.getD i 0, fun hpos => ?_, by omega⟩
      obtain ⟨b, o, spot⟩ := x
      have hspot : spot = none := by simpa [Addr.add] using World.cell?_spot (hcell 0 (by omega))
      subst hspot
      refine ⟨b, o, rfl, fun i hi => ?_⟩
      have := hcell i (by omega)
      rwa [Addr.add_lit] at this
  obtain ⟨a4, len4, cap4, rfl⟩ := okWide_slice Try.underlying23 (hval 4 23 v4 rfl rfl)
  have k4 := h4
  have lt4 : ∀ x ∈ p4, x.block < W.heap.size := by obtain ⟨m, hm⟩ := k4; exact DataW.trod_lt m _ _ _ hm
  obtain ⟨ss, vs, fs, o4, e4, x4, z4, l4, c4⟩ : ∃ (ss : Nat → St) (vs : Nat → Option ByteArray) (fs : Nat → Option Fl), Sts W a4 len4 ss ∧ (∀ j, j < len4 → ValAt W (ss j).vla (vs j)) ∧ (∀ j, j < len4 → ExtAt W (ss j).ext (fs j)) ∧ ShortS len4 ss vs ∧ len4 ≤ 9223372036854775807 ∧ len4 ≤ cap4 := by
    obtain ⟨fuel, hf⟩ := h4
    exact open_sts (by simpa [Value.cells] using hf)
  obtain ⟨a5, len5, cap5, rfl⟩ := okWide_slice Try.underlying24 (hval 5 24 v5 rfl rfl)
  have k5 := h5
  have lt5 : ∀ x ∈ p5, x.block < W.heap.size := by obtain ⟨m, hm⟩ := k5; exact DataW.trod_lt m _ _ _ hm
  have c5 : len5 ≤ cap5 := by
    obtain ⟨fuel, hf⟩ := k5
    exact len_le_cap Try.underlying24 (by simpa [Value.cells] using hf)
  obtain ⟨ws, ys, o5, e5, z5, l5⟩ : ∃ (ws : Nat → Ov) (ys : Nat → Option Fl), Ovs W a5 len5 ws ∧ (∀ j, j < len5 → ExtAt W (ws j).ext (ys j)) ∧ Short len5 ws ∧ len5 ≤ 9223372036854775807 := by
    obtain ⟨fuel, hf⟩ := h5
    exact open_ovs (by simpa [Value.cells] using hf)
  obtain ⟨a6, rfl, rfl, rfl, w6⟩ := open_int Try.underlying3 (hval 6 3 v6 rfl rfl) h6
  obtain ⟨a7, rfl, rfl, rfl, w7⟩ := open_int Try.underlying3 (hval 7 3 v7 rfl rfl) h7
  clear hA0 hval0
  have t0 : id.size ≤ 9223372036854775807 := by have := s0; unfold maxLen at this; omega
  have t2 : cm.size ≤ 9223372036854775807 := by have := s2; unfold maxLen at this; omega
  refine (law3 id hb cm cap3 cap4 cap5 a6 a7 W ⟨o3, o4, e4, x4, o5, e5⟩ z4 z5 t0 t2 l3 l4 l5 c4 c5 (bounds_i64 w6) (bounds_i64 w7)).mono fun e W' ⟨he, bel⟩ => ?_
  subst he
  exact ⟨_, rfl, _, _, _, [], _, [], hW', trodAll_mk1 (shut_bool Try.underlying4 _), (trodAll_cons_mk (shut_string Try.underlying9 s0) (trodAll_cons_mk (shut_bool Try.underlying4 hb) (trodAll_cons_mk (shut_string Try.underlying9 s2) (trodAll_cons_mk (Below.trod laidOut (by kernel_rfl) (of_decide_eq_true (by kernel_rfl)) k3 bel lt3) (trodAll_cons_mk (Below.trod laidOut (by kernel_rfl) (of_decide_eq_true (by kernel_rfl)) k4 bel lt4) (trodAll_cons_mk (Below.trod laidOut (by kernel_rfl) (of_decide_eq_true (by kernel_rfl)) k5 bel lt5) (trodAll_cons_mk (shut_int Try.underlying3 w6) (trodAll_cons_mk (shut_int Try.underlying3 w7) trodAll_mk0)))))))), rfl, bel.frame _, fun h => by cases h⟩

theorem over : Rows.fnAnswerBytesAddUpOverAnyCutRow.holds Try.pinned (OpenSpec.ofChange Rows.fnAnswerBytesAddUpOverAnyCutSpec) :=
  OpenClaim.holds_of_wide 3 Try.f3 rfl rfl rfl rfl rfl rfl rfl ⟨rfl, rfl, rfl, rfl, rfl⟩ rfl rfl rfl rfl rfl (by kernel_rfl) Try.func3 (by kernel_rfl)
    (of_decide_eq_true (by kernel_rfl)) (by unfold Func.isWrapper; first | (rw [if_pos (by decide +kernel)]; kernel_rfl) | (rw [if_neg (by decide +kernel)]; exact ⟨rfl, rfl⟩))
    (fun os started H enc _ => lifted os started H enc)

/-- THE STATEMENT -/
theorem proved : Rows.FnAnswerBytesAddUpOverAnyCutSaid := over
#print axioms proved
end Go.Proofs.Qxb6619152a.fnAnswerBytesAddUpOverAnyCut
