/-
  FROM WHAT A ROW's STEP TELLS OF THE SLICES THAT CAME IN TO 'Inp'.
-/
import Derived.Test.Qxb6619152aIn
import Derived.Test.Qxb6619152aParts
namespace Go.Proofs.Qxb6619152a
open Go.RowKit

theorem Try.cells70 : Try.prog.cellsOf 70 = 5 := by kernel_rfl
theorem Try.cells68 : Try.prog.cellsOf 68 = 1 := by kernel_rfl

section
variable {H : Type} {enc : TypeId × Value → H} {W : World} {base : Nat} {spare : Nat → Bool} {held : Bool} {fuel : Nat}

/-- A text behind a pointer. -/
theorem open_val {v : Value} {x : DataW H × List MemPlace} (h : DataW.trod enc Try.prog W base spare held fuel 68 [v] = some x) : ∃ (a : Option Addr) (s : Option ByteArray), v = .pointer a ∧ ValAt W a s ∧ osz s ≤ 9223372036854775807 := by
  rcases DataW.trod_pointer Try.underlying68 h with ⟨h1, _⟩ | ⟨a, cs', y, n, _, h1, _, h2, h3⟩
  · cases h1
    exact ⟨none, none, rfl, .inl ⟨rfl, rfl⟩, by simp only [osz]; omega⟩
  · cases h1
    rw [Try.cells9] at h2
    obtain ⟨_, hl, hc⟩ := World.cells?_some h2
    obtain ⟨s, rfl, _, hs⟩ := DataW.trod_string Try.underlying9 h3
    have k0 := hc 0 (by omega)
    simp at k0
    obtain ⟨b, o, spot⟩ := a
    have hspot : spot = none := by simpa [Addr.add] using World.cell?_spot k0
    subst hspot
    rw [Addr.add_lit] at k0
    unfold maxLen at hs
    exact ⟨_, some s, rfl, .inr ⟨b, o, s, rfl, rfl, by simpa using k0⟩, by simp only [osz]; omega⟩

/-- One stale key's five cells. -/
theorem open_st {cs : List Value} {x : DataW H × List MemPlace} (h : DataW.trod enc Try.prog W base spare held fuel 70 cs = some x) :
    ∃ (t : St) (s : Option ByteArray) (f : Option Fl), cs = t.cs ∧ ValAt W t.vla s ∧ ExtAt W t.ext f ∧ t.key.size ≤ 9223372036854775807 ∧ osz s ≤ 9223372036854775807 := by
  obtain ⟨xs, m, _, _, hl, hxl, hf⟩ := DataW.trod_struct Try.underlying70 h
  rw [Try.cells70] at hl
  match cs, hl, xs, hxl with
  | [c0, c1, c2, c3, c4], _, [y0, y1, y2, y3, y4], _ =>
    have f0 := hf 0 _ rfl
    have f1 := hf 1 _ rfl
    have f2 := hf 2 _ rfl
    have f3 := hf 3 _ rfl
    have f4 := hf 4 _ rfl
    simp [Try.cells9, Try.cells37, Try.cells43, Try.cells4, Try.cells68] at f0 f1 f2 f3 f4
    obtain ⟨k, hk, _, sk⟩ := DataW.trod_string Try.underlying9 f0
    obtain ⟨n, hn, _, _⟩ := DataW.trod_int Try.underlying37 f1
    obtain ⟨p, s, hp, hV, so⟩ := open_val f2
    obtain ⟨a, f, he, hE⟩ := open_ext f3
    obtain ⟨b, hb, _⟩ := DataW.trod_bool Try.underlying4 f4
    cases hk; cases hn; cases hp; cases he; cases hb
    unfold maxLen at sk
    exact ⟨⟨k, n, p, a, b⟩, s, f, rfl, hV, hE, by omega, so⟩

/-- A slice of stale keys. -/
theorem open_sts {a : Option Addr} {len cap : Nat} {x : DataW H × List MemPlace} (h : DataW.trod enc Try.prog W base spare held fuel 23 [.slice a len cap] = some x) :
    ∃ (ss : Nat → St) (vs : Nat → Option ByteArray) (fs : Nat → Option Fl), Sts W a len ss ∧ (∀ j, j < len → ValAt W (ss j).vla (vs j)) ∧ (∀ j, j < len → ExtAt W (ss j).ext (fs j)) ∧ ShortS len ss vs ∧ len ≤ 9223372036854775807 ∧ len ≤ cap := by
  rcases Go.Deep.open_slice Try.underlying23 h with ⟨h1, _⟩ | ⟨ad, len', cap', m, n, D, Pl, h1, _, hl, hm, hmm, _, hx⟩
  · cases h1
    exact ⟨fun _ => ⟨ByteArray.empty, 0, none, none, false⟩, fun _ => none, fun _ => none, ⟨fun h => absurd h (Nat.lt_irrefl 0)⟩, fun j hj => (by omega), fun j hj => (by omega), fun j hj => (by omega), by omega, Nat.le_refl _⟩
  · cases h1
    have hlm : len ≤ m := by rw [hmm]; split <;> omega
    rw [Try.cells70] at hx
    have hex : ∀ i, i < len → ∃ p : St × Option ByteArray × Option Fl, W.cells? base (ad.add (i * 5)) 5 = some p.1.cs ∧ ValAt W p.1.vla p.2.1 ∧ ExtAt W p.1.ext p.2.2 ∧ p.1.key.size ≤ 9223372036854775807 ∧ osz p.2.1 ≤ 9223372036854775807 := fun i hi => by
      obtain ⟨cs', c1, c2⟩ := hx i (by omega)
      obtain ⟨o, s, f, rfl, r⟩ := open_st c2
      exact ⟨(o, s, f), c1, r⟩
    obtain ⟨F, hF⟩ := @Go.Deep.choose_lt (St × Option ByteArray × Option Fl) ⟨(⟨ByteArray.empty, 0, none, none, false⟩, none, none)⟩ len _ hex
    refine ⟨fun i => (F i).1, fun i => (F i).2.1, fun i => (F i).2.2, ⟨fun h0 => ?_⟩, fun j hj => (hF j hj).2.1, fun j hj => (hF j hj).2.2.1, fun j hj => (hF j hj).2.2.2, by unfold maxLen at hm; omega, hl⟩
    obtain ⟨b, o, spot⟩ := ad
    have hc0 := (World.cells?_some (hF 0 h0).1).2.2 0 (by omega)
    have hspot : spot = none := by
      have : W.cell? ((⟨b, o, spot⟩ : Addr).add (0 * 5) |>.add 0) = some (.string (F 0).1.key) := hc0
      simpa [Addr.add] using World.cell?_spot this
    subst hspot
    refine ⟨b, o, rfl, fun i hi => ?_⟩
    have hc := (World.cells?_some (hF i hi).1).2.2
    have at_ : ∀ j, j < 5 → W.cell? ⟨b, o + i * 5 + j, none⟩ = (F i).1.cs[j]? := fun j hj => by
      have := hc j hj
      rwa [Addr.add_lit, Addr.add_lit] at this
    exact ⟨at_ 0 (by omega), at_ 1 (by omega), at_ 2 (by omega), at_ 3 (by omega), at_ 4 (by omega)⟩

/-- A slice's length is within its capacity. -/
theorem len_le_cap {P : Program} {t e : TypeId} (ht : P.underlying t = some (.slice e)) {a : Option Addr} {len cap : Nat} {x : DataW H × List MemPlace} (h : DataW.trod enc P W base spare held fuel t [.slice a len cap] = some x) : len ≤ cap := by
  rcases Go.Deep.open_slice ht h with ⟨h1, _⟩ | ⟨ad, len', cap', m, n, D, Pl, h1, _, hl, _⟩
  · cases h1; exact Nat.le_refl _
  · cases h1; exact hl

end
end Go.Proofs.Qxb6619152a
