/-
  FROM WHAT A ROW's STEP TELLS OF A SLICE OF OVERLAPS THAT CAME IN TO 'Ovs', 'ExtAt', 'Short'.
-/
import Derived.Test.Qxb6619152aLeft
import Derived.Deep.Slices
import Derived.OpenShut
namespace Go.Proofs.Qxb6619152a
open Go.RowKit

theorem Try.cells45 : Try.prog.cellsOf 45 = 6 := by kernel_rfl
theorem Try.cells9 : Try.prog.cellsOf 9 = 1 := by kernel_rfl
theorem Try.cells37 : Try.prog.cellsOf 37 = 1 := by kernel_rfl
theorem Try.cells43 : Try.prog.cellsOf 43 = 1 := by kernel_rfl
theorem Try.cells4 : Try.prog.cellsOf 4 = 1 := by kernel_rfl
theorem Try.cells3 : Try.prog.cellsOf 3 = 1 := by kernel_rfl
theorem Try.cells93 : Try.prog.cellsOf 93 = 4 := by kernel_rfl
theorem Try.cells91 : Try.prog.cellsOf 91 = 1 := by kernel_rfl

section
variable {H : Type} {enc : TypeId × Value → H} {W : World} {base : Nat} {spare : Nat → Bool} {held : Bool} {fuel : Nat}

theorem trod_float {P : Program} {t : TypeId} {k : FloatKind} {cs : List Value} {x : DataW H × List MemPlace} (ht : P.underlying t = some (.float k)) (h : DataW.trod enc P W base spare held fuel t cs = some x) : ∃ b, cs = [.float k b] := by
  cases fuel with
  | zero => simp [DataW.trod] at h
  | succ n =>
    unfold DataW.trod at h
    rw [ht] at h
    split at h <;> simp_all

/-- An extent behind a pointer. -/
theorem open_ext {v : Value} {x : DataW H × List MemPlace} (h : DataW.trod enc Try.prog W base spare held fuel 43 [v] = some x) : ∃ (a : Option Addr) (f : Option Fl), v = .pointer a ∧ ExtAt W a f := by
  rcases DataW.trod_pointer Try.underlying43 h with ⟨h1, _⟩ | ⟨a, cs', y, n, _, h1, _, h2, h3⟩
  · cases h1
    exact ⟨none, none, rfl, .inl ⟨rfl, rfl⟩⟩
  · cases h1
    rw [Try.cells93] at h2
    obtain ⟨_, hl, hc⟩ := World.cells?_some h2
    obtain ⟨xs, m, _, _, _, hxl, hf⟩ := DataW.trod_struct Try.underlying93 h3
    match cs', hl, xs, hxl with
    | [c0, c1, c2, c3], _, [y0, y1, y2, y3], _ =>
      have f0 := hf 0 _ rfl
      have f1 := hf 1 _ rfl
      have f2 := hf 2 _ rfl
      have f3 := hf 3 _ rfl
      simp [Try.cells91] at f0 f1 f2 f3
      obtain ⟨p, hp⟩ := trod_float Try.underlying91 f0
      obtain ⟨q, hq⟩ := trod_float Try.underlying91 f1
      obtain ⟨r, hr⟩ := trod_float Try.underlying91 f2
      obtain ⟨s, hs⟩ := trod_float Try.underlying91 f3
      cases hp; cases hq; cases hr; cases hs
      have k0 := hc 0 (by omega)
      have k1 := hc 1 (by omega)
      have k2 := hc 2 (by omega)
      have k3 := hc 3 (by omega)
      simp at k0 k1 k2 k3
      obtain ⟨b, o, spot⟩ := a
      have hspot : spot = none := by simpa [Addr.add] using World.cell?_spot k0
      subst hspot
      rw [Addr.add_lit] at k0 k1 k2 k3
      exact ⟨_, some ⟨p, q, r, s⟩, rfl, .inr ⟨b, o, _, rfl, rfl, by simpa using k0, k1, k2, k3⟩⟩

/-- One overlap's six cells. -/
theorem open_ov {cs : List Value} {x : DataW H × List MemPlace} (h : DataW.trod enc Try.prog W base spare held fuel 45 cs = some x) :
    ∃ (o : Ov) (f : Option Fl), cs = o.cs ∧ ExtAt W o.ext f ∧ o.key.size ≤ 9223372036854775807 ∧ o.wth.size ≤ 9223372036854775807 := by
  obtain ⟨xs, m, _, _, hl, hxl, hf⟩ := DataW.trod_struct Try.underlying45 h
  rw [Try.cells45] at hl
  match cs, hl, xs, hxl with
  | [c0, c1, c2, c3, c4, c5], _, [y0, y1, y2, y3, y4, y5], _ =>
    have f0 := hf 0 _ rfl
    have f1 := hf 1 _ rfl
    have f2 := hf 2 _ rfl
    have f3 := hf 3 _ rfl
    have f4 := hf 4 _ rfl
    have f5 := hf 5 _ rfl
    simp [Try.cells9, Try.cells37, Try.cells43, Try.cells4, Try.cells3] at f0 f1 f2 f3 f4 f5
    obtain ⟨k, hk, _, sk⟩ := DataW.trod_string Try.underlying9 f0
    obtain ⟨v, hv, _, sv⟩ := DataW.trod_string Try.underlying9 f1
    obtain ⟨n, hn, _, _⟩ := DataW.trod_int Try.underlying37 f2
    obtain ⟨a, f, he, hE⟩ := open_ext f3
    obtain ⟨b, hb, _⟩ := DataW.trod_bool Try.underlying4 f4
    obtain ⟨m', hm, _, _⟩ := DataW.trod_int Try.underlying3 f5
    cases hk; cases hv; cases hn; cases he; cases hb; cases hm
    unfold maxLen at sk sv
    exact ⟨⟨k, v, n, a, b, m'⟩, f, rfl, hE, by omega, by omega⟩

/-- A slice of overlaps. -/
theorem open_ovs {a : Option Addr} {len cap : Nat} {x : DataW H × List MemPlace} (h : DataW.trod enc Try.prog W base spare held fuel 24 [.slice a len cap] = some x) :
    ∃ (os : Nat → Ov) (fs : Nat → Option Fl), Ovs W a len os ∧ (∀ j, j < len → ExtAt W (os j).ext (fs j)) ∧ Short len os ∧ len ≤ 9223372036854775807 := by
  rcases Go.Deep.open_slice Try.underlying24 h with ⟨h1, _⟩ | ⟨ad, len', cap', m, n, D, Pl, h1, _, hl, hm, hmm, _, hx⟩
  · cases h1
    exact ⟨fun _ => ⟨ByteArray.empty, ByteArray.empty, 0, none, false, 0⟩, fun _ => none, ⟨fun h => absurd h (Nat.lt_irrefl 0)⟩, fun j hj => (by omega), fun j hj => (by omega), by omega⟩
  · cases h1
    have hlm : len ≤ m := by rw [hmm]; split <;> omega
    rw [Try.cells45] at hx
    have hex : ∀ i, i < len → ∃ p : Ov × Option Fl, W.cells? base (ad.add (i * 6)) 6 = some p.1.cs ∧ ExtAt W p.1.ext p.2 ∧ p.1.key.size ≤ 9223372036854775807 ∧ p.1.wth.size ≤ 9223372036854775807 := fun i hi => by
      obtain ⟨cs', c1, c2⟩ := hx i (by omega)
      obtain ⟨o, f, rfl, r⟩ := open_ov c2
      exact ⟨(o, f), c1, r⟩
    obtain ⟨F, hF⟩ := @Go.Deep.choose_lt (Ov × Option Fl) ⟨(⟨ByteArray.empty, ByteArray.empty, 0, none, false, 0⟩, none)⟩ len _ hex
    refine ⟨fun i => (F i).1, fun i => (F i).2, ⟨fun h0 => ?_⟩, fun j hj => (hF j hj).2.1, fun j hj => (hF j hj).2.2, by unfold maxLen at hm; omega⟩
    obtain ⟨b, o, spot⟩ := ad
    have hc0 := (World.cells?_some (hF 0 h0).1).2.2 0 (by omega)
    have hspot : spot = none := by
      have : W.cell? ((⟨b, o, spot⟩ : Addr).add (0 * 6) |>.add 0) = some (.string (F 0).1.key) := hc0
      simpa [Addr.add] using World.cell?_spot this
    subst hspot
    refine ⟨b, o, rfl, fun i hi => ?_⟩
    have hc := (World.cells?_some (hF i hi).1).2.2
    have at_ : ∀ j, j < 6 → W.cell? ⟨b, o + i * 6 + j, none⟩ = (F i).1.cs[j]? := fun j hj => by
      have := hc j hj
      rwa [Addr.add_lit, Addr.add_lit] at this
    exact ⟨at_ 0 (by omega), at_ 1 (by omega), at_ 2 (by omega), at_ 3 (by omega), at_ 4 (by omega), at_ 5 (by omega)⟩

end
end Go.Proofs.Qxb6619152a
