/-
  THE CONTRACTS OF zzCloneBytes, ZZNewAnswer, zzMake, ZZAnswerBytes.
-/
import Derived.Test.Qxb6619152aBytes
import Derived.Test.Qxb6619152aWireO
import Derived.Test.Qxb6619152aWireS
namespace Go.Proofs.Qxb6619152a
open Go.RowKit

/-- A slice of n bytes that can be read. -/
def Dg (w : World) (a : Option Addr) (n : Nat) (zs : Nat → Int) : Prop :=
  0 < n → ∃ b off, a = some ⟨b, off, none⟩ ∧ ∀ i, i < n → w.cell? ⟨b, off + i, none⟩ = some (.int .u8 (zs i))

theorem Dg.same {w w' : World} {a : Option Addr} {n : Nat} {zs : Nat → Int} (h : Dg w a n zs) (hg : w.grownBy w' none) : Dg w' a n zs := by
  intro h0
  obtain ⟨b, off, rfl, hc⟩ := h h0
  exact ⟨b, off, rfl, fun i hi => hg.cell (hc i hi) (by simp)⟩

theorem info5 : (Try.prog.info? 5).map (fun i => (i.zero, i.size, i.bytes)) = some (some (.int .u8 0), 1, 1) := by kernel_rfl

/-- 'copy' into a whole new row: some world, of which the frame is known. -/
theorem run_copy_new {w w1 : World} {g n c : Nat} {a : Option Addr} {zs : Nat → Int} (hr : Room w1 g 0 n) (hd : Dg w1 a n zs) (hw : w.grownBy w1 none) (hg : w.heap.size ≤ g) (ty : TypeId) :
    ∃ w2, (Builtin.copy_ #[22, 22] ty #[.slice (some ⟨g, 0, none⟩) n n, .slice a n c]).run Try.prog w1 = .ok (goInt n) w2 ∧ w.grownBy w2 none := by
  obtain ⟨i0, hi, _, hz1, _⟩ := info_parts info5
  have hsz : (Try.prog.info? 5).map (·.size) = some 1 := by rw [hi]; simp [hz1]
  by_cases h0 : n = 0
  · subst h0
    exact ⟨w1, run_copy_none w1 22 22 ty 5 _ _ _ _ _ _ Try.underlying22 hsz (by simp), hw⟩
  · obtain ⟨b, off, rfl, hc⟩ := hd (by omega)
    have hl : ((List.range n).map (fun i => Value.int .u8 (zs i))).length = n := by simp
    have hrun := run_copy_cells (P := Try.prog) w1 22 22 ty 5 g 0 n n ⟨b, off, none⟩ n c ((List.range n).map (fun i => Value.int .u8 (zs i))) Try.underlying22 hsz (by rw [hl]; simp)
      (fun j v hv => by
        have hj : j < n := by have := (List.getElem?_eq_some_iff.1 hv).1; simpa using this
        rw [Addr.add_lit, hc j hj]
        simp [hj] at hv
        rw [hv])
      (fun j hj => (hr j (by omega)).1) (fun j hj => (hr j (by omega)).2)
      (fun v hv => by
        obtain ⟨_, _, rfl⟩ := List.mem_map.1 hv
        rfl)
    rw [hl] at hrun
    exact ⟨_, hrun, grown_trans hw (grown_setCells g _ _ _) (fun q hq => .inr (by cases hq; exact hg))⟩

theorem clone30 (a : Option Addr) (n c : Nat) (zs : Nat → Int) (w : World) (h : Dg w a n zs) (hn : n ≤ 1048576) :
    Calls Try.prog 30 #[.slice a n c] w fun e w' => ∃ a' c', e = .returned (.slice a' n c') ∧ w.grownBy w' none := by
  have hq := fun wx => Lib.run_eql_slice_nil (P := Try.prog) wx 22 5 a n c 0 0 Try.underlying22
  obtain ⟨i0, hi, hz0, hz1, hz2⟩ := info_parts info5
  cases a with
  | none =>
    have hn0 : n = 0 := by
      by_cases h0 : 0 < n
      · obtain ⟨_, _, e, _⟩ := h h0; cases e
      · omega
    subst hn0
    go_enter Try.func30, Try.ntmps30
    go_wp2
    go_ret
    exact ⟨none, 0, rfl, World.grownBy.refl _ _⟩
  | some x =>
    go_enter Try.func30, Try.ntmps30
    go_wp2_with (at_make; refine wpList_make_full _ rfl _ _ 22 rfl w.heap.size 5 i0 _ 1 Try.underlying22 hi hz0 hz1 _ _ _ _ n rfl rfl rfl rfl (by rw [hz2]; omega) (by unfold maxLen; omega) (Nat.le_refl _) ?_)
    intro w1 ho1 hg1
    have hr1 : Room w1 w.heap.size 0 n := by have := room_of_own ho1; rwa [Nat.mul_one] at this
    obtain ⟨w2, hcp, gw2⟩ := run_copy_new (c := c) hr1 (h.same hg1) hg1 (Nat.le_refl _) 3
    clear ho1 hi hz0 hz1 hz2 hq h hr1
    go_wp2
    go_ret
    exact ⟨_, _, rfl, gw2⟩

theorem new29 (id : ByteArray) (held : Bool) (cm : ByteArray) (d s o : Value) (da : Option Addr) (dn dc : Nat) (sa : Option Addr) (ns sc : Nat) (oa : Option Addr) (no oc : Nat) (hd : d = .slice da dn dc) (hs : s = .slice sa ns sc) (ho : o = .slice oa no oc) (w : World) :
    Calls Try.prog 29 #[.string id, .bool held, .string cm, d, s, o] w fun e w' => ∃ B, e = .returned (.pointer (some ⟨B, 0, none⟩)) ∧ AnsAt w' B id held cm d s o ∧ w.grownBy w' none := by
  subst hd; subst hs; subst ho
  go_enter Try.func29, Try.ntmps29
  go_wp2
  go_ret
  refine ⟨_, rfl, ⟨?_, ?_, ?_, ?_, ?_, ?_⟩, World.grownBy_alloc w _ none⟩ <;> simp

end Go.Proofs.Qxb6619152a
