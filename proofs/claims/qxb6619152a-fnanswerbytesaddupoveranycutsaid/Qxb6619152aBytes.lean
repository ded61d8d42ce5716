/-
  THE CONTRACT OF (*answer).bytes.
-/
import Derived.Test.Qxb6619152aLeft
import Derived.Test.Qxb6619152aStMem
namespace Go.Proofs.Qxb6619152a
open Go.RowKit

/-- A slice of n stale keys as an answer holds them. -/
def StRow (w : World) (a : Option Addr) (n : Nat) (ks : Nat → ByteArray) (vs : Nat → Option ByteArray) : Prop :=
  0 < n → ∃ g off, a = some ⟨g, off, none⟩ ∧ ∀ j, j < n → StLike w g (off + j * 5) (ks j) (vs j)

theorem StRow.same {w w' : World} {a : Option Addr} {n : Nat} {ks : Nat → ByteArray} {vs : Nat → Option ByteArray} (h : StRow w a n ks vs) (hg : w.grownBy w' none) : StRow w' a n ks vs := by
  intro h0
  obtain ⟨g, off, rfl, hc⟩ := h h0
  exact ⟨g, off, rfl, fun j hj => (hc j hj).same hg⟩

/-- An answer's six cells at block B. -/
structure AnsAt (w : World) (B : Nat) (id : ByteArray) (held : Bool) (cm : ByteArray) (dg st ov : Value) : Prop where
  c0 : w.cell? ⟨B, 0, none⟩ = some (.string id)
  c1 : w.cell? ⟨B, 1, none⟩ = some (.bool held)
  c2 : w.cell? ⟨B, 2, none⟩ = some (.string cm)
  c3 : w.cell? ⟨B, 3, none⟩ = some dg
  c4 : w.cell? ⟨B, 4, none⟩ = some st
  c5 : w.cell? ⟨B, 5, none⟩ = some ov

/-- What the two lists count. -/
def fS (ks : Nat → ByteArray) (vs : Nat → Option ByteArray) (j : Nat) : Nat := (ks j).size + osz (vs j)
def fO (os : Nat → Ov) (j : Nat) : Nat := (os j).key.size + (os j).wth.size

theorem ret_int {k : IntKind} {a b : Int} (h : a = b) : Ending.returned (.int k a) = .returned (.int k b) := by rw [h]

set_option maxHeartbeats 1000000 in
theorem bytes_any (B : Nat) (id : ByteArray) (held : Bool) (cm : ByteArray) (da : Option Addr) (dn dc : Nat) (sa : Option Addr) (ns sc : Nat) (oa : Option Addr) (no oc : Nat) (ks : Nat → ByteArray) (vs : Nat → Option ByteArray) (os : Nat → Ov) (w : World)
    (h : AnsAt w B id held cm (.slice da dn dc) (.slice sa ns sc) (.slice oa no oc)) (hs : StRow w sa ns ks vs) (ho : Ovs w oa no os) (hB : id.size + cm.size + dn + ns + sm (fS ks vs) ns + no + sm (fO os) no ≤ 1048576) :
    Calls Try.prog 28 #[.pointer (some ⟨B, 0, none⟩)] w fun e w' => e = .returned (.int .i64 ((200 + id.size + cm.size + dn + (100 * ns + sm (fS ks vs) ns) + (100 * no + sm (fO os) no) : Nat) : Int)) ∧ w.grownBy w' none := by
  obtain ⟨c0, c1, c2, c3, c4, c5⟩ := h
  go_enter Try.func28, Try.ntmps28
  go_wp2
  go_quiet (fail)
  go_wp2
  have hB1 : sm (fS ks vs) ns + sm (fO os) no ≤ 1048576 := by omega
  go_loopw [3, 34] (fun t i wr => ∃ (k : Nat) (z : Int), k ≤ ns ∧ i = .int .i64 k ∧ t = .int .i64 z ∧ Hid (z = 200 + id.size + cm.size + dn + (100 * k + (sm (fS ks vs) k : Nat))) ∧ w.grownBy wr none) (fun _ i _ => ns - (intOf i).toNat)
  case atStart => exact ⟨0, _, Nat.zero_le _, rfl, rfl, (by simp [sm] : (200 + (id.size : Int) + cm.size + dn) = _), grown_drewN _ _⟩
  case round =>
    obtain ⟨k, z, hk, rfl, rfl, hz, hg⟩ := hrel
    have hsk := sm_le (fS ks vs) k ns hk
    have hz0 : 0 ≤ z := by have := hz.out; omega
    have hz1 : z ≤ 1000000000 := by have := hz.out; omega
    by_cases hlt : k < ns
    · obtain ⟨g, off, rfl, hc⟩ := hs (by omega)
      obtain ⟨x, ⟨p0, p1, p2, p3, p4⟩, hkey, hval, _⟩ := (hc k hlt).same hg
      have hst := sm_one (fS ks vs) k ns hlt
      have hgl : g < wr.heap.size := World.block_lt_of_cell? wr _ p0
      have hfk : fS ks vs k = x.key.size + osz (vs k) := by unfold fS; rw [hkey]
      have HK : Hid (fS ks vs k = x.key.size + osz (vs k)) := hfk
      have hsz : x.key.size + osz (vs k) ≤ 1048576 := by omega
      have hi0 : (0 : Int) ≤ (k : Int) := by omega
      have hi1 : (k : Int) < (ns : Int) := by omega
      clear hc hs ho hkey hfk hst
      rcases hval with ⟨q1, q2⟩ | ⟨vb, vo, s, q1, q2, q3⟩
      · rw [q1] at p2
        have Q2 : Hid _ := q2
        clear q1 q2
        go_wp2
        go_roundw
        case rel =>
          refine ⟨k + 1, _, by omega, by go_num, rfl, ?_, grown_trans hg (World.grownBy_alloc _ _ none) (by simp)⟩
          show _ = _
          have h1 := hz.out
          have h2 := HK.out
          rw [Q2.out] at h2
          simp only [sm, osz] at h2 ⊢
          omega
        case measure => simp [intOf]; omega
      · rw [q1] at p2
        have Q2 : Hid _ := q2
        have hvl : vb < wr.heap.size := World.block_lt_of_cell? wr _ q3
        have hso : s.size ≤ 1048576 := by rw [q2] at hsz; simp only [osz] at hsz; omega
        clear q1 q2
        go_wp2
        go_roundw
        case rel =>
          refine ⟨k + 1, _, by omega, by go_num, rfl, ?_, grown_trans hg (World.grownBy_alloc _ _ none) (by simp)⟩
          show _ = _
          have h1 := hz.out
          have h2 := HK.out
          rw [Q2.out] at h2
          simp only [sm, osz] at h2 ⊢
          omega
        case measure => simp [intOf]; omega
    · have c5' := hg.cell c5 (by simp)
      have ho' := ho.same hg
      have HZ : Hid (z = 200 + id.size + cm.size + dn + (100 * ns + (sm (fS ks vs) ns : Nat))) := by
        have : k = ns := by omega
        subst this
        exact hz
      clear hz hsk c0 c1 c2 c3 c4 c5 hs ho
      generalize wr = w3 at *
      go_wp2_with fail
      go_loopw [3, 61] (fun t i wr => ∃ (k : Nat) (y : Int), k ≤ no ∧ i = .int .i64 k ∧ t = .int .i64 y ∧ Hid (y = z + (100 * k + (sm (fO os) k : Nat))) ∧ w3.grownBy wr none) (fun _ i _ => no - (intOf i).toNat)
      case atStart => exact ⟨0, _, Nat.zero_le _, rfl, rfl, (by simp [sm] : z = _), World.grownBy.refl _ _⟩
      case round =>
        obtain ⟨k, y, hk, rfl, rfl, hy, hg2⟩ := hrel
        have hsk := sm_le (fO os) k no hk
        have hy0 : 0 ≤ y := by have := hy.out; omega
        have hy1 : y ≤ 2000000000 := by have := hy.out; omega
        by_cases hlt : k < no
        · obtain ⟨g, off, rfl, hc⟩ := ho'.cells (by omega)
          obtain ⟨p0, p1, p2, p3, p4, p5⟩ := (hc k hlt).kept hg2 (by simp)
          have hst := sm_one (fO os) k no hlt
          have hgl : g < wr.heap.size := World.block_lt_of_cell? wr _ p0
          have hsz : (os k).key.size + (os k).wth.size ≤ 1048576 := by have hfo : fO os k = (os k).key.size + (os k).wth.size := rfl; omega
          have HK : Hid (fO os k = (os k).key.size + (os k).wth.size) := rfl
          have hi0 : (0 : Int) ≤ (k : Int) := by omega
          have hi1 : (k : Int) < (no : Int) := by omega
          clear hc ho' hst
          go_wp2
          go_roundw
          case rel =>
            refine ⟨k + 1, _, by omega, by go_num, rfl, ?_, grown_trans hg2 (World.grownBy_alloc _ _ none) (by simp)⟩
            show _ = _
            have h1 := hy.out
            have h2 := HK.out
            simp only [sm] at h2 ⊢
            omega
          case measure => simp [intOf]; omega
        · go_wp2
          go_ret
          refine ⟨ret_int ?_, grown_trans hg hg2 (by simp)⟩
          have h1 := hy.out
          have h2 := HZ.out
          have : k = no := by omega
          subst this
          omega

end Go.Proofs.Qxb6619152a
