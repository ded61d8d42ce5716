/-
  THE CONTRACTS OF THE FUNCTIONS ON THE ROADS.
-/
import Derived.Test.Qxb6618065aChecked
import Derived.Test.Qxb6618065aBuf
import Derived.Test.Qxb6618065aPlain
import Derived.WalkKit
import Derived.WalkSpells
import Derived.WalkLawsBesides
namespace Go.Proofs.Qxb6618065a
open Go.RowKit

theorem info5 : (Try.prog.info? 5).map (fun i => (i.zero, i.size, i.bytes)) = some (some (.int .u8 0), 1, 1) := by kernel_rfl

theorem pow_any (k : Int) (h0 : 0 ≤ k) (h1 : k ≤ 6) (w : World) : Calls Try.prog 9 #[.int .i64 k] w fun e w' => e = .returned (.int .i64 (p10 k.toNat)) ∧ w = w' := by
  go_enter Try.func9, Try.ntmps9
  go_wp2
  go_loop [3, 4] (fun p i => ∃ j : Nat, j ≤ k.toNat ∧ i = .int .i64 j ∧ p = .int .i64 (p10 j)) (fun _ i => k.toNat - (intOf i).toNat)
  case atStart => exact ⟨0, Nat.zero_le _, rfl, rfl⟩
  case round =>
    obtain ⟨j, hj, rfl, rfl⟩ := hrel
    have hp := p10_pos j
    have hl := p10_le j (by omega)
    by_cases hlt : (j : Int) < k
    · go_wp2
      go_round
      case rel => exact ⟨j + 1, by omega, by go_num, rfl⟩
      case measure => simp [intOf]; omega
    · go_wp2
      go_ret
      have : j = k.toNat := by omega
      subst this
      exact ⟨rfl, rfl⟩

theorem ret_bool {a b : Bool} (h : a = b) : Ending.returned (.bool a) = .returned (.bool b) := by rw [h]
theorem ret_int {k : IntKind} {a b : Int} (h : a = b) : Ending.returned (.int k a) = .returned (.int k b) := by rw [h]

theorem getD_mem {zs : List Int} {k : Nat} (h : k < zs.length) : zs.getD k 0 ∈ zs := by
  rw [List.getD_eq_getElem?_getD, List.getElem?_eq_getElem h]
  simp

theorem fill_step (zs : List Int) (k n : Nat) (hl : zs.length = n) (hk : k < n) : (zs.take k ++ List.replicate (n - k) 0).set k (zs.getD k 0) = zs.take (k + 1) ++ List.replicate (n - (k + 1)) 0 := by
  subst hl
  rw [List.set_append_right _ _ (by simp; omega), List.take_succ_eq_append_getElem hk, List.append_assoc]
  congr 1
  rw [show zs.length - k = (zs.length - (k + 1)) + 1 by omega, List.replicate_succ]
  have e : k - (zs.take k).length = 0 := by simp; omega
  rw [e]
  simp [List.getD, hk]

/-- What the store of a round needs, and leaves. -/
theorem own_step {w : World} {g n c : Nat} {zs : List Int} (h : Own w (some ⟨g, 0, none⟩) n c zs) (k : Nat) (hk : k < n) :
    w.cell? ⟨g, k, none⟩ = some (.int .u8 (zs.getD k 0)) ∧ w.frozen? ⟨g, k, none⟩ = false ∧
    ∀ z : Int, 0 ≤ z ∧ z ≤ 255 → Own (w.setCell ⟨g, k, none⟩ (.int .u8 z)) (some ⟨g, 0, none⟩) n c (zs.set k z) ∧ w.grownBy (w.setCell ⟨g, k, none⟩ (.int .u8 z)) (some g) := by
  obtain ⟨g', off', e, h1, h2⟩ := h.room _ rfl
  cases e
  have := h.le
  exact ⟨by simpa using h2 k hk, by simpa using (h1 k (by omega)).2, fun z hz => by simpa using h.set k hk z hz⟩

set_option maxHeartbeats 400000 in
theorem clone_any (a : Option Addr) (n c : Nat) (zs : List Int) (w : World) (h : Rd w a n zs) (hn : n ≤ 1048576) :
    Calls Try.prog 7 #[.slice a n c] w fun e w' => ∃ a' c', e = .returned (.slice a' n c') ∧ Own w' a' n c' zs ∧ w.grownBy w' none ∧ (a' = none ↔ a = none) ∧ (∀ k, blk a' = some k → w.heap.size ≤ k ∧ k < w'.heap.size) := by
  have hq := fun wx => Lib.run_eql_slice_nil (P := Try.prog) wx 22 5 a n c 0 0 Try.underlying22
  obtain ⟨i0, hi, hz0, hz1, hz2⟩ := info_parts info5
  cases a with
  | none =>
    have hn0 : n = 0 := by
      by_cases h0 : 0 < n
      · obtain ⟨_, _, e, _⟩ := h.cells h0; cases e
      · omega
    subst hn0
    obtain rfl : zs = [] := List.eq_nil_of_length_eq_zero h.len
    go_enter Try.func7, Try.ntmps7
    go_wp2
    go_ret
    exact ⟨none, 0, rfl, Own.nilOwn _, World.grownBy.refl _ _, by simp, fun k h => by simp [blk] at h⟩
  | some x =>
    go_enter Try.func7, Try.ntmps7
    go_wp2_with (at_make; refine wpList_make_buf _ rfl _ _ 22 rfl 5 i0 Try.underlying22 hi hz0 hz1 hz2 _ _ _ _ n rfl rfl rfl rfl (by omega) ?_)
    intro w1 ho1 hg1 hs1
    go_wp2
    go_loopw [4] (fun i wr => ∃ k : Nat, k ≤ n ∧ i = .int .i64 k ∧ Own wr (some ⟨w.heap.size, 0, none⟩) n n (zs.take k ++ List.replicate (n - k) 0) ∧ w.grownBy wr none ∧ w.heap.size < wr.heap.size) (fun i _ => n - (intOf i).toNat)
    case atStart => exact ⟨0, Nat.zero_le _, rfl, by simpa using ho1, hg1, hs1⟩
    case round =>
      obtain ⟨k, hk, rfl, ho, hg, hs⟩ := hrel
      by_cases hlt : k < n
      · obtain ⟨b, off, e, hc⟩ := h.cells (by omega)
        cases e
        have hck := hg.cell (hc k hlt) (by simp)
        obtain ⟨hnew, hfr, hown'⟩ := own_step ho k hlt
        have hwk := h.wf (zs.getD k 0) (getD_mem (by rw [h.len]; exact hlt))
        have HO : Hid _ := hown' (zs.getD k 0) hwk
        clear hown' ho ho1 hc hwk
        go_wp2
        go_roundw
        case rel => exact ⟨k + 1, by omega, by go_num, by rw [← fill_step zs k n h.len hlt]; exact HO.out.1, grown_trans hg HO.out.2 (fun q hq => .inr (by cases hq; exact Nat.le_refl _)), by simp; exact hs⟩
        case measure => simp [intOf]; omega
      · go_wp2
        go_ret
        have : k = n := by omega
        subst this
        refine ⟨_, _, rfl, ?_, hg, by simp, fun q hq => ?_⟩
        · have e1 : zs.take k = zs := List.take_of_length_le (by rw [h.len]; omega)
          simpa [e1] using ho
        · have : w.heap.size = q := by simpa [blk] using hq
          omega
theorem getD_ext {xs ys : List Int} {n : Nat} (hx : xs.length = n) (hy : ys.length = n) (k : Nat) (hk : k < n) : (xs.take (k + 1) = ys.take (k + 1)) ↔ (xs.take k = ys.take k ∧ xs.getD k 0 = ys.getD k 0) := by
  rw [List.take_succ_eq_append_getElem (by omega), List.take_succ_eq_append_getElem (by omega)]
  have ex : xs.getD k 0 = xs[k]'(by omega) := by simp [List.getD, show k < xs.length by omega]
  have ey : ys.getD k 0 = ys[k]'(by omega) := by simp [List.getD, show k < ys.length by omega]
  rw [ex, ey]
  constructor
  · intro h
    have h1 := List.append_inj_left h (by simp; omega)
    have h2 := List.append_inj_right h (by simp; omega)
    exact ⟨h1, by simpa using h2⟩
  · rintro ⟨h1, h2⟩
    rw [h1, h2]

theorem take_ne {xs ys : List Int} (k : Nat) (h : ¬ xs.take k = ys.take k) : ¬ xs = ys := fun e => h (by rw [e])

set_option maxHeartbeats 400000 in
theorem same_any (a b : Option Addr) (n c m d : Nat) (xs ys : List Int) (w : World) (hx : Rd w a n xs) (hy : Rd w b m ys) (hn : n ≤ 2097152) (hm : m ≤ 2097152) :
    Calls Try.prog 10 #[.slice a n c, .slice b m d] w fun e w' => e = .returned (.bool (decide (xs = ys))) ∧ w.grownBy w' none := by
  by_cases hnm : n = m
  · subst hnm
    have hq : ((n : Int) != (n : Int)) = false := by simp
    go_enter Try.func10, Try.ntmps10
    go_wp2
    go_loopw [5] (fun i wr => ∃ k : Nat, k ≤ n ∧ i = .int .i64 k ∧ Hid (xs.take k = ys.take k) ∧ w.grownBy wr none) (fun i _ => n - (intOf i).toNat)
    case atStart => exact ⟨0, Nat.zero_le _, rfl, (by simp : xs.take 0 = ys.take 0), World.grownBy.refl _ _⟩
    case round =>
      obtain ⟨k, hk, rfl, ht, hg⟩ := hrel
      by_cases hlt : k < n
      · obtain ⟨b1, o1, rfl, hc1⟩ := hx.cells (by omega)
        obtain ⟨b2, o2, rfl, hc2⟩ := hy.cells (by omega)
        have hd1 := hg.cell (hc1 k hlt) (by simp)
        have hd2 := hg.cell (hc2 k hlt) (by simp)
        have HE : Hid (_ ↔ _) := getD_ext hx.len hy.len k hlt
        clear hc1 hc2
        obtain ⟨x, hx'⟩ : ∃ x, xs.getD k 0 = x := ⟨_, rfl⟩
        obtain ⟨y, hy'⟩ : ∃ y, ys.getD k 0 = y := ⟨_, rfl⟩
        rw [hx'] at hd1
        rw [hy'] at hd2
        have HX : Hid (xs.getD k 0 = x) := hx'
        have HY : Hid (ys.getD k 0 = y) := hy'
        clear hx' hy'
        have hi0 : (k : Int) < (n : Int) := by omega
        by_cases hxy : x = y
        · have HE2 : Hid (xs.take (k + 1) = ys.take (k + 1)) := HE.out.2 ⟨ht.out, by rw [HX.out, HY.out, hxy]⟩
          have hb : (x != y) = false := by simp [hxy]
          clear hxy
          go_wp2
          go_quiet (fail)
          go_wp2
          go_roundw
          case rel => exact ⟨k + 1, by omega, by go_num, HE2, grown_trans hg (grown_drewN _ _) (by simp)⟩
          case measure => simp [intOf]; omega
        · have hb : (x != y) = true := by simpa using hxy
          have HE2 : Hid (¬ xs = ys) := take_ne (k + 1) fun e => hxy (by rw [← HX.out, ← HY.out]; exact (HE.out.1 e).2)
          clear hxy
          go_wp2
          go_quiet (fail)
          go_wp2
          go_ret
          exact ⟨ret_bool (decide_eq_false HE2.out).symm, grown_trans hg (grown_drewN _ _) (by simp)⟩
      · go_wp2
        go_ret
        have e : xs = ys := by
          have := ht.out
          rwa [List.take_of_length_le (by rw [hx.len]; omega), List.take_of_length_le (by rw [hy.len]; omega)] at this
        exact ⟨ret_bool (decide_eq_true e).symm, hg⟩
  · have hq : ((n : Int) != (m : Int)) = true := by rw [bne_iff_ne]; omega
    go_enter Try.func10, Try.ntmps10
    go_wp2
    go_ret
    have : ¬ xs = ys := fun e => hnm (by rw [← hx.len, ← hy.len, e])
    exact ⟨by simp [this], World.grownBy.refl _ _⟩

end Go.Proofs.Qxb6618065a
