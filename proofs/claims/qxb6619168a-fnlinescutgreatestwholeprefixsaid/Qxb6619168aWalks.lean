/-
  THE CONTRACTS OF zzbEqual, zzbClone, consume.
-/
import Derived.Test.Qxb6619168aChecked
import Derived.Test.Qxb6619168aBuf
import Derived.WalkKit
import Derived.WalkSpells
import Derived.WalkLawsBesides
namespace Go.Proofs.Qxb6619168a
open Go.RowKit

theorem info5 : (Try.prog.info? 5).map (fun i => (i.zero, i.size, i.bytes)) = some (some (.int .u8 0), 1, 1) := by kernel_rfl

theorem ret_bool {a b : Bool} (h : a = b) : Ending.returned (.bool a) = .returned (.bool b) := by rw [h]
theorem ret_int {k : IntKind} {a b : Int} (h : a = b) : Ending.returned (.int k a) = .returned (.int k b) := by rw [h]

theorem getD_mem {zs : List Int} {k : Nat} (h : k < zs.length) : zs.getD k 0 ∈ zs := by
  rw [List.getD_eq_getElem?_getD, List.getElem?_eq_getElem h]
  simp

theorem getD_ext {xs ys : List Int} {n : Nat} (hx : xs.length = n) (hy : ys.length = n) (k : Nat) (hk : k < n) : (xs.take (k + 1) = ys.take (k + 1)) ↔ (xs.take k = ys.take k ∧ xs.getD k 0 = ys.getD k 0) := by
  rw [List.take_succ_eq_append_getElem (by omega), List.take_succ_eq_append_getElem (by omega)]
  have ex : xs.getD k 0 = xs[k]'(by omega) := by simp [List.getD, show k < xs.length by omega]
  have ey : ys.getD k 0 = ys[k]'(by omega) := by simp [List.getD, show k < ys.length by omega]
  rw [ex, ey]
  constructor
  · intro h
    have h1 := List.append_inj_left h (by simp; omega)
    have h2 := List.append_inj_right h (by simp; omega)
    exact ⟨h1, by simpa using h2⟩
  · rintro ⟨h1, h2⟩
    rw [h1, h2]

theorem take_ne {xs ys : List Int} (k : Nat) (h : ¬ xs.take k = ys.take k) : ¬ xs = ys := fun e => h (by rw [e])

set_option maxHeartbeats 400000 in
theorem same_any (a b : Option Addr) (n c m d : Nat) (xs ys : List Int) (w : World) (hx : Rd w a n xs) (hy : Rd w b m ys) (hn : n ≤ 2097152) (hm : m ≤ 2097152) :
    Calls Try.prog 11 #[.slice a n c, .slice b m d] w fun e w' => e = .returned (.bool (decide (xs = ys))) ∧ w.grownBy w' none := by
  by_cases hnm : n = m
  · subst hnm
    have hq : ((n : Int) != (n : Int)) = false := by simp
    go_enter Try.func11, Try.ntmps11
    go_wp2
    go_loopw [5] (fun i wr => ∃ k : Nat, k ≤ n ∧ i = .int .i64 k ∧ Hid (xs.take k = ys.take k) ∧ w.grownBy wr none) (fun i _ => n - (intOf i).toNat)
    case atStart => exact ⟨0, Nat.zero_le _, rfl, (by simp : xs.take 0 = ys.take 0), World.grownBy.refl _ _⟩
    case round =>
      obtain ⟨k, hk, rfl, ht, hg⟩ := hrel
      by_cases hlt : k < n
      · obtain ⟨b1, o1, rfl, hc1⟩ := hx.cells (by omega)
        obtain ⟨b2, o2, rfl, hc2⟩ := hy.cells (by omega)
        have hd1 := hg.cell (hc1 k hlt) (by simp)
        have hd2 := hg.cell (hc2 k hlt) (by simp)
        have HE : Hid (_ ↔ _) := getD_ext hx.len hy.len k hlt
        clear hc1 hc2
        obtain ⟨x, hx'⟩ : ∃ x, xs.getD k 0 = x := ⟨_, rfl⟩
        obtain ⟨y, hy'⟩ : ∃ y, ys.getD k 0 = y := ⟨_, rfl⟩
        rw [hx'] at hd1
        rw [hy'] at hd2
        have HX : Hid (xs.getD k 0 = x) := hx'
        have HY : Hid (ys.getD k 0 = y) := hy'
        clear hx' hy'
        have hi0 : (k : Int) < (n : Int) := by omega
        by_cases hxy : x = y
        · have HE2 : Hid (xs.take (k + 1) = ys.take (k + 1)) := HE.out.2 ⟨ht.out, by rw [HX.out, HY.out, hxy]⟩
          have hb : (x != y) = false := by simp [hxy]
          clear hxy
          go_wp2
          go_quiet (fail)
          go_wp2
          go_roundw
          case rel => exact ⟨k + 1, by omega, by go_num, HE2, grown_trans hg (grown_drewN _ _) (by simp)⟩
          case measure => simp [intOf]; omega
        · have hb : (x != y) = true := by simpa using hxy
          have HE2 : Hid (¬ xs = ys) := take_ne (k + 1) fun e => hxy (by rw [← HX.out, ← HY.out]; exact (HE.out.1 e).2)
          clear hxy
          go_wp2
          go_quiet (fail)
          go_wp2
          go_ret
          exact ⟨ret_bool (decide_eq_false HE2.out).symm, grown_trans hg (grown_drewN _ _) (by simp)⟩
      · go_wp2
        go_ret
        have e : xs = ys := by
          have := ht.out
          rwa [List.take_of_length_le (by rw [hx.len]; omega), List.take_of_length_le (by rw [hy.len]; omega)] at this
        exact ⟨ret_bool (decide_eq_true e).symm, hg⟩
  · have hq : ((n : Int) != (m : Int)) = true := by rw [bne_iff_ne]; omega
    go_enter Try.func11, Try.ntmps11
    go_wp2
    go_ret
    have : ¬ xs = ys := fun e => hnm (by rw [← hx.len, ← hy.len, e])
    exact ⟨by simp [this], World.grownBy.refl _ _⟩

theorem same_yes (a b : Option Addr) (n c m d : Nat) (xs ys : List Int) (w : World) (hx : Rd w a n xs) (hy : Rd w b m ys) (hn : n ≤ 2097152) (hm : m ≤ 2097152) (he : xs = ys) :
    Calls Try.prog 11 #[.slice a n c, .slice b m d] w fun e w' => e = .returned (.bool true) ∧ w.grownBy w' none := by
  have := same_any a b n c m d xs ys w hx hy hn hm
  rwa [decide_eq_true he] at this

set_option maxHeartbeats 400000 in
theorem clone_any (a : Option Addr) (n c : Nat) (zs : List Int) (w : World) (h : Rd w a n zs) (hn : n ≤ 1048576) :
    Calls Try.prog 9 #[.slice a n c] w fun e w' => ∃ a' c', e = .returned (.slice a' n c') ∧ Own w' a' n c' zs ∧ w.grownBy w' none ∧ (a' = none ↔ a = none) ∧ (∀ k, blk a' = some k → w.heap.size ≤ k ∧ k < w'.heap.size) := by
  have hq := fun wx => Lib.run_eql_slice_nil (P := Try.prog) wx 22 5 a n c 0 0 Try.underlying22
  obtain ⟨i0, hi, hz0, hz1, hz2⟩ := info_parts info5
  cases a with
  | none =>
    have hn0 : n = 0 := by
      by_cases h0 : 0 < n
      · obtain ⟨_, _, e, _⟩ := h.cells h0; cases e
      · omega
    subst hn0
    obtain rfl : zs = [] := List.eq_nil_of_length_eq_zero h.len
    go_enter Try.func9, Try.ntmps9
    go_wp2
    go_ret
    exact ⟨none, 0, rfl, Own.nilOwn _, World.grownBy.refl _ _, by simp, fun k h => by simp [blk] at h⟩
  | some x =>
    go_enter Try.func9, Try.ntmps9
    go_wp2_with (at_make; refine wpList_make_buf _ rfl _ _ 22 rfl 5 i0 Try.underlying22 hi hz0 hz1 hz2 _ _ _ _ n rfl rfl rfl rfl (by omega) ?_)
    intro w1 ho1 hg1 hs1
    obtain ⟨w2, hcp, ho2, hg2⟩ := run_copy_buf (P := Try.prog) 22 22 3 5 Try.underlying22 (by rw [hi]; simp [hz1]) (c := c) ho1 (h.same hg1)
    have G := grown_trans hg1 hg2 (fun q hq => .inr (by cases hq; exact Nat.le_refl _))
    have hs2 := hg2.size
    clear ho1 hg1 hg2 hi hz0 hz1 hz2 hq h
    go_wp2
    go_ret
    refine ⟨_, _, rfl, ho2, G, by simp, fun q hq => ?_⟩
    have : w.heap.size = q := by simpa [blk] using hq
    omega

theorem blk_add (x : Addr) (k : Nat) : (x.add k).block = x.block := by
  unfold Addr.add
  split <;> rfl

theorem blk_map (a : Option Addr) (k : Nat) : blk (a.map (fun x => x.add k)) = blk a := by
  cases a with
  | none => rfl
  | some x => simp only [blk, Option.map_some, blk_add]

set_option maxHeartbeats 400000 in
theorem consume_any (a : Option Addr) (n c : Nat) (zs : List Int) (k : Int) (w : World) (h : Own w a n c zs) (hn : n ≤ 1048576) (hk0 : 0 ≤ k) (hk : k ≤ n) :
    Calls Try.prog 23 #[.slice a n c, .int .i64 k] w fun e w' => ∃ a' c', e = .returned (.slice a' (n - k.toNat) c') ∧ Own w' a' (n - k.toNat) c' (zs.drop k.toNat) ∧ w.grownBy w' (blk a) ∧
      (∀ q, blk a' = some q → blk a = some q ∨ (w.heap.size ≤ q ∧ q < w'.heap.size)) := by
  obtain ⟨k, rfl⟩ := Int.eq_ofNat_of_zero_le hk0
  rw [Int.toNat_natCast]
  have hnc := h.le
  have hcm := h.cap
  unfold maxLen at hcm
  obtain ⟨i0, hi, hz0, hz1, hz2⟩ := info_parts info5
  have h0 := h.head 0 (Nat.zero_le _)
  rw [List.take_zero] at h0
  by_cases hck : c = k
  · subst hck
    obtain rfl : n = c := by omega
    have hr : Rd w a 0 [] := ⟨rfl, by simp, fun h => by omega⟩
    have hdz : zs.drop n = [] := List.drop_of_length_le (by rw [h.len]; omega)
    rw [hdz, Nat.sub_self]
    go_enter Try.func23, Try.ntmps23
    go_wp2_with (at_builtin; refine wpList_append_buf _ rfl (.tmp 14) (.tmp 15) 22 22 rfl 5 i0 Try.underlying22 hi hz0 hz1 hz2 a 0 n [] rfl h0 _ rfl 0 [] (hr.src 22 5 Try.underlying22 _) hr.wf (by omega) ?_)
    intro a' c' w1 ho hg hb1 hb2 _
    go_wp2
    go_ret
    exact ⟨a', c', rfl, ho, hg, after_append hb1 hb2⟩
  · have hkc : k < c := by omega
    have hsub : ((n : Int) - (k : Int)) = ((n - k : Nat) : Int) := by omega
    have ht : Own w (a.map (fun x => x.add k)) (n - k) (c - k) (zs.drop k) := h.tail k (by omega) hkc (fun g off e => by rw [e]; simp only [Option.map_some, Addr.add_lit])
    by_cases hle : n - k ≤ k
    · have hle' : ((n - k : Nat) : Int) ≤ (k : Int) := by omega
      have hr := ht.rd
      go_enter Try.func23, Try.ntmps23
      go_wp2_with (at_builtin; refine wpList_append_buf _ rfl (.tmp 14) (.tmp 15) 22 22 rfl 5 i0 Try.underlying22 hi hz0 hz1 hz2 a 0 c [] rfl h0 _ rfl (n - k) (zs.drop k) (hr.src 22 5 Try.underlying22 _) hr.wf (by omega) ?_)
      intro a' c' w1 ho hg hb1 hb2 _
      go_wp2
      go_ret
      exact ⟨a', c', rfl, ho, hg, after_append hb1 hb2⟩
    · have hle' : ¬ ((n - k : Nat) : Int) ≤ (k : Int) := by omega
      go_enter Try.func23, Try.ntmps23
      go_wp2
      go_ret
      exact ⟨_, _, rfl, ht, World.grownBy.refl _ _, fun q hq => .inl (by rwa [blk_map] at hq)⟩

set_option maxHeartbeats 400000 in
theorem zz_consume (a : Option Addr) (n c : Nat) (zs : List Int) (k : Int) (w : World) (h : Own w a n c zs) (hn : n ≤ 1048576) (hk0 : 0 ≤ k) (hk : k ≤ n) :
    Calls Try.prog 10 #[.slice a n c, .int .i64 k] w fun e w' => ∃ a' c', e = .returned (.slice a' (n - k.toNat) c') ∧ Own w' a' (n - k.toNat) c' (zs.drop k.toNat) ∧ w.grownBy w' (blk a) ∧
      (∀ q, blk a' = some q → blk a = some q ∨ (w.heap.size ≤ q ∧ q < w'.heap.size)) := by
  go_enter Try.func10, Try.ntmps10
  go_wp2_with fail
  refine (consume_any a n c zs k w h hn hk0 hk).mono ?_
  rintro _ w1 ⟨a', c', rfl, ho, hg, hb⟩
  go_wp2
  go_ret
  exact ⟨a', c', rfl, ho, hg, hb⟩

end Go.Proofs.Qxb6619168a
