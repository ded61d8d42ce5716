/-
  THE LAW FnLinesCutGreatestWholePrefix, OUT OF THE CONTRACTS.
-/
import Derived.Test.Qxb6619168aText
import Derived.Below
namespace Go.Proofs.Qxb6619168a
open Go.RowKit

theorem text_any (g S W : Nat) (s0 : Int) (a : Option Addr) (m c : Nat) (zs : List Int) (w : World) (hr : Rd w a m zs) (hne : 0 < m → blk a ≠ some g)
    (h0 : w.cell? ⟨g, 0, none⟩ = some (.int .i64 W)) (h1 : w.cell? ⟨g, 1, none⟩ = some (.int .i64 S)) (h2 : w.cell? ⟨g, 2, none⟩ = some (.int .i64 s0))
    (f1 : w.frozen? ⟨g, 1, none⟩ = false) (f2 : w.frozen? ⟨g, 2, none⟩ = false) (hS : S ≤ 2305843009213693952) (hm : m ≤ 1048576) (hW : W ≤ 1073741824) (hmc : m ≤ c) :
    Calls Try.prog 16 #[.pointer (some ⟨g, 0, none⟩), .slice none 0 0, .slice a m c] w (TextPost g W S m w) := by
  by_cases hW0 : W = 0
  · subst hW0
    exact text_zero g S s0 a m c zs w hr hne h0 h1 h2 f1 f2 hS hm
  · exact text_pos g S W s0 a m c zs w hr hne h0 h1 h2 f1 f2 hS hm hW (by omega) hmc

/-- The fields of a new box. -/
theorem new_box (w : World) (x y z : Int) (b : Bool) :
    (w.alloc (.cells #[.int .i64 x, .int .i64 y, .int .i64 z, .bool b] 42)).cell? ⟨w.heap.size, 0, none⟩ = some (.int .i64 x) ∧
    (w.alloc (.cells #[.int .i64 x, .int .i64 y, .int .i64 z, .bool b] 42)).cell? ⟨w.heap.size, 1, none⟩ = some (.int .i64 y) ∧
    (w.alloc (.cells #[.int .i64 x, .int .i64 y, .int .i64 z, .bool b] 42)).cell? ⟨w.heap.size, 2, none⟩ = some (.int .i64 z) ∧
    (w.alloc (.cells #[.int .i64 x, .int .i64 y, .int .i64 z, .bool b] 42)).frozen? ⟨w.heap.size, 1, none⟩ = false ∧
    (w.alloc (.cells #[.int .i64 x, .int .i64 y, .int .i64 z, .bool b] 42)).frozen? ⟨w.heap.size, 2, none⟩ = false := by
  have hg := heap_alloc_new w (.cells #[.int .i64 x, .int .i64 y, .int .i64 z, .bool b] 42)
  refine ⟨?_, ?_, ?_, frozen_of_row _ _ _ _ _ hg, frozen_of_row _ _ _ _ _ hg⟩ <;> (rw [cell_of_row _ _ _ _ _ _ hg]; rfl)

/-- A cut's answer. -/
structure Cut (S W m n k : Nat) : Prop where
  le : k ≤ m
  fits : LL (S + k) W ≤ LL S W + n
  near : LL S W + n ≤ LL (S + k) W + 1
  next : LL S W + n < LL (S + k + 1) W
  feed : LL S W + n = LL (S + k) W + 1 → Fd (S + k) W ∧ k < m

theorem cut_cut (S W m n : Nat) (hn : n ≤ LL (S + m) W - LL S W) (hW : 0 < W) : ∃ k : Nat, ((cutAt (LL S W + n) W : Nat) : Int) - (S : Int) = (k : Int) ∧ Cut S W m n k := by
  obtain ⟨h1, h2⟩ := cutAt_in hW hn
  obtain ⟨k, hk⟩ : ∃ k, cutAt (LL S W + n) W = S + k := ⟨cutAt (LL S W + n) W - S, by omega⟩
  obtain ⟨c1, c2, c3, c4⟩ := cutAt_spec (E := LL S W + n) hW
  rw [hk] at c1 c2 c3 c4 h2
  refine ⟨k, by rw [hk]; omega, by omega, c1, c2, c3, fun h => ⟨c4 h, ?_⟩⟩
  have hmo := LL_mono W (Nat.le_add_right S m)
  by_cases hkm : k = m
  · subst hkm; omega
  · omega

set_option maxHeartbeats 400000 in
theorem cut_all (g W S : Nat) (a : Option Addr) (m c n : Nat) (w : World) (h0 : w.cell? ⟨g, 0, none⟩ = some (.int .i64 W)) (h2 : w.cell? ⟨g, 2, none⟩ = some (.int .i64 S))
    (hS : S ≤ 2305843009213693952) (hW : W ≤ 1073741824) (hn : n ≤ LL (S + m) W - LL S W) (hm : m ≤ 1048576) :
    Calls Try.prog 21 #[.pointer (some ⟨g, 0, none⟩), .slice a m c, .int .i64 n] w fun e w' => ∃ k : Nat, e = .returned (.int .i64 k) ∧ Cut S W m n k ∧ w.grownBy w' none := by
  by_cases hW0 : W = 0
  · subst hW0
    rw [LL_nowidth, LL_nowidth] at hn
    go_enter Try.func21, Try.ntmps21
    go_wp2
    go_ret
    refine ⟨n, rfl, ⟨by omega, ?_, ?_, ?_, ?_⟩, World.grownBy.refl _ _⟩ <;> simp only [LL_nowidth] <;> omega
  · have hd := LL_diff S m W
    obtain ⟨k, hk, hc⟩ := cut_cut S W m n hn (by omega)
    refine (cut_any g W S a m c n w h0 h2 hS hW (by omega) (by omega)).mono ?_
    rintro e w' ⟨rfl, hg⟩
    exact ⟨k, by rw [hk], hc, hg⟩

set_option maxHeartbeats 400000 in
theorem text_len (W S : Nat) (a : Option Addr) (m c : Nat) (zs : List Int) (w : World) (hr : Rd w a m zs) (hS : S ≤ 2305843009213693952) (hm : m ≤ 1048576) (hW : W ≤ 1073741824) (hmc : m ≤ c) (sz : Nat) (hsz : LL (S + m) W - LL S W = sz) :
    Calls Try.prog 22 #[.int .i64 W, .int .i64 S, .slice a m c] w fun e w' => e = .returned (.int .i64 sz) ∧ w.grownBy w' none := by
  have hab : 0 < m → blk a ≠ some w.heap.size := fun hm0 hq => by
    obtain ⟨b, off, rfl, hc⟩ := hr.cells hm0
    have : b < w.heap.size := World.block_lt_of_cell? w _ (hc 0 hm0)
    simp [blk] at hq
    omega
  obtain ⟨b0, b1, b2, f1, f2⟩ := new_box w W S S false
  have hga := World.grownBy_alloc w (.cells #[.int .i64 W, .int .i64 S, .int .i64 S, .bool false] 42) none
  have hx := text_any w.heap.size S W S a m c zs _ (hr.same hga) hab b0 b1 b2 f1 f2 hS hm hW hmc
  have HSZ := hid hsz
  clear b0 b1 b2 f1 f2 hr hab hsz
  go_enter Try.func22, Try.ntmps22
  go_wp2_with fail
  refine (new_lines W S S false w).mono ?_
  rintro e w1 ⟨rfl, rfl⟩
  go_wp2_with fail
  refine hx.mono ?_
  rintro e w2 ⟨a', c', rfl, _, _, _, g2, _⟩
  have G := grown_trans hga g2 (fun k hk => .inr (by cases hk; exact Nat.le_refl _))
  rw [HSZ.out]
  clear hga g2 hx
  go_wp2
  go_ret
  exact ⟨rfl, G⟩

theorem feeds_all (S W m : Nat) (w : World) (hS : S ≤ 2305843009213693952) (hW : W ≤ 1073741824) (hm : m ≤ 1048576) (sz : Nat) (hsz : LL (S + m) W - LL S W = sz) :
    Calls Try.prog 19 #[.int .i64 S, .int .i64 W, .int .i64 m] w fun e w' => ∃ F : Nat, e = .returned (.int .i64 F) ∧ m + F = sz ∧ w.grownBy w' none := by
  refine (feeds_any S W m w hS hW hm).mono ?_
  rintro e w' ⟨rfl, hg⟩
  exact ⟨_, rfl, by rw [LL_feeds]; exact hsz, hg⟩

theorem law7_early (a : Option Addr) (m c : Nat) (x y n : Int) (w : World) (hm : m ≤ 9223372036854775807) (h : ¬ (m ≤ 1048576 ∧ 0 ≤ x ∧ x ≤ 1073741824 ∧ 0 ≤ y ∧ y ≤ 2305843009213693952)) :
    Calls Try.prog 7 #[.int .i64 x, .int .i64 y, .slice a m c, .int .i64 n] w fun e w' => e = .returned (.bool true) ∧ Below w.heap.size w w' := by
  have hz := zzb20_any x y n a m c w hm
  by_cases c1 : m ≤ 1048576
  · rw [decide_eq_true c1] at hz
    by_cases c2 : x < 0
    · clear h
      go_enter Try.func7, Try.ntmps7
      go_wp2_with fail
      refine hz.mono ?_
      rintro e w' ⟨rfl, rfl⟩
      go_wp2
      go_ret
      exact ⟨rfl, Below.refl _ _⟩
    · by_cases c3 : 1073741824 < x
      · clear h
        go_enter Try.func7, Try.ntmps7
        go_wp2_with fail
        refine hz.mono ?_
        rintro e w' ⟨rfl, rfl⟩
        go_wp2
        go_ret
        exact ⟨rfl, Below.refl _ _⟩
      · by_cases c4 : y < 0
        · clear h
          go_enter Try.func7, Try.ntmps7
          go_wp2_with fail
          refine hz.mono ?_
          rintro e w' ⟨rfl, rfl⟩
          go_wp2
          go_ret
          exact ⟨rfl, Below.refl _ _⟩
        · have c5 : 2305843009213693952 < y := by omega
          clear h
          go_enter Try.func7, Try.ntmps7
          go_wp2_with fail
          refine hz.mono ?_
          rintro e w' ⟨rfl, rfl⟩
          go_wp2
          go_ret
          exact ⟨rfl, Below.refl _ _⟩
  · rw [decide_eq_false c1] at hz
    clear h
    go_enter Try.func7, Try.ntmps7
    go_wp2_with fail
    refine hz.mono ?_
    rintro e w' ⟨rfl, rfl⟩
    go_wp2
    go_ret
    exact ⟨rfl, Below.refl _ _⟩

set_option maxHeartbeats 400000 in
theorem law7_mid (S W : Nat) (a : Option Addr) (m c : Nat) (n : Int) (w : World) (hm : m ≤ 1048576) (hW : W ≤ 1073741824) (hS : S ≤ 2305843009213693952) (h : ¬ (0 ≤ n ∧ n ≤ ((LL (S + m) W - LL S W : Nat) : Int))) :
    Calls Try.prog 7 #[.int .i64 W, .int .i64 S, .slice a m c, .int .i64 n] w fun e w' => e = .returned (.bool true) ∧ Below w.heap.size w w' := by
  have hz := zzb20_any W S n a m c w (by omega)
  rw [decide_eq_true hm] at hz
  obtain ⟨sz, hsz⟩ : ∃ sz, LL (S + m) W - LL S W = sz := ⟨_, rfl⟩
  have hd := LL_diff S m W
  have hf := feeds_all S W m w hS hW hm sz hsz
  rw [hsz] at h hd
  clear hsz
  by_cases c1 : n < 0
  · clear h
    go_enter Try.func7, Try.ntmps7
    go_wp2_with fail
    refine hz.mono ?_
    rintro e w' ⟨rfl, rfl⟩
    go_wp2_with fail
    refine hf.mono ?_
    rintro e w1 ⟨F, rfl, hF, hg⟩
    go_wp2
    go_ret
    exact ⟨rfl, (Below.refl w.heap.size w).grown hg (Nat.le_refl _) (by simp)⟩
  · have c2 : (sz : Int) < n := by omega
    clear h
    go_enter Try.func7, Try.ntmps7
    go_wp2_with fail
    refine hz.mono ?_
    rintro e w' ⟨rfl, rfl⟩
    go_wp2_with fail
    refine hf.mono ?_
    rintro e w1 ⟨F, rfl, hF, hg⟩
    have c3 : ((m : Int) + (F : Int)) < n := by omega
    go_wp2
    go_ret
    exact ⟨rfl, (Below.refl w.heap.size w).grown hg (Nat.le_refl _) (by simp)⟩

set_option maxHeartbeats 1000000 in
set_option maxRecDepth 100000 in
theorem law7_go (S W : Nat) (a : Option Addr) (m c : Nat) (zs : List Int) (n : Nat) (w : World) (hr : Rd w a m zs) (hmc : m ≤ c) (hm : m ≤ 1048576) (hW : W ≤ 1073741824) (hS : S ≤ 2305843009213693952) (hn : n ≤ LL (S + m) W - LL S W) :
    Calls Try.prog 7 #[.int .i64 W, .int .i64 S, .slice a m c, .int .i64 n] w fun e w' => e = .returned (.bool true) ∧ Below w.heap.size w w' := by
  have hz := zzb20_any W S n a m c w (by omega)
  rw [decide_eq_true hm] at hz
  obtain ⟨sz, hsz⟩ : ∃ sz, LL (S + m) W - LL S W = sz := ⟨_, rfl⟩
  have hd := LL_diff S m W
  have hf := feeds_all S W m w hS hW hm sz hsz
  have HSZ := hid hsz
  have HN := hid hn
  rw [hsz] at hn hd
  clear hsz
  have hab : 0 < m → ∀ q, blk a = some q → q < w.heap.size := fun hm0 q hq => by
    obtain ⟨b, off, rfl, hc⟩ := hr.cells hm0
    have : b < w.heap.size := World.block_lt_of_cell? w _ (hc 0 hm0)
    simp [blk] at hq
    rw [← hq]; exact this
  go_enter Try.func7, Try.ntmps7
  go_wp2_with fail
  refine hz.mono ?_
  rintro e w' ⟨rfl, rfl⟩
  go_wp2_with fail
  refine hf.mono ?_
  rintro e w1 ⟨F, rfl, hF, g1⟩
  have hF' : ((m : Int) + (F : Int)) = (sz : Int) := by omega
  have hni : (n : Int) ≤ (sz : Int) := by omega
  clear hz hf hF
  go_wp2_with fail
  refine (new_lines W S S false w1).mono ?_
  rintro e w2 ⟨rfl, hw2⟩
  obtain ⟨b0, b1, b2, f1, f2⟩ := new_box w1 W S S false
  have g2 := World.grownBy_alloc w1 (.cells #[.int .i64 W, .int .i64 S, .int .i64 S, .bool false] 42) none
  rw [← hw2] at b0 b1 b2 f1 f2 g2
  clear hw2
  have G2 := grown_trans g1 g2 (by simp)
  have s1 := g1.size
  obtain ⟨g, eg⟩ : ∃ g, w1.heap.size = g := ⟨_, rfl⟩
  rw [eg] at b0 b1 b2 f1 f2 s1 ⊢
  clear eg
  have hx := text_any g S W S a m c zs w2 (hr.same G2) (fun h0 e => by have := hab h0 g e; omega) b0 b1 b2 f1 f2 hS hm hW hmc
  clear b0 b1 b2 f1 f2 g1 g2
  go_wp2_with fail
  refine hx.mono ?_
  rintro e w3 ⟨a3, c3, rfl, ⟨ys, o3, HF3⟩, k0, k2, g3, _⟩
  rw [HSZ.out] at o3
  rw [HSZ.out]
  have G3 : w.grownBy w3 none := grown_trans G2 g3 (fun k hk => .inr (by cases hk; exact s1))
  clear hx g3 G2
  have hq1 : ((sz : Int) != (sz : Int)) = false := by simp
  go_wp2_with fail
  refine (cut_all g W S a m c n w3 k0 k2 hS hW HN.out hm).mono ?_
  rintro e w4 ⟨k, rfl, HC, g4⟩
  have G4 := grown_trans G3 g4 (by simp)
  have o4 := o3.same g4
  have hk := HC.le
  clear k0 k2 o3 g4 G3
  obtain ⟨hv, hhv⟩ : ∃ hv, LL (S + k) W - LL S W = hv := ⟨_, rfl⟩
  obtain ⟨hw, hhw⟩ : ∃ hw, LL (S + (k + 1)) W - LL S W = hw := ⟨_, rfl⟩
  have hv1 : hv ≤ n ∧ n ≤ hv + 1 ∧ n < hw := by
    have m1 := LL_mono W (show S ≤ S + k by omega)
    have m2 := LL_mono W (show S ≤ S + (k + 1) by omega)
    have h1 := HC.fits
    have h2 := HC.near
    have h3 := HC.next
    rw [Nat.add_assoc] at h3
    omega
  have HV : Hid (n = hv + 1 → Fd (S + k) W ∧ k < m) := hid (fun e => HC.feed (by
    have m1 := LL_mono W (show S ≤ S + k by omega)
    omega))
  have HV2 := hid hhv
  have HW := hid hhw
  obtain ⟨v1, v2, v3⟩ := hv1
  clear hhv hhw HC
  go_wp2_with fail
  refine (text_len W S a k c (zs.take k) w4 ((hr.same G4).take k hk) hS (by omega) hW (by omega) hv HV2.out).mono ?_
  rintro e w5 ⟨rfl, g5⟩
  have G5 := grown_trans G4 g5 (by simp)
  have o5 := o4.same g5
  clear G4 o4 g5
  go_wp2_with fail
  refine (feeds_all S W k w5 hS hW (by omega) hv HV2.out).mono ?_
  rintro e w6 ⟨F2, rfl, hF2, g6⟩
  have G6 := grown_trans G5 g6 (by simp)
  have o6 := o5.same g6
  clear G5 o5 g6
  have hF2' : ((k : Int) + (F2 : Int)) = (hv : Int) := by omega
  have hq2 : ((hv : Int) != (hv : Int)) = false := by simp
  clear hF2
  by_cases hone : n = hv + 1
  · obtain ⟨hfd, hkm'⟩ := HV.out hone
    have hten := HF3 k hkm' hfd
    rw [HV2.out] at hten
    obtain ⟨b, off, rfl, hc⟩ := o6.rd.cells (by omega)
    have hcell := hc hv (by omega)
    rw [hten] at hcell
    subst hone
    have hb1 : (((hv + 1 : Nat) : Int) - (hv : Int) == 1) = true := by simp; omega
    have hb2 : (((hv + 1 : Nat) : Int) - 1) = (hv : Int) := by omega
    clear hc hten hfd
    have hki : (k : Int) < (m : Int) := by omega
    go_wp2_with fail
    refine (text_len W S a (k + 1) c (zs.take (k + 1)) w6 ((hr.same G6).take (k + 1) (by omega)) hS (by omega) hW (by omega) hw HW.out).mono ?_
    rintro e w7 ⟨rfl, g7⟩
    have hwn : ¬ (hw : Int) ≤ ((hv + 1 : Nat) : Int) := by omega
    go_wp2
    go_ret
    exact ⟨rfl, ((Below.refl w.heap.size w).grown G6 (Nat.le_refl _) (by simp)).grown g7 G6.size (by simp)⟩
  · obtain rfl : n = hv := by omega
    have hb1 : ((n : Int) - (n : Int) == 1) = false := by simp
    by_cases hkm : k < m
    · have hki : (k : Int) < (m : Int) := by omega
      go_wp2_with fail
      refine (text_len W S a (k + 1) c (zs.take (k + 1)) w6 ((hr.same G6).take (k + 1) (by omega)) hS (by omega) hW (by omega) hw HW.out).mono ?_
      rintro e w7 ⟨rfl, g7⟩
      have hwn : ¬ (hw : Int) ≤ (n : Int) := by omega
      go_wp2
      go_ret
      exact ⟨rfl, ((Below.refl w.heap.size w).grown G6 (Nat.le_refl _) (by simp)).grown g7 G6.size (by simp)⟩
    · have hki : ¬ (k : Int) < (m : Int) := by omega
      go_wp2
      go_ret
      exact ⟨rfl, (Below.refl w.heap.size w).grown G6 (Nat.le_refl _) (by simp)⟩

theorem law7 (x y : Int) (a : Option Addr) (m c : Nat) (zs : List Int) (n : Int) (w : World) (hr : Rd w a m zs) (hmc : m ≤ c) (hm : m ≤ 9223372036854775807) :
    Calls Try.prog 7 #[.int .i64 x, .int .i64 y, .slice a m c, .int .i64 n] w fun e w' => e = .returned (.bool true) ∧ Below w.heap.size w w' := by
  by_cases hh : m ≤ 1048576 ∧ 0 ≤ x ∧ x ≤ 1073741824 ∧ 0 ≤ y ∧ y ≤ 2305843009213693952
  · obtain ⟨h1, h2, h3, h4, h5⟩ := hh
    obtain ⟨W, rfl⟩ := Int.eq_ofNat_of_zero_le h2
    obtain ⟨S, rfl⟩ := Int.eq_ofNat_of_zero_le h4
    by_cases h6 : 0 ≤ n ∧ n ≤ ((LL (S + m) W - LL S W : Nat) : Int)
    · obtain ⟨h7, h8⟩ := h6
      obtain ⟨n, rfl⟩ := Int.eq_ofNat_of_zero_le h7
      exact law7_go S W a m c zs n w hr hmc h1 (by omega) (by omega) (Int.ofNat_le.1 h8)
    · exact law7_mid S W a m c n w h1 (by omega) (by omega) h6
  · exact law7_early a m c x y n w hm hh

end Go.Proofs.Qxb6619168a
