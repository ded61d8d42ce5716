/-
  THE LAW FnLowerHexDigitReadsAppendDigits, OUT OF THE CONTRACTS.
-/
import Derived.Test.Qxb6618065aLaw3
namespace Go.Proofs.Qxb6618065a
open Go.RowKit

theorem zzb12_yes (a : Option Addr) (n c : Nat) (x y : Int) (w : World) (h : n ≤ 1048576) : Calls Try.prog 12 #[.slice a n c, .int .i64 x, .int .i64 y] w fun e w' => e = .returned (.bool true) ∧ w = w' := by
  go_enter Try.func12, Try.ntmps12
  go_wp2
  go_ret
  exact ⟨rfl, rfl⟩

theorem zzb12_no (a : Option Addr) (n c : Nat) (x y : Int) (w : World) (h : 1048576 < n) : Calls Try.prog 12 #[.slice a n c, .int .i64 x, .int .i64 y] w fun e w' => e = .returned (.bool false) ∧ w = w' := by
  go_enter Try.func12, Try.ntmps12
  go_wp2
  go_ret
  exact ⟨rfl, rfl⟩

theorem hex_any (x : Int) (w : World) (h0 : 48 ≤ x) (h1 : x ≤ 57) : Calls Try.prog 13 #[.int .u8 x] w fun e w' => e = .returned (.tuple #[.int .u8 (x - 48), .bool true]) ∧ w = w' := by
  go_enter Try.func13, Try.ntmps13
  go_wp2
  go_ret2
  exact ⟨rfl, rfl⟩

theorem getD_tail (zs ds : List Int) (n k : Nat) (h : zs.length = n) : (zs ++ ds).getD (n + k) 0 = ds.getD k 0 := by
  subst h
  simp only [List.getD]
  rw [List.getElem?_append_right (by omega), show zs.length + k - zs.length = k by omega]

set_option maxHeartbeats 1000000 in
theorem law4 (a : Option Addr) (n c : Nat) (zs : List Int) (v N : Int) (w : World) (h : Rd w a n zs) (hn : n ≤ 9223372036854775807) (hv2 : -9223372036854775808 ≤ v ∧ v ≤ 9223372036854775807) (hN : -9223372036854775808 ≤ N ∧ N ≤ 9223372036854775807) :
    Calls Try.prog 4 #[.slice a n c, .int .i64 v, .int .i64 N] w fun e w' => e = .returned (.bool true) ∧ Below w.heap.size w w' := by
  by_cases c1 : n ≤ 1048576
  · by_cases c2 : n ≤ 65536
    · by_cases c3 : N < 0
      · go_enter Try.func4, Try.ntmps4
        go_wp2_with (go_at_call 12; refine (zzb12_yes _ _ _ _ _ _ (by omega)).mono ?_; rintro e w' ⟨rfl, rfl⟩)
        go_ret
        exact ⟨rfl, Below.refl _ _⟩
      · by_cases c4 : 6 < N
        · go_enter Try.func4, Try.ntmps4
          go_wp2_with (go_at_call 12; refine (zzb12_yes _ _ _ _ _ _ (by omega)).mono ?_; rintro e w' ⟨rfl, rfl⟩)
          go_ret
          exact ⟨rfl, Below.refl _ _⟩
        · by_cases c7 : v < 0
          · go_enter Try.func4, Try.ntmps4
            go_wp2_with (go_at_call 12; refine (zzb12_yes _ _ _ _ _ _ (by omega)).mono ?_; rintro e w' ⟨rfl, rfl⟩)
            go_ret
            exact ⟨rfl, Below.refl _ _⟩
          · obtain ⟨N, rfl⟩ := Int.eq_ofNat_of_zero_le (show 0 ≤ N by omega)
            go_enter Try.func4, Try.ntmps4
            go_wp2_with (go_at_call 12; refine (zzb12_yes _ _ _ _ _ _ (by omega)).mono ?_; rintro e w' ⟨rfl, rfl⟩)
            refine (clone_any a n c zs w h (by omega)).mono ?_
            rintro e w1 ⟨a1, c1, rfl, o1, g1, _, b1⟩
            go_wp2_with fail
            refine (clone_any a1 n c1 zs w1 o1.rd (by omega)).mono ?_
            rintro e w2 ⟨a2, c2, rfl, o2, g2, _, b2⟩
            go_wp2_with fail
            refine (zz_digits a1 n c1 zs v N w2 (o1.same g2) (by omega) (by omega) (by omega) (by omega) (by omega)).mono ?_
            rintro e w5 ⟨a5, c5, rfl, o5, g5, b5⟩
            rw [Int.toNat_natCast] at o5 ⊢
            have s1 := g1.size
            have s2 := g2.size
            have s5 := g5.size
            have o2' := o2.kept g5 (apart fun k h1 h2 => by have := b2 k h1; have := b1 k h2; omega)
            have bel : Below w.heap.size w w5 := (((Below.refl w.heap.size w).grown g1 (by omega) (by simp)).grown g2 (by omega) (by simp)).grown g5 (by omega) (fun k hk => by have := b1 k hk; omega)
            have hcap : n + N ≤ c5 := o5.le
            clear o1 o2 g1 g2 g5 b1 b2 b5 s1 s2 s5
            go_wp2_with fail
            have HE : decide ((zs ++ digs v N).take n = zs) = true := by
              rw [decide_eq_true_eq, ← h.len, List.take_left]
            refine (same_any a5 a2 n c5 n c2 _ _ w5 (o5.rd.take n (by omega)) o2'.rd (by omega) (by omega)).mono ?_
            rintro e w9 ⟨rfl, g9⟩
            rw [HE]
            clear HE o2'
            have o9 := o5.same g9
            have hp2 := p10_pos N
            have hmod : Hid (horner 0 (digs v N) = v % p10 N) := horner_digs N v
            have bel9 := bel.grown g9 (by have := bel.size; omega) (by simp)
            have hl := h.len
            have hdl := digs_length N v
            clear o5 g9 bel h
            go_wp2_with fail
            go_loop [10, 11] (fun t i => ∃ k : Nat, k ≤ N ∧ i = .int .i64 ((n + k : Nat) : Int) ∧ t = .int .i64 (horner 0 ((digs v N).take k))) (fun _ i => n + N - (intOf i).toNat)
            case atStart => exact ⟨0, Nat.zero_le _, by simp, rfl⟩
            case round =>
              obtain ⟨k, hk, rfl, rfl⟩ := hrel
              by_cases hlt : k < N
              · obtain ⟨g, off, rfl, hc⟩ := o9.rd.cells (by omega)
                have hck := hc (n + k) (by omega)
                rw [getD_tail zs (digs v N) n k hl] at hck
                have hb := horner_take_bound (digs v N) k (by omega) (by omega) (fun z hz => digs_wf _ _ z hz)
                have HT : Hid (_ = _) := horner_take (digs v N) k (by omega)
                have hzk := digs_wf _ _ _ (getD_mem (zs := digs v N) (k := k) (by omega))
                clear hc hl hdl hmod o9
                generalize horner 0 ((digs v N).take k) = t at *
                generalize (digs v N).getD k 0 = x at *
                go_wp2_with (go_at_call 13; refine (hex_any _ _ (by omega) (by omega)).mono ?_; rintro e w' ⟨rfl, rfl⟩)
                go_round
                case rel => exact ⟨k + 1, by omega, by go_num, by rw [HT.out]⟩
                case measure => simp [intOf]; omega
              · have hkN : k = N := by omega
                have he : (horner 0 ((digs v N).take k) == v % p10 N) = true := by rw [List.take_of_length_le (by omega), hmod.out]; simp
                clear hdl
                subst hkN
                go_wp2_with (go_at_call 9; refine (pow_any _ (by omega) (by omega) _).mono ?_; rintro e w' ⟨rfl, rfl⟩)
                go_ret
                exact ⟨rfl, bel9⟩
    · go_enter Try.func4, Try.ntmps4
      go_wp2_with (go_at_call 12; refine (zzb12_yes _ _ _ _ _ _ (by omega)).mono ?_; rintro e w' ⟨rfl, rfl⟩)
      go_ret
      exact ⟨rfl, Below.refl _ _⟩
  · go_enter Try.func4, Try.ntmps4
    go_wp2_with (go_at_call 12; refine (zzb12_no _ _ _ _ _ _ (by omega)).mono ?_; rintro e w' ⟨rfl, rfl⟩)
    go_ret
    exact ⟨rfl, Below.refl _ _⟩

end Go.Proofs.Qxb6618065a
