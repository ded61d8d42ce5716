/-
  THE LAW FnToldOverlapsSplitsAtAnyCut, OUT OF THE CONTRACTS.
-/
import Derived.Test.Qxb6619152aLeft
import Derived.Test.Qxb6619152aGeo
import Derived.Deep.RegionHeld3
namespace Go.Proofs.Qxb6619152a
open Go.RowKit

theorem ovs_zero {w : World} {a : Option Addr} {os : Nat → Ov} : Ovs w a 0 os := ⟨fun h => absurd h (Nat.lt_irrefl 0)⟩

theorem told_gen (a : Option Addr) (n c : Nat) (os : Nat → Ov) (w : World) (h : Ovs w a n os) (hn : n ≤ 1048576) :
    Calls Try.prog 13 #[.slice a n c] w fun e w' => ∃ a', e = .returned (.slice a' n n) ∧ Ovs w' a' n os ∧ a'.isNone = ((n : Int) == 0) ∧ w.grownBy w' none := by
  by_cases h0 : n = 0
  · subst h0
    refine (zz_told_none a c w).mono ?_
    rintro e w' ⟨rfl, rfl⟩
    exact ⟨none, rfl, ovs_zero, rfl, World.grownBy.refl _ _⟩
  · refine (zz_told_some a n c os w h hn (by omega)).mono ?_
    rintro e w' ⟨g, rfl, ho, hg, _⟩
    exact ⟨_, rfl, ho, by simp; omega, hg⟩

theorem chk_gen (a : Option Addr) (n c : Nat) (os : Nat → Ov) (fs : Nat → Option Fl) (w : World) (h : Ovs w a n os) (hf : ∀ i, i < n → ExtAt w (os i).ext (fs i)) (hn : n ≤ 1048576) :
    Calls Try.prog 12 #[.slice a n c] w fun e w' => ∃ (a' : Option Addr) (xs : Nat → Option Addr), e = .returned (.slice a' n n) ∧ Ovs w' a' n (fun i => (os i).at (xs i)) ∧ (∀ i, i < n → ExtAt w' (xs i) (fs i)) ∧ w.grownBy w' none := by
  cases a with
  | none =>
    have hn0 : n = 0 := by
      by_cases h0 : 0 < n
      · obtain ⟨_, _, e, _⟩ := h.cells h0; cases e
      · omega
    subst hn0
    refine (chk_nil 0 c w).mono ?_
    rintro e w' ⟨rfl, rfl⟩
    exact ⟨none, fun _ => none, rfl, ovs_zero, fun i hi => by omega, World.grownBy.refl _ _⟩
  | some x =>
    refine (chk_some x n c os fs w h hf hn).mono ?_
    rintro e w' ⟨g, xs, rfl, ho, hx, hg, _⟩
    exact ⟨_, xs, rfl, ho, hx, hg⟩

theorem Ovs.take {w : World} {a : Option Addr} {n : Nat} {os : Nat → Ov} (h : Ovs w a n os) (k : Nat) (hk : k ≤ n) : Ovs w a k os := by
  refine ⟨fun h0 => ?_⟩
  obtain ⟨b, off, rfl, hc⟩ := h.cells (by omega)
  exact ⟨b, off, rfl, fun i hi => hc i (by omega)⟩

theorem Ovs.drop {w : World} {a a' : Option Addr} {n : Nat} {os : Nat → Ov} (h : Ovs w a n os) (k : Nat) (hk : k ≤ n) (ha : k < n → a' = a.map (fun x => x.add (k * 6))) : Ovs w a' (n - k) (fun i => os (k + i)) := by
  refine ⟨fun h0 => ?_⟩
  obtain ⟨b, off, rfl, hc⟩ := h.cells (by omega)
  refine ⟨b, off + k * 6, ?_, fun i hi => ?_⟩
  · rw [ha (by omega)]; simp [Addr.add]
  · have := hc (k + i) (by omega)
    rwa [show off + (k + i) * 6 = off + k * 6 + i * 6 by omega] at this

theorem ovs_at0 {w : World} {b n : Nat} {os : Nat → Ov} (h : Ovs w (some ⟨b, 0, none⟩) n os) (h0 : 0 < n) : ∀ j, j < n → OvAt w b (j * 6) (os j) := by
  obtain ⟨b', off, e, hc⟩ := h.cells h0
  cases e
  exact fun j hj => by simpa using hc j hj

/-- Two pointers that are one are equal, at whatever depth. -/
theorem same_ptr (p : Option Addr) (d : Nat) (w : World) : (Op.equalIn (d + 1) 38 (.pointer p) (.pointer p)).run Try.prog w = .ok true w := by
  obtain ⟨i0, hi, _, _, _⟩ := info_parts info94
  cases p with
  | none => simp [Op.equalIn, run_underlying Try.underlying38]
  | some a => simp [Op.equalIn, run_underlying Try.underlying38, sizeOf, typeInfo, hi, run_sameAddr_same]

set_option maxHeartbeats 2000000 in
set_option maxRecDepth 100000 in
theorem law4 (a : Option Addr) (n c : Nat) (os : Nat → Ov) (fs : Nat → Option Fl) (i : Int) (w : World) (h : Ovs w a n os) (hf : ∀ j, j < n → ExtAt w (os j).ext (fs j)) (hsz : Short n os) (hn : n ≤ 9223372036854775807) (hi : -9223372036854775808 ≤ i ∧ i ≤ 9223372036854775807) :
    Calls Try.prog 4 #[.slice a n c, .int .i64 i] w fun e w' => e = .returned (.bool true) ∧ Below w.heap.size w w' := by
  go_enter Try.func4, Try.ntmps4
  go_wp2_with fail
  refine (zzb10 a n c os i w h hsz hn).mono ?_
  rintro e w' ⟨⟨b, rfl, hb⟩, rfl⟩
  cases b
  · go_wp2
    go_ret
    exact ⟨rfl, Below.refl _ _⟩
  · have hn2 := hb rfl
    clear hb
    go_wp2_with fail
    refine (left_any a n c os 1048576 w h hsz hn2 (by omega) (by omega)).mono ?_
    rintro e w' ⟨q, rfl, q0, q1, rfl⟩
    by_cases hq : q < 0
    · go_wp2
      go_ret
      exact ⟨rfl, Below.refl _ _⟩
    · by_cases hi0 : i < 0
      · go_wp2
        go_ret
        exact ⟨rfl, Below.refl _ _⟩
      · by_cases hin : (n : Int) < i
        · go_wp2
          go_ret
          exact ⟨rfl, Below.refl _ _⟩
        · obtain ⟨i, rfl⟩ := Int.eq_ofNat_of_zero_le (show 0 ≤ i by omega)
          have hqn := fun (x : Option Addr) (m d : Nat) wx => Lib.run_eql_slice_nil (P := Try.prog) wx 34 40 x m d 0 0 Try.underlying34
          by_cases hn0 : n = 0
          · subst hn0
            obtain rfl : i = 0 := by omega
            go_wp2_with fail
            refine (chk_gen a 0 c os fs w h hf hn2).mono ?_
            rintro e w1 ⟨a1, xs, rfl, _, _, g1⟩
            go_wp2_with fail
            refine (zz_told_none _ _ w1).mono ?_
            rintro e w' ⟨rfl, rfl⟩
            go_wp2_with fail
            refine (zz_told_none _ _ w1).mono ?_
            rintro e w' ⟨rfl, rfl⟩
            go_wp2_with fail
            refine (zz_told_none _ _ w1).mono ?_
            rintro e w' ⟨rfl, rfl⟩
            have bel := (Below.refl w.heap.size w).grown g1 (Nat.le_refl _) (by simp)
            go_wp2_with fail
            refine wp_loop_rounds 1 ?_
            rw [rounds_succ]
            go_wp2
            refine wp_loop_rounds 1 ?_
            rw [rounds_succ]
            go_wp2
            refine wp_loop_rounds 1 ?_
            rw [rounds_succ]
            go_wp2
            go_ret
            exact ⟨rfl, bel⟩
          · obtain ⟨b0, f0, ea, d0⟩ := h.cells (by omega)
            subst ea
            go_wp2_with fail
            refine (chk_some _ n c os fs w h hf hn2).mono ?_
            rintro e w1 ⟨b1, xs, rfl, o1, x1, g1, _⟩
            go_wp2_with fail
            refine (zz_told_some _ n n _ w1 o1 hn2 (by omega)).mono ?_
            rintro e w2 ⟨b2, rfl, o2, g2, _⟩
            go_wp2_with fail
            by_cases hii : i = n
            · subst hii
              refine (told_gen _ i i _ w2 (o1.same g2) (by omega)).mono ?_
              rintro e w3 ⟨a3, rfl, o3, z3, g3⟩
              go_wp2_with fail
              refine (zz_told_none _ _ w3).mono ?_
              rintro e w3 ⟨rfl, rfl⟩
              have g4 := World.grownBy.refl w3 none
              have z2 : ((i : Int) == 0) = false := by rw [beq_eq_false_iff_ne]; omega
              have G4 := grown_trans (grown_trans (grown_trans g1 g2 (by simp)) g3 (by simp)) g4 (by simp)
              have d1 := ovs_at0 (((o1.same g2).same g3).same g4) (by omega)
              have d2 := ovs_at0 ((o2.same g3).same g4) (by omega)
              have o3' := o3.same g4
              have x1' : ∀ j, j < i → ExtAt w3 (xs j) (fs j) := fun j hj => (((x1 j hj).same g2).same g3).same g4
              have d0 : ∀ j, j < i → OvAt w3 b0 (f0 + j * 6) (os j) := fun j hj => (d0 j hj).kept G4 (by simp)
              have hf4 : ∀ j, j < i → ExtAt w3 (os j).ext (fs j) := fun j hj => (hf j hj).same G4
              have bel4 := (Below.refl w.heap.size w).grown G4 (Nat.le_refl _) (by simp)
              clear o1 o2 o3 x1 g1 g2 g3 g4 G4 hsz hf h hn0
              go_wp2_with fail
              go_loopw [9] (fun t wr => ∃ k : Nat, k ≤ i ∧ t = .int .i64 k ∧ w3.grownBy wr none) (fun t _ => i - (intOf t).toNat)
              case atStart => exact ⟨0, Nat.zero_le _, rfl, World.grownBy.refl _ _⟩
              case round =>
                obtain ⟨k, hk, rfl, hg⟩ := hrel
                by_cases hkn : k < i
                · obtain ⟨p0, p1, p2, p3, p4, p5⟩ := (d0 k hkn).kept hg (by simp)
                  obtain ⟨_, _, _, r3, _, _⟩ := (d1 k hkn).kept hg (by simp)
                  obtain ⟨s0, s1, s2, s3, s4, s5⟩ := (d2 k hkn).kept hg (by simp)
                  simp only [Ov.at] at r3 s0 s1 s2 s3 s4 s5
                  have e1 := (x1' k hkn).same hg
                  have e2 := (hf4 k hkn).same hg
                  have hi0 : (0 : Int) ≤ (k : Int) := by omega
                  have hi1 : (k : Int) < (i : Int) := by omega
                  clear d0 d1 d2 o3' hf4 x1'
                  rcases e1 with ⟨q1, q2⟩ | ⟨eb, eo, fl, q1, q2, hfl⟩
                  · rcases e2 with ⟨q3, _⟩ | ⟨_, _, _, _, q4, _⟩
                    · rw [q1] at r3 s3
                      rw [q3] at p3
                      clear q1 q2 q3
                      go_wp2
                      go_region_held3 (fun w' => w'.cell? ⟨b0, f0 + k * 6, none⟩ = some (.string (os k).key) ∧ w'.cell? ⟨b0, f0 + k * 6 + 1, none⟩ = some (.string (os k).wth) ∧ w'.cell? ⟨b0, f0 + k * 6 + 2, none⟩ = some (.int .u64 (os k).ver) ∧ w'.cell? ⟨b0, f0 + k * 6 + 3, none⟩ = some (.pointer none) ∧ w'.cell? ⟨b0, f0 + k * 6 + 4, none⟩ = some (.bool (os k).abs) ∧ w'.cell? ⟨b0, f0 + k * 6 + 5, none⟩ = some (.int .i64 (os k).more) ∧ w'.cell? ⟨b1, k * 6 + 3, none⟩ = some (.pointer none) ∧ w'.cell? ⟨b2, k * 6, none⟩ = some (.string (os k).key) ∧ w'.cell? ⟨b2, k * 6 + 1, none⟩ = some (.string (os k).wth) ∧ w'.cell? ⟨b2, k * 6 + 2, none⟩ = some (.int .u64 (os k).ver) ∧ w'.cell? ⟨b2, k * 6 + 3, none⟩ = some (.pointer none) ∧ w'.cell? ⟨b2, k * 6 + 4, none⟩ = some (.bool (os k).abs) ∧ w'.cell? ⟨b2, k * 6 + 5, none⟩ = some (.int .i64 (os k).more))
                        (first | go_keep | exact ⟨hgg.cell p0 (by simp), hgg.cell p1 (by simp), hgg.cell p2 (by simp), hgg.cell p3 (by simp), hgg.cell p4 (by simp), hgg.cell p5 (by simp), hgg.cell r3 (by simp), hgg.cell s0 (by simp), hgg.cell s1 (by simp), hgg.cell s2 (by simp), hgg.cell s3 (by simp), hgg.cell s4 (by simp), hgg.cell s5 (by simp)⟩)
                        (first | (go_at_call 14; refine (toldas_nil (os k) _).mono ?_; rintro e w5 ⟨rfl, hgg⟩))
                      go_wp2
                      go_roundw
                      case rel => exact ⟨k + 1, by omega, by go_num, grown_trans (grown_trans hg (grown_drew _) (by simp)) hgg (by simp)⟩
                      case measure => simp [intOf]; omega
                    · rw [q2] at q4; cases q4
                  · rcases e2 with ⟨_, q3⟩ | ⟨eb', eo', fl', q3, q4, hfl'⟩
                    · rw [q2] at q3; cases q3
                    · have hff : fl' = fl := by rw [q2] at q4; cases q4; rfl
                      subst hff
                      rw [q1] at r3 s3
                      rw [q3] at p3
                      clear q1 q2 q3 q4
                      go_wp2
                      go_region_held3 (fun w' => w'.cell? ⟨b0, f0 + k * 6, none⟩ = some (.string (os k).key) ∧ w'.cell? ⟨b0, f0 + k * 6 + 1, none⟩ = some (.string (os k).wth) ∧ w'.cell? ⟨b0, f0 + k * 6 + 2, none⟩ = some (.int .u64 (os k).ver) ∧ w'.cell? ⟨b0, f0 + k * 6 + 3, none⟩ = some (.pointer (some ⟨eb', eo', none⟩)) ∧ w'.cell? ⟨b0, f0 + k * 6 + 4, none⟩ = some (.bool (os k).abs) ∧ w'.cell? ⟨b0, f0 + k * 6 + 5, none⟩ = some (.int .i64 (os k).more) ∧ w'.cell? ⟨b1, k * 6 + 3, none⟩ = some (.pointer (some ⟨eb, eo, none⟩)) ∧ w'.cell? ⟨b2, k * 6, none⟩ = some (.string (os k).key) ∧ w'.cell? ⟨b2, k * 6 + 1, none⟩ = some (.string (os k).wth) ∧ w'.cell? ⟨b2, k * 6 + 2, none⟩ = some (.int .u64 (os k).ver) ∧ w'.cell? ⟨b2, k * 6 + 3, none⟩ = some (.pointer (some ⟨eb, eo, none⟩)) ∧ w'.cell? ⟨b2, k * 6 + 4, none⟩ = some (.bool (os k).abs) ∧ w'.cell? ⟨b2, k * 6 + 5, none⟩ = some (.int .i64 (os k).more))
                        (first | go_keep | exact ⟨hgg.cell p0 (by simp), hgg.cell p1 (by simp), hgg.cell p2 (by simp), hgg.cell p3 (by simp), hgg.cell p4 (by simp), hgg.cell p5 (by simp), hgg.cell r3 (by simp), hgg.cell s0 (by simp), hgg.cell s1 (by simp), hgg.cell s2 (by simp), hgg.cell s3 (by simp), hgg.cell s4 (by simp), hgg.cell s5 (by simp)⟩)
                        (first | (go_at_call 14; refine (toldas_some (os k) eb eo eb' eo' _ _ (by exact hfl) (by exact hfl')).mono ?_; rintro e w5 ⟨rfl, hgg⟩))
                      go_wp2
                      go_roundw
                      case rel => exact ⟨k + 1, by omega, by go_num, grown_trans (grown_trans hg (grown_drew _) (by simp)) hgg (by simp)⟩
                      case measure => simp [intOf]; omega
                · have d2' : ∀ j, j < i → OvAt wr b2 (j * 6) ((os j).at (xs j)) := fun j hj => (d2 j hj).kept hg (by simp)
                  have o3'' := o3'.same hg
                  have bel5 := bel4.grown hg bel4.size (by simp)
                  clear d0 d1 d2 o3' hf4 x1' bel4 hg
                  generalize wr = w5 at *
                  go_wp2_with fail
                  go_loopw [10] (fun t wr => ∃ k : Nat, k ≤ i ∧ t = .int .i64 k ∧ w5.grownBy wr none) (fun t _ => i - (intOf t).toNat)
                  case atStart => exact ⟨0, Nat.zero_le _, rfl, World.grownBy.refl _ _⟩
                  case round =>
                    obtain ⟨k, hk, rfl, hg⟩ := hrel
                    by_cases hkn : k < i
                    · obtain ⟨b3, f3, rfl, d3⟩ := o3''.cells (by omega)
                      obtain ⟨s0, s1, s2, s3, s4, s5⟩ := (d2' k (by omega)).kept hg (by simp)
                      obtain ⟨t0, t1, t2, t3, t4, t5⟩ := (d3 k hkn).kept hg (by simp)
                      have hi0 : (0 : Int) ≤ (k : Int) := by omega
                      have hi1 : (k : Int) < (i : Int) := by omega
                      have hi2 : (k : Int) < (i : Int) := by omega
                      have hpe := same_ptr ((os k).at (xs k)).ext
                      clear d2' d3 o3'' bel5
                      generalize (os k).at (xs k) = X at *
                      go_wp2
                      go_quiet (fail)
                      go_wp2
                      go_roundw
                      case rel => exact ⟨k + 1, by omega, by go_num, grown_trans hg (grown_drewN _ _) (by simp)⟩
                      case measure => simp [intOf]; omega
                    · have d2'' : ∀ j, j < i → OvAt wr b2 (j * 6) ((os j).at (xs j)) := fun j hj => (d2' j hj).kept hg (by simp)
                      have bel6 := bel5.grown hg bel5.size (by simp)
                      clear d2' o3'' bel5 hg
                      generalize wr = w6 at *
                      go_wp2_with fail
                      refine wp_loop_rounds 1 ?_
                      rw [rounds_succ]
                      go_wp2
                      go_ret
                      exact ⟨rfl, bel6⟩
            · have hlt : i < n := by omega
              refine (told_gen _ i n _ w2 ((o1.same g2).take i (by omega)) (by omega)).mono ?_
              rintro e w3 ⟨a3, rfl, o3, z3, g3⟩
              go_wp2_with fail
              refine (told_gen _ (n - i) (n - i) _ w3 (((o1.same g2).same g3).drop i (by omega) (fun _ => by simp [Addr.add_lit])) (by omega)).mono ?_
              rintro e w4 ⟨a4, rfl, o4, z4, g4⟩
              have z2 : ((n : Int) == 0) = false := by rw [beq_eq_false_iff_ne]; omega
              have G4 := grown_trans (grown_trans (grown_trans g1 g2 (by simp)) g3 (by simp)) g4 (by simp)
              have d1 := ovs_at0 (((o1.same g2).same g3).same g4) (by omega)
              have d2 := ovs_at0 ((o2.same g3).same g4) (by omega)
              have o3' := o3.same g4
              have x1' : ∀ j, j < n → ExtAt w4 (xs j) (fs j) := fun j hj => (((x1 j hj).same g2).same g3).same g4
              have d0 : ∀ j, j < n → OvAt w4 b0 (f0 + j * 6) (os j) := fun j hj => (d0 j hj).kept G4 (by simp)
              have hf4 : ∀ j, j < n → ExtAt w4 (os j).ext (fs j) := fun j hj => (hf j hj).same G4
              have bel4 := (Below.refl w.heap.size w).grown G4 (Nat.le_refl _) (by simp)
              have z4' : a4.isNone = ((i : Int) == (n : Int)) := by rw [z4, Bool.eq_iff_iff]; simp; omega
              have zin : ((i : Int) == (n : Int)) = false := by rw [beq_eq_false_iff_ne]; omega
              have hsum : ((i : Int) + ((n - i : Nat) : Int) != (n : Int)) = false := by rw [bne_eq_false_iff_eq]; omega
              clear o1 o2 o3 x1 g1 g2 g3 g4 G4 hsz hf h hn0 hii z4
              go_wp2_with fail
              go_loopw [9] (fun t wr => ∃ k : Nat, k ≤ n ∧ t = .int .i64 k ∧ w4.grownBy wr none) (fun t _ => n - (intOf t).toNat)
              case atStart => exact ⟨0, Nat.zero_le _, rfl, World.grownBy.refl _ _⟩
              case round =>
                obtain ⟨k, hk, rfl, hg⟩ := hrel
                by_cases hkn : k < n
                · obtain ⟨p0, p1, p2, p3, p4, p5⟩ := (d0 k hkn).kept hg (by simp)
                  obtain ⟨_, _, _, r3, _, _⟩ := (d1 k hkn).kept hg (by simp)
                  obtain ⟨s0, s1, s2, s3, s4, s5⟩ := (d2 k hkn).kept hg (by simp)
                  simp only [Ov.at] at r3 s0 s1 s2 s3 s4 s5
                  have e1 := (x1' k hkn).same hg
                  have e2 := (hf4 k hkn).same hg
                  have hi0 : (0 : Int) ≤ (k : Int) := by omega
                  have hi1 : (k : Int) < (n : Int) := by omega
                  clear d0 d1 d2 o3' o4 hf4 x1'
                  rcases e1 with ⟨q1, q2⟩ | ⟨eb, eo, fl, q1, q2, hfl⟩
                  · rcases e2 with ⟨q3, _⟩ | ⟨_, _, _, _, q4, _⟩
                    · rw [q1] at r3 s3
                      rw [q3] at p3
                      clear q1 q2 q3
                      go_wp2
                      go_region_held3 (fun w' => w'.cell? ⟨b0, f0 + k * 6, none⟩ = some (.string (os k).key) ∧ w'.cell? ⟨b0, f0 + k * 6 + 1, none⟩ = some (.string (os k).wth) ∧ w'.cell? ⟨b0, f0 + k * 6 + 2, none⟩ = some (.int .u64 (os k).ver) ∧ w'.cell? ⟨b0, f0 + k * 6 + 3, none⟩ = some (.pointer none) ∧ w'.cell? ⟨b0, f0 + k * 6 + 4, none⟩ = some (.bool (os k).abs) ∧ w'.cell? ⟨b0, f0 + k * 6 + 5, none⟩ = some (.int .i64 (os k).more) ∧ w'.cell? ⟨b1, k * 6 + 3, none⟩ = some (.pointer none) ∧ w'.cell? ⟨b2, k * 6, none⟩ = some (.string (os k).key) ∧ w'.cell? ⟨b2, k * 6 + 1, none⟩ = some (.string (os k).wth) ∧ w'.cell? ⟨b2, k * 6 + 2, none⟩ = some (.int .u64 (os k).ver) ∧ w'.cell? ⟨b2, k * 6 + 3, none⟩ = some (.pointer none) ∧ w'.cell? ⟨b2, k * 6 + 4, none⟩ = some (.bool (os k).abs) ∧ w'.cell? ⟨b2, k * 6 + 5, none⟩ = some (.int .i64 (os k).more))
                        (first | go_keep | exact ⟨hgg.cell p0 (by simp), hgg.cell p1 (by simp), hgg.cell p2 (by simp), hgg.cell p3 (by simp), hgg.cell p4 (by simp), hgg.cell p5 (by simp), hgg.cell r3 (by simp), hgg.cell s0 (by simp), hgg.cell s1 (by simp), hgg.cell s2 (by simp), hgg.cell s3 (by simp), hgg.cell s4 (by simp), hgg.cell s5 (by simp)⟩)
                        (first | (go_at_call 14; refine (toldas_nil (os k) _).mono ?_; rintro e w5 ⟨rfl, hgg⟩))
                      go_wp2
                      go_roundw
                      case rel => exact ⟨k + 1, by omega, by go_num, grown_trans (grown_trans hg (grown_drew _) (by simp)) hgg (by simp)⟩
                      case measure => simp [intOf]; omega
                    · rw [q2] at q4; cases q4
                  · rcases e2 with ⟨_, q3⟩ | ⟨eb', eo', fl', q3, q4, hfl'⟩
                    · rw [q2] at q3; cases q3
                    · have hff : fl' = fl := by rw [q2] at q4; cases q4; rfl
                      subst hff
                      rw [q1] at r3 s3
                      rw [q3] at p3
                      clear q1 q2 q3 q4
                      go_wp2
                      go_region_held3 (fun w' => w'.cell? ⟨b0, f0 + k * 6, none⟩ = some (.string (os k).key) ∧ w'.cell? ⟨b0, f0 + k * 6 + 1, none⟩ = some (.string (os k).wth) ∧ w'.cell? ⟨b0, f0 + k * 6 + 2, none⟩ = some (.int .u64 (os k).ver) ∧ w'.cell? ⟨b0, f0 + k * 6 + 3, none⟩ = some (.pointer (some ⟨eb', eo', none⟩)) ∧ w'.cell? ⟨b0, f0 + k * 6 + 4, none⟩ = some (.bool (os k).abs) ∧ w'.cell? ⟨b0, f0 + k * 6 + 5, none⟩ = some (.int .i64 (os k).more) ∧ w'.cell? ⟨b1, k * 6 + 3, none⟩ = some (.pointer (some ⟨eb, eo, none⟩)) ∧ w'.cell? ⟨b2, k * 6, none⟩ = some (.string (os k).key) ∧ w'.cell? ⟨b2, k * 6 + 1, none⟩ = some (.string (os k).wth) ∧ w'.cell? ⟨b2, k * 6 + 2, none⟩ = some (.int .u64 (os k).ver) ∧ w'.cell? ⟨b2, k * 6 + 3, none⟩ = some (.pointer (some ⟨eb, eo, none⟩)) ∧ w'.cell? ⟨b2, k * 6 + 4, none⟩ = some (.bool (os k).abs) ∧ w'.cell? ⟨b2, k * 6 + 5, none⟩ = some (.int .i64 (os k).more))
                        (first | go_keep | exact ⟨hgg.cell p0 (by simp), hgg.cell p1 (by simp), hgg.cell p2 (by simp), hgg.cell p3 (by simp), hgg.cell p4 (by simp), hgg.cell p5 (by simp), hgg.cell r3 (by simp), hgg.cell s0 (by simp), hgg.cell s1 (by simp), hgg.cell s2 (by simp), hgg.cell s3 (by simp), hgg.cell s4 (by simp), hgg.cell s5 (by simp)⟩)
                        (first | (go_at_call 14; refine (toldas_some (os k) eb eo eb' eo' _ _ (by exact hfl) (by exact hfl')).mono ?_; rintro e w5 ⟨rfl, hgg⟩))
                      go_wp2
                      go_roundw
                      case rel => exact ⟨k + 1, by omega, by go_num, grown_trans (grown_trans hg (grown_drew _) (by simp)) hgg (by simp)⟩
                      case measure => simp [intOf]; omega
                · have d2' : ∀ j, j < n → OvAt wr b2 (j * 6) ((os j).at (xs j)) := fun j hj => (d2 j hj).kept hg (by simp)
                  have o3'' := o3'.same hg
                  have o4' := o4.same hg
                  have bel5 := bel4.grown hg bel4.size (by simp)
                  clear d0 d1 d2 o3' o4 hf4 x1' bel4 hg
                  generalize wr = w5 at *
                  go_wp2_with fail
                  go_loopw [10] (fun t wr => ∃ k : Nat, k ≤ i ∧ t = .int .i64 k ∧ w5.grownBy wr none) (fun t _ => i - (intOf t).toNat)
                  case atStart => exact ⟨0, Nat.zero_le _, rfl, World.grownBy.refl _ _⟩
                  case round =>
                    obtain ⟨k, hk, rfl, hg⟩ := hrel
                    by_cases hkn : k < i
                    · obtain ⟨b3, f3, rfl, d3⟩ := o3''.cells (by omega)
                      obtain ⟨s0, s1, s2, s3, s4, s5⟩ := (d2' k (by omega)).kept hg (by simp)
                      obtain ⟨t0, t1, t2, t3, t4, t5⟩ := (d3 k hkn).kept hg (by simp)
                      have hi0 : (0 : Int) ≤ (k : Int) := by omega
                      have hi1 : (k : Int) < (i : Int) := by omega
                      have hi2 : (k : Int) < (n : Int) := by omega
                      have hpe := same_ptr ((os k).at (xs k)).ext
                      clear d2' d3 o3'' o4' bel5
                      generalize (os k).at (xs k) = X at *
                      go_wp2
                      go_quiet (fail)
                      go_wp2
                      go_roundw
                      case rel => exact ⟨k + 1, by omega, by go_num, grown_trans hg (grown_drewN _ _) (by simp)⟩
                      case measure => simp [intOf]; omega
                    · have d2'' : ∀ j, j < n → OvAt wr b2 (j * 6) ((os j).at (xs j)) := fun j hj => (d2' j hj).kept hg (by simp)
                      have o4'' := o4'.same hg
                      have bel6 := bel5.grown hg bel5.size (by simp)
                      clear d2' o3'' o4' bel5 hg
                      generalize wr = w6 at *
                      go_wp2_with fail
                      go_loopw [11] (fun t wr => ∃ k : Nat, k ≤ n - i ∧ t = .int .i64 k ∧ w6.grownBy wr none) (fun t _ => n - i - (intOf t).toNat)
                      case atStart => exact ⟨0, Nat.zero_le _, rfl, World.grownBy.refl _ _⟩
                      case round =>
                        obtain ⟨k, hk, rfl, hg⟩ := hrel
                        by_cases hkn : k < n - i
                        · obtain ⟨b4, f4, rfl, d4⟩ := o4''.cells (by omega)
                          obtain ⟨s0, s1, s2, s3, s4, s5⟩ := (d2'' (i + k) (by omega)).kept hg (by simp)
                          obtain ⟨t0, t1, t2, t3, t4, t5⟩ := (d4 k hkn).kept hg (by simp)
                          have hi0 : (0 : Int) ≤ (k : Int) := by omega
                          have hi1 : (k : Int) < ((n - i : Nat) : Int) := by omega
                          have hi2 : (i : Int) + (k : Int) < (n : Int) := by omega
                          have hi3 : (0 : Int) ≤ (i : Int) + (k : Int) := by omega
                          have hpe := same_ptr ((os (i + k)).at (xs (i + k))).ext
                          clear d2'' d4 o4'' bel6
                          generalize (os (i + k)).at (xs (i + k)) = X at *
                          go_wp2
                          go_quiet (fail)
                          go_wp2
                          go_roundw
                          case rel => exact ⟨k + 1, by omega, by go_num, grown_trans hg (grown_drewN _ _) (by simp)⟩
                          case measure => simp [intOf]; omega
                        · go_wp2
                          go_ret
                          exact ⟨rfl, bel6.grown hg bel6.size (by simp)⟩

end Go.Proofs.Qxb6619152a
