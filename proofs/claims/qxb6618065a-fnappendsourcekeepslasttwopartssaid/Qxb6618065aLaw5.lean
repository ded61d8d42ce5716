/-
  THE LAW FnAppendSourceKeepsLastTwoParts, OUT OF THE CONTRACTS.
-/
import Derived.Test.Qxb6618065aSource
import Derived.Test.Qxb6618065aLaw3
import Derived.Deep.RegionWith
import Derived.Deep.DeepCutAuto
namespace Go.Proofs.Qxb6618065a
open Go.RowKit

theorem zzb14_yes (a : Option Addr) (n c : Nat) (b : Option Addr) (m d : Nat) (w : World) (h : n ≤ 65536) (h2 : m ≤ 65536) : Calls Try.prog 14 #[.slice a n c, .slice b m d] w fun e w' => e = .returned (.bool true) ∧ w = w' := by
  go_enter Try.func14, Try.ntmps14
  go_wp2
  go_ret
  exact ⟨rfl, rfl⟩

theorem zzb14_any (a : Option Addr) (n c : Nat) (b : Option Addr) (m d : Nat) (w : World) (h : n ≤ 9223372036854775807) (h2 : m ≤ 9223372036854775807) : Calls Try.prog 14 #[.slice a n c, .slice b m d] w fun e w' => (e = .returned (.bool true) ∨ e = .returned (.bool false)) ∧ w = w' := by
  by_cases c1 : n ≤ 1048576
  · by_cases c2 : m ≤ 1048576
    · go_enter Try.func14, Try.ntmps14
      go_wp2
      all_goals (go_ret; first | exact ⟨.inl rfl, rfl⟩ | exact ⟨.inr rfl, rfl⟩)
    · go_enter Try.func14, Try.ntmps14
      go_wp2
      all_goals (go_ret; first | exact ⟨.inl rfl, rfl⟩ | exact ⟨.inr rfl, rfl⟩)
  · go_enter Try.func14, Try.ntmps14
    go_wp2
    all_goals (go_ret; first | exact ⟨.inl rfl, rfl⟩ | exact ⟨.inr rfl, rfl⟩)

theorem law5_early (a : Option Addr) (n c : Nat) (b : Option Addr) (m d : Nat) (w : World) (hn : n ≤ 9223372036854775807) (hm : m ≤ 9223372036854775807) (h : ¬ (n ≤ 65536 ∧ m ≤ 65536)) :
    Calls Try.prog 5 #[.slice a n c, .slice b m d] w fun e w' => e = .returned (.bool true) ∧ Below w.heap.size w w' := by
  by_cases c1 : n ≤ 65536
  · have c2 : 65536 < m := by omega
    clear h
    go_enter Try.func5, Try.ntmps5
    go_wp2_with fail
    refine (zzb14_any a n c b m d w hn hm).mono ?_
    rintro e w' ⟨rfl | rfl, rfl⟩
    · go_wp2
      go_ret
      exact ⟨rfl, Below.refl _ _⟩
    · go_wp2
      go_ret
      exact ⟨rfl, Below.refl _ _⟩
  · clear h
    go_enter Try.func5, Try.ntmps5
    go_wp2_with fail
    refine (zzb14_any a n c b m d w hn hm).mono ?_
    rintro e w' ⟨rfl | rfl, rfl⟩
    · go_wp2
      go_ret
      exact ⟨rfl, Below.refl _ _⟩
    · go_wp2
      go_ret
      exact ⟨rfl, Below.refl _ _⟩

theorem own_empty (w : World) (g : Nat) : Own w (some ⟨g, 0, none⟩) 0 0 [] :=
  ⟨rfl, Nat.le_refl _, by unfold maxLen; omega, by simp, fun _ => rfl, fun x hx => ⟨g, 0, (by cases hx; rfl), fun j hj => (by omega), fun j hj => (by omega)⟩⟩

theorem Rd.from {w : World} {x : Addr} {a' : Option Addr} {n : Nat} {zs : List Int} (h : Rd w (some x) n zs) (k : Nat) (hk : k ≤ n) (ha : a' = some (x.add k) ∨ (a' = some x ∧ k = n)) : Rd w a' (n - k) (zs.drop k) :=
  h.drop k hk (fun hlt b off e => by
    rcases ha with h0 | ⟨_, h0⟩
    · cases e; rw [h0, Addr.add_lit]
    · omega)

set_option maxHeartbeats 1000000 in
set_option maxRecDepth 100000 in
theorem law5_some (a : Option Addr) (n c : Nat) (zs : List Int) (x : Addr) (m d : Nat) (ys : List Int) (w : World) (h : Rd w a n zs) (hy : Rd w (some x) m ys) (hn : n ≤ 65536) (hm : m ≤ 65536) :
    Calls Try.prog 5 #[.slice a n c, .slice (some x) m d] w fun e w' => e = .returned (.bool true) ∧ Below w.heap.size w w' := by
  go_enter Try.func5, Try.ntmps5
  go_wp2_with (go_at_call 14; refine (zzb14_yes _ _ _ _ _ _ _ (by omega) (by omega)).mono ?_; rintro e w' ⟨rfl, rfl⟩)
  refine (clone_any a n c zs w h (by omega)).mono ?_
  rintro e w1 ⟨a1, c1, rfl, o1, g1, _, b1⟩
  go_wp2_with fail
  refine (clone_any (some x) m d ys w1 (hy.same g1) (by omega)).mono ?_
  rintro e w2 ⟨a2, c2, rfl, o2, g2, e2, b2⟩
  obtain ⟨x2, rfl⟩ : ∃ x2, a2 = some x2 := by
    cases a2 with
    | none => simp at e2
    | some x2 => exact ⟨x2, rfl⟩
  clear e2
  go_wp2_with fail
  refine (clone_any a1 n c1 zs w2 (o1.same g2).rd (by omega)).mono ?_
  rintro e w3 ⟨a3, c3, rfl, o3, g3, _, b3⟩
  go_wp2_with fail
  refine (clone_any (some x2) m c2 ys w3 (o2.same g3).rd (by omega)).mono ?_
  rintro e w4 ⟨a4, c4, rfl, o4, g4, e4, b4⟩
  obtain ⟨x4, rfl⟩ : ∃ x4, a4 = some x4 := by
    cases a4 with
    | none => simp at e4
    | some x4 => exact ⟨x4, rfl⟩
  clear e4
  go_wp2_with fail
  refine (zz_source_some a1 n c1 zs x2 m c2 ys w4 (((o1.same g2).same g3).same g4) ((o2.same g3).same g4).rd (by omega) (by omega) o2.le).mono ?_
  rintro e w5 ⟨a5, c5, t, rfl, ht, o5, g5, b5⟩
  have s1 := g1.size
  have s2 := g2.size
  have s3 := g3.size
  have s4 := g4.size
  have s5 := g5.size
  have o3' := (o3.same g4).kept g5 (apart fun k h1 h2 => by have := b3 k h1; have := b1 k h2; omega)
  have o4' := o4.kept g5 (apart fun k h1 h2 => by have := b4 k h1; have := b1 k h2; omega)
  have bel : Below w.heap.size w w5 := (((((Below.refl w.heap.size w).grown g1 (by omega) (by simp)).grown g2 (by omega) (by simp)).grown g3 (by omega) (by simp)).grown g4 (by omega) (by simp)).grown g5 (by omega) (fun k hk => by have := b1 k hk; omega)
  have htl := tail_length ht
  have hcap : n + t.length ≤ c5 := o5.le
  have hl := h.len
  have hyl := hy.len
  clear o1 o2 o3 o4 g1 g2 g3 g4 g5 b1 b2 b3 b4 b5 s1 s2 s3 s4 s5 h hy
  go_wp2_with fail
  have HE : decide ((zs ++ t).take n = zs) = true := by
    rw [decide_eq_true_eq, ← hl, List.take_left]
  refine (same_any a5 a3 n c5 n c3 _ _ w5 (o5.rd.take n (by omega)) o3'.rd (by omega) (by omega)).mono ?_
  rintro e w6 ⟨rfl, g6⟩
  rw [HE]
  clear HE o3'
  have o5' := o5.same g6
  have o4'' := o4'.same g6
  have bel6 := bel.grown g6 (by have := bel.size; omega) (by simp)
  clear o5 o4' bel g6
  have htm : t.length ≤ m := by omega
  have hqn := fun wx => Lib.run_eql_slice_nil (P := Try.prog) wx 22 5 (some x4) m c4 0 0 Try.underlying22
  have hc4 := o4''.le
  have hmk : ∀ w : World, (Instr.makeSlice 22 (.int .i64 0) (.int .i64 0)).run Try.prog w = .ok (.slice (some ⟨w.heap.size, 0, none⟩) 0 0) (w.alloc (.cells #[] 5)) := fun _ => by kernel_rfl
  have hct := tail_count ht
  go_upto_region 16 with fail
  go_cut [7, 8] (fun _ v wx => ∃ g, v = .slice (some ⟨g, 0, none⟩) t.length t.length ∧ Own wx (some ⟨g, 0, none⟩) t.length t.length t ∧ Own wx (some x4) m c4 ys ∧ Below w.heap.size w wx ∧ g < wx.heap.size)
  case first =>
    go_wp2_with fail
    all_goals
      refine (fresh_any _ _ _ t w6 (tail_rd o5' hl (by first | exact .inl ⟨rfl, by omega⟩ | exact .inr rfl)) (by omega)).mono ?_
      rintro e w7 ⟨g, rfl, o7, g7, l7, l7'⟩
      go_wp2_with fail
      go_meet
      case rel => exact ⟨g, rfl, o7, o4''.same g7, bel6.grown g7 (by have := bel6.size; omega) (by simp), l7'⟩
  case rest =>
    obtain ⟨g, rfl, o7, o4', bel7, l7⟩ := hcut
    clear o5' o4'' bel6
    go_upto_if 50 with fail
    go_cut [6, 9] (fun _ _ wx => Own wx (some ⟨g, 0, none⟩) t.length t.length t ∧ Below w.heap.size w wx ∧ g < wx.heap.size)
    case first =>
      go_wp2_with fail
      all_goals
        refine (same_any _ _ _ _ _ _ _ _ wc (Rd.from o4'.rd (m - t.length) (by omega) (by first | exact .inl rfl | exact .inr ⟨rfl, by omega⟩)) o7.rd (by omega) (by omega)).mono ?_
        rintro e w8 ⟨rfl, g8⟩
        rw [show decide (ys.drop (m - t.length) = t) = true by rw [decide_eq_true_eq, ← hyl]; exact tail_end ht]
        have o4 := o4'.same g8
        have o8 := o7.same g8
        have bel8 := bel7.grown g8 (by have := bel7.size; omega) (by simp)
        have l8 : g < w8.heap.size := by have := g8.size; omega
        clear o4' o7 bel7 g8
        go_wp2_with fail
        refine (count_any _ _ _ t w8 o8.rd (by omega)).mono ?_
        rintro e w' ⟨rfl, rfl⟩
        by_cases hlen : t.length = m
        · have hb : ((t.length : Int) != (m : Int)) = false := by simp [hlen]
          clear hlen
          go_wp2_with fail
          go_meet
          case rel => exact ⟨o8, bel8, l8⟩
        · obtain ⟨ht1, k, hk, hk7⟩ := tail_less ht (by omega)
          have hb : ((t.length : Int) != (m : Int)) = true := by rw [bne_iff_ne]; omega
          obtain ⟨b4, off4, e4, hc4⟩ := o4.rd.cells (by omega)
          cases e4
          have hck := hc4 k (by omega)
          rw [hk7, show k = m - t.length - 1 by omega] at hck
          have hlt : t.length < m := by omega
          have hct1 : ((t.count 47 : Nat) : Int) = 1 := by omega
          have hq1 : (((t.count 47 : Nat) : Int) != 1) = false := by simp [hct1]
          clear hc4 hlen hk7 hct1 ht1 hk
          go_wp2_with fail
          go_meet
          case rel => exact ⟨o8, bel8, l8⟩
    case rest =>
      obtain ⟨o8, bel8, l8⟩ := hcut
      have r1 := o8.rd
      have r2 : Rd wc.drew _ _ t := r1.same (grown_drew _)
      have r3 : Rd (wc.alloc (.cells #[] 5)).drew _ _ t := (r1.same (World.grownBy_alloc _ _ none)).same (grown_drew _)
      go_wp2_with fail
      go_region_with (first
        | (go_at_call 16; refine (fresh_any _ _ _ t _ ?_ (by omega)).mono ?_; (first | exact r2 | exact r3); rintro e w9 ⟨g9, rfl, o9, g9', l9, l9'⟩)
        | (go_at_call 15; refine (zz_source_some _ _ _ [] _ _ _ t _ (own_empty _ _) ?_ (by omega) (by omega) (by omega)).mono ?_; (first | exact o9.rd | exact (o9.same (World.grownBy_alloc _ _ none)).rd); rintro e w10 ⟨a10, c10, t10, rfl, ht10, o10, g10, b10⟩))
      · have hG : wc.grownBy w10 (some wc.heap.size) :=
          grown_trans (grown_none (grown_trans (grown_trans (World.grownBy_alloc wc (.cells #[] 5) none) (grown_drew _) (by simp)) g9' (by simp))) g10 (fun k hk => .inl (by simpa [blk] using hk))
        obtain rfl := tail_again ht10 hct
        have r10 := o10.rd
        rw [List.nil_append, Nat.zero_add] at r10
        have q10 := o8.rd.kept hG (.inr (by simp [blk]; omega))
        have bel10 := bel8.grown hG bel8.size (fun k hk => by cases hk; exact bel8.size)
        clear o10 g10 b10 o9 g9' hG r1 r2 r3 o8
        go_wp2_with fail
        refine (same_any _ _ _ _ _ _ _ _ w10 r10 q10 (by omega) (by omega)).mono ?_
        rintro e w11 ⟨rfl, g11⟩
        rw [decide_eq_true rfl]
        go_wp2
        go_ret
        exact ⟨rfl, bel10.grown g11 bel10.size (by simp)⟩
      · have hG : wc.grownBy w10 (some w9.heap.size) :=
          grown_trans (grown_none (grown_trans (grown_trans (grown_drew wc) g9' (by simp)) (World.grownBy_alloc w9 (.cells #[] 5) none) (by simp))) g10 (fun k hk => .inl (by simpa [blk] using hk))
        have hs9 : wc.heap.size ≤ w9.heap.size := by simpa using g9'.size
        obtain rfl := tail_again ht10 hct
        have r10 := o10.rd
        rw [List.nil_append, Nat.zero_add] at r10
        have q10 := o8.rd.kept hG (.inr (by simp [blk]; omega))
        have bel10 := bel8.grown hG bel8.size (fun k hk => by cases hk; exact Nat.le_trans bel8.size hs9)
        clear o10 g10 b10 o9 g9' hG r1 r2 r3 o8
        go_wp2_with fail
        refine (same_any _ _ _ _ _ _ _ _ w10 r10 q10 (by omega) (by omega)).mono ?_
        rintro e w11 ⟨rfl, g11⟩
        rw [decide_eq_true rfl]
        go_wp2
        go_ret
        exact ⟨rfl, bel10.grown g11 bel10.size (by simp)⟩

set_option maxHeartbeats 1000000 in
set_option maxRecDepth 100000 in
theorem law5_nil (a : Option Addr) (n c : Nat) (zs : List Int) (d : Nat) (w : World) (h : Rd w a n zs) (hn : n ≤ 65536) :
    Calls Try.prog 5 #[.slice a n c, .slice none 0 d] w fun e w' => e = .returned (.bool true) ∧ Below w.heap.size w w' := by
  have hy : Rd w none 0 [] := ⟨rfl, by simp, fun h => by omega⟩
  go_enter Try.func5, Try.ntmps5
  go_wp2_with (go_at_call 14; refine (zzb14_yes _ _ _ _ _ _ _ (by omega) (by omega)).mono ?_; rintro e w' ⟨rfl, rfl⟩)
  refine (clone_any a n c zs w h (by omega)).mono ?_
  rintro e w1 ⟨a1, c1, rfl, o1, g1, _, b1⟩
  go_wp2_with fail
  refine (clone_any none 0 d [] w1 (hy.same g1) (by omega)).mono ?_
  rintro e w2 ⟨a2, c2, rfl, o2, g2, e2, b2⟩
  have e2' := e2.2 rfl
  have f2 := o2.nil e2'
  rw [e2', f2]
  clear e2 e2' f2 o2 b2
  go_wp2_with fail
  refine (clone_any a1 n c1 zs w2 (o1.same g2).rd (by omega)).mono ?_
  rintro e w3 ⟨a3, c3, rfl, o3, g3, _, b3⟩
  go_wp2_with fail
  refine (clone_any none 0 0 [] w3 (((hy.same g1).same g2).same g3) (by omega)).mono ?_
  rintro e w4 ⟨a4, c4, rfl, o4, g4, e4, b4⟩
  have e4' := e4.2 rfl
  have f4 := o4.nil e4'
  rw [e4', f4]
  clear e4 e4' f4 o4 b4
  go_wp2_with fail
  refine (zz_source_nil a1 n c1 zs w4 (((o1.same g2).same g3).same g4) (by omega)).mono ?_
  rintro e w5 ⟨a5, c5, rfl, o5, g5, b5⟩
  have s1 := g1.size
  have s2 := g2.size
  have s3 := g3.size
  have s4 := g4.size
  have s5 := g5.size
  have o3' := (o3.same g4).kept g5 (apart fun k h1 h2 => by have := b3 k h1; have := b1 k h2; omega)
  have bel : Below w.heap.size w w5 := (((((Below.refl w.heap.size w).grown g1 (by omega) (by simp)).grown g2 (by omega) (by simp)).grown g3 (by omega) (by simp)).grown g4 (by omega) (by simp)).grown g5 (by omega) (fun k hk => by have := b1 k hk; omega)
  have hcap : n + 5 ≤ c5 := o5.le
  have hl := h.len
  clear o1 o3 g1 g2 g3 g4 g5 b1 b3 b5 s1 s2 s3 s4 s5 h hy
  obtain ⟨t, ht⟩ : ∃ t : List Int, t = [63, 63, 63, 58, 48] := ⟨_, rfl⟩
  have htl : Hid (t.length = 5) := by rw [ht]; rfl
  have hct : t.count 47 ≤ 1 := by rw [ht]; decide
  rw [← ht] at o5
  have HT : Hid (t = [63, 63, 63, 58, 48]) := ht
  clear ht
  go_wp2_with fail
  have HE : decide ((zs ++ t).take n = zs) = true := by
    rw [decide_eq_true_eq, ← hl, List.take_left]
  refine (same_any a5 a3 n c5 n c3 _ _ w5 (o5.rd.take n (by omega)) o3'.rd (by omega) (by omega)).mono ?_
  rintro e w6 ⟨rfl, g6⟩
  rw [HE]
  clear HE o3'
  have o5' := o5.same g6
  have bel6 := bel.grown g6 (by have := bel.size; omega) (by simp)
  clear o5 bel g6
  have hqn := fun wx => Lib.run_eql_slice_nil (P := Try.prog) wx 22 5 none 0 0 0 0 Try.underlying22
  have hmk : ∀ w : World, (Instr.makeSlice 22 (.int .i64 0) (.int .i64 0)).run Try.prog w = .ok (.slice (some ⟨w.heap.size, 0, none⟩) 0 0) (w.alloc (.cells #[] 5)) := fun _ => by kernel_rfl
  go_upto_region 16 with fail
  go_cut [7, 8] (fun _ v wx => ∃ g, v = .slice (some ⟨g, 0, none⟩) 5 5 ∧ Own wx (some ⟨g, 0, none⟩) 5 5 t ∧ Below w.heap.size w wx ∧ g < wx.heap.size)
  case first =>
    go_wp2_with fail
    all_goals
      refine (fresh_any _ _ _ t w6 (tail_rd o5' hl (by first | exact .inr rfl | exact .inl ⟨rfl, by omega⟩)) (by omega)).mono ?_
      rintro e w7 ⟨g, rfl, o7, g7, l7, l7'⟩
      go_wp2_with fail
      go_meet
      case rel => exact ⟨g, rfl, o7, bel6.grown g7 (by have := bel6.size; omega) (by simp), l7'⟩
  case rest =>
    obtain ⟨g, rfl, o7, bel7, l7⟩ := hcut
    clear o5' bel6
    go_upto_if 50 with fail
    go_cut [6, 9] (fun _ _ wx => Own wx (some ⟨g, 0, none⟩) 5 5 t ∧ Below w.heap.size w wx ∧ g < wx.heap.size)
    case first =>
      go_wp2_with fail
      refine (unknown_any _ _ wc (by have := o7.rd; rw [HT.out] at this; exact this)).mono ?_
      rintro e w' ⟨rfl, rfl⟩
      go_wp2_with fail
      go_meet
      case rel => exact ⟨o7, bel7, l7⟩
    case rest =>
      obtain ⟨o8, bel8, l8⟩ := hcut
      have r1 := o8.rd
      have r2 : Rd wc.drew _ _ t := r1.same (grown_drew _)
      have r3 : Rd (wc.alloc (.cells #[] 5)).drew _ _ t := (r1.same (World.grownBy_alloc _ _ none)).same (grown_drew _)
      go_wp2_with fail
      go_region_with (first
        | (go_at_call 16; refine (fresh_any _ _ _ t _ ?_ (by omega)).mono ?_; (first | exact r2 | exact r3); rintro e w9 ⟨g9, rfl, o9, g9', l9, l9'⟩)
        | (go_at_call 15; refine (zz_source_some _ _ _ [] _ _ _ t _ (own_empty _ _) ?_ (by omega) (by omega) (by omega)).mono ?_; (first | exact o9.rd | exact (o9.same (World.grownBy_alloc _ _ none)).rd); rintro e w10 ⟨a10, c10, t10, rfl, ht10, o10, g10, b10⟩))
      · have hG : wc.grownBy w10 (some wc.heap.size) :=
          grown_trans (grown_none (grown_trans (grown_trans (World.grownBy_alloc wc (.cells #[] 5) none) (grown_drew _) (by simp)) g9' (by simp))) g10 (fun k hk => .inl (by simpa [blk] using hk))
        obtain rfl := tail_again ht10 hct
        have r10 := o10.rd
        rw [List.nil_append, Nat.zero_add, htl.out] at r10
        have q10 := o8.rd.kept hG (.inr (by simp [blk]; omega))
        have bel10 := bel8.grown hG bel8.size (fun k hk => by cases hk; exact bel8.size)
        clear o10 g10 b10 o9 g9' hG r1 r2 r3 o8
        rw [htl.out]
        go_wp2_with fail
        refine (same_any _ _ _ _ _ _ _ _ w10 r10 q10 (by omega) (by omega)).mono ?_
        rintro e w11 ⟨rfl, g11⟩
        rw [decide_eq_true rfl]
        go_wp2
        go_ret
        exact ⟨rfl, bel10.grown g11 bel10.size (by simp)⟩
      · have hG : wc.grownBy w10 (some w9.heap.size) :=
          grown_trans (grown_none (grown_trans (grown_trans (grown_drew wc) g9' (by simp)) (World.grownBy_alloc w9 (.cells #[] 5) none) (by simp))) g10 (fun k hk => .inl (by simpa [blk] using hk))
        have hs9 : wc.heap.size ≤ w9.heap.size := by simpa using g9'.size
        obtain rfl := tail_again ht10 hct
        have r10 := o10.rd
        rw [List.nil_append, Nat.zero_add, htl.out] at r10
        have q10 := o8.rd.kept hG (.inr (by simp [blk]; omega))
        have bel10 := bel8.grown hG bel8.size (fun k hk => by cases hk; exact Nat.le_trans bel8.size hs9)
        clear o10 g10 b10 o9 g9' hG r1 r2 r3 o8
        rw [htl.out]
        go_wp2_with fail
        refine (same_any _ _ _ _ _ _ _ _ w10 r10 q10 (by omega) (by omega)).mono ?_
        rintro e w11 ⟨rfl, g11⟩
        rw [decide_eq_true rfl]
        go_wp2
        go_ret
        exact ⟨rfl, bel10.grown g11 bel10.size (by simp)⟩

theorem law5 (a : Option Addr) (n c : Nat) (zs : List Int) (b : Option Addr) (m d : Nat) (ys : List Int) (w : World) (h : Rd w a n zs) (hn : n ≤ 9223372036854775807) (hy : Rd w b m ys) (hm : m ≤ 9223372036854775807) :
    Calls Try.prog 5 #[.slice a n c, .slice b m d] w fun e w' => e = .returned (.bool true) ∧ Below w.heap.size w w' := by
  by_cases hs : n ≤ 65536 ∧ m ≤ 65536
  · cases b with
    | none =>
      have hm0 : m = 0 := by
        by_cases h0 : 0 < m
        · obtain ⟨_, _, e, _⟩ := hy.cells h0; cases e
        · omega
      subst hm0
      exact law5_nil a n c zs d w h hs.1
    | some x => exact law5_some a n c zs x m d ys w h hy hs.1 hs.2
  · exact law5_early a n c b m d w hn hm hs

end Go.Proofs.Qxb6618065a
