/-
  THE CONTRACTS OF LastIndexByte, freshBytes, isUnknownSource, countSlashes, appendSource.
-/
import Derived.Test.Qxb6618065aDigits
import Derived.Test.Qxb6618065aTail
namespace Go.Proofs.Qxb6618065a
open Go.RowKit

set_option maxHeartbeats 400000 in
theorem last_any (a : Option Addr) (n c : Nat) (zs : List Int) (x : Int) (w : World) (h : Rd w a n zs) (hn : n ≤ 1048576) :
    Calls Try.prog 23 #[.slice a n c, .int .u8 x] w fun e w' => ∃ d : Int, e = .returned (.int .i64 d) ∧ LI zs x d ∧ w = w' := by
  have hlen := h.len
  go_enter Try.func23, Try.ntmps23
  go_wp2
  go_loop [5] (fun i => ∃ (q : Int) (r : Nat), r ≤ n ∧ q + 1 = r ∧ i = .int .i64 q ∧ Hid ((zs.drop r).count x = 0)) (fun i => (intOf i + 1).toNat)
  case atStart => exact ⟨_, n, Nat.le_refl _, by omega, rfl, (by rw [List.drop_eq_nil_of_le (by omega)]; rfl : (zs.drop n).count x = 0)⟩
  case round =>
    obtain ⟨q, r, hr, hq, rfl, HC⟩ := hrel
    cases r with
    | zero =>
      have hq0 : q < 0 := by omega
      go_wp2
      go_ret
      exact ⟨-1, rfl, .inl ⟨rfl, by simpa using HC.out⟩, rfl⟩
    | succ r =>
      obtain rfl : q = (r : Int) := by omega
      obtain ⟨b, off, rfl, hc⟩ := h.cells (by omega)
      have hcr := hc r (by omega)
      clear hc
      obtain ⟨y, hy⟩ : ∃ y, zs.getD r 0 = y := ⟨_, rfl⟩
      rw [hy] at hcr
      have HY : Hid (zs.getD r 0 = y) := hy
      clear hy hq
      by_cases hyx : y = x
      · have hb : (y == x) = true := by simp [hyx]
        have HX : Hid (y = x) := hyx
        clear hyx
        go_wp2
        go_ret
        exact ⟨(r : Int), rfl, .inr ⟨r, rfl, by omega, by rw [HY.out]; exact HX.out, HC.out⟩, rfl⟩
      · have hb : (y == x) = false := by simpa using hyx
        have HX : Hid (¬ y = x) := hyx
        clear hyx
        go_wp2
        go_round
        case rel =>
          refine ⟨(r : Int) - 1, r, by omega, by omega, by go_num, ?_⟩
          show (zs.drop r).count x = 0
          have hrl : r < zs.length := by omega
          rw [List.drop_eq_getElem_cons hrl, List.count_cons]
          have e : zs[r] = y := by rw [← HY.out]; simp [List.getD, hrl]
          rw [e, HC.out]
          simp [hb]
        case measure => simp [intOf]

theorem last_byte (a : Option Addr) (n c : Nat) (zs : List Int) (x : Int) (w : World) (h : Rd w a n zs) (hn : n ≤ 1048576) :
    Calls Try.prog 22 #[.slice a n c, .int .u8 x] w fun e w' => ∃ d : Int, e = .returned (.int .i64 d) ∧ LI zs x d ∧ w = w' := by
  go_enter Try.func22, Try.ntmps22
  go_wp2_with fail
  refine (last_any a n c zs x w h hn).mono ?_
  rintro e w' ⟨d, rfl, hd, rfl⟩
  go_wp2
  go_ret
  exact ⟨d, rfl, hd, rfl⟩

set_option maxHeartbeats 400000 in
theorem count_any (a : Option Addr) (n c : Nat) (zs : List Int) (w : World) (h : Rd w a n zs) (hn : n ≤ 1048576) :
    Calls Try.prog 18 #[.slice a n c] w fun e w' => e = .returned (.int .i64 (zs.count 47 : Nat)) ∧ w = w' := by
  have hlen := h.len
  go_enter Try.func18, Try.ntmps18
  go_wp2
  go_loop [3, 4] (fun t i => ∃ k : Nat, k ≤ n ∧ i = .int .i64 k ∧ t = .int .i64 ((zs.take k).count 47 : Nat)) (fun _ i => n - (intOf i).toNat)
  case atStart => exact ⟨0, Nat.zero_le _, rfl, rfl⟩
  case round =>
    obtain ⟨k, hk, rfl, rfl⟩ := hrel
    by_cases hlt : k < n
    · obtain ⟨b, off, rfl, hc⟩ := h.cells (by omega)
      have hck := hc k hlt
      clear hc
      have HT : Hid ((zs.take (k + 1)).count 47 = (zs.take k).count 47 + if zs.getD k 0 = 47 then 1 else 0) := by
        have hkl : k < zs.length := by omega
        show (zs.take (k + 1)).count 47 = _
        rw [List.take_succ_eq_append_getElem hkl, List.count_append]
        simp [List.getD, hkl, List.count_cons]
      have hcb : (zs.take k).count 47 ≤ k := Nat.le_trans List.count_le_length (by simp; omega)
      generalize zs.getD k 0 = y at *
      generalize (zs.take k).count 47 = t at *
      by_cases hy : y = 47
      · have hb : (y == 47) = true := by simp [hy]
        have HX : Hid (y = 47) := hy
        clear hy
        go_wp2
        go_round
        case rel => exact ⟨k + 1, by omega, by go_num, by rw [HT.out, if_pos HX.out]; go_num⟩
        case measure => simp [intOf]; omega
      · have hb : (y == 47) = false := by simpa using hy
        have HX : Hid (¬ y = 47) := hy
        clear hy
        go_wp2
        go_round
        case rel => exact ⟨k + 1, by omega, by go_num, by rw [HT.out, if_neg HX.out]; go_num⟩
        case measure => simp [intOf]; omega
    · go_wp2
      go_ret
      exact ⟨ret_int (by rw [List.take_of_length_le (by omega)]), rfl⟩

theorem unknown_any (a : Option Addr) (c : Nat) (w : World) (h : Rd w a 5 [63, 63, 63, 58, 48]) :
    Calls Try.prog 17 #[.slice a 5 c] w fun e w' => e = .returned (.bool true) ∧ w = w' := by
  obtain ⟨b, off, rfl, hc⟩ := h.cells (by omega)
  have h0 := hc 0 (by omega)
  have h1 := hc 1 (by omega)
  have h2 := hc 2 (by omega)
  have h3 := hc 3 (by omega)
  have h4 := hc 4 (by omega)
  simp at h0 h1 h2 h3 h4
  clear hc h
  go_enter Try.func17, Try.ntmps17
  go_wp2
  go_ret
  exact ⟨rfl, rfl⟩

set_option maxHeartbeats 400000 in
theorem fresh_any (a : Option Addr) (n c : Nat) (zs : List Int) (w : World) (h : Rd w a n zs) (hn : n ≤ 1048576) :
    Calls Try.prog 16 #[.slice a n c] w fun e w' => ∃ g, e = .returned (.slice (some ⟨g, 0, none⟩) n n) ∧ Own w' (some ⟨g, 0, none⟩) n n zs ∧ w.grownBy w' none ∧ w.heap.size ≤ g ∧ g < w'.heap.size := by
  obtain ⟨i0, hi, hz0, hz1, hz2⟩ := info_parts info5
  go_enter Try.func16, Try.ntmps16
  go_wp2_with (at_make; refine wpList_make_buf _ rfl _ _ 22 rfl 5 i0 Try.underlying22 hi hz0 hz1 hz2 _ _ _ _ n rfl rfl rfl rfl (by omega) ?_)
  intro w1 ho1 hg1 hs1
  go_wp2
  go_loopw [4] (fun i wr => ∃ k : Nat, k ≤ n ∧ i = .int .i64 k ∧ Own wr (some ⟨w.heap.size, 0, none⟩) n n (zs.take k ++ List.replicate (n - k) 0) ∧ w.grownBy wr none ∧ w.heap.size < wr.heap.size) (fun i _ => n - (intOf i).toNat)
  case atStart => exact ⟨0, Nat.zero_le _, rfl, by simpa using ho1, hg1, hs1⟩
  case round =>
    obtain ⟨k, hk, rfl, ho, hg, hs⟩ := hrel
    by_cases hlt : k < n
    · obtain ⟨b, off, rfl, hc⟩ := h.cells (by omega)
      have hck := hg.cell (hc k hlt) (by simp)
      obtain ⟨hnew, hfr, hown'⟩ := own_step ho k hlt
      have hwk := h.wf (zs.getD k 0) (getD_mem (by rw [h.len]; exact hlt))
      have HO : Hid _ := hown' (zs.getD k 0) hwk
      clear hown' ho ho1 hc hwk
      go_wp2
      go_roundw
      case rel => exact ⟨k + 1, by omega, by go_num, by rw [← fill_step zs k n h.len hlt]; exact HO.out.1, grown_trans hg HO.out.2 (fun q hq => .inr (by cases hq; exact Nat.le_refl _)), by simp; exact hs⟩
      case measure => simp [intOf]; omega
    · go_wp2
      go_ret
      have : k = n := by omega
      subst this
      refine ⟨_, rfl, ?_, hg, Nat.le_refl _, hs⟩
      have e1 : zs.take k = zs := List.take_of_length_le (by rw [h.len]; omega)
      simpa [e1] using ho

theorem unknown_src (w : World) : Src Try.prog 1 9 (.string ⟨#[63, 63, 63, 58, 48]⟩) 5 (([63, 63, 63, 58, 48] : List Int).map (Value.int .u8)) w :=
  Src.ofString (P := Try.prog) (tx := 9) w Try.underlying9 ⟨#[63, 63, 63, 58, 48]⟩

theorem after_append {a a' : Option Addr} {w w' : World} (h1 : ∀ k, blk a' = some k → blk a = some k ∨ k = w.heap.size) (h2 : ∀ k, blk a' = some k → blk a = some k ∨ k < w'.heap.size) :
    ∀ k, blk a' = some k → blk a = some k ∨ (w.heap.size ≤ k ∧ k < w'.heap.size) := by
  intro k hk
  rcases h2 k hk with h | h
  · exact .inl h
  · rcases h1 k hk with h' | h'
    · exact .inl h'
    · exact .inr ⟨by omega, by omega⟩

set_option maxHeartbeats 400000 in
theorem source_nil (a : Option Addr) (n c : Nat) (zs : List Int) (w : World) (h : Own w a n c zs) (hn : n ≤ 1048576) :
    Calls Try.prog 21 #[.slice a n c, .slice none 0 0] w fun e w' => ∃ a' c', e = .returned (.slice a' (n + 5) c') ∧ Own w' a' (n + 5) c' (zs ++ [63, 63, 63, 58, 48]) ∧ w.grownBy w' (blk a) ∧
      (∀ k, blk a' = some k → blk a = some k ∨ (w.heap.size ≤ k ∧ k < w'.heap.size)) := by
  obtain ⟨i0, hi, hz0, hz1, hz2⟩ := info_parts info5
  have hq := fun wx => Lib.run_eql_slice_nil (P := Try.prog) wx 22 5 none 0 0 0 0 Try.underlying22
  go_enter Try.func21, Try.ntmps21
  go_wp2_with (at_builtin; refine wpList_append_buf _ rfl (.tmp 8) (.const (.string ⟨#[63, 63, 63, 58, 48]⟩)) 22 9 rfl 5 i0 Try.underlying22 hi hz0 hz1 hz2 a n c zs rfl h _ rfl 5 [63, 63, 63, 58, 48] (unknown_src _) (by intro z hz; simp at hz; omega) (by omega) ?_)
  intro a' c' w1 ho hg hb1 hb2 _
  go_wp2
  go_ret
  exact ⟨a', c', rfl, ho, hg, after_append hb1 hb2⟩

set_option maxHeartbeats 400000 in
theorem source_some (a : Option Addr) (n c : Nat) (zs : List Int) (x : Addr) (m d : Nat) (ys : List Int) (w : World) (h : Own w a n c zs) (hy : Rd w (some x) m ys) (hn : n ≤ 1048576) (hm : m ≤ 1048576) (hd : m ≤ d) :
    Calls Try.prog 21 #[.slice a n c, .slice (some x) m d] w fun e w' => ∃ a' c' t, e = .returned (.slice a' (n + t.length) c') ∧ IsTail ys t ∧ Own w' a' (n + t.length) c' (zs ++ t) ∧ w.grownBy w' (blk a) ∧
      (∀ k, blk a' = some k → blk a = some k ∨ (w.heap.size ≤ k ∧ k < w'.heap.size)) := by
  obtain ⟨i0, hi, hz0, hz1, hz2⟩ := info_parts info5
  have hq := fun wx => Lib.run_eql_slice_nil (P := Try.prog) wx 22 5 (some x) m d 0 0 Try.underlying22
  have hml := hy.len
  go_enter Try.func21, Try.ntmps21
  go_wp2_with fail
  refine (last_byte (some x) m d ys 47 w hy hm).mono ?_
  rintro e w' ⟨q, rfl, hL, rfl⟩
  by_cases hq0 : q = -1
  · subst hq0
    go_wp2_with (at_builtin; refine wpList_append_buf _ rfl (.tmp 21) (.tmp 22) 22 22 rfl 5 i0 Try.underlying22 hi hz0 hz1 hz2 a n c zs rfl h _ rfl m ys (hy.src 22 5 Try.underlying22 d) hy.wf (by omega) ?_)
    intro a' c' w1 ho hg hb1 hb2 _
    have ht := tail_whole hL
    clear hL
    go_wp2
    go_ret
    exact ⟨a', c', ys, by rw [hml]; rfl, ht, by rw [hml]; exact ho, hg, after_append hb1 hb2⟩
  · obtain ⟨k, hk, hkl⟩ : ∃ k : Nat, q = (k : Int) ∧ k < m := by
      rcases hL with ⟨h1, _⟩ | ⟨k, h1, h2, _⟩
      · exact absurd h1 hq0
      · exact ⟨k, h1, by omega⟩
    subst hk
    clear hq0
    have HL : Hid (LI ys 47 (k : Int)) := hL
    clear hL
    go_wp2_with fail
    refine (last_byte _ k d (ys.take k) 47 w (hy.take k (by omega)) (by omega)).mono ?_
    rintro e w' ⟨q, rfl, hL, rfl⟩
    obtain ⟨t0, t1, t2⟩ := tail_cut HL.out hL
    clear hL
    obtain ⟨j, hj⟩ : ∃ j : Nat, q + 1 = (j : Int) := ⟨(q + 1).toNat, by omega⟩
    obtain rfl : q = (j : Int) - 1 := by omega
    rw [show ((j : Int) - 1 + 1).toNat = j by omega] at t1 t2
    clear hj t0
    have hyj : Rd w (some (x.add j)) (m - j) (ys.drop j) := hy.drop j (by omega) (fun _ b off e => by cases e; rw [Addr.add_lit])
    have hjl : (ys.drop j).length = m - j := hyj.len
    go_wp2_with (at_builtin; refine wpList_append_buf _ rfl (.tmp 21) (.tmp 22) 22 22 rfl 5 i0 Try.underlying22 hi hz0 hz1 hz2 a n c zs rfl h _ rfl (m - j) (ys.drop j) (hyj.src 22 5 Try.underlying22 (d - j)) hyj.wf (by omega) ?_)
    intro a' c' w1 ho hg hb1 hb2 _
    have HJ : Hid ((ys.drop j).length = m - j) := hjl
    clear hjl
    go_wp2
    go_ret
    exact ⟨a', c', ys.drop j, by rw [HJ.out]; rfl, t2, by rw [HJ.out]; exact ho, hg, after_append hb1 hb2⟩

theorem zz_source_nil (a : Option Addr) (n c : Nat) (zs : List Int) (w : World) (h : Own w a n c zs) (hn : n ≤ 1048576) :
    Calls Try.prog 15 #[.slice a n c, .slice none 0 0] w fun e w' => ∃ a' c', e = .returned (.slice a' (n + 5) c') ∧ Own w' a' (n + 5) c' (zs ++ [63, 63, 63, 58, 48]) ∧ w.grownBy w' (blk a) ∧
      (∀ k, blk a' = some k → blk a = some k ∨ (w.heap.size ≤ k ∧ k < w'.heap.size)) := by
  go_enter Try.func15, Try.ntmps15
  go_wp2_with fail
  refine (source_nil a n c zs w h hn).mono ?_
  rintro e w' ⟨a', c', rfl, ho, hg, hb⟩
  go_wp2
  go_ret
  exact ⟨a', c', rfl, ho, hg, hb⟩

theorem zz_source_some (a : Option Addr) (n c : Nat) (zs : List Int) (x : Addr) (m d : Nat) (ys : List Int) (w : World) (h : Own w a n c zs) (hy : Rd w (some x) m ys) (hn : n ≤ 1048576) (hm : m ≤ 1048576) (hd : m ≤ d) :
    Calls Try.prog 15 #[.slice a n c, .slice (some x) m d] w fun e w' => ∃ a' c' t, e = .returned (.slice a' (n + t.length) c') ∧ IsTail ys t ∧ Own w' a' (n + t.length) c' (zs ++ t) ∧ w.grownBy w' (blk a) ∧
      (∀ k, blk a' = some k → blk a = some k ∨ (w.heap.size ≤ k ∧ k < w'.heap.size)) := by
  go_enter Try.func15, Try.ntmps15
  go_wp2_with fail
  refine (source_some a n c zs x m d ys w h hy hn hm hd).mono ?_
  rintro e w' ⟨a', c', t, rfl, ht, ho, hg, hb⟩
  go_wp2
  go_ret
  exact ⟨a', c', t, rfl, ht, ho, hg, hb⟩

end Go.Proofs.Qxb6618065a
