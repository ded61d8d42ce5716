/-
  THE CONTRACTS OF decimalValue, appendDigits, lowerHexDigit.
-/
import Derived.Test.Qxb6618065aWalks
namespace Go.Proofs.Qxb6618065a
open Go.RowKit

theorem ret_pair {a b : Int} {c d : Bool} (h : a = b) (h2 : c = d) : Ending.returned (.tuple #[.int .i64 a, .bool c]) = .returned (.tuple #[.int .i64 b, .bool d]) := by rw [h, h2]

set_option maxHeartbeats 400000 in
theorem decimal_any (a : Option Addr) (n c : Nat) (zs : List Int) (w : World) (h : Rd w a n zs) (hn : n ≤ 6) (hz : ∀ z ∈ zs, 48 ≤ z ∧ z ≤ 57) :
    Calls Try.prog 11 #[.slice a n c] w fun e w' => e = .returned (.tuple #[.int .i64 (horner 0 zs), .bool true]) ∧ w = w' := by
  go_enter Try.func11, Try.ntmps11
  go_wp2
  go_loop [4, 5] (fun v i => ∃ k : Nat, k ≤ n ∧ i = .int .i64 k ∧ v = .int .i64 (horner 0 (zs.take k))) (fun _ i => n - (intOf i).toNat)
  case atStart => exact ⟨0, Nat.zero_le _, rfl, rfl⟩
  case round =>
    obtain ⟨k, hk, rfl, rfl⟩ := hrel
    have hlen := h.len
    by_cases hlt : k < n
    · obtain ⟨b1, o1, rfl, hc1⟩ := h.cells (by omega)
      have hd1 := hc1 k hlt
      have hb := horner_take_bound zs k (by omega) (by omega) hz
      have HT : Hid (_ = _) := horner_take zs k (by omega)
      have hzk := hz _ (getD_mem (zs := zs) (k := k) (by omega))
      clear hc1 hz h hlen
      generalize horner 0 (zs.take k) = v at *
      generalize zs.getD k 0 = x at *
      go_wp2
      go_round
      case rel => exact ⟨k + 1, by omega, by go_num, by rw [HT.out]⟩
      case measure => simp [intOf]; omega
    · go_wp2
      go_ret2
      exact ⟨ret_pair (by rw [List.take_of_length_le (by omega)]) rfl, rfl⟩

theorem zeros_cells (m : Nat) (h : m ≤ 6) : byteCells ((⟨#[48, 48, 48, 48, 48, 48]⟩ : ByteArray).extract 0 m) = (List.replicate m (48 : Int)).map (Value.int .u8) := by
  match m, h with
  | 0, _ => rfl
  | 1, _ => rfl
  | 2, _ => rfl
  | 3, _ => rfl
  | 4, _ => rfl
  | 5, _ => rfl
  | 6, _ => rfl
  | n + 7, h => omega

theorem zeros_size (m : Nat) (h : m ≤ 6) : ((⟨#[48, 48, 48, 48, 48, 48]⟩ : ByteArray).extract 0 m).size = m := by
  match m, h with
  | 0, _ => rfl
  | 1, _ => rfl
  | 2, _ => rfl
  | 3, _ => rfl
  | 4, _ => rfl
  | 5, _ => rfl
  | 6, _ => rfl
  | n + 7, h => omega

theorem zeros_src (m : Nat) (h : m ≤ 6) (w : World) : Src Try.prog 1 9 (.string ((⟨#[48, 48, 48, 48, 48, 48]⟩ : ByteArray).extract 0 m)) m ((List.replicate m (48 : Int)).map (Value.int .u8)) w := by
  have := Src.ofString (P := Try.prog) (tx := 9) w Try.underlying9 ((⟨#[48, 48, 48, 48, 48, 48]⟩ : ByteArray).extract 0 m)
  rwa [zeros_cells m h, zeros_size m h] at this

/-- One round's store, on the list. -/
theorem digit_step (zs : List Int) (n r j : Nat) (hl : zs.length = n) (v z : Int) (hz : z = 48 + v / p10 j % 10) :
    (zs ++ (List.replicate (r + 1) 48 ++ digs v j)).set (n + r) z = zs ++ (List.replicate r 48 ++ digs v (j + 1)) := by
  subst hl; subst hz
  rw [List.set_append_right _ _ (by omega), show zs.length + r - zs.length = r by omega, digs_one_more, List.replicate_succ', List.append_assoc, List.set_append_right _ _ (by simp)]
  simp

theorem own_step_at {w : World} {g off n c : Nat} {zs : List Int} (h : Own w (some ⟨g, off, none⟩) n c zs) (k : Nat) (hk : k < n) :
    w.cell? ⟨g, off + k, none⟩ = some (.int .u8 (zs.getD k 0)) ∧ w.frozen? ⟨g, off + k, none⟩ = false ∧
    ∀ z : Int, 0 ≤ z ∧ z ≤ 255 → Own (w.setCell ⟨g, off + k, none⟩ (.int .u8 z)) (some ⟨g, off, none⟩) n c (zs.set k z) ∧ w.grownBy (w.setCell ⟨g, off + k, none⟩ (.int .u8 z)) (some g) := by
  obtain ⟨g', off', e, h1, h2⟩ := h.room _ rfl
  cases e
  have := h.le
  exact ⟨h2 k hk, (h1 k (by omega)).2, fun z hz => h.set k hk z hz⟩

theorem div_step (v : Int) (j : Nat) : v / p10 j / 10 = v / p10 (j + 1) := by
  rw [Int.ediv_ediv_of_nonneg (Int.le_of_lt (p10_pos j)), p10]

set_option maxHeartbeats 400000 in
theorem append_digits (a : Option Addr) (n c : Nat) (zs : List Int) (v m : Int) (w : World) (h : Own w a n c zs) (hn : n ≤ 1048576) (hv : 0 ≤ v) (hv2 : v ≤ 9223372036854775807) (hm0 : 0 ≤ m) (hm : m ≤ 6) :
    Calls Try.prog 19 #[.slice a n c, .int .i64 v, .int .i64 m] w fun e w' => ∃ a' c', e = .returned (.slice a' (n + m.toNat) c') ∧ Own w' a' (n + m.toNat) c' (zs ++ digs v m.toNat) ∧ w.grownBy w' (blk a) ∧
      (∀ k, blk a' = some k → blk a = some k ∨ (w.heap.size ≤ k ∧ k < w'.heap.size)) := by
  obtain ⟨m, rfl⟩ := Int.eq_ofNat_of_zero_le hm0
  rw [Int.toNat_natCast]
  have hm6 : m ≤ 6 := by omega
  obtain ⟨i0, hi, hz0, hz1, hz2⟩ := info_parts info5
  go_enter Try.func19, Try.ntmps19
  go_wp2_with (at_builtin; refine wpList_append_buf _ rfl (.tmp 11) (.tmp 13) 22 9 rfl 5 i0 Try.underlying22 hi hz0 hz1 hz2 a n c zs rfl h _ rfl m (List.replicate m 48) (zeros_src m hm6 _) (by intro z hz; rw [List.mem_replicate] at hz; omega) (by omega) ?_)
  intro a' c' w1 ho hg hb1 hb2 _
  have hl := h.len
  clear h hi hz0 hz1 hz2
  go_wp2
  go_loopw [1, 8] (fun u i wr => ∃ (x : Int) (r j : Nat), r + j = m ∧ x + 1 = n + r ∧ i = .int .i64 x ∧ u = .int .i64 (v / p10 j) ∧ Own wr a' (n + m) c' (zs ++ (List.replicate r 48 ++ digs v j)) ∧ w.grownBy wr (blk a) ∧ w1.heap.size ≤ wr.heap.size) (fun _ i _ => (intOf i + 1 - n).toNat)
  case atStart => exact ⟨_, m, 0, by omega, by omega, rfl, by simp [p10], by simpa [digs] using ho, hg, Nat.le_refl _⟩
  case round =>
    obtain ⟨x, r, j, hrj, hx, rfl, rfl, ho, hgr, hsz⟩ := hrel
    cases r with
    | zero =>
      have hx0 : x < n := by omega
      obtain rfl : j = m := by omega
      go_wp2
      go_ret
      refine ⟨a', c', rfl, by simpa using ho, hgr, fun k hk => ?_⟩
      rcases hb2 k hk with h | h
      · exact .inl h
      · rcases hb1 k hk with h' | h'
        · exact .inl h'
        · exact .inr ⟨by omega, by omega⟩
    | succ r =>
      obtain rfl : x = ((n + r : Nat) : Int) := by omega
      obtain ⟨g, off, rfl, _⟩ := ho.rd.cells (by omega)
      obtain ⟨hc, hf, hset⟩ := own_step_at ho (n + r) (by omega)
      have HS : Hid (∀ z : Int, _) := hset
      have HD : Hid (∀ z : Int, _) := digit_step zs n r j hl v
      have HJ : Hid (_ = _) := div_step v j
      have hq := p10_pos j
      have hu0 : 0 ≤ v / p10 j := Int.ediv_nonneg hv (by omega)
      have hu1 : v / p10 j ≤ v := Int.ediv_le_self _ hv
      clear hset ho hx hl
      generalize v / p10 j = u at *
      go_wp2
      go_roundw
      case rel =>
        have hw := HS.out (48 + u % 10) ⟨by omega, by omega⟩
        refine ⟨(n : Int) + r - 1, r, j + 1, by omega, by omega, rfl, by rw [HJ.out], ?_, grown_trans hgr hw.2 (fun k hk => ?_), by simp; exact hsz⟩
        · rw [← HD.out _ rfl]; exact hw.1
        · rcases hb1 k (by simpa [blk] using hk) with h | h
          · exact .inl h
          · exact .inr (by omega)
      case measure => simp [intOf]; omega

end Go.Proofs.Qxb6618065a
