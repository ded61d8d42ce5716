/-
  THE LAW FnConsumeStreamScript, OUT OF THE CONTRACTS.
-/
import Derived.Test.Qxb6619168aWalks
import Derived.Test.Qxb6619168aLaw3
import Derived.Test.Qxb6619168aRowIn
import Derived.Deep.RegionWith
import Derived.Deep.CutRange
import Derived.Deep.DeepCutAuto
import Derived.Below
namespace Go.Proofs.Qxb6619168a
open Go.RowKit

/-- The first n elements behind a read as the ints ss. -/
structure RdI (w : World) (a : Option Addr) (n : Nat) (ss : List Int) : Prop where
  cells : 0 < n → ∃ b off, a = some ⟨b, off, none⟩ ∧ ∀ i, i < n → w.cell? ⟨b, off + i, none⟩ = some (.int .i64 (ss.getD i 0))

theorem RdI.same {w w' : World} {a : Option Addr} {n : Nat} {ss : List Int} (h : RdI w a n ss) (hg : w.grownBy w' none) : RdI w' a n ss := by
  refine ⟨fun h0 => ?_⟩
  obtain ⟨b, off, rfl, hc⟩ := h.cells h0
  exact ⟨b, off, rfl, fun i hi => hg.cell (hc i hi) (by simp)⟩

theorem rdi_of_row {w : World} {a : Option Addr} {len cap : Nat} {zs : List Int}
    (h : (a = none ∧ len = 0 ∧ cap = 0 ∧ zs = []) ∨
      ∃ x, a = some x ∧ len ≤ cap ∧ cap ≤ maxLen ∧ zs.length = cap ∧ (∀ i, i < zs.length → w.cell? (x.add i) = some (.int .i64 (zs.getD i 0))) ∧ ∀ n ∈ zs, (Lit.int .i64 n).wf = true) :
    RdI w a len zs ∧ len ≤ 9223372036854775807 := by
  rcases h with ⟨rfl, rfl, rfl, rfl⟩ | ⟨x, rfl, hl, hm, hz, hc, hw⟩
  · exact ⟨⟨fun h => by omega⟩, by omega⟩
  · unfold maxLen at hm
    refine ⟨⟨fun h0 => ?_⟩, by omega⟩
    obtain ⟨b, off, spot⟩ := x
    have hs : spot = none := by simpa [Addr.add] using World.cell?_spot (hc 0 (by omega))
    subst hs
    refine ⟨b, off, rfl, fun i hi => ?_⟩
    have := hc i (by omega)
    rwa [Addr.add_lit] at this

theorem zzb12_any (a : Option Addr) (n c : Nat) (b : Option Addr) (m d : Nat) (w : World) (h : n ≤ 9223372036854775807) (h2 : m ≤ 9223372036854775807) : Calls Try.prog 12 #[.slice a n c, .slice b m d] w fun e w' => (e = .returned (.bool true) ∨ e = .returned (.bool false)) ∧ w = w' := by
  by_cases c1 : n ≤ 1048576
  · by_cases c2 : m ≤ 1048576
    · go_enter Try.func12, Try.ntmps12
      go_wp2
      all_goals (go_ret; first | exact ⟨.inl rfl, rfl⟩ | exact ⟨.inr rfl, rfl⟩)
    · go_enter Try.func12, Try.ntmps12
      go_wp2
      all_goals (go_ret; first | exact ⟨.inl rfl, rfl⟩ | exact ⟨.inr rfl, rfl⟩)
  · go_enter Try.func12, Try.ntmps12
    go_wp2
    all_goals (go_ret; first | exact ⟨.inl rfl, rfl⟩ | exact ⟨.inr rfl, rfl⟩)

theorem zzb12_yes (a : Option Addr) (n c : Nat) (b : Option Addr) (m d : Nat) (w : World) (h : n + m ≤ 1048576) : Calls Try.prog 12 #[.slice a n c, .slice b m d] w fun e w' => e = .returned (.bool true) ∧ w = w' := by
  go_enter Try.func12, Try.ntmps12
  go_wp2
  go_ret
  exact ⟨rfl, rfl⟩

theorem law4_early (a : Option Addr) (n c : Nat) (b : Option Addr) (m d : Nat) (w : World) (hn : n ≤ 9223372036854775807) (hm : m ≤ 9223372036854775807) (h : ¬ (n ≤ 1048576 ∧ m ≤ (1048576 - n) / 8)) :
    Calls Try.prog 4 #[.slice a n c, .slice b m d] w fun e w' => e = .returned (.bool true) ∧ Below w.heap.size w w' := by
  by_cases c1 : n ≤ 1048576
  · have c2 : (1048576 - (n : Int)) / 8 < (m : Int) := by omega
    clear h
    go_enter Try.func4, Try.ntmps4
    go_wp2_with fail
    refine (zzb12_any a n c b m d w hn hm).mono ?_
    rintro e w' ⟨rfl | rfl, rfl⟩
    · go_wp2
      go_ret
      exact ⟨rfl, Below.refl _ _⟩
    · go_wp2
      go_ret
      exact ⟨rfl, Below.refl _ _⟩
  · clear h
    go_enter Try.func4, Try.ntmps4
    go_wp2_with fail
    refine (zzb12_any a n c b m d w hn hm).mono ?_
    rintro e w' ⟨rfl | rfl, rfl⟩
    · go_wp2
      go_ret
      exact ⟨rfl, Below.refl _ _⟩
    · go_wp2
      go_ret
      exact ⟨rfl, Below.refl _ _⟩

theorem Own.cast {w : World} {a : Option Addr} {n n' c : Nat} {zs zs' : List Int} (h : Own w a n c zs) (e : n = n') (e2 : zs = zs') : Own w a n' c zs' := by
  rw [← e, ← e2]; exact h

theorem Rd.mid {w : World} {a a' : Option Addr} {n : Nat} {zs : List Int} (h : Rd w a n zs) (lo hi M : Nat) (hlo : lo ≤ hi) (hhi : hi ≤ n) (hM : M = hi - lo) (ha : a' = a.map (fun x => x.add lo) ∨ (a' = a ∧ lo = n)) : Rd w a' M ((zs.take hi).drop lo) := by
  subst hM
  exact (h.take hi hhi).drop lo hlo (fun hlt b off e => by
    rcases ha with h0 | ⟨_, h0⟩
    · rw [h0, e]; simp only [Option.map_some, Addr.add_lit]
    · omega)

theorem mid_append (zs : List Int) (lo hi u : Nat) (h1 : lo ≤ hi) (h2 : hi ≤ u) (h3 : u ≤ zs.length) : (zs.take hi).drop lo ++ (zs.take u).drop hi = (zs.take u).drop lo := by
  have e : zs.take hi = (zs.take u).take hi := by rw [List.take_take, Nat.min_eq_left h2]
  rw [e]
  have hl : (zs.take u).length = u := by rw [List.length_take]; omega
  conv => rhs; rw [← List.take_append_drop hi (zs.take u)]
  rw [List.drop_append_of_le_length (by rw [List.length_take, hl]; omega)]

set_option maxHeartbeats 2000000 in
set_option maxRecDepth 100000 in
theorem law4_go (a0 : Option Addr) (n c0 : Nat) (zs : List Int) (a1 : Option Addr) (m d : Nat) (ss : List Int) (w : World) (h : Rd w a0 n zs) (hs : RdI w a1 m ss) (hnc : n ≤ c0) (hn : n ≤ 1048576) (hm : m ≤ (1048576 - n) / 8) :
    Calls Try.prog 4 #[.slice a0 n c0, .slice a1 m d] w fun e w' => e = .returned (.bool true) ∧ Below w.heap.size w w' := by
  have hm' : (m : Int) ≤ (1048576 - (n : Int)) / 8 := by omega
  have hm2 : n + m ≤ 1048576 := by omega
  obtain ⟨i0, hi0, hz0, hz1, hz2⟩ := info_parts info5
  go_enter Try.func4, Try.ntmps4
  go_wp2_with fail
  refine (zzb12_yes a0 n c0 a1 m d w hm2).mono ?_
  rintro e w' ⟨rfl, rfl⟩
  go_wp2
  go_loopw [5] (fun i wr => ∃ k : Nat, k ≤ m ∧ i = .int .i64 k ∧ (∀ j, j < k → -1048576 ≤ ss.getD j 0 ∧ ss.getD j 0 ≤ 1048576) ∧ w = wr) (fun i _ => m - (intOf i).toNat)
  case atStart => exact ⟨0, Nat.zero_le _, rfl, fun j hj => by omega, rfl⟩
  case round =>
    obtain ⟨k, hk, rfl, ht, rfl⟩ := hrel
    by_cases hlt : k < m
    · obtain ⟨b1, o1, rfl, hc1⟩ := hs.cells (by omega)
      have hd1 := hc1 k hlt
      clear hc1
      obtain ⟨x, hx'⟩ : ∃ x, ss.getD k 0 = x := ⟨_, rfl⟩
      rw [hx'] at hd1
      have HX : Hid (ss.getD k 0 = x) := hx'
      clear hx'
      by_cases hx1 : x < -1048576
      · go_wp2
        go_ret
        exact ⟨rfl, Below.refl _ _⟩
      · by_cases hx2 : 1048576 < x
        · go_wp2
          go_ret
          exact ⟨rfl, Below.refl _ _⟩
        · go_wp2
          go_roundw
          case rel =>
            refine ⟨k + 1, by omega, by go_num, fun j hj => ?_, trivial⟩
            by_cases hjk : j = k
            · rw [hjk, HX.out]; omega
            · exact ht j (by omega)
          case measure => simp [intOf]; omega
    · obtain rfl : k = m := by omega
      clear hlt hk
      have HT : Hid (∀ j, j < k → -1048576 ≤ ss.getD j 0 ∧ ss.getD j 0 ≤ 1048576) := ht
      clear ht
      go_wp2
      go_loopw [6, 7, 8, 9] (fun b l u i wr => ∃ (j lo hi : Nat) (a : Option Addr) (c : Nat), j ≤ k ∧ i = .int .i64 j ∧ lo ≤ hi ∧ hi ≤ n ∧ b = .slice a (hi - lo) c ∧ l = .int .i64 lo ∧ u = .int .i64 hi ∧
        Own wr a (hi - lo) c ((zs.take hi).drop lo) ∧ w.grownBy wr none ∧ (∀ q, blk a = some q → w.heap.size ≤ q ∧ q < wr.heap.size)) (fun _ _ _ i _ => k - (intOf i).toNat)
      case atStart => exact ⟨0, 0, 0, none, 0, Nat.zero_le _, rfl, Nat.le_refl _, Nat.zero_le _, rfl, rfl, rfl, Own.nilOwn _, World.grownBy.refl _ _, fun q hq => by simp [blk] at hq⟩
      case round =>
        obtain ⟨j, lo, hi, a, c, hj, rfl, hlo, hhi, rfl, rfl, rfl, ho, hg, hb⟩ := hrel
        by_cases hlt : j < k
        · obtain ⟨b1, o1, rfl, hc1⟩ := hs.cells (by omega)
          have hd1 := hg.cell (hc1 j hlt) (by simp)
          have hsb := HT.out j hlt
          clear hc1
          obtain ⟨x, hx'⟩ : ∃ x, ss.getD j 0 = x := ⟨_, rfl⟩
          rw [hx'] at hd1 hsb
          clear hx'
          have hdat := h.same hg
          go_upto_if 56 with fail
          go_cut [6, 7, 8, 11, 12] from 45 to 104 (fun b l u _ _ wx => ∃ (lo' hi' : Nat) (a' : Option Addr) (c' : Nat), lo' ≤ hi' ∧ hi' ≤ n ∧ b = .slice a' (hi' - lo') c' ∧ l = .int .i64 lo' ∧ u = .int .i64 hi' ∧
            Own wx a' (hi' - lo') c' ((zs.take hi').drop lo') ∧ w.grownBy wx none ∧ (∀ q, blk a' = some q → w.heap.size ≤ q ∧ q < wx.heap.size))
          case first =>
            by_cases hx0 : 0 ≤ x
            · obtain ⟨t, rfl⟩ := Int.eq_ofNat_of_zero_le hx0
              clear hx0
              by_cases hmin : (t : Int) ≤ (n : Int) - (hi : Int)
              · by_cases hc0 : c0 = hi
                · subst hc0
                  go_wp2_with (at_builtin; refine wpList_append_buf _ rfl (.tmp 68) (.tmp 74) 22 22 rfl 5 i0 Try.underlying22 hi0 hz0 hz1 hz2 a (c0 - lo) c _ rfl ho _ rfl _ ((zs.take (c0 + t)).drop c0) (Rd.src (Rd.mid hdat c0 (c0 + t) _ (by omega) (by omega) (by omega) (.inr ⟨rfl, by omega⟩)) 22 5 Try.underlying22 _) (fun z hz => hdat.wf z (List.mem_of_mem_take (List.mem_of_mem_drop hz))) (by omega) ?_)
                  intro a' c' w1 ho1 hg1 hb1 hb2 _
                  have G := grown_trans hg hg1 (fun q hq => .inr (hb q hq).1)
                  have B := after_append hb1 hb2
                  have S := hg1.size
                  have S0 := hg.size
                  clear hb1 hb2
                  go_wp2_with fail
                  go_meet
                  case rel =>
                    exact ⟨lo, (c0 + t), a', c', by omega, by omega, congrArg (fun k => Value.slice a' k c') (by omega), rfl, by go_num, ho1.cast (by omega) (mid_append zs lo c0 (c0 + t) (by omega) (by omega) (by rw [hdat.len]; omega)), G,
                      fun q hq => by rcases B q hq with h1 | h1; (have := hb q h1; omega); omega⟩
                · have hc0' : hi < c0 := by omega
                  go_wp2_with (at_builtin; refine wpList_append_buf _ rfl (.tmp 68) (.tmp 74) 22 22 rfl 5 i0 Try.underlying22 hi0 hz0 hz1 hz2 a (hi - lo) c _ rfl ho _ rfl _ ((zs.take (hi + t)).drop hi) (Rd.src (Rd.mid hdat hi (hi + t) _ (by omega) (by omega) (by omega) (.inl rfl)) 22 5 Try.underlying22 _) (fun z hz => hdat.wf z (List.mem_of_mem_take (List.mem_of_mem_drop hz))) (by omega) ?_)
                  intro a' c' w1 ho1 hg1 hb1 hb2 _
                  have G := grown_trans hg hg1 (fun q hq => .inr (hb q hq).1)
                  have B := after_append hb1 hb2
                  have S := hg1.size
                  have S0 := hg.size
                  clear hb1 hb2
                  go_wp2_with fail
                  go_meet
                  case rel =>
                    exact ⟨lo, (hi + t), a', c', by omega, by omega, congrArg (fun k => Value.slice a' k c') (by omega), rfl, by go_num, ho1.cast (by omega) (mid_append zs lo hi (hi + t) (by omega) (by omega) (by rw [hdat.len]; omega)), G,
                      fun q hq => by rcases B q hq with h1 | h1; (have := hb q h1; omega); omega⟩
              · by_cases hc0 : c0 = hi
                · subst hc0
                  go_wp2_with (at_builtin; refine wpList_append_buf _ rfl (.tmp 68) (.tmp 74) 22 22 rfl 5 i0 Try.underlying22 hi0 hz0 hz1 hz2 a (c0 - lo) c _ rfl ho _ rfl _ ((zs.take n).drop c0) (Rd.src (Rd.mid hdat c0 n _ (by omega) (by omega) (by omega) (.inr ⟨rfl, by omega⟩)) 22 5 Try.underlying22 _) (fun z hz => hdat.wf z (List.mem_of_mem_take (List.mem_of_mem_drop hz))) (by omega) ?_)
                  intro a' c' w1 ho1 hg1 hb1 hb2 _
                  have G := grown_trans hg hg1 (fun q hq => .inr (hb q hq).1)
                  have B := after_append hb1 hb2
                  have S := hg1.size
                  have S0 := hg.size
                  clear hb1 hb2
                  go_wp2_with fail
                  go_meet
                  case rel =>
                    exact ⟨lo, n, a', c', by omega, by omega, congrArg (fun k => Value.slice a' k c') (by omega), rfl, by go_num, ho1.cast (by omega) (mid_append zs lo c0 n (by omega) (by omega) (by rw [hdat.len]; omega)), G,
                      fun q hq => by rcases B q hq with h1 | h1; (have := hb q h1; omega); omega⟩
                · have hc0' : hi < c0 := by omega
                  go_wp2_with (at_builtin; refine wpList_append_buf _ rfl (.tmp 68) (.tmp 74) 22 22 rfl 5 i0 Try.underlying22 hi0 hz0 hz1 hz2 a (hi - lo) c _ rfl ho _ rfl _ ((zs.take n).drop hi) (Rd.src (Rd.mid hdat hi n _ (by omega) (by omega) (by omega) (.inl rfl)) 22 5 Try.underlying22 _) (fun z hz => hdat.wf z (List.mem_of_mem_take (List.mem_of_mem_drop hz))) (by omega) ?_)
                  intro a' c' w1 ho1 hg1 hb1 hb2 _
                  have G := grown_trans hg hg1 (fun q hq => .inr (hb q hq).1)
                  have B := after_append hb1 hb2
                  have S := hg1.size
                  have S0 := hg.size
                  clear hb1 hb2
                  go_wp2_with fail
                  go_meet
                  case rel =>
                    exact ⟨lo, n, a', c', by omega, by omega, congrArg (fun k => Value.slice a' k c') (by omega), rfl, by go_num, ho1.cast (by omega) (mid_append zs lo hi n (by omega) (by omega) (by rw [hdat.len]; omega)), G,
                      fun q hq => by rcases B q hq with h1 | h1; (have := hb q h1; omega); omega⟩
            · obtain ⟨t, rfl⟩ : ∃ t : Nat, x = -(t : Int) := ⟨(-x).toNat, by omega⟩
              by_cases hmin : (t : Int) ≤ ((hi - lo : Nat) : Int)
              · go_wp2_with fail
                refine (zz_consume a (hi - lo) c _ t wr ho (by omega) (by omega) (by omega)).mono ?_
                rintro e w1 ⟨a', c', rfl, ho1, hg1, B⟩
                have G := grown_trans hg hg1 (fun q hq => .inr (hb q hq).1)
                have S := hg1.size
                have S0 := hg.size
                go_wp2_with fail
                go_meet
                case rel =>
                  exact ⟨lo + t, hi, a', c', by omega, by omega, congrArg (fun k => Value.slice a' k c') (by omega), by go_num, rfl, ho1.cast (by omega) (by rw [List.drop_drop, Int.toNat_natCast]), G,
                    fun q hq => by rcases B q hq with h1 | h1; (have := hb q h1; omega); omega⟩
              · go_wp2_with fail
                refine (zz_consume a (hi - lo) c _ ((hi - lo : Nat) : Int) wr ho (by omega) (by omega) (by omega)).mono ?_
                rintro e w1 ⟨a', c', rfl, ho1, hg1, B⟩
                have G := grown_trans hg hg1 (fun q hq => .inr (hb q hq).1)
                have S := hg1.size
                have S0 := hg.size
                go_wp2_with fail
                go_meet
                case rel =>
                  exact ⟨lo + (hi - lo), hi, a', c', by omega, by omega, congrArg (fun k => Value.slice a' k c') (by omega), by go_num, rfl, ho1.cast (by omega) (by rw [List.drop_drop, Int.toNat_natCast]), G,
                    fun q hq => by rcases B q hq with h1 | h1; (have := hb q h1; omega); omega⟩
          case rest =>
            obtain ⟨lo', hi', a', c', hlo', hhi', rfl, rfl, rfl, ho', hg', hb'⟩ := hcut
            have hdat' := h.same hg'
            have hr' := ho'.rd
            by_cases hc0 : c0 = lo'
            · subst hc0
              go_wp2_with fail
              refine (same_yes _ _ 0 _ 0 _ [] [] wc ⟨rfl, by simp, fun h => by omega⟩ ⟨rfl, by simp, fun h => by omega⟩ (by omega) (by omega) rfl).mono ?_
              rintro e w2 ⟨rfl, g2⟩
              go_wp2
              go_roundw
              case rel => exact ⟨j + 1, c0, hi', a', c', by omega, by go_num, hlo', hhi', congrArg (fun k => Value.slice a' k c') (by omega), rfl, rfl, ho'.same g2, grown_trans hg' g2 (by simp), fun q hq => by have := hb' q hq; have := g2.size; omega⟩
              case measure => simp [intOf]; omega
            · have hc0' : lo' < c0 := by omega
              go_wp2_with fail
              refine (same_yes _ _ _ _ _ _ _ _ wc hr' (Rd.mid hdat' lo' hi' _ (by omega) (by omega) (by omega) (.inl rfl)) (by omega) (by omega) rfl).mono ?_
              rintro e w2 ⟨rfl, g2⟩
              go_wp2
              go_roundw
              case rel => exact ⟨j + 1, lo', hi', a', c', by omega, by go_num, hlo', hhi', rfl, rfl, rfl, ho'.same g2, grown_trans hg' g2 (by simp), fun q hq => by have := hb' q hq; have := g2.size; omega⟩
              case measure => simp [intOf]; omega
        · go_wp2
          go_ret
          exact ⟨rfl, (Below.refl w.heap.size w).grown hg (Nat.le_refl _) (by simp)⟩

end Go.Proofs.Qxb6619168a
