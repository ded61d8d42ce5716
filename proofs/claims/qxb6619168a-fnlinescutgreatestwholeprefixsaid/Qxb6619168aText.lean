/-
  THE CONTRACT OF AppendText AT A NIL DESTINATION, the width positive: the text's length, and where its line feeds stand.
-/
import Derived.Test.Qxb6619168aPart
import Derived.Test.Qxb6619168aLaw4
namespace Go.Proofs.Qxb6619168a
open Go.RowKit

set_option maxHeartbeats 400000 in
set_option maxRecDepth 100000 in
theorem text_pos (g S W : Nat) (s0 : Int) (a : Option Addr) (m c : Nat) (zs : List Int) (w : World) (hr : Rd w a m zs) (hne : 0 < m → blk a ≠ some g)
    (h0 : w.cell? ⟨g, 0, none⟩ = some (.int .i64 W)) (h1 : w.cell? ⟨g, 1, none⟩ = some (.int .i64 S)) (h2 : w.cell? ⟨g, 2, none⟩ = some (.int .i64 s0))
    (f1 : w.frozen? ⟨g, 1, none⟩ = false) (f2 : w.frozen? ⟨g, 2, none⟩ = false) (hS : S ≤ 2305843009213693952) (hm : m ≤ 1048576) (hW : W ≤ 1073741824) (hW0 : 0 < W) (hmc : m ≤ c) :
    Calls Try.prog 16 #[.pointer (some ⟨g, 0, none⟩), .slice none 0 0, .slice a m c] w (TextPost g W S m w) := by
  have hgs := World.block_lt_of_cell? w _ h0
  have hab : 0 < m → ∀ q, blk a = some q → q < w.heap.size := fun hm0 q hq => by
    obtain ⟨b, off, rfl, hc⟩ := hr.cells hm0
    have := World.block_lt_of_cell? w _ (hc 0 hm0)
    simp [blk] at hq
    rw [← hq]; exact this
  have hb0 : ((W : Int) == 0) = false := by simp; omega
  have hl1 := fun wx => lines_len' S W wx (by omega) hW
  have hl2 := fun wx => lines_len' (S + m) W wx (by omega) hW
  obtain ⟨N, eN⟩ : ∃ N, S + m = N := ⟨_, rfl⟩
  have hN : (S : Int) + (m : Int) = (N : Int) := by omega
  have HN := hid eN
  rw [eN] at hl2
  have hd := LL_diff S m W
  rw [eN] at hd
  have hmono := LL_mono W (Nat.le_add_right S m)
  rw [eN] at hmono
  have hle1 := LL_le S W
  have hle2 := LL_le (S + m) W
  obtain ⟨sz, hsz⟩ : ∃ sz, LL N W - LL S W = sz := ⟨_, rfl⟩
  have HSZ := hid hsz
  obtain ⟨L1, e1⟩ : ∃ L1, LL S W = L1 := ⟨_, rfl⟩
  obtain ⟨L2, e2⟩ : ∃ L2, LL N W = L2 := ⟨_, rfl⟩
  rw [e1] at hl1 hd hmono hle1 hsz
  rw [eN] at hle2
  rw [e2] at hl2 hd hmono hle2 hsz
  clear e1 e2 eN
  have hsz' : (L2 : Int) - (L1 : Int) = (sz : Int) := by omega
  have hsz2 : sz ≤ 2 * m := by omega
  go_enter Try.func16, Try.ntmps16
  go_upto_region 3 with fail
  obtain ⟨w2, e2, c0, c1, c2, G⟩ := stores (o := (N : Int)) h0 h1 h2
  rw [e2]
  have hr2 : Rd w2 a m zs := hr.kept0 G hne
  clear e2 h0 h1 h2 f1 f2 hr
  go_upto_region 6 with fail
  go_quiet (first | (go_at_call_of 24 (Value.int .i64 (N : Int)); exact Calls.quiet_of_same (hl2 _)) | (go_at_call_of 24 (Value.int .i64 (S : Int)); exact Calls.quiet_of_same (hl1 _)))
  go_wp2_with fail
  refine (grow_nil sz _ (by omega)).mono ?_
  rintro e w3 ⟨ad, cd, rfl, od, gd, bd⟩
  have G3 : w.grownBy w3 (some g) := grown_trans (grown_trans G (grown_drewN w2 _) (by simp)) gd (by simp)
  have c0' := gd.cell ((grown_drewN w2 _).cell c0 (by simp)) (by simp)
  have c2' := gd.cell ((grown_drewN w2 _).cell c2 (by simp)) (by simp)
  have hr3 := (hr2.same (grown_drewN w2 _)).same gd
  have bd' : ∀ q, blk ad = some q → w.heap.size ≤ q ∧ q < w3.heap.size := fun q hq => by
    have := bd q hq
    have := G.size
    simp at *
    omega
  clear c0 c1 c2 hr2 bd gd G
  have hcd := od.le
  obtain ⟨R, hR⟩ : ∃ R, S % W = R := ⟨_, rfl⟩
  have hcs := col_start (S := S) hW0
  rw [hR] at hcs
  obtain ⟨q0, hq0⟩ : ∃ q0, col S W = q0 := ⟨_, rfl⟩
  rw [hq0] at hcs
  have HQ0 := hid hq0
  have HCS := hid hcs
  have hRm : (S : Int).tmod (W : Int) = (R : Int) := by rw [← hR]; exact (Int.ofNat_tmod _ _).symm
  clear hq0 hcs hR
  go_upto_region 10 with fail
  go_quiet (fail)
  go_upto_region 11 with fail
  obtain ⟨bb, hbb⟩ : ∃ bb : Bool, bb = decide (R = 0 ∧ 0 < S) := ⟨_, rfl⟩
  have HBB := hid hbb
  clear hbb
  go_cut [93] (fun v wx => v = .bool bb ∧ w3.grownBy wx none)
  case first =>
    by_cases hR0 : R = 0
    · by_cases hS0 : 0 < S
      · have hbt : bb = true := by rw [HBB.out]; exact decide_eq_true ⟨hR0, hS0⟩
        subst hbt
        have hRb : ((R : Int) == 0) = true := by simp [hR0]
        have HR0 := hid hR0
        clear hR0
        go_wp2_with fail
        go_meet
        case rel => exact ⟨rfl, grown_drewN _ _⟩
      · have hbt : bb = false := by rw [HBB.out]; exact decide_eq_false (fun h => hS0 h.2)
        subst hbt
        have hRb : ((R : Int) == 0) = true := by simp [hR0]
        have HR0 := hid hR0
        clear hR0
        go_wp2_with fail
        go_meet
        case rel => exact ⟨rfl, grown_drewN _ _⟩
    · have hbt : bb = false := by rw [HBB.out]; exact decide_eq_false (fun h => hR0 h.1)
      subst hbt
      have hRb : ((R : Int) == 0) = false := by simp [hR0]
      have HR0 := hid hR0
      clear hR0
      go_wp2_with fail
      go_meet
      case rel => exact ⟨rfl, grown_drewN _ _⟩
  case rest =>
    obtain ⟨rfl, g4⟩ := hcut
    go_upto_if 93 with fail
    go_cut [11] (fun v wx => v = .int .i64 q0 ∧ wc = wx)
    case first =>
      cases bb with
      | true =>
        have hW1 : W = q0 := (HCS.out.1 (of_decide_eq_true HBB.out.symm)).symm
        have HW1 := hid hW1
        clear hW1
        go_wp2_with fail
        go_meet
        case rel => exact ⟨by rw [HW1.out], rfl⟩
      | false =>
        have hW1 : R = q0 := (HCS.out.2 (of_decide_eq_false HBB.out.symm)).symm
        have HW1 := hid hW1
        clear hW1
        go_wp2_with fail
        go_meet
        case rel => exact ⟨by rw [HW1.out], rfl⟩
    case rest =>
      obtain ⟨rfl, rfl⟩ := hcut
      have o4 := od.same g4
      have c0'' := g4.cell c0' (by simp)
      have c2'' := g4.cell c2' (by simp)
      have G4 := grown_trans G3 g4 (by simp)
      have hr4 := hr3.same g4
      have hs4 := g4.size
      have HSZ' : Hid (LL (S + m) W - LL S W = sz) := (by rw [HN.out]; exact HSZ.out : LL (S + m) W - LL S W = sz)
      clear hl1 hl2 hle1 hle2 hd hmono hsz hsz' HCS HBB hRm c0' c2' od G3 hr3 HSZ hN HN
      generalize hwd : wc = wd at *
      clear hwd
      by_cases hw6 : W < 6
      · have hw6' : (W : Int) < 6 := by omega
        go_wp2
        go_loopw [99, 12, 11] (fun k i q wr => ∃ t pp qq : Nat, t ≤ m ∧ k = .int .i64 t ∧ i = .int .i64 pp ∧ q = .int .i64 qq ∧ Hid (pp = LL (S + t) W - LL S W) ∧ Hid (qq = col (S + t) W) ∧
          (∃ ys, Own wr ad sz cd ys ∧ Feeds S W t ys) ∧ wd.grownBy wr (blk ad)) (fun k _ _ _ => m - (intOf k).toNat)
        case atStart => exact ⟨0, 0, q0, Nat.zero_le _, rfl, rfl, rfl, hid (by simp), hid HQ0.out.symm, ⟨_, o4, fun j hj => by omega⟩, World.grownBy.refl _ _⟩
        case round =>
          obtain ⟨t, pp, qq, ht, rfl, rfl, rfl, HP, HQ, ⟨ys, oy, HF⟩, gr⟩ := hrel
          by_cases hlt : t < m
          · obtain ⟨b1, o1, rfl, hc1⟩ := hr4.cells (by omega)
            have hn1 : some b1 ≠ blk ad := fun e => by have := (bd' b1 e.symm).1; have := hab (by omega) b1 rfl; omega
            have hd1 := gr.cell (hc1 t hlt) hn1
            have hbv := hr4.wf _ (getD_mem (show t < zs.length by rw [hr4.len]; exact hlt))
            clear hc1
            obtain ⟨bv, hbv'⟩ : ∃ bv, zs.getD t 0 = bv := ⟨_, rfl⟩
            rw [hbv'] at hd1 hbv
            clear hbv'
            have hql := col_le (N := S + t) hW0
            rw [← HQ.out] at hql
            have hmo := LL_mono W (show S + (t + 1) ≤ S + m by omega)
            have hmo2 := LL_mono W (show S ≤ S + t by omega)
            have hyl := oy.len
            by_cases hqW : qq = W
            · have hcol : col (S + t) W = W := by rw [← HQ.out]; exact hqW
              obtain ⟨p1, p2⟩ := LL_past hW0 hcol (Nat.le_refl 1) (by omega)
              have hpp : pp + 1 < sz := by
                have h1 := HP.out; have h2 := HSZ'.out
                rw [← Nat.add_assoc] at hmo
                omega
              have HP1 : Hid (pp + 2 = LL (S + (t + 1)) W - LL S W) := (by have h1 := HP.out; rw [← Nat.add_assoc]; omega : pp + 2 = LL (S + (t + 1)) W - LL S W)
              have HQ1 : Hid (1 = col (S + (t + 1)) W) := hid (by rw [← Nat.add_assoc]; exact p2.symm)
              obtain ⟨b2, o2, rfl, hc2⟩ := oy.rd.cells (by omega)
              have hA := hc2 pp (by omega)
              obtain ⟨b2', o2', eb, hroom, _⟩ := oy.room _ rfl
              cases eb
              have hFz := (hroom pp (by omega)).2
              have hpi : (pp : Int) < (sz : Int) := by omega
              have hqb : ((qq : Int) == (W : Int)) = true := by simp [hqW]
              clear hqW hcol p1 p2 hmo hmo2 hroom hc2
              go_upto_region 20 with fail
              obtain ⟨oy2, gy2⟩ := oy.set pp (by omega) 10 (by omega)
              generalize wr.setCell ⟨b2, o2 + pp, none⟩ (.int .u8 10) = w5 at oy2 gy2 ⊢
              obtain ⟨b2', o2', eb, hroom, hcell⟩ := oy2.room _ rfl
              cases eb
              have hA2 := hcell (pp + 1) (by omega)
              have hFz2 := (hroom (pp + 1) (by omega)).2
              have hpi2 : ((pp : Int) + 1) < (sz : Int) := by omega
              clear hA hFz hpi hroom hcell
              go_wp2
              go_roundw
              case rel =>
                obtain ⟨oy3, gy3⟩ := oy2.set (pp + 1) hpp bv hbv
                exact ⟨t + 1, pp + 2, 1, by omega, by go_num, by go_num, rfl, HP1, HQ1, ⟨_, oy3, Feeds.feed HF HP.out (by omega)⟩, grown_into (grown_into gr gy2 rfl) gy3 rfl⟩
              case measure => simp [intOf]; omega
            · have hcol : ¬ col (S + t) W = W := by rw [← HQ.out]; exact hqW
              obtain ⟨p1, p2⟩ := LL_within hW0 (show col (S + t) W + 1 ≤ W by rw [← HQ.out]; omega)
              have hpp : pp < sz := by
                have h1 := HP.out; have h2 := HSZ'.out
                rw [← Nat.add_assoc] at hmo
                omega
              have HP1 : Hid (pp + 1 = LL (S + (t + 1)) W - LL S W) := (by have h1 := HP.out; rw [← Nat.add_assoc]; omega : pp + 1 = LL (S + (t + 1)) W - LL S W)
              have HQ1 : Hid (qq + 1 = col (S + (t + 1)) W) := hid (by rw [← Nat.add_assoc, HQ.out]; exact p2.symm)
              have HNF : Hid (¬ Fd (S + t) W) := hid (fun h => hcol ((col_full hW0).2 h))
              obtain ⟨b2, o2, rfl, hc2⟩ := oy.rd.cells (by omega)
              have hA := hc2 pp (by omega)
              obtain ⟨b2', o2', eb, hroom, _⟩ := oy.room _ rfl
              cases eb
              have hFz := (hroom pp (by omega)).2
              have hpi : (pp : Int) < (sz : Int) := by omega
              have hqb : ((qq : Int) == (W : Int)) = false := by simp; omega
              clear hcol p1 p2 hmo hmo2 hroom hc2
              go_wp2
              go_roundw
              case rel =>
                obtain ⟨oy2, gy2⟩ := oy.set pp hpp bv hbv
                exact ⟨t + 1, pp + 1, qq + 1, by omega, by go_num, by go_num, by go_num, HP1, HQ1, ⟨_, oy2, Feeds.byte HF HP.out HNF.out⟩, grown_into gr gy2 rfl⟩
              case measure => simp [intOf]; omega
          · obtain rfl : t = m := by omega
            go_wp2
            go_ret
            exact text_end HSZ'.out oy HF c0'' c2'' G4 gr hgs (fun q hq => by have := bd' q hq; omega)
      · have hw6' : ¬ (W : Int) < 6 := by omega
        go_wp2
        go_loopw [15, 12, 11] (fun k i q wr => ∃ t pp qq : Nat, t ≤ m ∧ k = .int .i64 t ∧ i = .int .i64 pp ∧ q = .int .i64 qq ∧ Hid (pp = LL (S + t) W - LL S W) ∧ Hid (qq = col (S + t) W) ∧
          (∃ ys, Own wr ad sz cd ys ∧ Feeds S W t ys) ∧ wd.grownBy wr (blk ad)) (fun k _ _ _ => m - (intOf k).toNat)
        case atStart => exact ⟨0, 0, q0, Nat.zero_le _, rfl, rfl, rfl, hid (by simp), hid HQ0.out.symm, ⟨_, o4, fun j hj => by omega⟩, World.grownBy.refl _ _⟩
        case round =>
          obtain ⟨t, pp, qq, ht, rfl, rfl, rfl, HP, HQ, ⟨ys, oy, HF⟩, gr⟩ := hrel
          by_cases hlt : t < m
          · obtain ⟨b1, o1, rfl, hc1⟩ := hr4.cells (by omega)
            have hn1 : some b1 ≠ blk ad := fun e => by have := (bd' b1 e.symm).1; have := hab (by omega) b1 rfl; omega
            have hr5 := hr4.kept gr (.inr hn1)
            clear hc1
            have hyl := oy.len
            have hmo := LL_mono W (show S + (t + 1) ≤ S + m by omega)
            have hlt1 := LL_lt W (show S + t < S + (t + 1) by omega)
            have hmo2 := LL_mono W (show S ≤ S + t by omega)
            have hpp : pp < sz := by
              have h1 := HP.out; have h2 := HSZ'.out
              omega
            have hab1 : b1 < w.heap.size := hab (by omega) b1 rfl
            clear hmo hlt1 hmo2
            obtain ⟨b2, o2, rfl, hc2⟩ := oy.rd.cells (by omega)
            go_upto_if 127 with fail
            go_cut [11, 12] from 121 to 156 (fun q i wx => ∃ (p1 q1 : Nat) (ys1 : List Int), q = .int .i64 q1 ∧ i = .int .i64 p1 ∧ Part S W t p1 q1 ys1 ∧ Own wx (some ⟨b2, o2, none⟩) sz cd ys1 ∧ wd.grownBy wx (some b2))
            case first =>
              by_cases hqW : qq = W
              · have hqb : ((qq : Int) == (W : Int)) = true := by simp [hqW]
                have hA := hc2 pp (by omega)
                obtain ⟨b2', o2', eb, hroom, _⟩ := oy.room _ rfl
                cases eb
                have hFz := (hroom pp (by have := oy.le; omega)).2
                have hpi : (pp : Int) < (sz : Int) := by omega
                have HQW := hid hqW
                clear hqW hroom hc2
                go_wp2_with fail
                go_meet
                case rel =>
                  obtain ⟨oy2, gy2⟩ := oy.set pp (by omega) 10 (by omega)
                  exact ⟨pp + 1, 0, _, rfl, by go_num, part_past hW0 HP.out HQ.out HF HQW.out (by omega), oy2, grown_into gr gy2 rfl⟩
              · have hqb : ((qq : Int) == (W : Int)) = false := by simp; omega
                go_wp2_with fail
                go_meet
                case rel => exact ⟨pp, qq, ys, rfl, rfl, part_within hW0 HP.out HQ.out HF hqW, oy, gr⟩
            case rest =>
              obtain ⟨p1, q1, ys1, rfl, rfl, HPt, oz, gz⟩ := hcut
              clear oy gr HF HP HQ hyl hpp hr5 hc2
              have hq1 := HPt.lt
              obtain ⟨n, hn⟩ : ∃ n, min (W - q1) (m - t) = n := ⟨_, rfl⟩
              have hn1 : 1 ≤ n := by omega
              have hn2 : q1 + n ≤ W := by omega
              have hn3 : t + n ≤ m := by omega
              have hmin : min ((t : Int) + (W : Int) - (q1 : Int)) (m : Int) = ((t + n : Nat) : Int) := by omega
              obtain ⟨e1, e2⟩ := HPt.go n hn1 hn2
              have HP1 := hid e1
              have HQ1 := hid e2
              have hp1 : p1 + n ≤ sz := by
                have h1 := LL_mono W (show S + (t + n) ≤ S + m by omega)
                have h2 := HSZ'.out
                omega
              clear e1 e2 hn
              have hb2 := (bd' b2 rfl).1
              have hrc : Rd wc (some ⟨b1, o1 + t, none⟩) n ((zs.take (t + n)).drop t) := (hr4.kept gz (.inr (by simp [blk]; omega))).mid t (t + n) n (by omega) (by omega) (by omega) (.inl (by simp only [Option.map_some, Addr.add_lit]))
              have hcell1 : (Try.prog.info? 5).map (·.size) = some 1 := by obtain ⟨i0, hi, _, hz1, _⟩ := info_parts info5; rw [hi]; simp [hz1]
              obtain ⟨hcp, hco, hcg⟩ := run_copy_at (P := Try.prog) 22 22 3 5 Try.underlying22 hcell1 (cc := c - t) (oz.same (grown_drew wc)) (hrc.same (grown_drew wc)) hp1
              have hpcd : p1 < cd := by omega
              have htc : t < c := by omega
              have hif : (if (m : Int) < (t : Int) + (W : Int) - (q1 : Int) then (m : Int) else (t : Int) + (W : Int) - (q1 : Int)).toNat - t = n := by
                split <;> omega
              generalize hw6 : wc.drew.setCells b2 (o2 + p1) (((zs.take (t + n)).drop t).map (Value.int .u8)) = w6 at hcp hco hcg
              clear hw6
              have hcp' : (Builtin.copy_ #[22, 22] 3 #[.slice (some ⟨b2, o2 + p1, none⟩) (sz - p1) (cd - p1), .slice (some ⟨b1, o1 + t, none⟩) ((if (m : Int) < (t : Int) + (W : Int) - (q1 : Int) then (m : Int) else (t : Int) + (W : Int) - (q1 : Int)).toNat - t) (c - t)]).run Try.prog wc.drew = .ok (.int .i64 (n : Int)) w6 := by
                rw [hif]; exact hcp
              clear hcp
              clear hif hmin hrc
              go_upto_region 27 with fail
              go_region
              go_wp2
              go_roundw
              case rel =>
                exact ⟨t + n, p1 + n, q1 + n, by omega, by go_num, by go_num, by go_num, HP1, HQ1, ⟨_, hco, HPt.fd _ (fun i hi => splice_below hi (by rw [oz.len]; omega)) n hn1 hn2⟩, grown_into (grown_trans gz (grown_drew wc) (by simp)) hcg rfl⟩
              case measure => simp [intOf]; omega
          · obtain rfl : t = m := by omega
            go_wp2
            go_ret
            exact text_end HSZ'.out oy HF c0'' c2'' G4 gr hgs (fun q hq => by have := bd' q hq; omega)

end Go.Proofs.Qxb6619168a
