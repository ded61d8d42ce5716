/-
  THE LAW FnAnswerBytesAddUpOverAnyCut, OUT OF THE CONTRACTS.
-/
import Derived.Test.Qxb6619152aParts
import Derived.Deep.RegionWith
namespace Go.Proofs.Qxb6619152a
open Go.RowKit

theorem Sts.drop {w : World} {a a' : Option Addr} {n : Nat} {ss : Nat → St} (h : Sts w a n ss) (k : Nat) (hk : k ≤ n) (ha : k < n → a' = a.map (fun x => x.add (k * 5))) : Sts w a' (n - k) (fun i => ss (k + i)) := by
  refine ⟨fun h0 => ?_⟩
  obtain ⟨b, off, rfl, hc⟩ := h.cells (by omega)
  refine ⟨b, off + k * 5, ?_, fun i hi => ?_⟩
  · rw [ha (by omega)]; simp [Addr.add]
  · have := hc (k + i) (by omega)
    rwa [show off + (k + i) * 5 = off + k * 5 + i * 5 by omega] at this

theorem ovs_drop {w : World} {a a' : Option Addr} {n : Nat} {os : Nat → Ov} (h : Ovs w a n os) (k : Nat) (hk : k ≤ n) (ha : k < n → a' = a.map (fun x => x.add (k * 6))) : Ovs w a' (n - k) (fun i => os (k + i)) := by
  refine ⟨fun h0 => ?_⟩
  obtain ⟨b, off, rfl, hc⟩ := h.cells (by omega)
  refine ⟨b, off + k * 6, ?_, fun i hi => ?_⟩
  · rw [ha (by omega)]; simp [Addr.add]
  · have := hc (k + i) (by omega)
    rwa [show off + (k + i) * 6 = off + k * 6 + i * 6 by omega] at this

variable {w : World} {da : Option Addr} {dn : Nat} {zs : Nat → Int} {sa : Option Addr} {ns : Nat} {ss : Nat → St} {vs : Nat → Option ByteArray} {fs : Nat → Option Fl} {oa : Option Addr} {no : Nat} {os : Nat → Ov} {gs : Nat → Option Fl}

theorem Inp.heads (h : Inp w da dn zs sa ns ss vs fs oa no os gs) (i j : Nat) (hi : i ≤ ns) (hj : j ≤ no) : Inp w da dn zs sa i ss vs fs oa j os gs :=
  ⟨h.dg, ⟨fun h0 => by obtain ⟨b, off, rfl, hc⟩ := h.st.cells (by omega); exact ⟨b, off, rfl, fun q hq => hc q (by omega)⟩⟩, fun q hq => h.va q (by omega), fun q hq => h.ex q (by omega),
    ⟨fun h0 => by obtain ⟨b, off, rfl, hc⟩ := h.ov.cells (by omega); exact ⟨b, off, rfl, fun q hq => hc q (by omega)⟩⟩, fun q hq => h.ey q (by omega)⟩

theorem Inp.tails (h : Inp w da dn zs sa ns ss vs fs oa no os gs) (i j : Nat) (hi : i ≤ ns) (hj : j ≤ no) {sa' oa' : Option Addr} (hs : i < ns → sa' = sa.map (fun x => x.add (i * 5))) (ho : j < no → oa' = oa.map (fun x => x.add (j * 6))) :
    Inp w da dn zs sa' (ns - i) (fun q => ss (i + q)) (fun q => vs (i + q)) (fun q => fs (i + q)) oa' (no - j) (fun q => os (j + q)) (fun q => gs (j + q)) :=
  ⟨h.dg, h.st.drop i hi hs, fun q hq => h.va _ (by omega), fun q hq => h.ex _ (by omega), ovs_drop h.ov j hj ho, fun q hq => h.ey _ (by omega)⟩

theorem Inp.bare (h : Inp w da dn zs sa ns ss vs fs oa no os gs) : Inp w da dn zs none 0 ss vs fs none 0 os gs :=
  ⟨h.dg, ⟨fun h => absurd h (Nat.lt_irrefl 0)⟩, fun _ hq => absurd hq (Nat.not_lt_zero _), fun _ hq => absurd hq (Nat.not_lt_zero _), ⟨fun h => absurd h (Nat.lt_irrefl 0)⟩, fun _ hq => absurd hq (Nat.not_lt_zero _)⟩

theorem make9' (id : ByteArray) (held : Bool) (cm : ByteArray) (da : Option Addr) (dn dc : Nat) (sa : Option Addr) (ns sc : Nat) (oa : Option Addr) (no oc : Nat) (zs : Nat → Int) (ss : Nat → St) (vs : Nat → Option ByteArray) (fs : Nat → Option Fl) (os : Nat → Ov) (gs : Nat → Option Fl) (w : World)
    (h : Inp w da dn zs sa ns ss vs fs oa no os gs) (hB : id.size + cm.size + dn + ns + sm (fS (fun j => (ss j).key) vs) ns + no + sm (fO os) no ≤ 1048576) :
    Calls Try.prog 9 #[.string id, .bool held, .string cm, .slice da dn dc, .slice sa ns sc, .slice oa no oc] w fun e w' => ∃ B T : Nat, e = .returned (.pointer (some ⟨B, 0, none⟩)) ∧
      Made w' (.pointer (some ⟨B, 0, none⟩)) T ∧ Hid (T = 200 + id.size + cm.size + dn + (100 * ns + sm (fS (fun j => (ss j).key) vs) ns) + (100 * no + sm (fO os) no)) ∧ T ≤ 1000000000 ∧ w.grownBy w' none := by
  refine (make9 id held cm da dn dc sa ns sc oa no oc zs ss vs fs os gs w h hB).mono ?_
  rintro e w' ⟨B, rfl, m, hg⟩
  exact ⟨B, _, rfl, m, rfl, by omega, hg⟩

set_option maxHeartbeats 2000000 in
set_option maxRecDepth 100000 in
theorem law3 (id : ByteArray) (held : Bool) (cm : ByteArray) (dc sc oc : Nat) (i j : Int) (w : World) (h : Inp w da dn zs sa ns ss vs fs oa no os gs) (hzs : ShortS ns ss vs) (hzo : Short no os)
    (hid : id.size ≤ 9223372036854775807) (hcm : cm.size ≤ 9223372036854775807) (hdn : dn ≤ 9223372036854775807) (hns : ns ≤ 9223372036854775807) (hno : no ≤ 9223372036854775807) (hsc : ns ≤ sc) (hoc : no ≤ oc)
    (hi : -9223372036854775808 ≤ i ∧ i ≤ 9223372036854775807) (hj : -9223372036854775808 ≤ j ∧ j ≤ 9223372036854775807) :
    Calls Try.prog 3 #[.string id, .bool held, .string cm, .slice da dn dc, .slice sa ns sc, .slice oa no oc, .int .i64 i, .int .i64 j] w fun e w' => e = .returned (.bool true) ∧ Below w.heap.size w w' := by
  go_enter Try.func3, Try.ntmps3
  go_wp2_with fail
  refine (zzb6 id held cm da dn dc sa ns sc oa no oc ss vs os i j w h.st h.va hzs h.ov hzo hid hcm hdn hns hno).mono ?_
  rintro e w' ⟨⟨b, rfl, hb⟩, rfl⟩
  cases b
  · go_wp2
    go_ret
    exact ⟨rfl, Below.refl _ _⟩
  · have HB : Hid _ := hb rfl
    have t1 := sm_le (fS (fun j => (ss j).key) vs) 0 ns (Nat.zero_le _)
    have b1 : id.size ≤ 1048576 := by have := HB.out; omega
    have b2 : cm.size ≤ 1048576 := by have := HB.out; omega
    have b3 : dn ≤ 1048576 := by have := HB.out; omega
    have b4 : ns ≤ 1048576 := by have := HB.out; omega
    have b5 : no ≤ 1048576 := by have := HB.out; omega
    clear hb t1
    go_wp2_with fail
    refine (leftparts id cm da dn dc sa ns sc oa no oc ss vs os 1048576 w h.st h.va hzs h.ov hzo b1 b2 b3 b4 b5 (by omega) (by omega)).mono ?_
    rintro e w' ⟨q, rfl, q0, q1, rfl⟩
    by_cases hq : q < 0
    · go_wp2
      go_ret
      exact ⟨rfl, Below.refl _ _⟩
    · by_cases hi0 : i < 0
      · go_wp2
        go_ret
        exact ⟨rfl, Below.refl _ _⟩
      · by_cases hin : (ns : Int) < i
        · go_wp2
          go_ret
          exact ⟨rfl, Below.refl _ _⟩
        · by_cases hj0 : j < 0
          · go_wp2
            go_ret
            exact ⟨rfl, Below.refl _ _⟩
          · by_cases hjn : (no : Int) < j
            · go_wp2
              go_ret
              exact ⟨rfl, Below.refl _ _⟩
            · obtain ⟨i, rfl⟩ := Int.eq_ofNat_of_zero_le (show 0 ≤ i by omega)
              obtain ⟨j, rfl⟩ := Int.eq_ofNat_of_zero_le (show 0 ≤ j by omega)
              have eS := sm_split (fS (fun j => (ss j).key) vs) i (ns - i)
              rw [show i + (ns - i) = ns by omega] at eS
              have eO := sm_split (fO os) j (no - j)
              rw [show j + (no - j) = no by omega] at eO
              have ES : Hid _ := eS
              have EO : Hid _ := eO
              clear eS eO
              have hB2 : id.size + cm.size + dn + i + sm (fS (fun j => (ss j).key) vs) i + j + sm (fO os) j ≤ 1048576 := by
                have h1 := HB.out
                have h2 := ES.out
                have h3 := EO.out
                omega
              have hB3 : id.size + cm.size + dn + (ns - i) + sm (fS (fun q => (ss (i + q)).key) (fun q => vs (i + q))) (ns - i) + (no - j) + sm (fO (fun q => os (j + q))) (no - j) ≤ 1048576 := by
                have h1 := HB.out
                have h2 : sm (fS (fun j => (ss j).key) vs) ns = sm (fS (fun j => (ss j).key) vs) i + sm (fS (fun q => (ss (i + q)).key) (fun q => vs (i + q))) (ns - i) := ES.out
                have h3 : sm (fO os) no = sm (fO os) j + sm (fO (fun q => os (j + q))) (no - j) := EO.out
                omega
              have hB4 : id.size + cm.size + dn + 0 + sm (fS (fun j => (ss j).key) vs) 0 + 0 + sm (fO os) 0 ≤ 1048576 := by simp only [sm]; omega
              have i1 : (0 : Int) ≤ (i : Int) := by omega
              have i2 : (i : Int) ≤ (sc : Int) := by omega
              have i3 : (i : Int) ≤ (ns : Int) := by omega
              have j1 : (0 : Int) ≤ (j : Int) := by omega
              have j2 : (j : Int) ≤ (oc : Int) := by omega
              have j3 : (j : Int) ≤ (no : Int) := by omega
              have HB2 : Hid _ := hB2
              have HB3 : Hid _ := hB3
              have HB4 : Hid _ := hB4
              clear hB2 hB3 hB4 hzs hzo
              go_wp2_with fail
              refine (make9' id held cm da dn dc sa ns sc oa no oc zs ss vs fs os gs w h HB.out).mono ?_
              rintro e w1 ⟨B1, T1, rfl, m1, hT1, u1, g1⟩
              go_wp2_with fail
              refine (ans8 B1 T1 w1 m1).mono ?_
              rintro e w2 ⟨rfl, g2⟩
              clear m1
              have H2 := (h.same g1).same g2
              go_wp2_with fail
              go_region_with (first
                | (go_at_call 9; refine (make9' id held cm da dn dc sa i sc oa j oc zs ss vs fs os gs _ (by exact (H2.same (grown_drew w2)).heads i j (by omega) (by omega)) HB2.out).mono ?_; rintro e w3 ⟨B2, T2, rfl, m2, hT2, u2, g3⟩)
                | (go_at_call 8; refine (ans8 B2 T2 _ m2).mono ?_; rintro e w4 ⟨rfl, g4⟩))
              clear m2
              have H4 := ((H2.same (grown_drew w2)).same g3).same g4
              have hsi : Hid (sc = i → ns - i = 0) := fun e => by omega
              have hoj : Hid (oc = j → no - j = 0) := fun e => by omega
              by_cases c1 : sc = i <;> by_cases c2 : oc = j
              all_goals
                go_wp2_with fail
                go_region_with (first
                  | (go_at_call 9; refine (make9' id held cm da dn dc _ (ns - i) _ _ (no - j) _ zs (fun q => ss (i + q)) (fun q => vs (i + q)) (fun q => fs (i + q)) (fun q => os (j + q)) (fun q => gs (j + q)) _ ?_ HB3.out).mono ?_; (exact (H4.same (grown_drew w4)).tails i j (by omega) (by omega) (fun hlt => by first | rfl | (exfalso; omega)) (fun hlt => by first | rfl | (exfalso; omega))); rintro e w5 ⟨B3, T3, rfl, m3, hT3, u3, g5⟩)
                  | (go_at_call 8; refine (ans8 B3 T3 _ m3).mono ?_; rintro e w6 ⟨rfl, g6⟩))
                clear m3
                have H6 := ((H4.same (grown_drew w4)).same g5).same g6
                go_wp2_with fail
                refine (make9' id held cm da dn dc none 0 0 none 0 0 zs ss vs fs os gs w6 H6.bare HB4.out).mono ?_
                rintro e w7 ⟨B4, T4, rfl, m4, hT4, u4, g7⟩
                go_wp2_with fail
                refine (ans8 B4 T4 w7 m4).mono ?_
                rintro e w8 ⟨rfl, g8⟩
                clear m4
                have n1 := hT1.out
                have n2 := hT2.out
                have n3 := hT3.out
                have n4 := hT4.out
                have n5 : sm (fS (fun j => (ss j).key) vs) ns = sm (fS (fun j => (ss j).key) vs) i + sm (fS (fun q => (ss (i + q)).key) (fun q => vs (i + q))) (ns - i) := ES.out
                have n6 : sm (fO os) no = sm (fO os) j + sm (fO (fun q => os (j + q))) (no - j) := EO.out
                simp only [sm] at n4
                have r1 : ((T4 : Int) == 200 + (id.size : Int) + (cm.size : Int) + (dn : Int)) = true := by rw [beq_iff_eq]; omega
                have r2 : ((T1 : Int) + (T4 : Int) == (T2 : Int) + (T3 : Int)) = true := by rw [beq_iff_eq]; omega
                clear n1 n2 n3 n4 n5 n6
                have bel : Below w.heap.size w w8 := by
                  have G : w.grownBy w8 none := grown_trans (grown_trans (grown_trans (grown_trans (grown_trans (grown_trans (grown_trans (grown_trans (grown_trans g1 g2 (by simp)) (grown_drew w2) (by simp)) g3 (by simp)) g4 (by simp)) (grown_drew w4) (by simp)) g5 (by simp)) g6 (by simp)) g7 (by simp)) g8 (by simp)
                  exact (Below.refl w.heap.size w).grown G (Nat.le_refl _) (by simp)
                go_wp2
                go_ret
                exact ⟨rfl, bel⟩

end Go.Proofs.Qxb6619152a
