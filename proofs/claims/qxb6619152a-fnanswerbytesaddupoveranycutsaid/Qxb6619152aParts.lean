/-
  THE CONTRACTS OF zzLeftStale, zzLeftParts, zzMake, ZZAnswerBytes.
-/
import Derived.Test.Qxb6619152aBudget
import Derived.Test.Qxb6619152aMake
namespace Go.Proofs.Qxb6619152a
open Go.RowKit

set_option maxHeartbeats 1000000 in
theorem leftstale (a : Option Addr) (n c : Nat) (ss : Nat → St) (vs : Nat → Option ByteArray) (r : Int) (w : World) (h : Sts w a n ss) (hv : ∀ i, i < n → ValAt w (ss i).vla (vs i)) (hsz : ShortS n ss vs) (hn : n ≤ 1048576) (h0 : -1 ≤ r) (h1 : r ≤ 1048576) :
    Calls Try.prog 27 #[.int .i64 r, .slice a n c] w fun e w' => ∃ q : Int, e = .returned (.int .i64 q) ∧ -1 ≤ q ∧ q ≤ 1048576 ∧ w = w' := by
  go_enter Try.func27, Try.ntmps27
  go_wp2
  go_loop [0, 5] (fun t i => ∃ (k : Nat) (q : Int), k ≤ n ∧ i = .int .i64 k ∧ t = .int .i64 q ∧ -1 ≤ q ∧ q ≤ 1048576) (fun _ i => n - (intOf i).toNat)
  case atStart => exact ⟨0, r, Nat.zero_le _, rfl, rfl, h0, h1⟩
  case round =>
    obtain ⟨k, q, hk, rfl, rfl, hq0, hq1⟩ := hrel
    by_cases hlt : k < n
    · obtain ⟨s1, s2⟩ := hsz k hlt
      by_cases hqn : 0 ≤ q
      · obtain ⟨b, off, rfl, hc⟩ := h.cells (by omega)
        obtain ⟨c0, c1, c2, _⟩ := hc k hlt
        have hval := hv k hlt
        clear hc h hsz hv
        rcases hval with ⟨q1, q2⟩ | ⟨vb, vo, s, q1, q2, q3⟩
        · rw [q1] at c2
          clear q1 q2
          go_wp2_with fail
          refine (take_any _ _ w (by omega) (by omega) (by omega) (by omega)).mono ?_
          rintro e w' ⟨q1, rfl, l1, u1, rfl⟩
          go_wp2_with fail
          refine (take_any _ _ w (by omega) (by omega) (by omega) (by omega)).mono ?_
          rintro e w' ⟨q2, rfl, l2, u2, rfl⟩
          go_wp2
          go_round
          case rel => exact ⟨k + 1, q2, by omega, by go_num, rfl, l2, u2⟩
          case measure => simp [intOf]; omega
        · rw [q1] at c2
          have hso : s.size ≤ 9223372036854775807 := by rw [q2] at s2; simpa only [osz] using s2
          clear q1 q2
          go_wp2_with fail
          refine (take_any _ _ w (by omega) (by omega) (by omega) (by omega)).mono ?_
          rintro e w' ⟨q1, rfl, l1, u1, rfl⟩
          go_wp2_with fail
          refine (take_any _ _ w (by omega) (by omega) (by omega) (by omega)).mono ?_
          rintro e w' ⟨q2, rfl, l2, u2, rfl⟩
          go_wp2_with fail
          refine (take_any _ _ w (by omega) (by omega) (by omega) (by omega)).mono ?_
          rintro e w' ⟨q3, rfl, l3, u3, rfl⟩
          go_wp2
          go_round
          case rel => exact ⟨k + 1, q3, by omega, by go_num, rfl, l3, u3⟩
          case measure => simp [intOf]; omega
      · go_wp2
        go_ret
        exact ⟨q, rfl, hq0, hq1, rfl⟩
    · go_wp2
      go_ret
      exact ⟨q, rfl, hq0, hq1, rfl⟩

theorem leftparts (id cm : ByteArray) (da : Option Addr) (dn dc : Nat) (sa : Option Addr) (ns sc : Nat) (oa : Option Addr) (no oc : Nat) (ss : Nat → St) (vs : Nat → Option ByteArray) (os : Nat → Ov) (r : Int) (w : World)
    (hs : Sts w sa ns ss) (hv : ∀ i, i < ns → ValAt w (ss i).vla (vs i)) (hzs : ShortS ns ss vs) (ho : Ovs w oa no os) (hzo : Short no os) (hid : id.size ≤ 1048576) (hcm : cm.size ≤ 1048576) (hdn : dn ≤ 1048576) (hns : ns ≤ 1048576) (hno : no ≤ 1048576) (h0 : -1 ≤ r) (h1 : r ≤ 1048576) :
    Calls Try.prog 7 #[.int .i64 r, .string id, .string cm, .slice da dn dc, .slice sa ns sc, .slice oa no oc] w fun e w' => ∃ q : Int, e = .returned (.int .i64 q) ∧ -1 ≤ q ∧ q ≤ 1048576 ∧ w = w' := by
  go_enter Try.func7, Try.ntmps7
  go_wp2_with fail
  refine (take_any _ _ w (by omega) (by omega) (by omega) (by omega)).mono ?_
  rintro e w' ⟨q1, rfl, l1, u1, rfl⟩
  go_wp2_with fail
  refine (take_any _ _ w (by omega) (by omega) (by omega) (by omega)).mono ?_
  rintro e w' ⟨q2, rfl, l2, u2, rfl⟩
  go_wp2_with fail
  refine (take_any _ _ w (by omega) (by omega) (by omega) (by omega)).mono ?_
  rintro e w' ⟨q3, rfl, l3, u3, rfl⟩
  go_wp2_with fail
  refine (leftstale sa ns sc ss vs q3 w hs hv hzs hns l3 u3).mono ?_
  rintro e w' ⟨q4, rfl, l4, u4, rfl⟩
  go_wp2_with fail
  refine (left_any oa no oc os q4 w ho hzo hno l4 u4).mono ?_
  rintro e w' ⟨q5, rfl, l5, u5, rfl⟩
  go_wp2
  go_ret
  exact ⟨q5, rfl, l5, u5, rfl⟩

theorem wst_gen (a : Option Addr) (n c : Nat) (ss : Nat → St) (vs : Nat → Option ByteArray) (fs : Nat → Option Fl) (w : World) (h : Sts w a n ss) (hv : ∀ i, i < n → ValAt w (ss i).vla (vs i)) (hf : ∀ i, i < n → ExtAt w (ss i).ext (fs i)) (hn : n ≤ 1048576) :
    Calls Try.prog 31 #[.slice a n c] w fun e w' => ∃ a', e = .returned (.slice a' n n) ∧ StRow w' a' n (fun j => (ss j).key) vs ∧ w.grownBy w' none := by
  cases a with
  | none =>
    have hn0 : n = 0 := by
      by_cases h0 : 0 < n
      · obtain ⟨_, _, e, _⟩ := h.cells h0; cases e
      · omega
    subst hn0
    refine (wst_nil 0 c w).mono ?_
    rintro e w' ⟨rfl, rfl⟩
    exact ⟨none, rfl, fun h => absurd h (Nat.lt_irrefl 0), World.grownBy.refl _ _⟩
  | some x =>
    refine (wst_some x n c ss vs fs w h hv hf hn).mono ?_
    rintro e w' ⟨g, rfl, ho, hg, _⟩
    exact ⟨_, rfl, fun _ => ⟨g, 0, rfl, fun j hj => by simpa using ho j hj⟩, hg⟩

theorem wov_gen (a : Option Addr) (n c : Nat) (os : Nat → Ov) (fs : Nat → Option Fl) (w : World) (h : Ovs w a n os) (hf : ∀ i, i < n → ExtAt w (os i).ext (fs i)) (hn : n ≤ 1048576) :
    Calls Try.prog 32 #[.slice a n c] w fun e w' => ∃ (a' : Option Addr) (xs : Nat → Option Addr), e = .returned (.slice a' n n) ∧ Ovs w' a' n (fun i => (os i).at (xs i)) ∧ w.grownBy w' none := by
  cases a with
  | none =>
    have hn0 : n = 0 := by
      by_cases h0 : 0 < n
      · obtain ⟨_, _, e, _⟩ := h.cells h0; cases e
      · omega
    subst hn0
    refine (wov_nil 0 c w).mono ?_
    rintro e w' ⟨rfl, rfl⟩
    exact ⟨none, fun _ => none, rfl, ⟨fun h => absurd h (Nat.lt_irrefl 0)⟩, World.grownBy.refl _ _⟩
  | some x =>
    refine (wov_some x n c os fs w h hf hn).mono ?_
    rintro e w' ⟨g, xs, rfl, ho, _, hg, _⟩
    exact ⟨_, xs, rfl, ho, hg⟩

/-- Everything that came in, as it can be read. -/
structure Inp (w : World) (da : Option Addr) (dn : Nat) (zs : Nat → Int) (sa : Option Addr) (ns : Nat) (ss : Nat → St) (vs : Nat → Option ByteArray) (fs : Nat → Option Fl) (oa : Option Addr) (no : Nat) (os : Nat → Ov) (gs : Nat → Option Fl) : Prop where
  dg : Dg w da dn zs
  st : Sts w sa ns ss
  va : ∀ i, i < ns → ValAt w (ss i).vla (vs i)
  ex : ∀ i, i < ns → ExtAt w (ss i).ext (fs i)
  ov : Ovs w oa no os
  ey : ∀ i, i < no → ExtAt w (os i).ext (gs i)

theorem Inp.same {w w' : World} {da : Option Addr} {dn : Nat} {zs : Nat → Int} {sa : Option Addr} {ns : Nat} {ss : Nat → St} {vs : Nat → Option ByteArray} {fs : Nat → Option Fl} {oa : Option Addr} {no : Nat} {os : Nat → Ov} {gs : Nat → Option Fl}
    (h : Inp w da dn zs sa ns ss vs fs oa no os gs) (hg : w.grownBy w' none) : Inp w' da dn zs sa ns ss vs fs oa no os gs :=
  ⟨h.dg.same hg, h.st.same hg, fun i hi => (h.va i hi).same hg, fun i hi => (h.ex i hi).same hg, h.ov.same hg, fun i hi => (h.ey i hi).same hg⟩

/-- An answer that was made, and what it counts. -/
def Made (w : World) (v : Value) (T : Nat) : Prop :=
  ∃ (B : Nat) (id : ByteArray) (held : Bool) (cm : ByteArray) (da : Option Addr) (dn dc : Nat) (sa : Option Addr) (ns sc : Nat) (oa : Option Addr) (no oc : Nat) (ks : Nat → ByteArray) (vs : Nat → Option ByteArray) (os : Nat → Ov),
    v = .pointer (some ⟨B, 0, none⟩) ∧ AnsAt w B id held cm (.slice da dn dc) (.slice sa ns sc) (.slice oa no oc) ∧ StRow w sa ns ks vs ∧ Ovs w oa no os ∧
    id.size + cm.size + dn + ns + sm (fS ks vs) ns + no + sm (fO os) no ≤ 1048576 ∧ T = 200 + id.size + cm.size + dn + (100 * ns + sm (fS ks vs) ns) + (100 * no + sm (fO os) no)

theorem make9 (id : ByteArray) (held : Bool) (cm : ByteArray) (da : Option Addr) (dn dc : Nat) (sa : Option Addr) (ns sc : Nat) (oa : Option Addr) (no oc : Nat) (zs : Nat → Int) (ss : Nat → St) (vs : Nat → Option ByteArray) (fs : Nat → Option Fl) (os : Nat → Ov) (gs : Nat → Option Fl) (w : World)
    (h : Inp w da dn zs sa ns ss vs fs oa no os gs) (hB : id.size + cm.size + dn + ns + sm (fS (fun j => (ss j).key) vs) ns + no + sm (fO os) no ≤ 1048576) :
    Calls Try.prog 9 #[.string id, .bool held, .string cm, .slice da dn dc, .slice sa ns sc, .slice oa no oc] w fun e w' => ∃ B : Nat, e = .returned (.pointer (some ⟨B, 0, none⟩)) ∧
      Made w' (.pointer (some ⟨B, 0, none⟩)) (200 + id.size + cm.size + dn + (100 * ns + sm (fS (fun j => (ss j).key) vs) ns) + (100 * no + sm (fO os) no)) ∧ w.grownBy w' none := by
  have b1 : dn ≤ 1048576 := by omega
  have b2 : ns ≤ 1048576 := by omega
  have b3 : no ≤ 1048576 := by omega
  have HB : Hid _ := hB
  clear hB
  go_enter Try.func9, Try.ntmps9
  go_wp2_with fail
  refine (clone30 da dn dc zs w h.dg b1).mono ?_
  rintro e w1 ⟨d', dc', rfl, g1⟩
  go_wp2_with fail
  refine (wst_gen sa ns sc ss vs fs w1 (h.same g1).st (h.same g1).va (h.same g1).ex b2).mono ?_
  rintro e w2 ⟨s', rfl, r2, g2⟩
  go_wp2_with fail
  refine (wov_gen oa no oc os gs w2 ((h.same g1).same g2).ov ((h.same g1).same g2).ey b3).mono ?_
  rintro e w3 ⟨o', xs, rfl, r3, g3⟩
  go_wp2_with fail
  refine (new29 id held cm _ _ _ d' dn dc' s' ns ns o' no no rfl rfl rfl w3).mono ?_
  rintro e w4 ⟨B, rfl, r4, g4⟩
  go_wp2
  go_ret
  exact ⟨B, rfl, ⟨B, id, held, cm, d', dn, dc', s', ns, ns, o', no, no, fun j => (ss j).key, vs, fun i => (os i).at (xs i), rfl, r4, (r2.same g3).same g4, r3.same g4, HB.out, rfl⟩, grown_trans (grown_trans (grown_trans g1 g2 (by simp)) g3 (by simp)) g4 (by simp)⟩

theorem ans8 (B T : Nat) (w : World) (h : Made w (.pointer (some ⟨B, 0, none⟩)) T) :
    Calls Try.prog 8 #[.pointer (some ⟨B, 0, none⟩)] w fun e w' => e = .returned (.int .i64 ((T : Nat) : Int)) ∧ w.grownBy w' none := by
  obtain ⟨B', id, held, cm, da, dn, dc, sa, ns, sc, oa, no, oc, ks, vs, os, e, h1, h2, h3, h4, rfl⟩ := h
  cases e
  go_enter Try.func8, Try.ntmps8
  go_wp2_with fail
  refine (bytes_any B id held cm da dn dc sa ns sc oa no oc ks vs os w h1 h2 h3 h4).mono ?_
  rintro e w' ⟨rfl, hg⟩
  go_wp2
  go_ret
  exact ⟨rfl, hg⟩

end Go.Proofs.Qxb6619152a
