/-
  THE CONTRACTS OF zzBytes_FnAnswerBytesAddUpOverAnyCut, zzLeftStale, zzLeftParts.
-/
import Derived.Test.Qxb6619152aBytes
namespace Go.Proofs.Qxb6619152a
open Go.RowKit

/-- It answers a bool; where that is true T is small. -/
def SaysB (T : Nat) (e : Ending) : Prop := ∃ b : Bool, e = .returned (.bool b) ∧ (b = true → T ≤ 1048576)

theorem saysNo (T : Nat) : SaysB T (.returned (.bool false)) := ⟨false, rfl, by simp⟩
theorem saysYes (T : Nat) (h : T ≤ 1048576) : SaysB T (.returned (.bool true)) := ⟨true, rfl, fun _ => h⟩

/-- The texts of n stale keys are no longer than an int counts. -/
def ShortS (n : Nat) (ss : Nat → St) (vs : Nat → Option ByteArray) : Prop := ∀ i, i < n → (ss i).key.size ≤ 9223372036854775807 ∧ osz (vs i) ≤ 9223372036854775807

set_option maxHeartbeats 2000000 in
set_option maxRecDepth 100000 in
theorem zzb6 (id : ByteArray) (held : Bool) (cm : ByteArray) (da : Option Addr) (dn dc : Nat) (sa : Option Addr) (ns sc : Nat) (oa : Option Addr) (no oc : Nat) (ss : Nat → St) (vs : Nat → Option ByteArray) (os : Nat → Ov) (x y : Int) (w : World)
    (hs : Sts w sa ns ss) (hv : ∀ i, i < ns → ValAt w (ss i).vla (vs i)) (hzs : ShortS ns ss vs) (ho : Ovs w oa no os) (hzo : Short no os) (hid : id.size ≤ 9223372036854775807) (hcm : cm.size ≤ 9223372036854775807) (hdn : dn ≤ 9223372036854775807) (hns : ns ≤ 9223372036854775807) (hno : no ≤ 9223372036854775807) :
    Calls Try.prog 6 #[.string id, .bool held, .string cm, .slice da dn dc, .slice sa ns sc, .slice oa no oc, .int .i64 x, .int .i64 y] w fun e w' => SaysB (id.size + cm.size + dn + ns + sm (fS (fun j => (ss j).key) vs) ns + no + sm (fO os) no) e ∧ w = w' := by
  by_cases hA : id.size + cm.size + dn + ns ≤ 1048576
  · go_enter Try.func6, Try.ntmps6
    go_wp2
    go_loop [17, 18] (fun t i => ∃ (k : Nat) (z : Nat), k ≤ ns ∧ i = .int .i64 k ∧ t = .int .i64 z ∧ Hid (z = id.size + cm.size + dn + ns + sm (fS (fun j => (ss j).key) vs) k) ∧ z ≤ 1048576) (fun _ i => ns - (intOf i).toNat)
    case atStart => exact ⟨0, id.size + cm.size + dn + ns, Nat.zero_le _, rfl, by simp, rfl, hA⟩
    case round =>
      obtain ⟨k, z, hk, rfl, rfl, hz, hz1⟩ := hrel
      by_cases hlt : k < ns
      · obtain ⟨b, off, rfl, hc⟩ := hs.cells (by omega)
        obtain ⟨p0, p1, p2, _⟩ := hc k hlt
        obtain ⟨s1, s2⟩ := hzs k hlt
        have HK : Hid (fS (fun j => (ss j).key) vs k = (ss k).key.size + osz (vs k)) := rfl
        have hval := hv k hlt
        have hi0 : (0 : Int) ≤ (k : Int) := by omega
        have hi1 : (k : Int) < (ns : Int) := by omega
        clear hc hs hv hzs ho hzo
        rcases hval with ⟨q1, q2⟩ | ⟨vb, vo, s, q1, q2, q3⟩
        · rw [q1] at p2
          have Q2 : Hid _ := q2
          clear q1 q2
          by_cases hB : z + (ss k).key.size ≤ 1048576
          · go_wp2
            go_round
            case rel =>
              refine ⟨k + 1, z + (ss k).key.size, by omega, by go_num, by go_num, ?_, hB⟩
              show _ = _
              have h1 := hz.out
              have h2 := HK.out
              rw [Q2.out] at h2
              simp only [sm, osz] at h2 ⊢
              omega
            case measure => simp [intOf]; omega
          · go_wp2
            all_goals (go_ret; exact ⟨saysNo _, rfl⟩)
        · rw [q1] at p2
          have Q2 : Hid _ := q2
          have hso : s.size ≤ 9223372036854775807 := by rw [q2] at s2; simpa only [osz] using s2
          clear q1 q2
          by_cases hB : z + (ss k).key.size + s.size ≤ 1048576
          · go_wp2
            go_round
            case rel =>
              refine ⟨k + 1, z + (ss k).key.size + s.size, by omega, by go_num, by go_num, ?_, hB⟩
              show _ = _
              have h1 := hz.out
              have h2 := HK.out
              rw [Q2.out] at h2
              simp only [sm, osz] at h2 ⊢
              omega
            case measure => simp [intOf]; omega
          · go_wp2
            all_goals (go_ret; exact ⟨saysNo _, rfl⟩)
      · have HZ : Hid (z = id.size + cm.size + dn + ns + sm (fS (fun j => (ss j).key) vs) ns) := by
          have : k = ns := by omega
          subst this
          exact hz
        clear hz hs hv hzs
        by_cases hC : z + no ≤ 1048576
        · go_wp2_with fail
          go_loop [17, 19] (fun t i => ∃ (k : Nat) (y : Nat), k ≤ no ∧ i = .int .i64 k ∧ t = .int .i64 y ∧ Hid (y = z + no + sm (fO os) k) ∧ y ≤ 1048576) (fun _ i => no - (intOf i).toNat)
          case atStart => exact ⟨0, z + no, Nat.zero_le _, rfl, by simp, rfl, hC⟩
          case round =>
            obtain ⟨k, y, hk, rfl, rfl, hy, hy1⟩ := hrel
            by_cases hlt : k < no
            · obtain ⟨b, off, rfl, hc⟩ := ho.cells (by omega)
              obtain ⟨p0, p1, _⟩ := hc k hlt
              obtain ⟨s1, s2⟩ := hzo k hlt
              have HK : Hid (fO os k = (os k).key.size + (os k).wth.size) := rfl
              have hi0 : (0 : Int) ≤ (k : Int) := by omega
              have hi1 : (k : Int) < (no : Int) := by omega
              clear hc ho hzo
              by_cases hB : y + (os k).key.size + (os k).wth.size ≤ 1048576
              · go_wp2
                go_round
                case rel =>
                  refine ⟨k + 1, y + (os k).key.size + (os k).wth.size, by omega, by go_num, by go_num, ?_, hB⟩
                  show _ = _
                  have h1 := hy.out
                  have h2 := HK.out
                  simp only [sm] at h2 ⊢
                  omega
                case measure => simp [intOf]; omega
              · go_wp2
                all_goals (go_ret; exact ⟨saysNo _, rfl⟩)
            · go_wp2
              go_ret
              refine ⟨saysYes _ ?_, rfl⟩
              have h1 := hy.out
              have h2 := HZ.out
              have : k = no := by omega
              subst this
              omega
        · go_wp2
          all_goals (go_ret; exact ⟨saysNo _, rfl⟩)
  · go_enter Try.func6, Try.ntmps6
    go_wp2
    all_goals (go_ret; exact ⟨saysNo _, rfl⟩)

end Go.Proofs.Qxb6619152a
