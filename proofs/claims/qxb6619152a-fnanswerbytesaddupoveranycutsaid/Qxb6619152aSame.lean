/-
  THE CONTRACTS OF zzSameFloat, zzSameExtent, zzToldAs.
-/
import Derived.Test.Qxb6619152aTold
import Derived.LaidEqlPtr
namespace Go.Proofs.Qxb6619152a
open Go.RowKit

theorem float_any (x : Nat) (w : World) : Calls Try.prog 38 #[.float .f64 x, .float .f64 x] w fun e w' => e = .returned (.bool true) ∧ w' = w := by
  cases hb : (FloatKind.f64.format.order x x == some .eq)
  · have hb2 : (FloatKind.f64.format.order x x != some .eq) = true := by simp only [bne, hb, Bool.not_false]
    go_enter Try.func38, Try.ntmps38
    go_wp2
    go_ret
    exact ⟨rfl, rfl⟩
  · go_enter Try.func38, Try.ntmps38
    go_wp2
    go_ret
    exact ⟨rfl, rfl⟩

theorem extent_nil (w : World) : Calls Try.prog 35 #[.pointer none, .pointer none] w fun e w' => e = .returned (.bool true) ∧ w = w' := by
  go_enter Try.func35, Try.ntmps35
  go_wp2
  go_ret
  exact ⟨rfl, rfl⟩

set_option maxHeartbeats 1000000 in
theorem extent_some (b o b' o' : Nat) (f : Fl) (w : World) (h : FlAt w b o f) (h' : FlAt w b' o' f) : Calls Try.prog 35 #[.pointer (some ⟨b, o, none⟩), .pointer (some ⟨b', o', none⟩)] w fun e w' => e = .returned (.bool true) ∧ w.grownBy w' none := by
  obtain ⟨h0, h1, h2, h3⟩ := h
  obtain ⟨k0, k1, k2, k3⟩ := h'
  go_enter Try.func35, Try.ntmps35
  go_wp2
  go_quiet ((go_at_call 38; exact Calls.quiet_of_same (float_any _ _)))
  go_wp2
  go_ret
  exact ⟨rfl, grown_drewN _ _⟩

theorem info94 : (Try.prog.info? 94).map (fun i => (i.zero, i.size, i.bytes)) = some (some (.agg #[.float .f64 0, .float .f64 0, .float .f64 0, .float .f64 0]), 4, 32) := by kernel_rfl

/-- An overlap as a value. -/
def Ov.val (x : Ov) : Value := .agg #[.string x.key, .string x.wth, .int .u64 x.ver, .pointer x.ext, .bool x.abs, .int .i64 x.more]

set_option maxHeartbeats 1000000 in
theorem toldas_nil (x : Ov) (w : World) :
    Calls Try.prog 14 #[.agg #[.string x.key, .string x.wth, .int .u64 x.ver, .pointer none, .bool x.abs, .int .i64 x.more], .pointer none, .agg #[.string x.key, .string x.wth, .int .u64 x.ver, .pointer none, .bool x.abs, .int .i64 x.more]] w fun e w' => e = .returned (.bool true) ∧ w.grownBy w' none := by
  go_enter Try.func14, Try.ntmps14
  go_wp2_with fail
  refine (extent_nil _).mono ?_
  rintro e w' ⟨rfl, rfl⟩
  go_wp2
  go_ret
  exact ⟨rfl, grown_trans (World.grownBy_alloc w _ none) (World.grownBy_alloc _ _ none) (by simp)⟩

set_option maxHeartbeats 1000000 in
set_option maxRecDepth 100000 in
theorem toldas_some (x : Ov) (b o b' o' : Nat) (f : Fl) (w : World) (h : FlAt w b o f) (h' : FlAt w b' o' f) :
    Calls Try.prog 14 #[.agg #[.string x.key, .string x.wth, .int .u64 x.ver, .pointer (some ⟨b, o, none⟩), .bool x.abs, .int .i64 x.more], .pointer (some ⟨b, o, none⟩), .agg #[.string x.key, .string x.wth, .int .u64 x.ver, .pointer (some ⟨b', o', none⟩), .bool x.abs, .int .i64 x.more]] w fun e w' => e = .returned (.bool true) ∧ w.grownBy w' none := by
  obtain ⟨W, hW⟩ : ∃ W, (w.alloc (.cells #[.string x.key, .string x.wth, .int .u64 x.ver, .pointer (some ⟨b, o, none⟩), .bool x.abs, .int .i64 x.more] 40)).alloc (.cells #[.string x.key, .string x.wth, .int .u64 x.ver, .pointer (some ⟨b', o', none⟩), .bool x.abs, .int .i64 x.more] 45) = W := ⟨_, rfl⟩
  have gW : w.grownBy W none := by rw [← hW]; exact grown_trans (World.grownBy_alloc w _ none) (World.grownBy_alloc _ _ none) (by simp)
  have k4 : W.cell? ⟨w.heap.size, 4, none⟩ = some (.bool x.abs) := by rw [← hW, World.cell?_alloc_past _ _ _ (by simp)]; simp
  have k5 : W.cell? ⟨w.heap.size, 5, none⟩ = some (.int .i64 x.more) := by rw [← hW, World.cell?_alloc_past _ _ _ (by simp)]; simp
  have l4 : W.cell? ⟨w.heap.size + 1, 4, none⟩ = some (.bool x.abs) := by rw [← hW]; simp [World.cell?_alloc_at]
  have l5 : W.cell? ⟨w.heap.size + 1, 5, none⟩ = some (.int .i64 x.more) := by rw [← hW]; simp [World.cell?_alloc_at]
  have f1 := h.kept gW (by simp)
  have f2 := h'.kept gW (by simp)
  have HW : Hid _ := hW
  obtain ⟨i0, hi, _, _, _⟩ := info_parts info94
  have hq := fun wx => run_eql_ptr_same (P := Try.prog) wx ⟨b, o, none⟩ Try.underlying38 hi
  clear hW h h'
  go_enter Try.func14, Try.ntmps14
  go_wp2_with fail
  rw [HW.out]
  refine (extent_some b o b' o' f W f1 f2).mono ?_
  rintro e w2 ⟨rfl, hgg⟩
  have k4' := hgg.cell k4 (by simp)
  have k5' := hgg.cell k5 (by simp)
  have l4' := hgg.cell l4 (by simp)
  have l5' := hgg.cell l5 (by simp)
  clear k4 k5 l4 l5 f1 f2
  go_wp2
  go_ret
  exact ⟨rfl, grown_trans gW hgg (by simp)⟩

end Go.Proofs.Qxb6619152a
