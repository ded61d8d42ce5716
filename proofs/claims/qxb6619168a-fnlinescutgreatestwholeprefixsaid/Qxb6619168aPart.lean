/-
  FOR AppendText AT A NIL DESTINATION: where the line feeds stand; the fields after the stores; a copy into the middle; the contract at width 0.
-/
import Derived.Test.Qxb6619168aLines
import Derived.Deep.CutRange
import Derived.Deep.DeepCutAuto
import Derived.Deep.RegionLaw
namespace Go.Proofs.Qxb6619168a
open Go.RowKit

/-- The line feeds stand where they should among the first t bytes' text. -/
def Feeds (S W t : Nat) (ys : List Int) : Prop := ∀ j, j < t → Fd (S + j) W → ys.getD (LL (S + j) W - LL S W) 0 = 10

theorem Feeds.more {S W t t' p : Nat} {ys ys' : List Int} (h : Feeds S W t ys) (hp : p = LL (S + t) W - LL S W) (he : ∀ i, i < p → ys'.getD i 0 = ys.getD i 0) (hn : ∀ j, t ≤ j → j < t' → Fd (S + j) W → ys'.getD (LL (S + j) W - LL S W) 0 = 10) : Feeds S W t' ys' := by
  intro j hj hf
  by_cases hjt : j < t
  · have h1 := LL_lt W (show S + j < S + t by omega)
    have h2 := LL_mono W (show S ≤ S + j by omega)
    rw [he _ (by omega)]
    exact h j hjt hf
  · exact hn j (by omega) hj hf

theorem getD_set_ne {ys : List Int} {i j : Nat} {z : Int} (h : i ≠ j) : (ys.set j z).getD i 0 = ys.getD i 0 := by
  simp [List.getD, Ne.symm h]

theorem getD_set_eq {ys : List Int} {j : Nat} {z : Int} (h : j < ys.length) : (ys.set j z).getD j 0 = z := by
  simp [List.getD, h]

/-- A byte with no feed before it. -/
theorem Feeds.byte {S W t p : Nat} {ys : List Int} {b : Int} (h : Feeds S W t ys) (hp : p = LL (S + t) W - LL S W) (hf : ¬ Fd (S + t) W) : Feeds S W (t + 1) (ys.set p b) :=
  h.more hp (fun i hi => getD_set_ne (by omega)) (fun j h1 h2 h3 => by
    obtain rfl : j = t := by omega
    exact absurd h3 hf)

/-- A feed and a byte. -/
theorem Feeds.feed {S W t p : Nat} {ys : List Int} {b : Int} (h : Feeds S W t ys) (hp : p = LL (S + t) W - LL S W) (hl : p < ys.length) : Feeds S W (t + 1) ((ys.set p 10).set (p + 1) b) :=
  h.more hp (fun i hi => by rw [getD_set_ne (by omega), getD_set_ne (by omega)]) (fun j h1 h2 h3 => by
    obtain rfl : j = t := by omega
    rw [← hp, getD_set_ne (by omega), getD_set_eq hl])

theorem Rd.kept0 {w w' : World} {a : Option Addr} {n : Nat} {zs : List Int} {r : Option Nat} (h : Rd w a n zs) (hg : w.grownBy w' r) (hne : 0 < n → blk a ≠ r) : Rd w' a n zs :=
  ⟨h.len, h.wf, fun h0 => (h.kept hg (.inr (hne h0))).cells h0⟩

/-- The fields behind the pointer after the two stores. -/
theorem stores {w : World} {g : Nat} {W S o : Int} {s0 : Int} (h0 : w.cell? ⟨g, 0, none⟩ = some (.int .i64 W)) (h1 : w.cell? ⟨g, 1, none⟩ = some (.int .i64 S)) (h2 : w.cell? ⟨g, 2, none⟩ = some (.int .i64 s0)) :
    ∃ w2, (w.setCell ⟨g, 2, none⟩ (.int .i64 S)).setCell ⟨g, 1, none⟩ (.int .i64 o) = w2 ∧ w2.cell? ⟨g, 0, none⟩ = some (.int .i64 W) ∧ w2.cell? ⟨g, 1, none⟩ = some (.int .i64 o) ∧ w2.cell? ⟨g, 2, none⟩ = some (.int .i64 S) ∧ w.grownBy w2 (some g) := by
  have one : ∀ (w : World) (k : Nat) (v : Value), w.grownBy (w.setCell ⟨g, k, none⟩ v) (some g) := fun w k v => ⟨rfl, rfl, rfl, by simp, fun j _ hne => heap_setCell_other w _ j _ (fun e => hne (by simp [e]))⟩
  refine ⟨_, rfl, ?_, ?_, ?_, grown_trans (one _ _ _) (one _ _ _) (fun k hk => .inl hk)⟩
  · rw [World.cell?_setCell_other _ _ _ _ (by simp), World.cell?_setCell_other _ _ _ _ (by simp)]; exact h0
  · exact World.cell?_setCell_same _ _ _ (by rw [World.cell?_setCell_other _ _ _ _ (by simp)]; exact h1)
  · rw [World.cell?_setCell_other _ _ _ _ (by simp)]; exact World.cell?_setCell_same _ _ _ h2

/-- What the contract says. -/
def TextPost (g W S m : Nat) (w : World) (e : Ending) (w' : World) : Prop :=
  ∃ a' c', e = .returned (.slice a' (LL (S + m) W - LL S W) c') ∧ (∃ ys, Own w' a' (LL (S + m) W - LL S W) c' ys ∧ Feeds S W m ys) ∧ w'.cell? ⟨g, 0, none⟩ = some (.int .i64 W) ∧ w'.cell? ⟨g, 2, none⟩ = some (.int .i64 S) ∧ w.grownBy w' (some g) ∧
    (∀ q, blk a' = some q → w.heap.size ≤ q ∧ q < w'.heap.size)

set_option maxHeartbeats 1000000 in
set_option maxRecDepth 100000 in
theorem text_zero (g S : Nat) (s0 : Int) (a : Option Addr) (m c : Nat) (zs : List Int) (w : World) (hr : Rd w a m zs) (hne : 0 < m → blk a ≠ some g)
    (h0 : w.cell? ⟨g, 0, none⟩ = some (.int .i64 0)) (h1 : w.cell? ⟨g, 1, none⟩ = some (.int .i64 S)) (h2 : w.cell? ⟨g, 2, none⟩ = some (.int .i64 s0))
    (f1 : w.frozen? ⟨g, 1, none⟩ = false) (f2 : w.frozen? ⟨g, 2, none⟩ = false) (hS : S ≤ 2305843009213693952) (hm : m ≤ 1048576) :
    Calls Try.prog 16 #[.pointer (some ⟨g, 0, none⟩), .slice none 0 0, .slice a m c] w (TextPost g 0 S m w) := by
  obtain ⟨i0, hi, hz0, hz1, hz2⟩ := info_parts info5
  have hgs := World.block_lt_of_cell? w _ h0
  go_enter Try.func16, Try.ntmps16
  go_upto_region 3 with fail
  obtain ⟨w2, e2, c0, c1, c2, G⟩ := stores (o := (S : Int) + (m : Int)) h0 h1 h2
  rw [e2]
  have hr2 : Rd w2 a m zs := hr.kept0 G hne
  clear e2 h0 h1 h2 f1 f2 hr
  go_wp2_with (at_builtin; refine wpList_append_buf _ rfl (.tmp 38) (.tmp 39) 22 22 rfl 5 i0 Try.underlying22 hi hz0 hz1 hz2 none 0 0 [] rfl (Own.nilOwn _) _ rfl m zs (hr2.src 22 5 Try.underlying22 _) hr2.wf (by omega) ?_)
  intro a' c' w3 ho hg hb1 hb2 _
  have B := after_append hb1 hb2
  clear hb1 hb2
  go_wp2
  go_ret
  have hl : LL (S + m) 0 - LL S 0 = m := by rw [LL_nowidth, LL_nowidth]; omega
  have hs := G.size
  refine ⟨a', c', by rw [hl]; rfl, ⟨zs, by rw [hl]; exact ho, fun j _ hf => absurd hf.2.1 (by omega)⟩, hg.cell c0 (by simp [blk]), hg.cell c2 (by simp [blk]), grown_trans G hg (fun k hk => by simp [blk] at hk), fun q hq => ?_⟩
  rcases B q hq with h | h
  · simp [blk] at h
  · omega

theorem col_start {S W : Nat} (hW : 0 < W) : (S % W = 0 ∧ 0 < S → col S W = W) ∧ (¬ (S % W = 0 ∧ 0 < S) → col S W = S % W) := by
  by_cases h : S = 0
  · subst h; unfold col; simp
  · obtain ⟨q, r, h1, h2⟩ := ex_one hW (by omega : 0 < S)
    obtain ⟨_, e⟩ := LL_one h1 h2
    rw [e]
    by_cases hr : r + 1 = W
    · have h3 : S = W * (q + 1) + 0 := by rw [Nat.mul_add, Nat.mul_one]; omega
      have h4 := (dm h3 hW).2
      exact ⟨fun _ => hr, fun hn => absurd ⟨h4, by omega⟩ hn⟩
    · have h3 : S = W * q + (r + 1) := by omega
      have h4 := (dm h3 (by omega)).2
      exact ⟨fun hp => by omega, fun _ => by omega⟩

theorem text_end {g W S m sz : Nat} {w wd wr : World} {ad : Option Addr} {cd : Nat} {ys : List Int} (hsz : LL (S + m) W - LL S W = sz) (ho : Own wr ad sz cd ys) (hf : Feeds S W m ys) (h0 : wd.cell? ⟨g, 0, none⟩ = some (.int .i64 W)) (h2 : wd.cell? ⟨g, 2, none⟩ = some (.int .i64 S))
    (G : w.grownBy wd (some g)) (gr : wd.grownBy wr (blk ad)) (hgs : g < w.heap.size) (bd : ∀ q, blk ad = some q → w.heap.size ≤ q ∧ q < wd.heap.size) : TextPost g W S m w (.returned (.slice ad sz cd)) wr := by
  have hne : some g ≠ blk ad := fun e => by have := (bd g e.symm).1; omega
  refine ⟨ad, cd, by rw [hsz], ⟨ys, by rw [hsz]; exact ho, hf⟩, gr.cell h0 hne, gr.cell h2 hne, grown_trans G gr (fun k hk => .inr (bd k hk).1), fun q hq => ?_⟩
  have := bd q hq
  have := gr.size
  omega

theorem grown_into {w w1 w2 : World} {r : Option Nat} {k : Nat} (h1 : w.grownBy w1 r) (h2 : w1.grownBy w2 (some k)) (hr : r = some k) : w.grownBy w2 r :=
  grown_trans h1 h2 (fun q hq => .inl (by rw [hr, ← hq]))

/-- Where a part of a line is about to be copied to p1, q1 bytes of the line before it. -/
structure Part (S W t p1 q1 : Nat) (ys1 : List Int) : Prop where
  lt : q1 < W
  go : ∀ n, 1 ≤ n → q1 + n ≤ W → p1 + n = LL (S + (t + n)) W - LL S W ∧ q1 + n = col (S + (t + n)) W
  fd : ∀ ys2 : List Int, (∀ i, i < p1 → ys2.getD i 0 = ys1.getD i 0) → ∀ n, 1 ≤ n → q1 + n ≤ W → Feeds S W (t + n) ys2

theorem part_within {S W t pp qq : Nat} {ys : List Int} (hW : 0 < W) (hp : pp = LL (S + t) W - LL S W) (hq : qq = col (S + t) W) (hf : Feeds S W t ys) (hne : ¬ qq = W) : Part S W t pp qq ys := by
  have hc := col_le (N := S + t) hW
  have hm := LL_mono W (show S ≤ S + t by omega)
  refine ⟨by omega, fun n h1 h2 => ?_, fun ys2 he n h1 h2 => hf.more hp he fun j h3 h4 h5 => ?_⟩
  · obtain ⟨a, b⟩ := LL_within hW (show col (S + t) W + n ≤ W by omega)
    rw [← Nat.add_assoc]
    omega
  · have := (col_full hW).2 h5
    obtain ⟨_, b⟩ := LL_within hW (show col (S + t) W + (j - t) ≤ W by omega)
    rw [show S + t + (j - t) = S + j by omega] at b
    omega

theorem part_past {S W t pp qq : Nat} {ys : List Int} (hW : 0 < W) (hp : pp = LL (S + t) W - LL S W) (hq : qq = col (S + t) W) (hf : Feeds S W t ys) (he : qq = W) (hl : pp < ys.length) : Part S W t (pp + 1) 0 (ys.set pp 10) := by
  have hm := LL_mono W (show S ≤ S + t by omega)
  refine ⟨hW, fun n h1 h2 => ?_, fun ys2 hy n h1 h2 => hf.more hp (fun i hi => by rw [hy i (by omega), getD_set_ne (by omega)]) fun j h3 h4 h5 => ?_⟩
  · obtain ⟨a, b⟩ := LL_past hW (show col (S + t) W = W by omega) h1 (by omega)
    rw [← Nat.add_assoc]
    omega
  · by_cases hj : j = t
    · subst hj
      rw [← hp, hy pp (by omega), getD_set_eq hl]
    · have := (col_full hW).2 h5
      obtain ⟨_, b⟩ := LL_past hW (show col (S + t) W = W by omega) (show 1 ≤ j - t by omega) (by omega)
      rw [show S + t + (j - t) = S + j by omega] at b
      omega

theorem splice_below {ys us vs : List Int} {p i : Nat} (h : i < p) (hl : p ≤ ys.length) : (ys.take p ++ us ++ vs).getD i 0 = ys.getD i 0 := by
  have h1 : i < (ys.take p).length := by rw [List.length_take]; omega
  simp only [List.getD]
  rw [List.append_assoc, List.getElem?_append_left h1, List.getElem?_take, if_pos h]

theorem splice_above {ys us : List Int} {p n i : Nat} (h : p + n ≤ i) (hl : p + n ≤ ys.length) (hu : us.length = n) : (ys.take p ++ us ++ ys.drop (p + n)).getD i 0 = ys.getD i 0 := by
  have h1 : (ys.take p ++ us).length = p + n := by rw [List.length_append, List.length_take]; omega
  simp only [List.getD]
  rw [List.getElem?_append_right (by omega), h1, List.getElem?_drop, show p + n + (i - (p + n)) = i by omega]

theorem splice_in {ys us vs : List Int} {p n i : Nat} (h : p ≤ i) (h2 : i < p + n) (hl : p ≤ ys.length) (hu : us.length = n) : (ys.take p ++ us ++ vs).getD i 0 = us.getD (i - p) 0 := by
  have h1 : (ys.take p).length = p := by rw [List.length_take]; omega
  simp only [List.getD]
  rw [List.append_assoc, List.getElem?_append_right (by omega), h1, List.getElem?_append_left (by omega)]

theorem run_copy_at {P : Program} {w : World} (dT sT ty e : TypeId) (hu : P.underlying dT = some (.slice e)) (hsz : (P.info? e).map (·.size) = some 1) {g off sz c p n b1 o1 cc : Nat} {ys us : List Int} (ho : Own w (some ⟨g, off, none⟩) sz c ys) (hd : Rd w (some ⟨b1, o1, none⟩) n us) (hp : p + n ≤ sz) :
    (Builtin.copy_ #[dT, sT] ty #[.slice (some ⟨g, off + p, none⟩) (sz - p) (c - p), .slice (some ⟨b1, o1, none⟩) n cc]).run P w = .ok (goInt n) (w.setCells g (off + p) (us.map (Value.int .u8))) ∧
      Own (w.setCells g (off + p) (us.map (Value.int .u8))) (some ⟨g, off, none⟩) sz c (ys.take p ++ us ++ ys.drop (p + n)) ∧ w.grownBy (w.setCells g (off + p) (us.map (Value.int .u8))) (some g) := by
  obtain ⟨g', off', eg, h1, h2⟩ := ho.room _ rfl
  cases eg
  have hle := ho.le
  have hl : (us.map (Value.int .u8)).length = n := by simp [hd.len]
  have hin : ∀ j, j < (us.map (Value.int .u8)).length → (w.cell? ⟨g, off + p + j, none⟩).isSome = true := fun j hj => by rw [Nat.add_assoc]; exact (h1 (p + j) (by omega)).1
  have hyl := ho.len
  have hul := hd.len
  refine ⟨?_, ⟨?_, ho.le, ho.cap, ?_, fun e => (by cases e), fun x hx => ?_⟩, grown_setCells g _ _ _⟩
  · have hrun := run_copy_cells (P := P) w dT sT ty e g (off + p) (sz - p) (c - p) ⟨b1, o1, none⟩ n cc (us.map (Value.int .u8)) hu hsz (by rw [hl]; exact (Nat.min_eq_left (by omega)).symm)
      (fun j v hv => by
        have hj : j < n := by have := (List.getElem?_eq_some_iff.1 hv).1; rwa [hl] at this
        have hjl : j < us.length := by omega
        obtain ⟨b, o, eb, hc⟩ := hd.cells (by omega)
        cases eb
        rw [Addr.add_lit, hc j hj]
        simp [hjl] at hv
        rw [← hv]
        simp [List.getD, hjl])
      hin (fun j hj => by rw [Nat.add_assoc]; exact (h1 (p + j) (by omega)).2) (ints_oneCell _ _)
    rw [hl] at hrun
    exact hrun
  · simp only [List.length_append, List.length_take, List.length_drop]
    omega
  · intro z hz
    rcases List.mem_append.1 hz with hz | hz
    · rcases List.mem_append.1 hz with hz | hz
      · exact ho.wf z (List.mem_of_mem_take hz)
      · exact hd.wf z hz
    · exact ho.wf z (List.mem_of_mem_drop hz)
  · cases hx
    refine ⟨g, off, rfl, fun j hj => ⟨?_, by rw [World.frozen?_setCells]; exact (h1 j hj).2⟩, fun j hj => ?_⟩
    · by_cases hjn : p ≤ j ∧ j < p + n
      · have := World.cell?_setCells_in g (us.map (Value.int .u8)) (off + p) w hin (j - p) (by omega)
        rw [show off + p + (j - p) = off + j by omega] at this
        rw [this]; rfl
      · rw [World.cell?_setCells_out g _ _ _ _ (fun _ _ => by simp; omega)]
        exact (h1 j hj).1
    · by_cases hjn : p ≤ j ∧ j < p + n
      · have := World.cell?_setCells_in g (us.map (Value.int .u8)) (off + p) w hin (j - p) (by omega)
        rw [show off + p + (j - p) = off + j by omega] at this
        rw [this]
        have h3 : j - p < us.length := by omega
        rw [splice_in hjn.1 hjn.2 (by omega) hul]
        simp [List.getD, h3]
      · rw [World.cell?_setCells_out g _ _ _ _ (fun _ _ => by simp; omega), h2 j hj]
        by_cases hjp : j < p
        · rw [splice_below hjp (by omega)]
        · rw [splice_above (by omega) (by omega) hul]

end Go.Proofs.Qxb6619168a
