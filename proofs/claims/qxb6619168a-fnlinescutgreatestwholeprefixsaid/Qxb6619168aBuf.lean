/-
  BYTE SLICES, OVER WHATEVER PROGRAM: what is read ('Rd'), what is the call's own to write ('Own'), and the laws on make, append and a store in those words.
-/
import Derived.WalkKit
import Derived.Deep.AppendSrc
import Derived.Deep.QuietTactic
import Derived.BigQuiet
namespace Go.Proofs.Qxb6619168a
open Go.RowKit

/-- The first n elements behind a read as the numbers zs. -/
structure Rd (w : World) (a : Option Addr) (n : Nat) (zs : List Int) : Prop where
  len : zs.length = n
  wf : ∀ z ∈ zs, 0 ≤ z ∧ z ≤ 255
  cells : 0 < n → ∃ b off, a = some ⟨b, off, none⟩ ∧ ∀ i, i < n → w.cell? ⟨b, off + i, none⟩ = some (.int .u8 (zs.getD i 0))

/-- A slice of bytes, its whole capacity there and not frozen, its elements zs. -/
structure Own (w : World) (a : Option Addr) (n c : Nat) (zs : List Int) : Prop where
  len : zs.length = n
  le : n ≤ c
  cap : c ≤ maxLen
  wf : ∀ z ∈ zs, 0 ≤ z ∧ z ≤ 255
  nil : a = none → c = 0
  room : ∀ x, a = some x → ∃ g off, x = ⟨g, off, none⟩ ∧ (∀ j, j < c → (w.cell? ⟨g, off + j, none⟩).isSome = true ∧ w.frozen? ⟨g, off + j, none⟩ = false) ∧
    (∀ j, j < n → w.cell? ⟨g, off + j, none⟩ = some (.int .u8 (zs.getD j 0)))

/-- The block that an address lies in. -/
def blk (a : Option Addr) : Option Nat := a.map (·.block)

theorem grown_trans {w w1 w2 : World} {r r2 : Option Nat} (h1 : w.grownBy w1 r) (h2 : w1.grownBy w2 r2) (hr : ∀ k, r2 = some k → r = some k ∨ w.heap.size ≤ k) : w.grownBy w2 r := by
  refine ⟨h2.os.trans h1.os, h2.tape.trans h1.tape, h2.output.trans h1.output, Nat.le_trans h1.size h2.size, fun k hk hne => ?_⟩
  rw [h2.block k (Nat.lt_of_lt_of_le hk h1.size) (fun e => ?_), h1.block k hk hne]
  rcases hr k e.symm with h | h
  · exact hne h.symm
  · omega

theorem grown_none {w w' : World} {r : Option Nat} (h : w.grownBy w' none) : w.grownBy w' r :=
  ⟨h.os, h.tape, h.output, h.size, fun k hk _ => h.block k hk (by simp)⟩

theorem grown_drewN (w : World) (n : Nat) : w.grownBy (w.drewN n) none := by
  refine ⟨?_, ?_, ?_, ?_, ?_⟩ <;> simp [World.drewN]

theorem grown_drew (w : World) : w.grownBy w.drew none := ⟨rfl, rfl, rfl, Nat.le_refl _, fun _ _ _ => rfl⟩

theorem grown_setCells (g : Nat) : ∀ (vs : List Value) (o : Nat) (w : World), w.grownBy (w.setCells g o vs) (some g)
  | [], _, w => World.grownBy.refl w _
  | v :: r, o, w => grown_trans (⟨rfl, rfl, rfl, by simp, fun j _ hne => heap_setCell_other w _ j _ (fun e => hne (by simp [e]))⟩ : w.grownBy (w.setCell ⟨g, o, none⟩ v) (some g)) (grown_setCells g r (o + 1) _) (fun k hk => .inl hk)

theorem Rd.kept {w w' : World} {a : Option Addr} {n : Nat} {zs : List Int} {r : Option Nat} (h : Rd w a n zs) (hg : w.grownBy w' r) (hne : blk a = none ∨ blk a ≠ r) : Rd w' a n zs := by
  refine ⟨h.len, h.wf, fun h0 => ?_⟩
  obtain ⟨b, off, rfl, hc⟩ := h.cells h0
  refine ⟨b, off, rfl, fun i hi => hg.cell (hc i hi) ?_⟩
  rcases hne with hne | hne
  · simp [blk] at hne
  · simpa [blk] using hne

theorem Rd.same {w w' : World} {a : Option Addr} {n : Nat} {zs : List Int} (h : Rd w a n zs) (hg : w.grownBy w' none) : Rd w' a n zs :=
  h.kept hg (by cases hb : blk a <;> simp)

theorem Own.kept {w w' : World} {a : Option Addr} {n c : Nat} {zs : List Int} {r : Option Nat} (h : Own w a n c zs) (hg : w.grownBy w' r) (hne : blk a = none ∨ blk a ≠ r) : Own w' a n c zs := by
  refine ⟨h.len, h.le, h.cap, h.wf, h.nil, fun x hx => ?_⟩
  obtain ⟨g, off, rfl, h1, h2⟩ := h.room x hx
  have hgr : some g ≠ r := by
    rcases hne with hne | hne
    · simp [blk, hx] at hne
    · simpa [blk, hx] using hne
  refine ⟨g, off, rfl, fun j hj => ?_, fun j hj => hg.cell (h2 j hj) hgr⟩
  obtain ⟨u, hu⟩ := Option.isSome_iff_exists.1 (h1 j hj).1
  have hb := hg.block g (World.block_lt_of_cell? w _ hu) hgr
  exact ⟨by rw [World.cell?_of_block (w := w) hb]; exact (h1 j hj).1, by rw [World.frozen?_of_block (w := w) hb]; exact (h1 j hj).2⟩

theorem Own.same {w w' : World} {a : Option Addr} {n c : Nat} {zs : List Int} (h : Own w a n c zs) (hg : w.grownBy w' none) : Own w' a n c zs :=
  h.kept hg (by cases hb : blk a <;> simp)

theorem Own.rd {w : World} {a : Option Addr} {n c : Nat} {zs : List Int} (h : Own w a n c zs) : Rd w a n zs := by
  refine ⟨h.len, h.wf, fun h0 => ?_⟩
  cases a with
  | none => have := h.nil rfl; have := h.le; omega
  | some x =>
    obtain ⟨g, off, rfl, _, h2⟩ := h.room x rfl
    exact ⟨g, off, rfl, h2⟩

theorem Own.nilOwn (w : World) : Own w none 0 0 [] := ⟨rfl, Nat.le_refl _, by unfold maxLen; omega, by simp, fun _ => rfl, fun x hx => by cases hx⟩

/-- The first k, as 'a[:k]' gives them. -/
theorem Rd.take {w : World} {a : Option Addr} {n : Nat} {zs : List Int} (h : Rd w a n zs) (k : Nat) (hk : k ≤ n) : Rd w a k (zs.take k) := by
  refine ⟨by rw [List.length_take, h.len]; omega, fun z hz => h.wf z (List.mem_of_mem_take hz), fun h0 => ?_⟩
  obtain ⟨b, off, rfl, hc⟩ := h.cells (by omega)
  refine ⟨b, off, rfl, fun i hi => ?_⟩
  rw [hc i (by omega)]
  simp [List.getD, hi]

/-- What follows, as 'a[k:]' gives it: whatever the address where nothing follows. -/
theorem Rd.drop {w : World} {a a' : Option Addr} {n : Nat} {zs : List Int} (h : Rd w a n zs) (k : Nat) (hk : k ≤ n) (ha : k < n → ∀ b off, a = some ⟨b, off, none⟩ → a' = some ⟨b, off + k, none⟩) : Rd w a' (n - k) (zs.drop k) := by
  refine ⟨by rw [List.length_drop, h.len], fun z hz => h.wf z (List.mem_of_mem_drop hz), fun h0 => ?_⟩
  obtain ⟨b, off, rfl, hc⟩ := h.cells (by omega)
  refine ⟨b, off + k, ha (by omega) b off rfl, fun i hi => ?_⟩
  rw [Nat.add_assoc, hc (k + i) (by omega)]
  simp [List.getD, List.getElem?_drop]

/-- A store into one of the elements. -/
theorem Own.set {w : World} {g off n c : Nat} {zs : List Int} (h : Own w (some ⟨g, off, none⟩) n c zs) (k : Nat) (hk : k < n) (z : Int) (hz : 0 ≤ z ∧ z ≤ 255) :
    Own (w.setCell ⟨g, off + k, none⟩ (.int .u8 z)) (some ⟨g, off, none⟩) n c (zs.set k z) ∧ w.grownBy (w.setCell ⟨g, off + k, none⟩ (.int .u8 z)) (some g) := by
  refine ⟨⟨by simpa using h.len, h.le, h.cap, fun y hy => ?_, h.nil, fun x hx => ?_⟩, ⟨rfl, rfl, rfl, by simp, fun j _ hne => heap_setCell_other w _ j _ (fun e => hne (by simp [e]))⟩⟩
  · rcases List.mem_or_eq_of_mem_set hy with hy | hy
    · exact h.wf y hy
    · exact hy ▸ hz
  · obtain ⟨g', off', e, h1, h2⟩ := h.room x hx
    cases hx
    cases e
    refine ⟨g, off, rfl, fun j hj => ⟨?_, by rw [World.frozen?_setCell]; exact (h1 j hj).2⟩, fun j hj => ?_⟩
    · by_cases hjk : j = k
      · subst hjk; rw [World.cell?_setCell_same _ _ _ (h2 j hk)]; rfl
      · rw [World.cell?_setCell_other _ _ _ _ (by simp)]; exact (h1 j hj).1
    · by_cases hjk : j = k
      · subst hjk
        rw [World.cell?_setCell_same _ _ _ (h2 j hk)]
        simp [List.getD, h.len, hk]
      · rw [World.cell?_setCell_other _ _ _ _ (by simp), h2 j hj]
        simp [List.getD, Ne.symm hjk]

/-- A whole new row. -/
theorem Own.ofRow {w : World} {g : Nat} {cur : Array Value} {e : TypeId} {n c : Nat} {zs : List Int} (hg : w.heap[g]? = some (.cells cur e (0, 0))) (hl : zs.length = n) (hn : n ≤ c) (hc : c ≤ maxLen) (hs : cur.size = c)
    (hwf : ∀ z ∈ zs, 0 ≤ z ∧ z ≤ 255) (ht : ∀ j, j < n → cur[j]? = some (.int .u8 (zs.getD j 0))) : Own w (some ⟨g, 0, none⟩) n c zs := by
  refine ⟨hl, hn, hc, hwf, fun h => (by cases h), fun x hx => ?_⟩
  cases hx
  refine ⟨g, 0, rfl, fun j hj => ⟨?_, frozen_of_row w g _ cur e hg⟩, fun j hj => ?_⟩
  · rw [cell_of_row w g _ cur e _ hg]; simp; omega
  · rw [cell_of_row w g _ cur e _ hg, Nat.zero_add]; exact ht j hj

/-- 'make([]byte, n)'. -/
theorem wpList_make_buf {P : Program} (w : World) {ops : Array Oper} {rest : List Oper} {o : Oper} {a : Act} {Q : Exit → Act → World → Prop}
    (hg : o.guard = none) (l c : Operand) (t : TypeId) (hop : o.op = Op.makeSlice t l c)
    (e : TypeId) (i : TypeInfo) (h1 : P.underlying t = some (.slice e)) (h2 : P.info? e = some i) (h3 : i.zero = some (.int .u8 0)) (h4 : i.size = 1) (h5 : i.bytes = 1)
    (kl kc : IntKind) (L C : Int) (n : Nat) (hl : a.eval l = .int kl L) (hc : a.eval c = .int kc C) (hL : L = (n : Int)) (hC : C = (n : Int)) (b2 : n ≤ 281474976710656)
    (hK : ∀ w', Own w' (some ⟨w.heap.size, 0, none⟩) n n (List.replicate n 0) → w.grownBy w' none → w.heap.size < w'.heap.size → wpList P ops Q rest (a.put o.dst (.slice (some ⟨w.heap.size, 0, none⟩) n n)) w') :
    wpList P ops Q (o :: rest) a w := by
  refine wpList_make_full w hg l c t hop 0 e i (.int .u8 0) 1 h1 h2 h3 h4 kl kc L C n hl hc hL hC (by rw [h5]; omega) (by unfold maxLen; omega) (Nat.zero_le _) fun w' ho hgr => ?_
  rcases ho.2 with ⟨h', _⟩ | ⟨g', cap', cur, h', _, hgg, hnc, hcm, hcs, htake⟩
  · simp at h'
  · simp only [Value.slice.injEq, Option.some.injEq, Addr.mk.injEq, and_true, true_and] at h'
    obtain ⟨rfl, rfl⟩ := h'
    refine hK w' (Own.ofRow hgg (by simp) (Nat.le_refl _) hcm (by simpa using hcs) (fun z hz => by rw [List.mem_replicate] at hz; omega) fun j hj => ?_) hgr (Array.getElem?_eq_some_iff.1 hgg).1
    have hz : (Value.int IntKind.u8 0).cells = #[.int .u8 0] := rfl
    rw [hz, Nat.mul_one, toList_madeCells_one] at htake
    have hj2 : (List.take n cur.toList)[j]? = (List.replicate n (Value.int .u8 0))[j]? := by rw [htake]
    rw [List.getElem?_take, if_pos hj, List.getElem?_replicate, if_pos hj] at hj2
    simp [List.getD, hj] at hj2 ⊢
    exact hj2

/-- What an append takes from a slice that reads as ys. -/
theorem Rd.src {P : Program} {w : World} {a : Option Addr} {m : Nat} {ys : List Int} (h : Rd w a m ys) (tx e' : TypeId) (hk : P.underlying tx = some (.slice e')) (c : Nat) : Src P 1 tx (.slice a m c) m (ys.map (Value.int .u8)) w := by
  cases a with
  | none =>
    have hm : m = 0 := by
      by_cases h0 : 0 < m
      · obtain ⟨_, _, e, _⟩ := h.cells h0; cases e
      · omega
    subst hm
    have : ys = [] := List.eq_nil_of_length_eq_zero h.len
    subst this
    exact Src.ofNil w hk c
  | some x =>
    refine Src.ofSlice w hk x m c _ (by simp [h.len]) (fun j u hu => ?_) (ints_oneCell _ _)
    have hj : j < m := by have := (List.getElem?_eq_some_iff.1 hu).1; simpa [h.len] using this
    obtain ⟨b, off, e, hc⟩ := h.cells (by omega)
    cases e
    rw [Addr.add_lit, hc j hj]
    have hjl : j < ys.length := by rw [h.len]; exact hj
    simp [hjl] at hu
    rw [← hu]
    simp [List.getD, hjl]

/-- 'append(b, ..)', b nil or the call's own: in place, or into a new row. -/
theorem run_append_buf {P : Program} (w : World) (t tx ty e : TypeId) (i : TypeInfo) (ht : P.underlying t = some (.slice e)) (hi : P.info? e = some i) (hz : i.zero = some (.int .u8 0)) (hsize : i.size = 1) (hby : i.bytes = 1)
    (a0 : Option Addr) (n c : Nat) (zs : List Int) (hown : Own w a0 n c zs) (x : Value) (m : Nat) (ys : List Int) (hsrc : Src P 1 tx x m (ys.map (Value.int .u8)) w) (hwf : ∀ z ∈ ys, 0 ≤ z ∧ z ≤ 255) (hb : n + m ≤ 140737488355328) :
    ∃ a' c' w', (Builtin.append_ #[t, tx] ty #[.slice a0 n c, x]).run P w = .ok (.slice a' (n + m) c') w' ∧ Own w' a' (n + m) c' (zs ++ ys) ∧ w.grownBy w' (blk a0) ∧
      (∀ k, blk a' = some k → blk a0 = some k ∨ k = w.heap.size) ∧ (∀ k, blk a' = some k → blk a0 = some k ∨ k < w'.heap.size) ∧ (a' = none ↔ a0 = none ∧ m = 0) := by
  have hyl : ys.length = m := by simpa using hsrc.newsLen
  have hwf2 : ∀ z ∈ zs ++ ys, 0 ≤ z ∧ z ≤ 255 := fun z hz => by
    rcases List.mem_append.1 hz with h | h
    · exact hown.wf z h
    · exact hwf z h
  have hlen2 : (zs ++ ys).length = n + m := by rw [List.length_append, hown.len, hyl]
  rw [← hsize] at hsrc
  by_cases hroom : n + m ≤ c
  · cases a0 with
    | none =>
      have hc := hown.nil rfl
      have hn : n = 0 := by omega
      have hm : m = 0 := by omega
      subst hn; subst hm; subst hc
      have hys : ys = [] := List.eq_nil_of_length_eq_zero hyl
      have hzs : zs = [] := List.eq_nil_of_length_eq_zero hown.len
      subst hys; subst hzs
      refine ⟨none, 0, w, ?_, Own.nilOwn w, World.grownBy.refl _ _, fun k h => by simp [blk] at h, fun k h => by simp [blk] at h, by simp⟩
      have hl := hsrc.len
      have hcl := hsrc.cells
      rcases hsrc.kind with ⟨e', hk⟩ | hk <;> simp [Builtin.append_, run_underlying ht, run_underlying hk, sizeOf, typeInfo, hi, hl, hcl]
    | some x0 =>
      obtain ⟨g, off, rfl, h1, h2⟩ := hown.room x0 rfl
      have hr := run_append_room_src (P := P) w t tx ty e i ht hi g off n c x m (ys.map (Value.int .u8)) hsrc hroom
        (fun j hj => by rw [hsize, Nat.mul_one, Nat.add_assoc]; exact (h1 (n + j) (by simp [hyl] at hj; omega)).1)
        (fun j hj => by rw [hsize, Nat.mul_one, Nat.add_assoc]; exact (h1 (n + j) (by simp [hyl] at hj; omega)).2)
      rw [hsize, Nat.mul_one] at hr
      refine ⟨_, _, _, hr, ⟨hlen2, hroom, hown.cap, hwf2, fun h => (by cases h), fun y hy => ?_⟩, ?_, fun k h => .inl h, fun k h => .inl h, by simp⟩
      · cases hy
        refine ⟨g, off, rfl, fun j hj => ⟨?_, by rw [World.frozen?_setCells]; exact (h1 j hj).2⟩, fun j hj => ?_⟩
        · by_cases hin : n ≤ j ∧ j < n + m
          · have := World.cell?_setCells_in g (ys.map (Value.int .u8)) (off + n) w (fun q hq => by rw [Nat.add_assoc]; exact (h1 (n + q) (by simp [hyl] at hq; omega)).1) (j - n) (by simp [hyl]; omega)
            rw [show off + n + (j - n) = off + j by omega] at this
            rw [this]; rfl
          · rw [World.cell?_setCells_out g _ _ _ _ (fun _ _ => by simp [hyl]; omega)]
            exact (h1 j hj).1
        · by_cases hin : n ≤ j
          · have := World.cell?_setCells_in g (ys.map (Value.int .u8)) (off + n) w (fun q hq => by rw [Nat.add_assoc]; exact (h1 (n + q) (by simp [hyl] at hq; omega)).1) (j - n) (by simp [hyl]; omega)
            rw [show off + n + (j - n) = off + j by omega] at this
            rw [this]
            have hjy : j - n < ys.length := by omega
            simp [List.getD, List.getElem?_append, hown.len, show ¬ j < n by omega, hjy]
          · rw [World.cell?_setCells_out g _ _ _ _ (fun _ _ => by simp; omega), h2 j (by omega)]
            simp [List.getD, List.getElem?_append, hown.len, show j < n by omega]
      · exact grown_setCells g _ _ _
  · have hge := grownCap_ge w (n + m) c e
    have hcm : grownCap w (n + m) c e ≤ maxLen := grownCap_le_maxLen w (n + m) c e (by unfold maxLen; omega)
    have hold : (Builtin.firstCells i.size n (.slice a0 n c)).run P w.drew = .ok (zs.map (Value.int .u8)).toArray w.drew := by
      have := ((hown.rd.same (grown_drew w)).src (P := P) t e ht c).cells
      rw [hsize]
      exact this
    have hr := run_append_grow_src (P := P) w t tx ty e i (.int .u8 0) ht hi hz a0 n c (zs.map (Value.int .u8)) hold x m (ys.map (Value.int .u8)) hsrc (by omega) (by omega) (by rw [hby]; exact growslice_fits (by omega) (by omega))
    have hne : ¬ (a0 = none ∧ m = 0) := by
      rintro ⟨h0, rfl⟩
      have := hown.nil h0
      have := hown.le
      omega
    have hbk : ∀ k, blk (some ⟨w.heap.size, 0, none⟩) = some k → k = w.heap.size := fun k h => (by simpa [blk] using h.symm)
    refine ⟨_, _, _, hr, Own.ofRow (heap_alloc_new w.drew _) hlen2 hge hcm ?_ hwf2 fun j hj => ?_, ⟨rfl, rfl, rfl, by simp, fun k hk _ => Below.heap_alloc w.drew _ k hk⟩, fun k h => .inr (hbk k h), fun k h => .inr (by have := hbk k h; simp; omega), by simpa using hne⟩
    · have hz1 : (Value.int IntKind.u8 0).cells.size = 1 := rfl
      simp only [Array.size_append, List.size_toArray, size_zeroCells, hz1, List.length_append, List.length_map, hown.len, hyl]
      omega
    · rw [Array.getElem?_append, if_pos (by simp [hown.len, hyl]; omega)]
      rw [← List.map_append]
      have hj2 : j < (zs ++ ys).length := by omega
      simp only [List.getElem?_toArray, List.getElem?_map, List.getD, List.getElem?_eq_getElem hj2, Option.map_some, Option.getD_some]

/-- The operation, for the walk. -/
theorem wpList_append_buf {P : Program} (w : World) {ops : Array Oper} {rest : List Oper} {o : Oper} {a : Act} {Q : Exit → Act → World → Prop} (hgd : o.guard = none) (s x : Operand) (t tx : TypeId)
    (ho : o.op = .call { callee := .builtin .append, args := #[s, x], argTypes := #[t, tx] })
    (e : TypeId) (i : TypeInfo) (ht : P.underlying t = some (.slice e)) (hi : P.info? e = some i) (hz : i.zero = some (.int .u8 0)) (hsize : i.size = 1) (hby : i.bytes = 1)
    (a0 : Option Addr) (n c : Nat) (zs : List Int) (hs : a.eval s = .slice a0 n c) (hown : Own w a0 n c zs) (xv : Value) (hx : a.eval x = xv) (m : Nat) (ys : List Int) (hsrc : Src P 1 tx xv m (ys.map (Value.int .u8)) w) (hwf : ∀ z ∈ ys, 0 ≤ z ∧ z ≤ 255) (hb : n + m ≤ 140737488355328)
    (h : ∀ a' c' w', Own w' a' (n + m) c' (zs ++ ys) → w.grownBy w' (blk a0) → (∀ k, blk a' = some k → blk a0 = some k ∨ k = w.heap.size) → (∀ k, blk a' = some k → blk a0 = some k ∨ k < w'.heap.size) → (a' = none ↔ a0 = none ∧ m = 0) → wpList P ops Q rest (a.put o.dst (.slice a' (n + m) c')) w') :
    wpList P ops Q (o :: rest) a w := by
  refine wpList_plain hgd fun K hK => ?_
  obtain ⟨a', c', w', hr, h2, h3, h4, h5, h6⟩ := run_append_buf (P := P) w t tx o.type e i ht hi hz hsize hby a0 n c zs hown xv m ys hsrc hwf hb
  unfold Oper.wp execOp
  simp only [ho, resolve, invoke, builtin, Sem.run_bind, Sem.run_pure, Result.andThen_ok, List.map_toArray, List.map_cons, List.map_nil, hs, hx, hr]
  exact hK _ _ (h a' c' w' h2 h3 h4 h5 h6)

/-- Fewer elements of the same slice. -/
theorem Own.head {w : World} {a : Option Addr} {n c : Nat} {zs : List Int} (h : Own w a n c zs) (k : Nat) (hk : k ≤ n) : Own w a k c (zs.take k) := by
  refine ⟨by rw [List.length_take, h.len]; omega, by have := h.le; omega, h.cap, fun z hz => h.wf z (List.mem_of_mem_take hz), h.nil, fun x hx => ?_⟩
  obtain ⟨g, off, rfl, h1, h2⟩ := h.room x hx
  refine ⟨g, off, rfl, h1, fun j hj => ?_⟩
  rw [h2 j (by omega)]
  simp [List.getD, hj]

/-- What follows, as 'a[k:]' gives it, where something of the capacity is left. -/
theorem Own.tail {w : World} {a a' : Option Addr} {n c : Nat} {zs : List Int} (h : Own w a n c zs) (k : Nat) (hk : k ≤ n) (hc : k < c) (ha : ∀ g off, a = some ⟨g, off, none⟩ → a' = some ⟨g, off + k, none⟩) : Own w a' (n - k) (c - k) (zs.drop k) := by
  cases a with
  | none => have := h.nil rfl; omega
  | some x0 =>
    obtain ⟨g, off, rfl, h1, h2⟩ := h.room x0 rfl
    refine ⟨by rw [List.length_drop, h.len], by have := h.le; omega, by have := h.cap; omega, fun z hz => h.wf z (List.mem_of_mem_drop hz), fun e => (by rw [ha g off rfl] at e; cases e), fun x hx => ?_⟩
    rw [ha g off rfl] at hx
    cases hx
    refine ⟨g, off + k, rfl, fun j hj => ?_, fun j hj => ?_⟩
    · rw [Nat.add_assoc]; exact h1 (k + j) (by omega)
    · rw [Nat.add_assoc, h2 (k + j) (by omega)]
      simp [List.getD, List.getElem?_drop]

theorem after_append {a a' : Option Addr} {w w' : World} (h1 : ∀ k, blk a' = some k → blk a = some k ∨ k = w.heap.size) (h2 : ∀ k, blk a' = some k → blk a = some k ∨ k < w'.heap.size) :
    ∀ k, blk a' = some k → blk a = some k ∨ (w.heap.size ≤ k ∧ k < w'.heap.size) := by
  intro k hk
  rcases h2 k hk with h | h
  · exact .inl h
  · rcases h1 k hk with h' | h'
    · exact .inl h'
    · exact .inr ⟨by omega, by omega⟩

theorem apart {a b : Option Addr} (h : ∀ k, blk a = some k → blk b = some k → False) : blk a = none ∨ blk a ≠ blk b := by
  cases ha : blk a with
  | none => exact .inl rfl
  | some k => exact .inr fun e => h k ha e.symm

/-- 'copy' of a whole slice of the same length. -/
theorem run_copy_buf {P : Program} {w : World} (dT sT ty e : TypeId) (hu : P.underlying dT = some (.slice e)) (hsz : (P.info? e).map (·.size) = some 1) {g n c : Nat} {a : Option Addr} {zs ys : List Int} (ho : Own w (some ⟨g, 0, none⟩) n n ys) (hd : Rd w a n zs) :
    ∃ w2, (Builtin.copy_ #[dT, sT] ty #[.slice (some ⟨g, 0, none⟩) n n, .slice a n c]).run P w = .ok (goInt n) w2 ∧ Own w2 (some ⟨g, 0, none⟩) n n zs ∧ w.grownBy w2 (some g) := by
  by_cases h0 : n = 0
  · subst h0
    refine ⟨w, run_copy_none w dT sT ty e _ _ _ _ _ _ hu hsz (by simp), ?_, World.grownBy.refl _ _⟩
    have e1 : zs = [] := List.eq_nil_of_length_eq_zero hd.len
    have e2 : ys = [] := List.eq_nil_of_length_eq_zero ho.len
    rw [e1, ← e2]; exact ho
  · obtain ⟨b, off, rfl, hc⟩ := hd.cells (by omega)
    obtain ⟨g', off', eg, h1, _⟩ := ho.room _ rfl
    cases eg
    have hl : (zs.map (Value.int .u8)).length = n := by simp [hd.len]
    have hin : ∀ j, j < (zs.map (Value.int .u8)).length → (w.cell? ⟨g, 0 + j, none⟩).isSome = true := fun j hj => (h1 j (by omega)).1
    have hrun := run_copy_cells (P := P) w dT sT ty e g 0 n n ⟨b, off, none⟩ n c (zs.map (Value.int .u8)) hu hsz (by rw [hl]; simp)
      (fun j v hv => by
        have hj : j < n := by have := (List.getElem?_eq_some_iff.1 hv).1; rwa [hl] at this
        have hjl : j < zs.length := by rw [hd.len]; exact hj
        rw [Addr.add_lit, hc j hj]
        simp [hjl] at hv
        rw [← hv]
        simp [List.getD, hjl])
      hin (fun j hj => (h1 j (by omega)).2) (ints_oneCell _ _)
    rw [hl] at hrun
    refine ⟨_, hrun, ⟨hd.len, Nat.le_refl _, ho.cap, hd.wf, fun e => (by cases e), fun x hx => ?_⟩, grown_setCells g _ _ _⟩
    cases hx
    have hcell : ∀ j, j < n → (w.setCells g 0 (zs.map (Value.int .u8))).cell? ⟨g, 0 + j, none⟩ = some (.int .u8 (zs.getD j 0)) := fun j hj => by
      rw [World.cell?_setCells_in g _ 0 w hin j (by omega)]
      have hjl : j < zs.length := by rw [hd.len]; exact hj
      simp [List.getD, hjl]
    exact ⟨g, 0, rfl, fun j hj => ⟨by rw [hcell j hj]; rfl, by rw [World.frozen?_setCells]; exact (h1 j hj).2⟩, hcell⟩

end Go.Proofs.Qxb6619168a
