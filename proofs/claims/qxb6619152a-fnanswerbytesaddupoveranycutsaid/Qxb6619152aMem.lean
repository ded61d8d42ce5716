/-
  WHAT MEMORY HOLDS, over whatever program: an overlap's six cells, rows of them, an extent's four cells.
-/
import Derived.WalkKit
import Derived.Deep.QuietTactic
import Derived.BigQuiet
namespace Go.Proofs.Qxb6619152a
open Go.RowKit

/-- What an overlap holds (the extent by its address alone). -/
structure Ov where
  key : ByteArray
  wth : ByteArray
  ver : Int
  ext : Option Addr
  abs : Bool
  more : Int

/-- An overlap's six cells lie at o of block b. -/
def OvAt (w : World) (b o : Nat) (x : Ov) : Prop :=
  w.cell? ⟨b, o, none⟩ = some (.string x.key) ∧ w.cell? ⟨b, o + 1, none⟩ = some (.string x.wth) ∧ w.cell? ⟨b, o + 2, none⟩ = some (.int .u64 x.ver) ∧ w.cell? ⟨b, o + 3, none⟩ = some (.pointer x.ext) ∧
  w.cell? ⟨b, o + 4, none⟩ = some (.bool x.abs) ∧ w.cell? ⟨b, o + 5, none⟩ = some (.int .i64 x.more)

/-- A slice of n overlaps. -/
structure Ovs (w : World) (a : Option Addr) (n : Nat) (os : Nat → Ov) : Prop where
  cells : 0 < n → ∃ b off, a = some ⟨b, off, none⟩ ∧ ∀ i, i < n → OvAt w b (off + i * 6) (os i)

/-- The block that an address lies in. -/
def blk (a : Option Addr) : Option Nat := a.map (·.block)

theorem grown_trans {w w1 w2 : World} {r r2 : Option Nat} (h1 : w.grownBy w1 r) (h2 : w1.grownBy w2 r2) (hr : ∀ k, r2 = some k → r = some k ∨ w.heap.size ≤ k) : w.grownBy w2 r := by
  refine ⟨h2.os.trans h1.os, h2.tape.trans h1.tape, h2.output.trans h1.output, Nat.le_trans h1.size h2.size, fun k hk hne => ?_⟩
  rw [h2.block k (Nat.lt_of_lt_of_le hk h1.size) (fun e => ?_), h1.block k hk hne]
  rcases hr k e.symm with h | h
  · exact hne h.symm
  · omega

theorem grown_none {w w' : World} {r : Option Nat} (h : w.grownBy w' none) : w.grownBy w' r :=
  ⟨h.os, h.tape, h.output, h.size, fun k hk _ => h.block k hk (by simp)⟩

theorem grown_drewN (w : World) (n : Nat) : w.grownBy (w.drewN n) none := by
  refine ⟨?_, ?_, ?_, ?_, ?_⟩ <;> simp [World.drewN]

theorem grown_drew (w : World) : w.grownBy w.drew none := ⟨rfl, rfl, rfl, Nat.le_refl _, fun _ _ _ => rfl⟩

theorem grown_setCell (w : World) (g o : Nat) (v : Value) : w.grownBy (w.setCell ⟨g, o, none⟩ v) (some g) :=
  ⟨rfl, rfl, rfl, by simp, fun j _ hne => heap_setCell_other w _ j _ (fun e => hne (by simp [e]))⟩

theorem OvAt.kept {w w' : World} {b o : Nat} {x : Ov} {r : Option Nat} (h : OvAt w b o x) (hg : w.grownBy w' r) (hne : some b ≠ r) : OvAt w' b o x :=
  ⟨hg.cell h.1 hne, hg.cell h.2.1 hne, hg.cell h.2.2.1 hne, hg.cell h.2.2.2.1 hne, hg.cell h.2.2.2.2.1 hne, hg.cell h.2.2.2.2.2 hne⟩

theorem Ovs.kept {w w' : World} {a : Option Addr} {n : Nat} {os : Nat → Ov} {r : Option Nat} (h : Ovs w a n os) (hg : w.grownBy w' r) (hne : blk a = none ∨ blk a ≠ r) : Ovs w' a n os := by
  refine ⟨fun h0 => ?_⟩
  obtain ⟨b, off, rfl, hc⟩ := h.cells h0
  refine ⟨b, off, rfl, fun i hi => (hc i hi).kept hg ?_⟩
  rcases hne with hne | hne
  · simp [blk] at hne
  · simpa [blk] using hne

theorem Ovs.same {w w' : World} {a : Option Addr} {n : Nat} {os : Nat → Ov} (h : Ovs w a n os) (hg : w.grownBy w' none) : Ovs w' a n os :=
  h.kept hg (by cases hb : blk a <;> simp)

/-- Six cells stored, one by one, at o of block g. -/
def put6 (w : World) (g o : Nat) (x : Ov) : World :=
  (((((w.setCell ⟨g, o, none⟩ (.string x.key)).setCell ⟨g, o + 1, none⟩ (.string x.wth)).setCell ⟨g, o + 2, none⟩ (.int .u64 x.ver)).setCell ⟨g, o + 3, none⟩ (.pointer x.ext)).setCell ⟨g, o + 4, none⟩ (.bool x.abs)).setCell ⟨g, o + 5, none⟩ (.int .i64 x.more)

/-- n cells are there from o on, and may be written. -/
def Room (w : World) (g o n : Nat) : Prop := ∀ j, j < n → (w.cell? ⟨g, o + j, none⟩).isSome = true ∧ w.frozen? ⟨g, o + j, none⟩ = false

/-- The six cells. -/
def Ov.cs (x : Ov) : List Value := [.string x.key, .string x.wth, .int .u64 x.ver, .pointer x.ext, .bool x.abs, .int .i64 x.more]

theorem put6_eq (w : World) (g o : Nat) (x : Ov) : put6 w g o x = w.setCells g o x.cs := rfl

theorem grown_setCells (g : Nat) : ∀ (vs : List Value) (o : Nat) (w : World), w.grownBy (w.setCells g o vs) (some g)
  | [], _, w => World.grownBy.refl w _
  | v :: r, o, w => grown_trans (grown_setCell w g o v) (grown_setCells g r (o + 1) _) (fun _ hk => .inl hk)

theorem Room.setCells {w : World} {g m : Nat} (h : Room w g 0 m) (b o : Nat) (vs : List Value) (hv : b = g → ∀ j, j < vs.length → (w.cell? ⟨g, o + j, none⟩).isSome = true) : Room (w.setCells b o vs) g 0 m := by
  intro j hj
  refine ⟨?_, by rw [World.frozen?_setCells]; exact (h j hj).2⟩
  by_cases hb : b = g
  · subst hb
    rw [Nat.zero_add]
    by_cases hin : o ≤ j ∧ j < o + vs.length
    · have := World.cell?_setCells_in b vs o w (hv rfl) (j - o) (by omega)
      rw [show o + (j - o) = j by omega] at this
      rw [this]; rfl
    · rw [World.cell?_setCells_out b _ _ _ _ (fun _ _ => by simp only; omega)]
      have := (h j hj).1
      rwa [Nat.zero_add] at this
  · rw [World.cell?_setCells_out b _ _ _ _ (fun e => absurd e.symm hb)]
    exact (h j hj).1

theorem Room.put6 {w : World} {g m : Nat} (h : Room w g 0 m) (o : Nat) (x : Ov) (ho : o + 6 ≤ m) : Room (put6 w g o x) g 0 m := by
  rw [put6_eq]
  refine h.setCells g o x.cs (fun _ j hj => ?_)
  have := (h (o + j) (by simp [Ov.cs] at hj; omega)).1
  rwa [Nat.zero_add] at this

theorem Room.kept {w w' : World} {g m : Nat} {r : Option Nat} (h : Room w g 0 m) (hg : w.grownBy w' r) (hne : some g ≠ r) : Room w' g 0 m := by
  intro j hj
  obtain ⟨u, hu⟩ := Option.isSome_iff_exists.1 (h j hj).1
  have hb := hg.block g (World.block_lt_of_cell? w _ hu) hne
  exact ⟨by rw [World.cell?_of_block (w := w) hb]; exact (h j hj).1, by rw [World.frozen?_of_block (w := w) hb]; exact (h j hj).2⟩

theorem put6_at {w : World} {g m : Nat} (h : Room w g 0 m) (o : Nat) (x : Ov) (ho : o + 6 ≤ m) : OvAt (put6 w g o x) g o x := by
  have hin := World.cell?_setCells_in g x.cs o w (fun j hj => by
    have := (h (o + j) (by simp [Ov.cs] at hj; omega)).1
    rwa [Nat.zero_add] at this)
  rw [put6_eq]
  exact ⟨hin 0 (by simp [Ov.cs]), hin 1 (by simp [Ov.cs]), hin 2 (by simp [Ov.cs]), hin 3 (by simp [Ov.cs]), hin 4 (by simp [Ov.cs]), hin 5 (by simp [Ov.cs])⟩

theorem put6_other {w : World} {g o o' : Nat} {x y : Ov} (h : OvAt w g o' y) (ho : o' + 6 ≤ o ∨ o + 6 ≤ o') : OvAt (put6 w g o x) g o' y := by
  rw [put6_eq]
  have out : ∀ j, j < 6 → (w.setCells g o x.cs).cell? ⟨g, o' + j, none⟩ = w.cell? ⟨g, o' + j, none⟩ := fun j hj => World.cell?_setCells_out g _ _ _ _ (fun _ _ => by simp [Ov.cs]; omega)
  exact ⟨(out 0 (by omega)).trans h.1, (out 1 (by omega)).trans h.2.1, (out 2 (by omega)).trans h.2.2.1, (out 3 (by omega)).trans h.2.2.2.1, (out 4 (by omega)).trans h.2.2.2.2.1, (out 5 (by omega)).trans h.2.2.2.2.2⟩

theorem grown_put6 (w : World) (g o : Nat) (x : Ov) : w.grownBy (put6 w g o x) (some g) := by
  rw [put6_eq]; exact grown_setCells g _ _ _

theorem size_put6 (w : World) (g o : Nat) (x : Ov) : (put6 w g o x).heap.size = w.heap.size := by
  unfold put6; simp

/-- What one round of filling a row does. -/
theorem round6 {w wr : World} {g n k : Nat} {os : Nat → Ov} (hd : ∀ j, j < k → OvAt wr g (j * 6) (os j)) (hr : Room wr g 0 (n * 6)) (hg : w.grownBy wr none) (hgs : w.heap.size ≤ g) (hk : k < n) (ob : Obj) (hlt : g < wr.heap.size) :
    (∀ j, j < k + 1 → OvAt ((put6 wr g (k * 6) (os k)).alloc ob) g (j * 6) (os j)) ∧ Room ((put6 wr g (k * 6) (os k)).alloc ob) g 0 (n * 6) ∧ w.grownBy ((put6 wr g (k * 6) (os k)).alloc ob) none ∧ g < ((put6 wr g (k * 6) (os k)).alloc ob).heap.size := by
  have ha := World.grownBy_alloc (put6 wr g (k * 6) (os k)) ob none
  refine ⟨fun j hj => OvAt.kept ?_ ha (by simp), Room.kept (hr.put6 _ _ (by omega)) ha (by simp), ?_, ?_⟩
  · by_cases hjk : j = k
    · subst hjk; exact put6_at hr _ _ (by omega)
    · exact put6_other (hd j (by omega)) (by omega)
  · exact grown_trans (grown_trans hg (grown_put6 wr g _ _) (fun q hq => .inr (by cases hq; exact hgs))) ha (by simp)
  · simp [size_put6]; omega

/-- Four floats, by their bits. -/
structure Fl where
  p : Nat
  q : Nat
  r : Nat
  s : Nat

/-- An extent's four cells lie at o of block b. -/
def FlAt (w : World) (b o : Nat) (f : Fl) : Prop :=
  w.cell? ⟨b, o, none⟩ = some (.float .f64 f.p) ∧ w.cell? ⟨b, o + 1, none⟩ = some (.float .f64 f.q) ∧ w.cell? ⟨b, o + 2, none⟩ = some (.float .f64 f.r) ∧ w.cell? ⟨b, o + 3, none⟩ = some (.float .f64 f.s)

/-- A pointer to an extent: nil, or to the four floats. -/
def ExtAt (w : World) (a : Option Addr) (f : Option Fl) : Prop :=
  (a = none ∧ f = none) ∨ ∃ b o x, a = some ⟨b, o, none⟩ ∧ f = some x ∧ FlAt w b o x

theorem FlAt.kept {w w' : World} {b o : Nat} {f : Fl} {r : Option Nat} (h : FlAt w b o f) (hg : w.grownBy w' r) (hne : some b ≠ r) : FlAt w' b o f :=
  ⟨hg.cell h.1 hne, hg.cell h.2.1 hne, hg.cell h.2.2.1 hne, hg.cell h.2.2.2 hne⟩

theorem ExtAt.kept {w w' : World} {a : Option Addr} {f : Option Fl} {r : Option Nat} (h : ExtAt w a f) (hg : w.grownBy w' r) (hne : blk a = none ∨ blk a ≠ r) : ExtAt w' a f := by
  rcases h with h | ⟨b, o, x, rfl, rfl, h⟩
  · exact .inl h
  · refine .inr ⟨b, o, x, rfl, rfl, h.kept hg ?_⟩
    rcases hne with hne | hne
    · simp [blk] at hne
    · simpa [blk] using hne

theorem ExtAt.same {w w' : World} {a : Option Addr} {f : Option Fl} (h : ExtAt w a f) (hg : w.grownBy w' none) : ExtAt w' a f :=
  h.kept hg (by cases hb : blk a <;> simp)

theorem Room.six {w : World} {g m : Nat} (h : Room w g 0 m) (o : Nat) (ho : o + 6 ≤ m) : ∃ v0 v1 v2 v3 v4 v5, w.cell? ⟨g, o, none⟩ = some v0 ∧ w.cell? ⟨g, o + 1, none⟩ = some v1 ∧ w.cell? ⟨g, o + 2, none⟩ = some v2 ∧ w.cell? ⟨g, o + 3, none⟩ = some v3 ∧ w.cell? ⟨g, o + 4, none⟩ = some v4 ∧ w.cell? ⟨g, o + 5, none⟩ = some v5 ∧
    w.frozen? ⟨g, o, none⟩ = false ∧ w.frozen? ⟨g, o + 1, none⟩ = false ∧ w.frozen? ⟨g, o + 2, none⟩ = false ∧ w.frozen? ⟨g, o + 3, none⟩ = false ∧ w.frozen? ⟨g, o + 4, none⟩ = false ∧ w.frozen? ⟨g, o + 5, none⟩ = false := by
  have at_ : ∀ j, j < 6 → ∃ v, w.cell? ⟨g, o + j, none⟩ = some v ∧ w.frozen? ⟨g, o + j, none⟩ = false := fun j hj => by
    have := h (o + j) (by omega)
    rw [Nat.zero_add] at this
    obtain ⟨v, hv⟩ := Option.isSome_iff_exists.1 this.1
    exact ⟨v, hv, this.2⟩
  obtain ⟨v0, a0, b0⟩ := at_ 0 (by omega)
  obtain ⟨v1, a1, b1⟩ := at_ 1 (by omega)
  obtain ⟨v2, a2, b2⟩ := at_ 2 (by omega)
  obtain ⟨v3, a3, b3⟩ := at_ 3 (by omega)
  obtain ⟨v4, a4, b4⟩ := at_ 4 (by omega)
  obtain ⟨v5, a5, b5⟩ := at_ 5 (by omega)
  exact ⟨v0, v1, v2, v3, v4, v5, a0, a1, a2, a3, a4, a5, b0, b1, b2, b3, b4, b5⟩

theorem room_of_own {w : World} {base e size n : Nat} {xs : List Value} {g : Nat} (h : w.ownsRow base e size (.slice (some ⟨g, 0, none⟩) n n) n xs) : Room w g 0 (n * size) := by
  intro j hj
  rw [Nat.zero_add, h.cellAt j hj]
  refine ⟨?_, h.frozenAt j⟩
  have := h.1
  simp
  omega

/-- An overlap with another extent. -/
def Ov.at (x : Ov) (a : Option Addr) : Ov := { x with ext := a }

/-- What one round of zzCheckOverlaps does. -/
theorem round_ext {w wr w2 wf : World} {g n k : Nat} {os : Nat → Ov} {fs : Nat → Option Fl} {xs : Nat → Option Addr} (a : Option Addr)
    (hd : ∀ j, j < k → OvAt wr g (j * 6) ((os j).at (xs j))) (hx : ∀ j, j < k → ExtAt wr (xs j) (fs j) ∧ blk (xs j) ≠ some g) (hr : Room wr g 0 (n * 6)) (hg : w.grownBy wr none) (hgs : w.heap.size ≤ g) (hk : k < n) (hlt : g < wr.heap.size)
    (h2 : wr.grownBy w2 none) (ha : ExtAt w2 a (fs k)) (hab : blk a ≠ some g) (hf : (put6 w2 g (k * 6) ((os k).at a)).grownBy wf none) :
    ∃ xs' : Nat → Option Addr, (∀ j, j < k + 1 → OvAt wf g (j * 6) ((os j).at (xs' j))) ∧ (∀ j, j < k + 1 → ExtAt wf (xs' j) (fs j) ∧ blk (xs' j) ≠ some g) ∧ Room wf g 0 (n * 6) ∧ w.grownBy wf none ∧ g < wf.heap.size := by
  have hr2 := hr.kept h2 (by simp)
  have hp := grown_put6 w2 g (k * 6) ((os k).at a)
  refine ⟨fun j => if j = k then a else xs j, fun j hj => OvAt.kept ?_ hf (by simp), fun j hj => ?_, Room.kept (hr2.put6 _ _ (by omega)) hf (by simp), ?_, ?_⟩
  · by_cases hjk : j = k
    · subst hjk; dsimp only; rw [if_pos rfl]; exact put6_at hr2 _ _ (by omega)
    · dsimp only; rw [if_neg hjk]; exact put6_other ((hd j (by omega)).kept h2 (by simp)) (by omega)
  · by_cases hjk : j = k
    · subst hjk; dsimp only; rw [if_pos rfl]; exact ⟨(ha.kept hp (.inr hab)).same hf, hab⟩
    · dsimp only; rw [if_neg hjk]
      obtain ⟨h1, h3⟩ := hx j (by omega)
      exact ⟨((h1.same h2).kept hp (.inr h3)).same hf, h3⟩
  · exact grown_trans (grown_trans (grown_trans hg h2 (by simp)) hp (fun q hq => .inr (by cases hq; exact hgs))) hf (by simp)
  · have := hf.size
    rw [size_put6] at this
    have := h2.size
    omega

end Go.Proofs.Qxb6619152a
