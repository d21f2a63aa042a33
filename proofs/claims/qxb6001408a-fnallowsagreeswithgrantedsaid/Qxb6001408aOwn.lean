import Derived.WalkKit
import Derived.Below
import Derived.OwnWalk
import Derived.Laws.CopyOwn
import Derived.Maps.AppendAt
import Derived.Deep.Draws
/-! Small laws on owned rows and rows that are read: of no program. -/
namespace Go.Proofs.Qxb6001408a
open Go.RowKit

theorem grown_below {w w' : World} (h : w.grownBy w' none) : Below w.heap.size w w' :=
  ⟨h.os, h.tape, h.output, h.size, fun k hk => h.block k hk (by simp)⟩

theorem below_grown {w w' : World} (h : Below w.heap.size w w') : w.grownBy w' none :=
  ⟨h.os, h.tape, h.output, h.size, fun k hk _ => h.block k hk⟩

theorem grown_any {w w' : World} (h : w.grownBy w' none) (row : Option Nat) : w.grownBy w' row :=
  ⟨h.os, h.tape, h.output, h.size, fun k hk _ => h.block k hk (by simp)⟩

theorem grown_trans {w a b : World} {row row2 : Option Nat} (h : w.grownBy a row) (k : a.grownBy b row2) (hr : ∀ g, row2 = some g → row = some g ∨ w.heap.size ≤ g) : w.grownBy b row := by
  refine ⟨k.os.trans h.os, k.tape.trans h.tape, k.output.trans h.output, Nat.le_trans h.size k.size, fun i hi hne => ?_⟩
  have h1 := h.size
  rw [k.block i (by omega) (fun e => ?_), h.block i hi hne]
  rcases hr i e.symm with h2 | h2
  · exact hne h2.symm
  · omega

theorem grown_drew {w a : World} {row : Option Nat} (h : w.grownBy a row) : w.grownBy a.drew row := ⟨h.os, h.tape, h.output, h.size, h.block⟩

theorem grown_drewN {w a : World} {row : Option Nat} (h : w.grownBy a row) (q : Nat) : w.grownBy (a.drewN q) row := ⟨h.os, h.tape, h.output, h.size, h.block⟩

theorem grown_alloc {w a : World} {row : Option Nat} (h : w.grownBy a row) (o : Obj) : w.grownBy (a.alloc o) row :=
  grown_trans h (World.grownBy_alloc a o none) (fun _ e => by cases e)

/-- What is owned stays owned where every old block stays. -/
theorem own_below {w w' : World} {base : Nat} {e : TypeId} {size : Nat} {v : Value} {n : Nat} {xs : List Value} (h : w.ownsRow base e size v n xs) (hb : w.grownBy w' none) : w'.ownsRow base e size v n xs :=
  h.kept hb (by cases v.ownBlock <;> simp)

theorem own_base {w : World} {base base' : Nat} {e : TypeId} {size : Nat} {v : Value} {n : Nat} {xs : List Value} (h : w.ownsRow base e size v n xs) (hb : base' ≤ base) : w.ownsRow base' e size v n xs := by
  refine ⟨h.1, ?_⟩
  rcases h.2 with h2 | ⟨g, cap, cur, hv, hg, r⟩
  · exact .inl h2
  · exact .inr ⟨g, cap, cur, hv, Nat.le_trans hb hg, r⟩

/-- An owned value is a slice. -/
theorem own_form {w : World} {base : Nat} {e : TypeId} {size : Nat} {v : Value} {n : Nat} {xs : List Value} (h : w.ownsRow base e size v n xs) :
    ∃ ao cap, v = .slice ao n cap ∧ n ≤ cap := by
  rcases h.2 with ⟨rfl, rfl⟩ | ⟨g, cap, cur, rfl, _, _, hc, _⟩
  · exact ⟨_, _, rfl, Nat.le_refl _⟩
  · exact ⟨_, _, rfl, hc⟩

/-- The row of an owned value, written out. -/
theorem own_row {w : World} {base : Nat} {e : TypeId} {g n cap : Nat} {xs : List Value} (h : w.ownsRow base e 1 (.slice (some ⟨g, 0, none⟩) n cap) n xs) :
    ∃ cur : List Value, w.heap[g]? = some (.cells cur.toArray e (0, 0)) ∧ cur.length = cap := by
  rcases h.2 with ⟨h0, _⟩ | ⟨g', c, cur, hv, _, hh, _, _, hs, _⟩
  · simp at h0
  · simp only [Value.slice.injEq, Option.some.injEq, Addr.mk.injEq, and_true, true_and] at hv
    obtain ⟨rfl, rfl⟩ := hv
    exact ⟨cur.toList, by simpa using hh, by simpa using hs⟩

theorem own_of_block {w : World} {base : Nat} {e : TypeId} {g n : Nat} {cs : List Value} (h : w.heap[g]? = some (.cells cs.toArray e (0, 0))) (hl : cs.length = n) (hn : n ≤ maxLen) (hb : base ≤ g) :
    w.ownsRow base e 1 (.slice (some ⟨g, 0, none⟩) n n) n cs :=
  ⟨by simpa using hl, .inr ⟨g, n, cs.toArray, rfl, hb, h, Nat.le_refl _, hn, by simpa using hl, by subst hl; simp⟩⟩

theorem splice_all (cur cs : List Value) (h : cs.length = cur.length) : splice cur 0 cs = cs := by
  simp [splice, h]

/-- What appends do: old blocks stay but for the slice's own row; the new slice lies in the old one's row or in a new block. -/
def App (w w' : World) (v v' : Value) : Prop := w.grownBy w' v.ownBlock ∧ (v'.ownBlock = v.ownBlock ∨ ∃ g, v'.ownBlock = some g ∧ w.heap.size ≤ g)

theorem App.refl (w : World) (v : Value) : App w w v v := ⟨World.grownBy.refl _ _, .inl rfl⟩

theorem App.trans {a b c : World} {v0 v1 v2 : Value} (h : App a b v0 v1) (k : App b c v1 v2) : App a c v0 v2 := by
  have hs := h.1.size
  refine ⟨grown_trans h.1 k.1 (fun g hg => ?_), ?_⟩
  · rcases h.2 with h2 | ⟨g', h2, h3⟩
    · exact .inl (by rw [← h2, hg])
    · rw [h2] at hg; cases hg; exact .inr h3
  · rcases k.2 with k2 | ⟨g', k2, k3⟩
    · rw [k2]; exact h.2
    · exact .inr ⟨g', k2, by omega⟩

theorem App.alloc {a b : World} {v0 v1 : Value} (h : App a b v0 v1) (o : Obj) : App a (b.alloc o) v0 v1 := ⟨grown_alloc h.1 o, h.2⟩
theorem App.drew {a b : World} {v0 v1 : Value} (h : App a b v0 v1) : App a b.drew v0 v1 := ⟨grown_drew h.1, h.2⟩

theorem App.of_at {w w' : World} {v v' : Value} (hg : w.grownBy w' v.ownBlock) (ha : v'.ownBlock = v.ownBlock ∨ v'.ownBlock = some w.heap.size) : App w w' v v' :=
  ⟨hg, by rcases ha with h | h; exact .inl h; exact .inr ⟨_, h, Nat.le_refl _⟩⟩

theorem App.below {w w' : World} {v v' : Value} (h : App w w' v v') (B : Nat) (hB : B ≤ w.heap.size) (hv : ∀ g, v.ownBlock = some g → B ≤ g) : Below B w w' :=
  (Below.refl B w).grown h.1 hB hv

theorem App.ne {a b : World} {v v1 : Value} (h : App a b v v1) {g : Nat} (hg : g < a.heap.size) (hv : v.ownBlock ≠ some g) : v1.ownBlock ≠ some g := by
  rcases h.2 with h2 | ⟨g', h2, h3⟩
  · rw [h2]; exact hv
  · rw [h2]; intro e; cases e; omega

theorem App.lies {wr w2 : World} {u1 : Value} {o : Obj} {g cap m : Nat} (hg : (wr.alloc o).grownBy w2 u1.ownBlock) (hat : u1.ownBlock = some g ∨ g = wr.heap.size + 1) : App wr w2 u1 (.slice (some ⟨g, 0, none⟩) m cap) := by
  refine ⟨grown_trans (World.grownBy_alloc wr o _) hg (fun _ h => .inl h), ?_⟩
  rcases hat with h | h
  · exact .inl h.symm
  · exact .inr ⟨g, rfl, by omega⟩

theorem App.lies_drew {wr w2 : World} {u1 : Value} {o : Obj} {g cap m : Nat} (hg : (wr.alloc o).drew.grownBy w2 u1.ownBlock) (hat : u1.ownBlock = some g ∨ g = wr.heap.size + 1) : App wr w2 u1 (.slice (some ⟨g, 0, none⟩) m cap) :=
  App.lies (o := o) ⟨hg.os, hg.tape, hg.output, hg.size, hg.block⟩ hat

/-- A block that was laid just ahead of appends to another row. -/
theorem box_cell {w w1 : World} {cs : Array Value} {t : TypeId} {v v1 : Value} (h : App (w.alloc (.cells cs t)) w1 v v1) (hv : v.ownBlock ≠ some w.heap.size) (k : Nat) (u : Value) (hk : cs[k]? = some u) :
    w1.cell? ⟨w.heap.size, k, none⟩ = some u := by
  refine h.1.cell (a := ⟨w.heap.size, k, none⟩) ?_ (fun e => hv e.symm)
  rw [World.cell?_alloc_at _ _ _ _ rfl]
  exact hk

theorem own_ne {w : World} {base : Nat} {e : TypeId} {size : Nat} {v : Value} {n : Nat} {xs : List Value} (h : w.ownsRow base e size v n xs) : v.ownBlock ≠ some w.heap.size := by
  intro hv
  have := (h.lt _ hv).2
  omega

/-- The same memory (a draw or more may lie between). -/
def Same (w w' : World) : Prop := w'.heap = w.heap ∧ w'.os = w.os ∧ w'.tape = w.tape ∧ w'.output = w.output
theorem Same.refl (w : World) : Same w w := ⟨rfl, rfl, rfl, rfl⟩
theorem Same.cell {w w' : World} (h : Same w w') {a : Addr} {u : Value} (hu : w.cell? a = some u) : w'.cell? a = some u := by
  rw [← hu]; exact World.cell?_of_block (by rw [h.1])
theorem Same.drewN {w w' : World} (h : Same w w') (n : Nat) : Same w (w'.drewN n) := h
theorem Same.below {w w' : World} (h : Same w w') (B : Nat) : Below B w w' := ⟨h.2.1, h.2.2.1, h.2.2.2, by rw [h.1]; exact Nat.le_refl _, fun k _ => by rw [h.1]⟩
/-- A row of strings, as a reader sees it. -/
def RdS (w : World) (ao : Option Addr) (n : Nat) (z : Nat → ByteArray) : Prop := 0 < n → ∃ b o, ao = some ⟨b, o, none⟩ ∧ ∀ i, i < n → w.cell? ⟨b, o + i, none⟩ = some (.string (z i))
theorem RdS.kept {w w' : World} {ao : Option Addr} {n : Nat} {z : Nat → ByteArray} {row : Option Nat} (h : RdS w ao n z) (hg : w.grownBy w' row) (hne : ∀ x, ao = some x → some x.block ≠ row) : RdS w' ao n z := fun hn => by
  obtain ⟨b, o, e, hc⟩ := h hn
  exact ⟨b, o, e, fun i hi => hg.cell (hc i hi) (hne ⟨b, o, none⟩ e)⟩
theorem RdS.below {w w' : World} {ao : Option Addr} {n : Nat} {z : Nat → ByteArray} (h : RdS w ao n z) (hg : w.grownBy w' none) : RdS w' ao n z := h.kept hg (fun _ _ => by simp)
theorem Same.rds {w w' : World} (h : Same w w') {ao : Option Addr} {n : Nat} {z : Nat → ByteArray} (hr : RdS w ao n z) : RdS w' ao n z := fun hn => by
  obtain ⟨b, o, e, hc⟩ := hr hn
  exact ⟨b, o, e, fun i hi => h.cell (hc i hi)⟩

/-- A row of rows of strings: row i is (f i), its elements z i. -/
def RdSS (w : World) (ao : Option Addr) (n : Nat) (f : Nat → Option Addr × Nat × Nat) (z : Nat → Nat → ByteArray) : Prop :=
  0 < n → ∃ b o, ao = some ⟨b, o, none⟩ ∧ ∀ i, i < n → w.cell? ⟨b, o + i, none⟩ = some (.slice (f i).1 (f i).2.1 (f i).2.2) ∧ RdS w (f i).1 (f i).2.1 (z i)
theorem RdSS.below {w w' : World} {ao : Option Addr} {n : Nat} {f : Nat → Option Addr × Nat × Nat} {z : Nat → Nat → ByteArray} (h : RdSS w ao n f z) (hg : w.grownBy w' none) : RdSS w' ao n f z := fun hn => by
  obtain ⟨b, o, e, hc⟩ := h hn
  exact ⟨b, o, e, fun i hi => ⟨hg.cell (hc i hi).1 (by simp), (hc i hi).2.below hg⟩⟩

theorem hidP {p : Prop} (h : p) : Hid p := h

end Go.Proofs.Qxb6001408a
