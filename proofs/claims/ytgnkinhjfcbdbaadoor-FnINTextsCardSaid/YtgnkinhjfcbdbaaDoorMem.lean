/- Words on memory: which blocks a call may have changed (Chg, Upd), footprints. No program. -/
import Derived.WalkKit
import Derived.ProofKit
import Derived.Deep.AppendLies
import Derived.Deep.Draws
namespace Go.Proofs.YtgnkinhjfcbdbaaDoor
open Go.RowKit

/-- Of the blocks that there were, only those of F may have changed. -/
structure Chg (F : Nat → Prop) (w w' : World) : Prop where
  os : w'.os = w.os
  tape : w'.tape = w.tape
  output : w'.output = w.output
  size : w.heap.size ≤ w'.heap.size
  block : ∀ k, k < w.heap.size → ¬ F k → w'.heap[k]? = w.heap[k]?

theorem Chg.refl (F : Nat → Prop) (w : World) : Chg F w w := ⟨rfl, rfl, rfl, Nat.le_refl _, fun _ _ _ => rfl⟩

theorem Chg.mono {F G : Nat → Prop} {w w' : World} (h : Chg F w w') (hg : ∀ k, k < w.heap.size → F k → G k) : Chg G w w' :=
  ⟨h.os, h.tape, h.output, h.size, fun k hk hn => h.block k hk fun hf => hn (hg k hk hf)⟩

theorem Chg.trans {F G : Nat → Prop} {a b c : World} (h : Chg F a b) (k : Chg G b c) (hg : ∀ i, i < a.heap.size → G i → F i) : Chg F a c :=
  ⟨k.os.trans h.os, k.tape.trans h.tape, k.output.trans h.output, Nat.le_trans h.size k.size,
   fun i hi hn => (k.block i (Nat.lt_of_lt_of_le hi h.size) fun x => hn (hg i hi x)).trans (h.block i hi hn)⟩

theorem Chg.below {F : Nat → Prop} {w w' : World} (h : Chg F w w') {B : Nat} (hB : B ≤ w.heap.size) (hF : ∀ k, F k → B ≤ k) : Below B w w' :=
  ⟨h.os, h.tape, h.output, h.size, fun k hk => h.block k (by omega) fun hf => by have := hF k hf; omega⟩

theorem Chg.of_below {F : Nat → Prop} {w w' : World} (h : Below w.heap.size w w') : Chg F w w' :=
  ⟨h.os, h.tape, h.output, h.size, fun k hk _ => h.block k hk⟩

theorem Chg.alloc {F : Nat → Prop} {a w : World} (h : Chg F a w) (o : Obj) : Chg F a (w.alloc o) :=
  h.trans (G := F) ⟨rfl, rfl, rfl, by simp, fun k hk _ => Below.heap_alloc _ _ _ hk⟩ fun _ _ x => x

theorem Chg.drew {F : Nat → Prop} {a w : World} (h : Chg F a w) : Chg F a w.drew := ⟨h.os, h.tape, h.output, h.size, h.block⟩

theorem Chg.drewN {F : Nat → Prop} {a w : World} (h : Chg F a w) (n : Nat) : Chg F a (w.drewN n) := ⟨h.os, h.tape, h.output, h.size, h.block⟩

theorem Chg.setCell {F : Nat → Prop} {a w : World} (h : Chg F a w) {p : Addr} (hp : F p.block ∨ a.heap.size ≤ p.block) (u : Value) : Chg F a (w.setCell p u) :=
  ⟨h.os, h.tape, h.output, by simpa [World.setCell] using h.size, fun k hk hn => by
    rw [Below.heap_setCell _ _ _ _ (by rintro rfl; exact hp.elim hn fun x => by omega)]; exact h.block k hk hn⟩

theorem Chg.grown {F : Nat → Prop} {a w w' : World} {row : Option Nat} (h : Chg F a w) (hg : w.grownBy w' row) (hr : ∀ k, row = some k → F k ∨ a.heap.size ≤ k) : Chg F a w' :=
  ⟨hg.os.trans h.os, hg.tape.trans h.tape, hg.output.trans h.output, Nat.le_trans h.size hg.size, fun k hk hn => by
    have h1 := h.size
    rw [hg.block k (by omega) (fun e => by exact (hr k e.symm).elim hn fun x => by omega)]; exact h.block k hk hn⟩

theorem Chg.cell {F : Nat → Prop} {w w' : World} (h : Chg F w w') {p : Addr} (hp : p.block < w.heap.size) (hn : ¬ F p.block) : w'.cell? p = w.cell? p := World.cell?_of_block (w := w) (h.block p.block hp hn)
theorem Chg.frozen {F : Nat → Prop} {w w' : World} (h : Chg F w w') {p : Addr} (hp : p.block < w.heap.size) (hn : ¬ F p.block) : w'.frozen? p = w.frozen? p := World.frozen?_of_block (w := w) (h.block p.block hp hn)

/-- Two footprints that share nothing. -/
def Disj (F G : Nat → Prop) : Prop := ∀ k, F k → ¬ G k
theorem Disj.symm {F G : Nat → Prop} (h : Disj F G) : Disj G F := fun k a b => h k b a

/-- A footprint whose blocks are there. -/
def In (F : Nat → Prop) (w : World) : Prop := ∀ k, F k → k < w.heap.size
theorem In.mono {F : Nat → Prop} {w w' : World} (h : In F w) (hs : w.heap.size ≤ w'.heap.size) : In F w' := fun k hk => Nat.lt_of_lt_of_le (h k hk) hs

/-- From w to w' only F has changed; F' is F and new blocks. -/
structure Upd (w w' : World) (F F' : Nat → Prop) : Prop where
  chg : Chg F w w'
  new : ∀ k, F' k → F k ∨ (w.heap.size ≤ k ∧ k < w'.heap.size)

theorem Upd.refl (F : Nat → Prop) (w : World) : Upd w w F F := ⟨Chg.refl _ _, fun _ h => .inl h⟩
theorem Upd.trans {a b c : World} {F G H : Nat → Prop} (h : Upd a b F G) (k : Upd b c G H) : Upd a c F H :=
  ⟨h.chg.trans k.chg fun i hi hg => by exact (h.new i hg).elim id fun x => by omega,
   fun i hi => by
    have h1 := h.chg.size; have h2 := k.chg.size
    rcases k.new i hi with x | x
    · rcases h.new i x with y | y
      · exact .inl y
      · exact .inr (by omega)
    · exact .inr (by omega)⟩
theorem Upd.new_grow {a w w' : World} {F F' : Nat → Prop} (h : Upd a w F F') (hs : w.heap.size ≤ w'.heap.size) : ∀ k, F' k → F k ∨ (a.heap.size ≤ k ∧ k < w'.heap.size) := fun k hk => (h.new k hk).imp id fun x => ⟨x.1, Nat.lt_of_lt_of_le x.2 hs⟩
theorem Upd.below {a w w' : World} {F F' : Nat → Prop} (h : Upd a w F F') (hb : Below w.heap.size w w') : Upd a w' F F' :=
  ⟨h.chg.trans (Chg.of_below (F := F) hb) (fun _ _ h => h), h.new_grow hb.size⟩
theorem Upd.alloc {a w : World} {F F' : Nat → Prop} (h : Upd a w F F') (o : Obj) : Upd a (w.alloc o) F F' :=
  ⟨h.chg.alloc o, fun k hk => (h.new k hk).imp id fun x => by simp; omega⟩
theorem Upd.drew {a w : World} {F F' : Nat → Prop} (h : Upd a w F F') : Upd a w.drew F F' := ⟨h.chg.drew, h.new⟩
theorem Upd.drewN {a w : World} {F F' : Nat → Prop} (h : Upd a w F F') (n : Nat) : Upd a (w.drewN n) F F' := ⟨h.chg.drewN n, h.new⟩
theorem Upd.disj {w w' : World} {F F' G : Nat → Prop} (h : Upd w w' F F') (hd : Disj G F) (hG : In G w) : Disj G F' := fun k hk hf => by
  rcases h.new k hf with x | x
  · exact hd k hk x
  · have := hG k hk; omega
theorem Upd.inn {w w' : World} {F F' : Nat → Prop} (h : Upd w w' F F') (hF : In F w) : In F' w' := fun k hk => by
  have := h.chg.size
  rcases h.new k hk with x | x
  · have := hF k x; omega
  · omega

theorem setCell_one {w : World} {p : Nat} {v v' : Value} {T : TypeId} (h : w.heap[p]? = some (.cells #[v] T (0, 0))) : (w.setCell ⟨p, 0, none⟩ v').heap[p]? = some (.cells #[v'] T (0, 0)) := by
  simp [World.setCell, Array.getElem?_modify, h]

theorem news_one (w : World) (x : Value) (e : TypeId) (f : Nat × Nat) : ∀ j u, [x][j]? = some u → (w.alloc (.cells #[x] e f)).cell? ((⟨w.heap.size, 0, none⟩ : Addr).add j) = some u := by
  intro j u h
  cases j with
  | zero => simp at h; subst h; show (match (w.heap.push _)[w.heap.size]? with | some (.cells c _ _) => _ | _ => _) = _; simp [Addr.add]
  | succ j => simp at h
theorem one_int (k : IntKind) (n : Int) : ∀ u ∈ [Value.int k n], u.oneCell' = true := by intro u hu; simp at hu; subst hu; rfl
theorem one_u8s (l : List UInt8) : ∀ u ∈ l.map (fun b => Value.int .u8 (b.toNat : Int)), u.oneCell' = true := by
  intro u hu; obtain ⟨b, _, rfl⟩ := List.mem_map.1 hu; rfl

/-- An owned row stands where its block stands. -/
theorem ownsRow_block {w w' : World} {base : Nat} {e : TypeId} {size : Nat} {v : Value} {n : Nat} {xs : List Value} (h : w.ownsRow base e size v n xs)
    (hb : ∀ g, v.ownBlock = some g → w'.heap[g]? = w.heap[g]?) : w'.ownsRow base e size v n xs := by
  obtain ⟨h1, h2⟩ := h
  refine ⟨h1, ?_⟩
  rcases h2 with h2 | ⟨g, cap, cur, hv, hg, hh, r⟩
  · exact .inl h2
  · exact .inr ⟨g, cap, cur, hv, hg, by rw [hb g (by simp [hv, Value.ownBlock])]; exact hh, r⟩
end Go.Proofs.YtgnkinhjfcbdbaaDoor
