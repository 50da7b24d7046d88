/- laws.FnARReadStr. -/
import Derived.Test.YtemmhlibbihjmaaGreatArrR
import Derived.Test.YtemmhlibbihjmaaGreatSJoin
namespace Go.Proofs.YtemmhlibbihjmaaGreat
open Go.RowKit
set_option linter.unusedVariables false
set_option linter.unusedSimpArgs false

theorem srcs_three {w : World} {v1 v2 v3 : Value} {a b c : List UInt8} (h1 : BytesAt w v1 a) (h2 : BytesAt w v2 b) (h3 : BytesAt w v3 c) (T : TypeId) : SrcsAt (w.alloc (.cells #[v1, v2, v3] T)) w.heap.size [a, b, c] := by
  have hb : Below w.heap.size w (w.alloc (.cells #[v1, v2, v3] T)) := (Below.refl _ w).alloc (Nat.le_refl _) _
  have hh := heap_alloc_new w (.cells #[v1, v2, v3] T)
  intro k bs hk
  match k, hk with
  | 0, hk => obtain rfl : a = bs := by simpa using hk
             exact ⟨v1, by unfold World.cell?; simp only [hh]; rfl, h1.below hb⟩
  | 1, hk => obtain rfl : b = bs := by simpa using hk
             exact ⟨v2, by unfold World.cell?; simp only [hh]; rfl, h2.below hb⟩
  | 2, hk => obtain rfl : c = bs := by simpa using hk
             exact ⟨v3, by unfold World.cell?; simp only [hh]; rfl, h3.below hb⟩
theorem join_three (w : World) (v1 v2 v3 : Value) (a b c : List UInt8) (h1 : BytesAt w v1 a) (h2 : BytesAt w v2 b) (h3 : BytesAt w v3 c) (hl : a.length + b.length + c.length ≤ 1000000000) :
    Calls Tryz.prog 8 #[.slice (some ⟨w.heap.size, 0, none⟩) 3 3] (w.alloc (.cells #[v1, v2, v3] 29)) (MadeO (w.alloc (.cells #[v1, v2, v3] 29)) (a ++ (b ++ c))) := by
  have h := stJoin (w.alloc (.cells #[v1, v2, v3] 29)) w.heap.size 3 [a, b, c] (srcs_three h1 h2 h3 _) (by simp) (by simpa [Nat.add_assoc] using hl)
  have e : [a, b, c].flatten = a ++ (b ++ c) := by simp
  rw [e] at h
  exact h

/-- What is looked at is not much. -/
structure Little (ll : List (List ByteArray)) : Prop where
  len : ll.length ≤ 1000
  flat : ll.flatten.length ≤ 100000
  small : Small (bytesOf ll.flatten)
  enc : (encS (bytesOf ll.flatten)).length ≤ 100000000
  each : ∀ ss ∈ ll, ss.length ≤ 100000000
theorem encS_small (l : List (List UInt8)) : (encS l).length ≤ 2 * l.flatten.length + l.length := encK_le none l
theorem flat_bound {α : Type} (m : Nat) : ∀ ll : List (List α), (∀ ss ∈ ll, ss.length ≤ m) → ll.flatten.length ≤ ll.length * m
  | [], _ => by simp
  | x :: ll, h => by
    have h1 := flat_bound m ll fun s hs => h s (List.mem_cons_of_mem _ hs)
    have h2 := h x List.mem_cons_self
    rw [List.flatten_cons, List.length_append, List.length_cons, Nat.add_mul]
    omega
theorem little_of (ll : List (List ByteArray)) (n m : Nat) (hn : ll.length ≤ n) (hm : ∀ ss ∈ ll, ss.length ≤ m ∧ ∀ s ∈ ss, s.size ≤ 60) (h : n * m ≤ 100000) (hn1 : n ≤ 1000) : Little ll := by
  have hf : ll.flatten.length ≤ n * m := Nat.le_trans (flat_bound m ll fun ss hs => (hm ss hs).1) (Nat.mul_le_mul_right _ hn)
  have hb : (bytesOf ll.flatten).flatten.length ≤ (bytesOf ll.flatten).length * 60 := flat_bound 60 _ fun s hs => by
    unfold bytesOf at hs
    obtain ⟨x, hx, rfl⟩ := List.mem_map.1 hs
    obtain ⟨ss, h1, h2⟩ := List.mem_flatten.1 hx
    have := (hm ss h1).2 x h2
    rw [Array.length_toList]
    exact this
  have hl : (bytesOf ll.flatten).length = ll.flatten.length := by unfold bytesOf; rw [List.length_map]
  rw [hl] at hb
  have he := encS_small (bytesOf ll.flatten)
  rw [hl] at he
  refine ⟨by omega, by omega, ⟨by omega, by rw [hl]; omega⟩, by omega, fun ss hs => ?_⟩
  have h1 : ss.length ≤ ll.flatten.length := by
    obtain ⟨a, b, rfl⟩ := List.append_of_mem hs
    simp
    omega
  omega
theorem wordsOf_small (ss : List ByteArray) (m : Nat) : (wordsOf ss m).length ≤ m ∧ ∀ s ∈ wordsOf ss m, s.size ≤ 60 := by
  unfold wordsOf
  refine ⟨by simp; omega, fun s hs => ?_⟩
  obtain ⟨x, -, rfl⟩ := List.mem_map.1 hs
  exact cut60_size x
theorem listsOf_little (ll : List (List ByteArray)) : Little (listsOf ll) := by
  refine little_of _ 21 12 (by unfold listsOf; simp; omega) (fun ss hs => ?_) (by omega) (by omega)
  unfold listsOf at hs
  rcases List.mem_append.1 hs with hs | hs
  · obtain ⟨x, -, rfl⟩ := List.mem_map.1 hs
    exact wordsOf_small x 12
  · obtain rfl := List.mem_singleton.1 hs
    exact ⟨by simp, by decide⟩

end Go.Proofs.YtemmhlibbihjmaaGreat
