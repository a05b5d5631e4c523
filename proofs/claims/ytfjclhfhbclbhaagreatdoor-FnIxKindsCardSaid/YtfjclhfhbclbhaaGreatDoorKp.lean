/- What a call keeps of the memory that was there. -/
import Derived.Test.YtfjclhfhbclbhaaGreatDoorBase
namespace Go.Proofs.YtfjclhfhbclbhaaGreatDoor
open Go.RowKit

/-- What a call keeps: all blocks that were there but those of S; the streams. -/
structure Kp (S : Nat → Prop) (w w' : World) : Prop where
  os : w'.os = w.os
  tape : w'.tape = w.tape
  output : w'.output = w.output
  size : w.heap.size ≤ w'.heap.size
  block : ∀ k, k < w.heap.size → ¬ S k → w'.heap[k]? = w.heap[k]?

theorem Kp.refl (S : Nat → Prop) (w : World) : Kp S w w := ⟨rfl, rfl, rfl, Nat.le_refl _, fun _ _ _ => rfl⟩
theorem Kp.of_below {S : Nat → Prop} {w w' : World} (h : Below w.heap.size w w') : Kp S w w' := ⟨h.os, h.tape, h.output, h.size, fun k hk _ => h.block k hk⟩
theorem Kp.trans {S S' : Nat → Prop} {a b c : World} (h : Kp S a b) (k : Kp S' b c) (hs : ∀ i, S' i → S i ∨ a.heap.size ≤ i) : Kp S a c :=
  ⟨k.os.trans h.os, k.tape.trans h.tape, k.output.trans h.output, Nat.le_trans h.size k.size, fun i hi hn => (k.block i (Nat.lt_of_lt_of_le hi h.size) (fun h' => by rcases hs i h' with h1 | h1; exact hn h1; omega)).trans (h.block i hi hn)⟩
theorem Kp.mono {S S' : Nat → Prop} {a b : World} (h : Kp S a b) (hs : ∀ i, S i → S' i ∨ a.heap.size ≤ i) : Kp S' a b :=
  ⟨h.os, h.tape, h.output, h.size, fun i hi hn => h.block i hi (fun h' => by rcases hs i h' with h1 | h1; exact hn h1; omega)⟩
theorem Kp.set {S : Nat → Prop} {a b : World} (h : Kp S a b) {p : Addr} (hp : S p.block ∨ a.heap.size ≤ p.block) (v : Value) : Kp S a (b.setCell p v) :=
  h.trans (S' := fun i => i = p.block) ⟨rfl, rfl, rfl, by simp [World.setCell], fun k _ hk => Below.heap_setCell b p v k hk⟩ (fun i e => by rw [e]; exact hp)
theorem Kp.cell {S : Nat → Prop} {w w' : World} (h : Kp S w w') {p : Addr} (hp : p.block < w.heap.size) (hs : ¬ S p.block) : w'.cell? p = w.cell? p := World.cell?_of_block (w := w) (h.block _ hp hs)

end Go.Proofs.YtfjclhfhbclbhaaGreatDoor
