/-
  'Q w w'': the world has at most new blocks, and nothing that was there has turned. 'Grown' (for the row's step) and 'Below' (for reading one's own box behind a call) in one word.
-/
import Derived.WalkKit
import Derived.ProofKit
import Derived.Deep.Draws
namespace Go.Proofs.Qxb6003379a
open Go.RowKit

def Q (W w' : World) : Prop := Grown W w' ∧ Below W.heap.size W w'

theorem Q.refl (W : World) : Q W W := ⟨Grown.refl W, Below.refl _ _⟩
theorem Q.trans {a b c : World} (h : Q a b) (k : Q b c) : Q a c :=
  ⟨⟨World.keptBut_trans h.1.1 k.1.1, fun x => (k.1.2.1 x).trans (h.1.2.1 x), Nat.le_trans h.1.2.2 k.1.2.2⟩, h.2.trans (k.2.mono h.1.2.2)⟩
theorem Q.alloc {W w' : World} (h : Q W w') (c : Array Value) (t : TypeId) : Q W (w'.alloc (.cells c t)) :=
  ⟨h.1.alloc c t, h.2.alloc h.1.2.2 _⟩
theorem Q.drew {W w' : World} (h : Q W w') : Q W w'.drew := ⟨h.1.drew, h.2.drew⟩
theorem Q.drewN {W w' : World} (h : Q W w') (n : Nat) : Q W (w'.drewN n) :=
  ⟨h.1, ⟨h.2.os, h.2.tape, h.2.output, h.2.size, h.2.block⟩⟩
theorem Q.setCell {W w' : World} (h : Q W w') {a : Addr} (ha : W.heap.size ≤ a.block) (v : Value) : Q W (w'.setCell a v) :=
  ⟨h.1.setCell ha v, h.2.setCell ha v⟩
theorem Q.cells {W w' : World} (h : Q W w') : (∀ b o, b < W.heap.size → w'.cell? ⟨b, o, none⟩ = W.cell? ⟨b, o, none⟩) :=
  fun b o hb => h.2.cell (p := ⟨b, o, none⟩) hb
theorem Q.size {W w' : World} (h : Q W w') : W.heap.size ≤ w'.heap.size := h.1.2.2
end Go.Proofs.Qxb6003379a
