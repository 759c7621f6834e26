/- A byte slice that the law itself holds, nil or not: one word for both. -/
import Derived.Test.Qxb6603022aEncNil
import Derived.Test.Qxb6603022aRowIn
namespace Go.Proofs.Qxb6603022a
open Go.RowKit Go.WideShapes Go.ChangeShapes Go.ChangeAt
open M58

/-- v reads as the bytes zs. -/
def Rd (w : World) (v : Value) (zs : List Int) : Prop :=
  (v = .slice none 0 0 ∧ zs = []) ∨ ∃ g, v = .slice (some ⟨g, 0, none⟩) zs.length zs.length ∧ g < w.heap.size ∧ ∀ i, i < zs.length → w.cell? ⟨g, i, none⟩ = some (.int .u8 (zs.getD i 0))

theorem Rd.later {w w' : World} {v : Value} {zs : List Int} (h : Rd w v zs) (hb : Below w.heap.size w w') : Rd w' v zs := by
  rcases h with h | ⟨g, h1, h2, h3⟩
  · exact .inl h
  · exact .inr ⟨g, h1, Nat.lt_of_lt_of_le h2 hb.size, fun i hi => (hb.cell (by exact h2)).trans (h3 i hi)⟩

theorem Cloned.rd {w w' : World} {v : Value} {zs : List Int} (h : Cloned w w' v zs) : Rd w' v zs ∧ Below w.heap.size w w' := by
  rcases h with ⟨rfl, rfl, rfl⟩ | ⟨rfl, hown, hb⟩
  · exact ⟨.inl ⟨rfl, rfl⟩, Below.refl _ _⟩
  · exact ⟨.inr ⟨_, rfl, (hown.lt _ rfl).2, fun i hi => own_cell hown rfl i hi⟩, hb⟩

theorem encode_rd {v : Value} {zs : List Int} {w : World} (h : Rd w v zs) (hn : zs.length ≤ 4096) (hd : Dig 256 zs) :
    Calls Try.prog 8 #[v] w fun e w' => ∃ out, e = .returned (.string (strOfNums out)) ∧ Enc zs out ∧ Below w.heap.size w w' := by
  rcases h with ⟨rfl, rfl⟩ | ⟨g, rfl, h2, h3⟩
  · exact encode_nil w
  · exact encode_some g zs.length zs w hn rfl hd h3 h2
end Go.Proofs.Qxb6603022a
