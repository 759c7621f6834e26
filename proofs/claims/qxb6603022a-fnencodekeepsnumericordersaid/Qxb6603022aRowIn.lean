/- What a slice of bytes that came in is, and its clone. -/
import Derived.Test.Qxb6603022aClone
import Derived.OpenShut
namespace Go.Proofs.Qxb6603022a
open Go.RowKit Go.WideShapes Go.ChangeShapes Go.ChangeAt
open M58

/-- WHAT THE WALK IS TOLD OF A SLICE OF INTEGERS THAT CAME IN: it is nil; or it leads to a row of 'cap' cells, the numbers 'zs' (the first 'len' are its elements, the rest its spare room), each fitting its kind. -/
def IsRow (k : IntKind) (w : World) (a : Option Addr) (len cap : Nat) (zs : List Int) : Prop :=
  (a = none ∧ len = 0 ∧ cap = 0 ∧ zs = []) ∨
  ∃ x, a = some x ∧ len ≤ cap ∧ cap ≤ maxLen ∧ zs.length = cap ∧ (∀ i, i < zs.length → w.cell? (x.add i) = some (.int k (zs.getD i 0))) ∧ ∀ n ∈ zs, (Lit.int k n).wf = true

theorem dig_of_wf {zs : List Int} (h : ∀ n ∈ zs, (Lit.int .u8 n).wf = true) : Dig 256 zs := by
  intro d hd
  have := bounds_u8 (h d hd)
  omega

/-- The clone's outcome: nil, or a row of the call's own. -/
def Cloned (w w' : World) (v : Value) (zs : List Int) : Prop :=
  (v = .slice none 0 0 ∧ zs = [] ∧ w' = w) ∨
  (v = .slice (some ⟨w.heap.size, 0, none⟩) zs.length zs.length ∧ w'.ownsRow w.heap.size 5 1 (.slice (some ⟨w.heap.size, 0, none⟩) zs.length zs.length) zs.length (B8 zs) ∧ Below w.heap.size w w')

theorem clone_any {w : World} {a : Option Addr} {len cap : Nat} {zs : List Int} (h : IsRow .u8 w a len cap zs) (hl : len ≤ 1048576) :
    Calls Try.prog 7 #[.slice a len cap] w fun e w' => ∃ v, e = .returned v ∧ Cloned w w' v (zs.take len) := by
  rcases h with ⟨rfl, rfl, rfl, rfl⟩ | ⟨x, rfl, h1, h2, h3, h4, h5⟩
  · refine (clone_nil w).mono ?_
    rintro e w' ⟨rfl, rfl⟩
    exact ⟨_, rfl, .inl ⟨rfl, rfl, rfl⟩⟩
  · refine (clone_some x len cap zs w hl (by omega) (fun i hi => h4 i (by omega))).mono ?_
    rintro e w' ⟨rfl, hb, hc⟩
    have e : (zs.take len).length = len := by simp; omega
    refine ⟨_, rfl, .inr ⟨by rw [e], by rw [e]; exact hb, hc⟩⟩

theorem dig_any {w : World} {a : Option Addr} {len cap : Nat} {zs : List Int} (h : IsRow .u8 w a len cap zs) : Dig 256 (zs.take len) := by
  rcases h with ⟨rfl, rfl, rfl, rfl⟩ | ⟨x, rfl, h1, h2, h3, h4, h5⟩
  · exact Dig_nil _
  · exact Dig_take (dig_of_wf h5) _

theorem len_any {w : World} {a : Option Addr} {len cap : Nat} {zs : List Int} (h : IsRow .u8 w a len cap zs) : (zs.take len).length = len ∧ len ≤ maxLen := by
  rcases h with ⟨rfl, rfl, rfl, rfl⟩ | ⟨x, rfl, h1, h2, h3, h4, h5⟩
  · exact ⟨rfl, Nat.zero_le _⟩
  · exact ⟨by simp; omega, by omega⟩
end Go.Proofs.Qxb6603022a
