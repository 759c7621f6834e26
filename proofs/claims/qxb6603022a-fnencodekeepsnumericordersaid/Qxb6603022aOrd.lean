/- Pieces for FnEncodeKeepsNumericOrder. -/
import Derived.Test.Qxb6603022aSlex
namespace Go.Proofs.Qxb6603022a
open Go.RowKit Go.WideShapes Go.ChangeShapes Go.ChangeAt
open M58

theorem bytes12_yes (a b : Option Addr) (len cap len2 cap2 : Nat) (w : World) (h : len + len2 ≤ 1048576) :
    Calls Try.prog 12 #[.slice a len cap, .slice b len2 cap2] w fun e w' => e = .returned (.bool true) ∧ w = w' := by
  have h1 : ¬ (1048576 : Int) < (len : Int) := by omega
  have h2 : ¬ (1048576 : Int) < (len2 : Int) := by omega
  have h3 : ¬ (1048576 : Int) < (len : Int) + (len2 : Int) := by omega
  go_enter Try.func12, Try.ntmps12
  go_wp2
  go_ret
  exact ⟨rfl, rfl⟩
theorem bytes12_no (a b : Option Addr) (len cap len2 cap2 : Nat) (w : World) (h : 1048576 < len + len2) (hm : len2 ≤ 2 ^ 63 - 1) :
    Calls Try.prog 12 #[.slice a len cap, .slice b len2 cap2] w fun e w' => e = .returned (.bool false) ∧ w = w' := by
  by_cases c1 : 1048576 < len
  · have h1 : (1048576 : Int) < (len : Int) := by omega
    go_enter Try.func12, Try.ntmps12
    go_wp2
    go_ret
    exact ⟨rfl, rfl⟩
  · have h1 : ¬ (1048576 : Int) < (len : Int) := by omega
    by_cases c2 : 1048576 < len2
    · have h2 : (1048576 : Int) < (len2 : Int) := by omega
      go_enter Try.func12, Try.ntmps12
      go_wp2
      go_ret
      exact ⟨rfl, rfl⟩
    · have h2 : ¬ (1048576 : Int) < (len2 : Int) := by omega
      have h3 : (1048576 : Int) < (len : Int) + (len2 : Int) := by omega
      go_enter Try.func12, Try.ntmps12
      go_wp2
      go_ret
      exact ⟨rfl, rfl⟩

theorem lead_any {w : World} {a : Option Addr} {len cap : Nat} {zs : List Int} (h : IsRow .u8 w a len cap zs) (hl : 0 < len) :
    ∃ b off, a = some ⟨b, off, none⟩ ∧ w.cell? ⟨b, off, none⟩ = some (.int .u8 ((zs.take len).getD 0 0)) := by
  rcases h with ⟨rfl, rfl, rfl, rfl⟩ | ⟨⟨b, off, spot⟩, rfl, h1, h2, h3, h4, h5⟩
  · omega
  · have hc := h4 0 (by omega)
    have hspot : spot = none := by simpa [Addr.add] using World.cell?_spot hc
    subst hspot
    refine ⟨b, off, rfl, ?_⟩
    rw [add_plain, Nat.add_zero] at hc
    rw [hc]
    simp [List.getD, hl]

theorem IsRow.later {w w' : World} {k : IntKind} {a : Option Addr} {len cap : Nat} {zs : List Int} (h : IsRow k w a len cap zs) (hb : Below w.heap.size w w') : IsRow k w' a len cap zs := by
  rcases h with h | ⟨x, rfl, h1, h2, h3, h4, h5⟩
  · exact .inl h
  · exact .inr ⟨x, rfl, h1, h2, h3, fun i hi => (hb.cell (cell_block_lt (h4 i hi))).trans (h4 i hi), h5⟩
end Go.Proofs.Qxb6603022a
