/- zzb1CloneNeedles, walked. -/
import Derived.Test.Qxb6600865aGuard
namespace Go.Proofs.Qxb6600865a
open Go.RowKit Go.WideShapes Go.ChangeShapes Go.ChangeAt

theorem Try.info23 : (Try.prog.info? 23).map (fun i => (i.zero, i.size, i.bytes)) = some (some (.slice none 0 0), 1, 24) := by kernel_rfl

/-- Needles that the law itself holds: K of them; the k-th is the value V k and reads as the bytes Y k. -/
def Nd (w : World) (v : Value) (K : Nat) (V : Nat → Value) (Y : Nat → List Int) : Prop :=
  ∃ a : Option Addr, v = .slice a K K ∧ K ≤ 65536 ∧ ∀ r, r < K → ∃ g, a = some ⟨g, 0, none⟩ ∧ g < w.heap.size ∧ w.cell? ⟨g, r, none⟩ = some (V r) ∧ Rd 0 w (V r) (Y r) ∧ Dig (Y r) ∧ (Y r).length ≤ 1048576

theorem Nd.later {w w' : World} {v : Value} {K : Nat} {V : Nat → Value} {Y : Nat → List Int} (h : Nd w v K V Y) (hb : Below w.heap.size w w') : Nd w' v K V Y := by
  obtain ⟨a, h1, h2, h3⟩ := h
  refine ⟨a, h1, h2, fun r hr => ?_⟩
  obtain ⟨g, e1, e2, e3, e4, e5⟩ := h3 r hr
  exact ⟨g, e1, Nat.lt_of_lt_of_le e2 hb.size, (hb.cell (by exact e2)).trans e3, e4.later hb, e5⟩

theorem own_below {w w' : World} {B base : Nat} {e : TypeId} {g n cap : Nat} {xs : List Value} (h : w.ownsRow base e 1 (.slice (some ⟨g, 0, none⟩) n cap) n xs) (hb : Below B w w') (hg : g < B) : w'.ownsRow base e 1 (.slice (some ⟨g, 0, none⟩) n cap) n xs := by
  refine ⟨h.1, ?_⟩
  rcases h.2 with ⟨h', _⟩ | ⟨g', cap', cur, h', r1, r2, r3⟩
  · simp at h'
  · simp only [Value.slice.injEq, Option.some.injEq, Addr.mk.injEq, and_true, true_and] at h'
    obtain ⟨rfl, rfl⟩ := h'
    exact .inr ⟨g, cap, cur, rfl, r1, by rw [hb.block g hg]; exact r2, r3⟩

theorem need_nil (w : World) :
    Calls Try.prog 12 #[.slice none 0 0] w fun e w' => e = .returned (.slice none 0 0) ∧ w = w' := by
  have q22 : ∀ (w : World) (a : Option Addr) (n c n' c' : Nat), (binOp .eql 22 (.slice a n c) (.slice none n' c')).run Try.prog w = .ok (.bool a.isNone) w := fun w a n c n' c' => Lib.run_eql_slice_nil w _ _ a n c n' c' Try.underlying22
  go_enter Try.func12, Try.ntmps12
  go_wp2
  go_ret
  exact ⟨rfl, rfl⟩

set_option maxRecDepth 100000 in
set_option maxHeartbeats 2000000 in
theorem need_some (x : Addr) (n c : Nat) (A : Nat → Option Addr) (L C : Nat → Nat) (Z : Nat → List Int) (w : World) (h : IsNeed w (some x) n c A L C Z) (hn : n ≤ 65536) (hl : ∀ r, r < n → L r ≤ 1048576) :
    Calls Try.prog 12 #[.slice (some x) n c] w fun e w' => ∃ (v : Value) (V : Nat → Value), e = .returned v ∧ Nd w' v n V (fun r => (Z r).take (L r)) ∧ Below w.heap.size w w' := by
  have q22 : ∀ (w : World) (a : Option Addr) (n c n' c' : Nat), (binOp .eql 22 (.slice a n c) (.slice none n' c')).run Try.prog w = .ok (.bool a.isNone) w := fun w a n c n' c' => Lib.run_eql_slice_nil w _ _ a n c n' c' Try.underlying22
  obtain ⟨i0, hi, hz0, hz1, hz2⟩ := info_parts Try.info23
  obtain ⟨_, _, hr⟩ := h
  have Hr := hide hr
  have Hl := hide hl
  clear hr hl
  go_enter Try.func12, Try.ntmps12
  go_wp2_with (at_make; refine wpList_make_full _ rfl _ _ 22 rfl w.heap.size 23 i0 (.slice none 0 0) 1 Try.underlying22 hi hz0 hz1 _ _ _ _ n rfl rfl rfl rfl ?c1 ?c2 ?c3 ?_)
  case c1 => rw [hz2]; omega
  case c2 => unfold maxLen; omega
  case c3 => exact Nat.le_refl _
  intro w1 hown hgrow
  have hbel : Below w.heap.size w w1 := (Below.refl _ _).grown hgrow (Nat.le_refl _) (by simp)
  clear hgrow
  have hml : (madeCells #[Value.slice none 0 0] n).toList.length = n := by simp [toList_madeCells_one]
  have Hml := hide hml
  clear hml
  go_wp2_with fail
  go_loopw [4] (fun i wr => ∃ (k : Nat) (M : List Value), k ≤ n ∧ i = .int .i64 k ∧ M.length = n ∧ wr.ownsRow w.heap.size 23 1 (.slice (some ⟨w.heap.size, 0, none⟩) n n) n M ∧ Below w.heap.size w wr ∧ w.heap.size < wr.heap.size ∧
      ∀ r, r < k → Rd (w.heap.size + 1) wr (M.getD r (.slice none 0 0)) ((Z r).take (L r))) (fun i _ => n - (intOf i).toNat)
  case atStart => exact ⟨0, _, Nat.zero_le _, rfl, unhide Hml, hown, hbel, (hown.lt _ rfl).2, fun r hr => absurd hr (by omega)⟩
  case round =>
    clear hown hbel
    obtain ⟨k, M, hk, rfl, hM, ho, hbe, hgt, hrd⟩ := hrel
    have HM := hide hM
    have Hrd := hide hrd
    clear hM hrd
    by_cases hlt : k < n
    · obtain ⟨b, off, hab, hc, hrow⟩ := unhide Hr k hlt
      obtain rfl := Option.some.inj hab
      have hb : b < w.heap.size := cell_block_lt hc
      have hcx : wr.cell? ⟨b, off + k, none⟩ = some (.slice (A k) (L k) (C k)) := (hbe.cell (by exact hb)).trans hc
      have hcl := clone_any (hrow.later hbe) (unhide Hl k hlt)
      have Hcl := hide hcl
      clear hc hab hcl hrow
      go_wp2_with fail
      refine (unhide Hcl).mono ?_
      rintro e w2 ⟨v, rfl, hv, hb2⟩
      obtain ⟨av, hav, _⟩ := hv.shape
      rw [hav]
      rw [hav] at hv
      have Hv := hide hv
      have hgtr : w.heap.size + 1 ≤ wr.heap.size := hgt
      have hbe2 : Below w.heap.size w w2 := hbe.trans (hb2.mono hbe.size)
      have hgt2 : w.heap.size < w2.heap.size := Nat.lt_of_lt_of_le hgt hb2.size
      have ho2 := own_below ho hb2 hgt
      have hfz := ho2.frozenAt k
      obtain ⟨u0, hu0⟩ : ∃ u, M[k]? = some u := ⟨M[k]'(by rw [unhide HM]; exact hlt), List.getElem?_eq_getElem _⟩
      have hce : w2.cell? ⟨w.heap.size, k, none⟩ = some u0 := by rw [ho2.cellAt k (by omega)]; exact hu0
      have Hrd2 := hide (fun r hr => ((unhide Hrd) r hr).later hb2)
      clear hu0 hv hav ho hbe hgt Hrd Hcl hcx
      generalize hnl : ((Z k).take (L k)).length = nl at *
      have Hnl := hide hnl
      clear hnl
      go_wp2
      go_roundw
      case rel =>
        refine ⟨k + 1, M.set k (.slice av nl nl), by omega, by go_num, by rw [List.length_set]; exact unhide HM, (ho2.stored k _).1, hbe2.setCell (Nat.le_refl _) _, by simpa [World.setCell] using hgt2, ?_⟩
        intro r hr
        rcases Nat.lt_or_ge r k with h | h
        · have e : (M.set k (.slice av nl nl)).getD r (.slice none 0 0) = M.getD r (.slice none 0 0) := by
            simp only [List.getD, List.getElem?_set_ne (show k ≠ r by omega)]
          rw [e]
          exact ((unhide Hrd2) r h).store (by exact Nat.lt_succ_self _) _
        · have e : r = k := by omega
          subst e
          have e2 : (M.set r (.slice av nl nl)).getD r (.slice none 0 0) = .slice av nl nl := by
            simp [List.getD, List.getElem?_set_self (show r < M.length by rw [unhide HM]; exact hlt)]
          rw [e2]
          refine ((unhide Hv).lower ?_).store (by exact Nat.lt_succ_self _) _
          exact hgtr
      case measure => simp [intOf]; omega
    · have hkn : k = n := by omega
      subst hkn
      go_wp2
      go_ret
      refine ⟨_, fun r => M.getD r (.slice none 0 0), rfl, ⟨_, rfl, hn, fun r hr => ⟨w.heap.size, rfl, hgt, ?_, (unhide Hrd r hr).lower (Nat.zero_le _), ?_, ?_⟩⟩, hbe⟩
      · rw [ho.cellAt r (by omega)]
        have hrM : r < M.length := by rw [unhide HM]; exact hr
        simp [List.getD, hrM]
      · obtain ⟨b, off, _, _, hrow⟩ := unhide Hr r hr
        exact hrow.dig
      · obtain ⟨b, off, _, _, hrow⟩ := unhide Hr r hr
        rw [hrow.len.1]; exact unhide Hl r hr

theorem need_any {a : Option Addr} {n c : Nat} {A : Nat → Option Addr} {L C : Nat → Nat} {Z : Nat → List Int} {w : World} (h : IsNeed w a n c A L C Z) (hn : n ≤ 65536) (hl : ∀ r, r < n → L r ≤ 1048576) :
    Calls Try.prog 12 #[.slice a n c] w fun e w' => ∃ (v : Value) (V : Nat → Value), e = .returned v ∧ Nd w' v n V (fun r => (Z r).take (L r)) ∧ Below w.heap.size w w' := by
  cases a with
  | none =>
    obtain ⟨rfl, rfl⟩ := h.2.1 rfl
    refine (need_nil w).mono ?_
    rintro e w' ⟨rfl, rfl⟩
    exact ⟨_, fun _ => .slice none 0 0, rfl, ⟨none, rfl, Nat.zero_le _, fun r hr => absurd hr (by omega)⟩, Below.refl _ _⟩
  | some x => exact need_some x n c A L C Z w h hn hl
end Go.Proofs.Qxb6600865a
