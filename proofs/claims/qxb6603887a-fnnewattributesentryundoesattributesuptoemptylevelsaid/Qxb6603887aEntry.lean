/- ZZNewAttributesEntry and ZZAttributes, walked. -/
import Derived.Test.Qxb6603887aRows
import Derived.WalkKit
import Derived.ProofKit
import Derived.WalkSpells
import Derived.Deep.QuietTactic
import Derived.BigQuiet
import Derived.WalkSmall
namespace Go.Proofs.Qxb6603887a
open Go.RowKit Go.WideShapes Go.ChangeShapes Go.ChangeAt

theorem below1 (w : World) (o1 : Obj) : Below w.heap.size w (w.alloc o1) := (Below.refl _ _).alloc (Nat.le_refl _) _
theorem below2 (w : World) (o1 o2 : Obj) : Below w.heap.size w ((w.alloc o1).alloc o2) := (below1 w o1).alloc (below1 w o1).size _
theorem below3 (w : World) (o1 o2 o3 : Obj) : Below w.heap.size w (((w.alloc o1).alloc o2).alloc o3) := (below2 w o1 o2).alloc (below2 w o1 o2).size _
theorem below4 (w : World) (o1 o2 o3 o4 : Obj) : Below w.heap.size w ((((w.alloc o1).alloc o2).alloc o3).alloc o4) := (below3 w o1 o2 o3).alloc (below3 w o1 o2 o3).size _
theorem below5 (w : World) (o1 o2 o3 o4 o5 : Obj) : Below w.heap.size w (((((w.alloc o1).alloc o2).alloc o3).alloc o4).alloc o5) := (below4 w o1 o2 o3 o4).alloc (below4 w o1 o2 o3 o4).size _
theorem below6 (w : World) (o1 o2 o3 o4 o5 o6 : Obj) : Below w.heap.size w ((((((w.alloc o1).alloc o2).alloc o3).alloc o4).alloc o5).alloc o6) := (below5 w o1 o2 o3 o4 o5).alloc (below5 w o1 o2 o3 o4 o5).size _

set_option maxRecDepth 100000 in
set_option maxHeartbeats 1000000 in
theorem newEntry_full (nm lv : ByteArray) (pa da : Option Addr) (pn pc dn dc : Nat) (ad ac : Bool) (w : World) (h : lv.toList.isEmpty = false) :
    Calls Try.prog 12 #[.string nm, .string lv, .slice pa pn pc, .slice da dn dc, .bool ad, .bool ac] w fun e w' =>
      e = .returned (.tuple #[.string nm, .bool true, .string lv, .slice pa pn pc, .slice da dn dc, .bool ad, .bool ac]) ∧ Below w.heap.size w w' := by
  go_enter Try.func12, Try.ntmps12
  go_wp2
  refine bodyPost_ret (v := .agg #[.string nm, .pointer (some ⟨w.heap.size, 1, none⟩), .slice pa pn pc, .slice da dn dc, .bool ad, .bool ac]) (by simp [results, Try.results18, go_sem]) rfl ?_
  simp only []
  go_wp2
  go_quiet (fail)
  go_wp2
  refine bodyPost_ret (v := .tuple #[.string nm, .bool true, .string lv, .slice pa pn pc, .slice da dn dc, .bool ad, .bool ac]) (by simp [results, Try.results12, go_sem]) rfl ⟨rfl, ?_⟩
  exact below_drewN (below4 w _ _ _ _) _

set_option maxRecDepth 100000 in
set_option maxHeartbeats 1000000 in
theorem newEntry_none (nm lv : ByteArray) (pa da : Option Addr) (pn pc dn dc : Nat) (ad ac : Bool) (w : World) (h : lv.toList.isEmpty = true) :
    Calls Try.prog 12 #[.string nm, .string lv, .slice pa pn pc, .slice da dn dc, .bool ad, .bool ac] w fun e w' =>
      e = .returned (.tuple #[.string nm, .bool false, .string ⟨#[]⟩, .slice pa pn pc, .slice da dn dc, .bool ad, .bool ac]) ∧ Below w.heap.size w w' := by
  go_enter Try.func12, Try.ntmps12
  go_wp2
  refine bodyPost_ret (v := .agg #[.string nm, .pointer none, .slice pa pn pc, .slice da dn dc, .bool ad, .bool ac]) (by simp [results, Try.results18, go_sem]) rfl ?_
  simp only []
  go_wp2
  go_quiet (fail)
  go_wp2
  refine bodyPost_ret (v := .tuple #[.string nm, .bool false, .string ⟨#[]⟩, .slice pa pn pc, .slice da dn dc, .bool ad, .bool ac]) (by simp [results, Try.results12, go_sem]) rfl ⟨rfl, ?_⟩
  exact below_drewN (below4 w _ _ _ _) _

set_option maxRecDepth 100000 in
set_option maxHeartbeats 1000000 in
theorem attrs_has (nm lv : ByteArray) (pa da : Option Addr) (pn pc dn dc : Nat) (ad ac : Bool) (w : World) :
    Calls Try.prog 13 #[.string nm, .bool true, .string lv, .slice pa pn pc, .slice da dn dc, .bool ad, .bool ac] w fun e w' =>
      e = .returned (.tuple #[.string nm, .string lv, .slice pa pn pc, .slice da dn dc, .bool ad, .bool ac]) ∧ Below w.heap.size w w' := by
  go_enter Try.func13, Try.ntmps13
  go_wp2
  refine bodyPost_ret (v := .agg #[.string nm, .string lv, .slice pa pn pc, .slice da dn dc, .bool ad, .bool ac]) (by simp [results, Try.results19, go_sem]) rfl ?_
  simp only []
  go_wp2
  go_quiet (fail)
  go_wp2
  refine bodyPost_ret (v := .tuple #[.string nm, .string lv, .slice pa pn pc, .slice da dn dc, .bool ad, .bool ac]) (by simp [results, Try.results13, go_sem]) rfl ⟨rfl, ?_⟩
  exact below_drewN (below6 w _ _ _ _ _ _) _

set_option maxRecDepth 100000 in
set_option maxHeartbeats 1000000 in
theorem attrs_none (nm lv : ByteArray) (pa da : Option Addr) (pn pc dn dc : Nat) (ad ac : Bool) (w : World) :
    Calls Try.prog 13 #[.string nm, .bool false, .string lv, .slice pa pn pc, .slice da dn dc, .bool ad, .bool ac] w fun e w' =>
      e = .returned (.tuple #[.string nm, .string ⟨#[]⟩, .slice pa pn pc, .slice da dn dc, .bool ad, .bool ac]) ∧ Below w.heap.size w w' := by
  go_enter Try.func13, Try.ntmps13
  go_wp2
  refine bodyPost_ret (v := .agg #[.string nm, .string ⟨#[]⟩, .slice pa pn pc, .slice da dn dc, .bool ad, .bool ac]) (by simp [results, Try.results19, go_sem]) rfl ?_
  simp only []
  go_wp2
  go_quiet (fail)
  go_wp2
  refine bodyPost_ret (v := .tuple #[.string nm, .string ⟨#[]⟩, .slice pa pn pc, .slice da dn dc, .bool ad, .bool ac]) (by simp [results, Try.results13, go_sem]) rfl ⟨rfl, ?_⟩
  exact below_drewN (below5 w _ _ _ _ _) _
end Go.Proofs.Qxb6603887a
