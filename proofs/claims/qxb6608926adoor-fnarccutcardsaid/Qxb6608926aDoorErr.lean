/-
  The errors of strconv: Clone, syntaxError, rangeError, toError (after the shelf's own walks, turned to this program).
-/
import Derived.Test.Qxb6608926aDoorRows
import Derived.Lib.Strings
import Derived.Lib.Walk
import Derived.Shelf.Pu.Clone
import Derived.Lib.IfaceEq
import Derived.Lib.AtoiErrMem
import Derived.Laws.MakeOwn
import Derived.WalkKit
import Derived.WalkSpells
import Derived.WalkLawsBesides
import Derived.RegionTactic
import Derived.Deep.RegionWith
import Derived.BigCall
import Derived.BigGuard
namespace Go.Proofs.Qxb6608926aDoor
open Go.RowKit

/-- The shelf's numbers for Clone, at this program. -/
def cloneRen : Shelf.Ren := { f := fun _ => 36, t := fun x => if x = 37 then 42 else if x = 47 then 53 else x, g := fun x => x }

theorem cloneLays : LaysPu.n25 Tryd.prog cloneRen :=
  { mixed := by kernel_rfl, f25 := by kernel_rfl,
    t0 := by kernel_rfl, a0 := fun _ => by kernel_rfl, z0 := fun _ => by kernel_rfl, v0 := fun _ => by kernel_rfl, i0 := by kernel_rfl,
    t3 := by kernel_rfl, a3 := fun _ => by kernel_rfl, z3 := fun _ => by kernel_rfl, v3 := fun _ => by kernel_rfl, i3 := by kernel_rfl,
    t4 := by kernel_rfl, a4 := fun _ => by kernel_rfl, z4 := fun _ => by kernel_rfl, v4 := fun _ => by kernel_rfl, i4 := by kernel_rfl,
    t5 := by kernel_rfl, a5 := fun _ => by kernel_rfl, z5 := fun _ => by kernel_rfl, v5 := fun _ => by kernel_rfl, i5 := by kernel_rfl,
    t9 := by kernel_rfl, a9 := fun _ => by kernel_rfl, z9 := fun _ => by kernel_rfl, v9 := fun _ => by kernel_rfl, i9 := by kernel_rfl,
    t37 := by kernel_rfl, a37 := fun _ => by kernel_rfl, z37 := fun _ => by kernel_rfl, v37 := fun _ => by kernel_rfl, i37 := by kernel_rfl,
    t47 := by kernel_rfl, a47 := fun _ => by kernel_rfl, z47 := fun _ => by kernel_rfl, v47 := fun _ => by kernel_rfl, i47 := by kernel_rfl }

/-- internal/stringslite.Clone, by the shelf's contract. -/
theorem clone36 (s : ByteArray) (w : World) (hlim : s.size ≤ 2000000) :
    Calls Tryd.prog 36 #[.string s] w fun e w' => e = .returned (.string s) ∧ Below w.heap.size w w' :=
  AnyPu.stringslite_Clone cloneLays s w (by omega)

set_option maxHeartbeats 1000000 in
set_option maxRecDepth 100000 in
theorem syntaxError30 (fn s : ByteArray) (ev : Value) (w : World) (hlim : s.size ≤ 2000000) (hv : w.cell? ⟨1, 0, none⟩ = some ev) (hev : ev = .nilIface ∨ ∃ te pe, ev = .iface te pe) :
    Calls Tryd.prog 30 #[.string fn, .string s] w fun e w' => ∃ N, e = .returned (.pointer (some ⟨N, 0, none⟩)) ∧ Below w.heap.size w w' := by
  rcases hev with rfl | ⟨te, pe, rfl⟩
  all_goals (
    have hG : 1 < w.heap.size := Lib.lt_of_cell hv
    have hvd : w.drew.cell? ⟨1, 0, none⟩ = some _ := hv
    go_enter Tryd.func30, Tryd.ntmps30
    go_wp2
    go_region_with (
        go_at_call 36
        refine (clone36 s _ hlim).mono ?_
        rintro e w2 ⟨rfl, hbel⟩
        have hv2 : w2.cell? ⟨1, 0, none⟩ = some _ := (hbel.cell (show (⟨1, 0, none⟩ : Addr).block < w.drew.heap.size from hG)).trans hvd)
    all_goals (
      go_wp2
      go_ret
      have hs2 : w.heap.size ≤ w2.heap.size := hbel.size
      exact ⟨_, rfl, ((Below.drew (Below.refl _ w)).trans hbel).alloc hs2 _⟩))

set_option maxHeartbeats 1000000 in
set_option maxRecDepth 100000 in
theorem rangeError31 (fn s : ByteArray) (ev : Value) (w : World) (hlim : s.size ≤ 2000000) (hv : w.cell? ⟨2, 0, none⟩ = some ev) (hev : ev = .nilIface ∨ ∃ te pe, ev = .iface te pe) :
    Calls Tryd.prog 31 #[.string fn, .string s] w fun e w' => ∃ N, e = .returned (.pointer (some ⟨N, 0, none⟩)) ∧ Below w.heap.size w w' := by
  rcases hev with rfl | ⟨te, pe, rfl⟩
  all_goals (
    have hG : 2 < w.heap.size := Lib.lt_of_cell hv
    have hvd : w.drew.cell? ⟨2, 0, none⟩ = some _ := hv
    go_enter Tryd.func31, Tryd.ntmps31
    go_wp2
    go_region_with (
        go_at_call 36
        refine (clone36 s _ hlim).mono ?_
        rintro e w2 ⟨rfl, hbel⟩
        have hv2 : w2.cell? ⟨2, 0, none⟩ = some _ := (hbel.cell (show (⟨2, 0, none⟩ : Addr).block < w.drew.heap.size from hG)).trans hvd)
    all_goals (
      go_wp2
      go_ret
      have hs2 : w.heap.size ≤ w2.heap.size := hbel.size
      exact ⟨_, rfl, ((Below.drew (Below.refl _ w)).trans hbel).alloc hs2 _⟩))

set_option maxHeartbeats 1000000 in
set_option maxRecDepth 100000 in
theorem toError23_syntax (fn s : ByteArray) (base bits : Int) (ev : Value) (w : World) (hlim : s.size ≤ 2000000) (hv : w.cell? ⟨1, 0, none⟩ = some ev) (hev : ev = .nilIface ∨ ∃ te pe, ev = .iface te pe) :
    Calls Tryd.prog 23 #[.string fn, .string s, .int .i64 base, .int .i64 bits, .iface 40 (.int .i64 2)] w fun e w' => ∃ N, e = .returned (.iface 43 (.pointer (some ⟨N, 0, none⟩))) ∧ Below w.heap.size w w' := by
  have heq : ∀ W (n m : Int), (binOp .eql 32 (.iface 40 (.int .i64 n)) (.iface 40 (.int .i64 m))).run Tryd.prog W = .ok (.bool (n == m)) W := fun W n m => Lib.run_eql_iface_int W n m Tryd.underlying32 (by kernel_rfl) Tryd.underlying40
  go_enter Tryd.func23, Tryd.ntmps23
  go_wp2_with (go_at_call 30; refine (syntaxError30 fn s ev _ hlim ?_ hev).mono ?_)
  · exact hv
  rintro e w2 ⟨N, rfl, h3⟩
  go_wp2
  go_ret
  exact ⟨N, rfl, h3⟩

set_option maxHeartbeats 1000000 in
set_option maxRecDepth 100000 in
theorem toError23_range (fn s : ByteArray) (base bits : Int) (ev : Value) (w : World) (hlim : s.size ≤ 2000000) (hv : w.cell? ⟨2, 0, none⟩ = some ev) (hev : ev = .nilIface ∨ ∃ te pe, ev = .iface te pe) :
    Calls Tryd.prog 23 #[.string fn, .string s, .int .i64 base, .int .i64 bits, .iface 40 (.int .i64 1)] w fun e w' => ∃ N, e = .returned (.iface 43 (.pointer (some ⟨N, 0, none⟩))) ∧ Below w.heap.size w w' := by
  have heq : ∀ W (n m : Int), (binOp .eql 32 (.iface 40 (.int .i64 n)) (.iface 40 (.int .i64 m))).run Tryd.prog W = .ok (.bool (n == m)) W := fun W n m => Lib.run_eql_iface_int W n m Tryd.underlying32 (by kernel_rfl) Tryd.underlying40
  go_enter Tryd.func23, Tryd.ntmps23
  go_wp2_with (go_at_call 31; refine (rangeError31 fn s ev _ hlim ?_ hev).mono ?_)
  · exact hv
  rintro e w2 ⟨N, rfl, h3⟩
  go_wp2
  go_ret
  exact ⟨N, rfl, h3⟩

end Go.Proofs.Qxb6608926aDoor
