/-
  The two bounds 'zzBytes_..': each returns some bool and leaves the world alone.
-/
import Derived.Test.Qxb6614318aFmtLeaf
namespace Go.Proofs.Qxb6614318aFmt
open Go.RowKit

/-- The call hands back some bool. -/
def SomeBool (e : Ending) : Prop := ∃ b, e = .returned (.bool b)

/-- A slice's address and what lies there, where it has an element. -/
def Cells (w : World) (a : Option Addr) (xs : List ByteArray) : Prop :=
  0 < xs.length → ∃ b off, a = some ⟨b, off, none⟩ ∧ ∀ j, j < xs.length → w.cell? ⟨b, off + j, none⟩ = some (.string (xs.getD j ByteArray.empty))

theorem strsAt_cells {w : World} {v : Value} {xs : List ByteArray} (h : StrsAt w v xs) : ∃ a cap, v = .slice a xs.length cap ∧ Cells w a xs := by
  rcases h with ⟨rfl, a, cap, rfl⟩ | ⟨b, off, cap, rfl, hc⟩
  · exact ⟨a, cap, rfl, fun h => absurd h (Nat.lt_irrefl _)⟩
  · exact ⟨_, cap, rfl, fun _ => ⟨b, off, rfl, hc⟩⟩

set_option maxHeartbeats 1000000 in
theorem bytes7_cells (p : ByteArray) (a1 a2 : Option Addr) (c1 c2 : Nat) (xs ys : List ByteArray) (w : World) (hx : Cells w a1 xs) (hy : Cells w a2 ys) :
    Calls Tryf.prog 7 #[.string p, .slice a1 xs.length c1, .slice a2 ys.length c2] w fun e w' => SomeBool e ∧ w' = w := by
  go_enter Tryf.func7, Tryf.ntmps7
  go_wp2
  all_goals first | (go_ret; exact ⟨⟨_, rfl⟩, rfl⟩) | skip
  go_loop [7, 8] (fun t i => ∃ (z : Int) (k : Nat), 0 ≤ z ∧ z ≤ 1048576 ∧ t = .int .i64 z ∧ k ≤ xs.length ∧ i = .int .i64 k) (fun _ i => xs.length - (intOf i).toNat)
  case atStart => exact ⟨_, 0, by omega, by omega, rfl, Nat.zero_le _, rfl⟩
  case round =>
    obtain ⟨z, k, hz0, hz1, rfl, hk, rfl⟩ := hrel
    by_cases hlt : k < xs.length
    · obtain ⟨b, off, rfl, hc⟩ := hx (by omega)
      have hck := hc k hlt
      go_wp2
      all_goals first
        | (go_ret; exact ⟨⟨_, rfl⟩, rfl⟩)
        | (go_round
           case rel => exact ⟨_, k + 1, by omega, by omega, rfl, by omega, by go_num⟩
           case measure => simp [intOf]; omega)
    · go_wp2
      all_goals first | (go_ret; exact ⟨⟨_, rfl⟩, rfl⟩) | skip
      go_loop [7, 9] (fun t i => ∃ (z : Int) (k : Nat), 0 ≤ z ∧ z ≤ 1048576 ∧ t = .int .i64 z ∧ k ≤ ys.length ∧ i = .int .i64 k) (fun _ i => ys.length - (intOf i).toNat)
      case atStart => exact ⟨_, 0, by omega, by omega, rfl, Nat.zero_le _, rfl⟩
      case round =>
        obtain ⟨z2, k2, hy0, hy1, rfl, hk2, rfl⟩ := hrel
        by_cases hlt2 : k2 < ys.length
        · obtain ⟨b, off, rfl, hc⟩ := hy (by omega)
          have hck := hc k2 hlt2
          go_wp2
          all_goals first
            | (go_ret; exact ⟨⟨_, rfl⟩, rfl⟩)
            | (go_round
               case rel => exact ⟨_, k2 + 1, by omega, by omega, rfl, by omega, by go_num⟩
               case measure => simp [intOf]; omega)
        · go_wp2
          go_ret
          exact ⟨⟨_, rfl⟩, rfl⟩

theorem bytes7_any (p : ByteArray) (u v : Value) (xs ys : List ByteArray) (w : World) (hu : StrsAt w u xs) (hv : StrsAt w v ys) :
    Calls Tryf.prog 7 #[.string p, u, v] w fun e w' => SomeBool e ∧ w' = w := by
  obtain ⟨a1, c1, rfl, hx⟩ := strsAt_cells hu
  obtain ⟨a2, c2, rfl, hy⟩ := strsAt_cells hv
  exact bytes7_cells p a1 a2 c1 c2 xs ys w hx hy

set_option maxHeartbeats 1000000 in
theorem bytes10_cells (p : ByteArray) (a1 a2 : Option Addr) (c1 c2 : Nat) (xs ys : List ByteArray) (kk : Int) (w : World) (hx : Cells w a1 xs) (hy : Cells w a2 ys) :
    Calls Tryf.prog 10 #[.string p, .slice a1 xs.length c1, .slice a2 ys.length c2, .int .i64 kk] w fun e w' => SomeBool e ∧ w' = w := by
  go_enter Tryf.func10, Tryf.ntmps10
  go_wp2
  all_goals first | (go_ret; exact ⟨⟨_, rfl⟩, rfl⟩) | skip
  go_loop [9, 10] (fun t i => ∃ (z : Int) (k : Nat), 0 ≤ z ∧ z ≤ 1048576 ∧ t = .int .i64 z ∧ k ≤ xs.length ∧ i = .int .i64 k) (fun _ i => xs.length - (intOf i).toNat)
  case atStart => exact ⟨_, 0, by omega, by omega, rfl, Nat.zero_le _, rfl⟩
  case round =>
    obtain ⟨z, k, hz0, hz1, rfl, hk, rfl⟩ := hrel
    by_cases hlt : k < xs.length
    · obtain ⟨b, off, rfl, hc⟩ := hx (by omega)
      have hck := hc k hlt
      go_wp2
      all_goals first
        | (go_ret; exact ⟨⟨_, rfl⟩, rfl⟩)
        | (go_round
           case rel => exact ⟨_, k + 1, by omega, by omega, rfl, by omega, by go_num⟩
           case measure => simp [intOf]; omega)
    · go_wp2
      all_goals first | (go_ret; exact ⟨⟨_, rfl⟩, rfl⟩) | skip
      go_loop [9, 11] (fun t i => ∃ (z : Int) (k : Nat), 0 ≤ z ∧ z ≤ 1048576 ∧ t = .int .i64 z ∧ k ≤ ys.length ∧ i = .int .i64 k) (fun _ i => ys.length - (intOf i).toNat)
      case atStart => exact ⟨_, 0, by omega, by omega, rfl, Nat.zero_le _, rfl⟩
      case round =>
        obtain ⟨z2, k2, hy0, hy1, rfl, hk2, rfl⟩ := hrel
        by_cases hlt2 : k2 < ys.length
        · obtain ⟨b, off, rfl, hc⟩ := hy (by omega)
          have hck := hc k2 hlt2
          go_wp2
          all_goals first
            | (go_ret; exact ⟨⟨_, rfl⟩, rfl⟩)
            | (go_round
               case rel => exact ⟨_, k2 + 1, by omega, by omega, rfl, by omega, by go_num⟩
               case measure => simp [intOf]; omega)
        · go_wp2
          go_ret
          exact ⟨⟨_, rfl⟩, rfl⟩

theorem bytes10_any (p : ByteArray) (u v : Value) (xs ys : List ByteArray) (kk : Int) (w : World) (hu : StrsAt w u xs) (hv : StrsAt w v ys) :
    Calls Tryf.prog 10 #[.string p, u, v, .int .i64 kk] w fun e w' => SomeBool e ∧ w' = w := by
  obtain ⟨a1, c1, rfl, hx⟩ := strsAt_cells hu
  obtain ⟨a2, c2, rfl, hy⟩ := strsAt_cells hv
  exact bytes10_cells p a1 a2 c1 c2 xs ys kk w hx hy

end Go.Proofs.Qxb6614318aFmt
