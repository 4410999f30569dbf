/-
  Scripts in memory; the two bounds; playBatch.
-/
import Derived.Test.Qxb6614321aBatch
namespace Go.Proofs.Qxb6614321a
open Go.RowKit

/-- One operation of a script: is it Begin? its key. -/
abbrev Opn := Bool × ByteArray

def at' (os : List Opn) (j : Nat) : Opn := os.getD j (false, ByteArray.empty)

/-- A script's address and what lies there, where it has an element. -/
def ScriptAt (w : World) (a : Option Addr) (os : List Opn) : Prop :=
  0 < os.length → ∃ b off, a = some ⟨b, off, none⟩ ∧ ∀ j, j < os.length → w.cell? ⟨b, off + j * 2, none⟩ = some (.bool (at' os j).1) ∧ w.cell? ⟨b, off + j * 2 + 1, none⟩ = some (.string (at' os j).2)

/-- A bool that is true only where the length is bounded. -/
def BoundB (n : Nat) (e : Ending) : Prop := ∃ b, e = .returned (.bool b) ∧ (b = true → n ≤ 1048576)
def SomeBool (e : Ending) : Prop := ∃ b, e = .returned (.bool b)

set_option maxHeartbeats 1000000 in
theorem bytes5 (a : Option Addr) (c : Nat) (os : List Opn) (i : Int) (w : World) (hs : ScriptAt w a os) :
    Calls Try.prog 5 #[.slice a os.length c, .int .i64 i] w fun e w' => BoundB os.length e ∧ w' = w := by
  go_enter Try.func5, Try.ntmps5
  go_wp2
  all_goals first | (go_ret; exact ⟨⟨_, rfl, fun h => by cases h⟩, rfl⟩) | skip
  have hl : os.length ≤ 1048576 := by omega
  go_loop [5, 6] (fun t i => ∃ (z : Int) (k : Nat), t = .int .i64 z ∧ k ≤ os.length ∧ i = .int .i64 k) (fun _ i => os.length - (intOf i).toNat)
  case atStart => exact ⟨_, 0, rfl, Nat.zero_le _, rfl⟩
  case round =>
    obtain ⟨z, k, rfl, hk, rfl⟩ := hrel
    by_cases hlt : k < os.length
    · obtain ⟨b, off, rfl, hc⟩ := hs (by omega)
      obtain ⟨hc0, hc1⟩ := hc k hlt
      go_wp2
      all_goals first
        | (go_ret; exact ⟨⟨_, rfl, fun h => by cases h⟩, rfl⟩)
        | (go_round
           case rel => exact ⟨_, k + 1, rfl, by omega, by go_num⟩
           case measure => simp [intOf]; omega)
    · go_wp2
      go_ret
      exact ⟨⟨_, rfl, fun _ => hl⟩, rfl⟩

set_option maxHeartbeats 1000000 in
theorem bytes12 (a : Option Addr) (c : Nat) (os : List Opn) (key : ByteArray) (i : Int) (w : World) (hs : ScriptAt w a os) :
    Calls Try.prog 12 #[.slice a os.length c, .string key, .int .i64 i] w fun e w' => BoundB os.length e ∧ w' = w := by
  go_enter Try.func12, Try.ntmps12
  go_wp2
  all_goals first | (go_ret; exact ⟨⟨_, rfl, fun h => by cases h⟩, rfl⟩) | skip
  have hl : os.length ≤ 1048576 := by omega
  go_loop [7, 8] (fun t i => ∃ (z : Int) (k : Nat), t = .int .i64 z ∧ k ≤ os.length ∧ i = .int .i64 k) (fun _ i => os.length - (intOf i).toNat)
  case atStart => exact ⟨_, 0, rfl, Nat.zero_le _, rfl⟩
  case round =>
    obtain ⟨z, k, rfl, hk, rfl⟩ := hrel
    by_cases hlt : k < os.length
    · obtain ⟨b, off, rfl, hc⟩ := hs (by omega)
      obtain ⟨hc0, hc1⟩ := hc k hlt
      go_wp2
      all_goals first
        | (go_ret; exact ⟨⟨_, rfl, fun h => by cases h⟩, rfl⟩)
        | (go_round
           case rel => exact ⟨_, k + 1, rfl, by omega, by go_num⟩
           case measure => simp [intOf]; omega)
    · go_wp2
      all_goals (go_ret; exact ⟨⟨_, rfl, fun _ => hl⟩, rfl⟩)

set_option maxHeartbeats 1000000 in
theorem tooBig6 (a : Option Addr) (c : Nat) (os : List Opn) (extra : Int) (w : World) (hl : os.length ≤ 1048576) (hs : ScriptAt w a os) :
    Calls Try.prog 6 #[.slice a os.length c, .int .i64 extra] w fun e w' => SomeBool e ∧ w' = w := by
  go_enter Try.func6, Try.ntmps6
  go_wp2
  all_goals first | (go_ret; exact ⟨⟨_, rfl⟩, rfl⟩) | skip
  go_loop [5, 6] (fun t i => ∃ (z : Int) (k : Nat), t = .int .i64 z ∧ k ≤ os.length ∧ i = .int .i64 k) (fun _ i => os.length - (intOf i).toNat)
  case atStart => exact ⟨_, 0, rfl, Nat.zero_le _, rfl⟩
  case round =>
    obtain ⟨z, k, rfl, hk, rfl⟩ := hrel
    by_cases hlt : k < os.length
    · obtain ⟨b, off, rfl, hc⟩ := hs (by omega)
      obtain ⟨hc0, hc1⟩ := hc k hlt
      go_wp2
      all_goals first
        | (go_ret; exact ⟨⟨_, rfl⟩, rfl⟩)
        | (go_round
           case rel => exact ⟨_, k + 1, rfl, by omega, by go_num⟩
           case measure => simp [intOf]; omega)
    · go_wp2
      go_ret
      exact ⟨⟨_, rfl⟩, rfl⟩

/-- The request that an operation adds. -/
def reqOf (o : Opn) : Req := if o.1 then (beginS, ⟨#[]⟩) else (readS, o.2)

/-- The requests that os[m:k] add. -/
def reqs (os : List Opn) (m k : Nat) : List Req := ((os.take k).drop m).map reqOf

theorem reqs_start (os : List Opn) (m : Nat) : reqs os m m = [] := by
  unfold reqs
  rw [List.drop_of_length_le (by rw [List.length_take]; omega)]
  rfl

theorem reqs_snoc (os : List Opn) (m k : Nat) (hm : m ≤ k) (hk : k < os.length) : reqs os m (k + 1) = reqs os m k ++ [reqOf (at' os k)] := by
  unfold reqs
  rw [List.take_succ_eq_append_getElem hk, List.drop_append_of_le_length (by rw [List.length_take]; omega), List.map_append]
  simp [at', List.getD, hk]

theorem reqs_length (os : List Opn) (m k : Nat) : (reqs os m k).length ≤ os.length := by
  unfold reqs
  simp
  omega

/-- A script below base, its cells not those of block bp, stays. -/
def ScriptBelow (base bp : Nat) (a : Option Addr) (os : List Opn) : Prop := 0 < os.length → ∀ b off, a = some ⟨b, off, none⟩ → b < base ∧ b ≠ bp

theorem ScriptAt.kept {base bp : Nat} {w w' : World} {a : Option Addr} {os : List Opn} (h : ScriptAt w a os) (hb : ScriptBelow base bp a os) (hk : Kept base bp w w') : ScriptAt w' a os := by
  intro h0
  obtain ⟨b, off, e, hc⟩ := h h0
  obtain ⟨h1, h2⟩ := hb h0 b off e
  refine ⟨b, off, e, fun j hj => ?_⟩
  have hblk := hk.block b h1 h2
  rw [World.cell?_of_block (a := ⟨b, off + j * 2, none⟩) hblk, World.cell?_of_block (a := ⟨b, off + j * 2 + 1, none⟩) hblk]
  exact hc j hj

set_option maxHeartbeats 1000000 in
theorem play7 (base bp : Nat) (rs : List Req) (a : Option Addr) (c : Nat) (os : List Opn) (m n : Nat) (w : World) (hb : BatchAt w base bp rs) (hs : ScriptAt w a os) (hsb : ScriptBelow base bp a os) (hmn : m ≤ n) (hn : n ≤ os.length) (hl : os.length ≤ 1048576) (hr : rs.length ≤ 1048577) :
    Calls Try.prog 7 #[.pointer (some ⟨bp, 0, none⟩), .slice a os.length c, .int .i64 m, .int .i64 n] w fun e w' => e = .returned (.tuple #[]) ∧ BatchAt w' base bp (rs ++ reqs os m n) ∧ Kept base bp w w' := by
  go_enter Try.func7, Try.ntmps7
  go_wp2
  go_loopw [8] (fun i wr => ∃ k : Nat, m ≤ k ∧ k ≤ n ∧ i = .int .i64 k ∧ BatchAt wr base bp (rs ++ reqs os m k) ∧ Kept base bp w wr) (fun i _ => os.length - (intOf i).toNat)
  case atStart => exact ⟨m, Nat.le_refl _, hmn, rfl, by rw [reqs_start, List.append_nil]; exact hb, Kept.refl _ _ _⟩
  case round =>
    obtain ⟨k, hmk, hkn, rfl, hbk, hkept⟩ := hrel
    have hrl := reqs_length os m k
    have hlen : (rs ++ reqs os m k).length ≤ 4000000 := by rw [List.length_append]; omega
    by_cases hlt : k < n
    · have hsk := hs.kept hsb hkept
      obtain ⟨b, off, rfl, hc⟩ := hsk (by omega)
      obtain ⟨hc0, hc1⟩ := hc k (by omega)
      have HS : Hid (reqs os m (k + 1) = reqs os m k ++ [reqOf (at' os k)]) := reqs_snoc os m k hmk (by omega)
      cases hop : (at' os k).1
      · rw [hop] at hc0
        have hq : reqOf (at' os k) = (readS, (at' os k).2) := by simp [reqOf, hop]
        have HQ : Hid (rs ++ reqs os m (k + 1) = rs ++ reqs os m k ++ [(readS, (at' os k).2)]) := by
          show _ = _
          rw [HS.out, hq, List.append_assoc]
        clear hq HS
        go_wp2_with (go_at_call 13; refine (read13 _ _ _ _ _ hbk hlen).mono ?_; rintro e w1 ⟨rfl, hb1, hk1⟩)
        go_roundw
        case rel => exact ⟨k + 1, by omega, by omega, by go_num, by rw [HQ.out]; exact hb1, hkept.trans hk1⟩
        case measure => simp [intOf]; omega
      · rw [hop] at hc0
        have hq : reqOf (at' os k) = (beginS, ⟨#[]⟩) := by simp [reqOf, hop]
        have HQ : Hid (rs ++ reqs os m (k + 1) = rs ++ reqs os m k ++ [(beginS, ⟨#[]⟩)]) := by
          show _ = _
          rw [HS.out, hq, List.append_assoc]
        clear hq HS
        go_wp2_with (go_at_call 8; refine (begin8 _ _ _ _ hbk hlen).mono ?_; rintro e w1 ⟨rfl, hb1, hk1⟩)
        go_roundw
        case rel => exact ⟨k + 1, by omega, by omega, by go_num, by rw [HQ.out]; exact hb1, hkept.trans hk1⟩
        case measure => simp [intOf]; omega
    · have hkn' : k = n := by omega
      subst hkn'
      go_wp2
      go_end0
      exact ⟨rfl, hbk, hkept⟩

end Go.Proofs.Qxb6614321a
