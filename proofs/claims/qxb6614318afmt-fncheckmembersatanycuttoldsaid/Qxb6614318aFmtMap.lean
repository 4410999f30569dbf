/-
  CheckMembers over a map that the call made, and ZZCheckMembers.
-/
import Derived.Test.Qxb6614318aFmtBytes
import Derived.Test.Qxb6614318aFmtStop
import Derived.Maps.RangeWalk
namespace Go.Proofs.Qxb6614318aFmt
open Go.RowKit Go.Extern.Stop Go.Stop Go.Extern Go.Maps

/-- How a nil interface reads as a map's element. -/
def nilElem : Value → Option (DataW Unit × List MemPlace)
  | .nilIface => some (.nil, [])
  | _ => none

theorem nilElem_inv {v : Value} {y : DataW Unit × List MemPlace} (h : nilElem v = some y) : v = .nilIface := by
  cases v <;> simp [nilElem] at h
  rfl

theorem law9 : Keyed Tryf.prog 9 := string_keyed Tryf.underlying9

/-- What a string reads as, as a key. -/
def keyLit (s : ByteArray) : Lit := .string s.data.toList

theorem keyLit_inj {a b : ByteArray} (h : keyLit a = keyLit b) : a = b := by
  unfold keyLit at h
  injection h with h
  exact ByteArray.ext (Array.toList_inj.mp h)

theorem isKey (s : ByteArray) : WideAt.IsKeyLit (keyLit s) := trivial

theorem sameKey_iff (a b : ByteArray) : (keyLit a).sameKey (keyLit b) = true ↔ a = b :=
  ⟨fun h => keyLit_inj (WideAt.sameKey_eq h), fun h => by rw [h]; exact WideAt.sameKey_self (isKey b)⟩

theorem sameKey_ff {a b : ByteArray} (h : a ≠ b) : (keyLit a).sameKey (keyLit b) = false := by
  cases e : (keyLit a).sameKey (keyLit b)
  · rfl
  · exact absurd ((sameKey_iff a b).1 e) h

theorem keyOf_string_inv {key : Value} {kl : Lit} (h : keyOf Tryf.prog 9 key = some kl) : ∃ x, key = .string x ∧ kl = keyLit x := by
  cases key <;> simp [keyOf, Tryf.underlying9, mapKey] at h
  obtain ⟨_, rfl⟩ := h
  exact ⟨_, rfl, rfl⟩

/-- The names as a set. -/
def Dset (xs : List ByteArray) : DataW Unit := setOf .nil (xs.map keyLit)

theorem dset_nil : Dset [] = .map [] := rfl

theorem dset_take {xs : List ByteArray} {k : Nat} (hk : k < xs.length) : Dset (xs.take (k + 1)) = (Dset (xs.take k)).put (keyLit xs[k]) .nil := by
  unfold Dset
  rw [List.take_succ_eq_append_getElem hk, List.map_append]
  exact setOf_snoc _ _ _

theorem has_dset (xs : List ByteArray) (s : ByteArray) : Maps.has (Dset xs) (keyLit s) = true ↔ s ∈ xs := by
  unfold Dset
  rw [has_setOf _ _ _ (fun x hx => by obtain ⟨y, _, rfl⟩ := List.mem_map.1 hx; exact isKey y), List.any_eq_true]
  constructor
  · rintro ⟨x, hx, h⟩
    obtain ⟨y, hy, rfl⟩ := List.mem_map.1 hx
    rw [← (sameKey_iff y s).1 h]
    exact hy
  · intro h
    exact ⟨keyLit s, List.mem_map.2 ⟨s, h, rfl⟩, (sameKey_iff s s).2 rfl⟩

/-- Some key of D that is no longer to come is unknown. -/
def Seen (D : DataW Unit) (left : Lit → Bool) (known : List ByteArray) : Prop := ∃ s, Maps.has D (keyLit s) = true ∧ left (keyLit s) = false ∧ Lib.containsS known s = false

theorem seen_start (D : DataW Unit) (known : List ByteArray) : ¬ Seen D (Maps.has D) known := by
  rintro ⟨s, h1, h2, _⟩
  rw [h1] at h2
  cases h2

theorem seen_known {D : DataW Unit} {left : Lit → Bool} {known : List ByteArray} {x : ByteArray} (hx : Lib.containsS known x = true) :
    Seen D (fun z => left z && !z.sameKey (keyLit x)) known ↔ Seen D left known := by
  constructor
  · rintro ⟨s, h1, h2, h3⟩
    refine ⟨s, h1, ?_, h3⟩
    by_cases e : s = x
    · rw [e, hx] at h3; cases h3
    · simpa [sameKey_ff e] using h2
  · rintro ⟨s, h1, h2, h3⟩
    exact ⟨s, h1, by simp [h2], h3⟩

theorem seen_unknown {D : DataW Unit} {left : Lit → Bool} {known : List ByteArray} {x : ByteArray} (hd : Maps.has D (keyLit x) = true) (hx : Lib.containsS known x = false) :
    Seen D (fun z => left z && !z.sameKey (keyLit x)) known :=
  ⟨x, hd, by simp [(sameKey_iff x x).2 rfl], hx⟩

theorem seen_end {D : DataW Unit} {left : Lit → Bool} {known : List ByteArray} (h : ∀ kl, left kl = false) : Seen D left known ↔ ∃ s, Maps.has D (keyLit s) = true ∧ Lib.containsS known s = false :=
  ⟨fun ⟨s, h1, _, h3⟩ => ⟨s, h1, h3⟩, fun ⟨s, h1, h3⟩ => ⟨s, h1, h _, h3⟩⟩

/-- What the loop's flag says. -/
def Tally (u : Bool) (D : DataW Unit) (left : Lit → Bool) (known : List ByteArray) : Prop := u = true ↔ Seen D left known

theorem tally_start (D : DataW Unit) (known : List ByteArray) : Tally false D (Maps.has D) known := ⟨(fun h => by cases h), fun h => absurd h (seen_start D known)⟩
theorem tally_known {u : Bool} {D : DataW Unit} {left : Lit → Bool} {known : List ByteArray} {x : ByteArray} (h : Tally u D left known) (hx : Lib.containsS known x = true) : Tally u D (fun z => left z && !z.sameKey (keyLit x)) known := by
  unfold Tally
  rw [seen_known hx]
  exact h
theorem tally_unknown {D : DataW Unit} {left : Lit → Bool} {known : List ByteArray} {x : ByteArray} (hd : Maps.has D (keyLit x) = true) (hx : Lib.containsS known x = false) : Tally true D (fun z => left z && !z.sameKey (keyLit x)) known :=
  ⟨fun _ => seen_unknown hd hx, fun _ => rfl⟩

theorem su_iff (names known : List ByteArray) : someUnknown names known = true ↔ ∃ s, Maps.has (Dset names) (keyLit s) = true ∧ Lib.containsS known s = false := by
  unfold someUnknown
  rw [List.any_eq_true]
  constructor
  · rintro ⟨s, h1, h2⟩
    exact ⟨s, (has_dset _ _).2 h1, by simpa using h2⟩
  · rintro ⟨s, h1, h2⟩
    exact ⟨s, (has_dset _ _).1 h1, by simp [h2]⟩

/-- r is an error just where b says so, and nil else. -/
def ErrIs (r : Value) (b : Bool) : Prop := (b = false ∧ r = .nilIface) ∨ (b = true ∧ ∃ a, r = .iface 55 (.pointer (some a)))

theorem lt_of_cell {w : World} {b o : Nat} {v : Value} (h : w.cell? ⟨b, o, none⟩ = some v) : b < w.heap.size := by
  rcases Nat.lt_or_ge b w.heap.size with h1 | h1
  · exact h1
  · have : w.heap[b]? = none := by simp [h1]
    simp [World.cell?, this] at h

theorem StrsAt.below {w w' : World} {v : Value} {xs : List ByteArray} (h : StrsAt w v xs) (hb : Below w.heap.size w w') : StrsAt w' v xs := by
  rcases h with h | ⟨b, off, cap, e, hc⟩
  · exact Or.inl h
  · refine Or.inr ⟨b, off, cap, e, fun j hj => ?_⟩
    have h1 := hc j hj
    rw [hb.cell (p := ⟨b, off + j, none⟩) (lt_of_cell h1)]
    exact h1

set_option maxRecDepth 100000 in
set_option maxHeartbeats 1000000 in
theorem check18 (F : Interp) (p : ByteArray) (B n : Nat) (D : DataW Unit) (v : Value) (known : List ByteArray) (w : World) (hF : F.answers w.tape) (hown : w.ownsMap Tryf.prog 9 nilElem B n D) (hv : StrsAt w v known) (hl : known.length ≤ 1000000000) :
    Calls Tryf.prog 18 #[.string p, .map (some B), v] w fun e w' => ∃ r, e = .returned r ∧ (∃ b, ErrIs r b ∧ (b = true ↔ ∃ s, Maps.has D (keyLit s) = true ∧ Lib.containsS known s = false)) ∧ Below w.heap.size w w' := by
  go_enter Tryf.func18, Tryf.ntmps18
  go_wp2_with (first
    | (at_range; refine wpList_range_own _ rfl _ 38 rfl 9 20 law9 Tryf.underlying38 _ B n D rfl hown ?_; intro w0 hrg0 hg0 hs0)
    | go_in)
  go_frame
  go_loopw [7, 8] (fun f u wr => ∃ (left : Lit → Bool) (cnt : Nat) (fs : ByteArray) (ub : Bool), wr.ranges Tryf.prog 9 nilElem B w.heap.size n D left cnt ∧ f = .string fs ∧ u = .bool ub ∧ Tally ub D left known ∧ Below w.heap.size w wr)
    (fun _ _ wr => wr.rangeLeft B w.heap.size)
  case atStart =>
    exact ⟨_, _, _, _, hrg0, rfl, rfl, tally_start D known, (Below.refl _ _).grown hg0 (Nat.le_refl _) (fun j hj => by cases hj)⟩
  case round =>
    obtain ⟨left, cnt, fs, ub, hrg, rfl, rfl, ht, hnx⟩ := hrel
    go_wp2_with (first
      | (at_next; refine wpList_next_ranges _ rfl _ rfl 9 law9 nilElem Value.string (fun _ : Unit => Value.nilIface) (fun key kl hk => by obtain ⟨x, hx, _⟩ := keyOf_string_inv hk; exact ⟨x, hx⟩) (fun v y hv => ⟨(), nilElem_inv hv⟩) B w.heap.size n _ _ _ rfl hrg ?_ ?_)
      | go_in)
    · intro hc0 hl0
      have hF2 : F.answers wr.tape := by rw [hnx.tape]; exact hF
      cases ub
      · go_wp2
        go_ret
        exact ⟨_, rfl, ⟨false, Or.inl ⟨rfl, rfl⟩, ht.trans (seen_end hl0)⟩, hnx⟩
      · go_wp2_with (go_at_call 22; refine (unknownMember22 F _ _ _ hF2).mono ?_; rintro e w' ⟨rfl, hb⟩)
        go_ret
        exact ⟨_, rfl, ⟨true, Or.inr ⟨rfl, _, rfl⟩, ht.trans (seen_end hl0)⟩, hnx.trans (hb.mono hnx.size)⟩
    · intro x kl yd yp w2 cnt2 hkey hlk hv2 hat hrg2 hlt hg2 hs2 hen
      obtain ⟨x', ex, rfl⟩ := keyOf_string_inv hkey
      injection ex with ex
      subst ex
      have hd : Maps.has D (keyLit x) = true := has_true_of_atKey hat
      have hb2 : Below w.heap.size w w2 := hnx.grown hg2 hnx.size (fun j hj => by cases hj; exact Nat.le_refl _)
      have hm : w2.rangeLeft B w.heap.size < wr.rangeLeft B w.heap.size := by rw [hrg2.left_eq, hrg.left_eq]; exact hlt
      have hvw := hv.below hb2
      clear hs2 hs0 hv2 hat hlk hkey hg2 hlt hrg hnx hrg0 hg0
      cases hin : Lib.containsS known x
      · have htu := tally_unknown (left := left) hd hin
        cases ub
        · go_wp2_with (go_at_call 21; refine (contains21_any _ _ _ _ hvw hl).mono ?_; rintro e w' ⟨rfl, rfl⟩)
          go_roundw
          case rel => exact ⟨_, _, _, _, hrg2, rfl, rfl, htu, hb2⟩
          case measure => exact hm
        · go_wp2_with (go_at_call 21; refine (contains21_any _ _ _ _ hvw hl).mono ?_; rintro e w' ⟨rfl, rfl⟩)
          all_goals
            go_roundw
            case rel => exact ⟨_, _, _, _, hrg2, rfl, rfl, htu, hb2⟩
            case measure => exact hm
      · have htk := tally_known ht hin
        go_wp2_with (go_at_call 21; refine (contains21_any _ _ _ _ hvw hl).mono ?_; rintro e w' ⟨rfl, rfl⟩)
        go_roundw
        case rel => exact ⟨_, _, _, _, hrg2, rfl, rfl, htk, hb2⟩
        case measure => exact hm

theorem run_makeMap_hint (n : Int) (w : World) : (Instr.makeMap 38 (some (.int .i64 n))).run Tryf.prog w = .ok (.map (some w.heap.size)) (w.alloc (.map #[] 0)) := by kernel_rfl

theorem errIs_su {r : Value} {names known : List ByteArray} (h : ∃ b, ErrIs r b ∧ (b = true ↔ ∃ s, Maps.has (Dset names) (keyLit s) = true ∧ Lib.containsS known s = false)) : ErrIs r (someUnknown names known) := by
  obtain ⟨b, h1, h2⟩ := h
  rw [← su_iff] at h2
  have : b = someUnknown names known := Bool.eq_iff_iff.2 h2
  rw [← this]
  exact h1

set_option maxRecDepth 100000 in
set_option maxHeartbeats 1000000 in
theorem zzcheck8_cells (F : Interp) (p : ByteArray) (a1 : Option Addr) (c1 : Nat) (xs : List ByteArray) (v : Value) (known : List ByteArray) (w : World) (hF : F.answers w.tape) (hx : Cells w a1 xs) (hv : StrsAt w v known)
    (hl1 : xs.length ≤ 1000000000) (hl2 : known.length ≤ 1000000000) (hsz : ∀ x ∈ xs, x.size ≤ maxLen) :
    Calls Tryf.prog 8 #[.string p, .slice a1 xs.length c1, v] w fun e w' => ∃ r, e = .returned r ∧ ErrIs r (someUnknown xs known) ∧ Below w.heap.size w w' := by
  have hmm := run_makeMap_hint
  go_enter Tryf.func8, Tryf.ntmps8
  go_wp2
  go_loopw [15] (fun i wr => ∃ k : Nat, k ≤ xs.length ∧ i = .int .i64 k ∧ wr.ownsMap Tryf.prog 9 nilElem w.heap.size k (Dset (xs.take k)) ∧ Below w.heap.size w wr) (fun i _ => xs.length - (intOf i).toNat)
  case atStart => exact ⟨0, Nat.zero_le _, rfl, World.ownsMap_made _ _ _ _, (Below.refl _ _).alloc (Nat.le_refl _) _⟩
  case round =>
    obtain ⟨k, hk, rfl, hown, hnx⟩ := hrel
    by_cases hlt : k < xs.length
    · obtain ⟨b, off, rfl, hc⟩ := hx (by omega)
      have hck : wr.cell? ⟨b, off + k, none⟩ = some (.string (xs.getD k ByteArray.empty)) := by
        rw [hnx.cell (p := ⟨b, off + k, none⟩) (lt_of_cell (hc k hlt))]
        exact hc k hlt
      have hkey : keyOf Tryf.prog 9 (.string xs[k]) = some (keyLit xs[k]) := WideMaps.keyOf_string_mk Tryf.underlying9 (hsz _ (List.getElem_mem hlt))
      go_wp2_with (first
        | (at_mapUpdate; refine wpList_mapUpdate_own _ rfl _ _ _ 38 rfl 9 20 law9 Tryf.underlying38 _ w.heap.size k _ rfl hown (by unfold maxLen; omega) _ _ _ rfl rfl hkey .nil [] rfl ?_; intro w1 hown1 hgrow1)
        | go_in)
      go_roundw
      case rel => exact ⟨k + 1, by omega, by go_num, (dset_take hlt).symm ▸ hown1, hnx.grown hgrow1 hnx.size (fun j hj => by cases hj; exact Nat.le_refl _)⟩
      case measure => simp [intOf]; omega
    · have hF2 : F.answers wr.tape := by rw [hnx.tape]; exact hF
      have hvw := hv.below hnx
      rw [List.take_of_length_le (by omega)] at hown
      go_wp2_with (go_at_call 18; refine (check18 F _ _ _ _ _ _ _ hF2 hown hvw hl2).mono ?_; rintro e w' ⟨r, rfl, he, hb⟩)
      go_ret
      exact ⟨_, rfl, errIs_su he, hnx.trans (hb.mono hnx.size)⟩

theorem zzcheck8 (F : Interp) (p : ByteArray) (u v : Value) (xs known : List ByteArray) (w : World) (hF : F.answers w.tape) (hu : StrsAt w u xs) (hv : StrsAt w v known)
    (hl1 : xs.length ≤ 1000000000) (hl2 : known.length ≤ 1000000000) (hsz : ∀ x ∈ xs, x.size ≤ maxLen) :
    Calls Tryf.prog 8 #[.string p, u, v] w fun e w' => ∃ r, e = .returned r ∧ ErrIs r (someUnknown xs known) ∧ Below w.heap.size w w' := by
  obtain ⟨a1, c1, rfl, hx⟩ := strsAt_cells hu
  exact zzcheck8_cells F p a1 c1 xs v known w hF hx hv hl1 hl2 hsz

end Go.Proofs.Qxb6614318aFmt
