/-
  FnCheckMembersRefusesExactlyAnUnknownName: the walk.
-/
import Derived.Test.Qxb6614318aFmtMap
import Derived.Laws.CopyOwn
import Derived.Deep.DeepCutAuto
import Derived.BigQuiet
namespace Go.Proofs.Qxb6614318aFmt
open Go.RowKit Go.Extern.Stop Go.Stop Go.Extern Go.Maps

/-- The cells of a slice of strings. -/
def cellsOf (xs : List ByteArray) : List Value := xs.map Value.string

theorem Tryf.info9 : (Tryf.prog.info? 9).map (fun i => (i.zero, i.size, i.bytes)) = some (some (.string ByteArray.empty), 1, 16) := by kernel_rfl
theorem Tryf.size9 : (Tryf.prog.info? 9).map (·.size) = some 1 := by kernel_rfl

theorem run_make22 (n : Nat) (hn : n ≤ 65536) (w : World) : ∃ Z : List Value, Z.length = n ∧ (Instr.makeSlice 22 (.int .i64 (n : Int)) (.int .i64 (n : Int))).run Tryf.prog w = .ok (.slice (some ⟨w.heap.size, 0, none⟩) n n) (w.alloc (.cells Z.toArray 9)) := by
  obtain ⟨i, hi, hz, h1, h2⟩ := info_parts Tryf.info9
  have hr := run_make (P := Tryf.prog) w 22 9 i _ Tryf.underlying22 hi hz .i64 .i64 n n (by omega) (Int.le_refl _) (by rw [h2]; omega) (by omega)
  simp only [Int.toNat_natCast] at hr
  refine ⟨(madeCells (Value.string ByteArray.empty).cells (n * i.size)).toList, ?_, ?_⟩
  · rw [h1]; simp [madeCells]
  · rw [hr]

theorem setRow_alloc (w : World) (Z cs : Array Value) (t : TypeId) : (w.alloc (.cells Z t)).setRow w.heap.size cs = w.alloc (.cells cs t) := by
  show ({ w with heap := (w.heap.push (.cells Z t)).modify w.heap.size _ } : World) = { w with heap := w.heap.push (.cells cs t) }
  congr 1
  apply Array.ext_getElem?
  intro i
  rw [Array.getElem?_modify]
  by_cases h : w.heap.size = i
  · subst h
    simp
  · rw [if_neg h]
    simp only [Array.getElem?_push, if_neg (fun e => h (Eq.symm e))]

theorem cells_new (w : World) (xs : List ByteArray) : Cells (w.alloc (.cells (cellsOf xs).toArray 9)) (some ⟨w.heap.size, 0, none⟩) xs := by
  intro _
  refine ⟨_, _, rfl, fun j hj => ?_⟩
  have hg : (w.alloc (.cells (cellsOf xs).toArray 9)).heap[w.heap.size]? = some (.cells (cellsOf xs).toArray 9 (0, 0)) := (MapKept.heap_alloc w _).1
  unfold World.cell?
  simp only [hg]
  simp [cellsOf, hj, List.getD]

theorem cells_strs {w : World} {a : Option Addr} {xs : List ByteArray} {c : Nat} (h : Cells w a xs) : StrsAt w (.slice a xs.length c) xs := by
  by_cases h0 : 0 < xs.length
  · obtain ⟨b, off, rfl, hc⟩ := h h0
    exact Or.inr ⟨b, off, c, rfl, hc⟩
  · have h1 : xs = [] := List.eq_nil_of_length_eq_zero (by omega)
    subst h1
    exact Or.inl ⟨rfl, a, c, rfl⟩

theorem Cells.below {w w' : World} {a : Option Addr} {xs : List ByteArray} (h : Cells w a xs) (hb : Below w.heap.size w w') : Cells w' a xs := by
  intro h0
  obtain ⟨b, off, e, hc⟩ := h h0
  refine ⟨b, off, e, fun j hj => ?_⟩
  have h1 := hc j hj
  rw [hb.cell (p := ⟨b, off + j, none⟩) (lt_of_cell h1)]
  exact h1

theorem run_copy22 (w : World) (ty : TypeId) (Z : List Value) (xs : List ByteArray) (a : Option Addr) (c : Nat) (hZ : Z.length = xs.length) (hx : Cells w a xs) :
    (Builtin.copy_ #[22, 22] ty #[.slice (some ⟨w.heap.size, 0, none⟩) xs.length xs.length, .slice a xs.length c]).run Tryf.prog (w.alloc (.cells Z.toArray 9)) = .ok (goInt xs.length) (w.alloc (.cells (cellsOf xs).toArray 9)) := by
  by_cases h0 : 0 < xs.length
  · obtain ⟨b, off, rfl, hc⟩ := hx h0
    have hg : (w.alloc (.cells Z.toArray 9)).heap[w.heap.size]? = some (.cells Z.toArray 9 (0, 0)) := (MapKept.heap_alloc w _).1
    have hrun := run_copy_row (P := Tryf.prog) (w.alloc (.cells Z.toArray 9)) 22 22 ty 9 w.heap.size 0 xs.length xs.length ⟨b, off, none⟩ xs.length c Z.toArray 9 (cellsOf xs) Tryf.underlying22 Tryf.size9 hg (by simp [cellsOf])
      (fun j v hj => by
        simp only [cellsOf, List.getElem?_map] at hj
        obtain ⟨s, hs, rfl⟩ := Option.map_eq_some_iff.1 hj
        have hjl : j < xs.length := (List.getElem?_eq_some_iff.1 hs).1
        have h1 := hc j hjl
        have e1 : (⟨b, off, none⟩ : Addr).add j = ⟨b, off + j, none⟩ := by simp [Addr.add]
        rw [e1, World.cell?_alloc_past _ _ _ (lt_of_cell h1), h1]
        simp [List.getD, hs])
      (by simp [cellsOf, hZ]) (by simp [cellsOf, Value.oneCell'])
    have e2 : (Z.toArray.toList.take 0 ++ cellsOf xs ++ Z.toArray.toList.drop (0 + (cellsOf xs).length)).toArray = (cellsOf xs).toArray := by
      simp [cellsOf, List.drop_of_length_le (Nat.le_of_eq hZ)]
    have e3 : (cellsOf xs).length = xs.length := by simp [cellsOf]
    rw [hrun, setRow_alloc, e2, e3]
  · have h1 : xs = [] := List.eq_nil_of_length_eq_zero (by omega)
    subst h1
    have h2 : Z = [] := List.eq_nil_of_length_eq_zero hZ
    subst h2
    exact run_copy_none (P := Tryf.prog) _ 22 22 ty 9 _ a 0 0 0 c Tryf.underlying22 Tryf.size9 rfl

set_option maxRecDepth 100000 in
set_option maxHeartbeats 1000000 in
theorem law3_cells (F : Interp) (p : ByteArray) (a1 a2 : Option Addr) (c1 c2 : Nat) (xs ys : List ByteArray) (w : World) (hF : F.answers w.tape) (hx : Cells w a1 xs) (hy : Cells w a2 ys)
    (hsx : ∀ x ∈ xs, x.size ≤ maxLen) :
    Calls Tryf.prog 3 #[.string p, .slice a1 xs.length c1, .slice a2 ys.length c2] w fun e w' => e = .returned (.bool true) ∧ Below w.heap.size w w' := by
  go_enter Tryf.func3, Tryf.ntmps3
  go_upto_if 34 with (go_at_call 7; refine (bytes7_cells _ _ _ _ _ _ _ _ hx hy).mono ?_; rintro e w' ⟨⟨b, rfl⟩, hw⟩; obtain rfl := hw.symm)
  all_goals first | (go_ret; exact ⟨rfl, Below.refl _ _⟩) | skip
  have hlx : xs.length ≤ 65536 := by omega
  have hly : ys.length ≤ 65536 := by omega
  go_cut [1] (fun v1 wc => Below w.heap.size w wc ∧ ∃ a c, v1 = .slice a xs.length c ∧ Cells wc a xs)
  case first =>
    obtain ⟨Z, hZ, hmk⟩ := run_make22 xs.length hlx w
    have hcp := fun ty => run_copy22 w ty Z xs a1 c1 hZ hx
    go_wp2
    · go_meet
      case rel => exact ⟨(Below.refl _ _).alloc (Nat.le_refl _) _, _, _, rfl, cells_new w xs⟩
    · go_meet
      case rel => exact ⟨Below.refl _ _, _, _, rfl, hx⟩
  case rest =>
    obtain ⟨hb1, a, c, rfl, hx1⟩ := hcut
    have hy1 := hy.below hb1
    clear hx hy
    have hsz := hb1.size
    go_upto_if 43 with fail
    go_cut [2] (fun v2 wd => Below w.heap.size w wd ∧ Below wc.heap.size wc wd ∧ ∃ a' c', v2 = .slice a' ys.length c' ∧ Cells wd a' ys)
    case first =>
      obtain ⟨Z, hZ, hmk⟩ := run_make22 ys.length hly wc
      have hcp := fun ty => run_copy22 wc ty Z ys a2 c2 hZ hy1
      go_wp2
      · go_meet
        case rel => exact ⟨hb1.alloc hsz _, (Below.refl _ _).alloc (Nat.le_refl _) _, _, _, rfl, cells_new wc ys⟩
      · go_meet
        case rel => exact ⟨hb1, Below.refl _ _, _, _, rfl, hy1⟩
    case rest =>
      obtain ⟨hb2, hbc, a', c', rfl, hy2⟩ := hcut
      have hx2 := hx1.below hbc
      have hF2 : F.answers wc.tape := by rw [hb2.tape]; exact hF
      clear hbc hx1 hy1 hsz hb1
      go_wp2
      go_loop [9, 55] (fun t i => ∃ (z : Int) (k : Nat), t = .int .i64 z ∧ k ≤ xs.length ∧ i = .int .i64 k) (fun _ i => xs.length - (intOf i).toNat)
      case atStart => exact ⟨_, 0, rfl, Nat.zero_le _, rfl⟩
      case round =>
        obtain ⟨z, k, rfl, hk, rfl⟩ := hrel
        by_cases hlt : k < xs.length
        · obtain ⟨b, off, rfl, hc⟩ := hx2 (by omega)
          have hck := hc k hlt
          go_wp2
          all_goals first
            | (go_ret; exact ⟨rfl, hb2⟩)
            | (go_round
               case rel => exact ⟨_, k + 1, rfl, by omega, by go_num⟩
               case measure => simp [intOf]; omega)
        · go_wp2
          go_loop [9, 69] (fun t i => ∃ (z : Int) (k : Nat), t = .int .i64 z ∧ k ≤ ys.length ∧ i = .int .i64 k) (fun _ i => ys.length - (intOf i).toNat)
          case atStart => exact ⟨_, 0, rfl, Nat.zero_le _, rfl⟩
          case round =>
            obtain ⟨z2, k2, rfl, hk2, rfl⟩ := hrel
            by_cases hlt2 : k2 < ys.length
            · obtain ⟨b, off, rfl, hc⟩ := hy2 (by omega)
              have hck := hc k2 hlt2
              go_wp2
              all_goals first
                | (go_ret; exact ⟨rfl, hb2⟩)
                | (go_round
                   case rel => exact ⟨_, k2 + 1, rfl, by omega, by go_num⟩
                   case measure => simp [intOf]; omega)
            · have hsx2 : StrsAt wc (.slice a xs.length c) xs := cells_strs hx2
              have hsy2 : StrsAt wc (.slice a' ys.length c') ys := cells_strs hy2
              go_wp2_with (go_at_call 8; refine (zzcheck8 F _ _ _ _ _ _ hF2 hsx2 hsy2 (by omega) (by omega) hsx).mono ?_; rintro e w' ⟨r, rfl, hr, hb3⟩)
              have hb4 : Below w.heap.size w w' := hb2.trans (hb3.mono hb2.size)
              have hsx3 := hsx2.below hb3
              have hsy3 := hsy2.below hb3
              rcases hr with ⟨hsu, rfl⟩ | ⟨hsu, q, rfl⟩
              · go_quiet ((go_at_call 9; exact Calls.quiet_of_same (unknown9_any _ _ _ _ _ hsx3 hsy3 (by omega) (by omega))))
                go_wp2
                go_ret
                exact ⟨rfl, below_drewN hb4 nq⟩
              · go_quiet ((go_at_call 9; exact Calls.quiet_of_same (unknown9_any _ _ _ _ _ hsx3 hsy3 (by omega) (by omega))))
                go_wp2
                go_ret
                exact ⟨rfl, below_drewN hb4 nq⟩

end Go.Proofs.Qxb6614318aFmt
