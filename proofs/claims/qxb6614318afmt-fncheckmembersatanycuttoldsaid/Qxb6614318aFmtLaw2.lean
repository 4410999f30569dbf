/-
  FnCheckMembersAtAnyCut: the walk.
-/
import Derived.Test.Qxb6614318aFmtLaw1
namespace Go.Proofs.Qxb6614318aFmt
open Go.RowKit Go.Extern.Stop Go.Stop Go.Extern Go.Maps

theorem strs_take {w : World} {a : Option Addr} {xs : List ByteArray} {k c : Nat} (h : Cells w a xs) (hk : k ≤ xs.length) : StrsAt w (.slice a k c) (xs.take k) := by
  have hl : (xs.take k).length = k := by rw [List.length_take]; omega
  have hc : Cells w a (xs.take k) := by
    intro h0
    obtain ⟨b, off, e, hc⟩ := h (by omega)
    refine ⟨b, off, e, fun j hj => ?_⟩
    rw [hl] at hj
    rw [Lib.getD_takeS _ _ _ hj]
    exact hc j (by omega)
  have := cells_strs (c := c) hc
  rwa [hl] at this

theorem strs_drop {w : World} {a : Option Addr} {xs : List ByteArray} {k c : Nat} (h : Cells w a xs) (hk : k ≤ xs.length) : StrsAt w (.slice (Option.map (fun x => x.add k) a) (xs.length - k) c) (xs.drop k) := by
  have hl : (xs.drop k).length = xs.length - k := by rw [List.length_drop]
  have hc : Cells w (Option.map (fun x => x.add k) a) (xs.drop k) := by
    intro h0
    obtain ⟨b, off, e, hc⟩ := h (by omega)
    refine ⟨b, off + k, by rw [e]; simp [Addr.add], fun j hj => ?_⟩
    rw [hl] at hj
    have := hc (k + j) (by omega)
    rw [← Nat.add_assoc] at this
    rw [this]
    simp [List.getD]
  have := cells_strs (c := c) hc
  rwa [hl] at this

theorem strs_none {w : World} {a : Option Addr} {xs : List ByteArray} {k : Nat} (hk : xs.length ≤ k) : StrsAt w (.slice a 0 0) (xs.drop k) :=
  Or.inl ⟨List.drop_of_length_le hk, a, 0, rfl⟩

theorem su_split (xs known : List ByteArray) (k : Nat) : someUnknown xs known = (someUnknown (xs.take k) known || someUnknown (xs.drop k) known) := by
  unfold someUnknown
  rw [← List.any_append, List.take_append_drop]

set_option maxRecDepth 100000 in
set_option maxHeartbeats 2000000 in
theorem law4_cells (F : Interp) (p : ByteArray) (a1 a2 : Option Addr) (c1 c2 : Nat) (xs ys : List ByteArray) (kk : Int) (w : World) (hF : F.answers w.tape) (hcx : xs.length ≤ c1) (hx : Cells w a1 xs) (hy : Cells w a2 ys)
    (hsx : ∀ x ∈ xs, x.size ≤ maxLen) :
    Calls Tryf.prog 4 #[.string p, .slice a1 xs.length c1, .slice a2 ys.length c2, .int .i64 kk] w fun e w' => e = .returned (.bool true) ∧ Below w.heap.size w w' := by
  go_enter Tryf.func4, Tryf.ntmps4
  go_upto_if 39 with (go_at_call 10; refine (bytes10_cells _ _ _ _ _ _ _ _ _ hx hy).mono ?_; rintro e w' ⟨⟨b, rfl⟩, hw⟩; obtain rfl := hw.symm)
  all_goals first | (go_ret; exact ⟨rfl, Below.refl _ _⟩) | skip
  have hlx : xs.length ≤ 65536 := by omega
  have hly : ys.length ≤ 65536 := by omega
  go_cut [1] (fun v1 wc => Below w.heap.size w wc ∧ ∃ a c, v1 = .slice a xs.length c ∧ xs.length ≤ c ∧ Cells wc a xs)
  case first =>
    obtain ⟨Z, hZ, hmk⟩ := run_make22 xs.length hlx w
    have hcp := fun ty => run_copy22 w ty Z xs a1 c1 hZ hx
    go_wp2
    · go_meet
      case rel => exact ⟨(Below.refl _ _).alloc (Nat.le_refl _) _, _, _, rfl, Nat.le_refl _, cells_new w xs⟩
    · go_meet
      case rel => exact ⟨Below.refl _ _, _, _, rfl, hcx, hx⟩
  case rest =>
    obtain ⟨hb1, a, c, rfl, hac, hx1⟩ := hcut
    have hy1 := hy.below hb1
    clear hx hy
    have hsz := hb1.size
    go_upto_if 48 with fail
    go_cut [2] (fun v2 wd => Below w.heap.size w wd ∧ Below wc.heap.size wc wd ∧ ∃ a' c', v2 = .slice a' ys.length c' ∧ Cells wd a' ys)
    case first =>
      obtain ⟨Z, hZ, hmk⟩ := run_make22 ys.length hly wc
      have hcp := fun ty => run_copy22 wc ty Z ys a2 c2 hZ hy1
      go_wp2
      · go_meet
        case rel => exact ⟨hb1.alloc hsz _, (Below.refl _ _).alloc (Nat.le_refl _) _, _, _, rfl, cells_new wc ys⟩
      · go_meet
        case rel => exact ⟨hb1, Below.refl _ _, _, _, rfl, hy1⟩
    case rest =>
      obtain ⟨hb2, hbc, a', c', rfl, hy2⟩ := hcut
      have hx2 := hx1.below hbc
      have hF2 : F.answers wc.tape := by rw [hb2.tape]; exact hF
      clear hbc hx1 hy1 hsz hb1
      go_wp2
      go_loop [11, 60] (fun t i => ∃ (z : Int) (k : Nat), t = .int .i64 z ∧ k ≤ xs.length ∧ i = .int .i64 k) (fun _ i => xs.length - (intOf i).toNat)
      case atStart => exact ⟨_, 0, rfl, Nat.zero_le _, rfl⟩
      case round =>
        obtain ⟨z, k, rfl, hk, rfl⟩ := hrel
        by_cases hlt : k < xs.length
        · obtain ⟨b, off, rfl, hc⟩ := hx2 (by omega)
          have hck := hc k hlt
          go_wp2
          all_goals first
            | (go_ret; exact ⟨rfl, hb2⟩)
            | (go_round
               case rel => exact ⟨_, k + 1, rfl, by omega, by go_num⟩
               case measure => simp [intOf]; omega)
        · go_wp2
          go_loop [11, 74] (fun t i => ∃ (z : Int) (k : Nat), t = .int .i64 z ∧ k ≤ ys.length ∧ i = .int .i64 k) (fun _ i => ys.length - (intOf i).toNat)
          case atStart => exact ⟨_, 0, rfl, Nat.zero_le _, rfl⟩
          case round =>
            obtain ⟨z2, k2, rfl, hk2, rfl⟩ := hrel
            by_cases hlt2 : k2 < ys.length
            · obtain ⟨b, off, rfl, hc⟩ := hy2 (by omega)
              have hck := hc k2 hlt2
              go_wp2
              all_goals first
                | (go_ret; exact ⟨rfl, hb2⟩)
                | (go_round
                   case rel => exact ⟨_, k2 + 1, rfl, by omega, by go_num⟩
                   case measure => simp [intOf]; omega)
            · have hsx2 : StrsAt wc (.slice a xs.length c) xs := cells_strs hx2
              have hsy2 : StrsAt wc (.slice a' ys.length c') ys := cells_strs hy2
              by_cases hkk : 0 ≤ kk ∧ kk ≤ (xs.length : Int)
              · obtain ⟨hk0, hk1⟩ := hkk
                obtain ⟨kn, rfl⟩ : ∃ n : Nat, kk = (n : Int) := ⟨kk.toNat, by omega⟩
                go_wp2_with fail
                refine (zzcheck8 F _ _ _ _ _ _ hF2 hsx2 hsy2 (by omega) (by omega) hsx).mono ?_
                rintro e w' ⟨r, rfl, hr, hb3⟩
                go_wp2_with fail
                have hF3 : F.answers w'.tape := by rw [hb3.tape]; exact hF2
                have hx3 := hx2.below hb3
                have hy3 := hsy2.below hb3
                have hL3 := strs_take (c := c) hx3 (k := kn) (by omega)
                refine (zzcheck8 F _ _ _ (xs.take kn) _ _ hF3 hL3 hy3 (by rw [List.length_take]; omega) (by omega) (fun x hx => hsx x (List.mem_of_mem_take hx))).mono ?_
                rintro e w'' ⟨rL, rfl, hrL, hb4⟩
                have hF4 : F.answers w''.tape := by rw [hb4.tape]; exact hF3
                have hx4 := hx3.below hb4
                have hy4 := hy3.below hb4
                have hL4 := hL3.below hb4
                have hR4 := strs_drop (c := c - kn) hx4 (k := kn) (by omega)
                have hB4 : Below w.heap.size w w'' := (hb2.trans (hb3.mono hb2.size)).trans (hb4.mono (Nat.le_trans hb2.size hb3.size))
                have hE : ErrIs r (someUnknown (xs.take kn) ys || someUnknown (xs.drop kn) ys) := by rw [← su_split]; exact hr
                clear hr
                clear hsx2 hsy2 hx3 hy3 hL3 hx2 hy2 hF3 hF2 hF hb3
                by_cases hck : kn = c
                · subst hck
                  go_wp2_with fail
                  refine (zzcheck8 F _ _ _ (xs.drop kn) _ _ hF4 (strs_none (by omega)) hy4 (by rw [List.length_drop]; omega) (by omega) (fun x hx => hsx x (List.mem_of_mem_drop hx))).mono ?_
                  rintro e w5 ⟨rR, rfl, hrR, hb5⟩
                  have hB5 : Below w.heap.size w w5 := hB4.trans (hb5.mono hB4.size)
                  have hL5 := hL4.below hb5
                  have hy5 := hy4.below hb5
                  clear hR4 hL4 hy4 hF4 hx4 hb5 hb4 hB4
                  rcases hrL with ⟨sL, rfl⟩ | ⟨sL, qL, rfl⟩ <;> rcases hrR with ⟨sR, rfl⟩ | ⟨sR, qR, rfl⟩ <;> rw [sL, sR] at hE <;> rcases hE with ⟨h, rfl⟩ | ⟨h, q, rfl⟩ <;> (try (exfalso; simp at h; done))
                  all_goals
                    go_wp2_with fail
                    go_quiet ((go_at_call 9; exact Calls.quiet_of_same (unknown9_any _ _ _ _ _ hL5 hy5 (by rw [List.length_take]; omega) (by omega))))
                    go_wp2
                    go_ret
                    exact ⟨rfl, below_drewN hB5 _⟩
                · have hck' : ¬ c = kn := fun e => hck e.symm
                  clear hck
                  go_wp2_with fail
                  refine (zzcheck8 F _ _ _ (xs.drop kn) _ _ hF4 hR4 hy4 (by rw [List.length_drop]; omega) (by omega) (fun x hx => hsx x (List.mem_of_mem_drop hx))).mono ?_
                  rintro e w5 ⟨rR, rfl, hrR, hb5⟩
                  have hB5 : Below w.heap.size w w5 := hB4.trans (hb5.mono hB4.size)
                  have hL5 := hL4.below hb5
                  have hy5 := hy4.below hb5
                  clear hR4 hL4 hy4 hF4 hx4 hb5 hb4 hB4
                  rcases hrL with ⟨sL, rfl⟩ | ⟨sL, qL, rfl⟩ <;> rcases hrR with ⟨sR, rfl⟩ | ⟨sR, qR, rfl⟩ <;> rw [sL, sR] at hE <;> rcases hE with ⟨h, rfl⟩ | ⟨h, q, rfl⟩ <;> (try (exfalso; simp at h; done))
                  all_goals
                    go_wp2_with fail
                    go_quiet ((go_at_call 9; exact Calls.quiet_of_same (unknown9_any _ _ _ _ _ hL5 hy5 (by rw [List.length_take]; omega) (by omega))))
                    go_wp2
                    go_ret
                    exact ⟨rfl, below_drewN hB5 _⟩
              · go_wp2
                all_goals first
                  | (go_ret; exact ⟨rfl, hb2⟩)
                  | (exfalso; omega)

end Go.Proofs.Qxb6614318aFmt
