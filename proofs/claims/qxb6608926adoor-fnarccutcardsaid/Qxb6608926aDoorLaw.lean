/-
  FnArcCut: the walk.
-/
import Derived.Test.Qxb6608926aDoorArc
import Derived.Test.Qxb6608926aDoorPlain
import Derived.Deep.DeepCutAuto
namespace Go.Proofs.Qxb6608926aDoor
open Go.RowKit

theorem digB_tt {c : UInt8} (h : digB c = true) : Dig c := by simpa [digB, Dig] using h
theorem digB_ff {c : UInt8} (h : digB c = false) : ¬ Dig c := by
  intro hd
  have : digB c = true := by simp [digB, hd.1, hd.2]
  rw [this] at h
  cases h

/-- ZZarc where the answer is known. -/
theorem zz_at (t : ByteArray) (x y : Nat) (w : World) (hmax : t.size ≤ 2000000) (he : ErrsAt w) (hx : arcOf t.data.toList = (x, y)) :
    Calls Tryd.prog 13 #[.string t] w fun e w' => e = .returned (.tuple #[.int .i64 (y : Int), .bool (x == 0)]) ∧ Below w.heap.size w w' := by
  have := zzarc13 t w hmax he
  rw [hx] at this
  exact this

theorem data_one (t : ByteArray) (b : Nat) (h : b < t.size) : (t.extract b (b + 1)).data.toList = [t[b]] := by
  have hl : b < t.data.toList.length := by rw [Array.length_toList]; exact h
  rw [Lib.extract_data, List.drop_eq_getElem_cons hl]
  simp
  rfl

theorem data_last (t : ByteArray) (h : 0 < t.size) : (t.extract (t.size - 1) t.size).data.toList = [t[t.size - 1]] := by
  have e : t.size = t.size - 1 + 1 := by omega
  have := data_one t (t.size - 1) (by omega)
  rwa [← e] at this

theorem data_left (t : ByteArray) (k : Nat) : (t.extract 0 k).data.toList = t.data.toList.take k := by rw [Lib.extract_data]; simp
theorem data_right (t : ByteArray) (k : Nat) : (t.extract k t.size).data.toList = t.data.toList.drop k := by
  rw [Lib.extract_data, Lib.size_eq]
  apply List.take_of_length_le
  rw [List.length_drop]
  omega
theorem split_at (t : ByteArray) (k : Nat) : t.data.toList = t.data.toList.take k ++ t.data.toList.drop k := (List.take_append_drop k _).symm
theorem left_ne (t : ByteArray) (k : Nat) (h : 0 < k) (h2 : k ≤ t.size) : t.data.toList.take k ≠ [] := by
  intro e
  have := congrArg List.length e
  rw [List.length_take, ← Lib.size_eq] at this
  simp only [List.length_nil] at this
  omega
theorem right_head (t : ByteArray) (k : Nat) (h : k < t.size) : t.data.toList.drop k = t[k] :: t.data.toList.drop (k + 1) :=
  List.drop_eq_getElem_cons (by rw [Array.length_toList]; exact h)
theorem right_ne (t : ByteArray) (k : Nat) (h : k < t.size) : t.data.toList.drop k ≠ [] := by rw [right_head t k h]; simp
theorem right_len (t : ByteArray) (k : Nat) : (t.data.toList.drop k).length = t.size - k := by rw [List.length_drop, ← Lib.size_eq]

theorem pow_small {u j : Nat} (hu : u ≤ 2147483647) (hj : j ≤ 9) : u * 10 ^ j ≤ 2147483647000000000 := by
  have h1 : 10 ^ j ≤ 10 ^ 9 := Nat.pow_le_pow_right (by omega) hj
  have h2 : (10 : Nat) ^ 9 = 1000000000 := by decide
  have h3 : u * 10 ^ j ≤ u * 10 ^ 9 := Nat.mul_le_mul_left u h1
  rw [h2] at h3
  omega

set_option maxHeartbeats 4000000 in
set_option maxRecDepth 100000 in
theorem law5 (t : ByteArray) (i : Int) (w : World) (he : ErrsAt w) :
    Calls Tryd.prog 5 #[.string t, .int .i64 i] w fun e w' => e = .returned (.bool true) ∧ Below w.heap.size w w' := by
  obtain ⟨x, y, hxy⟩ : ∃ x y, arcOf t.data.toList = (x, y) := ⟨_, _, rfl⟩
  have HX : Hid (arcOf t.data.toList = (x, y)) := hxy
  clear hxy
  go_enter Tryd.func5, Tryd.ntmps5
  go_wp2_with (go_at_call 12; refine (bytes12 _ _ _).mono ?_; rintro e w' ⟨⟨b, rfl⟩, hw⟩; obtain rfl := hw.symm)
  all_goals first | (go_ret; exact ⟨rfl, Below.refl _ _⟩) | skip
  obtain ⟨k, rfl⟩ : ∃ k : Nat, i = (k : Int) := ⟨i.toNat, by omega⟩
  have hk : k ≤ t.size := by omega
  have ht : t.size ≤ 1048576 := by omega
  refine (zz_at t x y _ (by omega) he HX.out).mono ?_
  rintro e w1 ⟨rfl, hb1⟩
  have he1 := he.below hb1
  go_wp2_with fail
  refine (zz_at ByteArray.empty 2 0 _ (by decide) he1 rfl).mono ?_
  rintro e w2 ⟨rfl, hb2⟩
  have he2 := he1.below hb2
  have hB2 := hb1.trans (hb2.mono hb1.size)
  clear he he1 hb1 hb2
  go_upto_if 53 with fail
  go_cut [9] (fun _ wc => ErrsAt wc ∧ Below w.heap.size w wc)
  case first =>
    by_cases h0 : t.size = 0
    · go_wp2
      go_meet
      case rel => exact ⟨he2, hB2⟩
    · by_cases hkn : k = t.size
      · subst hkn
        have hlast : t.size - 1 < t.size := by omega
        have hc256 : t[t.size - 1].toNat < 256 := t[t.size - 1].toNat_lt
        cases hd : digB t[t.size - 1]
        · go_wp2_with fail
          refine (zz_at _ 2 0 _ (by rw [Lib.size_eq, data_last t (by omega)]; show 1 ≤ 2000000; omega) he2 (by rw [data_last t (by omega)]; exact arcOf_other (digB_ff hd))).mono ?_
          rintro e w3 ⟨rfl, hb3⟩
          have he3 := he2.below hb3
          have hB3 := hB2.trans (hb3.mono hB2.size)
          go_wp2_with (go_at_call 11; refine (isDigit11 _ _).mono ?_; rintro e w' ⟨rfl, hw⟩; obtain rfl := hw.symm)
          go_meet
          case rel => exact ⟨he3, hB3⟩
        · have hdd := digB_tt hd
          have hd0 : 48 ≤ t[t.size - 1].toNat := hdd.1
          have hd1 : t[t.size - 1].toNat ≤ 57 := hdd.2
          have hyc : ((t[t.size - 1].toNat - 48 : Nat) : Int) = (t[t.size - 1].toNat : Int) - 48 := by omega
          go_wp2_with fail
          refine (zz_at _ 0 (t[t.size - 1].toNat - 48) _ (by rw [Lib.size_eq, data_last t (by omega)]; show 1 ≤ 2000000; omega) he2 (by rw [data_last t (by omega)]; exact arcOf_digit hdd)).mono ?_
          rintro e w3 ⟨rfl, hb3⟩
          have he3 := he2.below hb3
          have hB3 := hB2.trans (hb3.mono hB2.size)
          clear hdd
          go_wp2_with (go_at_call 11; refine (isDigit11 _ _).mono ?_; rintro e w' ⟨rfl, hw⟩; obtain rfl := hw.symm)
          go_meet
          case rel => exact ⟨he3, hB3⟩
      · have hlt : k < t.size := by omega
        have hkf : ((k : Int) == (t.size : Int)) = false := by simp; omega
        have hc256 : t[k].toNat < 256 := t[k].toNat_lt
        cases hd : digB t[k]
        · go_wp2_with fail
          refine (zz_at _ 2 0 _ (by rw [Lib.size_eq, data_one t k hlt]; show 1 ≤ 2000000; omega) he2 (by rw [data_one t k hlt]; exact arcOf_other (digB_ff hd))).mono ?_
          rintro e w3 ⟨rfl, hb3⟩
          have he3 := he2.below hb3
          have hB3 := hB2.trans (hb3.mono hB2.size)
          go_wp2_with (go_at_call 11; refine (isDigit11 _ _).mono ?_; rintro e w' ⟨rfl, hw⟩; obtain rfl := hw.symm)
          go_meet
          case rel => exact ⟨he3, hB3⟩
        · have hdd := digB_tt hd
          have hd0 : 48 ≤ t[k].toNat := hdd.1
          have hd1 : t[k].toNat ≤ 57 := hdd.2
          have hyc : ((t[k].toNat - 48 : Nat) : Int) = (t[k].toNat : Int) - 48 := by omega
          go_wp2_with fail
          refine (zz_at _ 0 (t[k].toNat - 48) _ (by rw [Lib.size_eq, data_one t k hlt]; show 1 ≤ 2000000; omega) he2 (by rw [data_one t k hlt]; exact arcOf_digit hdd)).mono ?_
          rintro e w3 ⟨rfl, hb3⟩
          have he3 := he2.below hb3
          have hB3 := hB2.trans (hb3.mono hB2.size)
          clear hdd
          go_wp2_with (go_at_call 11; refine (isDigit11 _ _).mono ?_; rintro e w' ⟨rfl, hw⟩; obtain rfl := hw.symm)
          go_meet
          case rel => exact ⟨he3, hB3⟩
  case rest =>
    obtain ⟨he3, hB3⟩ := hcut
    clear he2 hB2
    by_cases hk0 : k = 0
    · subst hk0
      go_wp2
      go_ret
      exact ⟨rfl, hB3⟩
    · by_cases hkn : k = t.size
      · subst hkn
        go_wp2
        go_ret
        exact ⟨rfl, hB3⟩
      · have hlt : k < t.size := by omega
        have h1 : ((k : Int) == 0) = false := by simp; omega
        have h2 : ((k : Int) == (t.size : Int)) = false := by simp; omega
        go_wp2_with fail
        have hs : (t.extract 0 k).size ≤ 2000000 := by rw [Lib.size_eq, data_left, List.length_take]; omega
        have hL := split_at t k
        have hAne := left_ne t k (by omega) (by omega)
        have hBne := right_ne t k hlt
        have hX : ∀ a b, arcOf t.data.toList = (a, b) → x = a ∧ y = b := fun a b h => by
          have := HX.out.symm.trans h
          simpa using this
        rcases arcOf_ends (t.data.toList.take k) with ⟨u, hAr, hu⟩ | hAr | hAr
        · refine (zz_at (t.extract 0 k) 0 u _ hs he3 (by rw [data_left]; exact hAr)).mono ?_
          rintro e w4 ⟨rfl, hb4⟩
          have he4 := he3.below hb4
          have hB4 := hB3.trans (hb4.mono hB3.size)
          have hXu : arcOf t.data.toList = scan u (t.data.toList.drop k) := (congrArg arcOf hL).trans (whole_go hAne hAr)
          clear he3 hb4 hAr hAne
          cases hd : digB t[k]
          · obtain ⟨rfl, rfl⟩ := hX 2 0 (by rw [hXu, right_head t k hlt]; exact go_bad (digB_ff hd))
            clear hX hXu hL HX hBne
            go_wp2_with (go_at_call 11; refine (isDigit11 _ _).mono ?_; rintro e w' ⟨rfl, hw⟩; obtain rfl := hw.symm)
            go_ret
            exact ⟨rfl, hB4⟩
          · have HXU : Hid (arcOf t.data.toList = scan u (t.data.toList.drop k)) := hXu
            have HXX : Hid (∀ a b, arcOf t.data.toList = (a, b) → x = a ∧ y = b) := hX
            have HBN : Hid (t.data.toList.drop k ≠ []) := hBne
            clear hX hXu hL HX hBne
            go_wp2_with (go_at_call 11; refine (isDigit11 _ _).mono ?_; rintro e w' ⟨rfl, hw⟩; obtain rfl := hw.symm)
            have hX := HXX.out
            have hXu := HXU.out
            have hBne := HBN.out
            clear HXX HXU HBN
            have hsB : (t.extract k t.size).size ≤ 2000000 := by rw [Lib.size_eq, data_right, right_len]; omega
            have hfin : ∀ w5, Below w4.heap.size w4 w5 → Below w.heap.size w w5 := fun w5 hb => hB4.trans (hb.mono hB4.size)
            rcases arcOf_ends (t.data.toList.drop k) with ⟨m, hBr, hm⟩ | hBr | hBr
            · refine (zz_at (t.extract k t.size) 0 m _ hsB he4 (by rw [data_right]; exact hBr)).mono ?_
              rintro e w5 ⟨rfl, hb5⟩
              have hB5 := hfin w5 hb5
              by_cases hu0 : u = 0
              · subst hu0
                obtain ⟨rfl, rfl⟩ := hX 0 m (by rw [hXu]; exact go_zero hBne hBr)
                clear hX hXu hBne hBr hfin
                go_wp2
                go_ret
                exact ⟨rfl, hB5⟩
              · have hu1 : ((u : Int) == 0) = false := by simp; omega
                have hgd := go_digits hBne hBr hu
                rw [right_len, ← hXu] at hgd
                by_cases h10 : 10 ≤ t.size - k
                · rw [if_neg (pow_big (by omega) h10)] at hgd
                  obtain ⟨rfl, rfl⟩ := hX 1 2147483647 hgd
                  clear hX hXu hBne hBr hfin hgd
                  go_wp2
                  go_ret
                  exact ⟨rfl, hB5⟩
                · have HG : Hid (arcOf t.data.toList = if u * 10 ^ (t.size - k) + m ≤ 2147483647 then (0, u * 10 ^ (t.size - k) + m) else (1, 2147483647)) := hgd
                  have HXX : Hid (∀ a b, arcOf t.data.toList = (a, b) → x = a ∧ y = b) := hX
                  clear hX hXu hBne hBr hfin hgd
                  go_wp2
                  go_loop [18, 19] (fun v j => ∃ (jn Q : Nat), jn ≤ t.size - k ∧ j = .int .i64 jn ∧ v = .int .u64 (Q : Int) ∧ Q ≤ 2147483647000000000 ∧ Hid (Q = u * 10 ^ jn)) (fun _ j => t.size - (intOf j).toNat)
                  case atStart => exact ⟨0, u, Nat.zero_le _, rfl, rfl, by omega, by simp [Hid]⟩
                  case round =>
                    obtain ⟨jn, Q, hj, rfl, rfl, hQ, HQ⟩ := hrel
                    by_cases hjl : jn < t.size - k
                    · have hjl' : (jn : Int) < (t.size : Int) - (k : Int) := by omega
                      have hQ2 := pow_small (u := u) (j := jn + 1) hu (by omega)
                      have HQ2 : Hid (Q * 10 = u * 10 ^ (jn + 1)) := by
                        have := HQ.out
                        show Q * 10 = u * 10 ^ (jn + 1)
                        rw [this, Nat.pow_succ, Nat.mul_assoc]
                      have hQ3 : Q * 10 ≤ 2147483647000000000 := by rw [HQ2.out]; exact hQ2
                      clear hQ2 HQ
                      go_wp2
                      go_round
                      case rel => exact ⟨jn + 1, Q * 10, by omega, by go_num, by go_num, hQ3, HQ2⟩
                      case measure => simp [intOf]; omega
                    · have hje : jn = t.size - k := by omega
                      have hjl' : ¬ (jn : Int) < (t.size : Int) - (k : Int) := by omega
                      have hQe : Q = u * 10 ^ (t.size - k) := by rw [← hje]; exact HQ.out
                      by_cases hv : Q + m ≤ 2147483647
                      · obtain ⟨rfl, rfl⟩ := HXX.out 0 (Q + m) (by rw [HG.out, ← hQe, if_pos hv])
                        clear HXX HG HQ hQe hje
                        go_wp2
                        go_ret
                        exact ⟨rfl, hB5⟩
                      · obtain ⟨rfl, rfl⟩ := HXX.out 1 2147483647 (by rw [HG.out, ← hQe, if_neg hv])
                        clear HXX HG HQ hQe hje
                        go_wp2
                        go_ret
                        exact ⟨rfl, hB5⟩
            · refine (zz_at (t.extract k t.size) 1 2147483647 _ hsB he4 (by rw [data_right]; exact hBr)).mono ?_
              rintro e w5 ⟨rfl, hb5⟩
              have hB5 := hfin w5 hb5
              obtain ⟨rfl, rfl⟩ := hX 1 2147483647 (by rw [hXu]; exact go_range hBne hBr hu)
              clear hX hXu hBne hBr hfin
              by_cases hu0 : u = 0
              · subst hu0
                go_wp2
                go_ret
                exact ⟨rfl, hB5⟩
              · have hu1 : ((u : Int) == 0) = false := by simp; omega
                go_wp2
                go_ret
                exact ⟨rfl, hB5⟩
            · refine (zz_at (t.extract k t.size) 2 0 _ hsB he4 (by rw [data_right]; exact hBr)).mono ?_
              rintro e w5 ⟨rfl, hb5⟩
              have hB5 := hfin w5 hb5
              by_cases hu0 : u = 0
              · subst hu0
                obtain ⟨rfl, rfl⟩ := hX 2 0 (by rw [hXu]; exact go_zero hBne hBr)
                clear hX hXu hBne hBr hfin
                go_wp2
                go_ret
                exact ⟨rfl, hB5⟩
              · have hu1 : ((u : Int) == 0) = false := by simp; omega
                rcases go_other (u := u) hBne hBr with hg | hg
                · obtain ⟨rfl, rfl⟩ := hX 1 2147483647 (by rw [hXu]; exact hg)
                  clear hX hXu hBne hBr hfin hg
                  go_wp2
                  go_ret
                  exact ⟨rfl, hB5⟩
                · obtain ⟨rfl, rfl⟩ := hX 2 0 (by rw [hXu]; exact hg)
                  clear hX hXu hBne hBr hfin hg
                  go_wp2
                  go_ret
                  exact ⟨rfl, hB5⟩
        · obtain ⟨rfl, rfl⟩ := hX 1 2147483647 (by rw [hL]; exact whole_stop hAne hAr (by decide))
          clear hX hBne hAne hL HX
          refine (zz_at (t.extract 0 k) 1 2147483647 _ hs he3 (by rw [data_left]; exact hAr)).mono ?_
          rintro e w4 ⟨rfl, hb4⟩
          clear hAr
          go_wp2
          go_ret
          exact ⟨rfl, hB3.trans (hb4.mono hB3.size)⟩
        · obtain ⟨rfl, rfl⟩ := hX 2 0 (by rw [hL]; exact whole_stop hAne hAr (by decide))
          clear hX hBne hAne hL HX
          refine (zz_at (t.extract 0 k) 2 0 _ hs he3 (by rw [data_left]; exact hAr)).mono ?_
          rintro e w4 ⟨rfl, hb4⟩
          clear hAr
          go_wp2
          go_ret
          exact ⟨rfl, hB3.trans (hb4.mono hB3.size)⟩

end Go.Proofs.Qxb6608926aDoor
