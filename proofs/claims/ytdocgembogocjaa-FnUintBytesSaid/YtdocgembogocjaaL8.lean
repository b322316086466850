/- The law on an integer read as a number and as bytes: walk. -/
import Derived.Test.YtdocgembogocjaaL7
import Derived.Test.YtdocgembogocjaaIm5
namespace Go.Proofs.Ytdocgembogocjaa
open Go.RowKit

theorem mag_len {c m : List Int} (h : magOf c = some m) : 1 ≤ m.length := by
  unfold magOf at h
  split at h
  · rename_i hr
    have := intRight_pos hr.1
    simp only [Option.some.injEq] at h
    subst h
    split
    · simp; omega
    · omega
  · cases h
theorem uint_mag (c : List Int) (hb : Byt c) : uintOf c = match magOf c with | some m => if m.length ≤ 8 then some (beN m) else none | none => none := by
  have hg0 := Byt.getD hb 0
  unfold uintOf magOf
  by_cases hr : intRight c = true ∧ c.getD 0 0 < 128
  · have h1 := intRight_pos hr.1
    rw [if_pos hr]
    by_cases h2 : 1 < c.length ∧ c.getD 0 0 = 0
    · obtain ⟨y, zs, rfl⟩ : ∃ y zs, c = y :: zs := by
        match c, h1 with
        | a :: b, _ => exact ⟨a, b, rfl⟩
      obtain ⟨h2, h3⟩ := h2
      have e : (y :: zs).getD 0 0 = y := rfl
      rw [e] at h3
      subst h3
      have hv : beN (0 :: zs) = beN zs := by rw [beN_cons, Int.zero_mul, Int.zero_add]
      have hl : (0 :: zs).length = zs.length + 1 := rfl
      have hm : (if 1 < (0 :: zs).length ∧ (0 :: zs).getD 0 0 = 0 then List.drop 1 (0 :: zs) else 0 :: zs) = zs := by rw [if_pos ⟨h2, e⟩]; rfl
      rw [hm, hv]
      show _ = if zs.length ≤ 8 then some (beN zs) else none
      by_cases h8 : zs.length ≤ 8
      · rw [if_pos h8, if_pos ⟨hr.1, hr.2, by rw [e]; omega⟩]
      · rw [if_neg h8, if_neg]
        rintro ⟨_, _, h⟩
        omega
    · rw [if_neg h2]
      simp only
      by_cases h8 : c.length ≤ 8
      · rw [if_pos h8, if_pos ⟨hr.1, hr.2, .inl h8⟩]
      · rw [if_neg h8, if_neg]
        rintro ⟨_, _, h | ⟨h, h'⟩⟩
        · exact h8 h
        · exact h2 ⟨by omega, h'⟩
  · rw [if_neg hr]
    simp only
    rw [if_neg (fun h => hr ⟨h.1, h.2.1⟩)]

theorem law_FnUintBytes (A : Option Addr) (n c : Nat) (xs : List Int) (w : World) (h : Rd w w.heap.size A xs) (hn : n = xs.length) (hc : n ≤ c) (_hcm : c ≤ maxLen) :
    Calls Try.prog 6 #[.slice A n c] w fun e w' => e = .returned (.bool true) ∧ Below w.heap.size w w' := by
  by_cases hbig : 1048576 < n
  · clear h hn
    have F := fun w => fits_no A n c w hbig
    have HF := Lib.hid F
    clear F
    by_cases hz : 2147483647 < n
    · go_enter Try.func6, Try.ntmps6
      go_wp2_with fail
      go_ret
      exact ⟨rfl, Below.refl _ _⟩
    · go_enter Try.func6, Try.ntmps6
      go_wp2_with fail
      refine (HF.out _).mono ?_; rintro e w' ⟨rfl, rfl⟩
      go_wp2_with fail
      go_ret
      exact ⟨rfl, Below.refl _ _⟩
  have F := fun w => fits_yes A n c w (by omega)
  have HF := Lib.hid F
  clear F
  have hz : n ≤ 2147483647 := by omega
  have I := Lib.hid (fun w B h => ImReadUint_of A n c xs w B h hn (by omega))
  have J := Lib.hid (fun w B h => ImReadIntegerBytes_of A n c xs w B h hn (by omega))
  have TG := Lib.hid (fun w B h hB => isUint_any A n c xs w B h hn hc _hcm hB (by omega))
  have HH := Lib.hid h
  clear h hn hbig
  go_enter Try.func6, Try.ntmps6
  go_wp2_with fail
  refine (HF.out _).mono ?_; rintro e w' ⟨rfl, rfl⟩
  go_wp2_with fail
  refine (I.out _ _ HH.out).mono ?_
  rintro e w1 ⟨ok, x, ys, A1, c1, rfl, hr1, hk1, _, hg⟩
  have R1 := Lib.hid hr1
  have K1 := Lib.hid hk1
  clear hr1 hk1
  go_wp2_with fail
  refine (J.out _ _ (HH.out.only K1.out (by simp) (Nat.le_refl _))).mono ?_
  rintro e w2 ⟨ok2, zs, ys2, A2, c2, A3, c3, rfl, hr2, hr3, hk2, _, _, hg2⟩
  have R2 := Lib.hid hr2
  have R3 := Lib.hid hr3
  have KK2 := Lib.hid hk2
  have K2 := Lib.hid (K1.out.trans hk2)
  clear hr2 hr3 hk2
  have TG' := TG.out _ _ (HH.out.only K2.out (by simp) (Nat.le_refl _)) K2.out.size
  unfold asOf at hg hg2 TG'
  have T := Lib.hid TG'
  clear TG' TG
  cases hf : firstOf xs 2 with
  | none =>
    rw [hf] at hg hg2 T
    have hg : ok = false := hg
    have hg2 : ok2 = false := hg2
    subst hg hg2
    clear hf
    go_wp2_with fail
    refine T.out.mono ?_
    rintro e w3 ⟨rfl, hk3⟩
    have K3 := Lib.hid (K2.out.trans hk3)
    clear hk3
    go_wp2_with fail
    go_ret
    exact ⟨rfl, K3.out.belowN⟩
  | some q =>
    obtain ⟨cc, r⟩ := q
    have hcb := (firstOf_byt hf HH.out.byt).1
    have hum := uint_mag cc hcb
    rw [hf] at hg hg2 T
    simp only at hg hg2 T
    rw [hum] at hg T
    clear hf hcb hum
    cases hm : magOf cc with
    | none =>
      rw [hm] at hg hg2 T
      have hg : ok = false := hg
      have hg2 : ok2 = false := hg2
      subst hg hg2
      clear hm
      go_wp2_with fail
      refine T.out.mono ?_
      rintro e w3 ⟨rfl, hk3⟩
      have K3 := Lib.hid (K2.out.trans hk3)
      clear hk3
      go_wp2_with fail
      go_ret
      exact ⟨rfl, K3.out.belowN⟩
    | some m =>
      have hm1 := mag_len hm
      rw [hm] at hg hg2 T
      obtain ⟨rfl, rfl, rfl⟩ : ok2 = true ∧ zs = m ∧ ys2 = r := hg2
      simp only at hg T
      clear hm
      by_cases h8 : zs.length ≤ 8
      · rw [if_pos h8] at hg T
        obtain ⟨rfl, rfl, rfl⟩ : ok = true ∧ x = beN zs ∧ ys = ys2 := hg
        have hd8 : decide (8 < zs.length) = false := decide_eq_false (by omega)
        have hd8' : decide ((8 : Int) < (zs.length : Int)) = false := decide_eq_false (by omega)
        have NU := Lib.hid (number_ok A2 zs.length c2 zs.length zs w2 _ R2.out rfl (Nat.le_refl _) h8 hm1 (by omega))
        have e2 : zs.take zs.length = zs := List.take_of_length_le (Nat.le_refl _)
        rw [e2] at NU
        clear e2 T
        generalize beN zs = z at *
        go_wp2_with fail
        refine NU.out.mono ?_
        rintro e w' ⟨rfl, rfl⟩
        go_wp2_with fail
        refine (same_yes _ _ _ _ _ _ _ _ _ w1.heap.size w2.heap.size (R1.out.only KK2.out (by simp) (Nat.le_refl _)) R3.out rfl rfl rfl).mono ?_
        rintro e w' ⟨rfl, rfl⟩
        go_wp2_with fail
        go_ret
        exact ⟨rfl, K2.out.belowN⟩
      · rw [if_neg h8] at hg T
        have hg : ok = false := hg
        subst hg
        have hd8 : decide (8 < zs.length) = true := decide_eq_true (by omega)
        have hd8' : decide ((8 : Int) < (zs.length : Int)) = true := decide_eq_true (by omega)
        go_wp2_with fail
        refine T.out.mono ?_
        rintro e w3 ⟨rfl, hk3⟩
        have K3 := Lib.hid (K2.out.trans hk3)
        clear hk3
        go_wp2_with fail
        go_ret
        exact ⟨rfl, K3.out.belowN⟩
end Go.Proofs.Ytdocgembogocjaa
