/- The laws on numbers that are added, and read again: walks. -/
import Derived.Test.YtmhinadofihkjaaBl2
import Derived.Test.YtmhinadofihkjaaL1

namespace Go.Proofs.Ytmhinadofihkjaa
open Go.RowKit

theorem law_FnExactAddUint16 (v : Int) (w : World) :
    Calls Try.prog 3 #[.int .i64 v] w fun e w' => e = .returned (.bool true) ∧ Below w.heap.size w w' := by
  by_cases h0 : v < 0
  · go_enter Try.func3, Try.ntmps3
    go_wp2_with fail
    go_ret
    exact ⟨rfl, Below.refl _ _⟩
  by_cases h1 : 65536 ≤ v
  · go_enter Try.func3, Try.ntmps3
    go_wp2_with fail
    go_ret
    exact ⟨rfl, Below.refl _ _⟩
  have I := Lib.hid (ImAddUint16_any v w (by omega) (by omega))
  have BG := Lib.hid (fun w => big_any v 2 w (by omega) (by omega) (by decide))
  have hwt : IntKind.u64.wrap v = v := wrap_id_u64 v (by omega) (by omega)
  go_enter Try.func3, Try.ntmps3
  go_wp2_with fail
  refine I.out.mono ?_
  rintro e w1 ⟨A1, c1, ys, ok, rfl, hr1, hk1, _, _, rfl, rfl⟩
  have R1 := Lib.hid hr1
  have K1 := Lib.hid hk1
  clear hr1 hk1 I
  go_wp2_with fail
  refine (BG.out _).mono ?_
  rintro e w2 ⟨A2, c2, rfl, hc2, hm2, hown2, hk2⟩
  have R2 := Lib.hid (Rd.of_own (bigB_byt _ _) hown2)
  have K2 := Lib.hid hk2
  clear hown2 hk2 hc2 hm2
  go_wp2_with fail
  refine (same_yes _ _ _ _ _ _ (bigB v 2) (bigB v 2) _ w1.heap.size w2.heap.size (R1.out.only K2.out (by simp) (Nat.le_refl _)) R2.out rfl rfl rfl).mono ?_
  rintro e w' ⟨rfl, rfl⟩
  go_wp2_with fail
  go_ret
  exact ⟨rfl, (K1.out.trans K2.out).belowN⟩

theorem law_FnExactAddUint32 (v : Int) (w : World) :
    Calls Try.prog 4 #[.int .i64 v] w fun e w' => e = .returned (.bool true) ∧ Below w.heap.size w w' := by
  by_cases h0 : v < 0
  · go_enter Try.func4, Try.ntmps4
    go_wp2_with fail
    go_ret
    exact ⟨rfl, Below.refl _ _⟩
  by_cases h1 : 4294967296 ≤ v
  · go_enter Try.func4, Try.ntmps4
    go_wp2_with fail
    go_ret
    exact ⟨rfl, Below.refl _ _⟩
  have I := Lib.hid (ImAddUint32_any v w (by omega) (by omega))
  have BG := Lib.hid (fun w => big_any v 4 w (by omega) (by omega) (by decide))
  have hwt : IntKind.u64.wrap v = v := wrap_id_u64 v (by omega) (by omega)
  go_enter Try.func4, Try.ntmps4
  go_wp2_with fail
  refine I.out.mono ?_
  rintro e w1 ⟨A1, c1, ys, ok, rfl, hr1, hk1, _, _, rfl, rfl⟩
  have R1 := Lib.hid hr1
  have K1 := Lib.hid hk1
  clear hr1 hk1 I
  go_wp2_with fail
  refine (BG.out _).mono ?_
  rintro e w2 ⟨A2, c2, rfl, hc2, hm2, hown2, hk2⟩
  have R2 := Lib.hid (Rd.of_own (bigB_byt _ _) hown2)
  have K2 := Lib.hid hk2
  clear hown2 hk2 hc2 hm2
  go_wp2_with fail
  refine (same_yes _ _ _ _ _ _ (bigB v 4) (bigB v 4) _ w1.heap.size w2.heap.size (R1.out.only K2.out (by simp) (Nat.le_refl _)) R2.out rfl rfl rfl).mono ?_
  rintro e w' ⟨rfl, rfl⟩
  go_wp2_with fail
  go_ret
  exact ⟨rfl, (K1.out.trans K2.out).belowN⟩

theorem law_FnExactAddUint64 (v : Int) (w : World) (h0 : 0 ≤ v) (h1 : v ≤ 18446744073709551615) :
    Calls Try.prog 5 #[.int .u64 v] w fun e w' => e = .returned (.bool true) ∧ Below w.heap.size w w' := by
  have I := Lib.hid (ImAddUint64_any v w h0 (by omega))
  have BG := Lib.hid (fun w => big_any v 8 w h0 h1 (by decide))
  clear h0 h1
  go_enter Try.func5, Try.ntmps5
  go_wp2_with fail
  refine I.out.mono ?_
  rintro e w1 ⟨A1, c1, ys, ok, rfl, hr1, hk1, _, _, rfl, rfl⟩
  have R1 := Lib.hid hr1
  have K1 := Lib.hid hk1
  clear hr1 hk1 I
  go_wp2_with fail
  refine (BG.out _).mono ?_
  rintro e w2 ⟨A2, c2, rfl, hc2, hm2, hown2, hk2⟩
  have R2 := Lib.hid (Rd.of_own (bigB_byt _ _) hown2)
  have K2 := Lib.hid hk2
  clear hown2 hk2 hc2 hm2
  go_wp2_with fail
  refine (same_yes _ _ _ _ _ _ (bigB v 8) (bigB v 8) _ w1.heap.size w2.heap.size (R1.out.only K2.out (by simp) (Nat.le_refl _)) R2.out rfl rfl rfl).mono ?_
  rintro e w' ⟨rfl, rfl⟩
  go_wp2_with fail
  go_ret
  exact ⟨rfl, (K1.out.trans K2.out).belowN⟩

theorem law_FnBackUint16 (v : Int) (A : Option Addr) (n c : Nat) (xs : List Int) (w : World) (h : Rd w w.heap.size A xs) (hn : n = xs.length) (_hc : n ≤ c) (_hcm : c ≤ maxLen) :
    Calls Try.prog 6 #[.int .i64 v, .slice A n c] w fun e w' => e = .returned (.bool true) ∧ Below w.heap.size w w' := by
  by_cases hbig : 1048576 < n
  · have HF := Lib.hid (fun w => fits_no A n c w hbig)
    clear h hn
    by_cases hz : 2147483647 < n
    · go_enter Try.func6, Try.ntmps6
      go_wp2_with fail
      go_ret
      exact ⟨rfl, Below.refl _ _⟩
    · go_enter Try.func6, Try.ntmps6
      go_wp2_with fail
      refine (HF.out _).mono ?_; rintro e w' ⟨rfl, rfl⟩
      go_wp2_with fail
      go_ret
      exact ⟨rfl, Below.refl _ _⟩
  have HF := Lib.hid (fun w => fits_yes A n c w (by omega))
  have hz : n ≤ 2147483647 := by omega
  by_cases h0 : v < 0
  · clear h hn hbig
    go_enter Try.func6, Try.ntmps6
    go_wp2_with fail
    refine (HF.out _).mono ?_; rintro e w' ⟨rfl, rfl⟩
    go_wp2_with fail
    go_ret
    exact ⟨rfl, Below.refl _ _⟩
  by_cases h1 : 65536 ≤ v
  · clear h hn hbig
    go_enter Try.func6, Try.ntmps6
    go_wp2_with fail
    refine (HF.out _).mono ?_; rintro e w' ⟨rfl, rfl⟩
    go_wp2_with fail
    go_ret
    exact ⟨rfl, Below.refl _ _⟩
  have I := Lib.hid (ImAddUint16_any v w (by omega) (by omega))
  have hlen := bigB_len 2 v
  have hval : beN ((bigB v 2 ++ xs).take 2) = v := by
    rw [List.take_append_of_le_length (by rw [hlen]; exact Nat.le_refl _), List.take_of_length_le (by rw [hlen]; exact Nat.le_refl _), beN_bigB]
    rw [show (256 : Int) ^ 2 = 65536 by decide]
    omega
  have hdrop : (bigB v 2 ++ xs).drop 2 = xs := by
    rw [List.drop_append_of_le_length (by rw [hlen]; exact Nat.le_refl _), List.drop_of_length_le (by rw [hlen]; exact Nat.le_refl _), List.nil_append]
  have RD := Lib.hid (fun A n c w B h hn => ImReadUint16_ok A n c (bigB v 2 ++ xs) w B h hn (by rw [List.length_append, hlen]; omega) (by rw [List.length_append, hlen]; omega))
  rw [hval, hdrop] at RD
  have HL := Lib.hid (And.intro hlen (show xs.length ≤ 1048576 by omega))
  have HH := Lib.hid h
  have HN := Lib.hid hn
  clear h hn hbig hlen hval hdrop
  go_enter Try.func6, Try.ntmps6
  go_wp2_with fail
  refine (HF.out _).mono ?_; rintro e w' ⟨rfl, rfl⟩
  go_wp2_with fail
  refine I.out.mono ?_
  rintro e w1 ⟨A1, c1, ys, ok, rfl, hr1, hk1, _, _, rfl, rfl⟩
  have R1 := Lib.hid hr1
  have K1 := Lib.hid hk1
  clear hr1 hk1 I
  go_wp2_with fail
  refine (behind_any _ _ _ _ _ _ (bigB v 2) xs w1 w1.heap.size w.heap.size R1.out (HH.out.only K1.out (by simp) (Nat.le_refl _)) (Nat.le_refl _) K1.out.size rfl HN.out (by have := HL.out; omega)).mono ?_
  rintro e w2 ⟨A2, c2, rfl, hc2, hm2, hown2, hk2⟩
  have R2 := Lib.hid (Rd.of_own (R1.out.byt.append HH.out.byt) hown2)
  have K2 := Lib.hid hk2
  clear hown2 hk2 hc2 hm2
  go_wp2_with fail
  refine (RD.out _ _ _ _ _ R2.out (by simp)).mono ?_
  rintro e w3 ⟨A3, c3, rfl, hr3, hk3⟩
  have R3 := Lib.hid hr3
  have K3 := Lib.hid ((K1.out.trans K2.out).trans hk3)
  clear hr3 hk3
  go_wp2_with fail
  refine (same_yes _ _ _ _ _ _ xs xs _ w3.heap.size w.heap.size R3.out (HH.out.only K3.out (by simp) (Nat.le_refl _)) rfl HN.out rfl).mono ?_
  rintro e w' ⟨rfl, rfl⟩
  go_wp2_with fail
  go_ret
  exact ⟨rfl, K3.out.belowN⟩

theorem law_FnBackUint32 (v : Int) (A : Option Addr) (n c : Nat) (xs : List Int) (w : World) (h : Rd w w.heap.size A xs) (hn : n = xs.length) (_hc : n ≤ c) (_hcm : c ≤ maxLen) :
    Calls Try.prog 7 #[.int .i64 v, .slice A n c] w fun e w' => e = .returned (.bool true) ∧ Below w.heap.size w w' := by
  by_cases hbig : 1048576 < n
  · have HF := Lib.hid (fun w => fits_no A n c w hbig)
    clear h hn
    by_cases hz : 2147483647 < n
    · go_enter Try.func7, Try.ntmps7
      go_wp2_with fail
      go_ret
      exact ⟨rfl, Below.refl _ _⟩
    · go_enter Try.func7, Try.ntmps7
      go_wp2_with fail
      refine (HF.out _).mono ?_; rintro e w' ⟨rfl, rfl⟩
      go_wp2_with fail
      go_ret
      exact ⟨rfl, Below.refl _ _⟩
  have HF := Lib.hid (fun w => fits_yes A n c w (by omega))
  have hz : n ≤ 2147483647 := by omega
  by_cases h0 : v < 0
  · clear h hn hbig
    go_enter Try.func7, Try.ntmps7
    go_wp2_with fail
    refine (HF.out _).mono ?_; rintro e w' ⟨rfl, rfl⟩
    go_wp2_with fail
    go_ret
    exact ⟨rfl, Below.refl _ _⟩
  by_cases h1 : 4294967296 ≤ v
  · clear h hn hbig
    go_enter Try.func7, Try.ntmps7
    go_wp2_with fail
    refine (HF.out _).mono ?_; rintro e w' ⟨rfl, rfl⟩
    go_wp2_with fail
    go_ret
    exact ⟨rfl, Below.refl _ _⟩
  have I := Lib.hid (ImAddUint32_any v w (by omega) (by omega))
  have hlen := bigB_len 4 v
  have hval : beN ((bigB v 4 ++ xs).take 4) = v := by
    rw [List.take_append_of_le_length (by rw [hlen]; exact Nat.le_refl _), List.take_of_length_le (by rw [hlen]; exact Nat.le_refl _), beN_bigB]
    rw [show (256 : Int) ^ 4 = 4294967296 by decide]
    omega
  have hdrop : (bigB v 4 ++ xs).drop 4 = xs := by
    rw [List.drop_append_of_le_length (by rw [hlen]; exact Nat.le_refl _), List.drop_of_length_le (by rw [hlen]; exact Nat.le_refl _), List.nil_append]
  have RD := Lib.hid (fun A n c w B h hn => ImReadUint32_ok A n c (bigB v 4 ++ xs) w B h hn (by rw [List.length_append, hlen]; omega) (by rw [List.length_append, hlen]; omega))
  rw [hval, hdrop] at RD
  have HL := Lib.hid (And.intro hlen (show xs.length ≤ 1048576 by omega))
  have HH := Lib.hid h
  have HN := Lib.hid hn
  clear h hn hbig hlen hval hdrop
  go_enter Try.func7, Try.ntmps7
  go_wp2_with fail
  refine (HF.out _).mono ?_; rintro e w' ⟨rfl, rfl⟩
  go_wp2_with fail
  refine I.out.mono ?_
  rintro e w1 ⟨A1, c1, ys, ok, rfl, hr1, hk1, _, _, rfl, rfl⟩
  have R1 := Lib.hid hr1
  have K1 := Lib.hid hk1
  clear hr1 hk1 I
  go_wp2_with fail
  refine (behind_any _ _ _ _ _ _ (bigB v 4) xs w1 w1.heap.size w.heap.size R1.out (HH.out.only K1.out (by simp) (Nat.le_refl _)) (Nat.le_refl _) K1.out.size rfl HN.out (by have := HL.out; omega)).mono ?_
  rintro e w2 ⟨A2, c2, rfl, hc2, hm2, hown2, hk2⟩
  have R2 := Lib.hid (Rd.of_own (R1.out.byt.append HH.out.byt) hown2)
  have K2 := Lib.hid hk2
  clear hown2 hk2 hc2 hm2
  go_wp2_with fail
  refine (RD.out _ _ _ _ _ R2.out (by simp)).mono ?_
  rintro e w3 ⟨A3, c3, rfl, hr3, hk3⟩
  have R3 := Lib.hid hr3
  have K3 := Lib.hid ((K1.out.trans K2.out).trans hk3)
  clear hr3 hk3
  go_wp2_with fail
  refine (same_yes _ _ _ _ _ _ xs xs _ w3.heap.size w.heap.size R3.out (HH.out.only K3.out (by simp) (Nat.le_refl _)) rfl HN.out rfl).mono ?_
  rintro e w' ⟨rfl, rfl⟩
  go_wp2_with fail
  go_ret
  exact ⟨rfl, K3.out.belowN⟩

theorem law_FnBackUint64 (v : Int) (A : Option Addr) (n c : Nat) (xs : List Int) (w : World) (h0 : 0 ≤ v) (h1 : v ≤ 18446744073709551615) (h : Rd w w.heap.size A xs) (hn : n = xs.length) (_hc : n ≤ c) (_hcm : c ≤ maxLen) :
    Calls Try.prog 8 #[.int .u64 v, .slice A n c] w fun e w' => e = .returned (.bool true) ∧ Below w.heap.size w w' := by
  by_cases hbig : 1048576 < n
  · have HF := Lib.hid (fun w => fits_no A n c w hbig)
    clear h hn h0 h1
    by_cases hz : 2147483647 < n
    · go_enter Try.func8, Try.ntmps8
      go_wp2_with fail
      go_ret
      exact ⟨rfl, Below.refl _ _⟩
    · go_enter Try.func8, Try.ntmps8
      go_wp2_with fail
      refine (HF.out _).mono ?_; rintro e w' ⟨rfl, rfl⟩
      go_wp2_with fail
      go_ret
      exact ⟨rfl, Below.refl _ _⟩
  have HF := Lib.hid (fun w => fits_yes A n c w (by omega))
  have hz : n ≤ 2147483647 := by omega
  have I := Lib.hid (ImAddUint64_any v w (by omega) (by omega))
  have hlen := bigB_len 8 v
  have hval : beN ((bigB v 8 ++ xs).take 8) = v := by
    rw [List.take_append_of_le_length (by rw [hlen]; exact Nat.le_refl _), List.take_of_length_le (by rw [hlen]; exact Nat.le_refl _), beN_bigB]
    rw [show (256 : Int) ^ 8 = 18446744073709551616 by decide]
    omega
  have hdrop : (bigB v 8 ++ xs).drop 8 = xs := by
    rw [List.drop_append_of_le_length (by rw [hlen]; exact Nat.le_refl _), List.drop_of_length_le (by rw [hlen]; exact Nat.le_refl _), List.nil_append]
  have RD := Lib.hid (fun A n c w B h hn => ImReadUint64_ok A n c (bigB v 8 ++ xs) w B h hn (by rw [List.length_append, hlen]; omega) (by rw [List.length_append, hlen]; omega))
  rw [hval, hdrop] at RD
  have HL := Lib.hid (And.intro hlen (show xs.length ≤ 1048576 by omega))
  have HH := Lib.hid h
  have HN := Lib.hid hn
  clear h hn hbig hlen hval hdrop
  clear h0 h1
  go_enter Try.func8, Try.ntmps8
  go_wp2_with fail
  refine (HF.out _).mono ?_; rintro e w' ⟨rfl, rfl⟩
  go_wp2_with fail
  refine I.out.mono ?_
  rintro e w1 ⟨A1, c1, ys, ok, rfl, hr1, hk1, _, _, rfl, rfl⟩
  have R1 := Lib.hid hr1
  have K1 := Lib.hid hk1
  clear hr1 hk1 I
  go_wp2_with fail
  refine (behind_any _ _ _ _ _ _ (bigB v 8) xs w1 w1.heap.size w.heap.size R1.out (HH.out.only K1.out (by simp) (Nat.le_refl _)) (Nat.le_refl _) K1.out.size rfl HN.out (by have := HL.out; omega)).mono ?_
  rintro e w2 ⟨A2, c2, rfl, hc2, hm2, hown2, hk2⟩
  have R2 := Lib.hid (Rd.of_own (R1.out.byt.append HH.out.byt) hown2)
  have K2 := Lib.hid hk2
  clear hown2 hk2 hc2 hm2
  go_wp2_with fail
  refine (RD.out _ _ _ _ _ R2.out (by simp)).mono ?_
  rintro e w3 ⟨A3, c3, rfl, hr3, hk3⟩
  have R3 := Lib.hid hr3
  have K3 := Lib.hid ((K1.out.trans K2.out).trans hk3)
  clear hr3 hk3
  go_wp2_with fail
  refine (same_yes _ _ _ _ _ _ xs xs _ w3.heap.size w.heap.size R3.out (HH.out.only K3.out (by simp) (Nat.le_refl _)) rfl HN.out rfl).mono ?_
  rintro e w' ⟨rfl, rfl⟩
  go_wp2_with fail
  go_ret
  exact ⟨rfl, K3.out.belowN⟩

end Go.Proofs.Ytmhinadofihkjaa
