/- The laws on elements that are added and read again: walks. -/
import Derived.Test.YtkmjeneligpiaaaBl8
import Derived.Test.YtkmjeneligpiaaaL1
import Derived.Test.YtkmjeneligpiaaaIm4
namespace Go.Proofs.Ytkmjeneligpiaaa
open Go.RowKit

theorem law_FnBackASN1 (tag other : Int) (A : Option Addr) (n c : Nat) (xs : List Int) (A' : Option Addr) (n' c' : Nat) (ts : List Int) (w : World) (h : Rd w w.heap.size A xs) (hn : n = xs.length) (h' : Rd w w.heap.size A' ts) (hn' : n' = ts.length) :
    Calls Try.prog 7 #[.int .i64 tag, .int .i64 other, .slice A n c, .slice A' n' c'] w fun e w' => e = .returned (.bool true) ∧ Below w.heap.size w w' := by
  by_cases hz1 : 2147483647 < n
  · clear h hn h' hn'
    go_enter Try.func7, Try.ntmps7
    go_wp2_with fail
    go_ret
    exact ⟨rfl, Below.refl _ _⟩
  by_cases hz2 : 2147483647 < n'
  · clear h hn h' hn'
    go_enter Try.func7, Try.ntmps7
    go_wp2_with fail
    go_ret
    exact ⟨rfl, Below.refl _ _⟩
  have hy1 : n ≤ 2147483647 := by omega
  have hy2 : n' ≤ 2147483647 := by omega
  clear hz1 hz2
  by_cases ht : 0 ≤ tag ∧ tag ≤ 255
  case neg =>
    have HT1 := Lib.hid (fun w => tagOk_no tag w (by omega))
    clear h hn h' hn' ht
    go_enter Try.func7, Try.ntmps7
    go_wp2_with fail
    refine (HT1.out _).mono ?_; rintro e w' ⟨rfl, rfl⟩
    go_wp2_with fail
    go_ret
    exact ⟨rfl, Below.refl _ _⟩
  have HT1 := Lib.hid (fun w => tagOk_yes tag w ht.1 ht.2)
  by_cases hu : 0 ≤ other ∧ other ≤ 255
  case neg =>
    have HT2 := Lib.hid (fun w => tagOk_no other w (by omega))
    clear h hn h' hn' ht hu
    go_enter Try.func7, Try.ntmps7
    go_wp2_with fail
    refine (HT1.out _).mono ?_; rintro e w' ⟨rfl, rfl⟩
    go_wp2_with fail
    refine (HT2.out _).mono ?_; rintro e w' ⟨rfl, rfl⟩
    go_wp2_with fail
    go_ret
    exact ⟨rfl, Below.refl _ _⟩
  have HT2 := Lib.hid (fun w => tagOk_yes other w hu.1 hu.2)
  by_cases h31 : tag % 32 = 31
  · have htm : (tag % 32 == 31) = true := by rw [h31]; rfl
    have ht0 : 0 ≤ tag := ht.1
    have ht1 : tag ≤ 255 := ht.2
    clear h hn h' hn' ht hu h31
    go_enter Try.func7, Try.ntmps7
    go_wp2_with fail
    refine (HT1.out _).mono ?_; rintro e w' ⟨rfl, rfl⟩
    go_wp2_with fail
    refine (HT2.out _).mono ?_; rintro e w' ⟨rfl, rfl⟩
    go_wp2_with fail
    go_ret
    exact ⟨rfl, Below.refl _ _⟩
  have htm : (tag % 32 == 31) = false := beq_eq_false_iff_ne.2 h31
  by_cases hb1 : 1048576 < n
  · have ht0 : 0 ≤ tag := ht.1
    have ht1 : tag ≤ 255 := ht.2
    clear h hn h' hn' ht hu h31
    go_enter Try.func7, Try.ntmps7
    go_wp2_with fail
    refine (HT1.out _).mono ?_; rintro e w' ⟨rfl, rfl⟩
    go_wp2_with fail
    refine (HT2.out _).mono ?_; rintro e w' ⟨rfl, rfl⟩
    go_wp2_with fail
    go_ret
    exact ⟨rfl, Below.refl _ _⟩
  by_cases hb2 : 1048576 < n'
  · have ht0 : 0 ≤ tag := ht.1
    have ht1 : tag ≤ 255 := ht.2
    have hb3 : n ≤ 1048576 := by omega
    clear h hn h' hn' ht hu h31 hb1
    go_enter Try.func7, Try.ntmps7
    go_wp2_with fail
    refine (HT1.out _).mono ?_; rintro e w' ⟨rfl, rfl⟩
    go_wp2_with fail
    refine (HT2.out _).mono ?_; rintro e w' ⟨rfl, rfl⟩
    go_wp2_with fail
    go_ret
    exact ⟨rfl, Below.refl _ _⟩
  have hb3 : n ≤ 1048576 := by omega
  have hb4 : n' ≤ 1048576 := by omega
  have I := Lib.hid (ImAddASN1_any tag A n c xs w _ ht h hn (Nat.le_refl _) (by omega))
  have hel : elem tag xs = some (wrapped tag xs) := by unfold elem; rw [if_neg h31]
  rw [hel] at I
  have hwl : (wrapped tag xs).length ≤ 1048582 := by
    have := elem_len hel
    omega
  have hfo := fun t => firstOf_wrapped (t := tag) (tag := t) (c := xs) (r := ts) h31 (by omega)
  have RD := Lib.hid (fun t (ht : 0 ≤ t ∧ t ≤ 255) A n c w B h hn => ImReadASN1_of A n c (wrapped tag xs ++ ts) w B h hn (by rw [List.length_append]; omega) t ht)
  obtain ⟨zs, hzs⟩ : ∃ zs, wrapped tag xs ++ ts = zs := ⟨_, rfl⟩
  rw [hzs] at RD
  have R1 := Lib.hid (RD.out tag ht)
  have R2 := Lib.hid (RD.out other hu)
  have hf1 := hfo tag
  have hf2 := hfo other
  rw [hzs, if_pos rfl] at hf1
  rw [hzs] at hf2
  rw [hf1] at R1
  rw [hf2] at R2
  have HZ := Lib.hid (And.intro hzs hwl)
  have HN := Lib.hid (And.intro hn hn')
  have H1 := Lib.hid h
  have H2 := Lib.hid h'
  have ht0 : 0 ≤ tag := ht.1
  have ht1 : tag ≤ 255 := ht.2
  clear h hn h' hn' ht hu h31 hb1 hb2 hel hwl hfo RD hzs hf1 hf2
  by_cases heq : tag = other
  all_goals
    first | (rw [if_pos heq] at R2; have hbe : (tag == other) = true := beq_iff_eq.2 heq) | (rw [if_neg heq] at R2; have hbe : (tag == other) = false := beq_eq_false_iff_ne.2 heq)
    clear heq
    go_enter Try.func7, Try.ntmps7
    go_wp2_with fail
    refine (HT1.out _).mono ?_; rintro e w' ⟨rfl, rfl⟩
    go_wp2_with fail
    refine (HT2.out _).mono ?_; rintro e w' ⟨rfl, rfl⟩
    go_wp2_with fail
    refine I.out.mono ?_
    rintro e w1 ⟨A1, c1, ys, ok, rfl, hr1, hk1, _, _, rfl, rfl⟩
    have Q1 := Lib.hid hr1
    have K1 := Lib.hid hk1
    clear hr1 hk1
    have BH := Lib.hid (fun w2 (hk : Only [] w1 w2) => behind_any A1 A' _ n' c1 c' (wrapped tag xs) ts w2 w1.heap.size w.heap.size (Q1.out.only hk (by simp) (Nat.le_refl _)) (H2.out.only (K1.out.trans hk) (by simp) (Nat.le_refl _)) hk.size (K1.out.trans hk).size rfl HN.out.2 (by have := HZ.out.2; have := HN.out.2; omega))
    rw [HZ.out.1] at BH
    go_wp2_with fail
    refine (BH.out _ (Only.refl _ _)).mono ?_
    rintro e w2 ⟨A2, c2, rfl, hc2, hm2, hown2, hk2⟩
    have Q2 := Lib.hid (Rd.of_own (by rw [← HZ.out.1]; exact Q1.out.byt.append H2.out.byt) hown2)
    have K2 := Lib.hid hk2
    clear hc2 hm2 hown2 hk2
    go_wp2_with fail
    refine (R1.out _ _ _ _ _ Q2.out rfl).mono ?_
    rintro e w3 ⟨ok, g1, g2, A3, c3, A4, c4, rfl, hr3, hr4, hk3, _, _, hg⟩
    obtain ⟨rfl, rfl, rfl⟩ : ok = true ∧ g1 = xs ∧ g2 = ts := hg
    have Q3 := Lib.hid hr3
    have Q4 := Lib.hid hr4
    have K3 := Lib.hid (K2.out.trans hk3)
    clear hr3 hr4 hk3
    go_wp2_with fail
    refine (BH.out _ K3.out).mono ?_
    rintro e w4 ⟨A5, c5, rfl, hc5, hm5, hown5, hk5⟩
    have Q5 := Lib.hid (Rd.of_own (by rw [← HZ.out.1]; exact Q1.out.byt.append H2.out.byt) hown5)
    have K5 := Lib.hid hk5
    clear hc5 hm5 hown5 hk5
    go_wp2_with fail
    refine (R2.out _ _ _ _ _ Q5.out rfl).mono ?_
    rintro e w5 ⟨ok2, g3, g4, A6, c6, A7, c7, rfl, _, _, hk6, _, _, hg2⟩
    have K6 := Lib.hid (K5.out.trans hk6)
    have KA := Lib.hid ((K1.out.trans K3.out).trans K6.out)
    clear hk6
    have hok2 : ok2 = (tag == other) := by
      rw [hbe]
      first | exact hg2.1 | exact hg2
    clear hg2 hbe
    subst hok2
    go_wp2_with fail
    refine (same_yes _ _ _ _ _ _ g1 g1 _ w3.heap.size w.heap.size (Q3.out.only K6.out (by simp) (Nat.le_refl _)) (H1.out.only KA.out (by simp) (Nat.le_refl _)) rfl HN.out.1 rfl).mono ?_
    rintro e w' ⟨rfl, rfl⟩
    go_wp2_with fail
    refine (same_yes _ _ _ _ _ _ g2 g2 _ w3.heap.size w.heap.size (Q4.out.only K6.out (by simp) (Nat.le_refl _)) (H2.out.only KA.out (by simp) (Nat.le_refl _)) rfl HN.out.2 rfl).mono ?_
    rintro e w' ⟨rfl, rfl⟩
    go_wp2_with fail
    go_ret
    exact ⟨by simp, KA.out.belowN⟩

theorem law_FnBackOctets (A : Option Addr) (n c : Nat) (xs : List Int) (A' : Option Addr) (n' c' : Nat) (ts : List Int) (w : World) (h : Rd w w.heap.size A xs) (hn : n = xs.length) (h' : Rd w w.heap.size A' ts) (hn' : n' = ts.length) :
    Calls Try.prog 8 #[.slice A n c, .slice A' n' c'] w fun e w' => e = .returned (.bool true) ∧ Below w.heap.size w w' := by
  by_cases hz1 : 2147483647 < n
  · clear h hn h' hn'
    go_enter Try.func8, Try.ntmps8
    go_wp2_with fail
    go_ret
    exact ⟨rfl, Below.refl _ _⟩
  by_cases hz2 : 2147483647 < n'
  · clear h hn h' hn'
    go_enter Try.func8, Try.ntmps8
    go_wp2_with fail
    go_ret
    exact ⟨rfl, Below.refl _ _⟩
  have hy1 : n ≤ 2147483647 := by omega
  have hy2 : n' ≤ 2147483647 := by omega
  clear hz1 hz2
  by_cases hb1 : 1048576 < n
  · clear h hn h' hn'
    go_enter Try.func8, Try.ntmps8
    go_wp2_with fail
    go_ret
    exact ⟨rfl, Below.refl _ _⟩
  by_cases hb2 : 1048576 < n'
  · have hb3 : n ≤ 1048576 := by omega
    clear h hn h' hn' hb1
    go_enter Try.func8, Try.ntmps8
    go_wp2_with fail
    go_ret
    exact ⟨rfl, Below.refl _ _⟩
  have hb3 : n ≤ 1048576 := by omega
  have hb4 : n' ≤ 1048576 := by omega
  have I := Lib.hid (ImAddOctets_any A n c xs w _ h hn (Nat.le_refl _) (by omega))
  have hwl : (wrapped 4 xs).length ≤ 1048582 := by
    have := elem_len (tag := 4) (xs := xs) (zs := wrapped 4 xs) rfl
    omega
  have hf1 := firstOf_wrapped (t := 4) (tag := 4) (c := xs) (r := ts) (by decide) (by omega)
  have RD := Lib.hid (fun A n c w B h hn => ImReadASN1Bytes_of A n c (wrapped 4 xs ++ ts) w B h hn (by rw [List.length_append]; omega) 4 (by decide))
  obtain ⟨zs, hzs⟩ : ∃ zs, wrapped 4 xs ++ ts = zs := ⟨_, rfl⟩
  rw [hzs] at RD hf1
  rw [if_pos rfl] at hf1
  rw [hf1] at RD
  have HZ := Lib.hid (And.intro hzs hwl)
  have HN := Lib.hid (And.intro hn hn')
  have H1 := Lib.hid h
  have H2 := Lib.hid h'
  clear h hn h' hn' hb1 hb2 hwl hzs hf1
  go_enter Try.func8, Try.ntmps8
  go_wp2_with fail
  refine I.out.mono ?_
  rintro e w1 ⟨A1, c1, ys, ok, rfl, hr1, hk1, _, _, rfl, rfl⟩
  have Q1 := Lib.hid hr1
  have K1 := Lib.hid hk1
  clear hr1 hk1
  have BH := Lib.hid (behind_any A1 A' _ n' c1 c' (wrapped 4 xs) ts w1 w1.heap.size w.heap.size Q1.out (H2.out.only K1.out (by simp) (Nat.le_refl _)) (Nat.le_refl _) K1.out.size rfl HN.out.2 (by have := HZ.out.2; have := HN.out.2; omega))
  rw [HZ.out.1] at BH
  go_wp2_with fail
  refine BH.out.mono ?_
  rintro e w2 ⟨A2, c2, rfl, hc2, hm2, hown2, hk2⟩
  have Q2 := Lib.hid (Rd.of_own (by rw [← HZ.out.1]; exact Q1.out.byt.append H2.out.byt) hown2)
  have K2 := Lib.hid hk2
  clear hc2 hm2 hown2 hk2
  go_wp2_with fail
  refine (RD.out _ _ _ _ _ Q2.out rfl).mono ?_
  rintro e w3 ⟨ok, g1, g2, A3, c3, A4, c4, rfl, hr3, hr4, hk3, _, _, hg⟩
  obtain ⟨rfl, rfl, rfl⟩ : ok = true ∧ g1 = xs ∧ g2 = ts := hg
  have Q3 := Lib.hid hr3
  have Q4 := Lib.hid hr4
  have KA := Lib.hid ((K1.out.trans K2.out).trans hk3)
  clear hr3 hr4 hk3
  go_wp2_with fail
  refine (same_yes _ _ _ _ _ _ g1 g1 _ w3.heap.size w.heap.size Q3.out (H1.out.only KA.out (by simp) (Nat.le_refl _)) rfl HN.out.1 rfl).mono ?_
  rintro e w' ⟨rfl, rfl⟩
  go_wp2_with fail
  refine (same_yes _ _ _ _ _ _ g2 g2 _ w3.heap.size w.heap.size Q4.out (H2.out.only KA.out (by simp) (Nat.le_refl _)) rfl HN.out.2 rfl).mono ?_
  rintro e w' ⟨rfl, rfl⟩
  go_wp2_with fail
  go_ret
  exact ⟨rfl, KA.out.belowN⟩

theorem first_highTag {tag : Int} {xs : List Int} (h : tag % 32 = 31) : first (tag :: xs) = none := by
  unfold first
  rw [show (tag :: xs).getD 0 0 = tag from rfl, if_pos (.inr h)]
theorem law_FnHighTag (cl : Int) (A : Option Addr) (n c : Nat) (xs : List Int) (w : World) (h : Rd w w.heap.size A xs) (hn : n = xs.length) :
    Calls Try.prog 9 #[.int .i64 cl, .slice A n c] w fun e w' => e = .returned (.bool true) ∧ Below w.heap.size w w' := by
  by_cases hz1 : 2147483647 < n
  · clear h hn
    go_enter Try.func9, Try.ntmps9
    go_wp2_with fail
    go_ret
    exact ⟨rfl, Below.refl _ _⟩
  have hy1 : n ≤ 2147483647 := by omega
  clear hz1
  by_cases hc0 : cl < 0
  · clear h hn
    go_enter Try.func9, Try.ntmps9
    go_wp2_with fail
    go_ret
    exact ⟨rfl, Below.refl _ _⟩
  by_cases hc1 : 7 < cl
  · clear h hn
    go_enter Try.func9, Try.ntmps9
    go_wp2_with fail
    go_ret
    exact ⟨rfl, Below.refl _ _⟩
  by_cases hbig : 1048576 < n
  · have HF := Lib.hid (fun w => fits_no A n c w hbig)
    clear h hn hbig
    go_enter Try.func9, Try.ntmps9
    go_wp2_with fail
    refine (HF.out _).mono ?_; rintro e w' ⟨rfl, rfl⟩
    go_wp2_with fail
    go_ret
    exact ⟨rfl, Below.refl _ _⟩
  have HF := Lib.hid (fun w => fits_yes A n c w (by omega))
  have hcl0 : 0 ≤ cl := by omega
  have hcl7 : cl ≤ 7 := by omega
  obtain ⟨tag, htag⟩ : ∃ tag : Int, 32 * cl + 31 = tag := ⟨_, rfl⟩
  have ht31 : tag % 32 = 31 := by omega
  have htr : 0 ≤ tag ∧ tag ≤ 255 := by omega
  have hwt : IntKind.u8.wrap (32 * cl + 31) = tag := by rw [htag]; simp [IntKind.wrap, IntKind.bits, IntKind.signed]; omega
  have hs1 : IntKind.i64.wrap (32 * cl + 31) = tag := by rw [htag]; exact IntWalk.i64_in _ (by omega)
  have hf1 : first (tag :: xs) = none := first_highTag ht31
  have hf2 : firstOf (tag :: xs) tag = none := firstOf_high ht31
  have RA := Lib.hid (fun A n c w B h hn => ImReadAny_no A n c (tag :: xs) w B h hn (by simp; omega) hf1)
  have RD := Lib.hid (fun A n c w B h hn => ImReadASN1_of A n c (tag :: xs) w B h hn (by simp; omega) tag htr)
  rw [hf2] at RD
  have I := Lib.hid (fun w B h hB => ImAddASN1_any tag A n c xs w B htr h hn hB (by omega))
  have hel : elem tag xs = none := by unfold elem; rw [if_pos ht31]
  rw [hel] at I
  have WR := Lib.hid (fun w B h hB => wrapped_any (tag - 1) A n c xs w B h hn hB (by omega) (by omega))
  have hwl : (wrapped (tag - 1) xs).length ≤ 1048582 := by
    unfold wrapped
    have := hdr_len_le (tag - 1) xs.length
    rw [List.length_append]
    omega
  have hfw : ∃ hd e, first (wrapped (tag - 1) xs) = some (tag - 1, hd, e) := ⟨_, _, first_hdr (by omega) (by omega) (Nat.le_refl _)⟩
  obtain ⟨hd, e, hfw⟩ := hfw
  have RW := Lib.hid (fun A n c w B h hn => ImReadAny_ok A n c (wrapped (tag - 1) xs) w B h hn (by omega) (tag - 1) hd e hfw)
  have hone : Byt [tag] := by
    intro y hy
    simp only [List.mem_singleton] at hy
    omega
  have HOne := Lib.hid hone
  have HN := Lib.hid hn
  have HH := Lib.hid h
  have HL := Lib.hid hwl
  have hsub : IntKind.i64.wrap (tag - 1) = tag - 1 := IntWalk.i64_in _ (by omega)
  have HTG := Lib.hid htag
  obtain ⟨ht0, ht1⟩ := htr
  clear h hn hbig hc0 hc1 hf1 hf2 hel hwl hfw hone ht31
  go_enter Try.func9, Try.ntmps9
  go_wp2_with fail
  refine (HF.out _).mono ?_; rintro e w' ⟨rfl, rfl⟩
  go_wp2_with fail
  have RL := Lib.hid ((Row.lit w w.heap.size [tag] (Nat.le_refl _) HOne.out (by unfold maxLen; simp)).rd rfl)
  refine (behind_any (some ⟨w.heap.size, 0, none⟩) A 1 n 1 c [tag] xs _ _ w.heap.size RL.out (HH.out.alloc (Nat.le_refl _) _) (Nat.le_refl _) (by simp) rfl HN.out (by have := HN.out; simp; omega)).mono ?_
  rintro e w1 ⟨A1, c1, rfl, hc1, hm1, hown1, hk1⟩
  have Q1 := Lib.hid (Rd.of_own (xs := tag :: xs) (HOne.out.append HH.out.byt) hown1)
  have K1 : Hid (Only [] w w1) := Lib.hid (((Only.refl _ _).alloc _).trans hk1)
  clear hc1 hm1 hown1 hk1
  go_wp2_with fail
  refine (RA.out _ _ _ _ _ Q1.out (by simp <;> omega)).mono ?_
  rintro e w2 ⟨t2, A2, c2, A3, c3, rfl, _, _, hk2⟩
  have K2 := Lib.hid hk2
  have K12 := Lib.hid (K1.out.trans hk2)
  clear hk2
  go_wp2_with fail
  refine (RD.out _ _ _ _ _ (Q1.out.only K2.out (by simp) (Nat.le_refl _)) (by simp <;> omega)).mono ?_
  rintro e w3 ⟨ok, g1, g2, A4, c4, A5, c5, rfl, _, _, hk3, _, _, hg⟩
  have hg : ok = false := hg
  subst hg
  have K3 := Lib.hid (K12.out.trans hk3)
  clear hk3
  go_wp2_with fail
  refine (I.out _ _ (HH.out.only K3.out (by simp) (Nat.le_refl _)) K3.out.size).mono ?_
  rintro e w4 ⟨A6, c6, ys, ok, rfl, _, hk4, _, _, rfl⟩
  have K4 := Lib.hid (K3.out.trans hk4)
  clear hk4
  go_wp2_with fail
  refine (WR.out _ _ (HH.out.only K4.out (by simp) (Nat.le_refl _)) K4.out.size).mono ?_
  rintro e w5 ⟨A7, c7, rfl, hc7, hm7, hown7, hk5⟩
  have Q7 := Lib.hid (Rd.of_own (w := w5) (xs := wrapped (tag - 1) xs) (by
    intro y hy
    unfold wrapped at hy
    rcases List.mem_append.1 hy with h | h
    · exact hdr_byt (by omega) y h
    · exact HH.out.byt y h) hown7)
  have K5 := Lib.hid (K4.out.trans hk5)
  clear hc7 hm7 hown7 hk5
  go_wp2_with fail
  refine (RW.out _ _ _ _ _ Q7.out rfl).mono ?_
  rintro e w6 ⟨A8, c8, A9, c9, rfl, _, _, hk6⟩
  have K6 := Lib.hid (K5.out.trans hk6)
  clear hk6
  go_wp2_with fail
  go_ret
  exact ⟨rfl, K6.out.belowN⟩

end Go.Proofs.Ytkmjeneligpiaaa
