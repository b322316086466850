/- The law on lengths that are not told as shortly as can be: walk. -/
import Derived.Test.YtdocgembogocjaaSpB
import Derived.Test.YtdocgembogocjaaL1
import Derived.Test.YtdocgembogocjaaTag
import Derived.Test.YtdocgembogocjaaIm4
import Derived.BigFrame
namespace Go.Proofs.Ytdocgembogocjaa
open Go.RowKit

theorem notShortest_1 (tag : Int) (A : Option Addr) (n c : Nat) (xs : List Int) (w : World) (h : Rd w w.heap.size A xs) (hn : n = xs.length) (hy1 : n ≤ 2147483647) (hn2 : n ≤ 1048576) (ht : 0 ≤ tag ∧ tag ≤ 255)
    (HF : Hid (∀ w, Calls Try.prog 11 #[.slice A n c] w fun e w' => e = .returned (.bool true) ∧ w = w')) (HT : Hid (∀ w, Calls Try.prog 26 #[.int .i64 tag] w fun e w' => e = .returned (.bool true) ∧ w = w')) :
    Calls Try.prog 9 #[.int .i64 tag, .slice A n c, .int .i64 1] w fun e w' => e = .returned (.bool true) ∧ Below w.heap.size w w' := by
  by_cases hK : n < 128
  case neg =>
    have hk1 : (128 : Int) ≤ (n : Int) := by omega
    clear h hn hK ht
    go_enter Try.func9, Try.ntmps9
    go_wp2_with fail
    refine (HF.out _).mono ?_; rintro e w' ⟨rfl, rfl⟩
    go_wp2_with fail
    refine (HT.out _).mono ?_; rintro e w' ⟨rfl, rfl⟩
    go_wp2_with fail
    go_ret
    exact ⟨rfl, Below.refl _ _⟩
  have hk1 : ¬ (128 : Int) ≤ (n : Int) := by omega
  have hd : decide ((128 : Int) ≤ (n : Int)) = false := decide_eq_false hk1
  have hfn : first ([tag, 129] ++ bigB n 1 ++ xs) = none := first_longer (t := tag) (n := n) (m := 1) (c := xs) (by decide) (by decide) hn (by simp; omega)
  have hfo : firstOf ([tag, 129] ++ bigB n 1 ++ xs) tag = none := by unfold firstOf; rw [hfn]
  have hl2 : ([tag, 129] ++ bigB n 1).length = 1 + 2 := by rw [List.length_append, bigB_len]; rfl
  have hb2 : Byt ([tag, 129] ++ bigB n 1) := by
    refine Byt.append ?_ (bigB_byt _ _)
    intro y hy
    simp only [List.mem_cons, List.not_mem_nil, or_false] at hy
    omega
  have hb1 : Byt [tag, 129] := fun y hy => hb2 y (List.mem_append_left _ hy)
  have BG := Lib.hid (fun w => big_any n 1 w (by omega) (by omega) (by decide))
  have hwt : IntKind.u64.wrap (n : Int) = n := by simp [IntKind.wrap, IntKind.bits, IntKind.signed]; omega
  have hw8 : IntKind.u8.wrap tag = tag := by simp [IntKind.wrap, IntKind.bits, IntKind.signed]; omega
  have RA := Lib.hid (fun A' n' c w B h hn' => ImReadAny_no A' n' c ([tag, 129] ++ bigB n 1 ++ xs) w B h hn' (by rw [List.length_append, hl2]; omega) hfn)
  have RD := Lib.hid (fun A' n' c w B h hn' => ImReadASN1_of A' n' c ([tag, 129] ++ bigB n 1 ++ xs) w B h hn' (by rw [List.length_append, hl2]; omega) tag ht)
  rw [hfo] at RD
  have WR := Lib.hid (fun w B h hB => wrapped_any tag A n c xs w B h hn hB ht (by omega))
  have hwl : (wrapped tag xs).length ≤ 1048582 := by
    unfold wrapped
    have := hdr_len_le tag xs.length
    rw [List.length_append]
    omega
  have hwb : Byt (wrapped tag xs) := Byt.append (hdr_byt ht) h.byt
  have hfw : firstOf (wrapped tag xs) tag = if tag % 32 = 31 then none else some (xs, []) := by
    by_cases h31 : tag % 32 = 31
    · rw [if_pos h31]
      exact firstOf_high h31
    · rw [if_neg h31]
      have := firstOf_wrapped (t := tag) (tag := tag) (c := xs) (r := []) h31 (by omega)
      rwa [List.append_nil, if_pos rfl] at this
  have RW := Lib.hid (fun A' n' c w B h hn' => ImReadASN1_of A' n' c (wrapped tag xs) w B h hn' (by omega) tag ht)
  have HX := Lib.hid (And.intro hl2 (And.intro hb2 (And.intro hb1 (And.intro hwb (And.intro hn hn2)))))
  have HH := Lib.hid h
  have RL := Lib.hid (Row.lit w w.heap.size [tag, 129] (Nat.le_refl _) hb1 (by unfold maxLen; simp))
  obtain ⟨zs, hzs⟩ : ∃ zs, [tag, 129] ++ bigB n 1 ++ xs = zs := ⟨_, rfl⟩
  rw [hzs] at RA RD
  have HZ := Lib.hid hzs
  by_cases h31 : tag % 32 = 31
  all_goals
    first | (rw [if_pos h31] at hfw; have htm : (tag % 32 == 31) = true := beq_iff_eq.2 h31; have htn : (tag % 32 != 31) = false := by rw [bne, htm]; rfl) | (rw [if_neg h31] at hfw; have htm : (tag % 32 == 31) = false := beq_eq_false_iff_ne.2 h31; have htn : (tag % 32 != 31) = true := by rw [bne, htm]; rfl)
    rw [hfw] at RW
    obtain ⟨ht0, ht1⟩ := ht
    clear h hn hK hk1 hfn hfo hl2 hb2 hb1 hwl hwb hfw hzs h31
    go_enter Try.func9, Try.ntmps9
    go_wp2_with fail
    refine (HF.out _).mono ?_; rintro e w' ⟨rfl, rfl⟩
    go_wp2_with fail
    refine (HT.out _).mono ?_; rintro e w' ⟨rfl, rfl⟩
    go_wp2_with fail
    refine (BG.out _).mono ?_
    rintro e w1 ⟨A1, c1, rfl, hc1, hm1, hown1, hk1⟩
    have Q1 := Lib.hid (Rd.of_own (w := w1) (bigB_byt _ _) hown1)
    have K0 := Lib.hid hk1
    have K1 : Hid (Only [] w w1) := Lib.hid (((Only.refl _ _).alloc _).trans hk1)
    have RL1 := Lib.hid (Row.only (l := []) RL.out hk1 (by simp))
    clear hc1 hm1 hown1 hk1
    go_wp2_with (at_builtin; refine wpList_row rfl (.tmp 62) (.tmp 67) rfl rfl w.heap.size w1.heap.size _ [tag, 129] (bigB n 1) A1 _ c1 rfl rfl RL1.out Q1.out rfl ?x1 ?x2 ?_)
    case x1 => exact K1.out.size
    case x2 => rw [bigB_len]; simp
    intro v2 w2 hr2 hk2 _
    obtain ⟨A2, c2, rfl, _, _, _⟩ := hr2.form
    have Q2 := Lib.hid (hr2.rd rfl)
    have K2 : Hid (Only [] w w2) := Lib.hid (K1.out.then hk2 (fun i hi hlt => by have := RL1.out.low i hi; omega))
    clear hr2 hk2
    go_wp2_with fail
    refine (behind_any A2 A _ n c2 c ([tag, 129] ++ bigB n 1) xs w2 w2.heap.size w.heap.size Q2.out (HH.out.only K2.out (by simp) (Nat.le_refl _)) (Nat.le_refl _) K2.out.size (by simp) HX.out.2.2.2.2.1 (by have := HX.out; omega)).mono ?_
    rw [HZ.out]
    rintro e w3 ⟨A3, c3, rfl, hc3, hm3, hown3, hk3⟩
    have Q3 := Lib.hid (Rd.of_own (xs := zs) (by rw [← HZ.out]; exact HX.out.2.1.append HH.out.byt) hown3)
    have K3 := Lib.hid (K2.out.trans hk3)
    clear hc3 hm3 hown3 hk3
    go_wp2_with fail
    refine (RA.out _ _ _ _ _ Q3.out rfl).mono ?_
    rintro e w4 ⟨t4, A4, c4, A5, c5, rfl, _, _, hk4⟩
    have KK4 := Lib.hid hk4
    have K4 := Lib.hid (K3.out.trans hk4)
    clear hk4
    go_wp2_with fail
    refine (RD.out _ _ _ _ _ (Q3.out.only KK4.out (by simp) (Nat.le_refl _)) rfl).mono ?_
    rintro e w5 ⟨ok, g1, g2, A6, c6, A7, c7, rfl, _, _, hk5, _, _, hg⟩
    have hg : ok = false := hg
    subst hg
    have K5 := Lib.hid (K4.out.trans hk5)
    clear hk5
    go_wp2_with fail
    refine (WR.out _ _ (HH.out.only K5.out (by simp) (Nat.le_refl _)) K5.out.size).mono ?_
    rintro e w6 ⟨A8, c8, rfl, hc8, hm8, hown8, hk8⟩
    have Q8 := Lib.hid (Rd.of_own (w := w6) (xs := wrapped tag xs) HX.out.2.2.2.1 hown8)
    have K8 := Lib.hid (K5.out.trans hk8)
    clear hc8 hm8 hown8 hk8
    go_wp2_with fail
    refine (RW.out _ _ _ _ _ Q8.out rfl).mono ?_
    rintro e w7 ⟨ok, g3, g4, A9, c9, A10, c10, rfl, hr9, _, hk9, _, _, hg⟩
    have Q9 := Lib.hid hr9
    have K9 := Lib.hid (K8.out.trans hk9)
    clear hr9 hk9
    first
      | (obtain ⟨rfl, rfl, rfl⟩ : ok = true ∧ g3 = xs ∧ g4 = [] := hg
         go_wp2_with fail
         refine (same_yes _ _ _ _ _ _ g3 g3 _ w7.heap.size w.heap.size Q9.out (HH.out.only K9.out (by simp) (Nat.le_refl _)) rfl HX.out.2.2.2.2.1 rfl).mono ?_
         rintro e w' ⟨rfl, rfl⟩
         go_wp2_with fail
         go_ret
         exact ⟨rfl, K9.out.belowN⟩)
      | (have hg : ok = false := hg
         subst hg
         go_wp2_with fail
         go_ret
         exact ⟨rfl, K9.out.belowN⟩)

theorem notShortest_2 (tag : Int) (A : Option Addr) (n c : Nat) (xs : List Int) (w : World) (h : Rd w w.heap.size A xs) (hn : n = xs.length) (hy1 : n ≤ 2147483647) (hn2 : n ≤ 1048576) (ht : 0 ≤ tag ∧ tag ≤ 255)
    (HF : Hid (∀ w, Calls Try.prog 11 #[.slice A n c] w fun e w' => e = .returned (.bool true) ∧ w = w')) (HT : Hid (∀ w, Calls Try.prog 26 #[.int .i64 tag] w fun e w' => e = .returned (.bool true) ∧ w = w')) :
    Calls Try.prog 9 #[.int .i64 tag, .slice A n c, .int .i64 2] w fun e w' => e = .returned (.bool true) ∧ Below w.heap.size w w' := by
  by_cases hK : n < 256
  case neg =>
    have hk1 : (256 : Int) ≤ (n : Int) := by omega
    clear h hn hK ht
    go_enter Try.func9, Try.ntmps9
    go_wp2_with fail
    refine (HF.out _).mono ?_; rintro e w' ⟨rfl, rfl⟩
    go_wp2_with fail
    refine (HT.out _).mono ?_; rintro e w' ⟨rfl, rfl⟩
    go_wp2_with fail
    go_ret
    exact ⟨rfl, Below.refl _ _⟩
  have hk1 : ¬ (256 : Int) ≤ (n : Int) := by omega
  have hd : decide ((256 : Int) ≤ (n : Int)) = false := decide_eq_false hk1
  have hfn : first ([tag, 130] ++ bigB n 2 ++ xs) = none := first_longer (t := tag) (n := n) (m := 2) (c := xs) (by decide) (by decide) hn (by simp; omega)
  have hfo : firstOf ([tag, 130] ++ bigB n 2 ++ xs) tag = none := by unfold firstOf; rw [hfn]
  have hl2 : ([tag, 130] ++ bigB n 2).length = 2 + 2 := by rw [List.length_append, bigB_len]; rfl
  have hb2 : Byt ([tag, 130] ++ bigB n 2) := by
    refine Byt.append ?_ (bigB_byt _ _)
    intro y hy
    simp only [List.mem_cons, List.not_mem_nil, or_false] at hy
    omega
  have hb1 : Byt [tag, 130] := fun y hy => hb2 y (List.mem_append_left _ hy)
  have BG := Lib.hid (fun w => big_any n 2 w (by omega) (by omega) (by decide))
  have hwt : IntKind.u64.wrap (n : Int) = n := by simp [IntKind.wrap, IntKind.bits, IntKind.signed]; omega
  have hw8 : IntKind.u8.wrap tag = tag := by simp [IntKind.wrap, IntKind.bits, IntKind.signed]; omega
  have RA := Lib.hid (fun A' n' c w B h hn' => ImReadAny_no A' n' c ([tag, 130] ++ bigB n 2 ++ xs) w B h hn' (by rw [List.length_append, hl2]; omega) hfn)
  have RD := Lib.hid (fun A' n' c w B h hn' => ImReadASN1_of A' n' c ([tag, 130] ++ bigB n 2 ++ xs) w B h hn' (by rw [List.length_append, hl2]; omega) tag ht)
  rw [hfo] at RD
  have WR := Lib.hid (fun w B h hB => wrapped_any tag A n c xs w B h hn hB ht (by omega))
  have hwl : (wrapped tag xs).length ≤ 1048582 := by
    unfold wrapped
    have := hdr_len_le tag xs.length
    rw [List.length_append]
    omega
  have hwb : Byt (wrapped tag xs) := Byt.append (hdr_byt ht) h.byt
  have hfw : firstOf (wrapped tag xs) tag = if tag % 32 = 31 then none else some (xs, []) := by
    by_cases h31 : tag % 32 = 31
    · rw [if_pos h31]
      exact firstOf_high h31
    · rw [if_neg h31]
      have := firstOf_wrapped (t := tag) (tag := tag) (c := xs) (r := []) h31 (by omega)
      rwa [List.append_nil, if_pos rfl] at this
  have RW := Lib.hid (fun A' n' c w B h hn' => ImReadASN1_of A' n' c (wrapped tag xs) w B h hn' (by omega) tag ht)
  have HX := Lib.hid (And.intro hl2 (And.intro hb2 (And.intro hb1 (And.intro hwb (And.intro hn hn2)))))
  have HH := Lib.hid h
  have RL := Lib.hid (Row.lit w w.heap.size [tag, 130] (Nat.le_refl _) hb1 (by unfold maxLen; simp))
  obtain ⟨zs, hzs⟩ : ∃ zs, [tag, 130] ++ bigB n 2 ++ xs = zs := ⟨_, rfl⟩
  rw [hzs] at RA RD
  have HZ := Lib.hid hzs
  by_cases h31 : tag % 32 = 31
  all_goals
    first | (rw [if_pos h31] at hfw; have htm : (tag % 32 == 31) = true := beq_iff_eq.2 h31; have htn : (tag % 32 != 31) = false := by rw [bne, htm]; rfl) | (rw [if_neg h31] at hfw; have htm : (tag % 32 == 31) = false := beq_eq_false_iff_ne.2 h31; have htn : (tag % 32 != 31) = true := by rw [bne, htm]; rfl)
    rw [hfw] at RW
    obtain ⟨ht0, ht1⟩ := ht
    clear h hn hK hk1 hfn hfo hl2 hb2 hb1 hwl hwb hfw hzs h31
    go_enter Try.func9, Try.ntmps9
    go_wp2_with fail
    refine (HF.out _).mono ?_; rintro e w' ⟨rfl, rfl⟩
    go_wp2_with fail
    refine (HT.out _).mono ?_; rintro e w' ⟨rfl, rfl⟩
    go_wp2_with fail
    refine (BG.out _).mono ?_
    rintro e w1 ⟨A1, c1, rfl, hc1, hm1, hown1, hk1⟩
    have Q1 := Lib.hid (Rd.of_own (w := w1) (bigB_byt _ _) hown1)
    have K0 := Lib.hid hk1
    have K1 : Hid (Only [] w w1) := Lib.hid (((Only.refl _ _).alloc _).trans hk1)
    have RL1 := Lib.hid (Row.only (l := []) RL.out hk1 (by simp))
    clear hc1 hm1 hown1 hk1
    go_wp2_with (at_builtin; refine wpList_row rfl (.tmp 62) (.tmp 67) rfl rfl w.heap.size w1.heap.size _ [tag, 130] (bigB n 2) A1 _ c1 rfl rfl RL1.out Q1.out rfl ?x1 ?x2 ?_)
    case x1 => exact K1.out.size
    case x2 => rw [bigB_len]; simp
    intro v2 w2 hr2 hk2 _
    obtain ⟨A2, c2, rfl, _, _, _⟩ := hr2.form
    have Q2 := Lib.hid (hr2.rd rfl)
    have K2 : Hid (Only [] w w2) := Lib.hid (K1.out.then hk2 (fun i hi hlt => by have := RL1.out.low i hi; omega))
    clear hr2 hk2
    go_wp2_with fail
    refine (behind_any A2 A _ n c2 c ([tag, 130] ++ bigB n 2) xs w2 w2.heap.size w.heap.size Q2.out (HH.out.only K2.out (by simp) (Nat.le_refl _)) (Nat.le_refl _) K2.out.size (by simp) HX.out.2.2.2.2.1 (by have := HX.out; omega)).mono ?_
    rw [HZ.out]
    rintro e w3 ⟨A3, c3, rfl, hc3, hm3, hown3, hk3⟩
    have Q3 := Lib.hid (Rd.of_own (xs := zs) (by rw [← HZ.out]; exact HX.out.2.1.append HH.out.byt) hown3)
    have K3 := Lib.hid (K2.out.trans hk3)
    clear hc3 hm3 hown3 hk3
    go_wp2_with fail
    refine (RA.out _ _ _ _ _ Q3.out rfl).mono ?_
    rintro e w4 ⟨t4, A4, c4, A5, c5, rfl, _, _, hk4⟩
    have KK4 := Lib.hid hk4
    have K4 := Lib.hid (K3.out.trans hk4)
    clear hk4
    go_wp2_with fail
    refine (RD.out _ _ _ _ _ (Q3.out.only KK4.out (by simp) (Nat.le_refl _)) rfl).mono ?_
    rintro e w5 ⟨ok, g1, g2, A6, c6, A7, c7, rfl, _, _, hk5, _, _, hg⟩
    have hg : ok = false := hg
    subst hg
    have K5 := Lib.hid (K4.out.trans hk5)
    clear hk5
    go_wp2_with fail
    refine (WR.out _ _ (HH.out.only K5.out (by simp) (Nat.le_refl _)) K5.out.size).mono ?_
    rintro e w6 ⟨A8, c8, rfl, hc8, hm8, hown8, hk8⟩
    have Q8 := Lib.hid (Rd.of_own (w := w6) (xs := wrapped tag xs) HX.out.2.2.2.1 hown8)
    have K8 := Lib.hid (K5.out.trans hk8)
    clear hc8 hm8 hown8 hk8
    go_wp2_with fail
    refine (RW.out _ _ _ _ _ Q8.out rfl).mono ?_
    rintro e w7 ⟨ok, g3, g4, A9, c9, A10, c10, rfl, hr9, _, hk9, _, _, hg⟩
    have Q9 := Lib.hid hr9
    have K9 := Lib.hid (K8.out.trans hk9)
    clear hr9 hk9
    first
      | (obtain ⟨rfl, rfl, rfl⟩ : ok = true ∧ g3 = xs ∧ g4 = [] := hg
         go_wp2_with fail
         refine (same_yes _ _ _ _ _ _ g3 g3 _ w7.heap.size w.heap.size Q9.out (HH.out.only K9.out (by simp) (Nat.le_refl _)) rfl HX.out.2.2.2.2.1 rfl).mono ?_
         rintro e w' ⟨rfl, rfl⟩
         go_wp2_with fail
         go_ret
         exact ⟨rfl, K9.out.belowN⟩)
      | (have hg : ok = false := hg
         subst hg
         go_wp2_with fail
         go_ret
         exact ⟨rfl, K9.out.belowN⟩)

theorem notShortest_3 (tag : Int) (A : Option Addr) (n c : Nat) (xs : List Int) (w : World) (h : Rd w w.heap.size A xs) (hn : n = xs.length) (hy1 : n ≤ 2147483647) (hn2 : n ≤ 1048576) (ht : 0 ≤ tag ∧ tag ≤ 255)
    (HF : Hid (∀ w, Calls Try.prog 11 #[.slice A n c] w fun e w' => e = .returned (.bool true) ∧ w = w')) (HT : Hid (∀ w, Calls Try.prog 26 #[.int .i64 tag] w fun e w' => e = .returned (.bool true) ∧ w = w')) :
    Calls Try.prog 9 #[.int .i64 tag, .slice A n c, .int .i64 3] w fun e w' => e = .returned (.bool true) ∧ Below w.heap.size w w' := by
  by_cases hK : n < 65536
  case neg =>
    have hk1 : (65536 : Int) ≤ (n : Int) := by omega
    clear h hn hK ht
    go_enter Try.func9, Try.ntmps9
    go_wp2_with fail
    refine (HF.out _).mono ?_; rintro e w' ⟨rfl, rfl⟩
    go_wp2_with fail
    refine (HT.out _).mono ?_; rintro e w' ⟨rfl, rfl⟩
    go_wp2_with fail
    go_ret
    exact ⟨rfl, Below.refl _ _⟩
  have hk1 : ¬ (65536 : Int) ≤ (n : Int) := by omega
  have hd : decide ((65536 : Int) ≤ (n : Int)) = false := decide_eq_false hk1
  have hfn : first ([tag, 131] ++ bigB n 3 ++ xs) = none := first_longer (t := tag) (n := n) (m := 3) (c := xs) (by decide) (by decide) hn (by simp; omega)
  have hfo : firstOf ([tag, 131] ++ bigB n 3 ++ xs) tag = none := by unfold firstOf; rw [hfn]
  have hl2 : ([tag, 131] ++ bigB n 3).length = 3 + 2 := by rw [List.length_append, bigB_len]; rfl
  have hb2 : Byt ([tag, 131] ++ bigB n 3) := by
    refine Byt.append ?_ (bigB_byt _ _)
    intro y hy
    simp only [List.mem_cons, List.not_mem_nil, or_false] at hy
    omega
  have hb1 : Byt [tag, 131] := fun y hy => hb2 y (List.mem_append_left _ hy)
  have BG := Lib.hid (fun w => big_any n 3 w (by omega) (by omega) (by decide))
  have hwt : IntKind.u64.wrap (n : Int) = n := by simp [IntKind.wrap, IntKind.bits, IntKind.signed]; omega
  have hw8 : IntKind.u8.wrap tag = tag := by simp [IntKind.wrap, IntKind.bits, IntKind.signed]; omega
  have RA := Lib.hid (fun A' n' c w B h hn' => ImReadAny_no A' n' c ([tag, 131] ++ bigB n 3 ++ xs) w B h hn' (by rw [List.length_append, hl2]; omega) hfn)
  have RD := Lib.hid (fun A' n' c w B h hn' => ImReadASN1_of A' n' c ([tag, 131] ++ bigB n 3 ++ xs) w B h hn' (by rw [List.length_append, hl2]; omega) tag ht)
  rw [hfo] at RD
  have WR := Lib.hid (fun w B h hB => wrapped_any tag A n c xs w B h hn hB ht (by omega))
  have hwl : (wrapped tag xs).length ≤ 1048582 := by
    unfold wrapped
    have := hdr_len_le tag xs.length
    rw [List.length_append]
    omega
  have hwb : Byt (wrapped tag xs) := Byt.append (hdr_byt ht) h.byt
  have hfw : firstOf (wrapped tag xs) tag = if tag % 32 = 31 then none else some (xs, []) := by
    by_cases h31 : tag % 32 = 31
    · rw [if_pos h31]
      exact firstOf_high h31
    · rw [if_neg h31]
      have := firstOf_wrapped (t := tag) (tag := tag) (c := xs) (r := []) h31 (by omega)
      rwa [List.append_nil, if_pos rfl] at this
  have RW := Lib.hid (fun A' n' c w B h hn' => ImReadASN1_of A' n' c (wrapped tag xs) w B h hn' (by omega) tag ht)
  have HX := Lib.hid (And.intro hl2 (And.intro hb2 (And.intro hb1 (And.intro hwb (And.intro hn hn2)))))
  have HH := Lib.hid h
  have RL := Lib.hid (Row.lit w w.heap.size [tag, 131] (Nat.le_refl _) hb1 (by unfold maxLen; simp))
  obtain ⟨zs, hzs⟩ : ∃ zs, [tag, 131] ++ bigB n 3 ++ xs = zs := ⟨_, rfl⟩
  rw [hzs] at RA RD
  have HZ := Lib.hid hzs
  by_cases h31 : tag % 32 = 31
  all_goals
    first | (rw [if_pos h31] at hfw; have htm : (tag % 32 == 31) = true := beq_iff_eq.2 h31; have htn : (tag % 32 != 31) = false := by rw [bne, htm]; rfl) | (rw [if_neg h31] at hfw; have htm : (tag % 32 == 31) = false := beq_eq_false_iff_ne.2 h31; have htn : (tag % 32 != 31) = true := by rw [bne, htm]; rfl)
    rw [hfw] at RW
    obtain ⟨ht0, ht1⟩ := ht
    clear h hn hK hk1 hfn hfo hl2 hb2 hb1 hwl hwb hfw hzs h31
    go_enter Try.func9, Try.ntmps9
    go_wp2_with fail
    refine (HF.out _).mono ?_; rintro e w' ⟨rfl, rfl⟩
    go_wp2_with fail
    refine (HT.out _).mono ?_; rintro e w' ⟨rfl, rfl⟩
    go_wp2_with fail
    refine (BG.out _).mono ?_
    rintro e w1 ⟨A1, c1, rfl, hc1, hm1, hown1, hk1⟩
    have Q1 := Lib.hid (Rd.of_own (w := w1) (bigB_byt _ _) hown1)
    have K0 := Lib.hid hk1
    have K1 : Hid (Only [] w w1) := Lib.hid (((Only.refl _ _).alloc _).trans hk1)
    have RL1 := Lib.hid (Row.only (l := []) RL.out hk1 (by simp))
    clear hc1 hm1 hown1 hk1
    go_wp2_with (at_builtin; refine wpList_row rfl (.tmp 62) (.tmp 67) rfl rfl w.heap.size w1.heap.size _ [tag, 131] (bigB n 3) A1 _ c1 rfl rfl RL1.out Q1.out rfl ?x1 ?x2 ?_)
    case x1 => exact K1.out.size
    case x2 => rw [bigB_len]; simp
    intro v2 w2 hr2 hk2 _
    obtain ⟨A2, c2, rfl, _, _, _⟩ := hr2.form
    have Q2 := Lib.hid (hr2.rd rfl)
    have K2 : Hid (Only [] w w2) := Lib.hid (K1.out.then hk2 (fun i hi hlt => by have := RL1.out.low i hi; omega))
    clear hr2 hk2
    go_wp2_with fail
    refine (behind_any A2 A _ n c2 c ([tag, 131] ++ bigB n 3) xs w2 w2.heap.size w.heap.size Q2.out (HH.out.only K2.out (by simp) (Nat.le_refl _)) (Nat.le_refl _) K2.out.size (by simp) HX.out.2.2.2.2.1 (by have := HX.out; omega)).mono ?_
    rw [HZ.out]
    rintro e w3 ⟨A3, c3, rfl, hc3, hm3, hown3, hk3⟩
    have Q3 := Lib.hid (Rd.of_own (xs := zs) (by rw [← HZ.out]; exact HX.out.2.1.append HH.out.byt) hown3)
    have K3 := Lib.hid (K2.out.trans hk3)
    clear hc3 hm3 hown3 hk3
    go_wp2_with fail
    refine (RA.out _ _ _ _ _ Q3.out rfl).mono ?_
    rintro e w4 ⟨t4, A4, c4, A5, c5, rfl, _, _, hk4⟩
    have KK4 := Lib.hid hk4
    have K4 := Lib.hid (K3.out.trans hk4)
    clear hk4
    go_wp2_with fail
    refine (RD.out _ _ _ _ _ (Q3.out.only KK4.out (by simp) (Nat.le_refl _)) rfl).mono ?_
    rintro e w5 ⟨ok, g1, g2, A6, c6, A7, c7, rfl, _, _, hk5, _, _, hg⟩
    have hg : ok = false := hg
    subst hg
    have K5 := Lib.hid (K4.out.trans hk5)
    clear hk5
    go_wp2_with fail
    refine (WR.out _ _ (HH.out.only K5.out (by simp) (Nat.le_refl _)) K5.out.size).mono ?_
    rintro e w6 ⟨A8, c8, rfl, hc8, hm8, hown8, hk8⟩
    have Q8 := Lib.hid (Rd.of_own (w := w6) (xs := wrapped tag xs) HX.out.2.2.2.1 hown8)
    have K8 := Lib.hid (K5.out.trans hk8)
    clear hc8 hm8 hown8 hk8
    go_wp2_with fail
    refine (RW.out _ _ _ _ _ Q8.out rfl).mono ?_
    rintro e w7 ⟨ok, g3, g4, A9, c9, A10, c10, rfl, hr9, _, hk9, _, _, hg⟩
    have Q9 := Lib.hid hr9
    have K9 := Lib.hid (K8.out.trans hk9)
    clear hr9 hk9
    first
      | (obtain ⟨rfl, rfl, rfl⟩ : ok = true ∧ g3 = xs ∧ g4 = [] := hg
         go_wp2_with fail
         refine (same_yes _ _ _ _ _ _ g3 g3 _ w7.heap.size w.heap.size Q9.out (HH.out.only K9.out (by simp) (Nat.le_refl _)) rfl HX.out.2.2.2.2.1 rfl).mono ?_
         rintro e w' ⟨rfl, rfl⟩
         go_wp2_with fail
         go_ret
         exact ⟨rfl, K9.out.belowN⟩)
      | (have hg : ok = false := hg
         subst hg
         go_wp2_with fail
         go_ret
         exact ⟨rfl, K9.out.belowN⟩)

theorem notShortest_4 (tag : Int) (A : Option Addr) (n c : Nat) (xs : List Int) (w : World) (h : Rd w w.heap.size A xs) (hn : n = xs.length) (hy1 : n ≤ 2147483647) (hn2 : n ≤ 1048576) (ht : 0 ≤ tag ∧ tag ≤ 255)
    (HF : Hid (∀ w, Calls Try.prog 11 #[.slice A n c] w fun e w' => e = .returned (.bool true) ∧ w = w')) (HT : Hid (∀ w, Calls Try.prog 26 #[.int .i64 tag] w fun e w' => e = .returned (.bool true) ∧ w = w')) :
    Calls Try.prog 9 #[.int .i64 tag, .slice A n c, .int .i64 4] w fun e w' => e = .returned (.bool true) ∧ Below w.heap.size w w' := by
  by_cases hK : n < 16777216
  case neg =>
    exact absurd hn2 (by omega)
  have hk1 : ¬ (16777216 : Int) ≤ (n : Int) := by omega
  have hd : decide ((16777216 : Int) ≤ (n : Int)) = false := decide_eq_false hk1
  have hfn : first ([tag, 132] ++ bigB n 4 ++ xs) = none := first_longer (t := tag) (n := n) (m := 4) (c := xs) (by decide) (by decide) hn (by simp; omega)
  have hfo : firstOf ([tag, 132] ++ bigB n 4 ++ xs) tag = none := by unfold firstOf; rw [hfn]
  have hl2 : ([tag, 132] ++ bigB n 4).length = 4 + 2 := by rw [List.length_append, bigB_len]; rfl
  have hb2 : Byt ([tag, 132] ++ bigB n 4) := by
    refine Byt.append ?_ (bigB_byt _ _)
    intro y hy
    simp only [List.mem_cons, List.not_mem_nil, or_false] at hy
    omega
  have hb1 : Byt [tag, 132] := fun y hy => hb2 y (List.mem_append_left _ hy)
  have BG := Lib.hid (fun w => big_any n 4 w (by omega) (by omega) (by decide))
  have hwt : IntKind.u64.wrap (n : Int) = n := by simp [IntKind.wrap, IntKind.bits, IntKind.signed]; omega
  have hw8 : IntKind.u8.wrap tag = tag := by simp [IntKind.wrap, IntKind.bits, IntKind.signed]; omega
  have RA := Lib.hid (fun A' n' c w B h hn' => ImReadAny_no A' n' c ([tag, 132] ++ bigB n 4 ++ xs) w B h hn' (by rw [List.length_append, hl2]; omega) hfn)
  have RD := Lib.hid (fun A' n' c w B h hn' => ImReadASN1_of A' n' c ([tag, 132] ++ bigB n 4 ++ xs) w B h hn' (by rw [List.length_append, hl2]; omega) tag ht)
  rw [hfo] at RD
  have WR := Lib.hid (fun w B h hB => wrapped_any tag A n c xs w B h hn hB ht (by omega))
  have hwl : (wrapped tag xs).length ≤ 1048582 := by
    unfold wrapped
    have := hdr_len_le tag xs.length
    rw [List.length_append]
    omega
  have hwb : Byt (wrapped tag xs) := Byt.append (hdr_byt ht) h.byt
  have hfw : firstOf (wrapped tag xs) tag = if tag % 32 = 31 then none else some (xs, []) := by
    by_cases h31 : tag % 32 = 31
    · rw [if_pos h31]
      exact firstOf_high h31
    · rw [if_neg h31]
      have := firstOf_wrapped (t := tag) (tag := tag) (c := xs) (r := []) h31 (by omega)
      rwa [List.append_nil, if_pos rfl] at this
  have RW := Lib.hid (fun A' n' c w B h hn' => ImReadASN1_of A' n' c (wrapped tag xs) w B h hn' (by omega) tag ht)
  have HX := Lib.hid (And.intro hl2 (And.intro hb2 (And.intro hb1 (And.intro hwb (And.intro hn hn2)))))
  have HH := Lib.hid h
  have RL := Lib.hid (Row.lit w w.heap.size [tag, 132] (Nat.le_refl _) hb1 (by unfold maxLen; simp))
  obtain ⟨zs, hzs⟩ : ∃ zs, [tag, 132] ++ bigB n 4 ++ xs = zs := ⟨_, rfl⟩
  rw [hzs] at RA RD
  have HZ := Lib.hid hzs
  by_cases h31 : tag % 32 = 31
  all_goals
    first | (rw [if_pos h31] at hfw; have htm : (tag % 32 == 31) = true := beq_iff_eq.2 h31; have htn : (tag % 32 != 31) = false := by rw [bne, htm]; rfl) | (rw [if_neg h31] at hfw; have htm : (tag % 32 == 31) = false := beq_eq_false_iff_ne.2 h31; have htn : (tag % 32 != 31) = true := by rw [bne, htm]; rfl)
    rw [hfw] at RW
    obtain ⟨ht0, ht1⟩ := ht
    clear h hn hK hk1 hfn hfo hl2 hb2 hb1 hwl hwb hfw hzs h31
    go_enter Try.func9, Try.ntmps9
    go_wp2_with fail
    refine (HF.out _).mono ?_; rintro e w' ⟨rfl, rfl⟩
    go_wp2_with fail
    refine (HT.out _).mono ?_; rintro e w' ⟨rfl, rfl⟩
    go_wp2_with fail
    refine (BG.out _).mono ?_
    rintro e w1 ⟨A1, c1, rfl, hc1, hm1, hown1, hk1⟩
    have Q1 := Lib.hid (Rd.of_own (w := w1) (bigB_byt _ _) hown1)
    have K0 := Lib.hid hk1
    have K1 : Hid (Only [] w w1) := Lib.hid (((Only.refl _ _).alloc _).trans hk1)
    have RL1 := Lib.hid (Row.only (l := []) RL.out hk1 (by simp))
    clear hc1 hm1 hown1 hk1
    go_wp2_with (at_builtin; refine wpList_row rfl (.tmp 62) (.tmp 67) rfl rfl w.heap.size w1.heap.size _ [tag, 132] (bigB n 4) A1 _ c1 rfl rfl RL1.out Q1.out rfl ?x1 ?x2 ?_)
    case x1 => exact K1.out.size
    case x2 => rw [bigB_len]; simp
    intro v2 w2 hr2 hk2 _
    obtain ⟨A2, c2, rfl, _, _, _⟩ := hr2.form
    have Q2 := Lib.hid (hr2.rd rfl)
    have K2 : Hid (Only [] w w2) := Lib.hid (K1.out.then hk2 (fun i hi hlt => by have := RL1.out.low i hi; omega))
    clear hr2 hk2
    go_wp2_with fail
    refine (behind_any A2 A _ n c2 c ([tag, 132] ++ bigB n 4) xs w2 w2.heap.size w.heap.size Q2.out (HH.out.only K2.out (by simp) (Nat.le_refl _)) (Nat.le_refl _) K2.out.size (by simp) HX.out.2.2.2.2.1 (by have := HX.out; omega)).mono ?_
    rw [HZ.out]
    rintro e w3 ⟨A3, c3, rfl, hc3, hm3, hown3, hk3⟩
    have Q3 := Lib.hid (Rd.of_own (xs := zs) (by rw [← HZ.out]; exact HX.out.2.1.append HH.out.byt) hown3)
    have K3 := Lib.hid (K2.out.trans hk3)
    clear hc3 hm3 hown3 hk3
    go_wp2_with fail
    refine (RA.out _ _ _ _ _ Q3.out rfl).mono ?_
    rintro e w4 ⟨t4, A4, c4, A5, c5, rfl, _, _, hk4⟩
    have KK4 := Lib.hid hk4
    have K4 := Lib.hid (K3.out.trans hk4)
    clear hk4
    go_wp2_with fail
    refine (RD.out _ _ _ _ _ (Q3.out.only KK4.out (by simp) (Nat.le_refl _)) rfl).mono ?_
    rintro e w5 ⟨ok, g1, g2, A6, c6, A7, c7, rfl, _, _, hk5, _, _, hg⟩
    have hg : ok = false := hg
    subst hg
    have K5 := Lib.hid (K4.out.trans hk5)
    clear hk5
    go_wp2_with fail
    refine (WR.out _ _ (HH.out.only K5.out (by simp) (Nat.le_refl _)) K5.out.size).mono ?_
    rintro e w6 ⟨A8, c8, rfl, hc8, hm8, hown8, hk8⟩
    have Q8 := Lib.hid (Rd.of_own (w := w6) (xs := wrapped tag xs) HX.out.2.2.2.1 hown8)
    have K8 := Lib.hid (K5.out.trans hk8)
    clear hc8 hm8 hown8 hk8
    go_wp2_with fail
    refine (RW.out _ _ _ _ _ Q8.out rfl).mono ?_
    rintro e w7 ⟨ok, g3, g4, A9, c9, A10, c10, rfl, hr9, _, hk9, _, _, hg⟩
    have Q9 := Lib.hid hr9
    have K9 := Lib.hid (K8.out.trans hk9)
    clear hr9 hk9
    first
      | (obtain ⟨rfl, rfl, rfl⟩ : ok = true ∧ g3 = xs ∧ g4 = [] := hg
         go_wp2_with fail
         refine (same_yes _ _ _ _ _ _ g3 g3 _ w7.heap.size w.heap.size Q9.out (HH.out.only K9.out (by simp) (Nat.le_refl _)) rfl HX.out.2.2.2.2.1 rfl).mono ?_
         rintro e w' ⟨rfl, rfl⟩
         go_wp2_with fail
         go_ret
         exact ⟨rfl, K9.out.belowN⟩)
      | (have hg : ok = false := hg
         subst hg
         go_wp2_with fail
         go_ret
         exact ⟨rfl, K9.out.belowN⟩)

theorem law_FnNotShortest (tag : Int) (A : Option Addr) (n c : Nat) (xs : List Int) (many : Int) (w : World) (h : Rd w w.heap.size A xs) (hn : n = xs.length) :
    Calls Try.prog 9 #[.int .i64 tag, .slice A n c, .int .i64 many] w fun e w' => e = .returned (.bool true) ∧ Below w.heap.size w w' := by
  by_cases hz1 : 2147483647 < n
  · clear h hn
    go_enter Try.func9, Try.ntmps9
    go_wp2_with fail
    go_ret
    exact ⟨rfl, Below.refl _ _⟩
  have hy1 : n ≤ 2147483647 := by omega
  clear hz1
  by_cases hbig : 1048576 < n
  · have HF := Lib.hid (fun w => fits_no A n c w hbig)
    clear h hn hbig
    go_enter Try.func9, Try.ntmps9
    go_wp2_with fail
    refine (HF.out _).mono ?_; rintro e w' ⟨rfl, rfl⟩
    go_wp2_with fail
    go_ret
    exact ⟨rfl, Below.refl _ _⟩
  have HF := Lib.hid (fun w => fits_yes A n c w (by omega))
  by_cases ht : 0 ≤ tag ∧ tag ≤ 255
  case neg =>
    have HT := Lib.hid (fun w => tagOk_no tag w (by omega))
    clear h hn hbig ht
    go_enter Try.func9, Try.ntmps9
    go_wp2_with fail
    refine (HF.out _).mono ?_; rintro e w' ⟨rfl, rfl⟩
    go_wp2_with fail
    refine (HT.out _).mono ?_; rintro e w' ⟨rfl, rfl⟩
    go_wp2_with fail
    go_ret
    exact ⟨rfl, Below.refl _ _⟩
  have HT := Lib.hid (fun w => tagOk_yes tag w ht.1 ht.2)
  by_cases hm1 : many < 1
  · clear h hn hbig ht
    go_enter Try.func9, Try.ntmps9
    go_wp2_with fail
    refine (HF.out _).mono ?_; rintro e w' ⟨rfl, rfl⟩
    go_wp2_with fail
    refine (HT.out _).mono ?_; rintro e w' ⟨rfl, rfl⟩
    go_wp2_with fail
    go_ret
    exact ⟨rfl, Below.refl _ _⟩
  by_cases hm4 : 4 < many
  · clear h hn hbig ht
    go_enter Try.func9, Try.ntmps9
    go_wp2_with fail
    refine (HF.out _).mono ?_; rintro e w' ⟨rfl, rfl⟩
    go_wp2_with fail
    refine (HT.out _).mono ?_; rintro e w' ⟨rfl, rfl⟩
    go_wp2_with fail
    go_ret
    exact ⟨rfl, Below.refl _ _⟩
  obtain ⟨m, rfl⟩ : ∃ m : Nat, many = m := ⟨many.toNat, by omega⟩
  have hn2 : n ≤ 1048576 := by omega
  have HH := Lib.hid h
  have HN := Lib.hid hn
  have HTR := Lib.hid ht
  have ht0 : 0 ≤ tag := ht.1
  have ht1 : tag ≤ 255 := ht.2
  clear h hbig ht
  obtain rfl | rfl | rfl | rfl : m = 1 ∨ m = 2 ∨ m = 3 ∨ m = 4 := by omega
  · exact notShortest_1 tag A n c xs w HH.out hn hy1 hn2 HTR.out HF HT
  · exact notShortest_2 tag A n c xs w HH.out hn hy1 hn2 HTR.out HF HT
  · exact notShortest_3 tag A n c xs w HH.out hn hy1 hn2 HTR.out HF HT
  · exact notShortest_4 tag A n c xs w HH.out hn hy1 hn2 HTR.out HF HT

end Go.Proofs.Ytdocgembogocjaa
