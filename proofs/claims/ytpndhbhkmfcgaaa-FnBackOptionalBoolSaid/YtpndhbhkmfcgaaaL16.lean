/- The law on an optional truth that is built and read back: walk. -/
import Derived.Test.YtpndhbhkmfcgaaaBl10
import Derived.Test.YtpndhbhkmfcgaaaOptB
import Derived.Test.YtpndhbhkmfcgaaaL5
namespace Go.Proofs.Ytpndhbhkmfcgaaa
open Go.RowKit

set_option maxHeartbeats 3200000 in
theorem law_FnBackOptionalBool (tag other : Int) (v d : Bool) (A' : Option Addr) (n' c' : Nat) (ts : List Int) (w : World) (h' : Rd w w.heap.size A' ts) (hn' : n' = ts.length) :
    Calls Try.prog 5 #[.int .i64 tag, .int .i64 other, .bool v, .bool d, .slice A' n' c'] w fun e w' => e = .returned (.bool true) ∧ Below w.heap.size w w' := by
  by_cases hz2 : 2147483647 < n'
  · clear h' hn'
    cases v <;> cases d
    all_goals
      go_enter Try.func5, Try.ntmps5
      go_wp2_with fail
      go_ret
      exact ⟨rfl, Below.refl _ _⟩
  have hy2 : n' ≤ 2147483647 := by omega
  clear hz2
  by_cases ht : 0 ≤ tag ∧ tag ≤ 255
  case neg =>
    have HT1 := Lib.hid (fun w => tagOk_no tag w (by omega))
    clear h' hn' ht
    cases v <;> cases d
    all_goals
      go_enter Try.func5, Try.ntmps5
      go_wp2_with fail
      refine (HT1.out _).mono ?_; rintro e w' ⟨rfl, rfl⟩
      go_wp2_with fail
      go_ret
      exact ⟨rfl, Below.refl _ _⟩
  have HT1 := Lib.hid (fun w => tagOk_yes tag w ht.1 ht.2)
  by_cases hu : 0 ≤ other ∧ other ≤ 255
  case neg =>
    have HT2 := Lib.hid (fun w => tagOk_no other w (by omega))
    clear h' hn' ht hu
    cases v <;> cases d
    all_goals
      go_enter Try.func5, Try.ntmps5
      go_wp2_with fail
      refine (HT1.out _).mono ?_; rintro e w' ⟨rfl, rfl⟩
      go_wp2_with fail
      refine (HT2.out _).mono ?_; rintro e w' ⟨rfl, rfl⟩
      go_wp2_with fail
      go_ret
      exact ⟨rfl, Below.refl _ _⟩
  have HT2 := Lib.hid (fun w => tagOk_yes other w hu.1 hu.2)
  have ht0 : 0 ≤ tag := ht.1
  have ht1 : tag ≤ 255 := ht.2
  by_cases h31 : tag % 32 = 31
  · have htm : (tag % 32 == 31) = true := by rw [h31]; rfl
    clear h' hn' ht hu h31
    cases v <;> cases d
    all_goals
      go_enter Try.func5, Try.ntmps5
      go_wp2_with fail
      refine (HT1.out _).mono ?_; rintro e w' ⟨rfl, rfl⟩
      go_wp2_with fail
      refine (HT2.out _).mono ?_; rintro e w' ⟨rfl, rfl⟩
      go_wp2_with fail
      go_ret
      exact ⟨rfl, Below.refl _ _⟩
  have htm : (tag % 32 == 31) = false := beq_eq_false_iff_ne.2 h31
  by_cases heq : tag = other
  · have hbe : (tag == other) = true := beq_iff_eq.2 heq
    clear h' hn' ht hu h31 heq
    cases v <;> cases d
    all_goals
      go_enter Try.func5, Try.ntmps5
      go_wp2_with fail
      refine (HT1.out _).mono ?_; rintro e w' ⟨rfl, rfl⟩
      go_wp2_with fail
      refine (HT2.out _).mono ?_; rintro e w' ⟨rfl, rfl⟩
      go_wp2_with fail
      go_ret
      exact ⟨rfl, Below.refl _ _⟩
  have hbe : (tag == other) = false := beq_eq_false_iff_ne.2 heq
  by_cases hb2 : 1048576 < n'
  · clear h' hn' ht hu h31 heq
    cases v <;> cases d
    all_goals
      go_enter Try.func5, Try.ntmps5
      go_wp2_with fail
      refine (HT1.out _).mono ?_; rintro e w' ⟨rfl, rfl⟩
      go_wp2_with fail
      refine (HT2.out _).mono ?_; rintro e w' ⟨rfl, rfl⟩
      go_wp2_with fail
      go_ret
      exact ⟨rfl, Below.refl _ _⟩
  have hb4 : n' ≤ 1048576 := by omega
  obtain ⟨is, his⟩ : ∃ is, wrapped 1 [if v then (255 : Int) else 0] = is := ⟨_, rfl⟩
  have AB := Lib.hid (ImAddBool_any v w)
  have he1 : elem 1 [if v then (255 : Int) else 0] = some is := by unfold elem; rw [if_neg (by decide), his]
  rw [he1] at AB
  have hisl : is.length ≤ 7 := by have := elem_len he1; simpa using this
  have AA := Lib.hid (fun A n c w B h hn hB => ImAddASN1_any tag A n c is w B ht h hn hB (by omega))
  obtain ⟨os, hos⟩ : ∃ os, wrapped tag is = os := ⟨_, rfl⟩
  have he2 : elem tag is = some os := by unfold elem; rw [if_neg h31, hos]
  rw [he2] at AA
  have hosl : os.length ≤ 13 := by have := elem_len he2; omega
  have hfo : firstOf (os ++ ts) tag = some (is, ts) := by rw [← hos, firstOf_wrapped h31 (by omega), if_pos rfl]
  have hfi : asOf boolOf is 1 = some (v, []) := by
    unfold asOf
    have : firstOf is 1 = some ([if v then (255 : Int) else 0], []) := by
      rw [← his, ← List.append_nil (wrapped 1 _), firstOf_wrapped (by decide) (by simp), if_pos rfl]
    rw [this]
    cases v <;> simp [boolOf]
  have hpk : peek (os ++ ts) tag = true := peek_firstOf hfo
  have hpo : peek (os ++ ts) other = false := by
    unfold peek at hpk ⊢
    simp only [Bool.and_eq_true, decide_eq_true_eq] at hpk
    simp only [Bool.and_eq_false_iff, decide_eq_false_iff_not]
    right
    rw [hpk.2]
    exact heq
  have ho1 : optBool (os ++ ts) tag d = some (v, ts) := by unfold optBool; rw [if_pos hpk, hfo, Option.bind_some, hfi]; rfl
  have ho2 : optBool (os ++ ts) other d = some (d, os ++ ts) := by unfold optBool; rw [if_neg (by rw [hpo]; decide)]
  have hzl : (os ++ ts).length ≤ 4194304 := by rw [List.length_append]; omega
  have hol : os.length + ts.length ≤ 4194304 := by omega
  obtain ⟨zs, hzs⟩ : ∃ zs, os ++ ts = zs := ⟨_, rfl⟩
  rw [hzs] at ho1 ho2 hzl
  have R1 := Lib.hid (fun A n c w B h hn => ImReadOptionalBool_of A n c zs w B h hn hzl tag d ht)
  have R2 := Lib.hid (fun A n c w B h hn => ImReadOptionalBool_of A n c zs w B h hn hzl other d hu)
  rw [ho1] at R1
  rw [ho2] at R2
  have HZ := Lib.hid (And.intro hzs hol)
  have HN := Lib.hid hn'
  have H2 := Lib.hid h'
  clear h' hn' ht hu h31 heq hb2 he1 his hisl he2 hos hosl hfo hfi hpk hpo ho1 ho2 hzl hol hzs
  cases v with
  | true =>
    cases d with
    | true =>
      go_enter Try.func5, Try.ntmps5
      go_wp2_with fail
      refine (HT1.out _).mono ?_; rintro e w' ⟨rfl, rfl⟩
      go_wp2_with fail
      refine (HT2.out _).mono ?_; rintro e w' ⟨rfl, rfl⟩
      go_wp2_with fail
      refine AB.out.mono ?_
      rintro e w1 ⟨A1, c1, is2, ok, rfl, hr1, hk1, _, _, rfl, rfl⟩
      have Q1 := Lib.hid hr1
      have K1 := Lib.hid hk1
      clear hr1 hk1
      go_wp2_with fail
      refine (AA.out _ _ _ _ _ Q1.out rfl (Nat.le_refl _)).mono ?_
      rintro e w2 ⟨A2, c2, os2, ok, rfl, hr2, hk2, _, _, rfl, rfl⟩
      have Q2 := Lib.hid hr2
      have K2 := Lib.hid (K1.out.trans hk2)
      clear hr2 hk2
      go_wp2_with fail
      refine (behind_any A2 A' _ n' c2 c' os2 ts w2 w2.heap.size w.heap.size Q2.out (H2.out.only K2.out (by simp) (Nat.le_refl _)) (Nat.le_refl _) K2.out.size rfl HN.out (Nat.le_trans HZ.out.2 (by decide))).mono ?_
      rw [HZ.out.1]
      rintro e w3 ⟨A3, c3, rfl, hc3, hm3, hown3, hk3⟩
      have Q3 := Lib.hid (Rd.of_own (by rw [← HZ.out.1]; exact Q2.out.byt.append H2.out.byt) hown3)
      have K3 := Lib.hid (K2.out.trans hk3)
      clear hc3 hm3 hown3 hk3
      go_wp2_with fail
      refine (R1.out _ _ _ _ _ Q3.out rfl).mono ?_
      rintro e w4 ⟨ok, g1, g2, A4, c4, rfl, hr4, hk4, _, hg⟩
      obtain ⟨rfl, rfl, rfl⟩ : ok = true ∧ g1 = true ∧ g2 = ts := hg
      have Q4 := Lib.hid hr4
      have K4 := Lib.hid (K3.out.trans hk4)
      have K34 := Lib.hid hk4
      clear hr4 hk4
      go_wp2_with fail
      refine (R2.out _ _ _ _ _ (Q3.out.only K34.out (by simp) (Nat.le_refl _)) rfl).mono ?_
      rintro e w5 ⟨ok, g3, g4, A5, c5, rfl, hr5, hk5, _, hg⟩
      obtain ⟨rfl, rfl, rfl⟩ : ok = true ∧ g3 = true ∧ g4 = zs := hg
      have Q5 := Lib.hid hr5
      have K5 := Lib.hid (K4.out.trans hk5)
      have K45 := Lib.hid hk5
      have K35 := Lib.hid (K34.out.trans hk5)
      clear hr5 hk5
      go_wp2_with fail
      refine (same_yes _ _ _ _ _ _ g2 g2 _ w4.heap.size w.heap.size (Q4.out.only K45.out (by simp) (Nat.le_refl _)) (H2.out.only K5.out (by simp) (Nat.le_refl _)) rfl HN.out rfl).mono ?_
      rintro e w' ⟨rfl, rfl⟩
      go_wp2_with fail
      refine (same_yes _ _ _ _ _ _ g4 g4 _ w5.heap.size w3.heap.size Q5.out (Q3.out.only K35.out (by simp) (Nat.le_refl _)) rfl rfl rfl).mono ?_
      rintro e w' ⟨rfl, rfl⟩
      go_wp2_with fail
      go_ret
      exact ⟨by simp, K5.out.belowN⟩
    | false =>
      go_enter Try.func5, Try.ntmps5
      go_wp2_with fail
      refine (HT1.out _).mono ?_; rintro e w' ⟨rfl, rfl⟩
      go_wp2_with fail
      refine (HT2.out _).mono ?_; rintro e w' ⟨rfl, rfl⟩
      go_wp2_with fail
      refine AB.out.mono ?_
      rintro e w1 ⟨A1, c1, is2, ok, rfl, hr1, hk1, _, _, rfl, rfl⟩
      have Q1 := Lib.hid hr1
      have K1 := Lib.hid hk1
      clear hr1 hk1
      go_wp2_with fail
      refine (AA.out _ _ _ _ _ Q1.out rfl (Nat.le_refl _)).mono ?_
      rintro e w2 ⟨A2, c2, os2, ok, rfl, hr2, hk2, _, _, rfl, rfl⟩
      have Q2 := Lib.hid hr2
      have K2 := Lib.hid (K1.out.trans hk2)
      clear hr2 hk2
      go_wp2_with fail
      refine (behind_any A2 A' _ n' c2 c' os2 ts w2 w2.heap.size w.heap.size Q2.out (H2.out.only K2.out (by simp) (Nat.le_refl _)) (Nat.le_refl _) K2.out.size rfl HN.out (Nat.le_trans HZ.out.2 (by decide))).mono ?_
      rw [HZ.out.1]
      rintro e w3 ⟨A3, c3, rfl, hc3, hm3, hown3, hk3⟩
      have Q3 := Lib.hid (Rd.of_own (by rw [← HZ.out.1]; exact Q2.out.byt.append H2.out.byt) hown3)
      have K3 := Lib.hid (K2.out.trans hk3)
      clear hc3 hm3 hown3 hk3
      go_wp2_with fail
      refine (R1.out _ _ _ _ _ Q3.out rfl).mono ?_
      rintro e w4 ⟨ok, g1, g2, A4, c4, rfl, hr4, hk4, _, hg⟩
      obtain ⟨rfl, rfl, rfl⟩ : ok = true ∧ g1 = true ∧ g2 = ts := hg
      have Q4 := Lib.hid hr4
      have K4 := Lib.hid (K3.out.trans hk4)
      have K34 := Lib.hid hk4
      clear hr4 hk4
      go_wp2_with fail
      refine (R2.out _ _ _ _ _ (Q3.out.only K34.out (by simp) (Nat.le_refl _)) rfl).mono ?_
      rintro e w5 ⟨ok, g3, g4, A5, c5, rfl, hr5, hk5, _, hg⟩
      obtain ⟨rfl, rfl, rfl⟩ : ok = true ∧ g3 = false ∧ g4 = zs := hg
      have Q5 := Lib.hid hr5
      have K5 := Lib.hid (K4.out.trans hk5)
      have K45 := Lib.hid hk5
      have K35 := Lib.hid (K34.out.trans hk5)
      clear hr5 hk5
      go_wp2_with fail
      refine (same_yes _ _ _ _ _ _ g2 g2 _ w4.heap.size w.heap.size (Q4.out.only K45.out (by simp) (Nat.le_refl _)) (H2.out.only K5.out (by simp) (Nat.le_refl _)) rfl HN.out rfl).mono ?_
      rintro e w' ⟨rfl, rfl⟩
      go_wp2_with fail
      refine (same_yes _ _ _ _ _ _ g4 g4 _ w5.heap.size w3.heap.size Q5.out (Q3.out.only K35.out (by simp) (Nat.le_refl _)) rfl rfl rfl).mono ?_
      rintro e w' ⟨rfl, rfl⟩
      go_wp2_with fail
      go_ret
      exact ⟨by simp, K5.out.belowN⟩
  | false =>
    cases d with
    | true =>
      go_enter Try.func5, Try.ntmps5
      go_wp2_with fail
      refine (HT1.out _).mono ?_; rintro e w' ⟨rfl, rfl⟩
      go_wp2_with fail
      refine (HT2.out _).mono ?_; rintro e w' ⟨rfl, rfl⟩
      go_wp2_with fail
      refine AB.out.mono ?_
      rintro e w1 ⟨A1, c1, is2, ok, rfl, hr1, hk1, _, _, rfl, rfl⟩
      have Q1 := Lib.hid hr1
      have K1 := Lib.hid hk1
      clear hr1 hk1
      go_wp2_with fail
      refine (AA.out _ _ _ _ _ Q1.out rfl (Nat.le_refl _)).mono ?_
      rintro e w2 ⟨A2, c2, os2, ok, rfl, hr2, hk2, _, _, rfl, rfl⟩
      have Q2 := Lib.hid hr2
      have K2 := Lib.hid (K1.out.trans hk2)
      clear hr2 hk2
      go_wp2_with fail
      refine (behind_any A2 A' _ n' c2 c' os2 ts w2 w2.heap.size w.heap.size Q2.out (H2.out.only K2.out (by simp) (Nat.le_refl _)) (Nat.le_refl _) K2.out.size rfl HN.out (Nat.le_trans HZ.out.2 (by decide))).mono ?_
      rw [HZ.out.1]
      rintro e w3 ⟨A3, c3, rfl, hc3, hm3, hown3, hk3⟩
      have Q3 := Lib.hid (Rd.of_own (by rw [← HZ.out.1]; exact Q2.out.byt.append H2.out.byt) hown3)
      have K3 := Lib.hid (K2.out.trans hk3)
      clear hc3 hm3 hown3 hk3
      go_wp2_with fail
      refine (R1.out _ _ _ _ _ Q3.out rfl).mono ?_
      rintro e w4 ⟨ok, g1, g2, A4, c4, rfl, hr4, hk4, _, hg⟩
      obtain ⟨rfl, rfl, rfl⟩ : ok = true ∧ g1 = false ∧ g2 = ts := hg
      have Q4 := Lib.hid hr4
      have K4 := Lib.hid (K3.out.trans hk4)
      have K34 := Lib.hid hk4
      clear hr4 hk4
      go_wp2_with fail
      refine (R2.out _ _ _ _ _ (Q3.out.only K34.out (by simp) (Nat.le_refl _)) rfl).mono ?_
      rintro e w5 ⟨ok, g3, g4, A5, c5, rfl, hr5, hk5, _, hg⟩
      obtain ⟨rfl, rfl, rfl⟩ : ok = true ∧ g3 = true ∧ g4 = zs := hg
      have Q5 := Lib.hid hr5
      have K5 := Lib.hid (K4.out.trans hk5)
      have K45 := Lib.hid hk5
      have K35 := Lib.hid (K34.out.trans hk5)
      clear hr5 hk5
      go_wp2_with fail
      refine (same_yes _ _ _ _ _ _ g2 g2 _ w4.heap.size w.heap.size (Q4.out.only K45.out (by simp) (Nat.le_refl _)) (H2.out.only K5.out (by simp) (Nat.le_refl _)) rfl HN.out rfl).mono ?_
      rintro e w' ⟨rfl, rfl⟩
      go_wp2_with fail
      refine (same_yes _ _ _ _ _ _ g4 g4 _ w5.heap.size w3.heap.size Q5.out (Q3.out.only K35.out (by simp) (Nat.le_refl _)) rfl rfl rfl).mono ?_
      rintro e w' ⟨rfl, rfl⟩
      go_wp2_with fail
      go_ret
      exact ⟨by simp, K5.out.belowN⟩
    | false =>
      go_enter Try.func5, Try.ntmps5
      go_wp2_with fail
      refine (HT1.out _).mono ?_; rintro e w' ⟨rfl, rfl⟩
      go_wp2_with fail
      refine (HT2.out _).mono ?_; rintro e w' ⟨rfl, rfl⟩
      go_wp2_with fail
      refine AB.out.mono ?_
      rintro e w1 ⟨A1, c1, is2, ok, rfl, hr1, hk1, _, _, rfl, rfl⟩
      have Q1 := Lib.hid hr1
      have K1 := Lib.hid hk1
      clear hr1 hk1
      go_wp2_with fail
      refine (AA.out _ _ _ _ _ Q1.out rfl (Nat.le_refl _)).mono ?_
      rintro e w2 ⟨A2, c2, os2, ok, rfl, hr2, hk2, _, _, rfl, rfl⟩
      have Q2 := Lib.hid hr2
      have K2 := Lib.hid (K1.out.trans hk2)
      clear hr2 hk2
      go_wp2_with fail
      refine (behind_any A2 A' _ n' c2 c' os2 ts w2 w2.heap.size w.heap.size Q2.out (H2.out.only K2.out (by simp) (Nat.le_refl _)) (Nat.le_refl _) K2.out.size rfl HN.out (Nat.le_trans HZ.out.2 (by decide))).mono ?_
      rw [HZ.out.1]
      rintro e w3 ⟨A3, c3, rfl, hc3, hm3, hown3, hk3⟩
      have Q3 := Lib.hid (Rd.of_own (by rw [← HZ.out.1]; exact Q2.out.byt.append H2.out.byt) hown3)
      have K3 := Lib.hid (K2.out.trans hk3)
      clear hc3 hm3 hown3 hk3
      go_wp2_with fail
      refine (R1.out _ _ _ _ _ Q3.out rfl).mono ?_
      rintro e w4 ⟨ok, g1, g2, A4, c4, rfl, hr4, hk4, _, hg⟩
      obtain ⟨rfl, rfl, rfl⟩ : ok = true ∧ g1 = false ∧ g2 = ts := hg
      have Q4 := Lib.hid hr4
      have K4 := Lib.hid (K3.out.trans hk4)
      have K34 := Lib.hid hk4
      clear hr4 hk4
      go_wp2_with fail
      refine (R2.out _ _ _ _ _ (Q3.out.only K34.out (by simp) (Nat.le_refl _)) rfl).mono ?_
      rintro e w5 ⟨ok, g3, g4, A5, c5, rfl, hr5, hk5, _, hg⟩
      obtain ⟨rfl, rfl, rfl⟩ : ok = true ∧ g3 = false ∧ g4 = zs := hg
      have Q5 := Lib.hid hr5
      have K5 := Lib.hid (K4.out.trans hk5)
      have K45 := Lib.hid hk5
      have K35 := Lib.hid (K34.out.trans hk5)
      clear hr5 hk5
      go_wp2_with fail
      refine (same_yes _ _ _ _ _ _ g2 g2 _ w4.heap.size w.heap.size (Q4.out.only K45.out (by simp) (Nat.le_refl _)) (H2.out.only K5.out (by simp) (Nat.le_refl _)) rfl HN.out rfl).mono ?_
      rintro e w' ⟨rfl, rfl⟩
      go_wp2_with fail
      refine (same_yes _ _ _ _ _ _ g4 g4 _ w5.heap.size w3.heap.size Q5.out (Q3.out.only K35.out (by simp) (Nat.le_refl _)) rfl rfl rfl).mono ?_
      rintro e w' ⟨rfl, rfl⟩
      go_wp2_with fail
      go_ret
      exact ⟨by simp, K5.out.belowN⟩

end Go.Proofs.Ytpndhbhkmfcgaaa
