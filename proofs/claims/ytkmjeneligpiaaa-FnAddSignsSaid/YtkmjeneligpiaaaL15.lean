/- The laws on integers that are added: walks. -/
import Derived.Test.YtkmjeneligpiaaaBl10
import Derived.Test.YtkmjeneligpiaaaSpI
import Derived.Test.YtkmjeneligpiaaaL1
import Derived.Test.YtkmjeneligpiaaaTag
namespace Go.Proofs.Ytkmjeneligpiaaa
open Go.RowKit

theorem elem_some {tag : Int} (xs : List Int) (h : tag % 32 ≠ 31) : elem tag xs = some (wrapped tag xs) := by unfold elem; rw [if_neg h]

theorem law_FnExactAddInt64 (v : Int) (w : World) (h0 : -9223372036854775808 ≤ v) (h1 : v ≤ 9223372036854775807) :
    Calls Try.prog 3 #[.int .i64 v] w fun e w' => e = .returned (.bool true) ∧ Below w.heap.size w w' := by
  have I := Lib.hid (ImAddInt64_any v w h0 h1)
  rw [elem_some _ (by decide)] at I
  have CO := Lib.hid (fun w => intContents_any v w h0 h1)
  have hL := (iL_is v h0 h1).1
  have WR := Lib.hid (fun A n c w B h hn hB => wrapped_any 2 A n c (octs v) w B h hn hB (by decide) (by rw [octs_len]; omega))
  clear h0 h1 hL
  go_enter Try.func3, Try.ntmps3
  go_wp2_with fail
  refine I.out.mono ?_
  rintro e w1 ⟨A1, c1, ys, ok, rfl, hr1, hk1, _, _, rfl, rfl⟩
  have R1 := Lib.hid hr1
  have K1 := Lib.hid hk1
  clear hr1 hk1 I
  go_wp2_with fail
  refine (CO.out _).mono ?_
  rintro e w2 ⟨A2, c2, rfl, hc2, hm2, hown2, hk2⟩
  have R2 := Lib.hid (Rd.of_own (w := w2) (octs_byt v) hown2)
  have K2 := Lib.hid hk2
  clear hown2 hk2 hc2 hm2
  go_wp2_with fail
  refine (WR.out _ _ _ _ _ R2.out rfl (Nat.le_refl _)).mono ?_
  rintro e w3 ⟨A3, c3, rfl, hc3, hm3, hown3, hk3⟩
  have R3 := Lib.hid (Rd.of_own (w := w3) (R1.out.byt) hown3)
  have K3 := Lib.hid (K2.out.trans hk3)
  clear hown3 hk3 hc3 hm3
  go_wp2_with fail
  refine (same_yes _ _ _ _ _ _ (wrapped 2 (octs v)) (wrapped 2 (octs v)) _ w1.heap.size w3.heap.size (R1.out.only K3.out (by simp) (Nat.le_refl _)) R3.out rfl rfl rfl).mono ?_
  rintro e w' ⟨rfl, rfl⟩
  go_wp2_with fail
  go_ret
  exact ⟨rfl, (K1.out.trans K3.out).belowN⟩

theorem law_FnExactAddInt64WithTag (v tag : Int) (w : World) (h0 : -9223372036854775808 ≤ v) (h1 : v ≤ 9223372036854775807) :
    Calls Try.prog 4 #[.int .i64 v, .int .i64 tag] w fun e w' => e = .returned (.bool true) ∧ Below w.heap.size w w' := by
  by_cases ht : 0 ≤ tag ∧ tag ≤ 255
  case neg =>
    have HT := Lib.hid (fun w => tagOk_no tag w (by omega))
    clear h0 h1 ht
    go_enter Try.func4, Try.ntmps4
    go_wp2_with fail
    refine (HT.out _).mono ?_; rintro e w' ⟨rfl, rfl⟩
    go_wp2_with fail
    go_ret
    exact ⟨rfl, Below.refl _ _⟩
  have HT := Lib.hid (fun w => tagOk_yes tag w ht.1 ht.2)
  have I := Lib.hid (ImAddInt64WithTag_any v tag w h0 h1 ht)
  by_cases h31 : tag % 32 = 31
  · have he : elem tag (octs v) = none := by unfold elem; rw [if_pos h31]
    rw [he] at I
    have htm : (tag % 32 == 31) = true := by rw [h31]; rfl
    have ht0 : 0 ≤ tag := ht.1
    have ht1 : tag ≤ 255 := ht.2
    clear he ht h31 h0 h1
    go_enter Try.func4, Try.ntmps4
    go_wp2_with fail
    refine (HT.out _).mono ?_; rintro e w' ⟨rfl, rfl⟩
    go_wp2_with fail
    refine I.out.mono ?_
    rintro e w1 ⟨A1, c1, ys, ok, rfl, hr1, hk1, _, _, rfl⟩
    have K1 := Lib.hid hk1
    clear hr1 hk1 I
    go_wp2_with fail
    go_ret
    exact ⟨rfl, K1.out.belowN⟩
  rw [elem_some _ h31] at I
  have htm : (tag % 32 == 31) = false := beq_eq_false_iff_ne.2 h31
  have ht0 : 0 ≤ tag := ht.1
  have ht1 : tag ≤ 255 := ht.2
  have CO := Lib.hid (fun w => intContents_any v w h0 h1)
  have hL := (iL_is v h0 h1).1
  have WR := Lib.hid (fun A n c w B h hn hB => wrapped_any tag A n c (octs v) w B h hn hB ht (by rw [octs_len]; omega))
  clear h0 h1 hL ht h31
  go_enter Try.func4, Try.ntmps4
  go_wp2_with fail
  refine (HT.out _).mono ?_; rintro e w' ⟨rfl, rfl⟩
  go_wp2_with fail
  refine I.out.mono ?_
  rintro e w1 ⟨A1, c1, ys, ok, rfl, hr1, hk1, _, _, rfl, rfl⟩
  have R1 := Lib.hid hr1
  have K1 := Lib.hid hk1
  clear hr1 hk1 I
  go_wp2_with fail
  refine (CO.out _).mono ?_
  rintro e w2 ⟨A2, c2, rfl, hc2, hm2, hown2, hk2⟩
  have R2 := Lib.hid (Rd.of_own (w := w2) (octs_byt v) hown2)
  have K2 := Lib.hid hk2
  clear hown2 hk2 hc2 hm2
  go_wp2_with fail
  refine (WR.out _ _ _ _ _ R2.out rfl (Nat.le_refl _)).mono ?_
  rintro e w3 ⟨A3, c3, rfl, hc3, hm3, hown3, hk3⟩
  have R3 := Lib.hid (Rd.of_own (w := w3) (R1.out.byt) hown3)
  have K3 := Lib.hid (K2.out.trans hk3)
  clear hown3 hk3 hc3 hm3
  go_wp2_with fail
  refine (same_yes _ _ _ _ _ _ (wrapped tag (octs v)) (wrapped tag (octs v)) _ w1.heap.size w3.heap.size (R1.out.only K3.out (by simp) (Nat.le_refl _)) R3.out rfl rfl rfl).mono ?_
  rintro e w' ⟨rfl, rfl⟩
  go_wp2_with fail
  go_ret
  exact ⟨rfl, (K1.out.trans K3.out).belowN⟩

theorem law_FnAddSigns (v : Int) (w : World) (h1 : v ≤ 9223372036854775807) :
    Calls Try.prog 5 #[.int .i64 v] w fun e w' => e = .returned (.bool true) ∧ Below w.heap.size w w' := by
  by_cases h0 : v < 0
  · clear h1
    go_enter Try.func5, Try.ntmps5
    go_wp2_with fail
    go_ret
    exact ⟨rfl, Below.refl _ _⟩
  have I := Lib.hid (ImAddInt64_any v w (by omega) h1)
  have J := Lib.hid (fun w => ImAddUint_any v w (by omega) (by omega))
  rw [elem_some _ (by decide)] at I J
  have hwt : IntKind.u64.wrap v = v := wrap_id_u64 v (by omega) (by omega)
  have E : Hid (octs v = uocts v) := Lib.hid (by unfold octs uocts; rw [uL_iL v (by omega) h1])
  clear h1
  go_enter Try.func5, Try.ntmps5
  go_wp2_with fail
  refine I.out.mono ?_
  rintro e w1 ⟨A1, c1, ys, ok, rfl, hr1, hk1, _, _, rfl, rfl⟩
  have R1 := Lib.hid hr1
  have K1 := Lib.hid hk1
  clear hr1 hk1 I
  go_wp2_with fail
  refine (J.out _).mono ?_
  rintro e w2 ⟨A2, c2, zs, ok, rfl, hr2, hk2, _, _, rfl, rfl⟩
  have R2 := Lib.hid hr2
  have K2 := Lib.hid hk2
  clear hr2 hk2 J
  go_wp2_with fail
  refine (same_yes _ _ _ _ _ _ (wrapped 2 (octs v)) (wrapped 2 (uocts v)) _ w1.heap.size w2.heap.size (R1.out.only K2.out (by simp) (Nat.le_refl _)) R2.out rfl rfl (by rw [E.out])).mono ?_
  rintro e w' ⟨rfl, rfl⟩
  go_wp2_with fail
  go_ret
  exact ⟨rfl, (K1.out.trans K2.out).belowN⟩

end Go.Proofs.Ytkmjeneligpiaaa
