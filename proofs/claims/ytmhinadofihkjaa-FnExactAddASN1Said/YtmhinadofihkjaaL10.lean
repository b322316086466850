/- The laws on bytes added behind their length, and on elements that are added: walks. -/
import Derived.Test.YtmhinadofihkjaaBl8
import Derived.Test.YtmhinadofihkjaaL1
import Derived.BigFrame
import Derived.Maps.AppendAt
namespace Go.Proofs.Ytmhinadofihkjaa
open Go.RowKit

theorem Copied.row {w w' : World} {xs : List Int} {A : Option Addr} {c : Nat} (hx : Byt xs) (h : w'.ownsRow w.heap.size 5 1 (.slice A xs.length c) xs.length (xs.map (Value.int .u8))) : Row w' w.heap.size (.slice A xs.length c) xs := ⟨hx, h⟩
/-- Appending bytes that are read to a row of one's own, at an operation whose guard says yes. -/
theorem wpList_rowG {ops : Array Oper} {rest : List Oper} {o : Oper} {a : Act} {w : World} {Q : Exit → Act → World → Prop} (hgd : Region.wanted o (yielded ops a.tmps) = true) (s x : Operand)
    (ho : o.op = .call { callee := .builtin .append, args := #[s, x], argTypes := #[22, 22] }) (hty : o.type = 22) (base B : Nat) (v : Value) (ys xs : List Int) (A : Option Addr) (n c : Nat)
    (hs : a.eval s = v) (hx : a.eval x = .slice A n c) (hr : Row w base v ys) (hrd : Rd w B A xs) (hn : n = xs.length) (hb : base ≤ w.heap.size) (hl : ys.length + xs.length ≤ 140737488355328)
    (h : ∀ v' w1, Row w1 base v' (ys ++ xs) → Only (own v) w w1 → (v'.ownBlock = v.ownBlock ∨ ∀ k ∈ own v', w.heap.size ≤ k) → wpList Try.prog ops Q rest (a.put o.dst v') w1) :
    wpList Try.prog ops Q (o :: rest) a w := by
  subst hn
  obtain ⟨i0, hi, hz0, hz1, hz2⟩ := info_parts u8_info
  have hcells := rd_cells hrd
  refine BigFrame.wpList_want hgd fun K hK => ?_
  rcases A with _ | ad
  · have h0 : xs = [] := by
      rcases xs with _ | ⟨x, xs⟩
      · rfl
      · obtain ⟨_, _, e', _⟩ := hrd.2 (by simp)
        cases e'
    subst h0
    have hq := h v w (by rw [List.append_nil]; exact hr) (Only.refl _ _) (.inl rfl)
    have hx0 : a.eval x = .slice none 0 c := hx
    unfold Oper.wp execOp
    simp only [ho, hty, resolve, invoke, builtin, Sem.run_bind, Sem.run_pure, Result.andThen_ok, List.map_toArray, List.map_cons, List.map_nil, hs, hx0, append_none w base v ys c hr]
    exact hK _ _ hq
  · obtain ⟨v', w', hr', h2, h3, _, h5⟩ := run_append_own_at (P := Try.prog) w base 22 o.type 5 i0 (.int .u8 0) 1 1 Try.underlying22 hi hz0 hz1 hz2 rfl (by decide) v ys.length (ys.map (Value.int .u8)) hr.2 ad xs.length c (xs.map (Value.int .u8)) (by simp) (hcells ad rfl) (Byt.oneCells xs) (by unfold maxLen; omega) (by omega) hb
    unfold Oper.wp execOp
    simp only [ho, resolve, invoke, builtin, Sem.run_bind, Sem.run_pure, Result.andThen_ok, List.map_toArray, List.map_cons, List.map_nil, hs, hx, hr']
    refine hK _ _ (h v' w' ⟨hr.1.append hrd.byt, by simpa using h2⟩ (Only.grown h3 (fun k hk _ => by simp [own, hk])) ?_)
    rcases h5 with e | e
    · exact .inl e
    · refine .inr fun k hk => ?_
      simp [own, e] at hk
      omega

theorem law_FnExactAdd8Prefixed (A : Option Addr) (n c : Nat) (xs : List Int) (w : World) (h : Rd w w.heap.size A xs) (hn : n = xs.length) (_hc : n ≤ c) (_hcm : c ≤ maxLen) :
    Calls Try.prog 10 #[.slice A n c] w fun e w' => e = .returned (.bool true) ∧ Below w.heap.size w w' := by
  by_cases hbig : 1048576 < n
  · clear h hn
    have F := fun w => fits_no A n c w hbig
    have HF := Lib.hid F
    clear F
    by_cases hz : 2147483647 < n
    · go_enter Try.func10, Try.ntmps10
      go_wp2_with fail
      go_ret
      exact ⟨rfl, Below.refl _ _⟩
    · go_enter Try.func10, Try.ntmps10
      go_wp2_with fail
      refine (HF.out _).mono ?_; rintro e w' ⟨rfl, rfl⟩
      go_wp2_with fail
      go_ret
      exact ⟨rfl, Below.refl _ _⟩
  have F := fun w => fits_yes A n c w (by omega)
  have HF := Lib.hid F
  clear F
  have hz : n ≤ 2147483647 := by omega
  have I := Lib.hid (ImAdd8Prefixed_any A n c xs w _ h hn (Nat.le_refl _) (by omega))
  have HY := Lib.hid h.byt
  have HH := Lib.hid h
  have HN := Lib.hid hn
  have hn2 : n ≤ 1048576 := by omega
  by_cases h256 : 256 ≤ n
  · have hfl : (fl false 1 xs.length).map (· ++ xs) = none := by
      unfold fl
      rw [if_neg (by decide), if_neg (by omega)]
      rfl
    rw [hfl] at I
    have hd : decide ((256 : Int) ≤ (n : Int)) = true := decide_eq_true (by omega)
    clear h hn hbig hfl h256
    go_enter Try.func10, Try.ntmps10
    go_wp2_with fail
    refine (HF.out _).mono ?_; rintro e w' ⟨rfl, rfl⟩
    go_wp2_with fail
    refine I.out.mono ?_
    rintro e w1 ⟨A1, c1, ys, ok, rfl, hr1, hk1, _, _, rfl⟩
    have K1 := Lib.hid hk1
    clear hr1 hk1 I
    go_wp2_with fail
    go_ret
    exact ⟨rfl, K1.out.belowN⟩
  have hfl : (fl false 1 xs.length).map (· ++ xs) = some (bigB n 1 ++ xs) := by
    unfold fl
    rw [if_neg (by decide), if_pos (by omega), ← hn]
    rfl
  rw [hfl] at I
  have BG := Lib.hid (fun w => big_any n 1 w (by omega) (by omega) (by decide))
  have hwt : IntKind.u64.wrap (n : Int) = n := by simp [IntKind.wrap, IntKind.bits, IntKind.signed]; omega
  clear h hn hbig hfl
  have hd : decide ((256 : Int) ≤ (n : Int)) = false := decide_eq_false (by omega)
  clear h256
  go_enter Try.func10, Try.ntmps10
  go_wp2_with fail
  refine (HF.out _).mono ?_; rintro e w' ⟨rfl, rfl⟩
  go_wp2_with fail
  refine I.out.mono ?_
  rintro e w1 ⟨A1, c1, ys, ok, rfl, hr1, hk1, _, _, rfl, rfl⟩
  have R1 := Lib.hid hr1
  have K1 := Lib.hid hk1
  clear hr1 hk1 I
  go_wp2_with fail
  refine (BG.out _).mono ?_
  rintro e w2 ⟨A2, c2, rfl, hc2, hm2, hown2, hk2⟩
  have RW2 := Lib.hid (Copied.row (bigB_byt _ _) hown2)
  have K2 := Lib.hid hk2
  clear hown2 hk2 hc2 hm2
  go_wp2_with (at_builtin; refine wpList_rowG rfl _ _ rfl rfl w1.heap.size w.heap.size _ (bigB n 1) xs A n c rfl rfl RW2.out (HH.out.only (K1.out.trans K2.out) (by simp) (Nat.le_refl _)) HN.out ?x1 ?x2 ?_)
  case x1 => exact K2.out.size
  case x2 => rw [bigB_len]; have := HN.out; omega
  intro v3 w3 hr3 hk3 _
  obtain ⟨A3, c3, rfl, _, _, _⟩ := hr3.form
  have R3 := Lib.hid (hr3.rd rfl)
  have K3 : Hid (Only [] w1 w3) := Lib.hid (K2.out.then hk3 (fun i hi hlt => by have := RW2.out.low i hi; omega))
  clear hr3 hk3
  go_wp2_with fail
  refine (same_yes _ _ _ _ _ _ (bigB n 1 ++ xs) (bigB n 1 ++ xs) _ w1.heap.size w3.heap.size (R1.out.only K3.out (by simp) (Nat.le_refl _)) R3.out (by simp) (by simp) rfl).mono ?_
  rintro e w' ⟨rfl, rfl⟩
  go_wp2_with fail
  go_ret
  exact ⟨rfl, (K1.out.trans K3.out).belowN⟩

theorem law_FnExactAdd24Prefixed (A : Option Addr) (n c : Nat) (xs : List Int) (w : World) (h : Rd w w.heap.size A xs) (hn : n = xs.length) (_hc : n ≤ c) (_hcm : c ≤ maxLen) :
    Calls Try.prog 9 #[.slice A n c] w fun e w' => e = .returned (.bool true) ∧ Below w.heap.size w w' := by
  by_cases hbig : 1048576 < n
  · clear h hn
    have F := fun w => fits_no A n c w hbig
    have HF := Lib.hid F
    clear F
    by_cases hz : 2147483647 < n
    · go_enter Try.func9, Try.ntmps9
      go_wp2_with fail
      go_ret
      exact ⟨rfl, Below.refl _ _⟩
    · go_enter Try.func9, Try.ntmps9
      go_wp2_with fail
      refine (HF.out _).mono ?_; rintro e w' ⟨rfl, rfl⟩
      go_wp2_with fail
      go_ret
      exact ⟨rfl, Below.refl _ _⟩
  have F := fun w => fits_yes A n c w (by omega)
  have HF := Lib.hid F
  clear F
  have hz : n ≤ 2147483647 := by omega
  have I := Lib.hid (ImAdd24Prefixed_any A n c xs w _ h hn (Nat.le_refl _) (by omega))
  have HY := Lib.hid h.byt
  have HH := Lib.hid h
  have HN := Lib.hid hn
  have hn2 : n ≤ 1048576 := by omega
  have hfl : (fl false 3 xs.length).map (· ++ xs) = some (bigB n 3 ++ xs) := by
    unfold fl
    rw [if_neg (by decide), if_pos (by omega), ← hn]
    rfl
  rw [hfl] at I
  have BG := Lib.hid (fun w => big_any n 3 w (by omega) (by omega) (by decide))
  have hwt : IntKind.u64.wrap (n : Int) = n := by simp [IntKind.wrap, IntKind.bits, IntKind.signed]; omega
  clear h hn hbig hfl
  go_enter Try.func9, Try.ntmps9
  go_wp2_with fail
  refine (HF.out _).mono ?_; rintro e w' ⟨rfl, rfl⟩
  go_wp2_with fail
  refine I.out.mono ?_
  rintro e w1 ⟨A1, c1, ys, ok, rfl, hr1, hk1, _, _, rfl, rfl⟩
  have R1 := Lib.hid hr1
  have K1 := Lib.hid hk1
  clear hr1 hk1 I
  go_wp2_with fail
  refine (BG.out _).mono ?_
  rintro e w2 ⟨A2, c2, rfl, hc2, hm2, hown2, hk2⟩
  have RW2 := Lib.hid (Copied.row (bigB_byt _ _) hown2)
  have K2 := Lib.hid hk2
  clear hown2 hk2 hc2 hm2
  go_wp2_with (at_builtin; refine wpList_rowG rfl _ _ rfl rfl w1.heap.size w.heap.size _ (bigB n 3) xs A n c rfl rfl RW2.out (HH.out.only (K1.out.trans K2.out) (by simp) (Nat.le_refl _)) HN.out ?x1 ?x2 ?_)
  case x1 => exact K2.out.size
  case x2 => rw [bigB_len]; have := HN.out; omega
  intro v3 w3 hr3 hk3 _
  obtain ⟨A3, c3, rfl, _, _, _⟩ := hr3.form
  have R3 := Lib.hid (hr3.rd rfl)
  have K3 : Hid (Only [] w1 w3) := Lib.hid (K2.out.then hk3 (fun i hi hlt => by have := RW2.out.low i hi; omega))
  clear hr3 hk3
  go_wp2_with fail
  refine (same_yes _ _ _ _ _ _ (bigB n 3 ++ xs) (bigB n 3 ++ xs) _ w1.heap.size w3.heap.size (R1.out.only K3.out (by simp) (Nat.le_refl _)) R3.out (by simp) (by simp) rfl).mono ?_
  rintro e w' ⟨rfl, rfl⟩
  go_wp2_with fail
  go_ret
  exact ⟨rfl, (K1.out.trans K3.out).belowN⟩

theorem law_FnExactAddASN1 (tag : Int) (A : Option Addr) (n c : Nat) (xs : List Int) (w : World) (h : Rd w w.heap.size A xs) (hn : n = xs.length) (_hc : n ≤ c) (_hcm : c ≤ maxLen) :
    Calls Try.prog 14 #[.int .i64 tag, .slice A n c] w fun e w' => e = .returned (.bool true) ∧ Below w.heap.size w w' := by
  by_cases hz0 : 2147483647 < n
  · clear h hn
    go_enter Try.func14, Try.ntmps14
    go_wp2_with fail
    go_ret
    exact ⟨rfl, Below.refl _ _⟩
  have hz : n ≤ 2147483647 := by omega
  clear hz0
  by_cases ht : 0 ≤ tag ∧ tag ≤ 255
  case neg =>
    have HT := Lib.hid (fun w => tagOk_no tag w (by omega))
    clear h hn ht
    go_enter Try.func14, Try.ntmps14
    go_wp2_with fail
    refine (HT.out _).mono ?_; rintro e w' ⟨rfl, rfl⟩
    go_wp2_with fail
    go_ret
    exact ⟨rfl, Below.refl _ _⟩
  have HT := Lib.hid (fun w => tagOk_yes tag w ht.1 ht.2)
  by_cases hbig : 1048576 < n
  · have HF := Lib.hid (fun w => fits_no A n c w hbig)
    clear h hn ht
    go_enter Try.func14, Try.ntmps14
    go_wp2_with fail
    refine (HT.out _).mono ?_; rintro e w' ⟨rfl, rfl⟩
    go_wp2_with fail
    refine (HF.out _).mono ?_; rintro e w' ⟨rfl, rfl⟩
    go_wp2_with fail
    go_ret
    exact ⟨rfl, Below.refl _ _⟩
  have HF := Lib.hid (fun w => fits_yes A n c w (by omega))
  have I := Lib.hid (ImAddASN1_any tag A n c xs w _ ht h hn (Nat.le_refl _) (by omega))
  have HH := Lib.hid h
  by_cases h31 : tag % 32 = 31
  · have he : elem tag xs = none := by unfold elem; rw [if_pos h31]
    rw [he] at I
    have htm : (tag % 32 == 31) = true := by rw [h31]; rfl
    have ht0 : 0 ≤ tag := ht.1
    have ht1 : tag ≤ 255 := ht.2
    clear h hn hbig he ht h31
    go_enter Try.func14, Try.ntmps14
    go_wp2_with fail
    refine (HT.out _).mono ?_; rintro e w' ⟨rfl, rfl⟩
    go_wp2_with fail
    refine (HF.out _).mono ?_; rintro e w' ⟨rfl, rfl⟩
    go_wp2_with fail
    refine I.out.mono ?_
    rintro e w1 ⟨A1, c1, ys, ok, rfl, hr1, hk1, _, _, rfl⟩
    have K1 := Lib.hid hk1
    clear hr1 hk1 I
    go_wp2_with fail
    go_ret
    exact ⟨rfl, K1.out.belowN⟩
  have he : elem tag xs = some (wrapped tag xs) := by unfold elem; rw [if_neg h31]
  rw [he] at I
  have htm : (tag % 32 == 31) = false := beq_eq_false_iff_ne.2 h31
  have ht0 : 0 ≤ tag := ht.1
  have ht1 : tag ≤ 255 := ht.2
  have WR := Lib.hid (fun w B h hB => wrapped_any tag A n c xs w B h hn hB ht (by omega))
  clear h hn hbig he ht h31
  go_enter Try.func14, Try.ntmps14
  go_wp2_with fail
  refine (HT.out _).mono ?_; rintro e w' ⟨rfl, rfl⟩
  go_wp2_with fail
  refine (HF.out _).mono ?_; rintro e w' ⟨rfl, rfl⟩
  go_wp2_with fail
  refine I.out.mono ?_
  rintro e w1 ⟨A1, c1, ys, ok, rfl, hr1, hk1, _, _, rfl, rfl⟩
  have R1 := Lib.hid hr1
  have K1 := Lib.hid hk1
  clear hr1 hk1 I
  go_wp2_with fail
  refine (WR.out _ _ (HH.out.only K1.out (by simp) (Nat.le_refl _)) K1.out.size).mono ?_
  rintro e w2 ⟨A2, c2, rfl, hc2, hm2, hown2, hk2⟩
  have R2 := Lib.hid (Rd.of_own (w := w2) (R1.out.byt) hown2)
  have K2 := Lib.hid hk2
  clear hown2 hk2 hc2 hm2
  go_wp2_with fail
  refine (same_yes _ _ _ _ _ _ (wrapped tag xs) (wrapped tag xs) _ w1.heap.size w2.heap.size (R1.out.only K2.out (by simp) (Nat.le_refl _)) R2.out rfl rfl rfl).mono ?_
  rintro e w' ⟨rfl, rfl⟩
  go_wp2_with fail
  go_ret
  exact ⟨rfl, (K1.out.trans K2.out).belowN⟩

theorem law_FnExactAddOctets (A : Option Addr) (n c : Nat) (xs : List Int) (w : World) (h : Rd w w.heap.size A xs) (hn : n = xs.length) (_hc : n ≤ c) (_hcm : c ≤ maxLen) :
    Calls Try.prog 15 #[.slice A n c] w fun e w' => e = .returned (.bool true) ∧ Below w.heap.size w w' := by
  by_cases hbig : 1048576 < n
  · clear h hn
    have F := fun w => fits_no A n c w hbig
    have HF := Lib.hid F
    clear F
    by_cases hz : 2147483647 < n
    · go_enter Try.func15, Try.ntmps15
      go_wp2_with fail
      go_ret
      exact ⟨rfl, Below.refl _ _⟩
    · go_enter Try.func15, Try.ntmps15
      go_wp2_with fail
      refine (HF.out _).mono ?_; rintro e w' ⟨rfl, rfl⟩
      go_wp2_with fail
      go_ret
      exact ⟨rfl, Below.refl _ _⟩
  have F := fun w => fits_yes A n c w (by omega)
  have HF := Lib.hid F
  clear F
  have hz : n ≤ 2147483647 := by omega
  have I := Lib.hid (ImAddOctets_any A n c xs w _ h hn (Nat.le_refl _) (by omega))
  have HH := Lib.hid h
  have WR := Lib.hid (fun w B h hB => wrapped_any 4 A n c xs w B h hn hB (by decide) (by omega))
  clear h hn hbig
  go_enter Try.func15, Try.ntmps15
  go_wp2_with fail
  refine (HF.out _).mono ?_; rintro e w' ⟨rfl, rfl⟩
  go_wp2_with fail
  refine I.out.mono ?_
  rintro e w1 ⟨A1, c1, ys, ok, rfl, hr1, hk1, _, _, rfl, rfl⟩
  have R1 := Lib.hid hr1
  have K1 := Lib.hid hk1
  clear hr1 hk1 I
  go_wp2_with fail
  refine (WR.out _ _ (HH.out.only K1.out (by simp) (Nat.le_refl _)) K1.out.size).mono ?_
  rintro e w2 ⟨A2, c2, rfl, hc2, hm2, hown2, hk2⟩
  have R2 := Lib.hid (Rd.of_own (w := w2) (R1.out.byt) hown2)
  have K2 := Lib.hid hk2
  clear hown2 hk2 hc2 hm2
  go_wp2_with fail
  refine (same_yes _ _ _ _ _ _ (wrapped 4 xs) (wrapped 4 xs) _ w1.heap.size w2.heap.size (R1.out.only K2.out (by simp) (Nat.le_refl _)) R2.out rfl rfl rfl).mono ?_
  rintro e w' ⟨rfl, rfl⟩
  go_wp2_with fail
  go_ret
  exact ⟨rfl, (K1.out.trans K2.out).belowN⟩

end Go.Proofs.Ytmhinadofihkjaa
