/- The laws on object identifiers that are read: walks. -/
import Derived.Test.YtlnoeipbbncnfaaIm6
import Derived.Test.YtlnoeipbbncnfaaSpA2
import Derived.Test.YtlnoeipbbncnfaaSp4
import Derived.Test.YtlnoeipbbncnfaaL1
import Derived.Test.YtlnoeipbbncnfaaBl14
import Derived.Test.YtlnoeipbbncnfaaSpR
namespace Go.Proofs.Ytlnoeipbbncnfaa
open Go.RowKit

theorem ra_len : ∀ (xs : List Int) (i : Nat) (n : Int) (m : List Int), ra i n xs = some m → m.length ≤ xs.length
  | [], i, n, m, h => by
    unfold ra at h
    split at h
    · simp only [Option.some.injEq] at h
      subst h
      simp
    · cases h
  | b :: bs, i, n, m, h => by
    unfold ra at h
    split at h
    · cases h
    · split at h
      · cases hr : ra 0 0 bs with
        | none => rw [hr] at h; cases h
        | some l =>
          rw [hr] at h
          simp only [Option.map_some, Option.some.injEq] at h
          subst h
          have := ra_len bs 0 0 l hr
          simp; omega
      · have := ra_len bs (i + 1) _ m h
        simp; omega
theorem oidOf_bd {cc o : List Int} (h : oidOf cc = some o) : (∀ v ∈ o, v ≤ 2147483647) ∧ o.length ≤ cc.length + 1 := by
  unfold oidOf at h
  split at h
  · cases h
  · rename_i hne
    cases hr : ra 0 0 cc with
    | none => rw [hr] at h; cases h
    | some m =>
      rw [hr] at h
      simp only [Option.map_some, Option.some.injEq] at h
      subst h
      have hb := ra_bd cc 0 0 m hr (by omega)
      have hl := ra_len cc 0 0 m hr
      cases m with
      | nil => exact ⟨fun v hv => by simp [oidOfList] at hv, by simp [oidOfList]⟩
      | cons a ar =>
        refine ⟨fun v hv => ?_, ?_⟩
        · have ha := hb a (by simp)
          unfold oidOfList at hv
          rcases List.mem_append.1 hv with hv | hv
          · split at hv
            · simp at hv; omega
            · split at hv <;> simp at hv <;> omega
          · exact (hb v (by simp [hv])).2
        · rw [oidOfList_len]
          simp at hl
          omega
theorem right_valid {o : List Int} (h : oidRight o = true) : validOID o = true := by
  unfold oidRight at h
  unfold validOID
  simp only [decide_eq_true_eq] at h ⊢
  obtain ⟨h1, h2, h3, h4, h5, h6⟩ := h
  refine ⟨h1, h3, by omega, ?_⟩
  intro v hv
  rcases o with _ | ⟨x, xs⟩
  · simp at hv
  · rcases List.mem_cons.1 hv with rfl | hv
    · simpa using h2
    · exact (h6 v (by simpa using hv)).1
theorem asOfO {xs r : List Int} {tag : Int} {o : List Int} (h : asOf oidOf xs tag = some (o, r)) : ∃ cc, firstOf xs tag = some (cc, r) ∧ oidOf cc = some o := by
  unfold asOf at h
  split at h
  · rename_i c r' hf
    cases hv : oidOf c with
    | none => rw [hv] at h; cases h
    | some u =>
      rw [hv] at h
      simp only [Option.map_some, Option.some.injEq, Prod.mk.injEq] at h
      obtain ⟨rfl, rfl⟩ := h
      exact ⟨c, hf, hv⟩
  · cases h

theorem isOID_no (A : Option Addr) (n c : Nat) (xs : List Int) (w : World) (B : Nat) (h : Rd w B A xs) (hn : n = xs.length) (hnc : n ≤ c) (hcm : c ≤ maxLen) (hBw : B ≤ w.heap.size) (hb : xs.length ≤ 4194304) (hno : asOf oidOf xs 6 = none) :
    Calls Try.prog 16 #[.slice A n c] w fun e w' => e = .returned (.bool false) ∧ Only [] w w' := by
  have H := Lib.hid (firstOf_any A n c xs 6 w B h hn hnc hcm hBw hb)
  have HXL := Lib.hid hb
  have HNil : Hid (oidOf [] = none) := Lib.hid (by simp [oidOf])
  have HNO := Lib.hid hno
  have HBW := Lib.hid hBw
  clear h hn hnc hBw hb hcm hno
  go_enter Try.func16, Try.ntmps16
  go_wp2_with fail
  refine H.out.mono ?_
  intro e w1 hF
  unfold FirstOfSaid at hF
  obtain ⟨hk, hF⟩ := hF
  have K := Lib.hid hk
  revert hF
  clear hk H
  cases hf : firstOf xs 6 with
  | none =>
    intro hF
    subst hF
    clear hf
    go_wp2_with fail
    refine (oidOf_any none 0 0 [] w1 (Rd.nil _ _ _) rfl (by simp)).mono ?_
    rintro e w' ⟨A5, n5, c5, large, is, rfl, hk9, hor⟩
    have K := Lib.hid (K.out.trans hk9)
    clear hk9 hor
    go_wp2_with fail
    go_ret
    exact ⟨rfl, K.out⟩
  | some q =>
    obtain ⟨cc, r⟩ := q
    rintro ⟨A1, k1, A2, k2, rfl, hk3, _, hm3, _, hr3, _⟩
    have HCL := Lib.hid (Nat.le_trans (firstOf_le hf).1 HXL.out)
    have R3 := Lib.hid hr3
    have HQ : Hid (oidOf cc = none) := Lib.hid (by have := HNO.out; unfold asOf at this; rw [hf] at this; simpa using this)
    clear hf hr3 hk3 hm3
    go_wp2_with fail
    refine (oidOf_any A1 _ k1 cc w1 (R3.out.more (Nat.le_trans HBW.out K.out.size)) rfl HCL.out).mono ?_
    rintro e w' ⟨A5, n5, c5, large, is, rfl, hk9, hor⟩
    have K := Lib.hid (K.out.trans hk9)
    clear hk9
    rw [HQ.out] at hor
    rcases hor with rfl | ⟨rfl, hor⟩
    · cases is with
      | false =>
        go_wp2_with fail
        go_ret
        exact ⟨rfl, K.out⟩
      | true =>
        go_wp2_with fail
        go_ret
        exact ⟨rfl, K.out⟩
    · have hor : is = false := hor
      subst hor
      go_wp2_with fail
      go_ret
      exact ⟨rfl, K.out⟩

theorem law_FnExactReadOID (A : Option Addr) (n c : Nat) (xs : List Int) (w : World) (h : Rd w w.heap.size A xs) (hn : n = xs.length) (hc : n ≤ c) (_hcm : c ≤ maxLen) :
    Calls Try.prog 3 #[.slice A n c] w fun e w' => e = .returned (.bool true) ∧ Below w.heap.size w w' := by
  by_cases hbig : 1048576 < n
  · clear h hn
    have F := fun w => fits_no A n c w hbig
    have HF := Lib.hid F
    clear F
    by_cases hz : 2147483647 < n
    · go_enter Try.func3, Try.ntmps3
      go_wp2_with fail
      go_ret
      exact ⟨rfl, Below.refl _ _⟩
    · go_enter Try.func3, Try.ntmps3
      go_wp2_with fail
      refine (HF.out _).mono ?_; rintro e w' ⟨rfl, rfl⟩
      go_wp2_with fail
      go_ret
      exact ⟨rfl, Below.refl _ _⟩
  have F := fun w => fits_yes A n c w (by omega)
  have HF := Lib.hid F
  clear F
  have hz : n ≤ 2147483647 := by omega
  have I := Lib.hid (fun w B h => ImReadOID_of A n c xs w B h hn (by omega))
  have FO := Lib.hid (fun w B h hB => firstOf_any A n c xs 6 w B h hn hc _hcm hB (by omega))
  have HNil : Hid (oidOf [] = none) := Lib.hid (by simp [oidOf])
  have HH := Lib.hid h
  have HXL : Hid (xs.length ≤ 4194304) := Lib.hid (by omega)
  clear h hn hbig
  go_enter Try.func3, Try.ntmps3
  go_wp2_with fail
  refine (HF.out _).mono ?_; rintro e w' ⟨rfl, rfl⟩
  go_wp2_with fail
  refine (I.out _ _ HH.out).mono ?_
  rintro e w1 ⟨ok, v, ys, A1, c1, A2, c2, rfl, hr1, hr2, hk1, hvl, _, hg⟩
  have R1 := Lib.hid hr1
  have R2 := Lib.hid hr2
  have K1 := Lib.hid hk1
  have HVL := Lib.hid hvl
  clear hr1 hr2 hk1 hvl
  unfold asOf at hg
  go_wp2_with fail
  refine (FO.out _ _ (HH.out.only K1.out (by simp) (Nat.le_refl _)) K1.out.size).mono ?_
  intro e w2 hF
  unfold FirstOfSaid at hF
  obtain ⟨hk2, hF⟩ := hF
  have K2 := Lib.hid (K1.out.trans hk2)
  have KK := Lib.hid hk2
  revert hF hg
  clear hk2
  cases hf : firstOf xs 6 with
  | none =>
    intro hg hF
    have hg : ok = false := hg
    subst hg hF
    clear hf
    go_wp2_with fail
    refine (oidOf_any none 0 0 [] w2 (Rd.nil _ _ _) rfl (by simp)).mono ?_
    rintro e w9 ⟨A5, n5, c5, large, is, rfl, hk9, hor⟩
    have K9 := Lib.hid hk9
    clear hk9 hor
    go_wp2_with fail
    go_ret
    exact ⟨rfl, (K2.out.trans K9.out).belowN⟩
  | some q =>
    obtain ⟨cc, r⟩ := q
    intro hg
    rintro ⟨A3, k3, A4, k4, rfl, hk3, _, hm3, _, hr3, hr4⟩
    have R3 := Lib.hid hr3
    have R4 := Lib.hid hr4
    have HCL := Lib.hid (Nat.le_trans (firstOf_le hf).1 HXL.out)
    clear hr3 hr4 hk3 hm3 hf
    go_wp2_with fail
    refine (oidOf_any A3 _ k3 cc w2 (R3.out.more K2.out.size) rfl HCL.out).mono ?_
    rintro e w9 ⟨A5, n5, c5, large, is, rfl, hk9, hor⟩
    have K9 := Lib.hid hk9
    clear hk9
    rcases hor with rfl | ⟨rfl, hor⟩
    · clear hg
      go_wp2_with fail
      go_ret
      exact ⟨rfl, (K2.out.trans K9.out).belowN⟩
    · revert hor hg
      cases ho : oidOf cc with
      | none =>
        intro hg hor
        have hg : ok = false := hg
        have hor : is = false := hor
        subst hg hor
        go_wp2_with fail
        go_ret
        exact ⟨rfl, (K2.out.trans K9.out).belowN⟩
      | some o =>
        intro hg hor
        obtain ⟨rfl, rfl, rfl⟩ : ok = true ∧ v = o ∧ ys = r := hg
        obtain ⟨rfl, rfl, hR5⟩ : is = true ∧ n5 = v.length ∧ RowI w9 w2.heap.size (.slice A5 n5 c5) v := hor
        have R5 := Lib.hid (hR5.rd rfl)
        have R9 := Lib.hid (R4.out.only K9.out (by simp) K2.out.size)
        clear hR5 ho
        go_wp2_with fail
        refine (sameInts_yes _ _ _ _ _ _ v v _ w1.heap.size w9.heap.size (R1.out.only (KK.out.trans K9.out) (by simp) (Nat.le_refl _)) R5.out rfl rfl rfl (by have := HVL.out; omega)).mono ?_
        rintro e w' ⟨rfl, m, rfl⟩
        go_wp2_with fail
        refine (same_yes _ _ _ _ _ _ ys ys _ w1.heap.size w.heap.size ((R2.out.only (KK.out.trans K9.out) (by simp) (Nat.le_refl _)).drewN m) (R9.out.drewN m) rfl rfl rfl).mono ?_
        rintro e w' ⟨rfl, rfl⟩
        go_wp2_with fail
        go_ret
        exact ⟨rfl, ((K2.out.trans K9.out).drewN m).belowN⟩

theorem law_FnAgainOID (A : Option Addr) (n c : Nat) (xs : List Int) (w : World) (h : Rd w w.heap.size A xs) (hn : n = xs.length) (hc : n ≤ c) (_hcm : c ≤ maxLen) :
    Calls Try.prog 5 #[.slice A n c] w fun e w' => e = .returned (.bool true) ∧ Below w.heap.size w w' := by
  by_cases hbig : 1048576 < n
  · clear h hn
    have F := fun w => fits_no A n c w hbig
    have HF := Lib.hid F
    clear F
    by_cases hz : 2147483647 < n
    · go_enter Try.func5, Try.ntmps5
      go_wp2_with fail
      go_ret
      exact ⟨rfl, Below.refl _ _⟩
    · go_enter Try.func5, Try.ntmps5
      go_wp2_with fail
      refine (HF.out _).mono ?_; rintro e w' ⟨rfl, rfl⟩
      go_wp2_with fail
      go_ret
      exact ⟨rfl, Below.refl _ _⟩
  have F := fun w => fits_yes A n c w (by omega)
  have HF := Lib.hid F
  clear F
  have hz : n ≤ 2147483647 := by omega
  have I := Lib.hid (fun w B h => ImReadOID_of A n c xs w B h hn (by omega))
  have TG := Lib.hid (fun w B h hB hno => isOID_no A n c xs w B h hn hc _hcm hB (by omega) hno)
  have HH := Lib.hid h
  have HN := Lib.hid hn
  have HXL : Hid (xs.length ≤ 1048576) := Lib.hid (by omega)
  clear h hn hbig hc _hcm
  go_enter Try.func5, Try.ntmps5
  go_wp2_with fail
  refine (HF.out _).mono ?_; rintro e w' ⟨rfl, rfl⟩
  go_wp2_with fail
  refine (I.out _ _ HH.out).mono ?_
  rintro e w1 ⟨ok, v, ys, A1, c1, A2, c2, rfl, hr1, hr2, hk1, _, _, hg⟩
  have R1 := Lib.hid hr1
  have R2 := Lib.hid hr2
  have K1 := Lib.hid hk1
  clear hr1 hr2 hk1
  cases hs : asOf oidOf xs 6 with
  | none =>
    rw [hs] at hg
    have hg : ok = false := hg
    subst hg
    have TG1 := Lib.hid (TG.out w1 _ (HH.out.only K1.out (by simp) (Nat.le_refl _)) K1.out.size hs)
    clear hs
    go_wp2_with fail
    refine TG1.out.mono ?_
    rintro e w2 ⟨rfl, hk2⟩
    have K2 := Lib.hid (K1.out.trans hk2)
    clear hk2
    go_wp2_with fail
    go_ret
    exact ⟨rfl, K2.out.belowN⟩
  | some q =>
    obtain ⟨v', r⟩ := q
    rw [hs] at hg
    obtain ⟨rfl, rfl, rfl⟩ : ok = true ∧ v = v' ∧ ys = r := hg
    obtain ⟨cc, hf, hv⟩ := asOfO hs
    obtain ⟨hall, _⟩ := firstOf_split HH.out.byt hf
    have hcb := ((firstOf_le hf).2.2 HH.out.byt).1
    have hcl : cc.length ≤ xs.length := (firstOf_le hf).1
    obtain ⟨hbd, hol⟩ := oidOf_bd hv
    have hvl : v.length ≤ 4194304 := by have := HXL.out; omega
    have hco := oidC_of hcb hv
    have RG := Lib.hid (fun w' B' h' => right_any A1 v.length c1 v w' B' h' rfl hvl)
    cases hrt : oidRight v with
    | false =>
      rw [hrt] at RG
      clear hs hf hv hall hcb hcl hbd hol hvl hco hrt
      go_wp2_with fail
      refine (RG.out _ _ R1.out).mono ?_
      rintro e w' ⟨rfl, rfl⟩
      go_wp2_with fail
      go_ret
      exact ⟨rfl, K1.out.belowN⟩
    | true =>
      rw [hrt] at RG
      have AD := Lib.hid (fun A c w B h hB => ImAddOID_any A v.length c v w B h rfl hB hvl hbd)
      rw [show oidCs v = some (oidC v) by unfold oidCs; rw [right_valid hrt]; rfl, hco] at AD
      have hlen : (wrapped 6 cc).length + ys.length ≤ 1048576 := by rw [← List.length_append, hall]; exact HXL.out
      rw [show Option.map (wrapped 6) (some cc) = some (wrapped 6 cc) from rfl] at AD
      obtain ⟨o, hoo⟩ : ∃ o, wrapped 6 cc = o := ⟨_, rfl⟩
      rw [hoo] at AD hall hlen
      have HA := Lib.hid (And.intro hall hlen)
      clear hs hf hv hall hlen hoo hcl hvl hcb hbd hol hco hrt
      go_wp2_with fail
      refine (RG.out _ _ R1.out).mono ?_
      rintro e w' ⟨rfl, rfl⟩
      go_wp2_with fail
      refine (AD.out _ _ _ _ R1.out (Nat.le_refl _)).mono ?_
      rintro e w2 ⟨A3, c3, zs, ok, rfl, hr3, hk2, _, _, rfl, rfl⟩
      have R3 := Lib.hid hr3
      have K2 := Lib.hid hk2
      have K12 := Lib.hid (K1.out.trans hk2)
      clear hr3 hk2
      go_wp2_with fail
      refine (behind_any _ _ _ _ _ _ zs ys w2 w2.heap.size w1.heap.size R3.out (R2.out.only K2.out (by simp) (Nat.le_refl _)) (Nat.le_refl _) K2.out.size rfl rfl (by have := HA.out.2; omega)).mono ?_
      rw [HA.out.1]
      rintro e w3 ⟨A4, c4, rfl, hc3, hm3, hown3, hk3⟩
      have R4 := Lib.hid (Rd.of_own HH.out.byt hown3)
      have K3 := Lib.hid (K12.out.trans hk3)
      clear hc3 hm3 hown3 hk3
      go_wp2_with fail
      refine (same_yes _ _ _ _ _ _ xs xs _ w3.heap.size w.heap.size R4.out (HH.out.only K3.out (by simp) (Nat.le_refl _)) rfl HN.out rfl).mono ?_
      rintro e w' ⟨rfl, rfl⟩
      go_wp2_with fail
      go_ret
      exact ⟨rfl, K3.out.belowN⟩

end Go.Proofs.Ytlnoeipbbncnfaa
