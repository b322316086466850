/- The law on object identifiers that are added: walk. -/
import Derived.Test.YtlnoeipbbncnfaaBl14
import Derived.Test.YtlnoeipbbncnfaaSpS
import Derived.Test.YtlnoeipbbncnfaaSpR
import Derived.Test.YtlnoeipbbncnfaaL1
namespace Go.Proofs.Ytlnoeipbbncnfaa
open Go.RowKit

theorem valid_right {xs : List Int} (h : ∀ v ∈ xs, v ≤ 2147483567) : oidRight xs = validOID xs := by
  unfold oidRight validOID
  rw [decide_eq_decide]
  constructor
  · rintro ⟨h1, h2, h3, h4, h5, h6⟩
    refine ⟨h1, h3, by omega, ?_⟩
    intro v hv
    rcases xs with _ | ⟨x, xs⟩
    · simp at hv
    · rcases List.mem_cons.1 hv with rfl | hv
      · simpa using h2
      · exact (h6 v (by simpa using hv)).1
  · rintro ⟨h1, h2, h3, h4⟩
    have hg : ∀ i, i < xs.length → 0 ≤ xs.getD i 0 ∧ xs.getD i 0 ≤ 2147483567 := fun i hi => by
      rw [List.getD_eq_getElem?_getD, List.getElem?_eq_getElem hi]
      exact ⟨h4 _ (List.getElem_mem hi), h _ (List.getElem_mem hi)⟩
    have g0 := hg 0 (by omega)
    have g1 := hg 1 (by omega)
    refine ⟨h1, g0.1, h2, by omega, by omega, ?_⟩
    intro v hv
    have hm := List.mem_of_mem_drop hv
    have := h4 v hm
    have := h v hm
    omega

theorem law_FnExactAddOID (A : Option Addr) (n c : Nat) (xs : List Int) (w : World) (h : RdI w w.heap.size A xs) (hn : n = xs.length) (_hc : n ≤ c) (_hcm : c ≤ maxLen) :
    Calls Try.prog 4 #[.slice A n c] w fun e w' => e = .returned (.bool true) ∧ Below w.heap.size w w' := by
  by_cases hz : 2147483647 < n
  · clear h hn
    go_enter Try.func4, Try.ntmps4
    go_wp2_with fail
    go_ret
    exact ⟨rfl, Below.refl _ _⟩
  have hz1 : n ≤ 2147483647 := by omega
  clear hz
  by_cases hbig : 1048576 < n
  · clear h hn
    go_enter Try.func4, Try.ntmps4
    go_wp2_with fail
    go_ret
    exact ⟨rfl, Below.refl _ _⟩
  have hb2 : n ≤ 1048576 := by omega
  have HH := Lib.hid h
  have HN := Lib.hid hn
  have hcells : ∀ i, i < n → ∃ b off, A = some ⟨b, off, none⟩ ∧ w.cell? ⟨b, off + i, none⟩ = some (.int .i64 (xs.getD i 0)) := fun i hi => by
    obtain ⟨b, off, e, _, hc⟩ := h.2 (by omega)
    exact ⟨b, off, e, hc i (by omega)⟩
  have HC := Lib.hid hcells
  clear h hn hbig hcells
  go_enter Try.func4, Try.ntmps4
  go_wp2_with fail
  go_loop [3] (fun i => ∃ j : Nat, i = .int .i64 (j : Int) ∧ j ≤ n ∧ ∀ k, k < j → xs.getD k 0 ≤ 2147483567) (fun i => n - (intOf i).toNat)
  case atStart => exact ⟨0, by simp, Nat.zero_le _, fun k hk => absurd hk (by omega)⟩
  case round =>
    obtain ⟨j, rfl, hj, hall⟩ := hrel
    by_cases hlt : j < n
    · obtain ⟨ab, aoff, rfl, hcj⟩ := HC.out j hlt
      have hij : (j : Int) < (n : Int) := by omega
      obtain ⟨x0, x1⟩ := Sml.getD HH.out.1 j
      have HALL := Lib.hid hall
      have HLT := Lib.hid hlt
      by_cases hg : 2147483567 < xs.getD j 0
      · clear hall hlt
        generalize xs.getD j 0 = x at *
        go_wp2_with fail
        go_ret
        exact ⟨rfl, Below.refl _ _⟩
      · have HX := Lib.hid hg
        obtain ⟨x, hx⟩ : ∃ x, xs.getD j 0 = x := ⟨_, rfl⟩
        rw [hx] at hcj hg x0 x1
        clear hall hx hlt
        go_wp2_with fail
        go_round
        case rel =>
          refine ⟨j + 1, by go_num, by have := HLT.out; omega, ?_⟩
          intro k hk
          by_cases e : k = j
          · subst e; have := HX.out; omega
          · exact HALL.out k (by omega)
        case measure => simp [intOf]; have := HLT.out; omega
    · obtain rfl : n = j := by omega
      have hall' : ∀ v ∈ xs, v ≤ 2147483567 := by
        intro v hv
        obtain ⟨k, hk, rfl⟩ := List.mem_iff_getElem.1 hv
        have h := hall k (by have := HN.out; omega)
        rwa [List.getD_eq_getElem?_getD, List.getElem?_eq_getElem hk] at h
      have I := Lib.hid (ImAddOID_any A n c xs w w.heap.size HH.out HN.out (Nat.le_refl _) (by have := HN.out; omega) (fun v hv => by have := hall' v hv; omega))
      have RG := Lib.hid (fun w' B' h' => right_any A n c xs w' B' h' HN.out (by have := HN.out; omega))
      rw [valid_right hall'] at RG
      cases hval : validOID xs with
      | false =>
        rw [show oidCs xs = none by unfold oidCs; rw [hval]; rfl] at I
        rw [hval] at RG
        clear hall hall' hlt hj hval
        go_wp2_with fail
        refine I.out.mono ?_
        rintro e w1 ⟨A1, c1, ys, ok, rfl, hr1, hk1, _, _, rfl⟩
        have K1 := Lib.hid hk1
        clear hr1 hk1 I
        go_wp2_with fail
        refine (RG.out _ _ (HH.out.only K1.out (by simp) (Nat.le_refl _))).mono ?_
        rintro e w' ⟨rfl, rfl⟩
        go_wp2_with fail
        go_ret
        exact ⟨rfl, K1.out.belowN⟩
      | true =>
        rw [show oidCs xs = some (oidC xs) by unfold oidCs; rw [hval]; rfl] at I
        have hcl := oidCs_len (show oidCs xs = some (oidC xs) by unfold oidCs; rw [hval]; rfl)
        rw [hval] at RG
        unfold validOID at hval
        simp only [decide_eq_true_eq] at hval
        have CO := Lib.hid (fun w' B' h' hB' => oidContents_any A n c xs w' B' h' HN.out hB' (by have := HN.out; omega) hval.1 (fun v hv => ⟨hval.2.2.2 v hv, by have := hall' v hv; omega⟩) hval.2.1)
        have WR := Lib.hid (fun A n c w B h hn hB => wrapped_any 6 A n c (oidC xs) w B h hn hB (by decide) (by have := HN.out; omega))
        have HBY : Hid (Byt (oidC xs)) := Lib.hid ((b128_byt _).append (b128s_byt _))
        clear hall hall' hlt hj hval hcl
        go_wp2_with fail
        refine I.out.mono ?_
        rintro e w1 ⟨A1, c1, ys, ok, rfl, hr1, hk1, _, _, rfl, rfl⟩
        have R1 := Lib.hid hr1
        have K1 := Lib.hid hk1
        clear hr1 hk1 I
        go_wp2_with fail
        refine (RG.out _ _ (HH.out.only K1.out (by simp) (Nat.le_refl _))).mono ?_
        rintro e w' ⟨rfl, rfl⟩
        go_wp2_with fail
        refine (CO.out _ _ (HH.out.only K1.out (by simp) (Nat.le_refl _)) K1.out.size).mono ?_
        rintro e w2 ⟨A2, c2, rfl, hc2, hm2, hown2, hk2⟩
        have R2 := Lib.hid (Rd.of_own (w := w2) HBY.out hown2)
        have K2 := Lib.hid hk2
        clear hown2 hk2 hc2 hm2
        go_wp2_with fail
        refine (WR.out _ _ _ _ _ R2.out rfl (Nat.le_refl _)).mono ?_
        rintro e w3 ⟨A3, c3, rfl, hc3, hm3, hown3, hk3⟩
        have R3 := Lib.hid (Rd.of_own (w := w3) (R1.out.byt) hown3)
        have K3 := Lib.hid (K2.out.trans hk3)
        clear hown3 hk3 hc3 hm3
        go_wp2_with fail
        refine (same_yes _ _ _ _ _ _ (wrapped 6 (oidC xs)) (wrapped 6 (oidC xs)) _ w1.heap.size w3.heap.size (R1.out.only K3.out (by simp) (Nat.le_refl _)) R3.out rfl rfl rfl).mono ?_
        rintro e w' ⟨rfl, rfl⟩
        go_wp2_with fail
        go_ret
        exact ⟨rfl, (K1.out.trans K3.out).belowN⟩
end Go.Proofs.Ytlnoeipbbncnfaa
