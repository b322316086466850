/- The reference's object identifiers: OIDOf, SameInts: contracts. -/
import Derived.Test.YtlnoeipbbncnfaaSpA
import Derived.Test.YtlnoeipbbncnfaaOf
import Derived.Deep.RegionHeld3
namespace Go.Proofs.Ytlnoeipbbncnfaa
open Go.RowKit

theorem RowI.lit (w : World) (base : Nat) (L : List Int) (hb : base ≤ w.heap.size) (hx : Sml L) (hm : L.length ≤ maxLen) : RowI (w.alloc (.cells (L.map (Value.int .i64)).toArray 3)) base (.slice (some ⟨w.heap.size, 0, none⟩) L.length L.length) L := by
  refine ⟨hx, by simp, .inr ⟨w.heap.size, L.length, (L.map (Value.int .i64)).toArray, rfl, hb, heap_alloc_new w _, Nat.le_refl _, hm, by simp, ?_⟩⟩
  rw [Nat.mul_one, List.take_of_length_le (by simp)]
theorem ra_bd : ∀ (xs : List Int) (i : Nat) (n : Int) (m : List Int), ra i n xs = some m → 0 ≤ n → ∀ v ∈ m, 0 ≤ v ∧ v ≤ 2147483647
  | [], i, n, m, h, _, v, hv => by
    unfold ra at h
    split at h
    · simp only [Option.some.injEq] at h
      subst h
      simp at hv
    · cases h
  | b :: bs, i, n, m, h, h0, v, hv => by
    unfold ra at h
    split at h
    · cases h
    · split at h
      · cases hr : ra 0 0 bs with
        | none => rw [hr] at h; cases h
        | some l =>
          rw [hr] at h
          simp only [Option.map_some, Option.some.injEq] at h
          subst h
          rcases List.mem_cons.1 hv with rfl | hv
          · omega
          · exact ra_bd bs 0 0 l hr (by omega) v hv
      · exact ra_bd bs (i + 1) _ m h (by omega) v hv
theorem ra_ne {x : Int} {xs m : List Int} (h : ra 0 0 (x :: xs) = some m) : m ≠ [] := by
  rintro rfl
  have key : ∀ (ys : List Int) (i : Nat) (n : Int), (0 < i ∨ ys ≠ []) → ra i n ys ≠ some [] := by
    intro ys
    induction ys with
    | nil =>
      intro i n h h2
      unfold ra at h2
      rw [if_neg (by rcases h with h | h; omega; simp at h)] at h2
      cases h2
    | cons b bs ih =>
      intro i n _ h2
      unfold ra at h2
      split at h2
      · cases h2
      · split at h2
        · cases hr : ra 0 0 bs with
          | none => rw [hr] at h2; cases h2
          | some l => rw [hr] at h2; simp at h2
        · exact ih (i + 1) _ (.inl (by omega)) h2
  exact key (x :: xs) 0 0 (.inr (by simp)) h

theorem sa_len : ∀ (xs l : List Int) (g : Bool) (n : Int) (ins : Bool), (sa xs l g n ins).1.length ≤ l.length + xs.length
  | [], l, g, n, ins => by unfold sa; simp
  | b :: bs, l, g, n, ins => by
    by_cases hbad : ins = false ∧ b = 128
    · rw [sa_bad hbad]; simp
    · rw [sa_cons hbad]
      split
      · refine Nat.le_trans (sa_len bs _ _ _ _) ?_
        simp <;> omega
      · refine Nat.le_trans (sa_len bs _ _ _ _) ?_
        simp <;> omega

/-- What the reference's OIDOf tells. -/
def OofSaid (w : World) (xs : List Int) (e : Ending) (w' : World) : Prop :=
  ∃ A n c large is, e = .returned (.tuple #[.slice A n c, .bool large, .bool is]) ∧ Only [] w w' ∧ (large = true ∨ (large = false ∧ match oidOf xs with | some o => is = true ∧ n = o.length ∧ RowI w' w.heap.size (.slice A n c) o | none => is = false))

theorem oidOf_any (A : Option Addr) (n c : Nat) (xs : List Int) (w : World) (h : Rd w w.heap.size A xs) (hn : n = xs.length) (hb : xs.length ≤ 4194304) :
    Calls Try.prog 9 #[.slice A n c] w (OofSaid w xs) := by
  have H := Lib.hid (arcs_any A n c xs w h hn hb)
  have hsr := sa_ra xs [] 0 0 false h.byt (by simp) (by omega) (by omega) (fun _ => rfl) (by omega) (by omega)
  have hsl : ∀ l g is, sa xs [] false 0 false = (l, g, is) → l.length ≤ xs.length := fun l g is h1 => by have := sa_len xs [] false 0 false; rw [h1] at this; simpa using this
  obtain ⟨l, g, is0, hsa⟩ : ∃ l g is, sa xs [] false 0 false = (l, g, is) := ⟨_, _, _, rfl⟩
  have hl := hsl l g is0 hsa
  rw [hsa] at H hsr
  obtain ⟨is, his⟩ : ∃ is, (decide (0 < xs.length) && is0) = is := ⟨_, rfl⟩
  have HH := Lib.hid h
  clear h hn hsl hsa
  by_cases hg : g = true
  · subst hg
    clear hsr
    go_enter Try.func9, Try.ntmps9
    go_wp2_with fail
    refine H.out.mono ?_
    rintro e w1 ⟨v, rfl, hr1, hk1⟩
    obtain ⟨A1, c1, rfl, _, _, _⟩ := hr1.form
    have K1 := Lib.hid hk1
    clear hr1 hk1 H
    rw [his]
    cases is with
    | false =>
      go_wp2_with fail
      go_ret3
      exact ⟨none, 0, 0, true, false, rfl, K1.out, .inl rfl⟩
    | true =>
      go_wp2_with fail
      go_ret3
      exact ⟨none, 0, 0, true, true, rfl, K1.out, .inl rfl⟩
  · have hg' : g = false := by simpa using hg
    subst hg'
    cases is with
    | false =>
      have HN : Hid (oidOf xs = none) := Lib.hid (by
        unfold oidOf
        split
        · rfl
        · rename_i hne
          have hp : 0 < xs.length := List.length_pos_iff.2 hne
          simp [hp] at his
          subst his
          rcases hsr with h | ⟨h, _⟩ | ⟨_, h⟩
          · exact absurd h (by simp)
          · exact absurd h (by simp)
          · rw [h]; rfl)
      clear hsr hg
      go_enter Try.func9, Try.ntmps9
      go_wp2_with fail
      refine H.out.mono ?_
      rintro e w1 ⟨v, rfl, hr1, hk1⟩
      obtain ⟨A1, c1, rfl, _, _, _⟩ := hr1.form
      have K1 := Lib.hid hk1
      clear hr1 hk1 H
      rw [his]
      go_wp2_with fail
      go_ret3
      exact ⟨none, 0, 0, false, false, rfl, K1.out, .inr ⟨rfl, by rw [HN.out]⟩⟩
    | true =>
      simp at his
      obtain ⟨hp, rfl⟩ := his
      have hra : ra 0 0 xs = some l := by
        rcases hsr with h | ⟨_, m, h, h2⟩ | ⟨h, _⟩
        · exact absurd h (by simp)
        · simp at h2; rw [h2]; exact h
        · exact absurd h (by simp)
      have hne : xs ≠ [] := List.length_pos_iff.1 hp
      obtain ⟨l0, lr, rfl⟩ : ∃ l0 lr, l = l0 :: lr := by
        obtain ⟨x, xr, rfl⟩ := List.exists_cons_of_ne_nil hne
        exact List.exists_cons_of_ne_nil (ra_ne hra)
      have HN : Hid (oidOf xs = some (oidOfList (l0 :: lr))) := Lib.hid (by unfold oidOf; rw [if_neg hne, hra]; rfl)
      obtain ⟨b0, b1⟩ := ra_bd xs 0 0 _ hra (by omega) l0 (by simp)
      have hdp : (decide (0 < xs.length) && ((l0 :: lr, false, true) : List Int × Bool × Bool).2.2) = true := by simp [hp]
      have hll : lr.length < 4194304 := by simp at hl; omega
      clear hsr hg hra hne hp hl
      go_enter Try.func9, Try.ntmps9
      go_wp2_with fail
      refine H.out.mono ?_
      rintro e w1 ⟨v, rfl, hr1, hk1⟩
      rw [hdp]
      obtain ⟨A1, c1, rfl, hc1, hm1, _⟩ := hr1.form
      obtain ⟨ab, aoff, rfl, hab, hcells⟩ := (hr1.rd rfl).2 (by simp)
      have hc0 := hcells 0 (by simp)
      rw [Nat.add_zero, show (l0 :: lr).getD 0 0 = l0 from rfl] at hc0
      have K1 := Lib.hid hk1
      have R1 := Lib.hid hr1
      clear hr1 hk1 H hcells
      have hpos : (0 : Int) < (lr.length : Int) + 1 := by omega
      simp only [List.length_cons] at hc1 ⊢
      have HB := Lib.hid (And.intro b0 b1)
      by_cases hce : c1 = 1
      · obtain rfl : lr = [] := List.eq_nil_of_length_eq_zero (by omega)
        subst hce
        by_cases h40 : l0 < 40
        · have HL : Hid (oidOfList (l0 :: []) = [0, l0] ++ []) := Lib.hid (by unfold oidOfList; simp [h40])
          go_wp2_with (at_builtin; refine wpList_rowI rfl _ _ rfl rfl w.heap.size w1.heap.size (.slice (some ⟨w1.heap.size, 0, none⟩) 2 2) [0, l0] [] (some ⟨ab, aoff, none⟩) 0 _ rfl rfl ?e10 ?e13 rfl ?e11 ?e12 ?_)
          case e10 => exact RowI.lit w1 w.heap.size [0, l0] K1.out.size (by intro y hy; have := HB.out; simp at hy; omega) (by unfold maxLen; simp)
          case e13 => exact RdI.nil _ _ _
          case e11 => have := K1.out.size; simp; omega
          try (case e12 => first | omega | (simp; omega))
          intro v' w3 hr3 hk3 _
          obtain ⟨A3, c3, rfl, _, _, _⟩ := hr3.form
          have HR3 := Lib.hid hr3
          have HK3 : Hid (Only [] w w3) := Lib.hid ((K1.out.alloc _).then hk3 (by
            intro i hi hlt
            have := K1.out.size
            simp [own, Value.ownBlock] at hi
            omega))
          clear hr3 hk3
          go_wp2_with fail
          go_ret3
          exact ⟨A3, _, c3, false, true, rfl, HK3.out, .inr ⟨rfl, by rw [HN.out, HL.out]; exact ⟨rfl, by simp, HR3.out⟩⟩⟩
        · by_cases h80 : l0 < 80
          · have HL : Hid (oidOfList (l0 :: []) = [1, l0 - 40] ++ []) := Lib.hid (by unfold oidOfList; simp [h40, h80])
            go_wp2_with (at_builtin; refine wpList_rowI rfl _ _ rfl rfl w.heap.size w1.heap.size (.slice (some ⟨w1.heap.size, 0, none⟩) 2 2) [1, l0 - 40] [] (some ⟨ab, aoff, none⟩) 0 _ rfl rfl ?e20 ?e23 rfl ?e21 ?e22 ?_)
            case e20 => exact RowI.lit w1 w.heap.size [1, l0 - 40] K1.out.size (by intro y hy; have := HB.out; simp at hy; omega) (by unfold maxLen; simp)
            case e23 => exact RdI.nil _ _ _
            case e21 => have := K1.out.size; simp; omega
            try (case e22 => first | omega | (simp; omega))
            intro v' w3 hr3 hk3 _
            obtain ⟨A3, c3, rfl, _, _, _⟩ := hr3.form
            have HR3 := Lib.hid hr3
            have HK3 : Hid (Only [] w w3) := Lib.hid ((K1.out.alloc _).then hk3 (by
              intro i hi hlt
              have := K1.out.size
              simp [own, Value.ownBlock] at hi
              omega))
            clear hr3 hk3
            go_wp2_with fail
            go_ret3
            exact ⟨A3, _, c3, false, true, rfl, HK3.out, .inr ⟨rfl, by rw [HN.out, HL.out]; exact ⟨rfl, by simp, HR3.out⟩⟩⟩
          · have HL : Hid (oidOfList (l0 :: []) = [2, l0 - 80] ++ []) := Lib.hid (by unfold oidOfList; simp [h40, h80])
            go_wp2_with (at_builtin; refine wpList_rowI rfl _ _ rfl rfl w.heap.size w1.heap.size (.slice (some ⟨w1.heap.size, 0, none⟩) 2 2) [2, l0 - 80] [] (some ⟨ab, aoff, none⟩) 0 _ rfl rfl ?e30 ?e33 rfl ?e31 ?e32 ?_)
            case e30 => exact RowI.lit w1 w.heap.size [2, l0 - 80] K1.out.size (by intro y hy; have := HB.out; simp at hy; omega) (by unfold maxLen; simp)
            case e33 => exact RdI.nil _ _ _
            case e31 => have := K1.out.size; simp; omega
            try (case e32 => first | omega | (simp; omega))
            intro v' w3 hr3 hk3 _
            obtain ⟨A3, c3, rfl, _, _, _⟩ := hr3.form
            have HR3 := Lib.hid hr3
            have HK3 : Hid (Only [] w w3) := Lib.hid ((K1.out.alloc _).then hk3 (by
              intro i hi hlt
              have := K1.out.size
              simp [own, Value.ownBlock] at hi
              omega))
            clear hr3 hk3
            go_wp2_with fail
            go_ret3
            exact ⟨A3, _, c3, false, true, rfl, HK3.out, .inr ⟨rfl, by rw [HN.out, HL.out]; exact ⟨rfl, by simp, HR3.out⟩⟩⟩
      · have RR : Hid (RdI w1 w1.heap.size (some ⟨ab, aoff + 1, none⟩) lr) := Lib.hid (by have := (R1.out.rd rfl).cutM 1; simpa using this)
        by_cases h40 : l0 < 40
        · have HL : Hid (oidOfList (l0 :: lr) = [0, l0] ++ lr) := Lib.hid (by unfold oidOfList; simp [h40])
          go_wp2_with (at_builtin; refine wpList_rowI rfl _ _ rfl rfl w.heap.size w1.heap.size (.slice (some ⟨w1.heap.size, 0, none⟩) 2 2) [0, l0] lr (some ⟨ab, aoff + 1, none⟩) lr.length _ rfl rfl ?e40 ?e43 rfl ?e41 ?e42 ?_)
          case e40 => exact RowI.lit w1 w.heap.size [0, l0] K1.out.size (by intro y hy; have := HB.out; simp at hy; omega) (by unfold maxLen; simp)
          case e43 => exact RR.out.alloc (Nat.le_refl _) _
          case e41 => have := K1.out.size; simp; omega
          try (case e42 => first | omega | (simp; omega))
          intro v' w3 hr3 hk3 _
          obtain ⟨A3, c3, rfl, _, _, _⟩ := hr3.form
          have HR3 := Lib.hid hr3
          have HK3 : Hid (Only [] w w3) := Lib.hid ((K1.out.alloc _).then hk3 (by
            intro i hi hlt
            have := K1.out.size
            simp [own, Value.ownBlock] at hi
            omega))
          clear hr3 hk3
          go_wp2_with fail
          go_ret3
          exact ⟨A3, _, c3, false, true, rfl, HK3.out, .inr ⟨rfl, by rw [HN.out, HL.out]; exact ⟨rfl, by simp, HR3.out⟩⟩⟩
        · by_cases h80 : l0 < 80
          · have HL : Hid (oidOfList (l0 :: lr) = [1, l0 - 40] ++ lr) := Lib.hid (by unfold oidOfList; simp [h40, h80])
            go_wp2_with (at_builtin; refine wpList_rowI rfl _ _ rfl rfl w.heap.size w1.heap.size (.slice (some ⟨w1.heap.size, 0, none⟩) 2 2) [1, l0 - 40] lr (some ⟨ab, aoff + 1, none⟩) lr.length _ rfl rfl ?e50 ?e53 rfl ?e51 ?e52 ?_)
            case e50 => exact RowI.lit w1 w.heap.size [1, l0 - 40] K1.out.size (by intro y hy; have := HB.out; simp at hy; omega) (by unfold maxLen; simp)
            case e53 => exact RR.out.alloc (Nat.le_refl _) _
            case e51 => have := K1.out.size; simp; omega
            try (case e52 => first | omega | (simp; omega))
            intro v' w3 hr3 hk3 _
            obtain ⟨A3, c3, rfl, _, _, _⟩ := hr3.form
            have HR3 := Lib.hid hr3
            have HK3 : Hid (Only [] w w3) := Lib.hid ((K1.out.alloc _).then hk3 (by
              intro i hi hlt
              have := K1.out.size
              simp [own, Value.ownBlock] at hi
              omega))
            clear hr3 hk3
            go_wp2_with fail
            go_ret3
            exact ⟨A3, _, c3, false, true, rfl, HK3.out, .inr ⟨rfl, by rw [HN.out, HL.out]; exact ⟨rfl, by simp, HR3.out⟩⟩⟩
          · have HL : Hid (oidOfList (l0 :: lr) = [2, l0 - 80] ++ lr) := Lib.hid (by unfold oidOfList; simp [h40, h80])
            go_wp2_with (at_builtin; refine wpList_rowI rfl _ _ rfl rfl w.heap.size w1.heap.size (.slice (some ⟨w1.heap.size, 0, none⟩) 2 2) [2, l0 - 80] lr (some ⟨ab, aoff + 1, none⟩) lr.length _ rfl rfl ?e60 ?e63 rfl ?e61 ?e62 ?_)
            case e60 => exact RowI.lit w1 w.heap.size [2, l0 - 80] K1.out.size (by intro y hy; have := HB.out; simp at hy; omega) (by unfold maxLen; simp)
            case e63 => exact RR.out.alloc (Nat.le_refl _) _
            case e61 => have := K1.out.size; simp; omega
            try (case e62 => first | omega | (simp; omega))
            intro v' w3 hr3 hk3 _
            obtain ⟨A3, c3, rfl, _, _, _⟩ := hr3.form
            have HR3 := Lib.hid hr3
            have HK3 : Hid (Only [] w w3) := Lib.hid ((K1.out.alloc _).then hk3 (by
              intro i hi hlt
              have := K1.out.size
              simp [own, Value.ownBlock] at hi
              omega))
            clear hr3 hk3
            go_wp2_with fail
            go_ret3
            exact ⟨A3, _, c3, false, true, rfl, HK3.out, .inr ⟨rfl, by rw [HN.out, HL.out]; exact ⟨rfl, by simp, HR3.out⟩⟩⟩
theorem sameInts_yes (A A' : Option Addr) (n n' c c' : Nat) (xs ys : List Int) (w : World) (B B' : Nat) (h : RdI w B A xs) (h' : RdI w B' A' ys) (hn : n = xs.length) (hn' : n' = ys.length) (e : xs = ys) (hb : xs.length ≤ 16777216) :
    Calls Try.prog 10 #[.slice A n c, .slice A' n' c'] w fun e w' => e = .returned (.bool true) ∧ ∃ m, w' = w.drewN m := by
  subst e hn hn'
  have hc : ∀ i, i < xs.length → ∃ b off, A = some ⟨b, off, none⟩ ∧ w.cell? ⟨b, off + i, none⟩ = some (.int .i64 (xs.getD i 0)) := fun i hi => by
    obtain ⟨b, off, e, _, hc⟩ := h.2 (by omega)
    exact ⟨b, off, e, hc i hi⟩
  have hc' : ∀ i, i < xs.length → ∃ b off, A' = some ⟨b, off, none⟩ ∧ w.cell? ⟨b, off + i, none⟩ = some (.int .i64 (xs.getD i 0)) := fun i hi => by
    obtain ⟨b, off, e, _, hc⟩ := h'.2 (by omega)
    exact ⟨b, off, e, hc i hi⟩
  have HC := Lib.hid hc
  have HC' := Lib.hid hc'
  have HS := Lib.hid h.1
  clear hc hc' h h'
  go_enter Try.func10, Try.ntmps10
  go_wp2_with fail
  go_loopw [5] (fun i W' => ∃ j m : Nat, i = .int .i64 (j : Int) ∧ j ≤ xs.length ∧ W' = w.drewN m) (fun i _ => xs.length - (intOf i).toNat)
  case atStart => exact ⟨0, 0, by simp, Nat.zero_le _, rfl⟩
  case round =>
    obtain ⟨j, m, rfl, hj, rfl⟩ := hrel
    by_cases hlt : j < xs.length
    · obtain ⟨ab, aoff, rfl, hcj⟩ := HC.out j hlt
      obtain ⟨ab', aoff', rfl, hcj'⟩ := HC'.out j hlt
      have hij : (j : Int) < (xs.length : Int) := by omega
      have HLT := Lib.hid hlt
      have hjm : (j : Int) ≤ 16777216 := by omega
      generalize xs.getD j 0 = x at *
      clear hlt hj
      go_wp2_with fail
      go_quiet (fail)
      go_wp2_with fail
      go_roundw
      case rel => exact ⟨j + 1, m + nq, by go_num, HLT.out, by first | rfl | exact (World.drewN_drewN _ _ _) | exact (World.drewN_add _ _ _).symm⟩
      case measure => simp [intOf]; have := HLT.out; omega
    · obtain rfl : j = xs.length := by omega
      clear hlt hj
      go_wp2_with fail
      go_ret
      exact ⟨rfl, ⟨m, rfl⟩⟩
end Go.Proofs.Ytlnoeipbbncnfaa
