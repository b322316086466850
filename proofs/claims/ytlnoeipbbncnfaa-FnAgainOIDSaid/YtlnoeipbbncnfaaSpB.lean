/- The reference's Big, Header, Wrapped, and bytes with others behind them: contracts. -/
import Derived.Test.YtlnoeipbbncnfaaBl1
import Derived.Test.YtlnoeipbbncnfaaEnc
import Derived.Laws.OwnMore
namespace Go.Proofs.Ytlnoeipbbncnfaa
open Go.RowKit

theorem Row.copied {w w' : World} {A : Option Addr} {c : Nat} {xs : List Int} (h : Row w' w.heap.size (.slice A xs.length c) xs) (hk : Only [] w w') : Copied w xs (.returned (.slice A xs.length c)) w' := by
  obtain ⟨A', c', e, h1, h2, _⟩ := h.form
  injection e with e1 e2 e3
  subst e1 e3
  exact ⟨_, _, rfl, h1, h2, h.2, hk⟩
theorem Row.copied' {w w' : World} {v : Value} {xs : List Int} (h : Row w' w.heap.size v xs) (hk : Only [] w w') : Copied w xs (.returned v) w' := by
  obtain ⟨A', c', rfl, _⟩ := h.form
  exact h.copied hk
theorem Row.alloc {w : World} {base : Nat} {v : Value} {xs : List Int} (h : Row w base v xs) (o : Obj) : Row (w.alloc o) base v xs := ⟨h.1, h.2.alloc o⟩
theorem Row.drew {w : World} {base : Nat} {v : Value} {xs : List Int} (h : Row w base v xs) : Row w.drew base v xs := ⟨h.1, h.2⟩
theorem Row.lit (w : World) (base : Nat) (xs : List Int) (hb : base ≤ w.heap.size) (hx : Byt xs) (hm : xs.length ≤ maxLen) :
    Row (w.alloc (.cells (xs.map (Value.int .u8)).toArray 5)) base (.slice (some ⟨w.heap.size, 0, none⟩) xs.length xs.length) xs := by
  refine ⟨hx, ?_⟩
  have := World.ownsRow_lit (base := base) (e := 5) (size := 1) w (xs.map (Value.int .u8)).toArray xs.length hb hm (by simp)
  simpa using this


theorem behind_any (A A' : Option Addr) (n n' c c' : Nat) (xs ys : List Int) (w : World) (B B' : Nat) (h : Rd w B A xs) (h' : Rd w B' A' ys) (hB : B ≤ w.heap.size) (hB' : B' ≤ w.heap.size) (hn : n = xs.length) (hn' : n' = ys.length) (hl : xs.length + ys.length ≤ 140737488355328) :
    Calls Try.prog 17 #[.slice A n c, .slice A' n' c'] w (Copied w (xs ++ ys)) := by
  subst hn hn'
  have HS := Lib.hid (Row.lit w w.heap.size [] (Nat.le_refl _) Byt.nil (by simp))
  have HX := Lib.hid (h.alloc hB (.cells (([] : List Int).map (Value.int .u8)).toArray 5))
  have HY := Lib.hid (h'.alloc hB' (.cells (([] : List Int).map (Value.int .u8)).toArray 5))
  have HL := Lib.hid hl
  have HBB := Lib.hid (And.intro hB hB')
  clear h h' hB hB' hl
  go_enter Try.func17, Try.ntmps17
  go_wp2_with (at_builtin; refine wpList_row rfl (.tmp 5) (.tmp 6) rfl rfl w.heap.size B _ [] xs A xs.length c rfl rfl HS.out HX.out rfl ?c1 ?c2 ?_)
  case c1 => simp
  case c2 => have := HL.out; simp; omega
  intro v' w1 hr1 hk1 hat
  have hk1' : Only [] w w1 := ((Only.refl _ _).alloc _).then hk1 (by
    intro i hi hlt
    simp [own, Value.ownBlock] at hi
    omega)
  have HY1 : Hid (Rd w1 B' A' ys) := Lib.hid (HY.out.only hk1 (by
    intro i hi
    have := HBB.out
    simp [own, Value.ownBlock] at hi
    omega) (by have := HBB.out; simp; omega))
  have HR1 := Lib.hid hr1
  have HK1 := Lib.hid hk1'
  clear hr1 hk1 hk1' hat HY HX HS
  go_wp2_with (at_builtin; refine wpList_row rfl (.tmp 7) (.tmp 8) rfl rfl w.heap.size B' v' _ ys A' ys.length c' rfl rfl HR1.out HY1.out rfl ?d1 ?d2 ?_)
  case d1 => exact HK1.out.size
  case d2 => have := HL.out; simp; omega
  intro v2 w2 hr2 hk2 _
  have HR2 := Lib.hid hr2
  have HK2 : Hid (Only [] w w2) := Lib.hid (HK1.out.then hk2 (by
    intro i hi hlt
    have := HR1.out.low i hi
    omega))
  clear hr2 hk2
  go_wp2_with fail
  go_ret
  exact HR2.out.copied' HK2.out

theorem hdr_nb {n j : Nat} (h : 128 ≤ n) (hn : n < 4294967296) (h0 : (n : Int) / 256 ^ j = 0) (hj : j = 0 ∨ (n : Int) / 256 ^ (j - 1) ≠ 0) : j = nb n := by
  have hp : (0 : Int) < 256 ^ j := Int.pow_pos (by decide)
  have hlt : (n : Int) < 256 ^ j := by
    have := Int.emod_add_mul_ediv n (256 ^ j)
    rw [h0] at this
    have h2 := Int.emod_lt_of_pos n hp
    simp at this
    omega
  rcases hj with rfl | hj
  · simp at hlt
    omega
  · have hj0 : j ≠ 0 := by
      rintro rfl
      simp at hlt
      omega
    have hp1 : (0 : Int) < 256 ^ (j - 1) := Int.pow_pos (by decide)
    have hle : (256 : Int) ^ (j - 1) ≤ n := by
      rcases Int.lt_or_le (n : Int) (256 ^ (j - 1)) with h3 | h3
      · exact absurd (Int.ediv_eq_zero_of_lt (by omega) h3) hj
      · exact h3
    have hj4 : j ≤ 4 := by
      rcases Nat.lt_or_ge 4 j with h4 | h4
      · exfalso
        have := (pow_mono 4 (j - 1 - 4)).2
        rw [show 4 + (j - 1 - 4) = j - 1 by omega, show (256 : Int) ^ 4 = 4294967296 by decide] at this
        omega
      · exact h4
    exact (nb_unique (by omega) hj4 hle hlt).symm
theorem header_any (t : Int) (n : Nat) (w : World) (h0 : 0 ≤ t) (h1 : t ≤ 255) (hn : n < 4294967296) :
    Calls Try.prog 25 #[.int .i64 t, .int .i64 n] w (Copied w (hdr t n)) := by
  have hn' : (n : Int) < 4294967296 := by omega
  by_cases h : n < 128
  · have hlt : (n : Int) < 128 := by omega
    have hx : Byt [t, (n : Int)] := by
      intro x hx
      simp only [List.mem_cons, List.not_mem_nil, or_false] at hx
      rcases hx with rfl | rfl <;> omega
    have HX := Lib.hid (Row.lit w w.heap.size [t, (n : Int)] (Nat.le_refl _) hx (by unfold maxLen; simp))
    have HH := Lib.hid (hdr_short (t := t) h)
    clear hx h
    go_enter Try.func25, Try.ntmps25
    go_wp2_with fail
    go_ret
    rw [HH.out]
    exact HX.out.copied' ((Only.refl _ _).alloc _)
  · have hge : ¬ (n : Int) < 128 := by omega
    have HN := Lib.hid (And.intro (show 128 ≤ n by omega) hn)
    have HS := Lib.hid (Row.lit w w.heap.size [] (Nat.le_refl _) Byt.nil (by simp))
    have HT := Lib.hid (And.intro h0 h1)
    clear h hn
    go_enter Try.func25, Try.ntmps25
    go_wp2_with fail
    go_loopw [5, 6] (fun o i W => ∃ j : Nat, i = .int .i64 ((n : Int) / 256 ^ j) ∧ (j = 0 ∨ (n : Int) / 256 ^ (j - 1) ≠ 0) ∧ Row W w.heap.size o (bigB n j) ∧ Only [] w W) (fun _ i _ => (intOf i).toNat)
    case atStart => exact ⟨0, by simp, .inl rfl, HS.out, (Only.refl _ _).alloc _⟩
    case round =>
      obtain ⟨j, rfl, hj, hrow, hk⟩ := hrel
      have q0 : 0 ≤ (n : Int) / 256 ^ j := Int.ediv_nonneg (by omega) (Int.le_of_lt (Int.pow_pos (by decide)))
      have q1 : (n : Int) / 256 ^ j ≤ 4294967295 := by
        have := Int.ediv_le_self (a := (n : Int)) (256 ^ j) (by omega)
        omega
      by_cases hz : (n : Int) / 256 ^ j = 0
      · have ej := hdr_nb HN.out.1 HN.out.2 hz hj
        rw [hz]
        have HRow := Lib.hid hrow
        have HK := Lib.hid hk
        have HE := Lib.hid ej
        have hx : Byt [t, 128 + (j : Int)] := by
          intro x hx
          have := HT.out
          have := nb_bd n
          simp only [List.mem_cons, List.not_mem_nil, or_false] at hx
          rcases hx with rfl | rfl <;> omega
        have hj4 : (j : Int) ≤ 4 := by have := nb_bd n; omega
        obtain ⟨A5, c5, rfl, hc5, hm5, hA5⟩ := hrow.form
        have hlb := bigB_len j n
        rw [hlb] at hc5 HRow ⊢
        have HX := Lib.hid (Row.lit wr w.heap.size [t, 128 + (j : Int)] HK.out.size hx (by unfold maxLen; simp))
        have HRA := Lib.hid (HRow.out.alloc (.cells ([t, 128 + (j : Int)].map (Value.int .u8)).toArray 5))
        clear hj hrow hk hz ej hx hlb hc5 hm5 hA5 q0 q1
        go_wp2_with (at_builtin; refine wpList_row rfl (.tmp 32) (.tmp 33) rfl rfl w.heap.size _ _ [t, 128 + (j : Int)] (bigB n j) A5 j c5 rfl rfl HX.out (HRA.out.rd (bigB_len _ _).symm) (bigB_len _ _).symm ?e1 ?e2 ?_)
        case e1 => have := HK.out.size; simp; omega
        case e2 => rw [bigB_len]; simp; omega
        intro v' w1 hr1 hk1 _
        have HR1 := Lib.hid hr1
        have HK1 : Hid (Only [] w w1) := Lib.hid ((HK.out.alloc _).then hk1 (by
          intro i hi hlt
          have := HK.out.size
          simp [own, Value.ownBlock] at hi
          omega))
        clear hr1 hk1
        go_wp2_with fail
        go_ret
        have h2 := HR1.out
        rw [hdr_long HN.out.1, ← HE.out]
        exact h2.copied' HK1.out
      · have HJ := Lib.hid hj
        have HRow := Lib.hid hrow
        have HK := Lib.hid hk
        have hpos : 0 < (n : Int) / 256 ^ j := by omega
        obtain ⟨q, hq⟩ : ∃ q, (n : Int) / 256 ^ j = q := ⟨_, rfl⟩
        have HQ := Lib.hid hq
        rw [hq] at q0 q1 hpos ⊢
        have hx : Byt [q % 256] := by
          intro x hx
          simp only [List.mem_singleton] at hx
          omega
        have HX := Lib.hid (Row.lit wr w.heap.size [q % 256] HK.out.size hx (by unfold maxLen; simp))
        obtain ⟨A5, c5, rfl, hc5, hm5, hA5⟩ := hrow.form
        have hlb := bigB_len j n
        rw [hlb] at hc5 HRow ⊢
        have HRA := Lib.hid ((HRow.out.alloc (.cells ([q % 256].map (Value.int .u8)).toArray 5)).rd hlb.symm)
        clear hj hrow hk hz hq hx hlb hc5 hm5 hA5
        go_wp2_with (at_builtin; refine wpList_row rfl (.tmp 23) (.tmp 24) rfl rfl w.heap.size _ _ [q % 256] (bigB n j) A5 j c5 rfl rfl HX.out HRA.out (bigB_len _ _).symm ?c1 ?c2 ?_)
        case c1 => have := HK.out.size; simp; omega
        case c2 =>
          have hj4 : j ≤ 4 := by
            rcases Nat.lt_or_ge 4 j with h4 | h4
            · exfalso
              have h5 := (pow_mono 4 (j - 4)).2
              rw [show 4 + (j - 4) = j by omega, show (256 : Int) ^ 4 = 4294967296 by decide] at h5
              have h6 := HQ.out
              rw [Int.ediv_eq_zero_of_lt (by omega) (by omega)] at h6
              omega
            · exact h4
          rw [bigB_len]
          simp
          omega
        intro v' w1 hr1 hk1 _
        have HR1 := Lib.hid hr1
        have HK1 := Lib.hid hk1
        clear hr1 hk1
        go_wp2_with fail
        go_roundw
        case rel =>
          have hq := HQ.out
          refine ⟨j + 1, ?_, .inr ?_, ?_, ?_⟩
          · rw [← hq, Int.ediv_ediv_of_nonneg (Int.le_of_lt (Int.pow_pos (by decide))), ← Int.pow_succ]
          · rw [Nat.add_sub_cancel, hq]
            omega
          · rw [bigB_cons, hq]
            exact HR1.out
          · refine (HK.out.alloc _).then HK1.out ?_
            intro i hi hlt
            have := HK.out.size
            simp [own, Value.ownBlock] at hi
            omega
        case measure => simp [intOf]; omega

theorem wrapped_any (t : Int) (A : Option Addr) (n c : Nat) (xs : List Int) (w : World) (B : Nat) (h : Rd w B A xs) (hn : n = xs.length) (hB : B ≤ w.heap.size) (ht : 0 ≤ t ∧ t ≤ 255) (hl : xs.length ≤ 8388608) :
    Calls Try.prog 14 #[.int .i64 t, .slice A n c] w (Copied w (wrapped t xs)) := by
  subst hn
  have H := Lib.hid (header_any t xs.length w ht.1 ht.2 (by omega))
  have HH := Lib.hid h
  have HL := Lib.hid (And.intro hl (And.intro hB ht))
  clear h hB ht hl
  go_enter Try.func14, Try.ntmps14
  go_wp2_with fail
  refine H.out.mono ?_
  rintro e w1 ⟨A1, c1, rfl, hc1, hm1, hown1, hk1⟩
  have RW := Lib.hid (show Row w1 w.heap.size (.slice A1 (hdr t xs.length).length c1) (hdr t xs.length) from ⟨hdr_byt HL.out.2.2, hown1⟩)
  have K1 := Lib.hid hk1
  clear hc1 hm1 hown1 hk1 H
  go_wp2_with (at_builtin; refine wpList_row rfl (.tmp 8) (.tmp 9) rfl rfl w.heap.size B _ (hdr t xs.length) xs A xs.length c rfl rfl RW.out (HH.out.only K1.out (by simp) HL.out.2.1) rfl ?c1 ?c2 ?_)
  case c1 => exact K1.out.size
  case c2 => have := hdr_len_le t xs.length; have := HL.out; omega
  intro v' w2 hr2 hk2 _
  have HR2 := Lib.hid hr2
  have HK2 : Hid (Only [] w w2) := Lib.hid (K1.out.then hk2 (by
    intro i hi hlt
    have := RW.out.low i hi
    omega))
  clear hr2 hk2
  go_wp2_with fail
  go_ret
  exact Row.copied' HR2.out HK2.out
end Go.Proofs.Ytlnoeipbbncnfaa
