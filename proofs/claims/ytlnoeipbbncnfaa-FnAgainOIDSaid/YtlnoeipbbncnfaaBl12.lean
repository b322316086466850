/- A number in base 128 added: contract. -/
import Derived.Test.YtlnoeipbbncnfaaBl10
import Derived.Test.YtlnoeipbbncnfaaOid
namespace Go.Proofs.Ytlnoeipbbncnfaa
open Go.RowKit

theorem and127_all : ∀ k : Nat, k < 256 → bits .and .u8 (k : Int) 127 = (k : Int) % 128 := by decide +kernel
theorem u8_and127 (x : Int) (h0 : 0 ≤ x) (h1 : x ≤ 255) : bits .and .u8 x 127 = x % 128 := by
  obtain ⟨k, rfl⟩ := Int.eq_ofNat_of_zero_le h0
  exact and127_all k (by omega)
theorem or128_all : ∀ k : Nat, k < 128 → bits .or .u8 (k : Int) 128 = 128 + (k : Int) := by decide +kernel
theorem u8_or128 (x : Int) (h0 : 0 ≤ x) (h1 : x < 128) : bits .or .u8 x 128 = 128 + x := by
  obtain ⟨k, rfl⟩ := Int.eq_ofNat_of_zero_le h0
  exact or128_all k (by omega)

/-- The digits of the first rounds. -/
def digs (n : Int) (L m : Nat) : List Int := if m < L then big7 (n / 128 ^ (L - m)) m else b128 n
theorem digs_zero {n : Int} {L : Nat} (h : 1 ≤ L) : digs n L 0 = [] := by unfold digs; rw [if_pos (by omega)]; rfl
theorem digs_all {n : Int} {L : Nat} (_h : l7 n = L) : digs n L L = b128 n := by unfold digs; rw [if_neg (by omega)]
theorem digs_last {n : Int} {L m : Nat} (h : L = m + 1) (hL : l7 n = L) : digs n L (m + 1) = digs n L m ++ [n % 128] := by
  subst h
  unfold digs
  rw [if_neg (by omega), if_pos (by omega), show m + 1 - m = 1 by omega, Int.pow_succ, Int.pow_zero, Int.one_mul]
  unfold b128
  rw [hL]
  rfl
theorem digs_step {n : Int} {L m t : Nat} (h : L = m + 1 + t) (ht : 0 < t) : digs n L (m + 1) = digs n L m ++ [128 + n / 128 ^ t % 128] := by
  subst h
  unfold digs
  rw [if_pos (by omega), if_pos (by omega), show m + 1 + t - (m + 1) = t by omega, show m + 1 + t - m = t + 1 by omega, big7_succ, Int.ediv_ediv_of_nonneg (Int.le_of_lt (Int.pow_pos (by decide))), ← Int.pow_succ]
theorem digs_len {n : Int} {L : Nat} (m : Nat) (hm : m ≤ L) (h : l7 n = L) : (digs n L m).length = m := by
  unfold digs
  split
  · exact big7_len _ _
  · rw [b128_len]; omega

theorem BaddBase128_any (b : Nat) (v : Bv) (n : Int) (ys : List Int) (w : World) (base : Nat) (h : Bld w b v) (he : v.err = .nilIface) (hch : v.child = .pointer none) (hf : v.fixed = false) (hr : Row w base v.res ys) (hb : base ≤ w.heap.size) (hl : ys.length ≤ 4294967295) (h0 : 0 ≤ n) (h1 : n ≤ 4294967295) :
    Calls Try.prog 34 #[.pointer (some ⟨b, 0, none⟩), .int .i64 n] w (Added w base b v ys (b128 n)) := by
  have hL := l7_bd n
  have hLe := Lib.hid (fun j hj => l7_le n h0 (by omega) j hj)
  have HR := Lib.hid (And.intro h0 h1)
  have HB := Lib.hid (And.intro h (And.intro he (And.intro hch (And.intro hf (And.intro hr (And.intro hb hl))))))
  obtain ⟨L, hLL⟩ : ∃ L, l7 n = L := ⟨_, rfl⟩
  rw [hLL] at hL hLe
  have HLL := Lib.hid hLL
  clear h he hch hf hr hb hl hLL
  by_cases hz : n = 0
  · have HL1 : Hid (L = 1) := Lib.hid (by rw [← HLL.out, hz]; rfl)
    have hn0 : (n == 0) = true := by simpa using hz
    clear hz hLe
    go_enter Try.func34, Try.ntmps34
    go_wp2_with fail
    go_loopw [6] (fun i W' => ∃ (m : Nat) (r : Value), m ≤ L ∧ i = .int .i64 ((L : Int) - 1 - m) ∧ Bld W' b { v with res := r } ∧ Row W' base r (ys ++ digs n L m) ∧ Only (b :: own v.res) w W' ∧ (r.ownBlock = v.res.ownBlock ∨ ∀ k ∈ own r, w.heap.size ≤ k)) (fun i _ => (intOf i + 1).toNat)
    case atStart =>
      obtain ⟨h, he, hch, hf, hr, hb, hl⟩ := HB.out
      exact ⟨0, v.res, Nat.zero_le _, by rw [HL1.out]; rfl, h, by rw [digs_zero hL.1, List.append_nil]; exact hr, Only.refl _ _, .inl rfl⟩
    case round =>
      obtain ⟨m, r, hm, rfl, hbm, hrm, hom, hwm⟩ := hrel
      obtain ⟨h, he, hch, hf, hr, hb, hl⟩ := HB.out
      by_cases hlt : m < L
      · obtain ⟨t, ht⟩ : ∃ t : Nat, L = m + 1 + t := ⟨L - m - 1, by omega⟩
        have hit : (L : Int) - 1 - m = (t : Int) := by omega
        rw [hit]
        have ht4 : (t : Int) ≤ 4 := by omega
        have HT := Lib.hid (And.intro ht hit)
        have HBM := Lib.hid (And.intro hom hwm)
        have hdl : (digs n L m).length ≤ 5 := by rw [digs_len m (by omega) HLL.out]; omega
        have HA := Lib.hid (fun Z (hx : Byt Z) (h1 : Z.length ≤ 1) => Badd_lit b { v with res := r } (ys ++ digs n L m) Z wr base hbm he hch hf hrm (by have := hom.size; omega) hx (by rw [List.length_append]; omega))
        obtain ⟨d, hd⟩ : ∃ d, n / 128 ^ t % 128 = d := ⟨_, rfl⟩
        have hd0 : 0 ≤ d ∧ d < 128 := by omega
        have hsh : bits .and .u8 (n / 2 ^ (t * 7) % 256) 127 = d := by
          rw [u8_and127 _ (by omega) (by omega), Nat.mul_comm, Int.pow_mul, ← hd]
          show n / 128 ^ t % 256 % 128 = _
          omega
        have hor : bits .or .u8 d 128 = 128 + d := u8_or128 d hd0.1 hd0.2
        have HD := Lib.hid (And.intro hd hd0)
        clear h he hch hf hr hb hl hbm hrm hom hwm hlt hm ht hit hdl hd hd0
        rcases Nat.eq_zero_or_pos t with ht0 | ht0
        · subst ht0
          clear hor
          have hsh0 : bits .and .u8 (n % 256) 127 = d := by
            have h := hsh
            rw [Nat.zero_mul, Int.pow_zero, Int.ediv_one] at h
            exact h
          go_wp2_with fail
          refine (HA.out [d] (by intro y hy; simp only [List.mem_singleton] at hy; have := HD.out.2; omega) (by simp)).mono ?_
          rintro e w2 ⟨r2, rfl, h1, h2, h3, h4⟩
          have H2 := Lib.hid (And.intro h1 (And.intro h2 (And.intro h3 h4)))
          clear h1 h2 h3 h4 HA
          go_wp2_with fail
          go_roundw
          case rel =>
            obtain ⟨h1, h2, h3, h4⟩ := H2.out
            obtain ⟨hom, hwm⟩ := HBM.out
            obtain ⟨ht, hit⟩ := HT.out
            refine ⟨m + 1, r2, by omega, congrArg _ (by omega), h1, ?_, hom.then h3 ?_, ?_⟩
            · rw [digs_last (by omega) HLL.out, show n % 128 = d by rw [← HD.out.1, Int.pow_zero, Int.ediv_one], ← List.append_assoc]
              exact h2
            · intro k hk hlt
              simp only [List.mem_cons] at hk ⊢
              rcases hk with rfl | hk
              · exact .inl rfl
              · rcases hwm with hw | hw
                · right
                  simp only [own] at hk ⊢
                  rw [← hw]
                  exact hk
                · exact absurd (hw k hk) (by omega)
            · rcases h4 with h4 | h4
              · rcases hwm with hw | hw
                · exact .inl (h4.trans hw)
                · refine .inr fun k hk => hw k ?_
                  simp only [own] at hk ⊢
                  rw [← h4]
                  exact hk
              · exact .inr fun k hk => Nat.le_trans hom.size (h4 k hk)
          case measure => simp [intOf]
        · go_wp2_with fail
          refine (HA.out [128 + d] (by intro y hy; simp only [List.mem_singleton] at hy; have := HD.out.2; omega) (by simp)).mono ?_
          rintro e w2 ⟨r2, rfl, h1, h2, h3, h4⟩
          have H2 := Lib.hid (And.intro h1 (And.intro h2 (And.intro h3 h4)))
          clear h1 h2 h3 h4 HA
          go_wp2_with fail
          go_roundw
          case rel =>
            obtain ⟨h1, h2, h3, h4⟩ := H2.out
            obtain ⟨hom, hwm⟩ := HBM.out
            obtain ⟨ht, hit⟩ := HT.out
            refine ⟨m + 1, r2, by omega, congrArg _ (by omega), h1, ?_, hom.then h3 ?_, ?_⟩
            · rw [digs_step ht ht0, HD.out.1, ← List.append_assoc]
              exact h2
            · intro k hk hlt
              simp only [List.mem_cons] at hk ⊢
              rcases hk with rfl | hk
              · exact .inl rfl
              · rcases hwm with hw | hw
                · right
                  simp only [own] at hk ⊢
                  rw [← hw]
                  exact hk
                · exact absurd (hw k hk) (by omega)
            · rcases h4 with h4 | h4
              · rcases hwm with hw | hw
                · exact .inl (h4.trans hw)
                · refine .inr fun k hk => hw k ?_
                  simp only [own] at hk ⊢
                  rw [← h4]
                  exact hk
              · exact .inr fun k hk => Nat.le_trans hom.size (h4 k hk)
          case measure => simp [intOf]
      · obtain rfl : m = L := by omega
        have hi : (m : Int) - 1 - (m : Int) = -1 := by omega
        rw [hi]
        rw [digs_all HLL.out] at hrm
        have HF := Lib.hid (And.intro hbm (And.intro hrm (And.intro hom hwm)))
        clear h he hch hf hr hb hl hbm hrm hom hwm hlt hm hi
        go_wp2_with fail
        go_end0
        exact ⟨r, rfl, HF.out.1, HF.out.2.1, HF.out.2.2.1, HF.out.2.2.2⟩
  · skip
    have hn0 : (n == 0) = false := by simpa using (by omega : n ≠ 0)
    go_enter Try.func34, Try.ntmps34
    go_wp2_with fail
    go_loop [4, 5] (fun l i => ∃ j : Nat, l = .int .i64 (j : Int) ∧ i = .int .i64 (n / 128 ^ j) ∧ j ≤ L) (fun _ i => (intOf i).toNat)
    case atStart => exact ⟨0, by simp, by simp, by omega⟩
    case round =>
      obtain ⟨j, rfl, rfl, hj⟩ := hrel
      have hp : (0 : Int) < 128 ^ j := Int.pow_pos (by decide)
      have g0 : 0 ≤ n / 128 ^ j := Int.ediv_nonneg h0 (Int.le_of_lt hp)
      have g1 : n / 128 ^ j ≤ 4294967295 := Int.le_trans (Int.ediv_le_self _ h0) h1
      have hnext : n / 128 ^ j / 128 = n / 128 ^ (j + 1) := by rw [Int.ediv_ediv_of_nonneg (Int.le_of_lt hp), ← Int.pow_succ]
      have HNX := Lib.hid hnext
      have hj5 : (j : Int) ≤ 5 := by omega
      by_cases hlt : j < L
      · have hpos : 0 < n / 128 ^ j := by
          rcases Nat.eq_zero_or_pos j with e | e
          · subst e
            rw [Int.pow_zero, Int.ediv_one]
            have : n ≠ 0 := by simpa using hn0
            omega
          · obtain ⟨k, rfl⟩ : ∃ k, j = k + 1 := ⟨j - 1, by omega⟩
            have := (hLe.out k (by omega)).1
            rcases Int.lt_or_eq_of_le g0 with h | h
            · exact h
            · have := this h.symm
              omega
        obtain ⟨q, hq⟩ : ∃ q, n / 128 ^ j = q := ⟨_, rfl⟩
        rw [hq] at g0 g1 hpos ⊢
        have HQ := Lib.hid hq
        clear hq hnext hj hp
        go_wp2_with fail
        go_round
        case rel => exact ⟨j + 1, by go_num, by rw [← HNX.out, HQ.out], by omega⟩
        case measure => simp [intOf]; omega
      · obtain rfl : j = L := by omega
        have hzero : n / 128 ^ j = 0 := by
          obtain ⟨k, rfl⟩ : ∃ k, j = k + 1 := ⟨j - 1, by omega⟩
          exact (hLe.out k (by omega)).2 (Nat.le_refl _)
        rw [hzero]
        clear hzero hnext hj hp hlt g0 g1
        go_wp2_with fail
        go_loopw [6] (fun i W' => ∃ (m : Nat) (r : Value), m ≤ j ∧ i = .int .i64 ((j : Int) - 1 - m) ∧ Bld W' b { v with res := r } ∧ Row W' base r (ys ++ digs n j m) ∧ Only (b :: own v.res) w W' ∧ (r.ownBlock = v.res.ownBlock ∨ ∀ k ∈ own r, w.heap.size ≤ k)) (fun i _ => (intOf i + 1).toNat)
        case atStart =>
          obtain ⟨h, he, hch, hf, hr, hb, hl⟩ := HB.out
          exact ⟨0, v.res, Nat.zero_le _, by simp, h, by rw [digs_zero hL.1, List.append_nil]; exact hr, Only.refl _ _, .inl rfl⟩
        case round =>
          obtain ⟨m, r, hm, rfl, hbm, hrm, hom, hwm⟩ := hrel
          obtain ⟨h, he, hch, hf, hr, hb, hl⟩ := HB.out
          by_cases hlt : m < j
          · obtain ⟨t, ht⟩ : ∃ t : Nat, j = m + 1 + t := ⟨j - m - 1, by omega⟩
            have hit : (j : Int) - 1 - m = (t : Int) := by omega
            rw [hit]
            have ht4 : (t : Int) ≤ 4 := by omega
            have HT := Lib.hid (And.intro ht hit)
            have HBM := Lib.hid (And.intro hom hwm)
            have hdl : (digs n j m).length ≤ 5 := by rw [digs_len m (by omega) HLL.out]; omega
            have HA := Lib.hid (fun L (hx : Byt L) (h1 : L.length ≤ 1) => Badd_lit b { v with res := r } (ys ++ digs n j m) L wr base hbm he hch hf hrm (by have := hom.size; omega) hx (by rw [List.length_append]; omega))
            obtain ⟨d, hd⟩ : ∃ d, n / 128 ^ t % 128 = d := ⟨_, rfl⟩
            have hd0 : 0 ≤ d ∧ d < 128 := by omega
            have hsh : bits .and .u8 (n / 2 ^ (t * 7) % 256) 127 = d := by
              rw [u8_and127 _ (by omega) (by omega), Nat.mul_comm, Int.pow_mul, ← hd]
              show n / 128 ^ t % 256 % 128 = _
              omega
            have hor : bits .or .u8 d 128 = 128 + d := u8_or128 d hd0.1 hd0.2
            have HD := Lib.hid (And.intro hd hd0)
            clear h he hch hf hr hb hl hbm hrm hom hwm hlt hm ht hit hdl hd hd0
            rcases Nat.eq_zero_or_pos t with ht0 | ht0
            · subst ht0
              clear hor
              have hsh0 : bits .and .u8 (n % 256) 127 = d := by
                have h := hsh
                rw [Nat.zero_mul, Int.pow_zero, Int.ediv_one] at h
                exact h
              go_wp2_with fail
              refine (HA.out [d] (by intro y hy; simp only [List.mem_singleton] at hy; have := HD.out.2; omega) (by simp)).mono ?_
              rintro e w2 ⟨r2, rfl, h1, h2, h3, h4⟩
              have H2 := Lib.hid (And.intro h1 (And.intro h2 (And.intro h3 h4)))
              clear h1 h2 h3 h4 HA
              go_wp2_with fail
              go_roundw
              case rel =>
                obtain ⟨h1, h2, h3, h4⟩ := H2.out
                obtain ⟨hom, hwm⟩ := HBM.out
                obtain ⟨ht, hit⟩ := HT.out
                refine ⟨m + 1, r2, by omega, congrArg _ (by omega), h1, ?_, hom.then h3 ?_, ?_⟩
                · rw [digs_last (by omega) HLL.out, show n % 128 = d by rw [← HD.out.1, Int.pow_zero, Int.ediv_one], ← List.append_assoc]
                  exact h2
                · intro k hk hlt
                  simp only [List.mem_cons] at hk ⊢
                  rcases hk with rfl | hk
                  · exact .inl rfl
                  · rcases hwm with hw | hw
                    · right
                      simp only [own] at hk ⊢
                      rw [← hw]
                      exact hk
                    · exact absurd (hw k hk) (by omega)
                · rcases h4 with h4 | h4
                  · rcases hwm with hw | hw
                    · exact .inl (h4.trans hw)
                    · refine .inr fun k hk => hw k ?_
                      simp only [own] at hk ⊢
                      rw [← h4]
                      exact hk
                  · exact .inr fun k hk => Nat.le_trans hom.size (h4 k hk)
              case measure => simp [intOf]
            · go_wp2_with fail
              refine (HA.out [128 + d] (by intro y hy; simp only [List.mem_singleton] at hy; have := HD.out.2; omega) (by simp)).mono ?_
              rintro e w2 ⟨r2, rfl, h1, h2, h3, h4⟩
              have H2 := Lib.hid (And.intro h1 (And.intro h2 (And.intro h3 h4)))
              clear h1 h2 h3 h4 HA
              go_wp2_with fail
              go_roundw
              case rel =>
                obtain ⟨h1, h2, h3, h4⟩ := H2.out
                obtain ⟨hom, hwm⟩ := HBM.out
                obtain ⟨ht, hit⟩ := HT.out
                refine ⟨m + 1, r2, by omega, congrArg _ (by omega), h1, ?_, hom.then h3 ?_, ?_⟩
                · rw [digs_step ht ht0, HD.out.1, ← List.append_assoc]
                  exact h2
                · intro k hk hlt
                  simp only [List.mem_cons] at hk ⊢
                  rcases hk with rfl | hk
                  · exact .inl rfl
                  · rcases hwm with hw | hw
                    · right
                      simp only [own] at hk ⊢
                      rw [← hw]
                      exact hk
                    · exact absurd (hw k hk) (by omega)
                · rcases h4 with h4 | h4
                  · rcases hwm with hw | hw
                    · exact .inl (h4.trans hw)
                    · refine .inr fun k hk => hw k ?_
                      simp only [own] at hk ⊢
                      rw [← h4]
                      exact hk
                  · exact .inr fun k hk => Nat.le_trans hom.size (h4 k hk)
              case measure => simp [intOf]
          · obtain rfl : m = j := by omega
            have hi : (m : Int) - 1 - (m : Int) = -1 := by omega
            rw [hi]
            rw [digs_all HLL.out] at hrm
            have HF := Lib.hid (And.intro hbm (And.intro hrm (And.intro hom hwm)))
            clear h he hch hf hr hb hl hbm hrm hom hwm hlt hm hi
            go_wp2_with fail
            go_end0
            exact ⟨r, rfl, HF.out.1, HF.out.2.1, HF.out.2.2.1, HF.out.2.2.2⟩
end Go.Proofs.Ytlnoeipbbncnfaa
