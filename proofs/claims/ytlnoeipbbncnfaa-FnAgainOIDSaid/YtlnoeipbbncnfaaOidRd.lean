/- Numbers in base 128 read out of an object identifier's contents: contracts. -/
import Derived.Test.YtlnoeipbbncnfaaOf
import Derived.Test.YtlnoeipbbncnfaaOid
import Derived.Test.YtlnoeipbbncnfaaInt
namespace Go.Proofs.Ytlnoeipbbncnfaa
open Go.RowKit

/-- One number read in base 128 (i of its bytes are read, they come to n): it and what stands behind it. -/
def rb : Nat → Int → List Int → Option (Int × List Int)
  | _, _, [] => none
  | i, n, b :: bs => if i = 5 ∨ 16777216 ≤ n ∨ (i = 0 ∧ b = 128) then none else if b < 128 then some (n * 128 + b % 128, bs) else rb (i + 1) (n * 128 + b % 128) bs
theorem ra_rb : ∀ (xs : List Int) (i : Nat) (n : Int), (0 < i ∨ xs ≠ []) → ra i n xs = (rb i n xs).bind fun p => (ra 0 0 p.2).map (p.1 :: ·)
  | [], i, n, h => by
    have hi : i ≠ 0 := by rcases h with h | h <;> simp_all <;> omega
    unfold ra rb
    rw [if_neg hi]
    rfl
  | b :: bs, i, n, _ => by
    conv => lhs; unfold ra
    conv => rhs; unfold rb
    split
    · rfl
    · split
      · rfl
      · exact ra_rb bs (i + 1) _ (.inl (by omega))
theorem rb_cons {i : Nat} {n b : Int} {bs : List Int} (h : ¬ (i = 5 ∨ 16777216 ≤ n ∨ (i = 0 ∧ b = 128))) : rb i n (b :: bs) = if b < 128 then some (n * 128 + b % 128, bs) else rb (i + 1) (n * 128 + b % 128) bs := by
  conv => lhs; unfold rb
  rw [if_neg h]
theorem rb_bad {i : Nat} {n b : Int} {bs : List Int} (h : i = 5 ∨ 16777216 ≤ n ∨ (i = 0 ∧ b = 128)) : rb i n (b :: bs) = none := by
  unfold rb
  rw [if_pos h]
theorem rb_le : ∀ (xs : List Int) (i : Nat) (n v : Int) (ys : List Int), rb i n xs = some (v, ys) → 0 ≤ n → 0 ≤ v ∧ v ≤ 2147483647 ∧ ys.length < xs.length ∧ (Byt xs → Byt ys)
  | [], _, _, _, _, h, _ => by unfold rb at h; cases h
  | b :: bs, i, n, v, ys, h, h0 => by
    unfold rb at h
    split at h
    · cases h
    · split at h
      · simp only [Option.some.injEq, Prod.mk.injEq] at h
        obtain ⟨rfl, rfl⟩ := h
        exact ⟨by omega, by omega, by simp, fun hb x hx => hb x (by simp [hx])⟩
      · obtain ⟨h1, h2, h3, h4⟩ := rb_le bs (i + 1) _ v ys h (by omega)
        exact ⟨h1, h2, by simp; omega, fun hb => h4 (fun x hx => hb x (by simp [hx]))⟩
theorem i64_or7 (n b : Int) (h0 : 0 ≤ n) (h1 : n < 16777216) (hb0 : 0 ≤ b) (hb1 : b < 128) : bits .or .i64 (n * 128) b = n * 128 + b := by
  obtain ⟨n, rfl⟩ := Int.eq_ofNat_of_zero_le h0
  obtain ⟨b, rfl⟩ := Int.eq_ofNat_of_zero_le hb0
  show IntKind.i64.wrap ((BitVec.ofInt 64 ((n : Int) * 128) ||| BitVec.ofInt 64 (b : Int)).toNat : Int) = _
  have e1 : (BitVec.ofInt 64 ((n : Int) * 128)).toNat = n * 128 := ofInt_u64 (n * 128) (by omega)
  have e2 : (BitVec.ofInt 64 (b : Int)).toNat = b := ofInt_u64 b (by omega)
  rw [BitVec.toNat_or, e1, e2, nat_join 7 (n * 128) b (by omega) (by omega)]
  exact IntWalk.i64_in _ (by omega)
theorem rd_and127_all : ∀ k : Nat, k < 256 → bits .and .u8 (k : Int) 127 = (k : Int) % 128 := by decide +kernel
theorem rd_and127 (x : Int) (h0 : 0 ≤ x) (h1 : x ≤ 255) : bits .and .u8 x 127 = x % 128 := by
  obtain ⟨k, rfl⟩ := Int.eq_ofNat_of_zero_le h0
  exact rd_and127_all k (by omega)

/-- What reading a number in base 128 leaves. -/
def RbSaid (w : World) (B b bo : Nat) (R : Option (Int × List Int)) (e : Ending) (w' : World) : Prop :=
  Only [b, bo] w w' ∧ (match R with
    | some (v, ys) => e = .returned (.bool true) ∧ Sl w' B b 39 ys ∧ Var w' bo 3 (.int .i64 v)
    | none => e = .returned (.bool false))
theorem RbSaid.no {w : World} {B b bo : Nat} {R : Option (Int × List Int)} {w' : World} (h : Only [b] w w') (hR : R = none) : RbSaid w B b bo R (.returned (.bool false)) w' := by
  subst hR
  exact ⟨h.more (by simp), rfl⟩
theorem readB128_any (b bo : Nat) (xs : List Int) (v0 : Int) (w : World) (B : Nat) (h : Sl w B b 39 xs) (ho : Var w bo 3 (.int .i64 v0)) (hbo : bo ≠ b) (hB : B ≤ bo) :
    Calls Try.prog 28 #[.pointer (some ⟨b, 0, none⟩), .pointer (some ⟨bo, 0, none⟩)] w (RbSaid w B b bo (rb 0 0 xs)) := by
  have HH := Lib.hid h
  have HO := Lib.hid ho
  have HE := Lib.hid (And.intro hbo hB)
  clear h ho hbo hB
  go_enter Try.func28, Try.ntmps28
  go_wp2_with fail
  go_loopw [5, 6] (fun r i W' => ∃ (j : Nat) (nj : Int) (ys : List Int), r = .int .i64 nj ∧ i = .int .i64 (j : Int) ∧ j ≤ 5 ∧ 0 ≤ nj ∧ nj ≤ 2147483647 ∧ Sl W' B b 39 ys ∧ Var W' bo 3 (.int .i64 v0) ∧ rb 0 0 xs = rb j nj ys ∧ Only [b] w W') (fun _ i _ => 5 - (intOf i).toNat)
  case atStart => exact ⟨0, 0, xs, by simp, by simp, by omega, by omega, by omega, HH.out, HO.out, rfl, Only.refl _ _⟩
  case round =>
    obtain ⟨j, nj, ys, rfl, rfl, hj, n0, n1, hs, hvo, hrb, hk⟩ := hrel
    have HRB := Lib.hid hrb
    have K := Lib.hid hk
    obtain ⟨hBb, A, c, hv, hc, hm, hr⟩ := hs
    have hs2 : Sl wr B b 39 ys := ⟨hBb, A, c, hv, hc, hm, hr⟩
    have hcell := hv.cell
    rcases ys with _ | ⟨y, ys⟩
    · have hcell0 : wr.cell? ⟨b, 0, none⟩ = some (.slice A 0 c) := hcell
      clear hv hr hs2 hvo hrb hk hcell
      go_wp2_with fail
      go_ret
      exact RbSaid.no K.out (by rw [HRB.out]; rfl)
    · have hy := hs2.byt y (by simp)
      obtain ⟨y0, y1⟩ := hy
      have hpos : (0 : Int) < ((ys.length : Int) + 1) := by omega
      have hcell1 : wr.cell? ⟨b, 0, none⟩ = some (.slice A (ys.length + 1) c) := by simpa using hcell
      by_cases hbad1 : j = 5 ∨ 16777216 ≤ nj
      · have HBD : Hid (rb j nj (y :: ys) = none) := Lib.hid (rb_bad (by omega))
        clear hv hr hs2 hvo hrb hk hcell
        by_cases hj5 : j = 5
        · subst hj5
          go_wp2_with fail
          go_ret
          exact RbSaid.no K.out (HRB.out.trans HBD.out)
        · have hj5' : (((j : Int)) == 5) = false := by simp; omega
          have hn : 16777216 ≤ nj := by omega
          go_wp2_with fail
          go_ret
          exact RbSaid.no K.out (HRB.out.trans HBD.out)
      · have hj5 : (((j : Int)) == 5) = false := by simp; omega
        have hn : nj < 16777216 := by omega
        have H := Lib.hid (read_sl b 1 (y :: ys) wr B hs2 (by omega) (by simp; omega))
        have HVO := Lib.hid hvo
        clear hv hr hs2 hvo hk hcell
        go_wp2_with fail
        refine H.out.mono ?_
        rintro e w2 ⟨A1, c1, rfl, hc1, hm1, _, hr1, hs1, hk1⟩
        obtain ⟨ab, aoff, rfl, hab, hcells⟩ := Rd.cells hr1 (by simp) (by decide)
        have hcy := hcells 0 (by decide)
        rw [Nat.add_zero, show (y :: ys).getD 0 0 = y from rfl] at hcy
        have hs1' : Sl w2 B b 39 ys := by simpa using hs1
        have HS1 := Lib.hid hs1'
        have HVO1 := Lib.hid (HVO.out.only hk1 (by simpa using HE.out.1))
        have K1 := Lib.hid (K.out.trans hk1)
        clear hcells hr1 hs1 hs1' hk1 H hab hc1 hm1
        by_cases hb2 : j = 0 ∧ y = 128
        · obtain ⟨rfl, rfl⟩ := hb2
          have HBD : Hid (rb 0 nj (128 :: ys) = none) := Lib.hid (rb_bad (.inr (.inr ⟨rfl, rfl⟩)))
          go_wp2_with fail
          go_ret
          exact RbSaid.no K1.out (HRB.out.trans HBD.out)
        · have hstep := rb_cons (i := j) (n := nj) (b := y) (bs := ys) (by omega)
          have HST := Lib.hid (HRB.out.trans hstep)
          have hand := rd_and127 y y0 y1
          have hand2 := u8_and128 y y0 y1
          have hsum := i64_or7 nj (y % 128) n0 hn (by omega) (by omega)
          have hwr : IntKind.i64.wrap (nj * 128) = nj * 128 := IntWalk.i64_in _ (by omega)
          obtain ⟨m, hm1⟩ : ∃ m, nj * 128 + y % 128 = m := ⟨_, rfl⟩
          have hm0 : 0 ≤ m ∧ m ≤ 2147483647 := by omega
          rw [hm1] at hsum
          have HM1 := Lib.hid hm1
          obtain ⟨z, hz⟩ : ∃ z, y % 128 = z := ⟨_, rfl⟩
          have hz0 : 0 ≤ z ∧ z < 128 := by omega
          rw [hz] at hsum hand
          obtain ⟨z0, z1⟩ := hz0
          have hj4 : (j : Int) ≤ 4 := by omega
          clear hrb hstep hm1 hz hbad1
          by_cases hlt : y < 128
          · rw [if_pos hlt] at hand2
            have hfo := HVO1.out.free
            have hco := HVO1.out.cell
            have HFIN : Hid (RbSaid w B b bo (rb 0 0 xs) (.returned (.bool true)) (w2.setCell ⟨bo, 0, none⟩ (.int .i64 m))) := Lib.hid (by
              rw [HST.out, if_pos hlt, HM1.out]
              exact ⟨(K1.out.more (by simp)).setCell (.inl (by simp)) _, rfl, HS1.out.far (fun e => HE.out.1 e.symm) HE.out.2 _, HVO1.out.set _⟩)
            by_cases hj0 : j = 0
            · subst hj0
              have hy8 : (y == 128) = false := by simp; omega
              clear hlt
              go_wp2_with fail
              go_ret
              exact HFIN.out
            · have hj0' : ((j : Int) == 0) = false := by simp; omega
              clear hlt hj0
              go_wp2_with fail
              go_ret
              exact HFIN.out
          · rw [if_neg hlt] at hand2
            have HFIN : Hid (rb 0 0 xs = rb (j + 1) m ys) := Lib.hid (by rw [HST.out, if_neg hlt, HM1.out])
            have HM0 := Lib.hid hm0
            clear hm0
            by_cases hj0 : j = 0
            · subst hj0
              have hy8 : (y == 128) = false := by simp; omega
              clear hlt
              go_wp2_with fail
              go_roundw
              case rel => exact ⟨1, m, ys, rfl, by simp, by omega, HM0.out.1, HM0.out.2, HS1.out, HVO1.out, HFIN.out, K1.out⟩
              case measure => simp [intOf]
            · have hj0' : ((j : Int) == 0) = false := by simp; omega
              clear hlt hj0
              go_wp2_with fail
              go_roundw
              case rel => exact ⟨j + 1, m, ys, rfl, by go_num, by omega, HM0.out.1, HM0.out.2, HS1.out, HVO1.out, HFIN.out, K1.out⟩
              case measure => simp [intOf]; omega
end Go.Proofs.Ytlnoeipbbncnfaa
